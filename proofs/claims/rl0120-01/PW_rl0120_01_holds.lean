import PyProof.Rows.All
import Wide.All
import OpenK.AllK
import Wide.FinOn
import Lean
import PySem.Challenge.RW_rl0120_01
set_option Elab.async false
set_option linter.all false
local macro_rules | `(tactic| walk_at $s:str) => `(tactic| k_extra $s)
section
open PySem PySem.W PyProof.Rows
set_option maxRecDepth 100000
namespace Mine
noncomputable def dictO (es : List DictEntry) : Obj := ⟨.type "dict", none, .dict es.toArray es.length, #[]⟩
noncomputable abbrev KV := Int × Str
noncomputable def entsL (l : List KV) (tk : Nat) : List DictEntry := l.mapIdx fun i e => ⟨e.1, .int e.1 (tk + 3 * i), .str e.2 (tk + 3 * i + 1)⟩
noncomputable def pairsS : List KV → Nat → List (Value × Value)
  | [], _ => []
  | e :: l, tk => (.int e.1 tk, .str e.2 (tk + 1)) :: pairsS l (tk + 2)
noncomputable def entsS : List KV → Nat → List DictEntry
  | [], _ => []
  | e :: l, tk => ⟨e.1, .int e.1 tk, .str e.2 (tk + 1)⟩ :: entsS l (tk + 2)
noncomputable def ents (l : List KV) (tk : Nat) : List DictEntry := if 15 < l.length then entsL l tk else entsS l tk
noncomputable def dispM : List (List KV) → Nat → List DictEntry
  | [], _ => []
  | c :: cs, tk => ents c tk ++ dispM cs (tk + 3 * c.length)
noncomputable def dispS : List (List KV) → Nat → List Obj
  | [], _ => []
  | c :: cs, tk => dictO (ents c tk) :: dispS cs (tk + 3 * c.length)
noncomputable def dispB : List (List KV) → Nat
  | [] => 0
  | c :: cs => 14 + 21 * c.length + dispB cs
noncomputable def dispT : List (List KV) → Nat
  | [] => 0
  | c :: cs => 3 * c.length + dispT cs
theorem entsL_length (l : List KV) (tk : Nat) : (entsL l tk).length = l.length := by
  unfold entsL
  rw [List.length_mapIdx]
theorem entsS_length : ∀ (l : List KV) (tk : Nat), (entsS l tk).length = l.length
  | [], _ => rfl
  | _ :: l, tk => congrArg (· + 1) (entsS_length l (tk + 2))
theorem entsS_get : ∀ (l : List KV) (tk i : Nat), (entsS l tk)[i]? = l[i]?.map fun e => ⟨e.1, .int e.1 (tk + 2 * i), .str e.2 (tk + 2 * i + 1)⟩
  | [], _, _ => by simp [entsS]
  | e :: l, tk, 0 => by simp [entsS]
  | e :: l, tk, i + 1 => by
    simp only [entsS, List.getElem?_cons_succ]
    rw [entsS_get l (tk + 2) i, show tk + 2 + 2 * i = tk + 2 * (i + 1) by omega]
theorem ents_length (l : List KV) (tk : Nat) : (ents l tk).length = l.length := by
  unfold ents; split
  · exact entsL_length l tk
  · exact entsS_length l tk
theorem ents_get (l : List KV) (tk i : Nat) : ∃ a b : Nat, (ents l tk)[i]? = l[i]?.map fun e => ⟨e.1, .int e.1 a, .str e.2 b⟩ := by
  unfold ents; split
  · exact ⟨_, _, by unfold entsL; rw [List.getElem?_mapIdx]⟩
  · exact ⟨_, _, entsS_get l tk i⟩
end Mine
end
section
open PySem PySem.W PyProof.Rows
set_option maxRecDepth 100000
set_option linter.unusedVariables false
namespace Mine
abbrev pw : Program := PySem.Challenge.pw_rl0120_01
noncomputable def bodyT : List Stmt := behindTheImports pw
noncomputable def stOf (i : Nat) : Stmt := (bodyT[i]?).getD (.Pass ⟨0, 0, 0, 0⟩)
noncomputable def noArgs : Arguments := { posonlyargs := [], args := [], vararg := none, kwonlyargs := [], kw_defaults := [], kwarg := none, defaults := [] }
noncomputable def noScope : Scope := { kind := .function, names := [], isGenerator := false, isCoroutine := false }
noncomputable def fArgs : Stmt → Arguments
  | .FunctionDef (args := a) .. => a
  | _ => noArgs
noncomputable def fBody : Stmt → List Stmt
  | .FunctionDef (body := b) .. => b
  | _ => []
noncomputable def fScope : Stmt → Scope
  | .FunctionDef (scope := s) .. => s
  | _ => noScope
noncomputable def kvOf : List (Option Expr) → List Expr → Option (List KV)
  | [], [] => some []
  | some (.Constant (.int k) _ _) :: ks, .Constant (.str x) _ _ :: vs => (kvOf ks vs).map fun l => (k, x) :: l
  | _, _ => none
noncomputable def kvParts : List (Option Expr) × List Expr := match stOf 10 with
  | .Assign _ (.Dict ks vs _) _ => (ks, vs)
  | _ => ([], [])
noncomputable def kvL : List KV := (kvOf kvParts.1 kvParts.2).getD []
noncomputable def ch0 : List KV := kvL.take 17
noncomputable def chs : List (List KV) := (List.range 37).map fun i => (kvL.drop (17 * (i + 1))).take 17
noncomputable def chl : List KV := kvL.drop 646
noncomputable def tailD : List Obj := dictO (dispM (ch0 :: (chs ++ [chl])) 325) :: dispS (chs ++ [chl]) 376
theorem kv_small : (kvL.all fun x => decide (0 ≤ x.1) && decide (x.1 < 1000000)) = true := by kernel_rfl
theorem kv_chunks : ch0 ++ (chs.flatten ++ chl) = kvL := by kernel_rfl
noncomputable def x11_A (P : Params) : Obj := ⟨.type "tuple", none, (.seq [].toArray 0), [].toArray⟩
noncomputable def x12_A (P : Params) : Obj := ⟨.none, none, (.fields [].toArray), [].toArray⟩
noncomputable def x13_A (P : Params) : Obj := ⟨.type "code", none, (.fields [.str (Str.ofString "<module>") 182, .str (Str.ofString "<module>") 183, .str (Str.ofString "/claim/cut.py") 184, .int (1) 0, .int (0) 0, .int (0) 0, .int (0) 0, .int (0) 0, .ref 11, .bool false, .int (181) 0, .ref 12, .none, .none, .none, .none, .int (185) 0, .int (1) 0, .str (Str.ofString "/claim/cut.py") 186].toArray), [].toArray⟩
noncomputable def x14_A (P : Params) : Obj := ⟨.type "frame", none, .plain, [some (.ref 13), some (.ref 3), some (.ref 3), none, some (.str (Str.ofString "__main__") 164), none, some (.ref 0)].toArray⟩
noncomputable def l_A (P : Params) : List Obj := [boot_o_0 P, boot_o_1 P, boot_o_2 P, boot_o_3 P, boot_o_4 P, boot_o_5 P, boot_o_6 P, boot_o_7 P, boot_o_8 P, boot_o_9 P, boot_o_10 P, x11_A P, x12_A P, x13_A P, x14_A P]
noncomputable def x3_7 (P : Params) : Obj := ⟨.type "dict", none, (.dict [⟨PyData.keyHash P (Str.ofString "__name__"), .str (Str.ofString "__name__") 165, .str (Str.ofString "cpy313.stringprep") 256⟩, ⟨PyData.keyHash P (Str.ofString "__doc__"), .str (Str.ofString "__doc__") 166, .none⟩, ⟨PyData.keyHash P (Str.ofString "__package__"), .str (Str.ofString "__package__") 167, .none⟩, ⟨PyData.keyHash P (Str.ofString "__loader__"), .str (Str.ofString "__loader__") 168, .builtin "__main__.__loader__#opaque"⟩, ⟨PyData.keyHash P (Str.ofString "__spec__"), .str (Str.ofString "__spec__") 169, .none⟩, ⟨PyData.keyHash P (Str.ofString "__annotations__"), .str (Str.ofString "__annotations__") 170, .ref 6⟩, ⟨PyData.keyHash P (Str.ofString "__builtins__"), .str (Str.ofString "__builtins__") 171, .ref 4⟩, ⟨PyData.keyHash P (Str.ofString "__file__"), .str (Str.ofString "__file__") 173, .str (Str.ofString "/claim/cut.py") 172⟩, ⟨PyData.keyHash P (Str.ofString "__cached__"), .str (Str.ofString "__cached__") 174, .none⟩, ⟨PyData.keyHash P (Str.ofString "ELLIPSIS_MARKER"), .str (Str.ofString "ELLIPSIS_MARKER") 190, .str (Str.ofString "...") 189⟩, ⟨PyData.keyHash P (Str.ofString "_ellipsis_match"), .str (Str.ofString "_ellipsis_match") 202, .ref 21⟩, ⟨PyData.keyHash P (Str.ofString "rgb_to_hls"), .str (Str.ofString "rgb_to_hls") 223, .ref 28⟩, ⟨PyData.keyHash P (Str.ofString "rgb_to_hsv"), .str (Str.ofString "rgb_to_hsv") 241, .ref 35⟩, ⟨PyData.keyHash P (Str.ofString "hsv_to_rgb"), .str (Str.ofString "hsv_to_rgb") 255, .ref 42⟩].toArray 14), [].toArray⟩
noncomputable def x12_7 (P : Params) : Obj := ⟨.none, none, (.fields [.int (3) 0, .int (0) 0, .ref 20, .int (32) 0, .int (0) 0, .ref 27, .int (55) 0, .int (0) 0, .ref 34, .int (74) 0, .int (0) 0, .ref 41].toArray), [].toArray⟩
noncomputable def x15_7 (P : Params) : Obj := ⟨.type "tuple", none, (.seq [].toArray 0), [].toArray⟩
noncomputable def x16_7 (P : Params) : Obj := ⟨.none, none, (.fields [].toArray), [].toArray⟩
noncomputable def x17_7 (P : Params) : Obj := ⟨.type "tuple", none, (.seq [.str (Str.ofString "want") 194, .str (Str.ofString "got") 195, .str (Str.ofString "ws") 196, .str (Str.ofString "startpos") 197, .str (Str.ofString "endpos") 198, .str (Str.ofString "w") 199].toArray 0), [].toArray⟩
noncomputable def x18_7 (P : Params) : Obj := ⟨.type "tuple", none, (.seq [].toArray 0), [].toArray⟩
noncomputable def x19_7 (P : Params) : Obj := ⟨.none, none, (.func ⟨(Str.ofString "_ellipsis_match"), (Str.ofString "_ellipsis_match"), fArgs (stOf 2), .stmts (fBody (stOf 2)), fScope (stOf 2), 0, [], .none, .none, .none, .none, none, .none, .none, 0⟩), [].toArray⟩
noncomputable def x20_7 (P : Params) : Obj := ⟨.type "code", none, (.fields [.str (Str.ofString "_ellipsis_match") 191, .str (Str.ofString "_ellipsis_match") 192, .str (Str.ofString "/claim/cut.py") 193, .int (3) 0, .int (2) 0, .int (0) 0, .int (0) 0, .int (3) 0, .ref 15, .bool true, .int (181) 0, .ref 16, .none, .ref 17, .ref 18, .ref 19, .int (200) 0, .int (3) 0, .str (Str.ofString "/claim/cut.py") 201].toArray), [].toArray⟩
noncomputable def x21_7 (P : Params) : Obj := ⟨.type "function", none, (.func ⟨(Str.ofString "_ellipsis_match"), (Str.ofString "_ellipsis_match"), fArgs (stOf 2), .stmts (fBody (stOf 2)), fScope (stOf 2), 3, [], .none, .none, .none, .str (Str.ofString "cpy313.doctest") 187, none, .ref 20, .none, 0⟩), [].toArray⟩
noncomputable def x22_7 (P : Params) : Obj := ⟨.type "tuple", none, (.seq [].toArray 0), [].toArray⟩
noncomputable def x23_7 (P : Params) : Obj := ⟨.none, none, (.fields [].toArray), [].toArray⟩
noncomputable def x24_7 (P : Params) : Obj := ⟨.type "tuple", none, (.seq [.str (Str.ofString "r") 208, .str (Str.ofString "g") 209, .str (Str.ofString "b") 210, .str (Str.ofString "maxc") 211, .str (Str.ofString "minc") 212, .str (Str.ofString "sumc") 213, .str (Str.ofString "rangec") 214, .str (Str.ofString "l") 215, .str (Str.ofString "s") 216, .str (Str.ofString "rc") 217, .str (Str.ofString "gc") 218, .str (Str.ofString "bc") 219, .str (Str.ofString "h") 220].toArray 0), [].toArray⟩
noncomputable def x25_7 (P : Params) : Obj := ⟨.type "tuple", none, (.seq [].toArray 0), [].toArray⟩
noncomputable def x26_7 (P : Params) : Obj := ⟨.none, none, (.func ⟨(Str.ofString "rgb_to_hls"), (Str.ofString "rgb_to_hls"), fArgs (stOf 4), .stmts (fBody (stOf 4)), fScope (stOf 4), 0, [], .none, .none, .none, .none, none, .none, .none, 0⟩), [].toArray⟩
noncomputable def x27_7 (P : Params) : Obj := ⟨.type "code", none, (.fields [.str (Str.ofString "rgb_to_hls") 205, .str (Str.ofString "rgb_to_hls") 206, .str (Str.ofString "/claim/cut.py") 207, .int (32) 0, .int (3) 0, .int (0) 0, .int (0) 0, .int (3) 0, .ref 22, .bool true, .int (181) 0, .ref 23, .none, .ref 24, .ref 25, .ref 26, .int (221) 0, .int (32) 0, .str (Str.ofString "/claim/cut.py") 222].toArray), [].toArray⟩
noncomputable def x28_7 (P : Params) : Obj := ⟨.type "function", none, (.func ⟨(Str.ofString "rgb_to_hls"), (Str.ofString "rgb_to_hls"), fArgs (stOf 4), .stmts (fBody (stOf 4)), fScope (stOf 4), 3, [], .none, .none, .none, .str (Str.ofString "cpy313.colorsys") 203, none, .ref 27, .none, 0⟩), [].toArray⟩
noncomputable def x29_7 (P : Params) : Obj := ⟨.type "tuple", none, (.seq [].toArray 0), [].toArray⟩
noncomputable def x30_7 (P : Params) : Obj := ⟨.none, none, (.fields [].toArray), [].toArray⟩
noncomputable def x31_7 (P : Params) : Obj := ⟨.type "tuple", none, (.seq [.str (Str.ofString "r") 227, .str (Str.ofString "g") 228, .str (Str.ofString "b") 229, .str (Str.ofString "maxc") 230, .str (Str.ofString "minc") 231, .str (Str.ofString "rangec") 232, .str (Str.ofString "v") 233, .str (Str.ofString "s") 234, .str (Str.ofString "rc") 235, .str (Str.ofString "gc") 236, .str (Str.ofString "bc") 237, .str (Str.ofString "h") 238].toArray 0), [].toArray⟩
noncomputable def x32_7 (P : Params) : Obj := ⟨.type "tuple", none, (.seq [].toArray 0), [].toArray⟩
noncomputable def x33_7 (P : Params) : Obj := ⟨.none, none, (.func ⟨(Str.ofString "rgb_to_hsv"), (Str.ofString "rgb_to_hsv"), fArgs (stOf 5), .stmts (fBody (stOf 5)), fScope (stOf 5), 0, [], .none, .none, .none, .none, none, .none, .none, 0⟩), [].toArray⟩
noncomputable def x34_7 (P : Params) : Obj := ⟨.type "code", none, (.fields [.str (Str.ofString "rgb_to_hsv") 224, .str (Str.ofString "rgb_to_hsv") 225, .str (Str.ofString "/claim/cut.py") 226, .int (55) 0, .int (3) 0, .int (0) 0, .int (0) 0, .int (3) 0, .ref 29, .bool true, .int (181) 0, .ref 30, .none, .ref 31, .ref 32, .ref 33, .int (239) 0, .int (55) 0, .str (Str.ofString "/claim/cut.py") 240].toArray), [].toArray⟩
noncomputable def x35_7 (P : Params) : Obj := ⟨.type "function", none, (.func ⟨(Str.ofString "rgb_to_hsv"), (Str.ofString "rgb_to_hsv"), fArgs (stOf 5), .stmts (fBody (stOf 5)), fScope (stOf 5), 3, [], .none, .none, .none, .str (Str.ofString "cpy313.colorsys") 203, none, .ref 34, .none, 0⟩), [].toArray⟩
noncomputable def x36_7 (P : Params) : Obj := ⟨.type "tuple", none, (.seq [].toArray 0), [].toArray⟩
noncomputable def x37_7 (P : Params) : Obj := ⟨.none, none, (.fields [].toArray), [].toArray⟩
noncomputable def x38_7 (P : Params) : Obj := ⟨.type "tuple", none, (.seq [.str (Str.ofString "h") 245, .str (Str.ofString "s") 246, .str (Str.ofString "v") 247, .str (Str.ofString "i") 248, .str (Str.ofString "f") 249, .str (Str.ofString "p") 250, .str (Str.ofString "q") 251, .str (Str.ofString "t") 252].toArray 0), [].toArray⟩
noncomputable def x39_7 (P : Params) : Obj := ⟨.type "tuple", none, (.seq [].toArray 0), [].toArray⟩
noncomputable def x40_7 (P : Params) : Obj := ⟨.none, none, (.func ⟨(Str.ofString "hsv_to_rgb"), (Str.ofString "hsv_to_rgb"), fArgs (stOf 6), .stmts (fBody (stOf 6)), fScope (stOf 6), 0, [], .none, .none, .none, .none, none, .none, .none, 0⟩), [].toArray⟩
noncomputable def x41_7 (P : Params) : Obj := ⟨.type "code", none, (.fields [.str (Str.ofString "hsv_to_rgb") 242, .str (Str.ofString "hsv_to_rgb") 243, .str (Str.ofString "/claim/cut.py") 244, .int (74) 0, .int (3) 0, .int (0) 0, .int (0) 0, .int (3) 0, .ref 36, .bool true, .int (181) 0, .ref 37, .none, .ref 38, .ref 39, .ref 40, .int (253) 0, .int (74) 0, .str (Str.ofString "/claim/cut.py") 254].toArray), [].toArray⟩
noncomputable def x42_7 (P : Params) : Obj := ⟨.type "function", none, (.func ⟨(Str.ofString "hsv_to_rgb"), (Str.ofString "hsv_to_rgb"), fArgs (stOf 6), .stmts (fBody (stOf 6)), fScope (stOf 6), 3, [], .none, .none, .none, .str (Str.ofString "cpy313.colorsys") 203, none, .ref 41, .none, 0⟩), [].toArray⟩
noncomputable def l_7 (P : Params) : List Obj := [boot_o_0 P, boot_o_1 P, boot_o_2 P, x3_7 P, boot_o_4 P, boot_o_5 P, boot_o_6 P, boot_o_7 P, boot_o_8 P, boot_o_9 P, boot_o_10 P, x11_A P, x12_7 P, x13_A P, x14_A P, x15_7 P, x16_7 P, x17_7 P, x18_7 P, x19_7 P, x20_7 P, x21_7 P, x22_7 P, x23_7 P, x24_7 P, x25_7 P, x26_7 P, x27_7 P, x28_7 P, x29_7 P, x30_7 P, x31_7 P, x32_7 P, x33_7 P, x34_7 P, x35_7 P, x36_7 P, x37_7 P, x38_7 P, x39_7 P, x40_7 P, x41_7 P, x42_7 P]
noncomputable def x3_8 (P : Params) : Obj := ⟨.type "dict", none, (.dict [⟨PyData.keyHash P (Str.ofString "__name__"), .str (Str.ofString "__name__") 165, .str (Str.ofString "cpy313.stringprep") 256⟩, ⟨PyData.keyHash P (Str.ofString "__doc__"), .str (Str.ofString "__doc__") 166, .none⟩, ⟨PyData.keyHash P (Str.ofString "__package__"), .str (Str.ofString "__package__") 167, .none⟩, ⟨PyData.keyHash P (Str.ofString "__loader__"), .str (Str.ofString "__loader__") 168, .builtin "__main__.__loader__#opaque"⟩, ⟨PyData.keyHash P (Str.ofString "__spec__"), .str (Str.ofString "__spec__") 169, .none⟩, ⟨PyData.keyHash P (Str.ofString "__annotations__"), .str (Str.ofString "__annotations__") 170, .ref 6⟩, ⟨PyData.keyHash P (Str.ofString "__builtins__"), .str (Str.ofString "__builtins__") 171, .ref 4⟩, ⟨PyData.keyHash P (Str.ofString "__file__"), .str (Str.ofString "__file__") 173, .str (Str.ofString "/claim/cut.py") 172⟩, ⟨PyData.keyHash P (Str.ofString "__cached__"), .str (Str.ofString "__cached__") 174, .none⟩, ⟨PyData.keyHash P (Str.ofString "ELLIPSIS_MARKER"), .str (Str.ofString "ELLIPSIS_MARKER") 190, .str (Str.ofString "...") 189⟩, ⟨PyData.keyHash P (Str.ofString "_ellipsis_match"), .str (Str.ofString "_ellipsis_match") 202, .ref 21⟩, ⟨PyData.keyHash P (Str.ofString "rgb_to_hls"), .str (Str.ofString "rgb_to_hls") 223, .ref 28⟩, ⟨PyData.keyHash P (Str.ofString "rgb_to_hsv"), .str (Str.ofString "rgb_to_hsv") 241, .ref 35⟩, ⟨PyData.keyHash P (Str.ofString "hsv_to_rgb"), .str (Str.ofString "hsv_to_rgb") 255, .ref 42⟩, ⟨PyData.keyHash P (Str.ofString "b1_set"), .str (Str.ofString "b1_set") 317, .ref 50⟩].toArray 15), [].toArray⟩
noncomputable def x43_8 (P : Params) : Obj := ⟨.type "list", none, (.seq [.int (173) 258, .int (847) 259, .int (6150) 260, .int (6155) 261, .int (6156) 262, .int (6157) 263, .int (8203) 264, .int (8204) 265, .int (8205) 266, .int (8288) 267, .int (65279) 268].toArray 0), [].toArray⟩
noncomputable def x44_8 (P : Params) : Obj := ⟨.type "range", none, (.fields [.int (65024) 269, .int (65040) 270, .int (1) 271].toArray), [].toArray⟩
noncomputable def x45_8 (P : Params) : Obj := ⟨.type "list", none, (.seq [.int (65024) 274, .int (65025) 275, .int (65026) 276, .int (65027) 277, .int (65028) 278, .int (65029) 279, .int (65030) 280, .int (65031) 281, .int (65032) 282, .int (65033) 283, .int (65034) 284, .int (65035) 285, .int (65036) 286, .int (65037) 287, .int (65038) 288, .int (65039) 289].toArray 18), [].toArray⟩
noncomputable def x46_8 (P : Params) : Obj := ⟨.type "range_iterator", none, (.fields [.int (65040) 0, .int (0) 0, .int (1) 0].toArray), [].toArray⟩
noncomputable def x47_8 (P : Params) : Obj := ⟨.type "tuple", none, (.seq [].toArray 0), [].toArray⟩
noncomputable def x48_8 (P : Params) : Obj := ⟨.type "StopIteration", none, (.fields [.ref 47, .none, .none, .none, .bool false, .none].toArray), [].toArray⟩
noncomputable def x49_8 (P : Params) : Obj := ⟨.type "list", none, (.seq [.int (173) 258, .int (847) 259, .int (6150) 260, .int (6155) 261, .int (6156) 262, .int (6157) 263, .int (8203) 264, .int (8204) 265, .int (8205) 266, .int (8288) 267, .int (65279) 268, .int (65024) 274, .int (65025) 275, .int (65026) 276, .int (65027) 277, .int (65028) 278, .int (65029) 279, .int (65030) 280, .int (65031) 281, .int (65032) 282, .int (65033) 283, .int (65034) 284, .int (65035) 285, .int (65036) 286, .int (65037) 287, .int (65038) 288, .int (65039) 289].toArray 0), [].toArray⟩
noncomputable def x50_8 (P : Params) : Obj := ⟨.type "set", none, (.set [(65024, .int (65024) 274), (65025, .int (65025) 275), (65026, .int (65026) 276), (65027, .int (65027) 277), (65028, .int (65028) 278), (65029, .int (65029) 279), (6150, .int (6150) 260), (65030, .int (65030) 280), (65031, .int (65031) 281), (65032, .int (65032) 282), (65033, .int (65033) 283), (6155, .int (6155) 261), (6156, .int (6156) 262), (6157, .int (6157) 263), (8203, .int (8203) 264), (8204, .int (8204) 265), (8205, .int (8205) 266), (65034, .int (65034) 284), (65035, .int (65035) 285), (65036, .int (65036) 286), (65037, .int (65037) 287), (65038, .int (65038) 288), (65039, .int (65039) 289), (173, .int (173) 258), (847, .int (847) 259), (8288, .int (8288) 267), (65279, .int (65279) 268)].toArray 29 ⟨127, [0, 1, 2, 3, 4, 5, 6, 7, 8, 9, 10, 11, 12, 13, 14, 15, 16, 17, 18, 19, 20, 21, 22, 45, 79, 96, 127].toArray, [].toArray, 0, !P.followText "set-order", 2, true⟩), [].toArray⟩
noncomputable def x51_8 (P : Params) : Obj := ⟨.type "list_iterator", none, (.fields [.none, .int (27) 0].toArray), [].toArray⟩
noncomputable def x52_8 (P : Params) : Obj := ⟨.type "tuple", none, (.seq [].toArray 0), [].toArray⟩
noncomputable def x53_8 (P : Params) : Obj := ⟨.type "StopIteration", none, (.fields [.ref 52, .none, .none, .none, .bool false, .none].toArray), [].toArray⟩
noncomputable def l_8 (P : Params) : List Obj := [boot_o_0 P, boot_o_1 P, boot_o_2 P, x3_8 P, boot_o_4 P, boot_o_5 P, boot_o_6 P, boot_o_7 P, boot_o_8 P, boot_o_9 P, boot_o_10 P, x11_A P, x12_7 P, x13_A P, x14_A P, x15_7 P, x16_7 P, x17_7 P, x18_7 P, x19_7 P, x20_7 P, x21_7 P, x22_7 P, x23_7 P, x24_7 P, x25_7 P, x26_7 P, x27_7 P, x28_7 P, x29_7 P, x30_7 P, x31_7 P, x32_7 P, x33_7 P, x34_7 P, x35_7 P, x36_7 P, x37_7 P, x38_7 P, x39_7 P, x40_7 P, x41_7 P, x42_7 P, x43_8 P, x44_8 P, x45_8 P, x46_8 P, x47_8 P, x48_8 P, x49_8 P, x50_8 P, x51_8 P, x52_8 P, x53_8 P]
noncomputable def x3_9 (P : Params) : Obj := ⟨.type "dict", none, (.dict [⟨PyData.keyHash P (Str.ofString "__name__"), .str (Str.ofString "__name__") 165, .str (Str.ofString "cpy313.stringprep") 256⟩, ⟨PyData.keyHash P (Str.ofString "__doc__"), .str (Str.ofString "__doc__") 166, .none⟩, ⟨PyData.keyHash P (Str.ofString "__package__"), .str (Str.ofString "__package__") 167, .none⟩, ⟨PyData.keyHash P (Str.ofString "__loader__"), .str (Str.ofString "__loader__") 168, .builtin "__main__.__loader__#opaque"⟩, ⟨PyData.keyHash P (Str.ofString "__spec__"), .str (Str.ofString "__spec__") 169, .none⟩, ⟨PyData.keyHash P (Str.ofString "__annotations__"), .str (Str.ofString "__annotations__") 170, .ref 6⟩, ⟨PyData.keyHash P (Str.ofString "__builtins__"), .str (Str.ofString "__builtins__") 171, .ref 4⟩, ⟨PyData.keyHash P (Str.ofString "__file__"), .str (Str.ofString "__file__") 173, .str (Str.ofString "/claim/cut.py") 172⟩, ⟨PyData.keyHash P (Str.ofString "__cached__"), .str (Str.ofString "__cached__") 174, .none⟩, ⟨PyData.keyHash P (Str.ofString "ELLIPSIS_MARKER"), .str (Str.ofString "ELLIPSIS_MARKER") 190, .str (Str.ofString "...") 189⟩, ⟨PyData.keyHash P (Str.ofString "_ellipsis_match"), .str (Str.ofString "_ellipsis_match") 202, .ref 21⟩, ⟨PyData.keyHash P (Str.ofString "rgb_to_hls"), .str (Str.ofString "rgb_to_hls") 223, .ref 28⟩, ⟨PyData.keyHash P (Str.ofString "rgb_to_hsv"), .str (Str.ofString "rgb_to_hsv") 241, .ref 35⟩, ⟨PyData.keyHash P (Str.ofString "hsv_to_rgb"), .str (Str.ofString "hsv_to_rgb") 255, .ref 42⟩, ⟨PyData.keyHash P (Str.ofString "b1_set"), .str (Str.ofString "b1_set") 317, .ref 50⟩, ⟨PyData.keyHash P (Str.ofString "in_table_b1"), .str (Str.ofString "in_table_b1") 324, .ref 60⟩].toArray 16), [].toArray⟩
noncomputable def x12_9 (P : Params) : Obj := ⟨.none, none, (.fields [.int (3) 0, .int (0) 0, .ref 20, .int (32) 0, .int (0) 0, .ref 27, .int (55) 0, .int (0) 0, .ref 34, .int (74) 0, .int (0) 0, .ref 41, .int (97) 0, .int (0) 0, .ref 59].toArray), [].toArray⟩
noncomputable def x54_9 (P : Params) : Obj := ⟨.type "tuple", none, (.seq [].toArray 0), [].toArray⟩
noncomputable def x55_9 (P : Params) : Obj := ⟨.none, none, (.fields [].toArray), [].toArray⟩
noncomputable def x56_9 (P : Params) : Obj := ⟨.type "tuple", none, (.seq [.str (Str.ofString "code") 321].toArray 0), [].toArray⟩
noncomputable def x57_9 (P : Params) : Obj := ⟨.type "tuple", none, (.seq [].toArray 0), [].toArray⟩
noncomputable def x58_9 (P : Params) : Obj := ⟨.none, none, (.func ⟨(Str.ofString "in_table_b1"), (Str.ofString "in_table_b1"), fArgs (stOf 9), .stmts (fBody (stOf 9)), fScope (stOf 9), 0, [], .none, .none, .none, .none, none, .none, .none, 0⟩), [].toArray⟩
noncomputable def x59_9 (P : Params) : Obj := ⟨.type "code", none, (.fields [.str (Str.ofString "in_table_b1") 318, .str (Str.ofString "in_table_b1") 319, .str (Str.ofString "/claim/cut.py") 320, .int (97) 0, .int (1) 0, .int (0) 0, .int (0) 0, .int (3) 0, .ref 54, .bool true, .int (181) 0, .ref 55, .none, .ref 56, .ref 57, .ref 58, .int (322) 0, .int (97) 0, .str (Str.ofString "/claim/cut.py") 323].toArray), [].toArray⟩
noncomputable def x60_9 (P : Params) : Obj := ⟨.type "function", none, (.func ⟨(Str.ofString "in_table_b1"), (Str.ofString "in_table_b1"), fArgs (stOf 9), .stmts (fBody (stOf 9)), fScope (stOf 9), 3, [], .none, .none, .none, .str (Str.ofString "cpy313.stringprep") 256, none, .ref 59, .none, 0⟩), [].toArray⟩
noncomputable def l_9 (P : Params) : List Obj := [boot_o_0 P, boot_o_1 P, boot_o_2 P, x3_9 P, boot_o_4 P, boot_o_5 P, boot_o_6 P, boot_o_7 P, boot_o_8 P, boot_o_9 P, boot_o_10 P, x11_A P, x12_9 P, x13_A P, x14_A P, x15_7 P, x16_7 P, x17_7 P, x18_7 P, x19_7 P, x20_7 P, x21_7 P, x22_7 P, x23_7 P, x24_7 P, x25_7 P, x26_7 P, x27_7 P, x28_7 P, x29_7 P, x30_7 P, x31_7 P, x32_7 P, x33_7 P, x34_7 P, x35_7 P, x36_7 P, x37_7 P, x38_7 P, x39_7 P, x40_7 P, x41_7 P, x42_7 P, x43_8 P, x44_8 P, x45_8 P, x46_8 P, x47_8 P, x48_8 P, x49_8 P, x50_8 P, x51_8 P, x52_8 P, x53_8 P, x54_9 P, x55_9 P, x56_9 P, x57_9 P, x58_9 P, x59_9 P, x60_9 P]
noncomputable def x3_10 (P : Params) : Obj := ⟨.type "dict", none, (.dict [⟨PyData.keyHash P (Str.ofString "__name__"), .str (Str.ofString "__name__") 165, .str (Str.ofString "cpy313.stringprep") 256⟩, ⟨PyData.keyHash P (Str.ofString "__doc__"), .str (Str.ofString "__doc__") 166, .none⟩, ⟨PyData.keyHash P (Str.ofString "__package__"), .str (Str.ofString "__package__") 167, .none⟩, ⟨PyData.keyHash P (Str.ofString "__loader__"), .str (Str.ofString "__loader__") 168, .builtin "__main__.__loader__#opaque"⟩, ⟨PyData.keyHash P (Str.ofString "__spec__"), .str (Str.ofString "__spec__") 169, .none⟩, ⟨PyData.keyHash P (Str.ofString "__annotations__"), .str (Str.ofString "__annotations__") 170, .ref 6⟩, ⟨PyData.keyHash P (Str.ofString "__builtins__"), .str (Str.ofString "__builtins__") 171, .ref 4⟩, ⟨PyData.keyHash P (Str.ofString "__file__"), .str (Str.ofString "__file__") 173, .str (Str.ofString "/claim/cut.py") 172⟩, ⟨PyData.keyHash P (Str.ofString "__cached__"), .str (Str.ofString "__cached__") 174, .none⟩, ⟨PyData.keyHash P (Str.ofString "ELLIPSIS_MARKER"), .str (Str.ofString "ELLIPSIS_MARKER") 190, .str (Str.ofString "...") 189⟩, ⟨PyData.keyHash P (Str.ofString "_ellipsis_match"), .str (Str.ofString "_ellipsis_match") 202, .ref 21⟩, ⟨PyData.keyHash P (Str.ofString "rgb_to_hls"), .str (Str.ofString "rgb_to_hls") 223, .ref 28⟩, ⟨PyData.keyHash P (Str.ofString "rgb_to_hsv"), .str (Str.ofString "rgb_to_hsv") 241, .ref 35⟩, ⟨PyData.keyHash P (Str.ofString "hsv_to_rgb"), .str (Str.ofString "hsv_to_rgb") 255, .ref 42⟩, ⟨PyData.keyHash P (Str.ofString "b1_set"), .str (Str.ofString "b1_set") 317, .ref 50⟩, ⟨PyData.keyHash P (Str.ofString "in_table_b1"), .str (Str.ofString "in_table_b1") 324, .ref 60⟩, ⟨PyData.keyHash P (Str.ofString "b3_exceptions"), .str (Str.ofString "b3_exceptions") 2275, .ref 61⟩].toArray 17), [].toArray⟩
noncomputable def l_10 (P : Params) : List Obj := [boot_o_0 P, boot_o_1 P, boot_o_2 P, x3_10 P, boot_o_4 P, boot_o_5 P, boot_o_6 P, boot_o_7 P, boot_o_8 P, boot_o_9 P, boot_o_10 P, x11_A P, x12_9 P, x13_A P, x14_A P, x15_7 P, x16_7 P, x17_7 P, x18_7 P, x19_7 P, x20_7 P, x21_7 P, x22_7 P, x23_7 P, x24_7 P, x25_7 P, x26_7 P, x27_7 P, x28_7 P, x29_7 P, x30_7 P, x31_7 P, x32_7 P, x33_7 P, x34_7 P, x35_7 P, x36_7 P, x37_7 P, x38_7 P, x39_7 P, x40_7 P, x41_7 P, x42_7 P, x43_8 P, x44_8 P, x45_8 P, x46_8 P, x47_8 P, x48_8 P, x49_8 P, x50_8 P, x51_8 P, x52_8 P, x53_8 P, x54_9 P, x55_9 P, x56_9 P, x57_9 P, x58_9 P, x59_9 P, x60_9 P] ++ tailD
noncomputable def x3_20 (P : Params) : Obj := ⟨.type "dict", none, (.dict [⟨PyData.keyHash P (Str.ofString "__name__"), .str (Str.ofString "__name__") 165, .str (Str.ofString "law_rl0120_01") 2284⟩, ⟨PyData.keyHash P (Str.ofString "__doc__"), .str (Str.ofString "__doc__") 166, .none⟩, ⟨PyData.keyHash P (Str.ofString "__package__"), .str (Str.ofString "__package__") 167, .none⟩, ⟨PyData.keyHash P (Str.ofString "__loader__"), .str (Str.ofString "__loader__") 168, .builtin "__main__.__loader__#opaque"⟩, ⟨PyData.keyHash P (Str.ofString "__spec__"), .str (Str.ofString "__spec__") 169, .none⟩, ⟨PyData.keyHash P (Str.ofString "__annotations__"), .str (Str.ofString "__annotations__") 170, .ref 6⟩, ⟨PyData.keyHash P (Str.ofString "__builtins__"), .str (Str.ofString "__builtins__") 171, .ref 4⟩, ⟨PyData.keyHash P (Str.ofString "__file__"), .str (Str.ofString "__file__") 173, .str (Str.ofString "/claim/cut.py") 172⟩, ⟨PyData.keyHash P (Str.ofString "__cached__"), .str (Str.ofString "__cached__") 174, .none⟩, ⟨PyData.keyHash P (Str.ofString "ELLIPSIS_MARKER"), .str (Str.ofString "ELLIPSIS_MARKER") 190, .str (Str.ofString "...") 189⟩, ⟨PyData.keyHash P (Str.ofString "_ellipsis_match"), .str (Str.ofString "_ellipsis_match") 202, .ref 21⟩, ⟨PyData.keyHash P (Str.ofString "rgb_to_hls"), .str (Str.ofString "rgb_to_hls") 223, .ref 28⟩, ⟨PyData.keyHash P (Str.ofString "rgb_to_hsv"), .str (Str.ofString "rgb_to_hsv") 241, .ref 35⟩, ⟨PyData.keyHash P (Str.ofString "hsv_to_rgb"), .str (Str.ofString "hsv_to_rgb") 255, .ref 42⟩, ⟨PyData.keyHash P (Str.ofString "b1_set"), .str (Str.ofString "b1_set") 317, .ref 50⟩, ⟨PyData.keyHash P (Str.ofString "in_table_b1"), .str (Str.ofString "in_table_b1") 324, .ref 60⟩, ⟨PyData.keyHash P (Str.ofString "b3_exceptions"), .str (Str.ofString "b3_exceptions") 2275, .ref 61⟩, ⟨PyData.keyHash P (Str.ofString "map_table_b3"), .str (Str.ofString "map_table_b3") 2283, .ref 106⟩, ⟨PyData.keyHash P (Str.ofString "_law_sign"), .str (Str.ofString "_law_sign") 2295, .ref 113⟩, ⟨PyData.keyHash P (Str.ofString "_law_piece"), .str (Str.ofString "_law_piece") 2301, .ref 118⟩, ⟨PyData.keyHash P (Str.ofString "_law_walk"), .str (Str.ofString "_law_walk") 2319, .ref 125⟩, ⟨PyData.keyHash P (Str.ofString "_law_found"), .str (Str.ofString "_law_found") 2331, .ref 132⟩, ⟨PyData.keyHash P (Str.ofString "_law_triples"), .str (Str.ofString "_law_triples") 2342, .ref 139⟩, ⟨PyData.keyHash P (Str.ofString "_law_row"), .str (Str.ofString "_law_row") 2354, .ref 146⟩, ⟨PyData.keyHash P (Str.ofString "_law_folded"), .str (Str.ofString "_law_folded") 2371, .ref 153⟩, ⟨PyData.keyHash P (Str.ofString "law"), .str (Str.ofString "law") 2377, .ref 158⟩].toArray 26), [].toArray⟩
noncomputable def x12_20 (P : Params) : Obj := ⟨.none, none, (.fields [.int (3) 0, .int (0) 0, .ref 20, .int (32) 0, .int (0) 0, .ref 27, .int (55) 0, .int (0) 0, .ref 34, .int (74) 0, .int (0) 0, .ref 41, .int (97) 0, .int (0) 0, .ref 59, .int (100) 0, .int (0) 0, .ref 105, .int (106) 0, .int (0) 0, .ref 112, .int (118) 0, .int (0) 0, .ref 117, .int (144) 0, .int (0) 0, .ref 124, .int (166) 0, .int (0) 0, .ref 131, .int (174) 0, .int (0) 0, .ref 138, .int (193) 0, .int (0) 0, .ref 145, .int (204) 0, .int (0) 0, .ref 152, .int (212) 0, .int (0) 0, .ref 157].toArray), [].toArray⟩
noncomputable def x100_20 (P : Params) : Obj := ⟨.type "tuple", none, (.seq [].toArray 0), [].toArray⟩
noncomputable def x101_20 (P : Params) : Obj := ⟨.none, none, (.fields [].toArray), [].toArray⟩
noncomputable def x102_20 (P : Params) : Obj := ⟨.type "tuple", none, (.seq [.str (Str.ofString "code") 2279, .str (Str.ofString "r") 2280].toArray 0), [].toArray⟩
noncomputable def x103_20 (P : Params) : Obj := ⟨.type "tuple", none, (.seq [].toArray 0), [].toArray⟩
noncomputable def x104_20 (P : Params) : Obj := ⟨.none, none, (.func ⟨(Str.ofString "map_table_b3"), (Str.ofString "map_table_b3"), fArgs (stOf 11), .stmts (fBody (stOf 11)), fScope (stOf 11), 0, [], .none, .none, .none, .none, none, .none, .none, 0⟩), [].toArray⟩
noncomputable def x105_20 (P : Params) : Obj := ⟨.type "code", none, (.fields [.str (Str.ofString "map_table_b3") 2276, .str (Str.ofString "map_table_b3") 2277, .str (Str.ofString "/claim/cut.py") 2278, .int (100) 0, .int (1) 0, .int (0) 0, .int (0) 0, .int (3) 0, .ref 100, .bool true, .int (181) 0, .ref 101, .none, .ref 102, .ref 103, .ref 104, .int (2281) 0, .int (100) 0, .str (Str.ofString "/claim/cut.py") 2282].toArray), [].toArray⟩
noncomputable def x106_20 (P : Params) : Obj := ⟨.type "function", none, (.func ⟨(Str.ofString "map_table_b3"), (Str.ofString "map_table_b3"), fArgs (stOf 11), .stmts (fBody (stOf 11)), fScope (stOf 11), 3, [], .none, .none, .none, .str (Str.ofString "cpy313.stringprep") 256, none, .ref 105, .none, 0⟩), [].toArray⟩
noncomputable def x107_20 (P : Params) : Obj := ⟨.type "tuple", none, (.seq [].toArray 0), [].toArray⟩
noncomputable def x108_20 (P : Params) : Obj := ⟨.none, none, (.fields [].toArray), [].toArray⟩
noncomputable def x109_20 (P : Params) : Obj := ⟨.type "tuple", none, (.seq [.str (Str.ofString "kind") 2289, .str (Str.ofString "form") 2290, .str (Str.ofString "letter") 2291, .str (Str.ofString "first") 2292].toArray 0), [].toArray⟩
noncomputable def x110_20 (P : Params) : Obj := ⟨.type "tuple", none, (.seq [].toArray 0), [].toArray⟩
noncomputable def x111_20 (P : Params) : Obj := ⟨.none, none, (.func ⟨(Str.ofString "_law_sign"), (Str.ofString "_law_sign"), fArgs (stOf 13), .stmts (fBody (stOf 13)), fScope (stOf 13), 0, [], .none, .none, .none, .none, none, .none, .none, 0⟩), [].toArray⟩
noncomputable def x112_20 (P : Params) : Obj := ⟨.type "code", none, (.fields [.str (Str.ofString "_law_sign") 2286, .str (Str.ofString "_law_sign") 2287, .str (Str.ofString "/claim/cut.py") 2288, .int (106) 0, .int (2) 0, .int (0) 0, .int (0) 0, .int (3) 0, .ref 107, .bool true, .int (181) 0, .ref 108, .none, .ref 109, .ref 110, .ref 111, .int (2293) 0, .int (106) 0, .str (Str.ofString "/claim/cut.py") 2294].toArray), [].toArray⟩
noncomputable def x113_20 (P : Params) : Obj := ⟨.type "function", none, (.func ⟨(Str.ofString "_law_sign"), (Str.ofString "_law_sign"), fArgs (stOf 13), .stmts (fBody (stOf 13)), fScope (stOf 13), 3, [], .none, .none, .none, .str (Str.ofString "law_rl0120_01") 2284, none, .ref 112, .none, 0⟩), [].toArray⟩
noncomputable def x114_20 (P : Params) : Obj := ⟨.type "tuple", none, (.seq [].toArray 0), [].toArray⟩
noncomputable def x115_20 (P : Params) : Obj := ⟨.none, none, (.fields [].toArray), [].toArray⟩
noncomputable def x116_20 (P : Params) : Obj := ⟨.none, none, (.func ⟨(Str.ofString "_law_piece"), (Str.ofString "_law_piece"), fArgs (stOf 14), .stmts (fBody (stOf 14)), fScope (stOf 14), 0, [], .none, .none, .none, .none, none, .none, .none, 0⟩), [].toArray⟩
noncomputable def x117_20 (P : Params) : Obj := ⟨.type "code", none, (.fields [.str (Str.ofString "_law_piece") 2296, .str (Str.ofString "_law_piece") 2297, .str (Str.ofString "/claim/cut.py") 2298, .int (118) 0, .int (1) 0, .int (0) 0, .int (0) 0, .int (3) 0, .ref 114, .bool true, .int (181) 0, .ref 115, .none, .none, .none, .ref 116, .int (2299) 0, .int (118) 0, .str (Str.ofString "/claim/cut.py") 2300].toArray), [].toArray⟩
noncomputable def x118_20 (P : Params) : Obj := ⟨.type "function", none, (.func ⟨(Str.ofString "_law_piece"), (Str.ofString "_law_piece"), fArgs (stOf 14), .stmts (fBody (stOf 14)), fScope (stOf 14), 3, [], .none, .none, .none, .str (Str.ofString "law_rl0120_01") 2284, none, .ref 117, .none, 0⟩), [].toArray⟩
noncomputable def x119_20 (P : Params) : Obj := ⟨.type "tuple", none, (.seq [].toArray 0), [].toArray⟩
noncomputable def x120_20 (P : Params) : Obj := ⟨.none, none, (.fields [].toArray), [].toArray⟩
noncomputable def x121_20 (P : Params) : Obj := ⟨.type "tuple", none, (.seq [.str (Str.ofString "pieces") 2305, .str (Str.ofString "low") 2306, .str (Str.ofString "middle") 2307, .str (Str.ofString "high") 2308, .str (Str.ofString "free") 2309, .str (Str.ofString "pairs") 2310, .str (Str.ofString "triples") 2311, .str (Str.ofString "size") 2312, .str (Str.ofString "row") 2313, .str (Str.ofString "piece") 2314, .str (Str.ofString "letter") 2315, .str (Str.ofString "red") 2316].toArray 0), [].toArray⟩
noncomputable def x122_20 (P : Params) : Obj := ⟨.type "tuple", none, (.seq [].toArray 0), [].toArray⟩
noncomputable def x123_20 (P : Params) : Obj := ⟨.none, none, (.func ⟨(Str.ofString "_law_walk"), (Str.ofString "_law_walk"), fArgs (stOf 15), .stmts (fBody (stOf 15)), fScope (stOf 15), 0, [], .none, .none, .none, .none, none, .none, .none, 0⟩), [].toArray⟩
noncomputable def x124_20 (P : Params) : Obj := ⟨.type "code", none, (.fields [.str (Str.ofString "_law_walk") 2302, .str (Str.ofString "_law_walk") 2303, .str (Str.ofString "/claim/cut.py") 2304, .int (144) 0, .int (1) 0, .int (0) 0, .int (0) 0, .int (3) 0, .ref 119, .bool true, .int (181) 0, .ref 120, .none, .ref 121, .ref 122, .ref 123, .int (2317) 0, .int (144) 0, .str (Str.ofString "/claim/cut.py") 2318].toArray), [].toArray⟩
noncomputable def x125_20 (P : Params) : Obj := ⟨.type "function", none, (.func ⟨(Str.ofString "_law_walk"), (Str.ofString "_law_walk"), fArgs (stOf 15), .stmts (fBody (stOf 15)), fScope (stOf 15), 3, [], .none, .none, .none, .str (Str.ofString "law_rl0120_01") 2284, none, .ref 124, .none, 0⟩), [].toArray⟩
noncomputable def x126_20 (P : Params) : Obj := ⟨.type "tuple", none, (.seq [].toArray 0), [].toArray⟩
noncomputable def x127_20 (P : Params) : Obj := ⟨.none, none, (.fields [].toArray), [].toArray⟩
noncomputable def x128_20 (P : Params) : Obj := ⟨.type "tuple", none, (.seq [.str (Str.ofString "text") 2323, .str (Str.ofString "size") 2324, .str (Str.ofString "i") 2325, .str (Str.ofString "j") 2326, .str (Str.ofString "letters") 2327, .str (Str.ofString "told") 2328].toArray 0), [].toArray⟩
noncomputable def x129_20 (P : Params) : Obj := ⟨.type "tuple", none, (.seq [].toArray 0), [].toArray⟩
noncomputable def x130_20 (P : Params) : Obj := ⟨.none, none, (.func ⟨(Str.ofString "_law_found"), (Str.ofString "_law_found"), fArgs (stOf 16), .stmts (fBody (stOf 16)), fScope (stOf 16), 0, [], .none, .none, .none, .none, none, .none, .none, 0⟩), [].toArray⟩
noncomputable def x131_20 (P : Params) : Obj := ⟨.type "code", none, (.fields [.str (Str.ofString "_law_found") 2320, .str (Str.ofString "_law_found") 2321, .str (Str.ofString "/claim/cut.py") 2322, .int (166) 0, .int (2) 0, .int (0) 0, .int (0) 0, .int (3) 0, .ref 126, .bool true, .int (181) 0, .ref 127, .none, .ref 128, .ref 129, .ref 130, .int (2329) 0, .int (166) 0, .str (Str.ofString "/claim/cut.py") 2330].toArray), [].toArray⟩
noncomputable def x132_20 (P : Params) : Obj := ⟨.type "function", none, (.func ⟨(Str.ofString "_law_found"), (Str.ofString "_law_found"), fArgs (stOf 16), .stmts (fBody (stOf 16)), fScope (stOf 16), 3, [], .none, .none, .none, .str (Str.ofString "law_rl0120_01") 2284, none, .ref 131, .none, 0⟩), [].toArray⟩
noncomputable def x133_20 (P : Params) : Obj := ⟨.type "tuple", none, (.seq [].toArray 0), [].toArray⟩
noncomputable def x134_20 (P : Params) : Obj := ⟨.none, none, (.fields [].toArray), [].toArray⟩
noncomputable def x135_20 (P : Params) : Obj := ⟨.type "tuple", none, (.seq [.str (Str.ofString "text") 2335, .str (Str.ofString "count") 2336, .str (Str.ofString "first") 2337, .str (Str.ofString "second") 2338, .str (Str.ofString "third") 2339].toArray 0), [].toArray⟩
noncomputable def x136_20 (P : Params) : Obj := ⟨.type "tuple", none, (.seq [].toArray 0), [].toArray⟩
noncomputable def x137_20 (P : Params) : Obj := ⟨.none, none, (.func ⟨(Str.ofString "_law_triples"), (Str.ofString "_law_triples"), fArgs (stOf 17), .stmts (fBody (stOf 17)), fScope (stOf 17), 0, [], .none, .none, .none, .none, none, .none, .none, 0⟩), [].toArray⟩
noncomputable def x138_20 (P : Params) : Obj := ⟨.type "code", none, (.fields [.str (Str.ofString "_law_triples") 2332, .str (Str.ofString "_law_triples") 2333, .str (Str.ofString "/claim/cut.py") 2334, .int (174) 0, .int (1) 0, .int (0) 0, .int (0) 0, .int (3) 0, .ref 133, .bool true, .int (181) 0, .ref 134, .none, .ref 135, .ref 136, .ref 137, .int (2340) 0, .int (174) 0, .str (Str.ofString "/claim/cut.py") 2341].toArray), [].toArray⟩
noncomputable def x139_20 (P : Params) : Obj := ⟨.type "function", none, (.func ⟨(Str.ofString "_law_triples"), (Str.ofString "_law_triples"), fArgs (stOf 17), .stmts (fBody (stOf 17)), fScope (stOf 17), 3, [], .none, .none, .none, .str (Str.ofString "law_rl0120_01") 2284, none, .ref 138, .none, 0⟩), [].toArray⟩
noncomputable def x140_20 (P : Params) : Obj := ⟨.type "tuple", none, (.seq [].toArray 0), [].toArray⟩
noncomputable def x141_20 (P : Params) : Obj := ⟨.none, none, (.fields [].toArray), [].toArray⟩
noncomputable def x142_20 (P : Params) : Obj := ⟨.type "tuple", none, (.seq [.str (Str.ofString "pieces") 2346, .str (Str.ofString "row") 2347, .str (Str.ofString "text") 2348, .str (Str.ofString "piece") 2349, .str (Str.ofString "red") 2350, .str (Str.ofString "blue") 2351].toArray 0), [].toArray⟩
noncomputable def x143_20 (P : Params) : Obj := ⟨.type "tuple", none, (.seq [].toArray 0), [].toArray⟩
noncomputable def x144_20 (P : Params) : Obj := ⟨.none, none, (.func ⟨(Str.ofString "_law_row"), (Str.ofString "_law_row"), fArgs (stOf 18), .stmts (fBody (stOf 18)), fScope (stOf 18), 0, [], .none, .none, .none, .none, none, .none, .none, 0⟩), [].toArray⟩
noncomputable def x145_20 (P : Params) : Obj := ⟨.type "code", none, (.fields [.str (Str.ofString "_law_row") 2343, .str (Str.ofString "_law_row") 2344, .str (Str.ofString "/claim/cut.py") 2345, .int (193) 0, .int (1) 0, .int (0) 0, .int (0) 0, .int (3) 0, .ref 140, .bool true, .int (181) 0, .ref 141, .none, .ref 142, .ref 143, .ref 144, .int (2352) 0, .int (193) 0, .str (Str.ofString "/claim/cut.py") 2353].toArray), [].toArray⟩
noncomputable def x146_20 (P : Params) : Obj := ⟨.type "function", none, (.func ⟨(Str.ofString "_law_row"), (Str.ofString "_law_row"), fArgs (stOf 18), .stmts (fBody (stOf 18)), fScope (stOf 18), 3, [], .none, .none, .none, .str (Str.ofString "law_rl0120_01") 2284, none, .ref 145, .none, 0⟩), [].toArray⟩
noncomputable def x147_20 (P : Params) : Obj := ⟨.type "tuple", none, (.seq [].toArray 0), [].toArray⟩
noncomputable def x148_20 (P : Params) : Obj := ⟨.none, none, (.fields [].toArray), [].toArray⟩
noncomputable def x149_20 (P : Params) : Obj := ⟨.type "tuple", none, (.seq [.str (Str.ofString "red") 2358, .str (Str.ofString "green") 2359, .str (Str.ofString "blue") 2360, .str (Str.ofString "hue") 2361, .str (Str.ofString "share") 2362, .str (Str.ofString "value") 2363, .str (Str.ofString "sixth") 2364, .str (Str.ofString "part") 2365, .str (Str.ofString "first") 2366, .str (Str.ofString "second") 2367, .str (Str.ofString "third") 2368].toArray 0), [].toArray⟩
noncomputable def x150_20 (P : Params) : Obj := ⟨.type "tuple", none, (.seq [].toArray 0), [].toArray⟩
noncomputable def x151_20 (P : Params) : Obj := ⟨.none, none, (.func ⟨(Str.ofString "_law_folded"), (Str.ofString "_law_folded"), fArgs (stOf 19), .stmts (fBody (stOf 19)), fScope (stOf 19), 0, [], .none, .none, .none, .none, none, .none, .none, 0⟩), [].toArray⟩
noncomputable def x152_20 (P : Params) : Obj := ⟨.type "code", none, (.fields [.str (Str.ofString "_law_folded") 2355, .str (Str.ofString "_law_folded") 2356, .str (Str.ofString "/claim/cut.py") 2357, .int (204) 0, .int (3) 0, .int (0) 0, .int (0) 0, .int (3) 0, .ref 147, .bool true, .int (181) 0, .ref 148, .none, .ref 149, .ref 150, .ref 151, .int (2369) 0, .int (204) 0, .str (Str.ofString "/claim/cut.py") 2370].toArray), [].toArray⟩
noncomputable def x153_20 (P : Params) : Obj := ⟨.type "function", none, (.func ⟨(Str.ofString "_law_folded"), (Str.ofString "_law_folded"), fArgs (stOf 19), .stmts (fBody (stOf 19)), fScope (stOf 19), 3, [], .none, .none, .none, .str (Str.ofString "law_rl0120_01") 2284, none, .ref 152, .none, 0⟩), [].toArray⟩
noncomputable def x154_20 (P : Params) : Obj := ⟨.type "tuple", none, (.seq [].toArray 0), [].toArray⟩
noncomputable def x155_20 (P : Params) : Obj := ⟨.none, none, (.fields [].toArray), [].toArray⟩
noncomputable def x156_20 (P : Params) : Obj := ⟨.none, none, (.func ⟨(Str.ofString "law"), (Str.ofString "law"), fArgs (stOf 20), .stmts (fBody (stOf 20)), fScope (stOf 20), 0, [], .none, .none, .none, .none, none, .none, .none, 0⟩), [].toArray⟩
noncomputable def x157_20 (P : Params) : Obj := ⟨.type "code", none, (.fields [.str (Str.ofString "law") 2372, .str (Str.ofString "law") 2373, .str (Str.ofString "/claim/cut.py") 2374, .int (212) 0, .int (1) 0, .int (0) 0, .int (0) 0, .int (3) 0, .ref 154, .bool true, .int (181) 0, .ref 155, .none, .none, .none, .ref 156, .int (2375) 0, .int (212) 0, .str (Str.ofString "/claim/cut.py") 2376].toArray), [].toArray⟩
noncomputable def x158_20 (P : Params) : Obj := ⟨.type "function", none, (.func ⟨(Str.ofString "law"), (Str.ofString "law"), fArgs (stOf 20), .stmts (fBody (stOf 20)), fScope (stOf 20), 3, [], .none, .none, .none, .str (Str.ofString "law_rl0120_01") 2284, none, .ref 157, .none, 0⟩), [].toArray⟩
noncomputable def l_20 (P : Params) : List Obj := [boot_o_0 P, boot_o_1 P, boot_o_2 P, x3_20 P, boot_o_4 P, boot_o_5 P, boot_o_6 P, boot_o_7 P, boot_o_8 P, boot_o_9 P, boot_o_10 P, x11_A P, x12_20 P, x13_A P, x14_A P, x15_7 P, x16_7 P, x17_7 P, x18_7 P, x19_7 P, x20_7 P, x21_7 P, x22_7 P, x23_7 P, x24_7 P, x25_7 P, x26_7 P, x27_7 P, x28_7 P, x29_7 P, x30_7 P, x31_7 P, x32_7 P, x33_7 P, x34_7 P, x35_7 P, x36_7 P, x37_7 P, x38_7 P, x39_7 P, x40_7 P, x41_7 P, x42_7 P, x43_8 P, x44_8 P, x45_8 P, x46_8 P, x47_8 P, x48_8 P, x49_8 P, x50_8 P, x51_8 P, x52_8 P, x53_8 P, x54_9 P, x55_9 P, x56_9 P, x57_9 P, x58_9 P, x59_9 P, x60_9 P] ++ (tailD ++ [x100_20 P, x101_20 P, x102_20 P, x103_20 P, x104_20 P, x105_20 P, x106_20 P, x107_20 P, x108_20 P, x109_20 P, x110_20 P, x111_20 P, x112_20 P, x113_20 P, x114_20 P, x115_20 P, x116_20 P, x117_20 P, x118_20 P, x119_20 P, x120_20 P, x121_20 P, x122_20 P, x123_20 P, x124_20 P, x125_20 P, x126_20 P, x127_20 P, x128_20 P, x129_20 P, x130_20 P, x131_20 P, x132_20 P, x133_20 P, x134_20 P, x135_20 P, x136_20 P, x137_20 P, x138_20 P, x139_20 P, x140_20 P, x141_20 P, x142_20 P, x143_20 P, x144_20 P, x145_20 P, x146_20 P, x147_20 P, x148_20 P, x149_20 P, x150_20 P, x151_20 P, x152_20 P, x153_20 P, x154_20 P, x155_20 P, x156_20 P, x157_20 P, x158_20 P])

end Mine
end
section
open PySem PySem.W PyProof.Rows
set_option maxRecDepth 100000
namespace Mine
noncomputable def KT (P : Params) : Frag := (nat_lit 2, boot_o_2 P) :: (nat_lit 3, x3_20 P) :: (nat_lit 6, boot_o_6 P) :: (nat_lit 15, x15_7 P) :: (nat_lit 17, x17_7 P) :: (nat_lit 18, x18_7 P) :: (nat_lit 20, x20_7 P) :: (nat_lit 21, x21_7 P) :: (nat_lit 22, x22_7 P) :: (nat_lit 24, x24_7 P) :: (nat_lit 25, x25_7 P) :: (nat_lit 27, x27_7 P) :: (nat_lit 28, x28_7 P) :: (nat_lit 29, x29_7 P) :: (nat_lit 31, x31_7 P) :: (nat_lit 32, x32_7 P) :: (nat_lit 34, x34_7 P) :: (nat_lit 35, x35_7 P) :: (nat_lit 36, x36_7 P) :: (nat_lit 38, x38_7 P) :: (nat_lit 39, x39_7 P) :: (nat_lit 41, x41_7 P) :: (nat_lit 42, x42_7 P) :: (nat_lit 50, x50_8 P) :: (nat_lit 54, x54_9 P) :: (nat_lit 56, x56_9 P) :: (nat_lit 57, x57_9 P) :: (nat_lit 59, x59_9 P) :: (nat_lit 60, x60_9 P) :: (nat_lit 61, dictO (dispM (ch0 :: (chs ++ [chl])) 325)) :: (nat_lit 100, x100_20 P) :: (nat_lit 102, x102_20 P) :: (nat_lit 103, x103_20 P) :: (nat_lit 105, x105_20 P) :: (nat_lit 106, x106_20 P) :: (nat_lit 107, x107_20 P) :: (nat_lit 109, x109_20 P) :: (nat_lit 110, x110_20 P) :: (nat_lit 112, x112_20 P) :: (nat_lit 113, x113_20 P) :: (nat_lit 114, x114_20 P) :: (nat_lit 117, x117_20 P) :: (nat_lit 118, x118_20 P) :: (nat_lit 119, x119_20 P) :: (nat_lit 121, x121_20 P) :: (nat_lit 122, x122_20 P) :: (nat_lit 124, x124_20 P) :: (nat_lit 125, x125_20 P) :: (nat_lit 126, x126_20 P) :: (nat_lit 128, x128_20 P) :: (nat_lit 129, x129_20 P) :: (nat_lit 131, x131_20 P) :: (nat_lit 132, x132_20 P) :: (nat_lit 133, x133_20 P) :: (nat_lit 135, x135_20 P) :: (nat_lit 136, x136_20 P) :: (nat_lit 138, x138_20 P) :: (nat_lit 139, x139_20 P) :: (nat_lit 140, x140_20 P) :: (nat_lit 142, x142_20 P) :: (nat_lit 143, x143_20 P) :: (nat_lit 145, x145_20 P) :: (nat_lit 146, x146_20 P) :: (nat_lit 147, x147_20 P) :: (nat_lit 149, x149_20 P) :: (nat_lit 150, x150_20 P) :: (nat_lit 152, x152_20 P) :: (nat_lit 153, x153_20 P) :: (nat_lit 154, x154_20 P) :: (nat_lit 157, x157_20 P) :: (nat_lit 158, x158_20 P) :: []
noncomputable def asT : List Addr := [nat_lit 2, nat_lit 3, nat_lit 6, nat_lit 15, nat_lit 17, nat_lit 18, nat_lit 20, nat_lit 21, nat_lit 22, nat_lit 24, nat_lit 25, nat_lit 27, nat_lit 28, nat_lit 29, nat_lit 31, nat_lit 32, nat_lit 34, nat_lit 35, nat_lit 36, nat_lit 38, nat_lit 39, nat_lit 41, nat_lit 42, nat_lit 50, nat_lit 54, nat_lit 56, nat_lit 57, nat_lit 59, nat_lit 60, nat_lit 61, nat_lit 100, nat_lit 102, nat_lit 103, nat_lit 105, nat_lit 106, nat_lit 107, nat_lit 109, nat_lit 110, nat_lit 112, nat_lit 113, nat_lit 114, nat_lit 117, nat_lit 118, nat_lit 119, nat_lit 121, nat_lit 122, nat_lit 124, nat_lit 125, nat_lit 126, nat_lit 128, nat_lit 129, nat_lit 131, nat_lit 132, nat_lit 133, nat_lit 135, nat_lit 136, nat_lit 138, nat_lit 139, nat_lit 140, nat_lit 142, nat_lit 143, nat_lit 145, nat_lit 146, nat_lit 147, nat_lit 149, nat_lit 150, nat_lit 152, nat_lit 153, nat_lit 154, nat_lit 157, nat_lit 158]
theorem asT_is (P : Params) : asT = (KT P).map (·.1) := by kernel_rfl
noncomputable def qV : Program := view pw [20]
noncomputable def looseV : List Str := [Str.ofString "ELLIPSIS_MARKER", Str.ofString "_ellipsis_match", Str.ofString "rgb_to_hls", Str.ofString "rgb_to_hsv", Str.ofString "hsv_to_rgb", Str.ofString "b1_set", Str.ofString "in_table_b1", Str.ofString "b3_exceptions", Str.ofString "map_table_b3", Str.ofString "_law_sign", Str.ofString "_law_piece", Str.ofString "_law_walk", Str.ofString "_law_found", Str.ofString "_law_triples", Str.ofString "_law_row", Str.ofString "_law_folded"]
noncomputable def HK : Hook := kHook KT asT asT_is
noncomputable def XtV (s : Shared) : Bool := xlAt qV [] s && recOk [] s
end Mine
end
section
open PySem PySem.W PyProof.Rows
set_option maxRecDepth 100000
namespace Mine
noncomputable def dLaw : DefRec := ⟨Str.ofString "law", fArgs (stOf 20), fBody (stOf 20), fScope (stOf 20), ⟨212, 0, 228, 15⟩⟩
theorem dLaw_is : defOf qV (Str.ofString "law") = some (dLaw, []) := by kernel_rfl
abbrev rwT : OpenLaw := PySem.Challenge.rw_rl0120_01
noncomputable abbrev WalkT : Prop := WalkO qV looseV (XL qV []) HK.says rwT.row.toRowW dLaw [] fun f vs => PySem.call f vs
end Mine
end
section
open PySem PySem.W PyProof.Rows
namespace Mine
/-! the tokens' counter only grows -/
theorem runs_toks {M : Model} {Γ : Ctx} {p : Pos} {t : Sem Fin} {fs : List Frame} {s : Shared} {e : End} {s' : Shared} (h : PySem.Runs M Γ p t fs s e s') : s.toks ≤ s'.toks := by
  induction h with
  | fresh _ ih => exact Nat.le_of_succ_le ih
  | call _ _ ih1 ih2 => exact Nat.le_trans ih1 ih2
  | resumeFresh _ _ _ _ ih1 ih2 => exact Nat.le_trans ih1 ih2
  | resumeSuspended _ _ _ _ ih1 ih2 => exact Nat.le_trans ih1 ih2
  | segRet _ _ ih1 ih2 => exact Nat.le_trans ih1 ih2
  | segGen _ _ ih1 ih2 => exact Nat.le_trans ih1 ih2
  | segSuspGen _ _ _ _ ih1 ih2 => exact Nat.le_trans ih1 ih2
  | _ => first | exact Nat.le_refl _ | assumption
theorem wakes_toks {M : Model} {Γ : Ctx} {p : Pos} {g : Nat} {r : Resume} {s : Shared} {res : GenResult} {s' : Shared} (h : Wakes M Γ p g r s res s') : s.toks ≤ s'.toks := by
  unfold Wakes at h
  split at h
  · exact h.elim
  · split at h
    · obtain ⟨e, s₁, h1, _, _, rfl⟩ := h
      have := runs_toks h1
      exact this
    · rw [h.2]; exact Nat.le_refl _
    · rw [h.2]; exact Nat.le_refl _
  · obtain ⟨e, s₁, h1, _, _, rfl⟩ := h
    have := runs_toks h1
    exact this
  · rw [h.2]; exact Nat.le_refl _
  · rw [h.2]; exact Nat.le_refl _
theorem wp_toks {α : Type} {M : Model} {Γ : Ctx} (n : Nat) (t : Sem α) : ∀ {Q : α → Pos → Shared → Prop} {E : Value → Pos → Shared → Prop} {p : Pos} {s : Shared}, n ≤ s.toks → Sem.wp M Γ t Q E p s →
    Sem.wp M Γ t (fun a p s' => n ≤ s'.toks ∧ Q a p s') (fun e p s' => n ≤ s'.toks ∧ E e p s') p s := by
  induction t with
  | pure a => intro Q E p s hn h; exact ⟨hn, h⟩
  | raise e => intro Q E p s hn h; exact ⟨hn, h⟩
  | unsupported _ => intro Q E p s hn h; exact h
  | finish _ => intro Q E p s hn h; exact h
  | rule _ k ih => intro Q E p s hn h; exact ih () hn h
  | «at» p' k ih => intro Q E p s hn h; exact ih () hn h
  | load a _ k ih => intro Q E p s hn h; obtain ⟨o, h1, h2⟩ := h; exact ⟨o, h1, ih o hn h2⟩
  | update a _ f k ih => intro Q E p s hn h; exact ⟨h.1, ih () hn h.2⟩
  | loadIfAlive a k ih => intro Q E p s hn h; exact ih _ hn h
  | point _ k ih => intro Q E p s hn h; exact ih () hn h
  | register _ _ ih => intro Q E p s hn h; exact h.elim
  | alloc o k ih => intro Q E p s hn h; exact ih _ hn h
  | fresh k ih => intro Q E p s hn h; exact ih _ (Nat.le_succ_of_le hn) h
  | ask k ih => intro Q E p s hn h; exact ih _ hn h
  | choose src m k ih => intro Q E p s hn h; exact ⟨h.1, ih _ hn h.2⟩
  | os q _ k ih => intro Q E p s hn h; exact ih _ hn h
  | call c hd _ _ k ih =>
    intro Q E p s hn h
    obtain ⟨r, s₁, h1, h2⟩ := h
    exact ⟨r, s₁, h1, ih r (Nat.le_trans hn (runs_toks h1)) h2⟩
  | handled own k ih => intro Q E p s hn h; exact ih _ hn h
  | genState g k ih => intro Q E p s hn h; obtain ⟨o, h1, h2⟩ := h; exact ⟨o, h1, ih _ hn h2⟩
  | newGen c k ih => intro Q E p s hn h; exact ih _ hn h
  | resume g r _ k ih =>
    intro Q E p s hn h
    obtain ⟨res, s₁, h1, h2⟩ := h
    exact ⟨res, s₁, h1, ih res (Nat.le_trans hn (wakes_toks h1)) h2⟩
  | yield => intro Q E p s hn h; exact h.elim
  | stack k ih => intro Q E p s hn h; exact ih _ hn h
  | fork => intro Q E p s hn h; exact h.elim
  | thread k ih => intro Q E p s hn h; exact ih _ hn h
  | await => intro Q E p s hn h; exact h.elim
theorem wpAny_toks {α : Type} {M : Model} {A : Around} {t : Sem α} {Q : α → Shared → Prop} {E : Value → Shared → Prop} {s : Shared} (h : wpAny M A t (fun a s' => s.toks ≤ s'.toks → Q a s') E s) : wpAny M A t Q E s := by
  intro Γ p hΓ
  refine Sem.wp_mono M Γ t (fun a p' s' q => ?_) (fun e p' s' q => ?_) _ _ (wp_toks s.toks t (Nat.le_refl _) (h Γ p hΓ))
  · exact q.2 q.1
  · exact q.2
theorem none_at {K : Frag} {h : Heap} {a : Addr} {mg : Str → Option Value} {n : Str} (X : K.In h) (G : h.Ns a mg) (e : nsIn K a n = some none) : mg n = none := by
  obtain ⟨o, es, ep, ho, hd, _, hf⟩ := G
  unfold nsIn at e
  split at e
  · rename_i c d es' n' sl q
    have := X _ _ q
    rw [ho] at this
    cases this
    simp only [Data.dict.injEq] at hd
    obtain ⟨rfl, rfl⟩ := hd
    rw [← hf]
    cases hq : List.find? (fun x => x.key.isStr n) es'.toList with
    | some en => rw [hq] at e; cases e
    | none =>
      unfold nsFind findBy
      rw [← Array.find?_toList, hq]
      rfl
  · cases e
theorem bookless (P : Params) : nsIn (KT P) cStatics sharingNotToldKey = some none := by kernel_rfl
theorem not_booked {w : World} {h : Heap} {mean : ExcName → Option Value} {mg mb : Str → Option Value} (X : (KT w.params).In h) (T : Top qV looseV mean mg mb h) : NoneBooked h := by
  obtain ⟨mc, G, _⟩ := T.nodigits
  exact ⟨mc, G, none_at X G (bookless w.params)⟩
end Mine
end
section
open PySem PySem.W PyProof.Rows PySem.Spec PySem.Calls
set_option maxRecDepth 100000
namespace Mine
noncomputable def lt64 (a b : UInt64) : Bool := Float64.cmp a b == some .lt
noncomputable def maxF (x y z : UInt64) : UInt64 := if lt64 (if lt64 x y then y else x) z then z else if lt64 x y then y else x
noncomputable def minF (x y z : UInt64) : UInt64 := if lt64 z (if lt64 y x then y else x) then z else if lt64 y x then y else x

section
variable {prog : Program} {w : World} {A : Around} {E : Value → Shared → Prop} {s : Shared} {Q : Value → Shared → Prop} {x y z : UInt64} {t u v : Tok} {h₀ : Heap} {L : Addr} {m : Str → Option Value} {news : List (Addr × Obj)}
theorem max3_ff (hh : A.handled = none) (F : Fr h₀ L s.heap m) (N : News h₀ L s.heap news)
    (h : ∀ h' tk k, s.toks ≤ tk → (t ≠ 0 → u ≠ 0 → v ≠ 0 → k ≠ 0) → Fr h₀ L h' m → News h₀ L h' news → Q (.float (maxF x y z) k) { s with heap := h', toks := tk }) :
    wpAny (model prog w) A (call (.builtin "max") [.float x t, .float y u, .float z v]) Q E s := by
  have hT : (s.heap.push { cls := .type "tuple", data := .seq #[.float x t, .float y u, .float z v] }).IsTuple s.heap.objs.size #[.float x t, .float y u, .float z v] := ⟨_, Heap.get?_push_size _ rfl, rfl, 0, rfl⟩
  refine wpAny_toks (call_max_three (wpAny_pyIter_tuple hT ?_))
  have hsz : (s.heap.push { cls := .type "tuple", data := .seq #[.float x t, .float y u, .float z v] }).objs.size = s.heap.objs.size + 1 := Heap.size_push ..
  refine ⟨_, [_, s.heap.objs.size], [_], _, _, _, _, rfl, Walks.tuple (A := A.in1) hh _ s.heap.objs.size (by rw [hsz]; exact Nat.ne_of_lt (Nat.lt_succ_self _)) #[.float x t, .float y u, .float z v],
    ⟨⟨_, Heap.get?_push_size _ rfl, rfl, rfl⟩, hT.push _⟩, fun c hc => ?_, by simp, Flt.cmpOf_gt #[.float x t, .float y u, .float z v] (by simp [Flt.NumV.float]), fun r h' tk hP hk => ?_⟩
  · show c < ((s.heap.push _).push _).objs.size
    rw [Heap.size_push, hsz]
    simp only [List.mem_cons, List.not_mem_nil, or_false] at hc
    rcases hc with rfl | rfl
    · rw [hsz]; exact Nat.lt_succ_self _
    · exact Nat.lt_succ_of_lt (Nat.lt_succ_self _)
  · have hold : ∀ c o, s.heap.get? c = some o → h'.get? c = some o := fun c o e => by
      refine hk c o (fun hm => ?_) (Heap.get?_push_of_some _ (Heap.get?_push_of_some _ e))
      simp only [List.mem_cons, List.not_mem_nil, or_false] at hm
      have := Heap.lt_size e; rw [hm, hsz] at this; exact Nat.lt_irrefl _ (Nat.lt_of_succ_lt this)
    have key := fun k h1 h2 => h h' tk k h1 h2 (F.grownK hold) (N.grown hold)
    have hv : ∃ k, r = .float (maxF x y z) k ∧ (k = t ∨ k = u ∨ k = v) := by
      unfold maxF lt64
      cases c1 : Float64.cmp x y == some .lt <;> cases c2 : Float64.cmp x z == some .lt <;> cases c3 : Float64.cmp y z == some .lt <;> simp [argBest, Flt.ltV, c1, c2, c3] at hP ⊢ <;> simp [← hP]
    obtain ⟨k, rfl, hk'⟩ := hv
    intro hle
    exact key k hle fun a b c => by rcases hk' with rfl | rfl | rfl <;> assumption
theorem min3_ff (hh : A.handled = none) (F : Fr h₀ L s.heap m) (N : News h₀ L s.heap news)
    (h : ∀ h' tk k, s.toks ≤ tk → (t ≠ 0 → u ≠ 0 → v ≠ 0 → k ≠ 0) → Fr h₀ L h' m → News h₀ L h' news → Q (.float (minF x y z) k) { s with heap := h', toks := tk }) :
    wpAny (model prog w) A (call (.builtin "min") [.float x t, .float y u, .float z v]) Q E s := by
  have hT : (s.heap.push { cls := .type "tuple", data := .seq #[.float x t, .float y u, .float z v] }).IsTuple s.heap.objs.size #[.float x t, .float y u, .float z v] := ⟨_, Heap.get?_push_size _ rfl, rfl, 0, rfl⟩
  refine wpAny_toks (call_min_three (wpAny_pyIter_tuple hT ?_))
  have hsz : (s.heap.push { cls := .type "tuple", data := .seq #[.float x t, .float y u, .float z v] }).objs.size = s.heap.objs.size + 1 := Heap.size_push ..
  refine ⟨_, [_, s.heap.objs.size], [_], _, _, _, _, rfl, Walks.tuple (A := A.in1) hh _ s.heap.objs.size (by rw [hsz]; exact Nat.ne_of_lt (Nat.lt_succ_self _)) #[.float x t, .float y u, .float z v],
    ⟨⟨_, Heap.get?_push_size _ rfl, rfl, rfl⟩, hT.push _⟩, fun c hc => ?_, by simp, Flt.cmpOf_lt #[.float x t, .float y u, .float z v] (by simp [Flt.NumV.float]), fun r h' tk hP hk => ?_⟩
  · show c < ((s.heap.push _).push _).objs.size
    rw [Heap.size_push, hsz]
    simp only [List.mem_cons, List.not_mem_nil, or_false] at hc
    rcases hc with rfl | rfl
    · rw [hsz]; exact Nat.lt_succ_self _
    · exact Nat.lt_succ_of_lt (Nat.lt_succ_self _)
  · have hold : ∀ c o, s.heap.get? c = some o → h'.get? c = some o := fun c o e => by
      refine hk c o (fun hm => ?_) (Heap.get?_push_of_some _ (Heap.get?_push_of_some _ e))
      simp only [List.mem_cons, List.not_mem_nil, or_false] at hm
      have := Heap.lt_size e; rw [hm, hsz] at this; exact Nat.lt_irrefl _ (Nat.lt_of_succ_lt this)
    have key := fun k h1 h2 => h h' tk k h1 h2 (F.grownK hold) (N.grown hold)
    have hv : ∃ k, r = .float (minF x y z) k ∧ (k = t ∨ k = u ∨ k = v) := by
      unfold minF lt64
      cases c1 : Float64.cmp y x == some .lt <;> cases c2 : Float64.cmp z x == some .lt <;> cases c3 : Float64.cmp z y == some .lt <;> simp [argBest, Flt.ltV, c1, c2, c3] at hP ⊢ <;> simp [← hP]
    obtain ⟨k, rfl, hk'⟩ := hv
    intro hle
    exact key k hle fun a b c => by rcases hk' with rfl | rfl | rfl <;> assumption
end
end Mine
end
section
open PySem PySem.W PyProof.Rows PySem.Spec PySem.Calls
set_option maxRecDepth 100000
namespace Mine
noncomputable abbrev F3 := UInt64 × UInt64 × UInt64
noncomputable abbrev f6 : UInt64 := 4618441417868443648
noncomputable abbrev f1 : UInt64 := 4607182418800017408
noncomputable abbrev f2 : UInt64 := 4611686018427387904
noncomputable abbrev f4 : UInt64 := 4616189618054758400
noncomputable abbrev fh : UInt64 := 4602678819172646912
noncomputable def hueF (r g b mx rg : UInt64) : UInt64 :=
  if (Float64.cmp r mx == some Ordering.eq) = true then (Float64.divmod (Float64.div (Float64.sub (Float64.div (Float64.sub mx b) rg) (Float64.div (Float64.sub mx g) rg)) f6) f1).snd
  else if (Float64.cmp g mx == some Ordering.eq) = true then (Float64.divmod (Float64.div (Float64.sub (Float64.add f2 (Float64.div (Float64.sub mx r) rg)) (Float64.div (Float64.sub mx b) rg)) f6) f1).snd
  else (Float64.divmod (Float64.div (Float64.sub (Float64.add f4 (Float64.div (Float64.sub mx g) rg)) (Float64.div (Float64.sub mx r) rg)) f6) f1).snd
noncomputable def toHsv (r g b : UInt64) : Option F3 :=
  if (Float64.cmp (minF r g b) (maxF r g b) == some Ordering.eq) = true then some (0, 0, maxF r g b)
  else if Float64.isZero (maxF r g b) = true then none
  else if Float64.isZero (Float64.sub (maxF r g b) (minF r g b)) = true then none
  else some (hueF r g b (maxF r g b) (Float64.sub (maxF r g b) (minF r g b)), Float64.div (Float64.sub (maxF r g b) (minF r g b)) (maxF r g b), maxF r g b)
noncomputable def toHls (r g b : UInt64) : Option F3 :=
  if (Float64.cmp (minF r g b) (maxF r g b) == some Ordering.eq) = true then some (0, Float64.div (Float64.add (maxF r g b) (minF r g b)) f2, 0)
  else if (Float64.cmp (Float64.div (Float64.add (maxF r g b) (minF r g b)) f2) fh == some Ordering.lt || Float64.cmp (Float64.div (Float64.add (maxF r g b) (minF r g b)) f2) fh == some Ordering.eq) = true then
    if Float64.isZero (Float64.add (maxF r g b) (minF r g b)) = true then none
    else if Float64.isZero (Float64.sub (maxF r g b) (minF r g b)) = true then none
    else some (hueF r g b (maxF r g b) (Float64.sub (maxF r g b) (minF r g b)), Float64.div (Float64.add (maxF r g b) (minF r g b)) f2, Float64.div (Float64.sub (maxF r g b) (minF r g b)) (Float64.add (maxF r g b) (minF r g b)))
  else
    if Float64.isZero (Float64.sub (Float64.sub f2 (maxF r g b)) (minF r g b)) = true then none
    else if Float64.isZero (Float64.sub (maxF r g b) (minF r g b)) = true then none
    else some (hueF r g b (maxF r g b) (Float64.sub (maxF r g b) (minF r g b)), Float64.div (Float64.add (maxF r g b) (minF r g b)) f2, Float64.div (Float64.sub (maxF r g b) (minF r g b)) (Float64.sub (Float64.sub f2 (maxF r g b)) (minF r g b)))
noncomputable abbrev truncI (x : UInt64) : Int := Flt.toInt Float64.truncOf x
noncomputable abbrev fracF (h : UInt64) : UInt64 := Float64.sub (Float64.mul h f6) (Float64.ofInt (truncI (Float64.mul h f6)))
noncomputable abbrev pF (s v : UInt64) : UInt64 := Float64.mul v (Float64.sub f1 s)
noncomputable abbrev qF (h s v : UInt64) : UInt64 := Float64.mul v (Float64.sub f1 (Float64.mul s (fracF h)))
noncomputable abbrev tF (h s v : UInt64) : UInt64 := Float64.mul v (Float64.sub f1 (Float64.mul s (Float64.sub f1 (fracF h))))
noncomputable def toRgb (h s v : UInt64) : Option F3 :=
  if (Float64.cmp s 0 == some Ordering.eq) = true then some (v, v, v)
  else if Float64.isFinite (Float64.mul h f6) = true then
    if (truncI (Float64.mul h f6)).natAbs < 1000 then
      if (truncI (Float64.mul h f6)).fmod 6 = 0 then some (v, tF h s v, pF s v)
      else if (truncI (Float64.mul h f6)).fmod 6 = 1 then some (qF h s v, v, pF s v)
      else if (truncI (Float64.mul h f6)).fmod 6 = 2 then some (pF s v, v, tF h s v)
      else if (truncI (Float64.mul h f6)).fmod 6 = 3 then some (pF s v, qF h s v, v)
      else if (truncI (Float64.mul h f6)).fmod 6 = 4 then some (tF h s v, pF s v, v)
      else if (truncI (Float64.mul h f6)).fmod 6 = 5 then some (v, pF s v, qF h s v)
      else none
    else none
  else none

theorem pos_le {X tk : Nat} (h : 0 < X) (hle : X ≤ tk) : 0 < tk := Nat.lt_of_lt_of_le h hle
theorem gen_pos {α : Type} {M : Model} {A : Around} {t : Sem α} {Q : α → Shared → Prop} {E : Value → Shared → Prop} {h : Heap} {g : Array GenState} {d : Drawn} {X : Nat} {o : OsState} (hX : 0 < X) (k : ∀ tk, 0 < tk → wpAny M A t Q E ⟨h, g, d, tk, o⟩) : wpAny M A t Q E ⟨h, g, d, X, o⟩ := k X hX
/-- a def of three floats that hands back a new tuple of three floats -/
noncomputable abbrev FClaim (w : World) (mean : ExcName → Option Value) (mg mb : Str → Option Value) (f : Addr) (news : List (Addr × Obj)) (x y z : UInt64) (tx ty tz : Tok) (R : Option F3) : Prop :=
  ∀ (dp un : Nat) (gd : Option (List Code)) (cn : Str) (cs : Scope) (a : Addr) (ccd : Value) (cl : List (Str × Addr)) (outer : List Env) (A₀ : Around) (base h₀ : Heap) (L : Addr) (m : Str → Option Value) (s : Shared) (Q E : Value → Shared → Prop),
    Below A₀ base outer h₀ → Fr h₀ L s.heap m → (KT w.params).In h₀ → News h₀ L s.heap news → Top qV looseV mean mg mb h₀ → cs.kind = .function → 0 < s.toks → tx ≠ 0 → ty ≠ 0 → tz ≠ 0 →
    R.isSome = true → dp + 1 < recursionLimit → un + 8 < cLine →
    (∀ (D : Addr) (x y z : UInt64) (ta tb tc : Tok) (h' : Heap) (tk' : Nat), R = some (x, y, z) → Fr h₀ L h' m → News h₀ L h' ((D, { cls := Value.type "tuple", data := Data.seq #[Value.float x ta, Value.float y tb, Value.float z tc] }) :: news) → (∀ p ∈ news, p.1 < D) → (ta ≠ 0 ∧ tb ≠ 0 ∧ tc ≠ 0 ∧ 0 < tk') → Q (.ref D) { s with heap := h', toks := tk' }) →
    wpAny (model rwT.prog w) (ktrTop dp un gd cn cs L a ccd cl outer) (call (.ref f) [.float x tx, .float y ty, .float z tz]) Q E s

theorem ite_f {α : Type} {b : Bool} {x y : α} (h : b = false) : (if b = true then x else y) = y := by simp [h]
section
variable {x y z : UInt64}
theorem hsv_grey (h : (Float64.cmp (minF x y z) (maxF x y z) == some Ordering.eq) = true) : toHsv x y z = some (0, 0, maxF x y z) := by unfold toHsv; rw [if_pos h]
theorem hsv_r (h : (Float64.cmp (minF x y z) (maxF x y z) == some Ordering.eq) = false) (h1 : ¬ Float64.isZero (maxF x y z) = true) (h2 : ¬ Float64.isZero (Float64.sub (maxF x y z) (minF x y z)) = true) (h3 : (Float64.cmp x (maxF x y z) == some Ordering.eq) = true) :
    toHsv x y z = some ((Float64.divmod (Float64.div (Float64.sub (Float64.div (Float64.sub (maxF x y z) z) (Float64.sub (maxF x y z) (minF x y z))) (Float64.div (Float64.sub (maxF x y z) y) (Float64.sub (maxF x y z) (minF x y z)))) f6) f1).snd, Float64.div (Float64.sub (maxF x y z) (minF x y z)) (maxF x y z), maxF x y z) := by
  unfold toHsv hueF; rw [ite_f h, if_neg h1, if_neg h2, if_pos h3]
theorem hsv_g (h : (Float64.cmp (minF x y z) (maxF x y z) == some Ordering.eq) = false) (h1 : ¬ Float64.isZero (maxF x y z) = true) (h2 : ¬ Float64.isZero (Float64.sub (maxF x y z) (minF x y z)) = true) (h3 : (Float64.cmp x (maxF x y z) == some Ordering.eq) = false) (h4 : (Float64.cmp y (maxF x y z) == some Ordering.eq) = true) :
    toHsv x y z = some ((Float64.divmod (Float64.div (Float64.sub (Float64.add f2 (Float64.div (Float64.sub (maxF x y z) x) (Float64.sub (maxF x y z) (minF x y z)))) (Float64.div (Float64.sub (maxF x y z) z) (Float64.sub (maxF x y z) (minF x y z)))) f6) f1).snd, Float64.div (Float64.sub (maxF x y z) (minF x y z)) (maxF x y z), maxF x y z) := by
  unfold toHsv hueF; rw [ite_f h, if_neg h1, if_neg h2, ite_f h3, if_pos h4]
theorem hsv_b (h : (Float64.cmp (minF x y z) (maxF x y z) == some Ordering.eq) = false) (h1 : ¬ Float64.isZero (maxF x y z) = true) (h2 : ¬ Float64.isZero (Float64.sub (maxF x y z) (minF x y z)) = true) (h3 : (Float64.cmp x (maxF x y z) == some Ordering.eq) = false) (h4 : (Float64.cmp y (maxF x y z) == some Ordering.eq) = false) :
    toHsv x y z = some ((Float64.divmod (Float64.div (Float64.sub (Float64.add f4 (Float64.div (Float64.sub (maxF x y z) y) (Float64.sub (maxF x y z) (minF x y z)))) (Float64.div (Float64.sub (maxF x y z) x) (Float64.sub (maxF x y z) (minF x y z)))) f6) f1).snd, Float64.div (Float64.sub (maxF x y z) (minF x y z)) (maxF x y z), maxF x y z) := by
  unfold toHsv hueF; rw [ite_f h, if_neg h1, if_neg h2, ite_f h3, ite_f h4]
theorem hsv_no1 (hs : (toHsv x y z).isSome = true) (h : (Float64.cmp (minF x y z) (maxF x y z) == some Ordering.eq) = false) (h1 : Float64.isZero (maxF x y z) = true) : False := by
  unfold toHsv at hs; rw [ite_f h, if_pos h1] at hs; cases hs
theorem hsv_no2 (hs : (toHsv x y z).isSome = true) (h : (Float64.cmp (minF x y z) (maxF x y z) == some Ordering.eq) = false) (h1 : ¬ Float64.isZero (maxF x y z) = true) (h2 : Float64.isZero (Float64.sub (maxF x y z) (minF x y z)) = true) : False := by
  unfold toHsv at hs; rw [ite_f h, if_neg h1, if_pos h2] at hs; cases hs
end
set_option maxHeartbeats 4000000 in
theorem hsv_c (w : World) (mean : ExcName → Option Value) (mg mb : Str → Option Value) (x y z : UInt64) (tx ty tz : Tok) (news : List (Addr × Obj)) :
   FClaim w mean mg mb 35 news x y z tx ty tz (toHsv x y z) := by
  k_with_none
  k_with "call builtin:max" => ((with_reducible show wpAny _ _ (call _ [Value.float _ _, Value.float _ _, Value.float _ _]) _ _ _); (rename News _ _ _ _ => Nw9); (rename Fr _ _ _ _ => Fw9); refine max3_ff rfl Fw9 Nw9 ?_; clear Nw9; intro _ _ _ hlew9 hkw9 _ _; (replace hkw9 := hkw9 (by assumption) (by assumption) (by assumption)); (try dsimp only at hlew9); (have htkw9 := pos_le (by first | assumption | omega) hlew9))
  k_with "call builtin:min" => ((with_reducible show wpAny _ _ (call _ [Value.float _ _, Value.float _ _, Value.float _ _]) _ _ _); (rename News _ _ _ _ => Nw9); (rename Fr _ _ _ _ => Fw9); refine min3_ff rfl Fw9 Nw9 ?_; clear Nw9; intro _ _ _ hlew9 hkw9 _ _; (replace hkw9 := hkw9 (by assumption) (by assumption) (by assumption)); (try dsimp only at hlew9); (have htkw9 := pos_le (by first | assumption | omega) hlew9))
  k_with "execs cons" => (k_here; (refine gen_pos (by first | assumption | omega | (dsimp only; omega)) ?_); intro tkw9 htkw9; (with_reducible refine wpAny_execs_cons ?_); try dsimp only)
  dsimp only [FClaim]; k_fill; intros; rename_i hsome _ _ hret
  refine wpAny_call ?_
  k_dflt cell_enter
  k_steps
  all_goals first
    | (exfalso; first | exact hsv_no1 hsome (by assumption) (by assumption) | exact hsv_no2 hsome (by assumption) (by assumption) (by assumption))
    | (refine' hret _ _ _ _ _ _ _ _ _ ?e ?f ?n ?l ?t; (case f => k_asm); (case n => k_asm); (case t => (try dsimp only); refine ⟨?_, ?_, ?_, ?_⟩ <;> first | assumption | exact Nat.succ_ne_zero _ | exact Nat.ne_of_gt (by assumption) | exact Nat.succ_pos _ | omega); (case l => assumption); (case e => first | exact hsv_grey (by assumption) | exact hsv_r (by assumption) (by assumption) (by assumption) (by assumption) | exact hsv_g (by assumption) (by assumption) (by assumption) (by assumption) (by assumption) | exact hsv_b (by assumption) (by assumption) (by assumption) (by assumption) (by assumption)))
end Mine
end
section
open PySem PySem.W PyProof.Rows PySem.Spec PySem.Calls
set_option maxRecDepth 100000
namespace Mine
section
variable {x y z : UInt64}
theorem hls_grey (h : (Float64.cmp (minF x y z) (maxF x y z) == some Ordering.eq) = true) : toHls x y z = some (0, Float64.div (Float64.add (maxF x y z) (minF x y z)) f2, 0) := by unfold toHls; rw [if_pos h]
theorem hls_lo_r (h : (Float64.cmp (minF x y z) (maxF x y z) == some Ordering.eq) = false) (hc : (Float64.cmp (Float64.div (Float64.add (maxF x y z) (minF x y z)) f2) fh == some Ordering.lt || Float64.cmp (Float64.div (Float64.add (maxF x y z) (minF x y z)) f2) fh == some Ordering.eq) = true) (h1 : ¬ Float64.isZero (Float64.add (maxF x y z) (minF x y z)) = true) (h2 : ¬ Float64.isZero (Float64.sub (maxF x y z) (minF x y z)) = true) (h3 : (Float64.cmp x (maxF x y z) == some Ordering.eq) = true) :
    toHls x y z = some ((Float64.divmod (Float64.div (Float64.sub (Float64.div (Float64.sub (maxF x y z) z) (Float64.sub (maxF x y z) (minF x y z))) (Float64.div (Float64.sub (maxF x y z) y) (Float64.sub (maxF x y z) (minF x y z)))) f6) f1).snd, Float64.div (Float64.add (maxF x y z) (minF x y z)) f2, Float64.div (Float64.sub (maxF x y z) (minF x y z)) (Float64.add (maxF x y z) (minF x y z))) := by
  unfold toHls hueF; rw [ite_f h, if_pos hc, if_neg h1, if_neg h2, if_pos h3]
theorem hls_lo_g (h : (Float64.cmp (minF x y z) (maxF x y z) == some Ordering.eq) = false) (hc : (Float64.cmp (Float64.div (Float64.add (maxF x y z) (minF x y z)) f2) fh == some Ordering.lt || Float64.cmp (Float64.div (Float64.add (maxF x y z) (minF x y z)) f2) fh == some Ordering.eq) = true) (h1 : ¬ Float64.isZero (Float64.add (maxF x y z) (minF x y z)) = true) (h2 : ¬ Float64.isZero (Float64.sub (maxF x y z) (minF x y z)) = true) (h3 : (Float64.cmp x (maxF x y z) == some Ordering.eq) = false) (h4 : (Float64.cmp y (maxF x y z) == some Ordering.eq) = true) :
    toHls x y z = some ((Float64.divmod (Float64.div (Float64.sub (Float64.add f2 (Float64.div (Float64.sub (maxF x y z) x) (Float64.sub (maxF x y z) (minF x y z)))) (Float64.div (Float64.sub (maxF x y z) z) (Float64.sub (maxF x y z) (minF x y z)))) f6) f1).snd, Float64.div (Float64.add (maxF x y z) (minF x y z)) f2, Float64.div (Float64.sub (maxF x y z) (minF x y z)) (Float64.add (maxF x y z) (minF x y z))) := by
  unfold toHls hueF; rw [ite_f h, if_pos hc, if_neg h1, if_neg h2, ite_f h3, if_pos h4]
theorem hls_lo_b (h : (Float64.cmp (minF x y z) (maxF x y z) == some Ordering.eq) = false) (hc : (Float64.cmp (Float64.div (Float64.add (maxF x y z) (minF x y z)) f2) fh == some Ordering.lt || Float64.cmp (Float64.div (Float64.add (maxF x y z) (minF x y z)) f2) fh == some Ordering.eq) = true) (h1 : ¬ Float64.isZero (Float64.add (maxF x y z) (minF x y z)) = true) (h2 : ¬ Float64.isZero (Float64.sub (maxF x y z) (minF x y z)) = true) (h3 : (Float64.cmp x (maxF x y z) == some Ordering.eq) = false) (h4 : (Float64.cmp y (maxF x y z) == some Ordering.eq) = false) :
    toHls x y z = some ((Float64.divmod (Float64.div (Float64.sub (Float64.add f4 (Float64.div (Float64.sub (maxF x y z) y) (Float64.sub (maxF x y z) (minF x y z)))) (Float64.div (Float64.sub (maxF x y z) x) (Float64.sub (maxF x y z) (minF x y z)))) f6) f1).snd, Float64.div (Float64.add (maxF x y z) (minF x y z)) f2, Float64.div (Float64.sub (maxF x y z) (minF x y z)) (Float64.add (maxF x y z) (minF x y z))) := by
  unfold toHls hueF; rw [ite_f h, if_pos hc, if_neg h1, if_neg h2, ite_f h3, ite_f h4]
theorem hls_lo_no1 (hs : (toHls x y z).isSome = true) (h : (Float64.cmp (minF x y z) (maxF x y z) == some Ordering.eq) = false) (hc : (Float64.cmp (Float64.div (Float64.add (maxF x y z) (minF x y z)) f2) fh == some Ordering.lt || Float64.cmp (Float64.div (Float64.add (maxF x y z) (minF x y z)) f2) fh == some Ordering.eq) = true) (h1 : Float64.isZero (Float64.add (maxF x y z) (minF x y z)) = true) : False := by
  unfold toHls at hs; rw [ite_f h, if_pos hc, if_pos h1] at hs; cases hs
theorem hls_lo_no2 (hs : (toHls x y z).isSome = true) (h : (Float64.cmp (minF x y z) (maxF x y z) == some Ordering.eq) = false) (hc : (Float64.cmp (Float64.div (Float64.add (maxF x y z) (minF x y z)) f2) fh == some Ordering.lt || Float64.cmp (Float64.div (Float64.add (maxF x y z) (minF x y z)) f2) fh == some Ordering.eq) = true) (h1 : ¬ Float64.isZero (Float64.add (maxF x y z) (minF x y z)) = true) (h2 : Float64.isZero (Float64.sub (maxF x y z) (minF x y z)) = true) : False := by
  unfold toHls at hs; rw [ite_f h, if_pos hc, if_neg h1, if_pos h2] at hs; cases hs
theorem hls_hi_r (h : (Float64.cmp (minF x y z) (maxF x y z) == some Ordering.eq) = false) (hc : (Float64.cmp (Float64.div (Float64.add (maxF x y z) (minF x y z)) f2) fh == some Ordering.lt || Float64.cmp (Float64.div (Float64.add (maxF x y z) (minF x y z)) f2) fh == some Ordering.eq) = false) (h1 : ¬ Float64.isZero (Float64.sub (Float64.sub f2 (maxF x y z)) (minF x y z)) = true) (h2 : ¬ Float64.isZero (Float64.sub (maxF x y z) (minF x y z)) = true) (h3 : (Float64.cmp x (maxF x y z) == some Ordering.eq) = true) :
    toHls x y z = some ((Float64.divmod (Float64.div (Float64.sub (Float64.div (Float64.sub (maxF x y z) z) (Float64.sub (maxF x y z) (minF x y z))) (Float64.div (Float64.sub (maxF x y z) y) (Float64.sub (maxF x y z) (minF x y z)))) f6) f1).snd, Float64.div (Float64.add (maxF x y z) (minF x y z)) f2, Float64.div (Float64.sub (maxF x y z) (minF x y z)) (Float64.sub (Float64.sub f2 (maxF x y z)) (minF x y z))) := by
  unfold toHls hueF; rw [ite_f h, ite_f hc, if_neg h1, if_neg h2, if_pos h3]
theorem hls_hi_g (h : (Float64.cmp (minF x y z) (maxF x y z) == some Ordering.eq) = false) (hc : (Float64.cmp (Float64.div (Float64.add (maxF x y z) (minF x y z)) f2) fh == some Ordering.lt || Float64.cmp (Float64.div (Float64.add (maxF x y z) (minF x y z)) f2) fh == some Ordering.eq) = false) (h1 : ¬ Float64.isZero (Float64.sub (Float64.sub f2 (maxF x y z)) (minF x y z)) = true) (h2 : ¬ Float64.isZero (Float64.sub (maxF x y z) (minF x y z)) = true) (h3 : (Float64.cmp x (maxF x y z) == some Ordering.eq) = false) (h4 : (Float64.cmp y (maxF x y z) == some Ordering.eq) = true) :
    toHls x y z = some ((Float64.divmod (Float64.div (Float64.sub (Float64.add f2 (Float64.div (Float64.sub (maxF x y z) x) (Float64.sub (maxF x y z) (minF x y z)))) (Float64.div (Float64.sub (maxF x y z) z) (Float64.sub (maxF x y z) (minF x y z)))) f6) f1).snd, Float64.div (Float64.add (maxF x y z) (minF x y z)) f2, Float64.div (Float64.sub (maxF x y z) (minF x y z)) (Float64.sub (Float64.sub f2 (maxF x y z)) (minF x y z))) := by
  unfold toHls hueF; rw [ite_f h, ite_f hc, if_neg h1, if_neg h2, ite_f h3, if_pos h4]
theorem hls_hi_b (h : (Float64.cmp (minF x y z) (maxF x y z) == some Ordering.eq) = false) (hc : (Float64.cmp (Float64.div (Float64.add (maxF x y z) (minF x y z)) f2) fh == some Ordering.lt || Float64.cmp (Float64.div (Float64.add (maxF x y z) (minF x y z)) f2) fh == some Ordering.eq) = false) (h1 : ¬ Float64.isZero (Float64.sub (Float64.sub f2 (maxF x y z)) (minF x y z)) = true) (h2 : ¬ Float64.isZero (Float64.sub (maxF x y z) (minF x y z)) = true) (h3 : (Float64.cmp x (maxF x y z) == some Ordering.eq) = false) (h4 : (Float64.cmp y (maxF x y z) == some Ordering.eq) = false) :
    toHls x y z = some ((Float64.divmod (Float64.div (Float64.sub (Float64.add f4 (Float64.div (Float64.sub (maxF x y z) y) (Float64.sub (maxF x y z) (minF x y z)))) (Float64.div (Float64.sub (maxF x y z) x) (Float64.sub (maxF x y z) (minF x y z)))) f6) f1).snd, Float64.div (Float64.add (maxF x y z) (minF x y z)) f2, Float64.div (Float64.sub (maxF x y z) (minF x y z)) (Float64.sub (Float64.sub f2 (maxF x y z)) (minF x y z))) := by
  unfold toHls hueF; rw [ite_f h, ite_f hc, if_neg h1, if_neg h2, ite_f h3, ite_f h4]
theorem hls_hi_no1 (hs : (toHls x y z).isSome = true) (h : (Float64.cmp (minF x y z) (maxF x y z) == some Ordering.eq) = false) (hc : (Float64.cmp (Float64.div (Float64.add (maxF x y z) (minF x y z)) f2) fh == some Ordering.lt || Float64.cmp (Float64.div (Float64.add (maxF x y z) (minF x y z)) f2) fh == some Ordering.eq) = false) (h1 : Float64.isZero (Float64.sub (Float64.sub f2 (maxF x y z)) (minF x y z)) = true) : False := by
  unfold toHls at hs; rw [ite_f h, ite_f hc, if_pos h1] at hs; cases hs
theorem hls_hi_no2 (hs : (toHls x y z).isSome = true) (h : (Float64.cmp (minF x y z) (maxF x y z) == some Ordering.eq) = false) (hc : (Float64.cmp (Float64.div (Float64.add (maxF x y z) (minF x y z)) f2) fh == some Ordering.lt || Float64.cmp (Float64.div (Float64.add (maxF x y z) (minF x y z)) f2) fh == some Ordering.eq) = false) (h1 : ¬ Float64.isZero (Float64.sub (Float64.sub f2 (maxF x y z)) (minF x y z)) = true) (h2 : Float64.isZero (Float64.sub (maxF x y z) (minF x y z)) = true) : False := by
  unfold toHls at hs; rw [ite_f h, ite_f hc, if_neg h1, if_pos h2] at hs; cases hs
end
set_option maxHeartbeats 4000000 in
theorem hls_c (w : World) (mean : ExcName → Option Value) (mg mb : Str → Option Value) (x y z : UInt64) (tx ty tz : Tok) (news : List (Addr × Obj)) :
   FClaim w mean mg mb 28 news x y z tx ty tz (toHls x y z) := by
  k_with_none
  k_with "call builtin:max" => ((with_reducible show wpAny _ _ (call _ [Value.float _ _, Value.float _ _, Value.float _ _]) _ _ _); (rename News _ _ _ _ => Nw9); (rename Fr _ _ _ _ => Fw9); refine max3_ff rfl Fw9 Nw9 ?_; clear Nw9; intro _ _ _ hlew9 hkw9 _ _; (replace hkw9 := hkw9 (by assumption) (by assumption) (by assumption)); (try dsimp only at hlew9); (have htkw9 := pos_le (by first | assumption | omega) hlew9))
  k_with "call builtin:min" => ((with_reducible show wpAny _ _ (call _ [Value.float _ _, Value.float _ _, Value.float _ _]) _ _ _); (rename News _ _ _ _ => Nw9); (rename Fr _ _ _ _ => Fw9); refine min3_ff rfl Fw9 Nw9 ?_; clear Nw9; intro _ _ _ hlew9 hkw9 _ _; (replace hkw9 := hkw9 (by assumption) (by assumption) (by assumption)); (try dsimp only at hlew9); (have htkw9 := pos_le (by first | assumption | omega) hlew9))
  k_with "execs cons" => (k_here; (refine gen_pos (by first | assumption | omega | (dsimp only; omega)) ?_); intro tkw9 htkw9; (with_reducible refine wpAny_execs_cons ?_); try dsimp only)
  dsimp only [FClaim]; k_fill; intros; rename_i hsome _ _ hret
  refine wpAny_call ?_
  k_dflt cell_enter
  k_steps
  all_goals first
    | (exfalso; first | exact hls_lo_no1 hsome (by assumption) (by assumption) (by assumption) | exact hls_lo_no2 hsome (by assumption) (by assumption) (by assumption) (by assumption) | exact hls_hi_no1 hsome (by assumption) (by assumption) (by assumption) | exact hls_hi_no2 hsome (by assumption) (by assumption) (by assumption) (by assumption))
    | (refine' hret _ _ _ _ _ _ _ _ _ ?e ?f ?n ?l ?t; (case f => k_asm); (case n => k_asm); (case t => (try dsimp only); refine ⟨?_, ?_, ?_, ?_⟩ <;> first | assumption | exact Nat.succ_ne_zero _ | exact Nat.ne_of_gt (by assumption) | exact Nat.succ_pos _ | omega); (case l => assumption); (case e => first | exact hls_grey (by assumption) | exact hls_lo_r (by assumption) (by assumption) (by assumption) (by assumption) (by assumption) | exact hls_lo_g (by assumption) (by assumption) (by assumption) (by assumption) (by assumption) (by assumption) | exact hls_lo_b (by assumption) (by assumption) (by assumption) (by assumption) (by assumption) (by assumption) | exact hls_hi_r (by assumption) (by assumption) (by assumption) (by assumption) (by assumption) | exact hls_hi_g (by assumption) (by assumption) (by assumption) (by assumption) (by assumption) (by assumption) | exact hls_hi_b (by assumption) (by assumption) (by assumption) (by assumption) (by assumption) (by assumption)))
section
variable {x y z : UInt64}
theorem rgb_grey (h : (Float64.cmp y 0 == some Ordering.eq) = true) : toRgb x y z = some (z, z, z) := by unfold toRgb; rw [if_pos h]
theorem rgb_facts (hs : (toRgb x y z).isSome = true) (h : (Float64.cmp y 0 == some Ordering.eq) = false) : Float64.isFinite (Float64.mul x f6) = true ∧ (truncI (Float64.mul x f6)).natAbs < 1000 := by
  unfold toRgb at hs; rw [ite_f h] at hs
  by_cases hf : Float64.isFinite (Float64.mul x f6) = true
  · rw [if_pos hf] at hs
    by_cases hn : (truncI (Float64.mul x f6)).natAbs < 1000
    · exact ⟨hf, hn⟩
    · rw [if_neg hn] at hs; cases hs
  · rw [if_neg hf] at hs; cases hs
theorem rgb_0 (hs : (toRgb x y z).isSome = true) (h : (Float64.cmp y 0 == some Ordering.eq) = false)  (e : (truncI (Float64.mul x f6)).fmod 6 = 0) : toRgb x y z = some (z, tF x y z, pF y z) := by
  obtain ⟨hf, hn⟩ := rgb_facts hs h
  unfold toRgb; rw [ite_f h, if_pos hf, if_pos hn, if_pos e]
theorem rgb_1 (hs : (toRgb x y z).isSome = true) (h : (Float64.cmp y 0 == some Ordering.eq) = false) (n0 : (truncI (Float64.mul x f6)).fmod 6 ≠ 0) (e : (truncI (Float64.mul x f6)).fmod 6 = 1) : toRgb x y z = some (qF x y z, z, pF y z) := by
  obtain ⟨hf, hn⟩ := rgb_facts hs h
  unfold toRgb; rw [ite_f h, if_pos hf, if_pos hn, if_neg n0, if_pos e]
theorem rgb_2 (hs : (toRgb x y z).isSome = true) (h : (Float64.cmp y 0 == some Ordering.eq) = false) (n0 : (truncI (Float64.mul x f6)).fmod 6 ≠ 0) (n1 : (truncI (Float64.mul x f6)).fmod 6 ≠ 1) (e : (truncI (Float64.mul x f6)).fmod 6 = 2) : toRgb x y z = some (pF y z, z, tF x y z) := by
  obtain ⟨hf, hn⟩ := rgb_facts hs h
  unfold toRgb; rw [ite_f h, if_pos hf, if_pos hn, if_neg n0, if_neg n1, if_pos e]
theorem rgb_3 (hs : (toRgb x y z).isSome = true) (h : (Float64.cmp y 0 == some Ordering.eq) = false) (n0 : (truncI (Float64.mul x f6)).fmod 6 ≠ 0) (n1 : (truncI (Float64.mul x f6)).fmod 6 ≠ 1) (n2 : (truncI (Float64.mul x f6)).fmod 6 ≠ 2) (e : (truncI (Float64.mul x f6)).fmod 6 = 3) : toRgb x y z = some (pF y z, qF x y z, z) := by
  obtain ⟨hf, hn⟩ := rgb_facts hs h
  unfold toRgb; rw [ite_f h, if_pos hf, if_pos hn, if_neg n0, if_neg n1, if_neg n2, if_pos e]
theorem rgb_4 (hs : (toRgb x y z).isSome = true) (h : (Float64.cmp y 0 == some Ordering.eq) = false) (n0 : (truncI (Float64.mul x f6)).fmod 6 ≠ 0) (n1 : (truncI (Float64.mul x f6)).fmod 6 ≠ 1) (n2 : (truncI (Float64.mul x f6)).fmod 6 ≠ 2) (n3 : (truncI (Float64.mul x f6)).fmod 6 ≠ 3) (e : (truncI (Float64.mul x f6)).fmod 6 = 4) : toRgb x y z = some (tF x y z, pF y z, z) := by
  obtain ⟨hf, hn⟩ := rgb_facts hs h
  unfold toRgb; rw [ite_f h, if_pos hf, if_pos hn, if_neg n0, if_neg n1, if_neg n2, if_neg n3, if_pos e]
theorem rgb_5 (hs : (toRgb x y z).isSome = true) (h : (Float64.cmp y 0 == some Ordering.eq) = false) (n0 : (truncI (Float64.mul x f6)).fmod 6 ≠ 0) (n1 : (truncI (Float64.mul x f6)).fmod 6 ≠ 1) (n2 : (truncI (Float64.mul x f6)).fmod 6 ≠ 2) (n3 : (truncI (Float64.mul x f6)).fmod 6 ≠ 3) (n4 : (truncI (Float64.mul x f6)).fmod 6 ≠ 4) (e : (truncI (Float64.mul x f6)).fmod 6 = 5) : toRgb x y z = some (z, pF y z, qF x y z) := by
  obtain ⟨hf, hn⟩ := rgb_facts hs h
  unfold toRgb; rw [ite_f h, if_pos hf, if_pos hn, if_neg n0, if_neg n1, if_neg n2, if_neg n3, if_neg n4, if_pos e]
theorem rgb_noNaN (hs : (toRgb x y z).isSome = true) (h : (Float64.cmp y 0 == some Ordering.eq) = false) (e : Float64.isNaN (Float64.mul x f6) = true) : False := by
  obtain ⟨hf, hn⟩ := rgb_facts hs h
  unfold Float64.isFinite at hf; unfold Float64.isNaN at e
  split at hf <;> simp_all
theorem rgb_noInf (hs : (toRgb x y z).isSome = true) (h : (Float64.cmp y 0 == some Ordering.eq) = false) (e : Float64.isInf (Float64.mul x f6) = true) : False := by
  obtain ⟨hf, hn⟩ := rgb_facts hs h
  unfold Float64.isFinite at hf; unfold Float64.isInf at e
  split at hf <;> simp_all
theorem rgb_noBig (hs : (toRgb x y z).isSome = true) (h : (Float64.cmp y 0 == some Ordering.eq) = false) (e : 2 ^ 1024 - 2 ^ 970 ≤ (truncI (Float64.mul x f6)).natAbs) : False := by
  obtain ⟨hf, hn⟩ := rgb_facts hs h
  have : 1000 ≤ 2 ^ 1024 - 2 ^ 970 := by decide +kernel
  exact absurd hn (Nat.not_lt.mpr (Nat.le_trans this e))
theorem rgb_no6 (hs : (toRgb x y z).isSome = true) (h : (Float64.cmp y 0 == some Ordering.eq) = false) (n0 : (truncI (Float64.mul x f6)).fmod 6 ≠ 0) (n1 : (truncI (Float64.mul x f6)).fmod 6 ≠ 1) (n2 : (truncI (Float64.mul x f6)).fmod 6 ≠ 2) (n3 : (truncI (Float64.mul x f6)).fmod 6 ≠ 3) (n4 : (truncI (Float64.mul x f6)).fmod 6 ≠ 4) (n5 : (truncI (Float64.mul x f6)).fmod 6 ≠ 5) : False := by
  obtain ⟨hf, hn⟩ := rgb_facts hs h
  unfold toRgb at hs; rw [ite_f h, if_pos hf, if_pos hn, if_neg n0, if_neg n1, if_neg n2, if_neg n3, if_neg n4, if_neg n5] at hs; cases hs
end
set_option maxHeartbeats 4000000 in
theorem rgb_c (w : World) (mean : ExcName → Option Value) (mg mb : Str → Option Value) (x y z : UInt64) (tx ty tz : Tok) (news : List (Addr × Obj)) :
   FClaim w mean mg mb 42 news x y z tx ty tz (toRgb x y z) := by
  k_with_none
  k_with "call builtin:max" => ((with_reducible show wpAny _ _ (call _ [Value.float _ _, Value.float _ _, Value.float _ _]) _ _ _); (rename News _ _ _ _ => Nw9); (rename Fr _ _ _ _ => Fw9); refine max3_ff rfl Fw9 Nw9 ?_; clear Nw9; intro _ _ _ hlew9 hkw9 _ _; (replace hkw9 := hkw9 (by assumption) (by assumption) (by assumption)); (try dsimp only at hlew9); (have htkw9 := pos_le (by first | assumption | omega) hlew9))
  k_with "call builtin:min" => ((with_reducible show wpAny _ _ (call _ [Value.float _ _, Value.float _ _, Value.float _ _]) _ _ _); (rename News _ _ _ _ => Nw9); (rename Fr _ _ _ _ => Fw9); refine min3_ff rfl Fw9 Nw9 ?_; clear Nw9; intro _ _ _ hlew9 hkw9 _ _; (replace hkw9 := hkw9 (by assumption) (by assumption) (by assumption)); (try dsimp only at hlew9); (have htkw9 := pos_le (by first | assumption | omega) hlew9))
  k_with "execs cons" => (k_here; (refine gen_pos (by first | assumption | omega | (dsimp only; omega)) ?_); intro tkw9 htkw9; (with_reducible refine wpAny_execs_cons ?_); try dsimp only)
  dsimp only [FClaim]; k_fill; intros; rename_i hsome _ _ hret
  refine wpAny_call ?_
  k_dflt cell_enter
  k_steps
  all_goals first
    | (exfalso; first | exact rgb_noNaN hsome (by assumption) (by assumption) | exact rgb_noInf hsome (by assumption) (by assumption) | exact rgb_noBig hsome (by assumption) (by assumption) | exact rgb_no6 hsome (by assumption) (by assumption) (by assumption) (by assumption) (by assumption) (by assumption) (by assumption))
    | (refine' hret _ _ _ _ _ _ _ _ _ ?e ?f ?n ?l ?t; (case f => k_asm); (case n => k_asm); (case t => (try dsimp only); refine ⟨?_, ?_, ?_, ?_⟩ <;> first | assumption | exact Nat.succ_ne_zero _ | exact Nat.ne_of_gt (by assumption) | exact Nat.succ_pos _ | omega); (case l => assumption); (case e => first | exact rgb_grey (by assumption) | exact rgb_0 hsome (by assumption) (by assumption) | exact rgb_1 hsome (by assumption) (by assumption) (by assumption) | exact rgb_2 hsome (by assumption) (by assumption) (by assumption) (by assumption) | exact rgb_3 hsome (by assumption) (by assumption) (by assumption) (by assumption) (by assumption) | exact rgb_4 hsome (by assumption) (by assumption) (by assumption) (by assumption) (by assumption) (by assumption) | exact rgb_5 hsome (by assumption) (by assumption) (by assumption) (by assumption) (by assumption) (by assumption) (by assumption)))
end Mine
end
section
open PySem PySem.W PyProof.Rows PySem.Spec PySem.Calls
set_option maxRecDepth 100000
namespace Mine
local macro_rules | `(tactic| k_fmods) => `(tactic| skip)
theorem getD_range (b : Int) (hb : 0 ≤ b) : ∀ (l : List Int) (i : Nat), (l.all fun x => decide (0 ≤ x) && decide (x ≤ b)) = true → 0 ≤ l.getD i 0 ∧ l.getD i 0 ≤ b
  | [], i, _ => by simp [hb]
  | x :: l, 0, h => by
    simp only [List.all_cons, Bool.and_eq_true, decide_eq_true_eq] at h
    simpa using h.1
  | x :: l, i + 1, h => by
    simp only [List.all_cons, Bool.and_eq_true, decide_eq_true_eq] at h
    have := getD_range b hb l i (by simpa using h.2)
    simpa using this
noncomputable abbrev tbl11 : List Int := [173, 847, 6150, 6155, 6156, 6157, 8203, 8204, 8205, 8288, 65279]
noncomputable abbrev tbl10 : List Int := [119808, 119860, 119912, 120016, 120172, 120224, 120276, 120328, 120380, 120432]
theorem rng11 (i : Nat) : 0 ≤ tbl11.getD i 0 ∧ tbl11.getD i 0 ≤ 1114111 := getD_range 1114111 (by decide) tbl11 i (by decide)
theorem rngLig {f k : Int} : 0 ≤ [64261 + f.fmod 2, 8482, 8480].getD (k.fdiv 2).toNat 0 ∧ [64261 + f.fmod 2, 8482, 8480].getD (k.fdiv 2).toNat 0 ≤ 1114111 := by
  have h1 : 0 ≤ f.fmod 2 := Int.fmod_nonneg_of_pos _ (by decide)
  have h2 : f.fmod 2 < 2 := Int.fmod_lt_of_pos _ (by decide)
  refine getD_range 1114111 (by decide) _ _ ?_
  simp only [List.all_cons, List.all_nil, Bool.and_true, Bool.and_eq_true, decide_eq_true_eq]
  omega
theorem tbl10_lo : ∀ i : Fin 10, 119808 ≤ tbl10.getD i.1 0 := by decide
theorem rngMath (f : Int) (j : Nat) : 0 ≤ tbl10.getD (f.fmod 12 - 2).toNat 0 + [115, 116, 109].getD j 0 - 97 ∧ tbl10.getD (f.fmod 12 - 2).toNat 0 + [115, 116, 109].getD j 0 - 97 ≤ 1114111 := by
  have h2 : f.fmod 12 < 12 := Int.fmod_lt_of_pos _ (by decide)
  have hi : (f.fmod 12 - 2).toNat < 10 := by omega
  generalize (f.fmod 12 - 2).toNat = i at hi
  have a := getD_range 120432 (by decide) tbl10 i (by decide)
  have b := getD_range 116 (by decide) [115, 116, 109] j (by decide)
  have c : 119808 ≤ tbl10.getD i 0 := tbl10_lo ⟨i, hi⟩
  generalize tbl10.getD i 0 = u at *
  generalize [115, 116, 109].getD j 0 = v at *
  clear hi h2
  omega
noncomputable def signStr (k f : Int) : Str :=
  if k = 6 then (if f.fmod 27 < 16 then ⟨#[(65024 + f.fmod 27).toNat]⟩ else ⟨#[(tbl11.getD (f.fmod 27 - 16).toNat 0).toNat]⟩)
  else if k.fmod 2 = 1 then ⟨#[([64261 + f.fmod 2, 8482, 8480].getD (k.fdiv 2).toNat 0).toNat]⟩
  else if f.fmod 12 < 2 then (if f.fmod 12 = 0 then Txt.item (Str.ofString "stm") (k.fdiv 2) else Txt.upper (Txt.item (Str.ofString "stm") (k.fdiv 2)))
  else ⟨#[(tbl10.getD (f.fmod 12 - 2).toNat 0 + [115, 116, 109].getD (k.fdiv 2).toNat 0 - 97).toNat]⟩
section
variable {k f : Int}
theorem sign_1 (h : k = 6) (h1 : f.fmod 27 < 16) : (⟨#[(65024 + f.fmod 27).toNat]⟩ : Str) = signStr k f := by unfold signStr; rw [if_pos h, if_pos h1]
theorem sign_2 (h : k = 6) (h1 : ¬ f.fmod 27 < 16) : (⟨#[(tbl11.getD (f.fmod 27 - 16).toNat 0).toNat]⟩ : Str) = signStr k f := by unfold signStr; rw [if_pos h, if_neg h1]
theorem sign_3 (h : k ≠ 6) (h1 : k.fmod 2 = 1) : (⟨#[([64261 + f.fmod 2, 8482, 8480].getD (k.fdiv 2).toNat 0).toNat]⟩ : Str) = signStr k f := by unfold signStr; rw [if_neg h, if_pos h1]
theorem sign_4 (h : k ≠ 6) (h1 : k.fmod 2 ≠ 1) (h2 : f.fmod 12 < 2) : (if f.fmod 12 = 0 then Txt.item (Str.ofString "stm") (k.fdiv 2) else Txt.upper (Txt.item (Str.ofString "stm") (k.fdiv 2))) = signStr k f := by unfold signStr; rw [if_neg h, if_neg h1, if_pos h2]
theorem sign_5 (h : k ≠ 6) (h1 : k.fmod 2 ≠ 1) (h2 : ¬ f.fmod 12 < 2) : (⟨#[(tbl10.getD (f.fmod 12 - 2).toNat 0 + [115, 116, 109].getD (k.fdiv 2).toNat 0 - 97).toNat]⟩ : Str) = signStr k f := by unfold signStr; rw [if_neg h, if_neg h1, if_neg h2]
end
section
variable {prog : Program} {w : World} {A : Around} {E : Value → Shared → Prop} {s : Shared} {Q : Value → Shared → Prop} {l : Addr} {x y : Str} {t u v : Tok} {i : Int} {value slice : PySem.Expr}
theorem item_two (hl : s.heap.IsList l #[.str x t, .str y u]) (h0 : 0 ≤ i) (h1 : i < 2) (h : ∀ k, Q (.str (if i = 0 then x else y) k) s)
    (hs : subscripted slice false (.ref l) (.int i v) = operate [.ref l, .int i v] (getItem (.ref l) (.int i v)) := by with_unfolding_all rfl) :
    wpAny (model prog w) A (subscriptTail value slice (.ref l) (.int i v)) Q E s := by
  rcases (by omega : i = 0 ∨ i = 1) with rfl | rfl
  · exact tail_any hl.typeIs slot_list_getitem.lookup (wpAny_getItem_list hl (by decide) (by decide) rfl (h t)) hs
  · exact tail_any hl.typeIs slot_list_getitem.lookup (wpAny_getItem_list hl (by decide) (by decide) rfl (h u)) hs
end
set_option maxHeartbeats 4000000 in
theorem sign_c (w : World) (mean : ExcName → Option Value) (mg mb : Str → Option Value) (k f : Int) (tx ty : Tok) (news : List (Addr × Obj)) :
   CbClaim rwT.prog w (KT w.params) qV looseV mean mg mb 113 news [] (0 ≤ k ∧ k ≤ 6 ∧ 0 ≤ f ∧ f ≤ 2000) [.int k tx, .int f ty] (fun t => .str (signStr k f) t) := by
  k_with_none
  k_with "call builtin:chr" => ((with_reducible show wpAny _ _ (call (Value.builtin "chr") [Value.int _ _]) _ _ _); first | refine chr_of_range (rng11 _).1 (rng11 _).2 ?_ | refine chr_of_range rngLig.1 rngLig.2 ?_ | refine chr_of_range (rngMath _ _).1 (rngMath _ _).2 ?_)
  k_with "subscriptTail" => (k_here; (with_reducible show wpAny _ _ (subscriptTail _ _ (Value.ref _) (Value.int (Int.fmod _ 12) _)) _ _ _); (with_unfolding_all refine' item_two ?k1w9 ?k2w9 ?k3w9 ?_ ?k4w9); (case k1w9 => is_list); (case k2w9 => exact Int.fmod_nonneg_of_pos _ (by decide)); (case k3w9 => assumption); (case k4w9 => with_unfolding_all rfl); k_whole; intro _)
  dsimp only [CbClaim, CbLists, CbRet]; k_fill; intros; rename_i hpre _ _ hret
  obtain ⟨h1, h2, h3, h4⟩ := hpre
  refine wpAny_call ?_
  k_dflt cell_enter
  k_steps
  all_goals (refine' cb_retS hret ?e ?f ?n; (case f => k_asm); (case n => first | k_asm | (refine' cb_drop ?cbN ?cbS; (case cbN => assumption); (case cbS => kcj_all))); (case e => first | exact sign_1 (by assumption) (by assumption) | exact sign_2 (by assumption) (by assumption) | exact sign_3 (by assumption) (by assumption) | exact sign_4 (by assumption) (by assumption) (by assumption) | exact sign_5 (by assumption) (by assumption) (by assumption)))
end Mine
end
section
open PySem PySem.W PyProof.Rows PySem.Spec PySem.Calls
set_option maxRecDepth 100000
namespace Mine
local macro_rules | `(tactic| k_fmods) => `(tactic| skip)
/-! table B.1 -/
noncomputable def b1es (P : Params) : List (Int × Value) := match (x50_8 P).data with
  | .set es _ _ => es.toList
  | _ => []
noncomputable def b1In (k : Int) : Bool := ([65024, 65025, 65026, 65027, 65028, 65029, 6150, 65030, 65031, 65032, 65033, 6155, 6156, 6157, 8203, 8204, 8205, 65034, 65035, 65036, 65037, 65038, 65039, 173, 847, 8288, 65279] : List Int).contains k
theorem b1_elems (P : Params) : ∀ e ∈ b1es P, ∃ k t, e = (hashInt k, .int k t) ∧ b1In k = true := by
  intro e he
  simp only [b1es, x50_8, List.mem_cons, List.not_mem_nil, or_false] at he
  rcases he with rfl | rfl | rfl | rfl | rfl | rfl | rfl | rfl | rfl | rfl | rfl | rfl | rfl | rfl | rfl | rfl | rfl | rfl | rfl | rfl | rfl | rfl | rfl | rfl | rfl | rfl | rfl <;> exact ⟨_, _, Prod.ext (by decide +kernel) rfl, by decide +kernel⟩
noncomputable def intOf : Value → Option Int
  | .int k _ => some k
  | _ => none
theorem isInt_of {k : Int} : ∀ {v : Value}, intOf v = some k → Value.isInt k v = true := by
  intro v h
  unfold intOf at h
  split at h
  · cases h; simp [Value.isInt]
  · cases h
theorem b1_ints (P : Params) : ((b1es P).map fun e => intOf e.2) = ([65024, 65025, 65026, 65027, 65028, 65029, 6150, 65030, 65031, 65032, 65033, 6155, 6156, 6157, 8203, 8204, 8205, 65034, 65035, 65036, 65037, 65038, 65039, 173, 847, 8288, 65279] : List Int).map some := by kernel_rfl
theorem b1_all (P : Params) (k : Int) (h : b1In k = true) : ∃ e ∈ b1es P, Value.isInt k e.2 = true := by
  unfold b1In at h
  rw [List.contains_iff_mem] at h
  have h' := List.mem_map_of_mem (f := some) h
  rw [← b1_ints P] at h'
  obtain ⟨e, he, h2⟩ := List.mem_map.mp h'
  exact ⟨e, he, isInt_of h2⟩
theorem b1_set {prog : Program} {w : World} {P : Params} {h : Heap} (X : (KT P).In h) : h.SetOf (intKind prog w) 50 b1In 27 := by
  have hg : h.get? 50 = some (x50_8 P) := X 50 (x50_8 P) rfl
  refine ⟨x50_8 P, (b1es P).toArray, _, _, hg, ⟨rfl, rfl, rfl⟩, rfl, ?_, ?_, (show 27 < 4096 by decide), by rfl, rfl⟩
  · intro e he
    obtain ⟨k, t, rfl, _⟩ := b1_elems P e he
    exact ⟨⟨k, intKind_is prog w k t, rfl⟩, rfl⟩
  · intro k
    constructor
    · exact fun hk => b1_all P k hk
    · rintro ⟨e, he, hk⟩
      obtain ⟨k', t, rfl, h'⟩ := b1_elems P e he
      have : k = k' := (intKind prog w).inj _ _ _ hk (intKind_is prog w k' t)
      rw [this]; exact h'

/-! table B.3 -/
noncomputable def isKV (e : DictEntry) (x : KV) : Prop := ∃ a b, e = ⟨x.1, .int x.1 a, .str x.2 b⟩
inductive Both : List DictEntry → List KV → Prop
  | nil : Both [] []
  | cons {e x es l} : isKV e x → Both es l → Both (e :: es) (x :: l)
theorem Both.append : ∀ {es es' l l'}, Both es l → Both es' l' → Both (es ++ es') (l ++ l')
  | _, _, _, _, .nil, h => h
  | _, _, _, _, .cons a b, h => .cons a (b.append h)
theorem both_of : ∀ (es : List DictEntry) (l : List KV), es.length = l.length → (∀ i : Nat, ∃ a b : Nat, es[i]? = l[i]?.map fun e => ⟨e.1, .int e.1 a, .str e.2 b⟩) → Both es l
  | [], [], _, _ => .nil
  | [], _ :: _, h, _ => by simp at h
  | _ :: _, [], h, _ => by simp at h
  | e :: es, x :: l, h, H => .cons (by
      obtain ⟨a, b, q⟩ := H 0
      simp only [List.getElem?_cons_zero, Option.map_some, Option.some.injEq] at q
      exact ⟨a, b, q⟩) (both_of es l (by simpa using h) fun i => by
      obtain ⟨a, b, q⟩ := H (i + 1)
      exact ⟨a, b, by simpa only [List.getElem?_cons_succ] using q⟩)
theorem both_ents (l : List KV) (tk : Nat) : Both (ents l tk) l := both_of _ _ (ents_length l tk) (ents_get l tk)
theorem both_disp : ∀ (cs : List (List KV)) (tk : Nat), Both (dispM cs tk) cs.flatten
  | [], _ => .nil
  | c :: cs, tk => (both_ents c tk).append (both_disp cs _)
noncomputable def b3Val (k : Int) : Option Str := (kvL.find? fun e => e.1 == k).map (·.2)
theorem both_find {k : Int} : ∀ {es : List DictEntry} {l : List KV}, Both es l → (∃ x u, (l.find? fun e => e.1 == k).map (·.2) = some x ∧ (es.find? fun e => Value.isInt k e.key).map (·.val) = some (.str x u)) ∨
    ((l.find? fun e => e.1 == k).map (·.2) = none ∧ (es.find? fun e => Value.isInt k e.key).map (·.val) = none)
  | _, _, .nil => .inr ⟨rfl, rfl⟩
  | e :: es, x :: l, .cons ⟨a, b, q⟩ r => by
    subst q
    have ei : Value.isInt k (.int x.1 a) = (x.1 == k) := rfl
    cases hk : (x.1 == k) with
    | true =>
      left
      exact ⟨x.2, b, by simp only [List.find?_cons, hk, Option.map_some], by simp only [List.find?_cons, ei, hk, Option.map_some]⟩
    | false =>
      simp only [List.find?_cons, ei, hk]
      exact both_find r
noncomputable abbrev b3L : List DictEntry := dispM (ch0 :: (chs ++ [chl])) 325
theorem b3_flat : (ch0 :: (chs ++ [chl])).flatten = kvL := by
  rw [← kv_chunks]
  simp
theorem b3_find (k : Int) : (∃ x u, b3Val k = some x ∧ findBy Value.isInt b3L.toArray k = some (.str x u)) ∨ (b3Val k = none ∧ findBy Value.isInt b3L.toArray k = none) := by
  have := both_find (k := k) (both_disp (ch0 :: (chs ++ [chl])) 325)
  rw [b3_flat] at this
  unfold findBy
  rw [List.find?_toArray]
  exact this
theorem both_keys (prog : Program) (w : World) : ∀ {es : List DictEntry} {l : List KV}, Both es l → (∀ x ∈ l, 0 ≤ x.1 ∧ x.1 < 1000000) → ∀ e ∈ es, ∃ k, (intKind prog w).is k e.key = true ∧ e.hash = (intKind prog w).hash k
  | _, _, .nil, _, e, he => by cases he
  | e :: es, x :: l, .cons ⟨a, b, q⟩ r, hs, e', he => by
    rcases List.mem_cons.mp he with rfl | he
    · subst q
      refine ⟨x.1, intKind_is prog w _ _, ?_⟩
      have hx := hs x (by simp)
      show x.1 = hashInt x.1
      have e1 : rawHash x.1 = x.1 := by
        have e1 : ((x.1.natAbs : Int) % ((2 ^ 61 - 1 : Nat) : Int)) = x.1 := by
          rw [show ((2 ^ 61 - 1 : Nat) : Int) = 2305843009213693951 by decide]
          omega
        unfold rawHash
        dsimp only
        have hk : ¬ x.1 < 0 := by omega
        have hm : ¬ (x.1 == -1) = true := by simp only [beq_iff_eq]; omega
        simp only [e1, hk, if_false, hm]
        rfl
      unfold hashInt
      rw [e1, if_neg (by simp only [beq_iff_eq]; omega)]
    · exact both_keys prog w r (fun y hy => hs y (by simp [hy])) e' he
theorem b3_map {prog : Program} {w : World} {P : Params} {h : Heap} (X : (KT P).In h) : h.MapOf (intKind prog w) 61 (fun k => findBy Value.isInt b3L.toArray k) := by
  have hg : h.get? 61 = some (dictO b3L) := X 61 (dictO b3L) rfl
  refine ⟨dictO b3L, b3L.toArray, _, hg, ⟨rfl, rfl, rfl⟩, rfl, ?_, fun _ => rfl⟩
  intro e he
  have hb := both_disp (ch0 :: (chs ++ [chl])) 325
  rw [b3_flat] at hb
  refine both_keys prog w hb (fun x hx => ?_) e (by simpa using he)
  have := List.all_eq_true.mp kv_small x hx
  simpa using this
section
variable {prog : Program} {w : World} {A : Around} {E : Value → Shared → Prop} {s : Shared} {Q : Value → Shared → Prop} {h₀ : Heap} {L : Addr} {m : Str → Option Value} {k : Int} {t : Tok} {P : Params}
theorem in_b1 (F : Fr h₀ L s.heap m) (X : (KT P).In h₀) (h : Q (.bool (b1In k)) { s with toks := s.toks + 1 }) : wpAny (model prog w) A (compareOp .In (.int k t) (.ref 50)) Q E s :=
  wpAny_inSet_of (intKind_is prog w k t) rfl (b1_set (X.keeps F.keep)) h
theorem meth_b3 {pl : Sem Bool} {Q : Value × List Value → Shared → Prop} (F : Fr h₀ L s.heap m) (X : (KT P).In h₀) (h : Q (.builtin "dict.get", [.ref 61]) s) : wpAny (model prog w) A (getMethod (.ref 61) (Str.ofString "get") pl) Q E s :=
  have hm := b3_map (prog := prog) (w := w) (X.keeps F.keep)
  getMethod_builtin hm.typeIs PySem.F.plainAttrs_dict PySem.F.slot_dict_get PySem.F.type_dict_get hm.noDict h
theorem get_b3 (F : Fr h₀ L s.heap m) (X : (KT P).In h₀) (h1 : ∀ x u, b3Val k = some x → Q (.str x u) { s with toks := s.toks + 1 }) (h0 : b3Val k = none → Q .none { s with toks := s.toks + 1 }) :
    wpAny (model prog w) A (call (.builtin "dict.get") [.ref 61, .int k t]) Q E s := by
  have hm := b3_map (prog := prog) (w := w) (X.keeps F.keep)
  refine call_meetsIn PySem.F.slot_dict_get hm.typeIs PySem.F.entry_dict_get (PySem.F.args_dict_get_2 _ _) (meets_dict_get (intKind prog w) 61 (intKind_is prog w k t) (by decide)) ⟨_, hm, ?_⟩
  rcases b3_find k with ⟨x, u, e1, e2⟩ | ⟨e1, e2⟩
  · rw [e2]; exact h1 x u e1
  · rw [e2]; exact h0 e1
end
noncomputable def b3Str (x : Str) : Str := match b3Val (x.cps.getD 0 0 : Nat) with
  | some v => v
  | none => Txt.lower x
theorem b3_some {x v : Str} (h : b3Val (x.cps.getD 0 0 : Nat) = some v) : v = b3Str x := by unfold b3Str; rw [h]
theorem b3_none {x : Str} (h : b3Val (x.cps.getD 0 0 : Nat) = none) : Txt.lower x = b3Str x := by unfold b3Str; rw [h]
set_option maxHeartbeats 4000000 in
theorem b1_c (w : World) (mean : ExcName → Option Value) (mg mb : Str → Option Value) (x : Str) (tx : Tok) (news : List (Addr × Obj)) :
   CbClaim rwT.prog w (KT w.params) qV looseV mean mg mb 60 news [] (x.length = 1) [.str x tx] (fun _ => .bool (b1In (x.cps.getD 0 0 : Nat))) := by
  k_with_none
  k_with "compareOp In int ref" => (k_here; (with_reducible show wpAny _ _ (compareOp CmpOp.In (Value.int _ _) (Value.ref 50)) _ _ _); refine' in_b1 ?k1w9 ?k2w9 ?_; (case k1w9 => k_asm); (case k2w9 => k_asm))
  k_with "getMethod ref" => (k_here; (with_reducible show wpAny _ _ (getMethod (Value.ref 61) _ _) _ _ _); refine' meth_b3 ?k1w9 ?k2w9 ?_; (case k1w9 => k_asm); (case k2w9 => k_asm))
  k_with "call builtin:dict.get" => (k_here; (with_reducible show wpAny _ _ (call (Value.builtin "dict.get") [Value.ref 61, Value.int _ _]) _ _ _); refine' get_b3 ?k1w9 ?k2w9 ?_ ?_; (case k1w9 => k_asm); (case k2w9 => k_asm); all_goals intros)
  dsimp only [CbClaim, CbLists, CbRet]; k_fill; intros; rename_i hpre _ _ hret
  refine wpAny_call ?_
  k_dflt cell_enter
  k_steps
  all_goals (refine' cb_retB hret rfl ?f ?n; (case f => k_asm); (case n => k_asm))
set_option maxHeartbeats 4000000 in
theorem b3_c (w : World) (mean : ExcName → Option Value) (mg mb : Str → Option Value) (x : Str) (tx : Tok) (news : List (Addr × Obj)) :
   CbClaim rwT.prog w (KT w.params) qV looseV mean mg mb 106 news [] (x.length = 1) [.str x tx] (fun t => .str (b3Str x) t) := by
  k_with_none
  k_with "compareOp In int ref" => (k_here; (with_reducible show wpAny _ _ (compareOp CmpOp.In (Value.int _ _) (Value.ref 50)) _ _ _); refine' in_b1 ?k1w9 ?k2w9 ?_; (case k1w9 => k_asm); (case k2w9 => k_asm))
  k_with "getMethod ref" => (k_here; (with_reducible show wpAny _ _ (getMethod (Value.ref 61) _ _) _ _ _); refine' meth_b3 ?k1w9 ?k2w9 ?_; (case k1w9 => k_asm); (case k2w9 => k_asm))
  k_with "call builtin:dict.get" => (k_here; (with_reducible show wpAny _ _ (call (Value.builtin "dict.get") [Value.ref 61, Value.int _ _]) _ _ _); refine' get_b3 ?k1w9 ?k2w9 ?_ ?_; (case k1w9 => k_asm); (case k2w9 => k_asm); all_goals intros)
  dsimp only [CbClaim, CbLists, CbRet]; k_fill; intros; rename_i hpre _ _ hret
  refine wpAny_call ?_
  k_dflt cell_enter
  k_steps
  all_goals (refine' cb_retS hret ?e ?f ?n; (case f => k_asm); (case n => k_asm); (case e => first | exact b3_some (by assumption) | exact b3_none (by assumption)))
end Mine
end
section
open PySem PySem.W PyProof.Rows PySem.Spec PySem.Calls
set_option maxRecDepth 100000
namespace Mine
theorem allLt_ne {d : Addr} {l : List (Addr × Obj)} (h : AllLt d l) : ∀ p ∈ l, p.1 ≠ d := by
  induction l with
  | nil => intro p hp; cases hp
  | cons q r ih =>
    intro p hp
    rcases List.mem_cons.mp hp with e | hp
    · rw [e]; exact Nat.ne_of_lt h.1
    · exact ih h.2 p hp
theorem all_lt_ne {news : List (Addr × Obj)} {l d : Nat} (h : ∀ p ∈ news, p.1 < l) (hd : l ≤ d) : ∀ p ∈ news, p.1 ≠ d := fun p hp => Nat.ne_of_lt (Nat.lt_of_lt_of_le (h p hp) hd)
/-- int over int, small -/
noncomputable def qD (a b : Int) : UInt64 := Float64.ofFrac (decide (a < 0) != decide (b < 0)) a.natAbs b.natAbs
section
variable {prog : Program} {w : World} {A : Around} {E : Value → Shared → Prop} {s : Shared} {Q : Value → Shared → Prop} {a b : Int} {t u : Tok}
theorem div_small (hA : A.handled = none) (h0 : 0 ≤ a) (h1 : a ≤ 1000) (hb : b ≠ 0) (h : Q (.float (qD a b) s.toks) { s with toks := s.toks + 1 }) :
    wpAny (model prog w) A (binaryOp .Div (.int a t) (.int b u)) Q E s := by
  have hf : a.natAbs < 2 ^ 1023 := by
    have : a.natAbs ≤ 1000 := by omega
    exact Nat.lt_of_le_of_lt this (by decide +kernel)
  refine Flt.div_ii_fits hA hf (fun e => absurd e hb) (fun _ => ?_)
  intro _
  exact h
end
theorem lt_dn {a b c d : Nat} (h : a + b < c) (e : d ≤ b) : a + d < c := Nat.lt_of_le_of_lt (Nat.add_le_add_left e a) h
end Mine
end
local macro_rules | `(tactic| k_all) => `(tactic| first | assumption | exact Mine.allLt_ne (by assumption) | exact Mine.allLt_ne (And.right (by assumption)) | exact Mine.allLt_ne (And.right (And.right (by assumption))) | exact Mine.allLt_ne (And.right (And.right (And.right (by assumption)))) | exact Mine.all_lt_ne (by assumption) (by omega))
section
open PySem PySem.W
set_option maxRecDepth 100000
namespace Mine
noncomputable abbrev six (H : UInt64) : UInt64 := Float64.mul (Float64.ofInt 6) H
noncomputable abbrev part0 (H : UInt64) : UInt64 := Float64.sub (six H) (Float64.ofInt (truncI (six H)))
noncomputable abbrev partF (H : UInt64) : UInt64 := if (truncI (six H)).fmod 2 = 1 then Float64.sub (Float64.ofInt 1) (part0 H) else part0 H
noncomputable abbrev upF (c : UInt64) : UInt64 := Float64.add (Float64.mul (Float64.ofInt 16) c) fh
noncomputable def finI (c : UInt64) : Option Int := if Float64.isFinite c = true then some (truncI c) else none
/-- what _law_folded computes -/
noncomputable def foldF (x y z : Int) : Option (Int × Int × Int) :=
  match toHsv (qD x 16) (qD y 16) (qD z 16) with
  | none => none
  | some (H, S, V) =>
    if Float64.isFinite (six H) = true ∧ (truncI (six H)).natAbs < 1000 then
      match toRgb (Float64.div (partF H) (Float64.ofInt 6)) S V with
      | none => none
      | some (r, g, b) => match finI (upF r), finI (upF g), finI (upF b) with
        | some i, some j, some k => some (i, j, k)
        | _, _, _ => none
    else none
noncomputable def sort3 (x y z : Int) : Int × Int × Int :=
  (max x (max y z), x + y + z - max x (max y z) - min x (min y z), min x (min y z))
noncomputable def foldOk (x : Nat) : Bool := (List.range 6).all fun y => (List.range 6).all fun z => if x + y + z ≤ 10 then foldF x y z == some (sort3 x y z) else true
theorem fold_0 : foldOk 0 = true := by decide +kernel
theorem fold_1 : foldOk 1 = true := by decide +kernel
theorem fold_2 : foldOk 2 = true := by decide +kernel
theorem fold_3 : foldOk 3 = true := by decide +kernel
theorem fold_4 : foldOk 4 = true := by decide +kernel
theorem fold_5 : foldOk 5 = true := by decide +kernel
theorem fold_all : ∀ x, x < 6 → foldOk x = true
  | 0, _ => fold_0
  | 1, _ => fold_1
  | 2, _ => fold_2
  | 3, _ => fold_3
  | 4, _ => fold_4
  | 5, _ => fold_5
  | n + 6, h => absurd h (Nat.not_lt.mpr (Nat.le_add_left 6 n))
end Mine
end
section
open PySem PySem.W PyProof.Rows PySem.Spec PySem.Calls
set_option maxRecDepth 100000
namespace Mine
noncomputable def Known (R : Option F3) (v : F3) : Prop := R = some v
theorem some_of {R : Option F3} {v : F3} (h : Known R v) : R.isSome = true := by unfold Known at h; rw [h]; rfl
theorem same3 {R : Option F3} {a b c a' b' c' : UInt64} (h : R = some (a, b, c)) (k : Known R (a', b', c')) : a = a' ∧ b = b' ∧ c = c' := by
  unfold Known at k; rw [k] at h; cases h; exact ⟨rfl, rfl, rfl⟩
section
variable {prog : Program} {w : World} {A : Around} {E : Value → Shared → Prop} {s : Shared} {Q : Value → Shared → Prop} {a : UInt64} {n : Int} {t u : Tok}
theorem small_fits (h : n.natAbs < 1000) : n.natAbs < 2 ^ 1023 := Nat.lt_trans h (by decide +kernel)
theorem int_fin (hf : Float64.isFinite a = true) (hA : A.handled = none) (h : Q (.int (truncI a) s.toks) { s with toks := s.toks + 1 }) : wpAny (model prog w) A (call (.type "int") [.float a t]) Q E s := by
  refine Flt.call_int_float3 hA (fun h0 => ?_) (fun h1 => ?_) (fun _ => h)
  · exact absurd h0 (by revert hf; unfold Float64.isFinite Float64.isNaN; cases Float64.decode a <;> simp)
  · exact absurd h1 (by revert hf; unfold Float64.isFinite Float64.isInf; cases Float64.decode a <;> simp)
theorem div_fi_small (hA : A.handled = none) (hn : n.natAbs < 1000) (h0 : n ≠ 0) (h : Q (.float (Float64.div a (Float64.ofInt n)) s.toks) { s with toks := s.toks + 1 }) : wpAny (model prog w) A (binaryOp .Div (.float a t) (.int n u)) Q E s :=
  AutoFloatOps.truediv_fi_2 (Float64.ofInt_fits (small_fits hn)) (fun x => h0 ((Flt.isZero_ofInt n).mp x)) h
theorem sub_fi_small (hn : n.natAbs < 1000) (h : Q (.float (Float64.sub a (Float64.ofInt n)) s.toks) { s with toks := s.toks + 1 }) : wpAny (model prog w) A (binaryOp .Sub (.float a t) (.int n u)) Q E s := sub_fi_fits (small_fits hn) h
theorem sub_if_small (hn : n.natAbs < 1000) (h : Q (.float (Float64.sub (Float64.ofInt n) a) s.toks) { s with toks := s.toks + 1 }) : wpAny (model prog w) A (binaryOp .Sub (.int n u) (.float a t)) Q E s := sub_if_fits (small_fits hn) h
theorem add_fi_small (hn : n.natAbs < 1000) (h : Q (.float (Float64.add a (Float64.ofInt n)) s.toks) { s with toks := s.toks + 1 }) : wpAny (model prog w) A (binaryOp .Add (.float a t) (.int n u)) Q E s := add_fi_fits (small_fits hn) h
theorem mul_if_small (hn : n.natAbs < 1000) (h : Q (.float (Float64.mul (Float64.ofInt n) a) s.toks) { s with toks := s.toks + 1 }) : wpAny (model prog w) A (binaryOp .Mult (.int n u) (.float a t)) Q E s := mul_if_fits (small_fits hn) h
end
end Mine
end
section
open PySem PySem.W PyProof.Rows PySem.Spec PySem.Calls PySem.Builtin
set_option maxRecDepth 100000
namespace Mine
/-! zip of a text and a list -/
/-- the six objects are six -/
structure Six (z a b c d e : Addr) : Prop where
  az : a ≠ z
  bz : b ≠ z
  cz : c ≠ z
  dz : d ≠ z
  ez : e ≠ z
  ab : a ≠ b
  ac : a ≠ c
  ad : a ≠ d
  bc : b ≠ c
  bd : b ≠ d
  cd : c ≠ d
  eb : e ≠ b
  ec : e ≠ c
  ed : e ≠ d
/-- the iterator's four mutable objects are left alone -/
noncomputable def KeepZ (z b c d : Addr) (h h' : Heap) : Prop := ∀ k o, k ≠ z → k ≠ b → k ≠ c → k ≠ d → h.get? k = some o → h'.get? k = some o
/-- the zip after i items -/
structure ZAt (h : Heap) (z a b c d e : Addr) (x : Str) (t : Tok) (ys : Array Value) (i : Nat) (f0 : Value) : Prop where
  zip : IsZip h z a b f0
  its : IsPair h a (.ref c) (.ref d)
  own : ∃ u v, IsPair h b u v
  str : h.IsStrIter c "str_ascii_iterator" x t i
  lst : h.IsListIter d e i
  src : h.IsList e ys
section
variable {prog : Program} {w : World} {A : Around} {E : Value → Shared → Prop} {s : Shared} {z a b c d e : Addr} {x : Str} {t : Tok} {ys : Array Value} {i : Nat}
theorem zs_item (S : Six z a b c d e) (Z : ZAt s.heap z a b c d e x t ys i .none) {n : Nat} {y : Value} (hx : x.cps[i]? = some n) (hy : ys[i]? = some y) {Q : Option Value → Shared → Prop}
    (hQ : ∀ h' (T : Addr) u, ZAt h' z a b c d e x t ys (i + 1) (rawInt (T : Nat)) → IsPair h' T (.str ⟨#[n]⟩ u) y → s.heap.get? T = none → KeepZ z b c d s.heap h' → Q (some (.ref T)) { s with heap := h', toks := s.toks + 1 }) :
    wpAny (model prog w) A (pyNext (.ref z)) Q E s := by
  obtain ⟨hz, hTI, ⟨u, v, hTO⟩, h1, h2, hl⟩ := Z
  have hT : s.TypeIs (.ref z) "zip" := ⟨_, hz, rfl⟩
  unfold pyNext
  refine wpAny_bind (wpAny_attempt (wpAny_callSpecial?_slot (name := Str.ofString "__next__") hT F.slot_zip_next (wpAny_call_entry F.slot_zip_next hT F.entry_zip_next ?_ (F.args_zip_next_1 _))))
  show wpAny _ _ (field (.ref z) 2 >>= _) _ _ _
  refine wpAny_bind (wpAny_field hz rfl (x := .bool false) rfl ?_)
  show wpAny _ _ (field (.ref z) 3 >>= _) _ _ _
  refine wpAny_bind (wpAny_field hz rfl (x := .ref a) rfl (wpAny_bind (wpAny_seqItems hTI rfl ?_)))
  show wpAny _ _ (Builtin.SmallTypes.ownedTupleIsFree (.ref z) >>= _) _ _ _
  refine wpAny_bind ?_
  unfold Builtin.SmallTypes.ownedTupleIsFree
  refine wpAny_bind (wpAny_field hz rfl (x := .none) rfl (wpAny_pure ?_))
  simp only [if_true]
  refine wpAny_bind (wpAny_rule (wpAny_bind (wpAny_field hz rfl (x := .ref b) rfl (wpAny_bind (wpAny_setField_rec hz (by simp) fun p1 z1 k1 => ?_)))))
  replace z1 : IsZip p1 z a b .ellipsis := z1
  refine wpAny_bind ?_
  simp only [List.zipIdx_cons, List.zipIdx_nil, List.forIn_cons, List.forIn_nil]
  refine wpAny_bind (wpAny_bind (wpAny_onRaise ?_))
  show wpAny _ _ (Builtin.SmallTypes.nextOf (.ref c) >>= _) _ _ _
  have s1 : p1.IsStrIter c "str_ascii_iterator" x t i := let ⟨o, q, r⟩ := h1; ⟨o, k1.extBut _ _ S.cz q, r⟩
  refine wpAny_bind (wpAny_nextOf_ascii_item s1 hx fun p2 s2 k2 => wpAny_pure ?_)
  have t2 : IsPair p2 b u v := k2.extBut _ _ S.bc (k1.extBut _ _ S.bz hTO)
  refine wpAny_bind (wpAny_seqItems t2 rfl (wpAny_bind (wpAny_updateSeq_pair t2 fun p3 t3 k3 => wpAny_bind (wpAny_letGo (wpAny_pure ?_)))))
  replace t3 : IsPair p3 b (.str ⟨#[n]⟩ s.toks) v := t3
  refine wpAny_bind (wpAny_bind (wpAny_onRaise ?_))
  show wpAny _ _ (Builtin.SmallTypes.nextOf (.ref d) >>= _) _ _ _
  refine wpAny_bind (wpAny_nextOf_list_item (((h2.extBut k1.extBut S.dz).extBut k2.extBut S.cd.symm).extBut k3.extBut S.bd.symm) (((hl.extBut k1.extBut S.ez).extBut k2.extBut S.ec).extBut k3.extBut S.eb) hy fun p4 l4 k4 => wpAny_pure ?_)
  have t4 : IsPair p4 b (.str ⟨#[n]⟩ s.toks) v := k4.extBut _ _ S.bd t3
  refine wpAny_bind (wpAny_seqItems t4 rfl (wpAny_bind (wpAny_updateSeq_pair t4 fun p5 t5 k5 => wpAny_bind (wpAny_letGo (wpAny_pure (wpAny_pure ?_))))))
  replace t5 : IsPair p5 b (.str ⟨#[n]⟩ s.toks) y := t5
  refine wpAny_bind (wpAny_seqItems t5 rfl (wpAny_bind (wpAny_newTuple ?_)))
  have hsz : p5.objs.size = s.heap.objs.size := by rw [k5.1, k4.1, k3.1, k2.1, k1.1]
  have all : KeepZ z b c d s.heap p5 := fun k o n1 n2 n3 n4 q => k5.extBut _ _ n2 (k4.extBut _ _ n4 (k3.extBut _ _ n2 (k2.extBut _ _ n3 (k1.extBut _ _ n1 q))))
  have z5 : IsZip p5 z a b .ellipsis := k5.extBut _ _ S.bz.symm (k4.extBut _ _ S.dz.symm (k3.extBut _ _ S.bz.symm (k2.extBut _ _ S.cz.symm z1)))
  have s5 : p5.IsStrIter c "str_ascii_iterator" x t (i + 1) := let ⟨o, q, r⟩ := s2; ⟨o, k5.extBut _ _ S.bc.symm (k4.extBut _ _ S.cd (k3.extBut _ _ S.bc.symm q)), r⟩
  have l5 : p5.IsListIter d e (i + 1) := l4.extBut k5.extBut S.bd.symm
  have zlt : z < p5.objs.size := Heap.lt_size z5
  show wpAny _ _ (Builtin.SmallTypes.ownedTupleHandOut (.ref z) (.ref p5.objs.size) >>= _) _ _ _
  refine wpAny_bind ?_
  unfold Builtin.SmallTypes.ownedTupleHandOut
  have z6 : IsZip (p5.push { cls := .type "tuple", data := .seq #[.str ⟨#[n]⟩ s.toks, y] }) z a b .ellipsis := Heap.get?_push_of_some _ z5
  refine wpAny_bind (wpAny_setField_rec z6 (by simp) fun p7 z7 k7 => ?_)
  replace z7 : IsZip p7 z a b (rawInt p5.objs.size) := z7
  refine wpAny_setField_rec z7 (by simp) fun p8 z8 k8 => ?_
  replace z8 : IsZip p8 z a b (rawInt p5.objs.size) := z8
  have up : ∀ k o, k ≠ z → p5.get? k = some o → p8.get? k = some o := fun k o n1 q => k8.extBut _ _ n1 (k7.extBut _ _ n1 (Heap.get?_push_of_some _ q))
  have T8 : IsPair p8 p5.objs.size (.str ⟨#[n]⟩ s.toks) y := k8.extBut _ _ (Nat.ne_of_gt zlt) (k7.extBut _ _ (Nat.ne_of_gt zlt) (Heap.get?_push_size _ rfl))
  refine wpAny_pure ⟨_, rfl, wpAny_pure ?_⟩
  refine hQ p8 p5.objs.size s.toks ⟨z8, up _ _ S.az (all _ _ S.az S.ab S.ac S.ad hTI), ⟨_, _, up _ _ S.bz t5⟩, let ⟨o, q, r⟩ := s5; ⟨o, up _ _ S.cz q, r⟩, l5.at fun o q => up _ o S.dz q, ?_⟩ T8 ?_ fun k o n1 n2 n3 n4 q => up k o n1 (all k o n1 n2 n3 n4 q)
  · exact hl.at fun o q => up _ o S.ez (all _ _ S.ez S.eb S.ec S.ed q)
  · cases q : s.heap.get? p5.objs.size with
    | none => rfl
    | some o => exact absurd (Heap.lt_size q) (by rw [hsz]; exact Nat.lt_irrefl _)
theorem zs_end (hh : A.handled = none) (S : Six z a b c d e) (Z : ZAt s.heap z a b c d e x t ys i .none) (hx : x.cps[i]? = none) {Q : Option Value → Shared → Prop}
    (hQ : ∀ h', KeepZ z b c d s.heap h' → Q none { s with heap := h' }) : wpAny (model prog w) A (pyNext (.ref z)) Q E s := by
  obtain ⟨hz, hTI, ⟨u, v, hTO⟩, h1, h2, hl⟩ := Z
  have hT : s.TypeIs (.ref z) "zip" := ⟨_, hz, rfl⟩
  unfold pyNext
  refine wpAny_bind (wpAny_attempt (wpAny_callSpecial?_slot (name := Str.ofString "__next__") hT F.slot_zip_next (wpAny_call_entry F.slot_zip_next hT F.entry_zip_next ?_ (F.args_zip_next_1 _))))
  show wpAny _ _ (field (.ref z) 2 >>= _) _ _ _
  refine wpAny_bind (wpAny_field hz rfl (x := .bool false) rfl ?_)
  show wpAny _ _ (field (.ref z) 3 >>= _) _ _ _
  refine wpAny_bind (wpAny_field hz rfl (x := .ref a) rfl (wpAny_bind (wpAny_seqItems hTI rfl ?_)))
  show wpAny _ _ (Builtin.SmallTypes.ownedTupleIsFree (.ref z) >>= _) _ _ _
  refine wpAny_bind ?_
  unfold Builtin.SmallTypes.ownedTupleIsFree
  refine wpAny_bind (wpAny_field hz rfl (x := .none) rfl (wpAny_pure ?_))
  simp only [if_true]
  refine wpAny_bind (wpAny_rule (wpAny_bind (wpAny_field hz rfl (x := .ref b) rfl (wpAny_bind (wpAny_setField_rec hz (by simp) fun p1 z1 k1 => ?_)))))
  replace z1 : IsZip p1 z a b .ellipsis := z1
  refine wpAny_bind ?_
  simp only [List.zipIdx_cons, List.zipIdx_nil, List.forIn_cons, List.forIn_nil]
  refine wpAny_bind (wpAny_bind (wpAny_onRaise ?_))
  show wpAny _ _ (Builtin.SmallTypes.nextOf (.ref c) >>= _) _ _ _
  have s1 : p1.IsStrIter c "str_ascii_iterator" x t i := let ⟨o, q, r⟩ := h1; ⟨o, k1.extBut _ _ S.cz q, r⟩
  refine wpAny_bind (wpAny_nextOf_ascii_end hh s1 hx fun p2 ex k2 he => ?_)
  obtain ⟨oe, hoe, hce⟩ := he
  have z2 : IsZip p2 z a b .ellipsis := k2 _ _ S.cz.symm z1
  have hez : ex ≠ z := fun q => by subst q; rw [z2] at hoe; cases hoe; simp at hce
  refine wpAny_setField_rec z2 (by simp) fun p3 _ k3 => ?_
  have fin : (∃ o, p3.get? ex = some o ∧ o.cls = .type "StopIteration") := ⟨oe, k3.extBut _ _ hez hoe, hce⟩
  obtain ⟨o, ho, hc⟩ := fin
  refine wpAny_bind (wpAny_isInstance (T := "StopIteration") (b := true) ⟨o, ho, hc⟩ isSubtype_stop ?_)
  exact wpAny_pure (hQ _ fun k o n1 n2 n3 n4 q => k3.extBut _ _ n1 (k2 _ _ n3 (k1.extBut _ _ n1 q)))
end
end Mine
end
section
open PySem PySem.W PyProof.Rows PySem.Spec PySem.Calls PySem.Builtin
set_option maxRecDepth 100000
namespace Mine
noncomputable abbrev zsA (h : Heap) (x : Str) (t : Tok) : Heap := h.push { cls := .type "str_ascii_iterator", data := .fields #[.str x t, .int 0 0] }
noncomputable abbrev zsB (h : Heap) (x : Str) (t : Tok) (e : Addr) : Heap := (zsA h x t).push { cls := .type "list_iterator", data := .fields #[.ref e, .int 0 0] }
noncomputable abbrev zsC (h : Heap) (x : Str) (t : Tok) (e : Addr) : Heap := (zsB h x t e).push { cls := .type "tuple", data := .seq #[.ref h.objs.size, .ref (zsA h x t).objs.size] }
noncomputable abbrev zsD (h : Heap) (x : Str) (t : Tok) (e : Addr) : Heap := (zsC h x t e).push { cls := .type "tuple", data := .seq #[.none, .none] }
noncomputable abbrev zsE (h : Heap) (x : Str) (t : Tok) (e : Addr) : Heap := (zsD h x t e).push { cls := .type "zip", data := .fields #[.none, .bool false, .bool false, .ref (zsB h x t e).objs.size, .ref (zsC h x t e).objs.size] }
set_option maxHeartbeats 2000000 in
theorem meets_zs (x : Str) (t : Tok) (e : Addr) (ys : Array Value) (ha : x.cps.all (· < 128) = true) :
    Meets (Builtin.«zip.__new__» ⟨[.type "zip", .str x t, .ref e], []⟩) (fun _ R s => s.heap.IsList e ys ∧ R (.ok (.ret (.ref (zsD s.heap x t e).objs.size))) { s with heap := zsE s.heap x t e }) :=
  .of_wp fun prog w A R s h => by
    obtain ⟨hp, g, d, tk, os⟩ := s; obtain ⟨hl2, h⟩ := h
    have hsub := sub_zip
    have hL2 : Heap.IsList (Shared.heap ⟨hp.push { cls := .type "str_ascii_iterator", data := .fields #[.str x t, .int 0 0] }, g, d, tk, os⟩) e ys := Heap.IsList.push hl2 _
    wp_walk using wpAny_pyIter_ascii ha, wpAny_pyIter_list hL2
    exact ⟨_, rfl, h⟩
section
variable {prog : Program} {w : World} {A : Around} {E : Value → Shared → Prop} {s : Shared}
theorem call_zs {x : Str} {t : Tok} {e : Addr} {ys : Array Value} {Q : Value → Shared → Prop} (ha : x.cps.all (· < 128) = true) (hl : s.heap.IsList e ys)
    (h : ∀ h' z a b c d, Six z a b c d e → ZAt h' z a b c d e x t ys 0 .none → (∀ k ∈ [z, a, b, c, d], s.heap.get? k = none ∧ s.heap.objs.size ≤ k) → (∀ k o, s.heap.get? k = some o → h'.get? k = some o) → Q (.ref z) { s with heap := h' }) :
    wpAny (model prog w) A (call (.type "zip") [.str x t, .ref e]) Q E s := by
  refine callType_new F.called_zip (by decide) (F.typeCall_zip_2 _ _) (F.newCall_zip_2 _ _) (fun obj => F.args_object_init_3 obj _ _) F.entry_zip_new (meets_zs x t e ys ha) ⟨hl, ?_⟩
  have z1 : (zsA s.heap x t).objs.size = s.heap.objs.size + 1 := Heap.size_push ..
  have z2 : (zsB s.heap x t e).objs.size = s.heap.objs.size + 2 := by rw [Heap.size_push, z1]
  have z3 : (zsC s.heap x t e).objs.size = s.heap.objs.size + 3 := by rw [Heap.size_push, z2]
  have z4 : (zsD s.heap x t e).objs.size = s.heap.objs.size + 4 := by rw [Heap.size_push, z3]
  have g5 : (zsE s.heap x t e).get? (zsD s.heap x t e).objs.size = some _ := Heap.get?_push_size _ rfl
  have g4 : (zsE s.heap x t e).get? (zsC s.heap x t e).objs.size = some _ := Heap.get?_push_of_some _ (Heap.get?_push_size _ rfl)
  have g3 : (zsE s.heap x t e).get? (zsB s.heap x t e).objs.size = some _ := Heap.get?_push_of_some _ (Heap.get?_push_of_some _ (Heap.get?_push_size _ rfl))
  have g2 : (zsE s.heap x t e).get? (zsA s.heap x t).objs.size = some _ := Heap.get?_push_of_some _ (Heap.get?_push_of_some _ (Heap.get?_push_of_some _ (Heap.get?_push_size _ rfl)))
  have g1 : (zsE s.heap x t e).get? s.heap.objs.size = some _ := Heap.get?_push_of_some _ (Heap.get?_push_of_some _ (Heap.get?_push_of_some _ (Heap.get?_push_of_some _ (Heap.get?_push_size _ rfl))))
  have up : ∀ k o, s.heap.get? k = some o → (zsE s.heap x t e).get? k = some o := fun k o q => Heap.get?_push_of_some _ (Heap.get?_push_of_some _ (Heap.get?_push_of_some _ (Heap.get?_push_of_some _ (Heap.get?_push_of_some _ q))))
  have fresh : ∀ k, s.heap.objs.size ≤ k → s.heap.get? k = none := fun k hk => by
    cases q : s.heap.get? k with
    | none => rfl
    | some o => exact absurd (Heap.lt_size q) (Nat.not_lt.mpr hk)
  have hlt : e < s.heap.objs.size := by obtain ⟨o, q, _⟩ := hl; exact Heap.lt_size q
  show _ ∧ _
  rw [z2, z3, z4] at g5
  rw [z1, z2] at g3
  rw [z3] at g4
  rw [z1] at g2
  rw [z4]
  generalize s.heap.objs.size = n at *
  have ne : ∀ i j : Nat, i ≠ j → (@HAdd.hAdd Nat Nat Nat _ n i) ≠ n + j := fun i j h q => h (by omega)
  refine ⟨⟨_, g5, rfl⟩, h _ (n + 4) (n + 2) (n + 3) n (n + 1) ⟨ne _ _ (by decide), ne _ _ (by decide), ne 0 _ (by decide), ne _ _ (by decide), Nat.ne_of_lt (Nat.lt_of_lt_of_le hlt (Nat.le_add_right ..)), ne _ _ (by decide), ne _ 0 (by decide), ne _ _ (by decide), ne _ 0 (by decide), ne _ _ (by decide), ne 0 _ (by decide), Nat.ne_of_lt (Nat.lt_of_lt_of_le hlt (Nat.le_add_right ..)), Nat.ne_of_lt hlt, Nat.ne_of_lt (Nat.lt_of_lt_of_le hlt (Nat.le_add_right ..))⟩
    ⟨g5, g3, ⟨_, _, g4⟩, ⟨_, g1, rfl, rfl⟩, ⟨_, g2, rfl, rfl⟩, hl.at fun o q => up _ o q⟩ (fun k hk => ?_) up⟩
  have : n ≤ k := by
    simp only [List.mem_cons, List.not_mem_nil, or_false] at hk
    rcases hk with rfl | rfl | rfl | rfl | rfl
    · exact Nat.le_add_right ..
    · exact Nat.le_add_right ..
    · exact Nat.le_add_right ..
    · exact Nat.le_refl _
    · exact Nat.le_add_right ..
  exact ⟨fresh k this, this⟩
end
end Mine
end
section
open PySem PySem.W PyProof.Rows PySem.Spec PySem.Calls PySem.Builtin
set_option maxRecDepth 100000
namespace Mine
open LCg
noncomputable def KeepAll (h h' : Heap) : Prop := ∀ k o, h.get? k = some o → h'.get? k = some o
section
variable {prog : Program} {w : World} {A : Around} {E : Value → Shared → Prop} {s : Shared} {h₀ : Heap} {L : Addr} {m : Str → Option Value} {env : Env} {news : List (Addr × Obj)}
/-- the comprehension's loop over a zip of a text and a list, one test -/
theorem zs_block {elt iter ce : PySem.Expr} {a b : Str} {pa pb tp : Pos} {kk : Nat} {scope : Scope} {cl : List (Str × Addr)} {pos : Pos} {s₂ : Shared} {z ta tb i1 i2 l2 : Addr} {x : Str} {t : Tok} {ys : Array Value} {RR : Value → Addr → Result → Shared → Prop}
    (hh : A.handled = none) (S : Six z ta tb i1 i2 l2) (Z : ZAt s₂.heap z ta tb i1 i2 l2 x t ys 0 .none) (hys : x.cps.size ≤ ys.size) (hsz : x.cps.size ≤ 1000)
    (hf : ∀ k ∈ [z, ta, tb, i1, i2], h₀.get? k = none ∧ k ≠ L)
    (hcell : ∀ y ∈ scope.names, y.2 ≠ .cell) (hkind : scope.kind = .function) (hxa : scope.names.lookup a = some .local) (hxb : scope.names.lookup b = some .local) (hab : ¬ a = b)
    (F : Fr h₀ L s₂.heap m) (N : News h₀ L s₂.heap news) (hoff : ∀ p ∈ news, p.1 ≠ z ∧ p.1 ≠ tb ∧ p.1 ≠ i1 ∧ p.1 ≠ i2)
    (Rel : Nat → List Value → Prop) (h0 : Rel 0 []) (hlen : ∀ i ys', Rel i ys' → ys'.length ≤ i)
    (turn : ∀ i n y u ys' C oC D m₂ h tk (E' : Value → Shared → Prop), x.cps[i]? = some n → ys[i]? = some y → Rel i ys' → NsObj oC m₂ → m₂ a = some (.str ⟨#[n]⟩ u) → m₂ b = some y → Fr h₀ L h m → News h₀ L h ((C, oC) :: (D, lst ys') :: news) →
      wpAny (model prog w) A (isTrue ce (compEnvC scope cl C env) (eval ce (compEnvC scope cl C env))) (fun ok s₃ => (∃ h' tk', s₃ = { s₂ with heap := h', toks := tk' } ∧ KeepAll h h') ∧
        if ok = true then wpAny (model prog w) A (eval elt (compEnvC scope cl C env)) (fun v s₄ => (∃ h' tk', s₄ = { s₂ with heap := h', toks := tk' } ∧ KeepAll h h') ∧ Rel (i + 1) (ys' ++ [v])) E' s₃ else Rel (i + 1) ys') E' { s₂ with heap := h, toks := tk })
    (hRR : ∀ D C h tk m' ys', Fr h₀ L h m → News h₀ L h ((D, lst ys') :: news) → (∀ p ∈ news, p.1 < D) → h.Ns C m' → h₀.get? C = none → C ≠ L → C ≠ D → (∀ p ∈ news, p.1 ≠ C) → Rel x.cps.size ys' → RR (.ref D) C (.ok .next) { s₂ with heap := h, toks := tk }) :
    wpAny (model prog w) A (newList []) (fun acc s₃ => wpAny (model prog w) A (newFunctionEnv scope env.globals cl [] env.qual none .none (some env)) (fun cenv s₄ =>
      codeAny (model prog w) A (.compStart (.ListComp elt [⟨.Tuple [.Name a pa, .Name b pb] kk tp, iter, [ce], 0⟩] scope pos) 0 (.ref z) acc { cenv with scope := relabel scope env }) (RR acc cenv.locals) s₄) E s₃) E s₂ := by
  refine wpAny_newObj_type (wpAny_newFunctionEnv hcell (by intro y hy; simp at hy) (fun h₁ hns₁ hsb₁ => ?_) hkind)
  dsimp only at hns₁ hsb₁ ⊢
  generalize hH2 : s₂.heap.push { cls := .type "list", dict := none, data := .seq ([] : List Value).toArray } = H2 at hns₁ hsb₁ ⊢
  have hC : H2.objs.size = s₂.heap.objs.size + 1 := by rw [← hH2, Heap.size_push]
  have hDC : s₂.heap.objs.size ≠ H2.objs.size := by rw [hC]; exact Nat.ne_of_lt (Nat.lt_succ_self _)
  have below : ∀ k, k < s₂.heap.objs.size → k ≠ H2.objs.size ∧ k ≠ s₂.heap.objs.size := fun k hk => ⟨by rw [hC]; exact Nat.ne_of_lt (Nat.lt_succ_of_lt hk), Nat.ne_of_lt hk⟩
  have old : KeepAll s₂.heap h₁ := fun k o e => hsb₁.extBut k o (below k (Heap.lt_size e)).1 (Heap.get?_push_of_some _ (hH2 ▸ Heap.get?_push_of_some _ e))
  have hacc : h₁.get? s₂.heap.objs.size = some (lst []) := hsb₁.extBut _ _ hDC (Heap.get?_push_of_some _ (hH2 ▸ Heap.get?_push_size _ rfl))
  have fresh₀ : ∀ k, s₂.heap.objs.size ≤ k → h₀.get? k = none := fun k hk => by
    cases e : h₀.get? k with
    | none => rfl
    | some o' => exact absurd (Heap.lt_size (F.keep k o' e)) (Nat.not_lt.mpr hk)
  have hD₀ : h₀.get? s₂.heap.objs.size = none := fresh₀ _ (Nat.le_refl _)
  have hC₀ : h₀.get? H2.objs.size = none := fresh₀ _ (by rw [hC]; exact Nat.le_succ _)
  have hLlt : L < s₂.heap.objs.size := F.ns.lt
  have hDL : s₂.heap.objs.size ≠ L := Ne.symm (below L hLlt).2
  have hCL : H2.objs.size ≠ L := Ne.symm (below L hLlt).1
  have lz : z < s₂.heap.objs.size := Heap.lt_size Z.zip
  have lta : ta < s₂.heap.objs.size := Heap.lt_size Z.its
  have ltb : tb < s₂.heap.objs.size := by obtain ⟨u, v, q⟩ := Z.own; exact Heap.lt_size q
  have li1 : i1 < s₂.heap.objs.size := by obtain ⟨o, q, _⟩ := Z.str; exact Heap.lt_size q
  have li2 : i2 < s₂.heap.objs.size := by obtain ⟨o, q, _⟩ := Z.lst; exact Heap.lt_size q
  have ll2 : l2 < s₂.heap.objs.size := by obtain ⟨o, q, _⟩ := Z.src; exact Heap.lt_size q
  have zup : ∀ {h h' : Heap} {i : Nat}, ZAt h z ta tb i1 i2 l2 x t ys i .none → (∀ k o, k ≠ H2.objs.size → k ≠ s₂.heap.objs.size → h.get? k = some o → h'.get? k = some o) → ZAt h' z ta tb i1 i2 l2 x t ys i .none := by
    intro h h' i Y hk
    have k1 : ∀ k, k < s₂.heap.objs.size → ∀ o, h.get? k = some o → h'.get? k = some o := fun k hlt o e => hk k o (below k hlt).1 (below k hlt).2 e
    exact ⟨k1 _ lz _ Y.zip, k1 _ lta _ Y.its, let ⟨u, v, q⟩ := Y.own; ⟨u, v, k1 _ ltb _ q⟩, let ⟨o, q, r⟩ := Y.str; ⟨o, k1 _ li1 _ q, r⟩, Y.lst.at fun o q => k1 _ li2 _ q, Y.src.at fun o q => k1 _ ll2 _ q⟩
  have nlt : ∀ p ∈ news, p.1 < s₂.heap.objs.size := fun p hp => Heap.lt_size (N p hp).1
  have hoffL : z ≠ L ∧ tb ≠ L ∧ i1 ≠ L ∧ i2 ≠ L := ⟨(hf z (by simp)).2, (hf tb (by simp)).2, (hf i1 (by simp)).2, (hf i2 (by simp)).2⟩
  have frk : ∀ {h h' : Heap}, Fr h₀ L h m → (∀ k o, k ≠ z → k ≠ tb → k ≠ i1 → k ≠ i2 → k ≠ H2.objs.size → k ≠ s₂.heap.objs.size → h.get? k = some o → h'.get? k = some o) → Fr h₀ L h' m := by
    intro h h' F₁ hk
    refine ⟨F₁.ns.at' fun o e => hk _ o hoffL.1.symm hoffL.2.1.symm hoffL.2.2.1.symm hoffL.2.2.2.symm hCL.symm hDL.symm e, fun k o e => ?_, F₁.above⟩
    refine hk k o (fun q => ?_) (fun q => ?_) (fun q => ?_) (fun q => ?_) (fun q => ?_) (fun q => ?_) (F₁.keep k o e)
    · rw [q, (hf z (by simp)).1] at e; cases e
    · rw [q, (hf tb (by simp)).1] at e; cases e
    · rw [q, (hf i1 (by simp)).1] at e; cases e
    · rw [q, (hf i2 (by simp)).1] at e; cases e
    · rw [q, hC₀] at e; cases e
    · rw [q, hD₀] at e; cases e
  have nwk : ∀ {h h' : Heap}, News h₀ L h news → (∀ k o, k ≠ z → k ≠ tb → k ≠ i1 → k ≠ i2 → k ≠ H2.objs.size → k ≠ s₂.heap.objs.size → h.get? k = some o → h'.get? k = some o) → News h₀ L h' news := by
    intro h h' N₁ hk p hp
    have q := hoff p hp
    exact ⟨hk _ _ q.1 q.2.1 q.2.2.1 q.2.2.2 (below _ (nlt p hp)).1 (below _ (nlt p hp)).2 (N₁ p hp).1, (N₁ p hp).2⟩
  have loop : ∀ s₃ : Shared, s₃ = { s₂ with heap := h₁, toks := s₂.toks + ([] : List (Str × Value)).length } →
      codeAny (model prog w) A (.compLoop (.ListComp elt [⟨.Tuple [.Name a pa, .Name b pb] kk tp, iter, [ce], 0⟩] scope pos) 0 (.ref z) (.ref s₂.heap.objs.size) (compEnvC scope cl H2.objs.size env))
        (RR (.ref s₂.heap.objs.size) H2.objs.size) s₃ := by
    rintro s₃ rfl
    refine kct_loop
      (fun k s' => ∃ h' tk i ys' m', s' = { s₂ with heap := h', toks := tk } ∧ i ≤ x.cps.size ∧ k = x.cps.size + 1 - i ∧ ZAt h' z ta tb i1 i2 l2 x t ys i .none ∧ Fr h₀ L h' m ∧ h'.Ns H2.objs.size m' ∧
        h'.get? s₂.heap.objs.size = some (lst ys') ∧ News h₀ L h' news ∧ Rel i ys') ?_ (x.cps.size + 1)
      ⟨h₁, _, 0, [], _, rfl, Nat.zero_le _, rfl, zup Z fun k o _ _ e => old k o e, F.keeps old, hns₁, hacc, fun p hp => ⟨old _ _ (N p hp).1, (N p hp).2⟩, h0⟩
    rintro k s' ⟨h', tk, i, ys', m', rfl, hi, rfl, Z', F', hn', hD', N', R'⟩
    by_cases hlt : i < x.cps.size
    · obtain ⟨n, hn⟩ : ∃ n, x.cps[i]? = some n := ⟨_, Array.getElem?_eq_getElem hlt⟩
      obtain ⟨y, hy⟩ : ∃ y, ys[i]? = some y := ⟨_, Array.getElem?_eq_getElem (by omega)⟩
      refine zs_item S Z' hn hy fun h₂ T u Z₂ hT hTn hk₂ => ?_
      refine wpAny_letOwnedTupleGo_zip Z₂.zip fun h₃ hz₃ hs₃ => ?_
      have hTz : T ≠ z := fun q => by rw [q, Z'.zip] at hTn; cases hTn
      have up3 : ∀ k o, k ≠ z → k ≠ tb → k ≠ i1 → k ≠ i2 → h'.get? k = some o → h₃.get? k = some o := fun k o n1 n2 n3 n4 e => hs₃.extBut _ _ n1 (hk₂ k o n1 n2 n3 n4 e)
      have nC : H2.objs.size ≠ z ∧ H2.objs.size ≠ tb ∧ H2.objs.size ≠ i1 ∧ H2.objs.size ≠ i2 := ⟨(below _ lz).1.symm, (below _ ltb).1.symm, (below _ li1).1.symm, (below _ li2).1.symm⟩
      have nD : s₂.heap.objs.size ≠ z ∧ s₂.heap.objs.size ≠ tb ∧ s₂.heap.objs.size ≠ i1 ∧ s₂.heap.objs.size ≠ i2 := ⟨(below _ lz).2.symm, (below _ ltb).2.symm, (below _ li1).2.symm, (below _ li2).2.symm⟩
      have Z₃ : ZAt h₃ z ta tb i1 i2 l2 x t ys (i + 1) .none := ⟨hz₃, hs₃.extBut _ _ S.az Z₂.its, let ⟨u, v, q⟩ := Z₂.own; ⟨u, v, hs₃.extBut _ _ S.bz q⟩, let ⟨o, q, r⟩ := Z₂.str; ⟨o, hs₃.extBut _ _ S.cz q, r⟩, Z₂.lst.at fun o q => hs₃.extBut _ _ S.dz q, Z₂.src.at fun o q => hs₃.extBut _ _ S.ez q⟩
      have hT₃ : h₃.IsTuple T #[.str ⟨#[n]⟩ u, y] := ⟨_, hs₃.extBut _ _ hTz hT, rfl, 0, rfl⟩
      refine kcp_assign (env := compEnvC scope cl H2.objs.size env) hh hT₃ (lookup_relabel_local hxa) (lookup_relabel_local hxb) (by simp [compEnvC, relabel, hkind]) (hn'.at' fun o e => up3 _ o nC.1 nC.2.1 nC.2.2.1 nC.2.2.2 e) fun h₄ tk₄ hn₄ hs₄ => ?_
      have up4 : ∀ k o, k ≠ z → k ≠ tb → k ≠ i1 → k ≠ i2 → k ≠ H2.objs.size → h'.get? k = some o → h₄.get? k = some o := fun k o n1 n2 n3 n4 n5 e => hs₄ k o n5 (up3 k o n1 n2 n3 n4 e)
      have Z₄ : ZAt h₄ z ta tb i1 i2 l2 x t ys (i + 1) .none := zup Z₃ fun k o n1 _ e => hs₄ k o n1 e
      have F₄ : Fr h₀ L h₄ m := frk F' fun k o n1 n2 n3 n4 n5 _ e => up4 k o n1 n2 n3 n4 n5 e
      have N₄ : News h₀ L h₄ news := nwk N' fun k o n1 n2 n3 n4 n5 _ e => up4 k o n1 n2 n3 n4 n5 e
      have D₄ : h₄.get? s₂.heap.objs.size = some (lst ys') := up4 _ _ nD.1 nD.2.1 nD.2.2.1 nD.2.2.2 hDC hD'
      obtain ⟨oC, heC, hoC⟩ := ns_obj hn₄
      have N₅ : News h₀ L h₄ ((H2.objs.size, oC) :: (s₂.heap.objs.size, lst ys') :: news) := fun q hq => by
        rcases List.mem_cons.mp hq with rfl | hq
        · exact ⟨heC, hCL, hC₀⟩
        · rcases List.mem_cons.mp hq with rfl | hq
          · exact ⟨D₄, hDL, hD₀⟩
          · exact N₄ q hq
      have fin : ∀ (ys'' : List Value) (h₅ : Heap) (tk₅ : Nat), ZAt h₅ z ta tb i1 i2 l2 x t ys (i + 1) .none → Fr h₀ L h₅ m → h₅.Ns H2.objs.size (fun q => if q = b then some y else if q = a then some (.str ⟨#[n]⟩ u) else m' q) → h₅.get? s₂.heap.objs.size = some (lst ys'') → News h₀ L h₅ news → Rel (i + 1) ys'' →
          ∃ q', q' < x.cps.size + 1 - i ∧ (∃ h' tk i ys' m', ({ s₂ with heap := h₅, toks := tk₅ } : Shared) = { s₂ with heap := h', toks := tk } ∧ i ≤ x.cps.size ∧ q' = x.cps.size + 1 - i ∧ ZAt h' z ta tb i1 i2 l2 x t ys i .none ∧ Fr h₀ L h' m ∧ h'.Ns H2.objs.size m' ∧
            h'.get? s₂.heap.objs.size = some (lst ys') ∧ News h₀ L h' news ∧ Rel i ys') := fun ys'' h₅ tk₅ a1 a2 a3 a4 a5 a6 => ⟨x.cps.size + 1 - (i + 1), by omega, h₅, tk₅, i + 1, ys'', _, rfl, hlt, rfl, a1, a2, a3, a4, a5, a6⟩
      refine wpAny_mono (turn i n y u ys' H2.objs.size oC s₂.heap.objs.size _ h₄ _ _ hn hy R' hoC (by simp [hab]) (by simp) F₄ N₅) (fun ok s₅ h₅ => ?_) fun _ _ e => e
      obtain ⟨⟨p5, q5, rfl, k5⟩, h₅⟩ := h₅
      cases ok with
      | false =>
        simp only [Bool.false_eq_true, if_false] at h₅ ⊢
        exact fin ys' p5 q5 (zup Z₄ fun k o _ _ e => k5 k o e) (F₄.keeps k5) (hn₄.at' fun o e => k5 _ o e) (k5 _ _ D₄) (fun p hp => ⟨k5 _ _ (N₄ p hp).1, (N₄ p hp).2⟩) h₅
      | true =>
        simp only [if_true] at h₅ ⊢
        refine wpAny_mono h₅ (fun v s₆ h₆ => ?_) fun _ _ e => e
        obtain ⟨⟨p6, q6, rfl, k6⟩, R6⟩ := h₆
        have hl := hlen _ _ R'
        refine append_at (hsz := by show ys'.toArray.size ≤ sizeLine; rw [List.size_toArray, sizeLine_eq]; omega) (k6 _ _ D₄) fun h₇ hs₇ hD₇ => ?_
        have k7 : ∀ k o, k ≠ s₂.heap.objs.size → h₄.get? k = some o → h₇.get? k = some o := fun k o n1 e => hs₇.extBut k o n1 (k6 k o e)
        refine fin (ys' ++ [v]) h₇ _ (zup Z₄ fun k o _ n2 e => k7 k o n2 e) (frk F₄ fun k o _ _ _ _ _ n6 e => k7 k o n6 e) (hn₄.at' fun o e => k7 _ o hDC.symm e) (hD₇.trans (congrArg some (lst_snoc ys' v))) (nwk N₄ fun k o _ _ _ _ _ n6 e => k7 k o n6 e) R6
    · have hin : i = x.cps.size := by omega
      subst hin
      refine zs_end hh S Z' (Array.getElem?_eq_none (Nat.le_refl _)) fun h₂ hk₂ => ?_
      have F₂ : Fr h₀ L h₂ m := frk F' fun k o n1 n2 n3 n4 _ _ e => hk₂ k o n1 n2 n3 n4 e
      have N₂ : News h₀ L h₂ news := nwk N' fun k o n1 n2 n3 n4 _ _ e => hk₂ k o n1 n2 n3 n4 e
      refine hRR _ _ h₂ _ m' ys' F₂ (fun q hq => ?_) nlt (hn'.at' fun o e => hk₂ _ o (below _ lz).1.symm (below _ ltb).1.symm (below _ li1).1.symm (below _ li2).1.symm e) hC₀ hCL hDC.symm (fun p hp => (below _ (nlt p hp)).1) R'
      rcases List.mem_cons.mp hq with rfl | hq
      · exact ⟨hk₂ _ _ (below _ lz).2.symm (below _ ltb).2.symm (below _ li1).2.symm (below _ li2).2.symm hD', hDL, hD₀⟩
      · exact N₂ q hq
  exact codeAny_compStart_list (loop _ rfl) (wpAny_pyIter_zip (zup Z fun k o _ _ e => old k o e).zip (loop _ rfl))
theorem zs_ListComp {elt iter ce : PySem.Expr} {a b : Str} {pa pb tp : Pos} {kk : Nat} {scope : Scope} {cl : List (Str × Addr)} {pos : Pos} {Q : Value → Shared → Prop}
    (hclos : closureFor scope env = pure cl) (hcell : ∀ y ∈ scope.names, y.2 ≠ .cell) (hkind : scope.kind = .function)
    (hnames : ∀ y ∈ scope.names, y.2 = .local → scope.names.lookup y.1 = some .local) (hxa : scope.names.lookup a = some .local) (hxb : scope.names.lookup b = some .local) (hab : ¬ a = b) (hh : A.handled = none)
    (Rel : Nat → List Value → Prop) (h0 : Rel 0 []) (hlen : ∀ i ys', Rel i ys' → ys'.length ≤ i)
    (h : wpAny (model prog w) A (eval iter env) (fun xv s₁ => ∃ z ta tb i1 i2 l2 x t ys news, xv = .ref z ∧ Six z ta tb i1 i2 l2 ∧ ZAt s₁.heap z ta tb i1 i2 l2 x t ys 0 .none ∧ x.cps.size ≤ ys.size ∧ x.cps.size ≤ 1000 ∧ (∀ k ∈ [z, ta, tb, i1, i2], h₀.get? k = none ∧ k ≠ L) ∧
      Fr h₀ L s₁.heap m ∧ News h₀ L s₁.heap news ∧ (∀ p ∈ news, p.1 ≠ z ∧ p.1 ≠ tb ∧ p.1 ≠ i1 ∧ p.1 ≠ i2) ∧
      (∀ i n y u ys' C oC D m₂ h tk (E' : Value → Shared → Prop), x.cps[i]? = some n → ys[i]? = some y → Rel i ys' → NsObj oC m₂ → m₂ a = some (.str ⟨#[n]⟩ u) → m₂ b = some y → Fr h₀ L h m → News h₀ L h ((C, oC) :: (D, lst ys') :: news) →
      wpAny (model prog w) A (isTrue ce (compEnvC scope cl C env) (eval ce (compEnvC scope cl C env))) (fun ok s₃ => (∃ h' tk', s₃ = { s₁ with heap := h', toks := tk' } ∧ KeepAll h h') ∧
        if ok = true then wpAny (model prog w) A (eval elt (compEnvC scope cl C env)) (fun v s₄ => (∃ h' tk', s₄ = { s₁ with heap := h', toks := tk' } ∧ KeepAll h h') ∧ Rel (i + 1) (ys' ++ [v])) E' s₃ else Rel (i + 1) ys') E' { s₁ with heap := h, toks := tk }) ∧
      (∀ D h tk ys', Fr h₀ L h m → News h₀ L h ((D, lst ys') :: news) → (∀ p ∈ news, p.1 < D) → Rel x.cps.size ys' → Q (.ref D) { s₁ with heap := h, toks := tk })) E s)
    (hs : ∀ x, foldedSetIterable iter env x = pure x := by intro _; rfl) :
    wpAny (model prog w) A (eval (.ListComp elt [⟨.Tuple [.Name a pa, .Name b pb] kk tp, iter, [ce], 0⟩] scope pos) env) Q E s := by
  rw [eval_ListComp]
  refine wpAny_comprehension_free (use := none) rfl hs hclos hkind hnames (wpAny_mono h (fun xv s₁ h₁ => ?_) fun _ _ e => e)
  obtain ⟨z, ta, tb, i1, i2, l2, x, t, ys, news, rfl, S, Z, b1, b2, hf, F, N, ho, turn, fin⟩ := h₁
  refine wpAny_pyIter_zip Z.zip ?_
  refine zs_block hh S Z b1 b2 hf hcell hkind hxa hxb hab F N ho Rel h0 hlen turn ?_
  intro D C h tk m' ys' F' N' o1 hn hC₀ hCL hCD offC R'
  refine ⟨m', hn, fun h'' hs'' => fin D h'' tk ys' (F'.change hs'' hCL hC₀) (fun p hp => ?_) o1 R'⟩
  refine ⟨hs''.extBut _ _ ?_ (N' p hp).1, (N' p hp).2⟩
  rcases List.mem_cons.mp hp with rfl | hp
  · exact hCD.symm
  · exact offC p hp
end
end Mine
end
section
open PySem PySem.W PyProof.Rows PySem.Spec PySem.Calls PySem.Builtin.Str
set_option maxRecDepth 100000
namespace Mine
local macro_rules | `(tactic| k_fmods) => `(tactic| skip)
noncomputable abbrev envP (L : Addr) : Env := envOfC (Str.ofString "_law_piece") (fScope (stOf 14)) L 118 (Value.ref 117)
noncomputable def pieSt (i : Nat) : Stmt := ((fBody (stOf 14)).drop i).headD (.Pass default)
noncomputable def pieL (i j : Nat) : List Stmt := ((fBody (stOf 14)).drop i).take j
noncomputable abbrev tupQ (a b c : Value) : Obj := { cls := Value.type "tuple", data := Data.seq #[a, b, c] }
theorem rot3 {g h : Heap} {L : Addr} {a b c : Addr × Obj} {l : List (Addr × Obj)} (N : News g L h (a :: b :: c :: l)) : News g L h (c :: a :: b :: l) := News.perm N (fun p hp => by
  rcases List.mem_cons.mp hp with rfl | hp
  · exact .tail _ (.tail _ (.head _))
  · rcases List.mem_cons.mp hp with rfl | hp
    · exact .head _
    · rcases List.mem_cons.mp hp with rfl | hp
      · exact .tail _ (.head _)
      · exact .tail _ (.tail _ (.tail _ hp)))
theorem drop45 {g h : Heap} {L : Addr} {a b c d e : Addr × Obj} {l : List (Addr × Obj)} (N : News g L h (a :: b :: c :: d :: e :: l)) : News g L h (e :: a :: b :: l) := News.perm N (fun p hp => by
  rcases List.mem_cons.mp hp with rfl | hp
  · exact .tail _ (.tail _ (.tail _ (.tail _ (.head _))))
  · rcases List.mem_cons.mp hp with rfl | hp
    · exact .head _
    · rcases List.mem_cons.mp hp with rfl | hp
      · exact .tail _ (.head _)
      · exact .tail _ (.tail _ (.tail _ (.tail _ (.tail _ hp)))))
theorem div_nz {prog : Program} {w : World} {A : Around} {E : Value → Shared → Prop} {s : Shared} {Q : Value → Shared → Prop} {a b : UInt64} {t u : Tok} (hz : Float64.isZero b = false) (h : Q (.float (Float64.div a b) s.toks) { s with toks := s.toks + 1 }) : wpAny (model prog w) A (binaryOp .Div (.float a t) (.float b u)) Q E s :=
  AutoFloatOps.truediv_1 (by rw [hz]; exact Bool.false_ne_true) h
noncomputable def HoldZ (m : Str → Option Value) (x : Str) (z : Int) : Prop := ∃ t, m x = some (.int z t)
noncomputable def HoldF (m : Str → Option Value) (x : Str) (z : UInt64) : Prop := ∃ t, m x = some (.float z t) ∧ t ≠ 0
section
variable (w : World) (mean : ExcName → Option Value) (mg mb : Str → Option Value) (news : List (Addr × Obj))
  (dp un : Nat) (gd : Option (List Code)) (cn : Str) (cs : Scope) (a : Addr) (ccd : Value) (cl : List (Str × Addr)) (outer : List Env) (base : Heap) (gh h : Heap) (L₀ L : Addr) (m : Str → Option Value) (s : Shared) (tk : Nat) (Q : Flow → Shared → Prop) (E : Value → Shared → Prop)
set_option maxHeartbeats 1000000 in
theorem pie_A0 (x : Int) (tt : Tok)
  (B' : Below (ktrTop dp un gd cn cs L₀ a ccd cl outer) base (envX cn cs L₀ a ccd cl :: outer) gh) (X' : (KT w.params).In gh) (T' : Top qV looseV mean mg mb gh)
  (F' : Fr gh L h (fun y => if y = Str.ofString "x" then some (.int x tt) else m y)) (N' : News gh L h news) (hdp : dp + 6 < recursionLimit) (hun : un + 100 < cLine)
  (hnext : ∀ h' tk' m', 0 < tk' → Fr gh L h' m' → News gh L h' news → HoldZ m' (Str.ofString "y") (x.fmod 1000000) → Q .next { s with heap := h', toks := tk' }) :
  wpAny (model rwT.prog w) ((ktrTop dp un gd cn cs L₀ a ccd cl outer).deeper (envP L)) (exec (pieSt 0) (envP L)) Q E { s with heap := h, toks := tk } := by
  k_with_none
  k_with "binaryOp Div int int" => ((with_reducible show wpAny _ _ (binaryOp Operator.Div (Value.int _ _) (Value.int _ _)) _ _ _); refine div_small rfl (by omega) (by first | exact lt_dn (by assumption) (by decide) | omega) (by first | exact lt_dn (by assumption) (by decide) | omega) ?_)
  dsimp only [envP]; (conv in (pieSt _) => whnf); revert X'; k_fill; intro X'
  k_steps
  all_goals exact hnext _ _ _ (Nat.succ_pos _) (by k_asm) (by k_asm) ⟨_, rfl⟩
set_option maxHeartbeats 1000000 in
theorem pie_A1 (y : Int) (ty : Tok) (hy : 0 ≤ y ∧ y < 1000000)
  (B' : Below (ktrTop dp un gd cn cs L₀ a ccd cl outer) base (envX cn cs L₀ a ccd cl :: outer) gh) (X' : (KT w.params).In gh) (T' : Top qV looseV mean mg mb gh)
  (F' : Fr gh L h (fun z => if z = Str.ofString "y" then some (.int y ty) else m z)) (N' : News gh L h news) (hdp : dp + 6 < recursionLimit) (hun : un + 100 < cLine)
  (hnext : ∀ h' tk' m', Fr gh L h' m' → News gh L h' news → HoldZ m' (Str.ofString "y") y → HoldZ m' (Str.ofString "hue") (2 * y.fmod 16 + 1) → HoldZ m' (Str.ofString "share") (4 - (y.fdiv 16).fmod 5) → HoldZ m' (Str.ofString "value") ((y.fdiv 80).fmod 4 + 1) → HoldZ m' (Str.ofString "whole") (((y.fdiv 80).fmod 4 + 1) * (8 - (4 - (y.fdiv 16).fmod 5))) → HoldZ m' (Str.ofString "kind") 6 → Q .next { s with heap := h', toks := tk' }) :
  wpAny (model rwT.prog w) ((ktrTop dp un gd cn cs L₀ a ccd cl outer).deeper (envP L)) (execs (pieL 1 5) (envP L)) Q E { s with heap := h, toks := tk } := by
  k_with_none
  k_with "binaryOp Div int int" => ((with_reducible show wpAny _ _ (binaryOp Operator.Div (Value.int _ _) (Value.int _ _)) _ _ _); refine div_small rfl (by omega) (by first | exact lt_dn (by assumption) (by decide) | omega) (by first | exact lt_dn (by assumption) (by decide) | omega) ?_)
  dsimp only [envP]; (conv in (pieL _ _) => whnf); revert X'; k_fill; intro X'
  k_steps
  all_goals exact wpAny_execs_nil (hnext _ _ _ (by k_asm) (by k_asm) ⟨_, rfl⟩ ⟨_, rfl⟩ ⟨_, rfl⟩ ⟨_, rfl⟩ ⟨_, rfl⟩ ⟨_, rfl⟩)
set_option maxHeartbeats 1000000 in
theorem pie_B0 (y hue value whole : Int) (t1 t2 t3 t4 t5 t6 : Tok) (o : Obj) (od : o.data = .cell none) (hv : 1 ≤ value ∧ value ≤ 4) (hw : 1 ≤ whole ∧ whole ≤ 32) (hne : ∀ q ∈ news, q.1 ≠ L + 1) (htk : 0 < tk)
  (B' : Below (ktrTop dp un gd cn cs L₀ a ccd cl outer) base (envX cn cs L₀ a ccd cl :: outer) gh) (X' : (KT w.params).In gh) (T' : Top qV looseV mean mg mb gh)
  (F' : Fr gh L h (fun z => if z = Str.ofString "y" then some (.int y t1) else if z = Str.ofString "hue" then some (.int hue t2) else if z = Str.ofString "share" then some (.int 0 t3) else if z = Str.ofString "value" then some (.int value t4) else if z = Str.ofString "whole" then some (.int whole t5) else if z = Str.ofString "kind" then some (.int 6 t6) else m z)) (N' : News gh L h ((L + 1, o) :: news)) (hdp : dp + 6 < recursionLimit) (hun : un + 100 < cLine)
  (hnext : ∀ h' tk' m' Td Dd o' u1 u2 u3 v1 v2 v3, Fr gh L h' m' → News gh L h' ((L + 1, o') :: (Dd, tupQ (.float 0 v1) (.float (qD whole 32) v2) (.float 0 v3)) :: (Td, tupQ (.float 0 u1) (.float 0 u2) (.float (qD value 4) u3)) :: news) → Td ≠ L + 1 → Dd ≠ L + 1 → o'.data = .cell (some (.ref Dd)) → (u1 ≠ 0 ∧ u2 ≠ 0 ∧ u3 ≠ 0 ∧ v1 ≠ 0 ∧ v2 ≠ 0 ∧ v3 ≠ 0) →
    HoldZ m' (Str.ofString "y") y → HoldZ m' (Str.ofString "hue") hue → HoldZ m' (Str.ofString "share") 0 → HoldZ m' (Str.ofString "value") value → HoldZ m' (Str.ofString "kind") 6 → m' (Str.ofString "told") = some (.ref Td) → Q .next { s with heap := h', toks := tk' }) :
  wpAny (model rwT.prog w) ((ktrTop dp un gd cn cs L₀ a ccd cl outer).deeper (envP L)) (execs (pieL 6 3) (envP L)) Q E { s with heap := h, toks := tk } := by
  k_with_none
  k_with "binaryOp Div int int" => ((with_reducible show wpAny _ _ (binaryOp Operator.Div (Value.int _ _) (Value.int _ _)) _ _ _); refine div_small rfl (by omega) (by first | exact lt_dn (by assumption) (by decide) | omega) (by first | exact lt_dn (by assumption) (by decide) | omega) ?_)
  dsimp only [envP]; (conv in (pieL _ _) => whnf); revert X'; k_fill; intro X'
  k_steps
  all_goals exact wpAny_execs_nil (hnext _ _ _ _ _ _ _ _ _ _ _ _ (by k_asm) (rot3 (by k_asm)) (Nat.ne_of_gt (And.left (by assumption))) (Nat.ne_of_gt (And.left (And.right (by assumption)))) (by assumption) ⟨Nat.ne_of_gt htk, Nat.succ_ne_zero _, Nat.succ_ne_zero _, Nat.succ_ne_zero _, Nat.succ_ne_zero _, Nat.succ_ne_zero _⟩ ⟨_, rfl⟩ ⟨_, rfl⟩ ⟨_, rfl⟩ ⟨_, rfl⟩ ⟨_, rfl⟩ rfl)
noncomputable abbrev mnZ (whole : Int) : Int := if 32 - whole < whole then 32 - whole else whole
set_option maxHeartbeats 1000000 in
theorem pie_B1 (y hue share value whole : Int) (t1 t2 t3 t4 t5 t6 : Tok) (o : Obj) (od : o.data = .cell none) (hh : 1 ≤ hue ∧ hue ≤ 31) (hs : 0 < share ∧ share ≤ 4) (hv : 1 ≤ value ∧ value ≤ 4) (hw : 1 ≤ whole ∧ whole ≤ 31) (hp : 0 ≤ value * share ∧ value * share ≤ 16) (hz : Float64.isZero (qD (if 32 - whole < whole then 32 - whole else whole) 16) = false) (hne : ∀ q ∈ news, q.1 ≠ L + 1) (htk : 0 < tk)
  (B' : Below (ktrTop dp un gd cn cs L₀ a ccd cl outer) base (envX cn cs L₀ a ccd cl :: outer) gh) (X' : (KT w.params).In gh) (T' : Top qV looseV mean mg mb gh)
  (F' : Fr gh L h (fun z => if z = Str.ofString "y" then some (.int y t1) else if z = Str.ofString "hue" then some (.int hue t2) else if z = Str.ofString "share" then some (.int share t3) else if z = Str.ofString "value" then some (.int value t4) else if z = Str.ofString "whole" then some (.int whole t5) else if z = Str.ofString "kind" then some (.int 6 t6) else m z)) (N' : News gh L h ((L + 1, o) :: news)) (hdp : dp + 6 < recursionLimit) (hun : un + 100 < cLine)
  (hnext : ∀ h' tk' m' Td Dd o' u1 u2 u3 v1 v2 v3, Fr gh L h' m' → News gh L h' ((L + 1, o') :: (Dd, tupQ (.float (qD hue 32) v1) (.float (qD whole 32) v2) (.float (Float64.div (qD (value * share) 16) (qD (mnZ whole) 16)) v3)) :: (Td, tupQ (.float (qD hue 32) u1) (.float (qD share 4) u2) (.float (qD value 4) u3)) :: news) → Td ≠ L + 1 → Dd ≠ L + 1 → o'.data = .cell (some (.ref Dd)) → (u1 ≠ 0 ∧ u2 ≠ 0 ∧ u3 ≠ 0 ∧ v1 ≠ 0 ∧ v2 ≠ 0 ∧ v3 ≠ 0) →
    HoldZ m' (Str.ofString "y") y → HoldZ m' (Str.ofString "hue") hue → HoldZ m' (Str.ofString "share") share → HoldZ m' (Str.ofString "value") value → HoldZ m' (Str.ofString "kind") (((6 * hue + 16).fdiv 32).fmod 6) → m' (Str.ofString "told") = some (.ref Td) → Q .next { s with heap := h', toks := tk' }) :
  wpAny (model rwT.prog w) ((ktrTop dp un gd cn cs L₀ a ccd cl outer).deeper (envP L)) (execs (pieL 6 3) (envP L)) Q E { s with heap := h, toks := tk } := by
  k_with_none
  k_with "binaryOp Div int int" => ((with_reducible show wpAny _ _ (binaryOp Operator.Div (Value.int _ _) (Value.int _ _)) _ _ _); refine div_small rfl (by omega) (by first | exact lt_dn (by assumption) (by decide) | omega) (by first | exact lt_dn (by assumption) (by decide) | omega) ?_)
  k_with "binaryOp Div float float" => (refine div_nz (by assumption) ?_)
  dsimp only [envP]; (conv in (pieL _ _) => whnf); revert X'; k_fill; intro X'
  k_steps
  all_goals exact wpAny_execs_nil (hnext _ _ _ _ _ _ _ _ _ _ _ _ (by k_asm) (drop45 (by k_asm)) (Nat.ne_of_gt (And.left (And.right (And.right (by assumption))))) (Nat.ne_of_gt (And.left (And.right (And.right (And.right (by assumption)))))) (by assumption) ⟨Nat.succ_ne_zero _, Nat.succ_ne_zero _, Nat.succ_ne_zero _, Nat.succ_ne_zero _, Nat.succ_ne_zero _, Nat.succ_ne_zero _⟩ ⟨_, rfl⟩ ⟨_, rfl⟩ ⟨_, rfl⟩ ⟨_, rfl⟩ ⟨_, rfl⟩ rfl)
end
end Mine
end
section
open PySem PySem.W PyProof.Rows PySem.Spec PySem.Calls PySem.Builtin.Str
set_option maxRecDepth 100000
namespace Mine
open PySem.SeqAt
theorem same_ff {M : Model} {A : Around} {E : Value → Shared → Prop} {s : Shared} {a b : UInt64} {t u : Tok} {Q : Bool → Shared → Prop} (hb : NoneBooked s.heap) (ht : t ≠ 0) (hu : u ≠ 0) (hQ : ∀ r, Q r s) : wpAny M A (isSame (.float a t) (.float b u)) Q E s := by
  have h0 : (t == 0 || u == 0) = false := by simp [ht, hu]
  show wpAny M A (isSame.created _ t u) Q E s
  unfold isSame.created
  refine wpAny_ite ?_
  split
  · rename_i h; rw [h0] at h; exact absurd h Bool.false_ne_true
  refine wpAny_ite ?_
  split
  · exact wpAny_pure (hQ _)
  refine wpAny_ite ?_
  split
  · exact wpAny_pure (hQ _)
  refine wpAny_bind (wpAny_sharingNotTold_none hb ?_)
  first | rw [if_neg Bool.false_ne_true] | simp only [Bool.false_eq_true, if_false]
  refine wpAny_bind (wpAny_sharingNotTold_none hb ?_)
  first | rw [if_neg Bool.false_ne_true] | simp only [Bool.false_eq_true, if_false]
  exact wpAny_bind (wpAny_rule (wpAny_bind (wpAny_askSetting (wpAny_pure (hQ _)))))
theorem eq_ff {A : Around} {s : Shared} {a b : UInt64} {t u : Tok} (hb : NoneBooked s.heap) (ht : t ≠ 0) (hu : u ≠ 0) (hc : (Float64.cmp a b == some Ordering.eq) = true) : EqAt A s (.float a t) (.float b u) true := by
  intro prog w E Q hQ
  have rich : wpAny (model prog w) A (richCompare .Eq (.float a t) (.float b u)) (fun v s' => wpAny (model prog w) A (truthOfDropped v) Q E s') E s := by
    have : wpAny (model prog w) A (compareOp .Eq (.float a t) (.float b u)) (fun v s' => wpAny (model prog w) A (truthOfDropped v) Q E s') E s := AutoFloatOps.eq_0 (by rw [hc]; exact wpAny_truthy_bool hQ)
    exact this
  unfold eqBool
  refine wpAny_holding ?_
  refine wpAny_ite_split (fun _ => wpAny_bind (wpAny_rule (wpAny_pure hQ))) (fun _ => ?_)
  show wpAny _ _ (isSame (.float a t) (.float b u) >>= _) _ _ _
  refine wpAny_bind (same_ff hb ht hu fun r => ?_)
  cases r with
  | true => exact wpAny_pure hQ
  | false => exact wpAny_bind rich
theorem booked_at {w : World} {gh h : Heap} {L : Addr} {m : Str → Option Value} {mean : ExcName → Option Value} {mg mb : Str → Option Value} (X : (KT w.params).In gh) (T : Top qV looseV mean mg mb gh) (F : Fr gh L h m) : NoneBooked h := not_booked (X.keeps F.keep) (T.keeps F.keep)
theorem subT2 {a b : Addr × Obj} {l : List (Addr × Obj)} : ∀ x ∈ l, x ∈ a :: b :: l := fun _ hx => .tail _ (.tail _ hx)
theorem sub1 {a : Addr × Obj} {l : List (Addr × Obj)} : ∀ x ∈ l, x ∈ a :: l := fun _ hx => .tail _ hx
theorem ne_trip {prog : Program} {w : World} {A : Around} {E : Value → Shared → Prop} {s : Shared} {gh : Heap} {L : Addr} {news : List (Addr × Obj)} {d1 d2 : Addr} {a1 a2 a3 b1 b2 b3 : UInt64} {t1 t2 t3 u1 u2 u3 : Tok} {Q : Value → Shared → Prop} (hb : NoneBooked s.heap) (hu : A.units < cLine)
    (N : News gh L s.heap news) (h1 : (d1, tupQ (.float a1 t1) (.float a2 t2) (.float a3 t3)) ∈ news) (h2 : (d2, tupQ (.float b1 u1) (.float b2 u2) (.float b3 u3)) ∈ news) (ht : t1 ≠ 0 ∧ t2 ≠ 0 ∧ t3 ≠ 0) (hu' : u1 ≠ 0 ∧ u2 ≠ 0 ∧ u3 ≠ 0)
    (c1 : (Float64.cmp a1 b1 == some Ordering.eq) = true) (c2 : (Float64.cmp a2 b2 == some Ordering.eq) = true) (c3 : (Float64.cmp a3 b3 == some Ordering.eq) = true) (h : Q (.bool false) s) :
    wpAny (model prog w) A (compareOp .NotEq (.ref d1) (.ref d2)) Q E s := by
  have i1 : s.heap.IsTuple d1 #[.float a1 t1, .float a2 t2, .float a3 t3] := ⟨_, (N _ h1).1, rfl, 0, rfl⟩
  have i2 : s.heap.IsTuple d2 #[.float b1 u1, .float b2 u2, .float b3 u3] := ⟨_, (N _ h2).1, rfl, 0, rfl⟩
  have r := RcNeAt.tuples (A := A) (e := fun _ => true) i1 i2 hu (fun j hj1 hj2 => by
    simp only [List.size_toArray, List.length_cons, List.length_nil] at hj1
    match j, hj1, hj2 with
    | 0, _, _ => exact eq_ff hb ht.1 hu'.1 c1
    | 1, _, _ => exact eq_ff hb ht.2.1 hu'.2.1 c2
    | 2, _, _ => exact eq_ff hb ht.2.2 hu'.2.2 c3)
  exact r prog w E Q h
section
variable (w : World) (mean : ExcName → Option Value) (mg mb : Str → Option Value) (news : List (Addr × Obj))
  (dp un : Nat) (gd : Option (List Code)) (cn : Str) (cs : Scope) (a : Addr) (ccd : Value) (cl : List (Str × Addr)) (outer : List Env) (base : Heap) (gh h : Heap) (L₀ L : Addr) (m : Str → Option Value) (s : Shared) (tk : Nat) (Q : Flow → Shared → Prop) (E : Value → Shared → Prop)
set_option maxHeartbeats 1000000 in
theorem pie_C (y hue share value kind : Int) (r g b : UInt64) (t1 t2 t3 t4 t5 : Tok) (Td : Addr) (o : Obj) (hy : 0 ≤ y ∧ y < 1000000) (hh : 1 ≤ hue ∧ hue ≤ 31) (hs : 0 ≤ share ∧ share ≤ 4) (hv : 1 ≤ value ∧ value ≤ 4) (hne : ∀ q ∈ news, q.1 ≠ L + 1) (htk : 0 < tk) (hturn : ((y.fdiv 320).fmod 3).natAbs < 1000)
  (kr : Known (toRgb (Float64.add (qD hue 32) (Float64.ofInt ((y.fdiv 320).fmod 3))) (qD share 4) (qD value 4)) (r, g, b))
  (B' : Below (ktrTop dp un gd cn cs L₀ a ccd cl outer) base (envX cn cs L₀ a ccd cl :: outer) gh) (X' : (KT w.params).In gh) (T' : Top qV looseV mean mg mb gh)
  (F' : Fr gh L h (fun z => if z = Str.ofString "y" then some (.int y t1) else if z = Str.ofString "hue" then some (.int hue t2) else if z = Str.ofString "share" then some (.int share t3) else if z = Str.ofString "value" then some (.int value t4) else if z = Str.ofString "kind" then some (.int kind t5) else if z = Str.ofString "told" then some (.ref Td) else m z)) (N' : News gh L h ((L + 1, o) :: news)) (hdp : dp + 10 < recursionLimit) (hun : un + 100 < cLine)
  (hnext : ∀ h' tk' m', 0 < tk' → Fr gh L h' m' → News gh L h' ((L + 1, o) :: news) → HoldZ m' (Str.ofString "y") y → HoldZ m' (Str.ofString "kind") kind → m' (Str.ofString "told") = some (.ref Td) → HoldF m' (Str.ofString "red") r → HoldF m' (Str.ofString "green") g → HoldF m' (Str.ofString "blue") b → Q .next { s with heap := h', toks := tk' }) :
  wpAny (model rwT.prog w) ((ktrTop dp un gd cn cs L₀ a ccd cl outer).deeper (envP L)) (exec (pieSt 9) (envP L)) Q E { s with heap := h, toks := tk } := by
  k_with_none
  k_with "call ref" => (k_here; (with_reducible show wpAny _ _ (call (Value.ref 42) [Value.float _ _, Value.float _ _, Value.float _ _]) _ _ _); k_dflt (refine' rgb_c _ _ _ _ _ _ _ _ _ _ _ _ _ _ _ _ _ _ _ _ _ _ _ _ _ _ _ _ ?k1w9 ?k2w9 ?k3w9 ?k4w9 ?k5w9 ?k6w9 ?k7w9 ?k8w9 ?k9w9 ?kaw9 ?ksw9 ?kdw9 ?kuw9 ?_; (case k1w9 => k_asm); (case k2w9 => k_asm); (case k3w9 => k_asm); (case k4w9 => k_asm); (case k5w9 => k_asm); (case k6w9 => first | exact rfl | assumption); (case kdw9 => ktr_room); (case kuw9 => ktr_units); (case k7w9 => first | assumption | exact Nat.succ_ne_zero _ | exact Nat.ne_of_gt (by assumption) | exact Nat.succ_pos _ | omega | (dsimp only; omega)); (case k8w9 => first | assumption | exact Nat.succ_ne_zero _ | exact Nat.ne_of_gt (by assumption) | exact Nat.succ_pos _ | omega | (dsimp only; omega)); (case k9w9 => first | assumption | exact Nat.succ_ne_zero _ | exact Nat.ne_of_gt (by assumption) | exact Nat.succ_pos _ | omega | (dsimp only; omega)); (case kaw9 => first | assumption | exact Nat.succ_ne_zero _ | exact Nat.ne_of_gt (by assumption) | exact Nat.succ_pos _ | omega | (dsimp only; omega)); (case ksw9 => exact some_of (by assumption))); intro Dw9 aw9 bw9 cw9 taw9 tbw9 tcw9 hw9 tkw9 ew9 Fw9 Nw9 l1w9 htksw9; (obtain ⟨htk1w9, htk2w9, htk3w9, htk4w9⟩ := htksw9); (obtain ⟨haw9, hbw9, hcw9⟩ := same3 ew9 (by assumption)); subst haw9; subst hbw9; subst hcw9; clear ew9; (try k_lt l1w9); (try dsimp only))
  k_with "call ref" => (k_here; (with_reducible show wpAny _ _ (call (Value.ref 35) [Value.float _ _, Value.float _ _, Value.float _ _]) _ _ _); k_dflt (refine' hsv_c _ _ _ _ _ _ _ _ _ _ _ _ _ _ _ _ _ _ _ _ _ _ _ _ _ _ _ _ ?k1w9 ?k2w9 ?k3w9 ?k4w9 ?k5w9 ?k6w9 ?k7w9 ?k8w9 ?k9w9 ?kaw9 ?ksw9 ?kdw9 ?kuw9 ?_; (case k1w9 => k_asm); (case k2w9 => k_asm); (case k3w9 => k_asm); (case k4w9 => k_asm); (case k5w9 => k_asm); (case k6w9 => first | exact rfl | assumption); (case kdw9 => ktr_room); (case kuw9 => ktr_units); (case k7w9 => first | assumption | exact Nat.succ_ne_zero _ | exact Nat.ne_of_gt (by assumption) | exact Nat.succ_pos _ | omega | (dsimp only; omega)); (case k8w9 => first | assumption | exact Nat.succ_ne_zero _ | exact Nat.ne_of_gt (by assumption) | exact Nat.succ_pos _ | omega | (dsimp only; omega)); (case k9w9 => first | assumption | exact Nat.succ_ne_zero _ | exact Nat.ne_of_gt (by assumption) | exact Nat.succ_pos _ | omega | (dsimp only; omega)); (case kaw9 => first | assumption | exact Nat.succ_ne_zero _ | exact Nat.ne_of_gt (by assumption) | exact Nat.succ_pos _ | omega | (dsimp only; omega)); (case ksw9 => exact some_of (by assumption))); intro Dw9 aw9 bw9 cw9 taw9 tbw9 tcw9 hw9 tkw9 ew9 Fw9 Nw9 l1w9 htksw9; (obtain ⟨htk1w9, htk2w9, htk3w9, htk4w9⟩ := htksw9); (obtain ⟨haw9, hbw9, hcw9⟩ := same3 ew9 (by assumption)); subst haw9; subst hbw9; subst hcw9; clear ew9; (try k_lt l1w9); (try dsimp only))
  k_with "call ref" => (k_here; (with_reducible show wpAny _ _ (call (Value.ref 28) [Value.float _ _, Value.float _ _, Value.float _ _]) _ _ _); k_dflt (refine' hls_c _ _ _ _ _ _ _ _ _ _ _ _ _ _ _ _ _ _ _ _ _ _ _ _ _ _ _ _ ?k1w9 ?k2w9 ?k3w9 ?k4w9 ?k5w9 ?k6w9 ?k7w9 ?k8w9 ?k9w9 ?kaw9 ?ksw9 ?kdw9 ?kuw9 ?_; (case k1w9 => k_asm); (case k2w9 => k_asm); (case k3w9 => k_asm); (case k4w9 => k_asm); (case k5w9 => k_asm); (case k6w9 => first | exact rfl | assumption); (case kdw9 => ktr_room); (case kuw9 => ktr_units); (case k7w9 => first | assumption | exact Nat.succ_ne_zero _ | exact Nat.ne_of_gt (by assumption) | exact Nat.succ_pos _ | omega | (dsimp only; omega)); (case k8w9 => first | assumption | exact Nat.succ_ne_zero _ | exact Nat.ne_of_gt (by assumption) | exact Nat.succ_pos _ | omega | (dsimp only; omega)); (case k9w9 => first | assumption | exact Nat.succ_ne_zero _ | exact Nat.ne_of_gt (by assumption) | exact Nat.succ_pos _ | omega | (dsimp only; omega)); (case kaw9 => first | assumption | exact Nat.succ_ne_zero _ | exact Nat.ne_of_gt (by assumption) | exact Nat.succ_pos _ | omega | (dsimp only; omega)); (case ksw9 => exact some_of (by assumption))); intro Dw9 aw9 bw9 cw9 taw9 tbw9 tcw9 hw9 tkw9 ew9 Fw9 Nw9 l1w9 htksw9; (obtain ⟨htk1w9, htk2w9, htk3w9, htk4w9⟩ := htksw9); (obtain ⟨haw9, hbw9, hcw9⟩ := same3 ew9 (by assumption)); subst haw9; subst hbw9; subst hcw9; clear ew9; (try k_lt l1w9); (try dsimp only))
  k_with "execs cons" => (k_here; (refine gen_pos (by first | assumption | omega | (dsimp only; omega)) ?_); intro tkw9 htkw9; (with_reducible refine wpAny_execs_cons ?_); try dsimp only)
  k_with "binaryOp Div int int" => ((with_reducible show wpAny _ _ (binaryOp Operator.Div (Value.int _ _) (Value.int _ _)) _ _ _); refine div_small rfl (by omega) (by first | exact lt_dn (by assumption) (by decide) | omega) (by first | exact lt_dn (by assumption) (by decide) | omega) ?_)
  k_with "binaryOp Add float int" => (refine add_fi_small (by first | assumption | omega) ?_)
  k_with "compareOp NotEq ref ref" => (k_here; (with_reducible show wpAny _ _ (compareOp CmpOp.NotEq (Value.ref _) (Value.ref _)) _ _ _); k_dflt (refine' ne_trip ?hbw9 ?huw9 ?Nw9 ?h1w9 ?h2w9 ?htw9 ?hvw9 ?c1w9 ?c2w9 ?c3w9 ?_; (case Nw9 => k_asm); (case h1w9 => k_mem); (case h2w9 => first | exact List.Mem.tail _ (List.Mem.tail _ (by assumption)) | exact List.Mem.tail _ (List.Mem.tail _ (List.Mem.tail _ (by assumption)))); (case hbw9 => exact booked_at (by k_asm) (by k_asm) (by k_asm)); (case huw9 => ktr_units); (case htw9 => exact ⟨by assumption, by assumption, by assumption⟩); (case hvw9 => assumption); (case c1w9 => assumption); (case c2w9 => assumption); (case c3w9 => assumption)))
  dsimp only [envP]; (conv in (pieSt _) => whnf); revert X'; k_fill; intro X'
  k_steps
  all_goals exact hnext _ _ _ (by first | assumption | omega) (by k_asm) (cb_drop (by assumption) sub1) ⟨_, rfl⟩ ⟨_, rfl⟩ rfl ⟨_, rfl, by assumption⟩ ⟨_, rfl, by assumption⟩ ⟨_, rfl, by assumption⟩
set_option maxHeartbeats 1000000 in
theorem pie_D (y kind : Int) (r g b h1 h2 h3 l1 l2 l3 a1 a2 a3 b1 b2 b3 : UInt64) (t1 t2 t3 t4 t5 u1 u2 u3 v1 v2 v3 : Tok) (Td Dd : Addr) (o : Obj) (hne : ∀ q ∈ news, q.1 ≠ L + 1) (htk : 0 < tk) (hr : t3 ≠ 0) (hg : t4 ≠ 0) (hb : t5 ≠ 0) (od : o.data = .cell (some (.ref Dd)))
  (hT : (Td, tupQ (.float a1 u1) (.float a2 u2) (.float a3 u3)) ∈ news) (hD : (Dd, tupQ (.float b1 v1) (.float b2 v2) (.float b3 v3)) ∈ news) (hu : u1 ≠ 0 ∧ u2 ≠ 0 ∧ u3 ≠ 0) (hv : v1 ≠ 0 ∧ v2 ≠ 0 ∧ v3 ≠ 0)
  (kv : Known (toHsv r g b) (h1, h2, h3)) (kl : Known (toHls r g b) (l1, l2, l3))
  (c1 : (Float64.cmp h1 a1 == some Ordering.eq) = true) (c2 : (Float64.cmp h2 a2 == some Ordering.eq) = true) (c3 : (Float64.cmp h3 a3 == some Ordering.eq) = true) (c4 : (Float64.cmp l1 b1 == some Ordering.eq) = true) (c5 : (Float64.cmp l2 b2 == some Ordering.eq) = true) (c6 : (Float64.cmp l3 b3 == some Ordering.eq) = true)
  (B' : Below (ktrTop dp un gd cn cs L₀ a ccd cl outer) base (envX cn cs L₀ a ccd cl :: outer) gh) (X' : (KT w.params).In gh) (T' : Top qV looseV mean mg mb gh)
  (F' : Fr gh L h (fun z => if z = Str.ofString "told" then some (.ref Td) else if z = Str.ofString "red" then some (.float r t3) else if z = Str.ofString "green" then some (.float g t4) else if z = Str.ofString "blue" then some (.float b t5) else m z)) (N' : News gh L h ((L + 1, o) :: news)) (hdp : dp + 10 < recursionLimit) (hun : un + 100 < cLine)
  (hnext : ∀ h' tk', Fr gh L h' (fun z => if z = Str.ofString "told" then some (.ref Td) else if z = Str.ofString "red" then some (.float r t3) else if z = Str.ofString "green" then some (.float g t4) else if z = Str.ofString "blue" then some (.float b t5) else m z) → News gh L h' ((L + 1, o) :: news) → Q .next { s with heap := h', toks := tk' }) :
  wpAny (model rwT.prog w) ((ktrTop dp un gd cn cs L₀ a ccd cl outer).deeper (envP L)) (exec (pieSt 10) (envP L)) Q E { s with heap := h, toks := tk } := by
  k_with_none
  k_with "call ref" => (k_here; (with_reducible show wpAny _ _ (call (Value.ref 42) [Value.float _ _, Value.float _ _, Value.float _ _]) _ _ _); k_dflt (refine' rgb_c _ _ _ _ _ _ _ _ _ _ _ _ _ _ _ _ _ _ _ _ _ _ _ _ _ _ _ _ ?k1w9 ?k2w9 ?k3w9 ?k4w9 ?k5w9 ?k6w9 ?k7w9 ?k8w9 ?k9w9 ?kaw9 ?ksw9 ?kdw9 ?kuw9 ?_; (case k1w9 => k_asm); (case k2w9 => k_asm); (case k3w9 => k_asm); (case k4w9 => k_asm); (case k5w9 => k_asm); (case k6w9 => first | exact rfl | assumption); (case kdw9 => ktr_room); (case kuw9 => ktr_units); (case k7w9 => first | assumption | exact Nat.succ_ne_zero _ | exact Nat.ne_of_gt (by assumption) | exact Nat.succ_pos _ | omega | (dsimp only; omega)); (case k8w9 => first | assumption | exact Nat.succ_ne_zero _ | exact Nat.ne_of_gt (by assumption) | exact Nat.succ_pos _ | omega | (dsimp only; omega)); (case k9w9 => first | assumption | exact Nat.succ_ne_zero _ | exact Nat.ne_of_gt (by assumption) | exact Nat.succ_pos _ | omega | (dsimp only; omega)); (case kaw9 => first | assumption | exact Nat.succ_ne_zero _ | exact Nat.ne_of_gt (by assumption) | exact Nat.succ_pos _ | omega | (dsimp only; omega)); (case ksw9 => exact some_of (by assumption))); intro Dw9 aw9 bw9 cw9 taw9 tbw9 tcw9 hw9 tkw9 ew9 Fw9 Nw9 l1w9 htksw9; (obtain ⟨htk1w9, htk2w9, htk3w9, htk4w9⟩ := htksw9); (obtain ⟨haw9, hbw9, hcw9⟩ := same3 ew9 (by assumption)); subst haw9; subst hbw9; subst hcw9; clear ew9; (try k_lt l1w9); (try dsimp only))
  k_with "call ref" => (k_here; (with_reducible show wpAny _ _ (call (Value.ref 35) [Value.float _ _, Value.float _ _, Value.float _ _]) _ _ _); k_dflt (refine' hsv_c _ _ _ _ _ _ _ _ _ _ _ _ _ _ _ _ _ _ _ _ _ _ _ _ _ _ _ _ ?k1w9 ?k2w9 ?k3w9 ?k4w9 ?k5w9 ?k6w9 ?k7w9 ?k8w9 ?k9w9 ?kaw9 ?ksw9 ?kdw9 ?kuw9 ?_; (case k1w9 => k_asm); (case k2w9 => k_asm); (case k3w9 => k_asm); (case k4w9 => k_asm); (case k5w9 => k_asm); (case k6w9 => first | exact rfl | assumption); (case kdw9 => ktr_room); (case kuw9 => ktr_units); (case k7w9 => first | assumption | exact Nat.succ_ne_zero _ | exact Nat.ne_of_gt (by assumption) | exact Nat.succ_pos _ | omega | (dsimp only; omega)); (case k8w9 => first | assumption | exact Nat.succ_ne_zero _ | exact Nat.ne_of_gt (by assumption) | exact Nat.succ_pos _ | omega | (dsimp only; omega)); (case k9w9 => first | assumption | exact Nat.succ_ne_zero _ | exact Nat.ne_of_gt (by assumption) | exact Nat.succ_pos _ | omega | (dsimp only; omega)); (case kaw9 => first | assumption | exact Nat.succ_ne_zero _ | exact Nat.ne_of_gt (by assumption) | exact Nat.succ_pos _ | omega | (dsimp only; omega)); (case ksw9 => exact some_of (by assumption))); intro Dw9 aw9 bw9 cw9 taw9 tbw9 tcw9 hw9 tkw9 ew9 Fw9 Nw9 l1w9 htksw9; (obtain ⟨htk1w9, htk2w9, htk3w9, htk4w9⟩ := htksw9); (obtain ⟨haw9, hbw9, hcw9⟩ := same3 ew9 (by assumption)); subst haw9; subst hbw9; subst hcw9; clear ew9; (try k_lt l1w9); (try dsimp only))
  k_with "call ref" => (k_here; (with_reducible show wpAny _ _ (call (Value.ref 28) [Value.float _ _, Value.float _ _, Value.float _ _]) _ _ _); k_dflt (refine' hls_c _ _ _ _ _ _ _ _ _ _ _ _ _ _ _ _ _ _ _ _ _ _ _ _ _ _ _ _ ?k1w9 ?k2w9 ?k3w9 ?k4w9 ?k5w9 ?k6w9 ?k7w9 ?k8w9 ?k9w9 ?kaw9 ?ksw9 ?kdw9 ?kuw9 ?_; (case k1w9 => k_asm); (case k2w9 => k_asm); (case k3w9 => k_asm); (case k4w9 => k_asm); (case k5w9 => k_asm); (case k6w9 => first | exact rfl | assumption); (case kdw9 => ktr_room); (case kuw9 => ktr_units); (case k7w9 => first | assumption | exact Nat.succ_ne_zero _ | exact Nat.ne_of_gt (by assumption) | exact Nat.succ_pos _ | omega | (dsimp only; omega)); (case k8w9 => first | assumption | exact Nat.succ_ne_zero _ | exact Nat.ne_of_gt (by assumption) | exact Nat.succ_pos _ | omega | (dsimp only; omega)); (case k9w9 => first | assumption | exact Nat.succ_ne_zero _ | exact Nat.ne_of_gt (by assumption) | exact Nat.succ_pos _ | omega | (dsimp only; omega)); (case kaw9 => first | assumption | exact Nat.succ_ne_zero _ | exact Nat.ne_of_gt (by assumption) | exact Nat.succ_pos _ | omega | (dsimp only; omega)); (case ksw9 => exact some_of (by assumption))); intro Dw9 aw9 bw9 cw9 taw9 tbw9 tcw9 hw9 tkw9 ew9 Fw9 Nw9 l1w9 htksw9; (obtain ⟨htk1w9, htk2w9, htk3w9, htk4w9⟩ := htksw9); (obtain ⟨haw9, hbw9, hcw9⟩ := same3 ew9 (by assumption)); subst haw9; subst hbw9; subst hcw9; clear ew9; (try k_lt l1w9); (try dsimp only))
  k_with "execs cons" => (k_here; (refine gen_pos (by first | assumption | omega | (dsimp only; omega)) ?_); intro tkw9 htkw9; (with_reducible refine wpAny_execs_cons ?_); try dsimp only)
  k_with "binaryOp Div int int" => ((with_reducible show wpAny _ _ (binaryOp Operator.Div (Value.int _ _) (Value.int _ _)) _ _ _); refine div_small rfl (by omega) (by first | exact lt_dn (by assumption) (by decide) | omega) (by first | exact lt_dn (by assumption) (by decide) | omega) ?_)
  k_with "binaryOp Add float int" => (refine add_fi_small (by first | assumption | omega) ?_)
  k_with "compareOp NotEq ref ref" => (k_here; (with_reducible show wpAny _ _ (compareOp CmpOp.NotEq (Value.ref _) (Value.ref _)) _ _ _); k_dflt (refine' ne_trip ?hbw9 ?huw9 ?Nw9 ?h1w9 ?h2w9 ?htw9 ?hvw9 ?c1w9 ?c2w9 ?c3w9 ?_; (case Nw9 => k_asm); (case h1w9 => k_mem); (case h2w9 => first | exact List.Mem.tail _ (List.Mem.tail _ (by assumption)) | exact List.Mem.tail _ (List.Mem.tail _ (List.Mem.tail _ (by assumption)))); (case hbw9 => exact booked_at (by k_asm) (by k_asm) (by k_asm)); (case huw9 => ktr_units); (case htw9 => exact ⟨by assumption, by assumption, by assumption⟩); (case hvw9 => assumption); (case c1w9 => assumption); (case c2w9 => assumption); (case c3w9 => assumption)))
  dsimp only [envP]; (conv in (pieSt _) => whnf); revert X'; k_fill; intro X'
  k_steps
  all_goals exact hnext _ _ (by k_asm) (cb_drop (by assumption) subT2)
end
end Mine
end
section
open PySem PySem.W PyProof.Rows PySem.Spec PySem.Calls
namespace Mine
section
variable {prog : Program} {w : World} {A : Around} {E : Value → Shared → Prop} {s : Shared} {env : Env} {h₀ : Heap} {x : Str} {body : List Stmt} {Q : Flow → Shared → Prop}
/-- a loop over a list of any values that lies in the ledger -/
theorem iter_made {l : Addr} {vs : List Value} {o : Obj} {m₀ : Str → Option Value} {news : List (Addr × Obj)} (J : Nat → (Str → Option Value) → List (Addr × Obj) → Prop)
    (hh : A.handled = none) (hl : s.heap.IsList l vs.toArray) (hap : ∀ q ∈ news, q.1 ≠ l) (F : Fr h₀ env.locals s.heap m₀) (N0 : News h₀ env.locals s.heap ((l, o) :: news)) (hj : J 0 m₀ news)
    (turn : ∀ i v m₁ news₁ h tk own, vs[i]? = some v → news₁.map (·.1) = news.map (·.1) → OwnOff own (news.map (·.1)) → J i m₁ news₁ → Fr h₀ env.locals h (fun y => if y = x then some v else m₁ y) → News h₀ env.locals h (news₁ ++ own) →
      wpAny (model prog w) A (execs body env) (InvPostN h₀ env.locals (J (i + 1)) own (news.map (·.1)) { s with heap := h, toks := tk } Q) E { s with heap := h, toks := tk })
    (done : ∀ m₁ news₁ h tk, J vs.length m₁ news₁ → Fr h₀ env.locals h m₁ → News h₀ env.locals h news₁ → Q .next { s with heap := h, toks := tk }) :
    wpAny (model prog w) A (pyIter (.ref l)) (fun it s₂ => LoopAtV prog w A h₀ env x body Q E it s₂) E s := by
  have N : News h₀ env.locals s.heap news := fun p hp => N0 p (List.mem_cons_of_mem _ hp)
  have hls : s.heap.get? l = some o := (N0 _ List.mem_cons_self).1
  have hlL : l ≠ env.locals := (N0 _ List.mem_cons_self).2.1
  have hlt : l < s.heap.objs.size := Heap.lt_size hls
  have hne : l ≠ s.heap.objs.size := Nat.ne_of_lt hlt
  refine wpAny_pyIter_list hl ?_
  have W := Walks.list (prog := prog) (w := w) hh s.heap.objs.size l hne vs.toArray
  have hlen : vs.toArray.size = vs.length := by simp
  rw [hlen] at W
  refine loop_invN (news := news) (m₀ := m₀) J W ?_ ?_ ?_ ?_ ⟨⟨_, Heap.get?_push_size _ rfl, rfl, rfl⟩, hl.at fun o e => Heap.get?_push_of_some _ e⟩ (F.push _) (fun p hp => ⟨Heap.get?_push_of_some _ (N p hp).1, (N p hp).2⟩) hj ?_ ?_
  · intro hm
    rcases List.mem_cons.mp hm with e | hm
    · exact absurd F.ns.lt (e ▸ Nat.lt_irrefl _)
    · exact hlL (List.mem_singleton.mp hm).symm
  · intro b hb
    rw [List.mem_singleton.mp hb]
    exact next_is_new F
  · intro p hp hI
    exact absurd (Heap.lt_size (N p hp).1) ((List.mem_singleton.mp hI) ▸ Nat.lt_irrefl _)
  · intro p hp hI
    rcases List.mem_cons.mp hI with e | hm
    · exact absurd (Heap.lt_size (N p hp).1) (e ▸ Nat.lt_irrefl _)
    · exact hap p hp (List.mem_singleton.mp hm)
  · intro i v m₁ news₁ h tk own hi hP
    exact turn i v m₁ news₁ h tk own (by simpa using hP)
  · exact done
end
end Mine
end
section
open PySem PySem.W PyProof.Rows PySem.Spec PySem.Calls PySem.Builtin PySem.Builtin.Str
namespace Mine
noncomputable def find4 (x y : Str) (i j : Int) : Int := match occurrences x y (fromIndex x.length i) (min (fromIndex x.length j) x.length) 1 with | k :: _ => (k : Int) | [] => -1
theorem gives_find4 (x y : Str) (i j : Int) (t u v r : Tok) : Gives («str.find» ⟨[.str x t, .str y u, .int i v, .int j r], []⟩) (.int (find4 x y i j)) := by
  show Gives (match occurrences x y (fromIndex x.length i) (min (fromIndex x.length j) x.length) 1 with | k :: _ => retInt k | [] => (do rule "str.find.not-found"; retInt (-1))) _
  unfold find4
  cases occurrences x y (fromIndex x.length i) (min (fromIndex x.length j) x.length) 1 with
  | nil => exact .rule (.of_eq rfl)
  | cons k _ => exact .of_eq rfl
section
variable {prog : Program} {w : World} {A : Around} {E : Value → Shared → Prop} {s : Shared} {x y : Str} {t u v r : Tok} {i j : Int} {Q : Value → Shared → Prop}
theorem call_find4 (hq : Q (.int (find4 x y i j) s.toks) { s with toks := s.toks + 1 }) : wpAny (model prog w) A (call (.builtin "str.find") [.str x t, .str y u, .int i v, .int j r]) Q E s :=
  call_gives F.slot_str_find (typeIs_str _ _ _) F.entry_str_find (F.args_str_find_4 _ _ _ _) (gives_find4 x y i j t u v r) hq
end
end Mine
end
section
open PySem PySem.W PyProof.Rows PySem.Spec PySem.Calls
set_option maxRecDepth 100000
namespace Mine
noncomputable def ellFor : Stmt := ((fBody (stOf 2)).drop 9).headD (.Pass default)
noncomputable abbrev forBody : Stmt → List Stmt | .For _ _ b _ _ => b | _ => []
noncomputable abbrev envE (L : Addr) : Env := envOf (Str.ofString "_ellipsis_match") (fScope (stOf 2)) L 21 (Value.ref 20)
set_option maxHeartbeats 1000000 in
theorem turn_c (w : World) (mean : ExcName → Option Value) (mg mb : Str → Option Value) (news : List (Addr × Obj)) (got v : Str) (p q : Int) (tg tv tp tq : Tok)
  (dp un : Nat) (gd : Option (List Code)) (cn : Str) (cs : Scope) (a : Addr) (ccd : Value) (cl : List (Str × Addr)) (outer : List Env) (base : Heap) (gh h : Heap) (L₀ L : Addr) (m : Str → Option Value) (s : Shared) (tk : Nat) (Q : Flow → Shared → Prop) (E : Value → Shared → Prop)
  (B' : Below (ktrTop dp un gd cn cs L₀ a ccd cl outer) base (envX cn cs L₀ a ccd cl :: outer) gh) (X' : (KT w.params).In gh) (T' : Top qV looseV mean mg mb gh)
  (F' : Fr gh L h (fun y => if y = Str.ofString "w" then some (.str v tv) else if y = Str.ofString "got" then some (.str got tg) else if y = Str.ofString "startpos" then some (.int p tp) else if y = Str.ofString "endpos" then some (.int q tq) else m y))
  (N' : News gh L h news) (hvl : v.length ≤ 100) (hgl : got.length ≤ 100) (hq : 0 ≤ q)
  (hdp : dp + 2 < recursionLimit) (hun : un + 30 < cLine) 
  (hret : find4 got v p q < 0 → ∀ h' tk' m', Fr gh L h' m' → News gh L h' news → Q (.ret (.bool false)) { s with heap := h', toks := tk' })
  (hnext : ¬ find4 got v p q < 0 → ∀ h' tk' t m', Fr gh L h' m' → News gh L h' news → m' (Str.ofString "startpos") = some (.int (find4 got v p q + v.length) t) → m' (Str.ofString "got") = some (.str got tg) → m' (Str.ofString "endpos") = some (.int q tq) → Q .next { s with heap := h', toks := tk' }) :
  wpAny (model rwT.prog w) ((ktrTop dp un gd cn cs L₀ a ccd cl outer).deeper (envE L)) (execs (forBody ellFor) (envE L)) Q E { s with heap := h, toks := tk } := by
  k_with_none
  k_with "call builtin:str.find" => (refine call_find4 ?_)
  dsimp only [envE]; revert X'; k_fill; intro X'
  k_steps
  all_goals first
    | exact hret (by assumption) _ _ _ (by k_asm) (by k_asm)
    | exact hnext (by assumption) _ _ _ _ (by k_asm) (by k_asm) rfl rfl rfl
end Mine
end
section
open PySem PySem.W PyProof.Rows PySem.Spec PySem.Calls
set_option maxRecDepth 100000
namespace Mine
noncomputable def findAll (got : Str) : List Str → Int → Int → Option Int
  | [], p, _ => some p
  | v :: vs, p, q => if find4 got v p q < 0 then none else findAll got vs (find4 got v p q + v.length) q
noncomputable def Jws (got : Str) (tg : Tok) (xs : List Str) (p q : Int) (tq : Tok) (news : List (Addr × Obj)) (i : Nat) (m₁ : Str → Option Value) (news₁ : List (Addr × Obj)) : Prop :=
  news₁ = news ∧ m₁ (Str.ofString "got") = some (.str got tg) ∧ m₁ (Str.ofString "endpos") = some (.int q tq) ∧ ∃ p' t, m₁ (Str.ofString "startpos") = some (.int p' t) ∧ findAll got xs p q = findAll got (xs.drop i) p' q
theorem for_ws (w : World) (mean : ExcName → Option Value) (mg mb : Str → Option Value) (news : List (Addr × Obj)) (got : Str) (p q : Int) (tg tp tq : Tok) (l : Addr) (o : Obj) (vs : List Value) (xs : List Str)
  (dp un : Nat) (gd : Option (List Code)) (cn : Str) (cs : Scope) (a : Addr) (ccd : Value) (cl : List (Str × Addr)) (outer : List Env) (base : Heap) (gh : Heap) (L₀ L : Addr) (m : Str → Option Value) (s : Shared) (Q : Flow → Shared → Prop) (E : Value → Shared → Prop)
  (B' : Below (ktrTop dp un gd cn cs L₀ a ccd cl outer) base (envX cn cs L₀ a ccd cl :: outer) gh) (X' : (KT w.params).In gh) (T' : Top qV looseV mean mg mb gh)
  (F' : Fr gh L s.heap m) (N' : News gh L s.heap ((l, o) :: news)) (hap : ∀ x ∈ news, x.1 ≠ l) (hl : s.heap.IsList l vs.toArray) (hlen : vs.length = xs.length)
  (hi : ∀ (i : Nat) (v : Value), vs[i]? = some v → ∃ x t, xs[i]? = some x ∧ v = Value.str x t ∧ x.length ≤ 100) (hgl : got.length ≤ 100)
  (h1 : m (Str.ofString "got") = some (.str got tg)) (h2 : m (Str.ofString "endpos") = some (.int q tq)) (h3 : m (Str.ofString "startpos") = some (.int p tp))
  (hdp : dp + 2 < recursionLimit) (hun : un + 30 < cLine) (hp : 0 ≤ p) (hq : 0 ≤ q)
  (hret : findAll got xs p q = none → ∀ h' tk' m', Fr gh L h' m' → News gh L h' news → Q (.ret (.bool false)) { s with heap := h', toks := tk' })
  (hnext : (findAll got xs p q).isSome = true → ∀ h' tk' m', Fr gh L h' m' → News gh L h' news → Q .next { s with heap := h', toks := tk' }) :
  wpAny (model rwT.prog w) ((ktrTop dp un gd cn cs L₀ a ccd cl outer).deeper (envE L)) (pyIter (.ref l)) (fun it s₂ => LoopAtV rwT.prog w ((ktrTop dp un gd cn cs L₀ a ccd cl outer).deeper (envE L)) gh (envE L) (Str.ofString "w") (forBody ellFor) Q E it s₂) E s := by
  refine iter_made (env := envE L) (Jws got tg xs p q tq news) rfl hl hap F' N' ⟨rfl, h1, h2, p, tp, h3, rfl⟩ ?_ ?_
  · rintro i v m₁ news₁ h tk own hv _ _ ⟨rfl, g1, g2, p', t, g3, g4⟩ F₁ N₁
    obtain ⟨x, tx, hx, rfl, hx100⟩ := hi i v hv
    have hd : xs.drop i = x :: xs.drop (i + 1) := by
      obtain ⟨hlt, e⟩ := List.getElem?_eq_some_iff.mp hx
      rw [List.drop_eq_getElem_cons hlt, e]
    rw [hd] at g4
    have F₂ := Fr.known (Fr.known (Fr.known F₁ g2) (n := Str.ofString "startpos") (w := .int p' t) (by rw [if_neg (by decide)]; exact g3)) (n := Str.ofString "got") (w := .str got tg) (by rw [if_neg (by decide), if_neg (by decide)]; exact g1)
    refine turn_c w mean mg mb (news₁ ++ own) got x p' q tg tx t tq dp un gd cn cs a ccd cl outer base gh h L₀ L m₁ s tk _ E B' X' T' F₂ N₁ hx100 hgl hq hdp hun ?_ ?_
    · intro hf h' tk' m' F3 N3
      refine hret ?_ h' tk' m' F3 (News.perm N3 fun _ hx => List.mem_append_left _ hx)
      rw [g4]; unfold findAll; rw [if_pos hf]
    · intro hf h' tk' t' m' F3 N3 e1 e2 e3
      refine ⟨h', tk', m', news₁ ++ own, news₁, rfl, F3, N3, fun _ hx => List.mem_append_left _ hx, fun _ hx => List.mem_append_right _ hx, rfl, rfl, e2, e3, _, _, e1, ?_⟩
      rw [g4]; conv => lhs; unfold findAll
      rw [if_neg hf]
  · rintro m₁ news₁ h tk ⟨rfl, g1, g2, p', t, g3, g4⟩ F₁ N₁
    refine hnext ?_ _ _ _ F₁ N₁
    rw [g4, hlen, List.drop_length]; rfl
end Mine
end
section
open PySem PySem.W PyProof.Rows PySem.Spec PySem.Calls
set_option maxRecDepth 100000
namespace Mine
/-! rules for a list of texts whose middle is not written -/
section
variable {prog : Program} {w : World} {A : Around} {E : Value → Shared → Prop} {s : Shared} {h₀ : Heap} {L : Addr} {m : Str → Option Value} {news news' : List (Addr × Obj)} {D : Addr} {n : Nat} {a b v : Value} {vs : List Value} {u : Tok}
theorem item_first {value slice : PySem.Expr} {Q : Value → Shared → Prop} (N : News h₀ L s.heap news) (hm : (D, listOf (a :: vs).toArray n) ∈ news) (h : Q a s)
    (hs : subscripted slice false (.ref D) (.int 0 u) = operate [.ref D, .int 0 u] (getItem (.ref D) (.int 0 u)) := by with_unfolding_all rfl) :
    wpAny (model prog w) A (subscriptTail value slice (.ref D) (.int 0 u)) Q E s := by
  have hl : s.heap.IsList D (a :: vs).toArray := ⟨_, (N _ hm).1, rfl, n, rfl⟩
  exact tail_any hl.typeIs slot_list_getitem.lookup (wpAny_getItem_list hl (by decide) (by decide) (by simp) h) hs
theorem item_end {value slice : PySem.Expr} {Q : Value → Shared → Prop} (N : News h₀ L s.heap news) (hm : (D, listOf (vs ++ [b]).toArray n) ∈ news) (h : Q b s)
    (hs : subscripted slice false (.ref D) (.int (-1) u) = operate [.ref D, .int (-1) u] (getItem (.ref D) (.int (-1) u)) := by with_unfolding_all rfl) :
    wpAny (model prog w) A (subscriptTail value slice (.ref D) (.int (-1) u)) Q E s := by
  have hl : s.heap.IsList D (vs ++ [b]).toArray := ⟨_, (N _ hm).1, rfl, n, rfl⟩
  have e : ((-1 : Int) + ((vs ++ [b]).toArray.size : Nat)).toNat = vs.length := by simp; omega
  exact tail_any hl.typeIs slot_list_getitem.lookup (wpAny_getItem_list_neg hl (by decide) (by simp; omega) (by decide) (by rw [e]; simp) h) hs
theorem del_first {Q : Unit → Shared → Prop} (F : Fr h₀ L s.heap m) (N : News h₀ L s.heap news) (U : Upd D (listOf (a :: vs).toArray n) (listOf vs.toArray (n + 1)) news news') (hz : vs.length ≤ 1000)
    (h : ∀ h', Fr h₀ L h' m → News h₀ L h' news' → Q () { s with heap := h' }) : wpAny (model prog w) A (delItem (.ref D) (.int 0 u)) Q E s := by
  obtain ⟨pre, post, rfl, rfl, a', b'⟩ := U.split
  have z := N (D, listOf (a :: vs).toArray n) (List.mem_append.mpr (.inr (.head _)))
  refine P.delItem_list (n := n) (k := 0) z.1 rfl (by simp [seqIndex?]) (h _ (F.change (Heap.SameBut.update ..) z.2.1 z.2.2) (ki_turn _ N a' b' ?_ ?_)) (by rw [sizeLine_eq]; simp; omega)
  · apply Array.toList_inj.mp
    simp
  · rw [if_neg (by simp)]
theorem del_end {Q : Unit → Shared → Prop} (F : Fr h₀ L s.heap m) (N : News h₀ L s.heap news) (U : Upd D (listOf (vs ++ [b]).toArray n) (listOf vs.toArray (n + 1)) news news') (hz : vs.length ≤ 1000)
    (h : ∀ h', Fr h₀ L h' m → News h₀ L h' news' → Q () { s with heap := h' }) : wpAny (model prog w) A (delItem (.ref D) (.int (-1) u)) Q E s := by
  obtain ⟨pre, post, rfl, rfl, a', b'⟩ := U.split
  have z := N (D, listOf (vs ++ [b]).toArray n) (List.mem_append.mpr (.inr (.head _)))
  refine P.delItem_list (n := n) (k := vs.length) z.1 rfl (by simp [seqIndex?]; omega) (h _ (F.change (Heap.SameBut.update ..) z.2.1 z.2.2) (ki_turn _ N a' b' ?_ ?_)) (by rw [sizeLine_eq]; simp; omega)
  · apply Array.toList_inj.mp
    simp only [List.eraseIdxIfInBounds_toArray]
    rw [List.eraseIdx_append_of_length_le (Nat.le_refl _)]; simp
  · rw [if_neg (by simp)]
theorem len_abm {Q : Value → Shared → Prop} {lm : List (Str × Tok)} (N : News h₀ L s.heap news) (hm : (D, listOf (a :: (strValues lm ++ [b])).toArray n) ∈ news) (hz : lm.length ≤ 100) (h : ∀ t tk, Q (.int ((lm.length : Int) + 2) t) { s with toks := tk }) :
    wpAny (model prog w) A (call (.builtin "len") [.ref D]) Q E s := by
  have hl : s.heap.IsList D (a :: (strValues lm ++ [b])).toArray := ⟨_, (N _ hm).1, rfl, n, rfl⟩
  have e : (((a :: (strValues lm ++ [b])).toArray.size : Nat) : Int) = (lm.length : Int) + 2 := by simp [strValues]; omega
  refine len_list hl (by rw [e]; omega) ?_
  rw [e]
  exact h _ _
theorem truthy_nz {Q : Bool → Shared → Prop} {x : Str} {t : Tok} (h1 : 1 ≤ x.length) (h2 : x.length ≤ 100) (h : ∀ k, Q true { s with toks := k }) : wpAny (model prog w) A (truthy (.str x t)) Q E s := by
  refine PySem.P.truthy_str (by omega) ?_
  have e : ((x.length : Int) != 0) = true := by simp; omega
  rw [e]; exact h _
theorem truthy_nil {Q : Bool → Shared → Prop} {t : Tok} (h : ∀ k, Q false { s with toks := k }) : wpAny (model prog w) A (truthy (.str (Str.ofString "") t)) Q E s := by
  refine PySem.P.truthy_str (by decide) ?_
  exact h _
theorem split_abm {Q : Value → Shared → Prop} {x y : Str} {t u : Tok} {p q : Str} {mid : List Str} (hs : Txt.split x y = p :: (mid ++ [q])) (hF : Fr h₀ L s.heap m) (hN : News h₀ L s.heap news) (hy : (y.length == 0) = false) (hx : x.length ≤ 1000) (hmid : mid.length ≤ 100)
    (h : ∀ (D : Addr) (lm : List (Str × Tok)) (h' : Heap) (k : Nat) (tp tq : Tok), lm.map (·.1) = mid → lm.length ≤ 100 → Fr h₀ L h' m → News h₀ L h' ((D, listOf (Value.str p tp :: (strValues lm ++ [Value.str q tq])).toArray 0) :: news) → (∀ p ∈ news, p.1 < D) → Q (.ref D) { s with heap := h', toks := k }) :
    wpAny (model prog w) A (call (.builtin "str.split") [.str x t, .str y u]) Q E s := by
  refine KSpl.split1 hF hN hy (fun D l h' k e _ F N hl => ?_) (by rw [sizeLine_eq]; omega)
  rw [hs] at e
  obtain ⟨tp, l', rfl, e'⟩ := KSpl.cons_of e
  obtain ⟨lm, lq, rfl, e1, e2⟩ := List.map_eq_append_iff.mp e'
  obtain ⟨tq, l9, rfl, e3⟩ := KSpl.cons_of e2
  have := KSpl.nil_of e3
  subst this
  refine h D lm h' k tp tq e1 (by rw [← e1] at hmid; simpa using hmid) F ?_ hl
  have e9 : strValues ((p, tp) :: (lm ++ [(q, tq)])) = Value.str p tp :: (strValues lm ++ [Value.str q tq]) := by simp [strValues]
  rw [e9] at N
  exact N
end
end Mine
end
section
open PySem PySem.W PyProof.Rows PySem.Spec PySem.Calls
set_option maxRecDepth 100000
namespace Mine
noncomputable abbrev dots : Str := Str.ofString "..."
/-- a def of texts, more room than CbClaim asks -/
noncomputable abbrev SClaim (w : World) (mean : ExcName → Option Value) (mg mb : Str → Option Value) (f : Addr) (news : List (Addr × Obj)) (vs : List Value) (R : Tok → Value) : Prop :=
  ∀ (dp un : Nat) (gd : Option (List Code)) (cn : Str) (cs : Scope) (a : Addr) (ccd : Value) (cl : List (Str × Addr)) (outer : List Env) (A₀ : Around) (base h₀ : Heap) (L : Addr) (m : Str → Option Value) (s : Shared) (Q E : Value → Shared → Prop),
    Below A₀ base outer h₀ → Fr h₀ L s.heap m → (KT w.params).In h₀ → News h₀ L s.heap news → Top qV looseV mean mg mb h₀ → cs.kind = .function →
    dp + 3 < recursionLimit → un + 50 < cLine → CbRet h₀ L m news s Q R →
      wpAny (model rwT.prog w) (ktrTop dp un gd cn cs L a ccd cl outer) (call (.ref f) vs) Q E s
section
variable {prog : Program} {w : World} {A : Around} {E : Value → Shared → Prop} {s : Shared} {x y : Str} {t u : Tok} {Q : Value → Shared → Prop}
theorem notin_no (hc : Txt.contains x y = true) (h : Q (.bool false) s) : wpAny (model prog w) A (compareOp .NotIn (.str y u) (.str x t)) Q E s := by
  refine notIn_str ?_
  unfold Txt.contains at hc
  rw [hc]
  exact h
end
theorem sub2 {a b : Addr × Obj} {l : List (Addr × Obj)} : ∀ x ∈ l, x ∈ a :: b :: l := fun _ hx => List.Mem.tail _ (List.Mem.tail _ hx)
/-- `for_ws` for a list in a ledger -/
theorem for_led (w : World) (mean : ExcName → Option Value) (mg mb : Str → Option Value) (news news' : List (Addr × Obj)) (got : Str) (p q : Int) (tg tp tq : Tok) (l : Addr) (n : Nat) (lm : List (Str × Tok))
  (dp un : Nat) (gd : Option (List Code)) (cn : Str) (cs : Scope) (a : Addr) (ccd : Value) (cl : List (Str × Addr)) (outer : List Env) (base : Heap) (gh : Heap) (L₀ L : Addr) (m : Str → Option Value) (s : Shared) (Q : Flow → Shared → Prop) (E : Value → Shared → Prop)
  (B' : Below (ktrTop dp un gd cn cs L₀ a ccd cl outer) base (envX cn cs L₀ a ccd cl :: outer) gh) (X' : (KT w.params).In gh) (T' : Top qV looseV mean mg mb gh)
  (F' : Fr gh L s.heap m) (N' : News gh L s.heap news') (hm : (l, listOf (strValues lm).toArray n) ∈ news') (hsub : ∀ x ∈ news, x ∈ news') (hap : ∀ x ∈ news, x.1 ≠ l)
  (hb : ∀ x ∈ lm.map (·.1), x.length ≤ 100) (hgl : got.length ≤ 100)
  (h1 : m (Str.ofString "got") = some (.str got tg)) (h2 : m (Str.ofString "endpos") = some (.int q tq)) (h3 : m (Str.ofString "startpos") = some (.int p tp))
  (hdp : dp + 2 < recursionLimit) (hun : un + 30 < cLine) (hp : 0 ≤ p) (hq : 0 ≤ q)
  (hret : findAll got (lm.map (·.1)) p q = none → ∀ h' tk' m', Fr gh L h' m' → News gh L h' news → Q (.ret (.bool false)) { s with heap := h', toks := tk' })
  (hnext : (findAll got (lm.map (·.1)) p q).isSome = true → ∀ h' tk' m', Fr gh L h' m' → News gh L h' news → Q .next { s with heap := h', toks := tk' }) :
  wpAny (model rwT.prog w) ((ktrTop dp un gd cn cs L₀ a ccd cl outer).deeper (envE L)) (pyIter (.ref l)) (fun it s₂ => LoopAtV rwT.prog w ((ktrTop dp un gd cn cs L₀ a ccd cl outer).deeper (envE L)) gh (envE L) (Str.ofString "w") (forBody ellFor) Q E it s₂) E s := by
  have hi : ∀ (i : Nat) (v : Value), (strValues lm)[i]? = some v → ∃ x t, (lm.map (·.1))[i]? = some x ∧ v = Value.str x t ∧ x.length ≤ 100 := by
    intro i v h
    unfold strValues at h
    rw [List.getElem?_map] at h
    obtain ⟨⟨x, t⟩, e1, rfl⟩ := Option.map_eq_some_iff.mp h
    refine ⟨x, t, ?_, rfl, hb x (List.mem_map.mpr ⟨(x, t), List.mem_of_getElem? e1, rfl⟩)⟩
    rw [List.getElem?_map, e1]; rfl
  refine for_ws w mean mg mb news got p q tg tp tq l (listOf (strValues lm).toArray n) (strValues lm) (lm.map (·.1)) dp un gd cn cs a ccd cl outer base gh L₀ L m s Q E B' X' T' F' ?_ hap ⟨_, (N' _ hm).1, rfl, n, rfl⟩ (by simp [strValues]) hi hgl h1 h2 h3 hdp hun hp hq hret hnext
  intro x hx
  rcases List.mem_cons.mp hx with rfl | hx
  · exact N' _ hm
  · exact N' x (hsub x hx)
noncomputable def ellA (p : Str) (mid : List Str) (q got : Str) : Bool :=
  Txt.startswith got p && Txt.endswith got q && !decide ((p.length : Int) > (got.length : Int) - q.length) && (findAll got mid p.length ((got.length : Int) - q.length)).isSome
section
variable {p q got : Str} {mid : List Str}
theorem ellA_1 (h : Txt.startswith got p = false) : false = ellA p mid q got := by unfold ellA; rw [h]; rfl
theorem ellA_2 (h : Txt.startswith got p = true) (h2 : Txt.endswith got q = false) : false = ellA p mid q got := by unfold ellA; rw [h, h2]; rfl
theorem ellA_3 (h : Txt.startswith got p = true) (h2 : Txt.endswith got q = true) (h3 : (p.length : Int) > (got.length : Int) - q.length) : false = ellA p mid q got := by unfold ellA; rw [h, h2, decide_eq_true h3]; rfl
theorem ellA_4 (h : Txt.startswith got p = true) (h2 : Txt.endswith got q = true) (h3 : ¬ (p.length : Int) > (got.length : Int) - q.length) (h4 : findAll got mid p.length ((got.length : Int) - q.length) = none) : false = ellA p mid q got := by
  unfold ellA; rw [h, h2, decide_eq_false h3, h4]; rfl
theorem ellA_5 (h : Txt.startswith got p = true) (h2 : Txt.endswith got q = true) (h3 : ¬ (p.length : Int) > (got.length : Int) - q.length) (h4 : (findAll got mid p.length ((got.length : Int) - q.length)).isSome = true) : true = ellA p mid q got := by
  unfold ellA; rw [h, h2, decide_eq_false h3, h4]; rfl
end
set_option maxHeartbeats 1000000 in
theorem ell_a (w : World) (mean : ExcName → Option Value) (mg mb : Str → Option Value) (want got : Str) (tw tg : Tok) (news : List (Addr × Obj)) (p q : Str) (mid : List Str)
   (hc : Txt.contains want dots = true) (hs : Txt.split want dots = p :: (mid ++ [q])) (hp1 : 1 ≤ p.length) (hp2 : p.length ≤ 100) (hq1 : 1 ≤ q.length) (hq2 : q.length ≤ 100) (hg : got.length ≤ 100) (hw : want.length ≤ 500) (hm : mid.length ≤ 100) (hb : ∀ x ∈ mid, x.length ≤ 100) :
   SClaim w mean mg mb 21 news [.str want tw, .str got tg] (fun _ => .bool (ellA p mid q got)) := by
  k_with_none
  k_with "compareOp NotIn str str" => (refine notin_no (by assumption) ?_)
  k_with "call builtin:str.split" => (k_here; (refine split_abm (by assumption) (by k_asm) (by k_asm) rfl (by first | exact lt_dn (by assumption) (by decide) | omega) (by first | exact lt_dn (by assumption) (by decide) | omega) ?_); intro Dw9 lmw9 hw9 kw9 tpw9 tqw9 e1w9 e2w9 Fw9 Nw9 l1w9; (try k_lt l1w9); subst e1w9)
  k_with "call builtin:len" => (k_here; (refine len_abm (by assumption) (by k_mem) (by assumption) ?_); intro _ _)
  k_with "subscriptTail" => (k_here; first
      | ((with_reducible show wpAny _ _ (subscriptTail _ _ (Value.ref _) (Value.int 0 _)) _ _ _); k_dflt (refine' item_first ?k1w9 ?k2w9 ?_ ?k4w9; (case k1w9 => k_asm); (case k2w9 => k_mem); (case k4w9 => with_unfolding_all rfl)))
      | ((with_reducible show wpAny _ _ (subscriptTail _ _ (Value.ref _) (Value.int (-1) _)) _ _ _); k_dflt (refine' item_end ?k1w9 ?k2w9 ?_ ?k4w9; (case k1w9 => k_asm); (case k2w9 => k_mem); (case k4w9 => with_unfolding_all rfl))))
  k_with "truthy str" => (k_here; (refine truthy_nz (by assumption) (by assumption) ?_); intro _)
  k_with "delItem ref int" => (k_here; first
      | (refine' del_first ?Fw9 ?Nw9 ?Uw9 ?zw9 ?_; (case Fw9 => k_asm); (case Nw9 => k_asm); (case Uw9 => k_upd); (case zw9 => simp [strValues]; omega); intro hw9 Fw9 Nw9)
      | (refine' del_end ?Fw9 ?Nw9 ?Uw9 ?zw9 ?_; (case Fw9 => k_asm); (case Nw9 => k_asm); (case Uw9 => k_upd); (case zw9 => simp [strValues]; omega); intro hw9 Fw9 Nw9))
  k_with "exec For" => (k_here; (refine' For_invVF ?Fw9 rfl rfl ?_; (case Fw9 => k_asm)))
  k_with "pyIter ref" => (k_here; k_dflt (refine' for_led _ _ _ _ _ _ _ _ _ _ _ _ _ _ _ _ _ _ _ _ _ _ _ _ _ _ _ _ _ _ _ _ ?k1w9 ?k2w9 ?k3w9 ?k4w9 ?k5w9 ?k6w9 ?k7w9 ?k8w9 ?k9w9 ?kaw9 ?h1w9 ?h2w9 ?h3w9 ?kdw9 ?kuw9 ?kpw9 ?kqw9 ?_ ?_; (case k1w9 => k_asm); (case k2w9 => k_asm); (case k3w9 => k_asm); (case k4w9 => k_asm); (case k5w9 => k_asm); (case k6w9 => k_mem); (case k7w9 => exact sub2); (case k8w9 => k_all); (case h1w9 => exact rfl); (case h2w9 => exact rfl); (case h3w9 => exact rfl); (case k9w9 => assumption); (case kaw9 => assumption); (case kdw9 => ktr_room); (case kuw9 => ktr_units); (case kpw9 => omega); (case kqw9 => omega); all_goals intros))
  dsimp only [SClaim, CbRet]; k_fill; intros; rename_i hret
  refine wpAny_call ?_
  k_dflt cell_enter
  k_steps
  all_goals (refine' cb_retB hret ?e ?f ?n; (case f => k_asm); (case n => first | k_asm | (refine' cb_drop ?cbN ?cbS; (case cbN => assumption); (case cbS => exact sub2))); (case e => first | exact ellA_1 (by assumption) | exact ellA_2 (by assumption) (by assumption) | exact ellA_3 (by assumption) (by assumption) (by assumption) | exact ellA_4 (by assumption) (by assumption) (by assumption) (by assumption) | exact ellA_5 (by assumption) (by assumption) (by assumption) (by assumption)))
end Mine
end
section
open PySem PySem.W PyProof.Rows PySem.Spec PySem.Calls
set_option maxRecDepth 100000
namespace Mine
section
variable {prog : Program} {w : World} {A : Around} {E : Value → Shared → Prop} {s : Shared} {h₀ : Heap} {L : Addr} {m : Str → Option Value} {news : List (Addr × Obj)} {D : Addr} {n : Nat} {u : Tok} {lm : List (Str × Tok)}
theorem split_lm {Q : Value → Shared → Prop} {x y : Str} {t u : Tok} {ws : List Str} (hs : Txt.split x y = ws) (hF : Fr h₀ L s.heap m) (hN : News h₀ L s.heap news) (hy : (y.length == 0) = false) (hx : x.length ≤ 1000)
    (h : ∀ (D : Addr) (lm : List (Str × Tok)) (h' : Heap) (k : Nat), lm.map (·.1) = ws → Fr h₀ L h' m → News h₀ L h' ((D, listOf (strValues lm).toArray 0) :: news) → (∀ p ∈ news, p.1 < D) → Q (.ref D) { s with heap := h', toks := k }) :
    wpAny (model prog w) A (call (.builtin "str.split") [.str x t, .str y u]) Q E s := by
  refine KSpl.split1 hF hN hy (fun D l h' k e _ F N hl => ?_) (by rw [sizeLine_eq]; omega)
  exact h D l h' k (by rw [← hs]; exact e) F N hl
theorem item_lm0 {value slice : PySem.Expr} {Q : Value → Shared → Prop} {p : Str} {r : List Str} (e : lm.map (·.1) = p :: r) (N : News h₀ L s.heap news) (hm : (D, listOf (strValues lm).toArray n) ∈ news) (h : ∀ t, Q (.str p t) s)
    (hs : subscripted slice false (.ref D) (.int 0 u) = operate [.ref D, .int 0 u] (getItem (.ref D) (.int 0 u)) := by with_unfolding_all rfl) :
    wpAny (model prog w) A (subscriptTail value slice (.ref D) (.int 0 u)) Q E s := by
  obtain ⟨⟨x, t⟩, l', rfl, e1, e2⟩ := List.map_eq_cons_iff.mp e
  subst e1
  exact item_first (a := Value.str x t) (vs := strValues l') N (by simpa [strValues] using hm) (h t) hs
theorem item_lmE {value slice : PySem.Expr} {Q : Value → Shared → Prop} {p q : Str} {r : List Str} (e : lm.map (·.1) = p :: (r ++ [q])) (N : News h₀ L s.heap news) (hm : (D, listOf (strValues lm).toArray n) ∈ news) (h : ∀ t, Q (.str q t) s)
    (hs : subscripted slice false (.ref D) (.int (-1) u) = operate [.ref D, .int (-1) u] (getItem (.ref D) (.int (-1) u)) := by with_unfolding_all rfl) :
    wpAny (model prog w) A (subscriptTail value slice (.ref D) (.int (-1) u)) Q E s := by
  have e9 : lm.map (·.1) = (p :: r) ++ [q] := e
  obtain ⟨l1, l2, rfl, e1, e2⟩ := List.map_eq_append_iff.mp e9
  obtain ⟨⟨x, t⟩, l', rfl, e3, e4⟩ := List.map_eq_cons_iff.mp e2
  have : l' = [] := List.map_eq_nil_iff.mp e4
  subst this; subst e3
  exact item_end (b := Value.str x t) (vs := strValues l1) N (by simpa [strValues] using hm) (h t) hs
theorem len_lm {Q : Value → Shared → Prop} {ws : List Str} (e : lm.map (·.1) = ws) (h2 : 2 ≤ ws.length) (h3 : ws.length ≤ 100) (N : News h₀ L s.heap news) (hm : (D, listOf (strValues lm).toArray n) ∈ news) (h : ∀ k t tk, 2 ≤ k → Q (.int k t) { s with toks := tk }) :
    wpAny (model prog w) A (call (.builtin "len") [.ref D]) Q E s := by
  have hl : s.heap.IsList D (strValues lm).toArray := ⟨_, (N _ hm).1, rfl, n, rfl⟩
  have hz : lm.length = ws.length := by rw [← e]; simp
  have e' : (((strValues lm).toArray.size : Nat) : Int) = (lm.length : Int) := by simp [strValues]
  refine len_list hl (by rw [e']; omega) ?_
  rw [e']
  exact h _ _ _ (by omega)
end
noncomputable def ellB (ws : List Str) (got : Str) : Bool := (findAll got ws 0 got.length).isSome
section
variable {got : Str} {ws : List Str}
theorem ellB_1 {lm : List (Str × Tok)} (e : lm.map (·.1) = ws) (h4 : findAll got (lm.map (·.1)) 0 got.length = none) : false = ellB ws got := by unfold ellB; rw [← e, h4]; rfl
theorem ellB_2 {lm : List (Str × Tok)} (e : lm.map (·.1) = ws) (h4 : (findAll got (lm.map (·.1)) 0 got.length).isSome = true) : true = ellB ws got := by unfold ellB; rw [← e, h4]
end
set_option maxHeartbeats 1000000 in
theorem ell_b (w : World) (mean : ExcName → Option Value) (mg mb : Str → Option Value) (want got : Str) (tw tg : Tok) (news : List (Addr × Obj)) (mid : List Str)
   (hc : Txt.contains want dots = true) (hs : Txt.split want dots = Str.ofString "" :: (mid ++ [Str.ofString ""])) (hg : got.length ≤ 100) (hw : want.length ≤ 500) (h2 : 2 ≤ (Str.ofString "" :: (mid ++ [Str.ofString ""])).length) (h3 : (Str.ofString "" :: (mid ++ [Str.ofString ""])).length ≤ 100) (hb : ∀ x ∈ Str.ofString "" :: (mid ++ [Str.ofString ""]), x.length ≤ 100) :
   SClaim w mean mg mb 21 news [.str want tw, .str got tg] (fun _ => .bool (ellB (Str.ofString "" :: (mid ++ [Str.ofString ""])) got)) := by
  k_with_none
  k_with "compareOp NotIn str str" => (refine notin_no (by assumption) ?_)
  k_with "call builtin:str.split" => (k_here; (refine split_lm (by assumption) (by k_asm) (by k_asm) rfl (by omega) ?_); intro Dw9 lmw9 hw9 kw9 e1w9 Fw9 Nw9 l1w9; (try k_lt l1w9))
  k_with "call builtin:len" => (k_here; (with_reducible show wpAny _ _ (call _ [Value.ref _]) _ _ _); (refine len_lm (by assumption) (by assumption) (by assumption) (by assumption) (by k_mem) ?_); intro _ _ _ _)
  k_with "subscriptTail" => (k_here; first
      | ((with_reducible show wpAny _ _ (subscriptTail _ _ (Value.ref _) (Value.int 0 _)) _ _ _); k_dflt (refine' item_lm0 ?k0w9 ?k1w9 ?k2w9 ?_ ?k4w9; (case k1w9 => k_asm); (case k2w9 => k_mem); (case k0w9 => assumption); (case k4w9 => with_unfolding_all rfl)); intro _)
      | ((with_reducible show wpAny _ _ (subscriptTail _ _ (Value.ref _) (Value.int (-1) _)) _ _ _); k_dflt (refine' item_lmE ?k0w9 ?k1w9 ?k2w9 ?_ ?k4w9; (case k1w9 => k_asm); (case k2w9 => k_mem); (case k0w9 => assumption); (case k4w9 => with_unfolding_all rfl)); intro _))
  k_with "truthy str" => (k_here; (refine truthy_nil ?_); intro _)
  k_with "exec For" => (k_here; (refine' For_invVF ?Fw9 rfl rfl ?_; (case Fw9 => k_asm)))
  k_with "pyIter ref" => (k_here; k_dflt (refine' for_led _ _ _ _ _ _ _ _ _ _ _ _ _ _ _ _ _ _ _ _ _ _ _ _ _ _ _ _ _ _ _ _ ?k1w9 ?k2w9 ?k3w9 ?k4w9 ?k5w9 ?k6w9 ?k7w9 ?k8w9 ?k9w9 ?kaw9 ?h1w9 ?h2w9 ?h3w9 ?kdw9 ?kuw9 ?kpw9 ?kqw9 ?_ ?_; (case k1w9 => k_asm); (case k2w9 => k_asm); (case k3w9 => k_asm); (case k4w9 => k_asm); (case k5w9 => k_asm); (case k6w9 => k_mem); (case k7w9 => exact sub2); (case k8w9 => k_all); (case h1w9 => exact rfl); (case h2w9 => exact rfl); (case h3w9 => exact rfl); (case k9w9 => (rw [‹List.map _ _ = _›]; assumption)); (case kaw9 => assumption); (case kdw9 => ktr_room); (case kuw9 => ktr_units); (case kpw9 => omega); (case kqw9 => omega); all_goals intros))
  dsimp only [SClaim, CbRet]; k_fill; intros; rename_i hret
  refine wpAny_call ?_
  k_dflt cell_enter
  k_steps
  all_goals (refine' cb_retB hret ?e ?f ?n; (case f => k_asm); (case n => first | k_asm | (refine' cb_drop ?cbN ?cbS; (case cbN => assumption); (case cbS => exact sub2))); (case e => first | exact ellB_1 (by assumption) (by assumption) | exact ellB_2 (by assumption) (by assumption)))
theorem notin_yes {prog : Program} {w : World} {A : Around} {E : Value → Shared → Prop} {s : Shared} {x y : Str} {t u : Tok} {Q : Value → Shared → Prop} (hc : Txt.contains x y = false) (h : Q (.bool true) s) : wpAny (model prog w) A (compareOp .NotIn (.str y u) (.str x t)) Q E s := by
  refine notIn_str ?_
  unfold Txt.contains at hc
  rw [hc]
  exact h
set_option maxHeartbeats 1000000 in
theorem ell_c (w : World) (mean : ExcName → Option Value) (mg mb : Str → Option Value) (want got : Str) (tw tg : Tok) (news : List (Addr × Obj)) 
   (hc : Txt.contains want dots = false) (hg : got.length ≤ 100) (hw : want.length ≤ 500) :
   SClaim w mean mg mb 21 news [.str want tw, .str got tg] (fun _ => .bool (want == got)) := by
  k_with_none
  k_with "compareOp NotIn str str" => (refine notin_no (by assumption) ?_)
  k_with "call builtin:str.split" => (k_here; (refine split_lm (by assumption) (by k_asm) (by k_asm) rfl (by omega) ?_); intro Dw9 lmw9 hw9 kw9 e1w9 Fw9 Nw9 l1w9; (try k_lt l1w9))
  k_with "call builtin:len" => (k_here; (with_reducible show wpAny _ _ (call _ [Value.ref _]) _ _ _); (refine len_lm (by assumption) (by assumption) (by assumption) (by assumption) (by k_mem) ?_); intro _ _ _ _)
  k_with "subscriptTail" => (k_here; first
      | ((with_reducible show wpAny _ _ (subscriptTail _ _ (Value.ref _) (Value.int 0 _)) _ _ _); k_dflt (refine' item_lm0 ?k0w9 ?k1w9 ?k2w9 ?_ ?k4w9; (case k1w9 => k_asm); (case k2w9 => k_mem); (case k0w9 => assumption); (case k4w9 => with_unfolding_all rfl)); intro _)
      | ((with_reducible show wpAny _ _ (subscriptTail _ _ (Value.ref _) (Value.int (-1) _)) _ _ _); k_dflt (refine' item_lmE ?k0w9 ?k1w9 ?k2w9 ?_ ?k4w9; (case k1w9 => k_asm); (case k2w9 => k_mem); (case k0w9 => assumption); (case k4w9 => with_unfolding_all rfl)); intro _))
  k_with "truthy str" => (k_here; (refine truthy_nil ?_); intro _)
  k_with "exec For" => (k_here; (refine' For_invVF ?Fw9 rfl rfl ?_; (case Fw9 => k_asm)))
  k_with "pyIter ref" => (k_here; k_dflt (refine' for_led _ _ _ _ _ _ _ _ _ _ _ _ _ _ _ _ _ _ _ _ _ _ _ _ _ _ _ _ _ _ _ _ ?k1w9 ?k2w9 ?k3w9 ?k4w9 ?k5w9 ?k6w9 ?k7w9 ?k8w9 ?k9w9 ?kaw9 ?h1w9 ?h2w9 ?h3w9 ?kdw9 ?kuw9 ?kpw9 ?kqw9 ?_ ?_; (case k1w9 => k_asm); (case k2w9 => k_asm); (case k3w9 => k_asm); (case k4w9 => k_asm); (case k5w9 => k_asm); (case k6w9 => k_mem); (case k7w9 => exact sub2); (case k8w9 => k_all); (case h1w9 => exact rfl); (case h2w9 => exact rfl); (case h3w9 => exact rfl); (case k9w9 => (rw [‹List.map _ _ = _›]; assumption)); (case kaw9 => assumption); (case kdw9 => ktr_room); (case kuw9 => ktr_units); (case kpw9 => omega); (case kqw9 => omega); all_goals intros))
  k_with "compareOp NotIn str str" => (refine notin_yes (by assumption) ?_)
  dsimp only [SClaim, CbRet]; k_fill; intros; rename_i hret
  refine wpAny_call ?_
  k_dflt cell_enter
  k_steps
  all_goals (refine' cb_retB hret rfl ?f ?n; (case f => k_asm); (case n => k_asm))
end Mine
end
section
namespace Mine
/-- letters: m < t < s -/
inductive Ltr where
  | s | t | m
  deriving DecidableEq
/-- a tableau of three letters by its counts: rows' lengths, rows' lengths without s, m's -/
structure GT where
  l1 : Nat
  l2 : Nat
  l3 : Nat
  m1 : Nat
  m2 : Nat
  n1 : Nat
structure GT.Ok (g : GT) : Prop where
  a : g.m1 ≤ g.l1
  b : g.l2 ≤ g.m1
  c : g.m2 ≤ g.l2
  d : g.l3 ≤ g.m2
  e : g.n1 ≤ g.m1
  f : g.m2 ≤ g.n1
noncomputable def GT.zero : GT := ⟨0, 0, 0, 0, 0, 0⟩
noncomputable def rowIn (g : GT) : Ltr → GT
  | .s => ⟨g.l1 + 1, g.l2, g.l3, g.m1, g.m2, g.n1⟩
  | .t => ⟨if g.m1 < g.l1 then g.l1 else g.l1 + 1, if g.m1 < g.l1 then g.l2 + 1 else g.l2, g.l3, g.m1 + 1, g.m2, g.n1⟩
  | .m => ⟨if g.n1 < g.m1 then g.l1 else if g.m1 < g.l1 then g.l1 else g.l1 + 1,
      if g.n1 < g.m1 then (if g.m2 < g.l2 then g.l2 else g.l2 + 1) else if g.m1 < g.l1 then g.l2 + 1 else g.l2,
      if g.n1 < g.m1 then (if g.m2 < g.l2 then g.l3 + 1 else g.l3) else g.l3,
      if g.n1 < g.m1 then g.m1 else g.m1 + 1, if g.n1 < g.m1 then g.m2 + 1 else g.m2, g.n1 + 1⟩
noncomputable def colIn (g : GT) : Ltr → GT
  | .m => ⟨g.l1 + 1, g.l2, g.l3, g.m1 + 1, g.m2, g.n1 + 1⟩
  | .t => ⟨if g.m2 < g.n1 then (if g.m2 < g.l2 then (if g.l2 < g.m1 then g.l1 else g.l1 + 1) else g.l1) else g.l1 + 1,
      if g.m2 < g.n1 then (if g.m2 < g.l2 then (if g.l2 < g.m1 then g.l2 + 1 else g.l2) else g.l2 + 1) else g.l2,
      g.l3, if g.m2 < g.n1 then g.m1 else g.m1 + 1, if g.m2 < g.n1 then g.m2 + 1 else g.m2, g.n1⟩
  | .s => ⟨if g.l3 < g.m2 then g.l1 else if g.l2 < g.m1 then g.l1 else g.l1 + 1, if g.l3 < g.m2 then g.l2 else if g.l2 < g.m1 then g.l2 + 1 else g.l2,
      if g.l3 < g.m2 then g.l3 + 1 else g.l3, g.m1, g.m2, g.n1⟩

theorem rowIn_ok {g : GT} (h : g.Ok) (b : Ltr) : (rowIn g b).Ok := by
  obtain ⟨h1, h2, h3, h4, h5, h6⟩ := h
  cases b <;> simp only [rowIn] <;> constructor <;> dsimp only <;> (repeat' split) <;> omega
theorem colIn_ok {g : GT} (h : g.Ok) (b : Ltr) : (colIn g b).Ok := by
  obtain ⟨h1, h2, h3, h4, h5, h6⟩ := h
  cases b <;> simp only [colIn] <;> constructor <;> dsimp only <;> (repeat' split) <;> omega
theorem GT.ext' {a b : GT} (h1 : a.l1 = b.l1) (h2 : a.l2 = b.l2) (h3 : a.l3 = b.l3) (h4 : a.m1 = b.m1) (h5 : a.m2 = b.m2) (h6 : a.n1 = b.n1) : a = b := by
  cases a; cases b; simp_all
theorem rowIn_size (g : GT) (b : Ltr) : (rowIn g b).l1 + (rowIn g b).l2 + (rowIn g b).l3 = g.l1 + g.l2 + g.l3 + 1 := by
  obtain ⟨l1, l2, l3, m1, m2, n1⟩ := g
  cases b <;> simp only [rowIn] <;> (repeat' split) <;> omega
end Mine
end
section
namespace Mine
noncomputable def gt (u : List Ltr) : GT := u.foldl rowIn GT.zero
theorem foldl_ok : ∀ (u : List Ltr) {g : GT}, g.Ok → (u.foldl rowIn g).Ok
  | [], _, h => h
  | b :: u, _, h => foldl_ok u (rowIn_ok h b)
theorem zero_ok : GT.zero.Ok := by constructor <;> decide
theorem gt_ok (u : List Ltr) : (gt u).Ok := foldl_ok u zero_ok
theorem gt_app (u v : List Ltr) : gt (u ++ v) = v.foldl rowIn (gt u) := by
  unfold gt
  rw [List.foldl_append]
noncomputable def pcs : List (List Ltr) := [[], [.s], [.t], [.m], [.s, .t], [.t, .m], [.s, .m]]
noncomputable def top3 (x y z : Nat) : Nat := max x (max y z)
noncomputable def low3 (x y z : Nat) : Nat := min x (min y z)
/-- the local rule, looked at -/
noncomputable def locOk (g : GT) (a b : List Ltr) : Bool :=
  let ga := a.foldr (fun x g => colIn g x) g
  let gb := b.foldl rowIn g
  let gab := b.foldl rowIn ga
  let x := g.l1 + gab.l1 - ga.l1
  let y := g.l2 + gab.l2 - ga.l2
  let z := g.l3 + gab.l3 - ga.l3
  Nat.ble ga.l1 (g.l1 + gab.l1) && Nat.ble ga.l2 (g.l2 + gab.l2) && Nat.ble ga.l3 (g.l3 + gab.l3) && Nat.beq (top3 x y z) gb.l1 && Nat.beq (low3 x y z) gb.l3 && Nat.beq (x + y + z) (gb.l1 + gb.l2 + gb.l3)
noncomputable def upTo (n : Nat) : List Nat := List.range (n + 1)
noncomputable def gts (M N : Nat) : List GT := (upTo M).flatMap fun l1 => (upTo (min l1 (N - l1))).flatMap fun l2 => (upTo (min l2 (N - l1 - l2))).flatMap fun l3 =>
  (upTo (l1 - l2)).flatMap fun m1 => (upTo (l2 - l3)).flatMap fun m2 => (upTo (m1 + l2 - (m2 + l3))).map fun n1 => ⟨l1, l2, l3, m1 + l2, m2 + l3, n1 + (m2 + l3)⟩
theorem mem_gts {M N : Nat} {g : GT} (h : g.Ok) (hM : g.l1 ≤ M) (hN : g.l1 + g.l2 + g.l3 ≤ N) : g ∈ gts M N := by
  obtain ⟨l1, l2, l3, m1, m2, n1⟩ := g
  obtain ⟨h1, h2, h3, h4, h5, h6⟩ := h
  dsimp only at *
  obtain ⟨x, rfl⟩ := Nat.exists_eq_add_of_le' h2
  obtain ⟨y, rfl⟩ := Nat.exists_eq_add_of_le' h4
  obtain ⟨z, rfl⟩ := Nat.exists_eq_add_of_le' h6
  have h12 : l2 ≤ l1 := Nat.le_trans h2 h1
  have h23 : l3 ≤ l2 := Nat.le_trans h4 h3
  have n2 : l2 ≤ N - l1 := Nat.le_sub_of_add_le' (Nat.le_trans (Nat.le_add_right _ _) hN)
  have n3 : l3 ≤ N - l1 - l2 := by rw [Nat.sub_sub]; exact Nat.le_sub_of_add_le' hN
  unfold gts upTo
  simp only [List.mem_flatMap, List.mem_range, List.mem_map]
  exact ⟨l1, Nat.lt_succ_of_le hM, l2, Nat.lt_succ_of_le (Nat.le_min.mpr ⟨h12, n2⟩), l3, Nat.lt_succ_of_le (Nat.le_min.mpr ⟨h23, n3⟩),
    x, Nat.lt_succ_of_le (Nat.le_sub_of_add_le h1), y, Nat.lt_succ_of_le (Nat.le_sub_of_add_le h3), z, Nat.lt_succ_of_le (Nat.le_sub_of_add_le h5), rfl⟩
noncomputable def lts : List Ltr := [.s, .t, .m]
noncomputable def eqG (a b : GT) : Bool := Nat.beq a.l1 b.l1 && Nat.beq a.l2 b.l2 && Nat.beq a.l3 b.l3 && Nat.beq a.m1 b.m1 && Nat.beq a.m2 b.m2 && Nat.beq a.n1 b.n1
noncomputable def swapOk (g : GT) : Bool := lts.all fun a => lts.all fun b => eqG (rowIn (colIn g a) b) (colIn (rowIn g b) a)
theorem swap_all : ((gts 8 8).all swapOk) = true := by decide +kernel
theorem lts_all (a : Ltr) : a ∈ lts := by cases a <;> simp [lts]
theorem swap {g : GT} (h : g.Ok) (hN : g.l1 + g.l2 + g.l3 ≤ 8) (a b : Ltr) : rowIn (colIn g a) b = colIn (rowIn g b) a := by
  have q := List.all_eq_true.mp swap_all g (mem_gts h (Nat.le_trans (Nat.le_trans (Nat.le_add_right _ _) (Nat.le_add_right _ _)) hN) hN)
  have q2 := List.all_eq_true.mp (List.all_eq_true.mp q a (lts_all a)) b (lts_all b)
  simp only [eqG, Bool.and_eq_true, Nat.beq_eq] at q2
  obtain ⟨⟨⟨⟨⟨p1, p2⟩, p3⟩, p4⟩, p5⟩, p6⟩ := q2
  exact GT.ext' p1 p2 p3 p4 p5 p6
theorem foldl_col (a : Ltr) : ∀ (u : List Ltr) {g : GT}, g.Ok → g.l1 + g.l2 + g.l3 + u.length ≤ 9 → u.foldl rowIn (colIn g a) = colIn (u.foldl rowIn g) a
  | [], _, _, _ => rfl
  | b :: u, g, h, hN => by
    rw [List.length_cons] at hN
    rw [List.foldl_cons, List.foldl_cons, swap h (by omega) a b]
    exact foldl_col a u (rowIn_ok h b) (by rw [rowIn_size]; omega)
theorem gt_cons (a : Ltr) (u : List Ltr) (hu : u.length ≤ 9) : gt (a :: u) = colIn (gt u) a := by
  unfold gt
  rw [List.foldl_cons, ← foldl_col a u zero_ok (by rw [show GT.zero.l1 + GT.zero.l2 + GT.zero.l3 = 0 from rfl, Nat.zero_add]; exact hu)]
  congr 1
  cases a <;> rfl
theorem gt_pre : ∀ (a u : List Ltr), a.length + u.length ≤ 10 → gt (a ++ u) = a.foldr (fun x g => colIn g x) (gt u)
  | [], _, _ => rfl
  | x :: a, u, h => by
    rw [List.length_cons] at h
    rw [List.cons_append, gt_cons _ _ (by rw [List.length_append]; omega), gt_pre a u (by omega)]
    rfl
noncomputable def locRow (a : List Ltr) : Bool := (gts 4 8).all fun g => pcs.all fun b => locOk g a b
theorem loc_0 : locRow [] = true := by decide +kernel
theorem loc_1 : locRow [.s] = true := by decide +kernel
theorem loc_2 : locRow [.t] = true := by decide +kernel
theorem loc_3 : locRow [.m] = true := by decide +kernel
theorem loc_4 : locRow [.s, .t] = true := by decide +kernel
theorem loc_5 : locRow [.t, .m] = true := by decide +kernel
theorem loc_6 : locRow [.s, .m] = true := by decide +kernel
theorem loc_all (a : List Ltr) (h : a ∈ pcs) : locRow a = true := by
  simp only [pcs, List.mem_cons, List.not_mem_nil, or_false] at h
  rcases h with rfl | rfl | rfl | rfl | rfl | rfl | rfl
  · exact loc_0
  · exact loc_1
  · exact loc_2
  · exact loc_3
  · exact loc_4
  · exact loc_5
  · exact loc_6
end Mine
end
section
namespace Mine
/-- the plain walk's state -/
structure Wk where
  low : Nat
  mid : Nat
  high : Nat
  free : Nat
  pairs : Nat
  trip : Nat
  size : Nat
noncomputable def Wk.zero : Wk := ⟨0, 0, 0, 0, 0, 0, 0⟩
noncomputable def wkIn (k : Wk) : Ltr → Wk
  | .s => ⟨k.low, k.mid, max (max k.low k.mid) k.high + 1, k.free + 1, k.pairs, k.trip, k.size + 1⟩
  | .t => ⟨k.low, max k.low k.mid + 1, k.high, if 0 < k.free then k.free - 1 else k.free, if 0 < k.free then k.pairs + 1 else k.pairs, k.trip, k.size + 1⟩
  | .m => ⟨k.low + 1, k.mid, k.high, k.free, if 0 < k.pairs then k.pairs - 1 else k.pairs, if 0 < k.pairs then k.trip + 1 else k.trip, k.size + 1⟩
noncomputable def Wk.red (k : Wk) : Nat := max (max k.low k.mid) k.high
/-- the walk's state and the tableau -/
structure Tied (k : Wk) (g : GT) : Prop where
  low : k.low = g.n1
  mid : max k.low k.mid = g.m1
  high : max (max k.low k.mid) k.high = g.l1
  size : k.size = g.l1 + g.l2 + g.l3
  trip : k.trip = g.l3
  p1 : k.pairs + g.m2 ≤ g.l2
  p2 : k.pairs + g.n1 ≤ g.m1
  p3 : k.pairs + g.m2 = g.l2 ∨ k.pairs + g.n1 = g.m1
  free : k.free + k.pairs + g.l3 + g.m1 + g.m2 = k.size
theorem max_up {a b c : Nat} (h : max a b = c) (h2 : a < c) : max (a + 1) b = c := by
  have h3 : b = c := by
    rcases Nat.le_total a b with q | q
    · rw [Nat.max_eq_right q] at h; exact h
    · rw [Nat.max_eq_left q] at h; exact absurd h (Nat.ne_of_lt h2)
  rw [h3]; exact Nat.max_eq_right h2
theorem max_up2 {a b c : Nat} (h : max a b = c) (h2 : ¬ a < c) : max (a + 1) b = c + 1 := by
  have h1 : a = c := Nat.le_antisymm (h ▸ Nat.le_max_left a b) (Nat.le_of_not_lt h2)
  have h3 : b ≤ c := h ▸ Nat.le_max_right a b
  rw [h1]; exact Nat.max_eq_left (Nat.le_succ_of_le h3)
theorem max_snoc (a c : Nat) (h : a ≤ c) : max a (c + 1) = c + 1 := Nat.max_eq_right (Nat.le_succ_of_le h)
theorem tied_s {k : Wk} {g : GT} (h : g.Ok) (t : Tied k g) : Tied (wkIn k .s) (rowIn g .s) := by
  obtain ⟨t1, t2, t3, t4, t5, t6, t7, t8, t9⟩ := t
  refine ⟨t1, t2, ?_, ?_, t5, t6, t7, t8, ?_⟩
  · show max (max k.low k.mid) (max (max k.low k.mid) k.high + 1) = g.l1 + 1
    rw [t3, t2]; exact max_snoc _ _ h.a
  · show k.size + 1 = g.l1 + 1 + g.l2 + g.l3
    rw [t4]; omega
  · show k.free + 1 + k.pairs + g.l3 + g.m1 + g.m2 = k.size + 1
    omega
theorem le1 {a b c : Nat} (h : a + b ≤ c) : a + 1 + b ≤ c + 1 := by omega
theorem eq1 {a b c : Nat} (h : a + b = c) : a + 1 + b = c + 1 := by omega
theorem le2 {a b c : Nat} (h : a + 1 + b ≤ c) : a + (b + 1) ≤ c := by omega
theorem eq2 {a b c : Nat} (h : a + 1 + b = c) : a + (b + 1) = c := by omega
theorem sum1 {f p l3 m1 m2 s : Nat} (h : 0 < f) (t9 : f + p + l3 + m1 + m2 = s) : f - 1 + (p + 1) + l3 + (m1 + 1) + m2 = s + 1 := by omega
theorem sum2 {f p l3 m1 m2 s : Nat} (t9 : f + (p + 1) + l3 + m1 + m2 = s) : f + p + (l3 + 1) + m1 + (m2 + 1) = s + 1 := by omega
theorem pos1 {f p l1 l2 l3 m1 m2 : Nat} (t6 : p + m2 ≤ l2) (t9 : f + p + l3 + m1 + m2 = l1 + l2 + l3) (c : m1 < l1) : 0 < f := by omega
theorem gap1 {f p l1 l2 l3 m2 : Nat} (t9 : f + p + l3 + l1 + m2 = l1 + l2 + l3) (c : 0 < f) : p + m2 < l2 := by omega
theorem gap2 {f p l1 l2 l3 m2 : Nat} (t9 : f + p + l3 + l1 + m2 = l1 + l2 + l3) (c : ¬ 0 < f) : p + m2 = l2 := by omega
theorem tied_t1 {f p l1 l2 l3 m1 m2 n1 s : Nat} (t4 : s = l1 + l2 + l3) (t6 : p + m2 ≤ l2) (t7 : p + n1 ≤ m1) (t8 : p + m2 = l2 ∨ p + n1 = m1) (t9 : f + p + l3 + m1 + m2 = s) (c : m1 < l1) :
    0 < f ∧ p + 1 + m2 ≤ l2 + 1 ∧ p + 1 + n1 ≤ m1 + 1 ∧ (p + 1 + m2 = l2 + 1 ∨ p + 1 + n1 = m1 + 1) ∧ f - 1 + (p + 1) + l3 + (m1 + 1) + m2 = s + 1 := by
  subst t4
  have hf : 0 < f := pos1 t6 t9 c
  exact ⟨hf, le1 t6, le1 t7, t8.imp eq1 eq1, sum1 hf t9⟩
theorem tied_t2 {f p l1 l2 l3 m1 m2 n1 s : Nat} (h1 : m1 ≤ l1) (t4 : s = l1 + l2 + l3) (t7 : p + n1 ≤ m1) (t8 : p + m2 = l2 ∨ p + n1 = m1) (t9 : f + p + l3 + m1 + m2 = s) (c : ¬ m1 < l1) (c2 : 0 < f) :
    p + 1 + m2 ≤ l2 ∧ p + 1 + n1 ≤ m1 + 1 ∧ (p + 1 + m2 = l2 ∨ p + 1 + n1 = m1 + 1) ∧ f - 1 + (p + 1) + l3 + (m1 + 1) + m2 = s + 1 := by
  have e : m1 = l1 := Nat.le_antisymm h1 (Nat.le_of_not_lt c)
  subst e; subst t4
  have g := gap1 t9 c2
  refine ⟨?_, le1 t7, .inr (eq1 (t8.resolve_left (Nat.ne_of_lt g))), sum1 c2 t9⟩
  rw [Nat.add_right_comm]; exact g
theorem tied_t3 {f p l1 l2 l3 m1 m2 n1 s : Nat} (h1 : m1 ≤ l1) (t4 : s = l1 + l2 + l3) (t7 : p + n1 ≤ m1) (t9 : f + p + l3 + m1 + m2 = s) (c : ¬ m1 < l1) (c2 : ¬ 0 < f) :
    p + n1 ≤ m1 + 1 ∧ p + m2 = l2 ∧ f + p + l3 + (m1 + 1) + m2 = s + 1 := by
  have e : m1 = l1 := Nat.le_antisymm h1 (Nat.le_of_not_lt c)
  subst e; subst t4
  refine ⟨Nat.le_succ_of_le t7, gap2 t9 c2, ?_⟩
  rw [← t9]; omega
theorem tied_t {k : Wk} {g : GT} (h : g.Ok) (t : Tied k g) : Tied (wkIn k .t) (rowIn g .t) := by
  obtain ⟨t1, t2, t3, t4, t5, t6, t7, t8, t9⟩ := t
  have a1 : max k.low (max k.low k.mid + 1) = g.m1 + 1 := by rw [t2, t1]; exact max_snoc _ _ h.e
  rcases Nat.lt_or_ge g.m1 g.l1 with c | c
  · obtain ⟨q0, q1, q2, q3, q4⟩ := tied_t1 t4 t6 t7 t8 t9 c
    simp only [wkIn, rowIn, if_pos c, if_pos q0]
    refine ⟨t1, a1, ?_, ?_, t5, q1, q2, q3, q4⟩
    · show max (max k.low (max k.low k.mid + 1)) k.high = g.l1
      rw [a1]; rw [t2] at t3; exact max_up t3 c
    · show k.size + 1 = g.l1 + (g.l2 + 1) + g.l3
      rw [t4]; omega
  · have c := Nat.not_lt.mpr c
    have a2 : max (max k.low (max k.low k.mid + 1)) k.high = g.l1 + 1 := by
      rw [a1]; rw [t2] at t3; exact max_up2 t3 c
    have a3 : k.size + 1 = g.l1 + 1 + g.l2 + g.l3 := by rw [t4]; omega
    rcases Nat.lt_or_ge 0 k.free with d | d
    · obtain ⟨q1, q2, q3, q4⟩ := tied_t2 h.a t4 t7 t8 t9 c d
      simp only [wkIn, rowIn, if_neg c, if_pos d]
      exact ⟨t1, a1, a2, a3, t5, q1, q2, q3, q4⟩
    · have d := Nat.not_lt.mpr d
      obtain ⟨q2, q3, q4⟩ := tied_t3 h.a t4 t7 t9 c d
      simp only [wkIn, rowIn, if_neg c, if_neg d]
      exact ⟨t1, a1, a2, a3, t5, t6, q2, .inl q3, q4⟩
theorem tied_m1 {p m1 n1 : Nat} (t7 : p + n1 ≤ m1) (c : ¬ n1 < m1) : p = 0 ∧ n1 = m1 := by
  refine ⟨by omega, by omega⟩
theorem tied_m2 {f p l2 l3 m1 m2 n1 s : Nat} (t6 : p + m2 ≤ l2) (t7 : p + n1 ≤ m1) (t8 : p + m2 = l2 ∨ p + n1 = m1) (t9 : f + p + l3 + m1 + m2 = s) (c : n1 < m1) (d : m2 < l2) :
    0 < p ∧ p - 1 + (m2 + 1) ≤ l2 ∧ p - 1 + (n1 + 1) ≤ m1 ∧ (p - 1 + (m2 + 1) = l2 ∨ p - 1 + (n1 + 1) = m1) ∧ f + (p - 1) + (l3 + 1) + m1 + (m2 + 1) = s + 1 := by
  have hp : 0 < p := by
    rcases Nat.eq_zero_or_pos p with e | e
    · rw [e, Nat.zero_add, Nat.zero_add] at t8
      exact (t8.elim (fun q => Nat.ne_of_lt d q) (fun q => Nat.ne_of_lt c q)).elim
    · exact e
  obtain ⟨p, rfl⟩ := Nat.exists_eq_succ_of_ne_zero (Nat.ne_of_gt hp)
  exact ⟨hp, le2 t6, le2 t7, t8.imp eq2 eq2, sum2 t9⟩
theorem tied_m3 {f p l2 l3 m1 m2 n1 s : Nat} (h3 : m2 ≤ l2) (t6 : p + m2 ≤ l2) (t9 : f + p + l3 + m1 + m2 = s) (c : n1 < m1) (d : ¬ m2 < l2) :
    p = 0 ∧ p + (n1 + 1) ≤ m1 ∧ p + (m2 + 1) = l2 + 1 ∧ f + p + l3 + m1 + (m2 + 1) = s + 1 := by
  have e : m2 = l2 := Nat.le_antisymm h3 (Nat.le_of_not_lt d)
  have hp : p = 0 := by clear h3 t9 c d; omega
  subst hp
  refine ⟨rfl, ?_, ?_, ?_⟩
  · rw [Nat.zero_add]; exact c
  · rw [Nat.zero_add, e]
  · rw [← t9]; rfl
theorem tied_m {k : Wk} {g : GT} (h : g.Ok) (t : Tied k g) : Tied (wkIn k .m) (rowIn g .m) := by
  obtain ⟨t1, t2, t3, t4, t5, t6, t7, t8, t9⟩ := t
  have a0 : k.low + 1 = g.n1 + 1 := by rw [t1]
  rcases Nat.lt_or_ge g.n1 g.m1 with c | c
  · have a1 : max (k.low + 1) k.mid = g.m1 := by rw [← t1] at c; exact max_up t2 c
    have a2 : max (max (k.low + 1) k.mid) k.high = g.l1 := by rw [a1, ← t2]; exact t3
    rcases Nat.lt_or_ge g.m2 g.l2 with d | d
    · obtain ⟨q0, q1, q2, q3, q4⟩ := tied_m2 t6 t7 t8 t9 c d
      simp only [wkIn, rowIn, if_pos c, if_pos d, if_pos q0]
      refine ⟨a0, a1, a2, ?_, ?_, q1, q2, q3, q4⟩
      · show k.size + 1 = g.l1 + g.l2 + (g.l3 + 1)
        rw [t4]; rfl
      · show k.trip + 1 = g.l3 + 1
        rw [t5]
    · have d := Nat.not_lt.mpr d
      obtain ⟨q0, q2, q3, q4⟩ := tied_m3 h.c t6 t9 c d
      have q0' : ¬ 0 < k.pairs := by rw [q0]; exact Nat.lt_irrefl 0
      simp only [wkIn, rowIn, if_pos c, if_neg d, if_neg q0']
      refine ⟨a0, a1, a2, ?_, t5, Nat.le_of_eq q3, q2, .inl q3, q4⟩
      show k.size + 1 = g.l1 + (g.l2 + 1) + g.l3
      rw [t4]; omega
  · have c := Nat.not_lt.mpr c
    obtain ⟨q0, q1⟩ := tied_m1 t7 c
    have q0' : ¬ 0 < k.pairs := by rw [q0]; exact Nat.lt_irrefl 0
    have a1 : max (k.low + 1) k.mid = g.m1 + 1 := by rw [← t1] at c; exact max_up2 t2 c
    have q2 : k.pairs + (g.n1 + 1) = g.m1 + 1 := by rw [q0, q1]; exact Nat.zero_add _
    have q4 : k.free + k.pairs + g.l3 + (g.m1 + 1) + g.m2 = k.size + 1 := by rw [← t9]; omega
    rw [t2] at t3
    rcases Nat.lt_or_ge g.m1 g.l1 with d | d
    · simp only [wkIn, rowIn, if_neg c, if_pos d, if_neg q0']
      refine ⟨a0, a1, ?_, ?_, t5, Nat.le_succ_of_le t6, Nat.le_of_eq q2, .inr q2, q4⟩
      · show max (max (k.low + 1) k.mid) k.high = g.l1
        rw [a1]; exact max_up t3 d
      · show k.size + 1 = g.l1 + (g.l2 + 1) + g.l3
        rw [t4]; omega
    · have d := Nat.not_lt.mpr d
      simp only [wkIn, rowIn, if_neg c, if_neg d, if_neg q0']
      refine ⟨a0, a1, ?_, ?_, t5, t6, Nat.le_of_eq q2, .inr q2, q4⟩
      · show max (max (k.low + 1) k.mid) k.high = g.l1 + 1
        rw [a1]; exact max_up2 t3 d
      · show k.size + 1 = g.l1 + 1 + g.l2 + g.l3
        rw [t4]; omega
theorem tied_in {k : Wk} {g : GT} (h : g.Ok) (t : Tied k g) : ∀ b : Ltr, Tied (wkIn k b) (rowIn g b)
  | .s => tied_s h t
  | .t => tied_t h t
  | .m => tied_m h t
noncomputable def wk (u : List Ltr) : Wk := u.foldl wkIn Wk.zero
theorem tied_fold : ∀ (u : List Ltr) {k : Wk} {g : GT}, g.Ok → Tied k g → Tied (u.foldl wkIn k) (u.foldl rowIn g)
  | [], _, _, _, t => t
  | b :: u, _, _, h, t => tied_fold u (rowIn_ok h b) (tied_in h t b)
theorem tied (u : List Ltr) : Tied (wk u) (gt u) := tied_fold u zero_ok ⟨rfl, rfl, rfl, rfl, rfl, Nat.le_refl _, Nat.le_refl _, .inl rfl, rfl⟩
theorem wk_red (u : List Ltr) : (wk u).red = (gt u).l1 := (tied u).high
theorem wk_trip (u : List Ltr) : (wk u).trip = (gt u).l3 := (tied u).trip
end Mine
end
section
namespace Mine
/-- rows of m's, then t's, then s's -/
noncomputable abbrev rowOf (i j k : Nat) : List Ltr := List.replicate i .m ++ (List.replicate j .t ++ List.replicate k .s)
noncomputable def Has (u : List Ltr) (n : Nat) : Prop := ∃ i j k, i + j + k = n ∧ (rowOf i j k).Sublist u
theorem sub_snoc {l u : List Ltr} {x : Ltr} : l.Sublist (u ++ [x]) ↔ l.Sublist u ∨ ∃ l', l = l' ++ [x] ∧ l'.Sublist u := by
  constructor
  · intro h
    obtain ⟨l1, l2, rfl, h1, h2⟩ := List.sublist_append_iff.mp h
    rcases l2 with _ | ⟨y, l2⟩
    · left; simpa using h1
    · right
      have : y :: l2 = [x] := by
        have := h2.length_le
        simp at this
        subst this
        simpa using h2
      exact ⟨l1, by rw [this], h1⟩
  · rintro (h | ⟨l', rfl, h⟩)
    · exact h.trans (List.sublist_append_left _ _)
    · exact h.append (List.Sublist.refl _)
theorem snoc_inj {a b : List Ltr} {x y : Ltr} (h : a ++ [x] = b ++ [y]) : a = b ∧ x = y := by
  have := List.append_inj' h rfl
  exact ⟨this.1, by simpa using this.2⟩
theorem row_s (i j k : Nat) : rowOf i j (k + 1) = rowOf i j k ++ [.s] := by
  simp only [rowOf, List.replicate_succ', List.append_assoc]
theorem row_t (i j : Nat) : rowOf i (j + 1) 0 = rowOf i j 0 ++ [.t] := by
  simp only [rowOf, List.replicate_succ', List.append_assoc, List.replicate_zero, List.append_nil]
theorem row_m (i : Nat) : rowOf (i + 1) 0 0 = rowOf i 0 0 ++ [.m] := by
  simp only [rowOf, List.replicate_succ', List.append_assoc, List.replicate_zero, List.append_nil]
/-- one more letter -/
theorem row_snoc {u : List Ltr} {x : Ltr} {i j k : Nat} : (rowOf i j k).Sublist (u ++ [x]) ↔ (rowOf i j k).Sublist u ∨
    (x = .s ∧ ∃ k', k = k' + 1 ∧ (rowOf i j k').Sublist u) ∨ (x = .t ∧ k = 0 ∧ ∃ j', j = j' + 1 ∧ (rowOf i j' 0).Sublist u) ∨ (x = .m ∧ k = 0 ∧ j = 0 ∧ ∃ i', i = i' + 1 ∧ (rowOf i' 0 0).Sublist u) := by
  rw [sub_snoc]
  constructor
  · rintro (h | ⟨l', e, h⟩)
    · exact .inl h
    · right
      cases k with
      | succ k =>
        rw [row_s] at e
        obtain ⟨rfl, rfl⟩ := snoc_inj e
        exact .inl ⟨rfl, k, rfl, h⟩
      | zero =>
        cases j with
        | succ j =>
          rw [row_t] at e
          obtain ⟨rfl, rfl⟩ := snoc_inj e
          exact .inr (.inl ⟨rfl, rfl, j, rfl, h⟩)
        | zero =>
          cases i with
          | succ i =>
            rw [row_m] at e
            obtain ⟨rfl, rfl⟩ := snoc_inj e
            exact .inr (.inr ⟨rfl, rfl, rfl, i, rfl, h⟩)
          | zero =>
            exfalso
            have := congrArg List.length e
            simp [rowOf] at this
  · rintro (h | ⟨rfl, k', rfl, h⟩ | ⟨rfl, rfl, j', rfl, h⟩ | ⟨rfl, rfl, rfl, i', rfl, h⟩)
    · exact .inl h
    · exact .inr ⟨_, row_s i j k', h⟩
    · exact .inr ⟨_, row_t i j', h⟩
    · exact .inr ⟨_, row_m i', h⟩
structure Rows (k : Wk) (u : List Ltr) : Prop where
  one : ∀ n, (rowOf n 0 0).Sublist u ↔ n ≤ k.low
  two : ∀ n, (∃ i j, i + j = n ∧ (rowOf i j 0).Sublist u) ↔ n ≤ max k.low k.mid
  three : ∀ n, Has u n ↔ n ≤ k.red
theorem mx_t {n a b : Nat} (h : n ≤ max a b) : n ≤ max a (max a b + 1) := Nat.le_trans (Nat.le_succ_of_le h) (Nat.le_max_right _ _)
theorem mx_t1 {a b : Nat} : max a b + 1 ≤ max a (max a b + 1) := Nat.le_max_right _ _
theorem mx_m {n a b : Nat} (h : n ≤ max a b) : n ≤ max (a + 1) b := Nat.le_trans h (Nat.max_le.mpr ⟨Nat.le_trans (Nat.le_succ a) (Nat.le_max_left _ _), Nat.le_max_right _ _⟩)
theorem mx_eq {n a b : Nat} (q : n ≤ max a (max a b + 1)) (c : max a b < n) : max a b + 1 = n :=
  Nat.le_antisymm c (Nat.le_trans q (Nat.max_le.mpr ⟨Nat.le_succ_of_le (Nat.le_max_left _ _), Nat.le_refl _⟩))
theorem mx_eqm {n a b : Nat} (q : n ≤ max (a + 1) b) (c : max a b < n) : a + 1 = n := by
  have c1 : b < n := Nat.lt_of_le_of_lt (Nat.le_max_right a b) c
  have c2 : a < n := Nat.lt_of_le_of_lt (Nat.le_max_left a b) c
  rcases Nat.le_total b (a + 1) with e | e
  · rw [Nat.max_eq_left e] at q; exact Nat.le_antisymm c2 q
  · rw [Nat.max_eq_right e] at q; exact absurd q (Nat.not_le.mpr c1)
/-- the red of a step -/
theorem rd_s (k : Wk) : (wkIn k .s).red = k.red + 1 := by
  show max (max k.low k.mid) (max (max k.low k.mid) k.high + 1) = max (max k.low k.mid) k.high + 1
  exact Nat.max_eq_right (Nat.le_succ_of_le (Nat.le_max_left _ _))
theorem rd_t (k : Wk) : (wkIn k .t).red = max (max k.low k.mid + 1) k.high := by
  show max (max k.low (max k.low k.mid + 1)) k.high = _
  rw [Nat.max_eq_right (Nat.le_succ_of_le (Nat.le_max_left _ _))]
theorem rd_m (k : Wk) : (wkIn k .m).red = max (max (k.low + 1) k.mid) k.high := rfl
theorem rd_up (k : Wk) (x : Ltr) : k.red ≤ (wkIn k x).red := by
  cases x
  · rw [rd_s]; exact Nat.le_succ _
  · rw [rd_t]; exact mx_m (Nat.le_refl _)
  · rw [rd_m]; exact Nat.max_le.mpr ⟨Nat.le_trans (mx_m (Nat.le_refl _)) (Nat.le_max_left _ _), Nat.le_max_right _ _⟩
theorem rows_one {k : Wk} {u : List Ltr} (h : Rows k u) (x : Ltr) (n : Nat) : (rowOf n 0 0).Sublist (u ++ [x]) ↔ n ≤ (wkIn k x).low := by
  have h1 := h.one
  rw [row_snoc, h1]
  cases x
  · simp [wkIn]
  · simp [wkIn]
  · simp only [wkIn, true_and, reduceCtorEq, false_and, false_or]
    constructor
    · rintro (q | ⟨i, rfl, q⟩)
      · exact Nat.le_succ_of_le q
      · exact Nat.succ_le_succ ((h1 i).mp q)
    · intro q
      rcases Nat.lt_or_ge k.low n with c | c
      · exact .inr ⟨k.low, Nat.le_antisymm q c, (h1 _).mpr (Nat.le_refl _)⟩
      · exact .inl c
theorem rows_two {k : Wk} {u : List Ltr} (h : Rows k u) (x : Ltr) (n : Nat) : (∃ i j, i + j = n ∧ (rowOf i j 0).Sublist (u ++ [x])) ↔ n ≤ max (wkIn k x).low (wkIn k x).mid := by
  have h1 := h.one
  have h2 := h.two
  constructor
  · rintro ⟨i, j, rfl, q⟩
    rcases row_snoc.mp q with z | ⟨rfl, k', e, z⟩ | ⟨rfl, _, j', rfl, z⟩ | ⟨rfl, _, rfl, i', rfl, z⟩
    · have q2 := (h2 _).mp ⟨i, j, rfl, z⟩
      cases x
      · exact q2
      · exact mx_t q2
      · exact mx_m q2
    · cases e
    · exact Nat.le_trans (Nat.succ_le_succ ((h2 _).mp ⟨i, j', rfl, z⟩)) mx_t1
    · exact Nat.le_trans (Nat.succ_le_succ ((h1 _).mp z)) (Nat.le_max_left _ _)
  · intro q
    cases x with
    | s =>
      obtain ⟨i, j, e, z⟩ := (h2 n).mpr q
      exact ⟨i, j, e, row_snoc.mpr (.inl z)⟩
    | t =>
      rcases Nat.lt_or_ge (max k.low k.mid) n with c | c
      · obtain ⟨i, j, e, z⟩ := (h2 _).mpr (Nat.le_refl _)
        exact ⟨i, j + 1, (congrArg (· + 1) e).trans (mx_eq q c), row_snoc.mpr (.inr (.inr (.inl ⟨rfl, rfl, j, rfl, z⟩)))⟩
      · obtain ⟨i, j, e, z⟩ := (h2 n).mpr c
        exact ⟨i, j, e, row_snoc.mpr (.inl z)⟩
    | m =>
      rcases Nat.lt_or_ge (max k.low k.mid) n with c | c
      · exact ⟨k.low + 1, 0, mx_eqm q c, row_snoc.mpr (.inr (.inr (.inr ⟨rfl, rfl, rfl, k.low, rfl, (h1 _).mpr (Nat.le_refl _)⟩)))⟩
      · obtain ⟨i, j, e, z⟩ := (h2 n).mpr c
        exact ⟨i, j, e, row_snoc.mpr (.inl z)⟩
theorem rows_three {k : Wk} {u : List Ltr} (h : Rows k u) (x : Ltr) (n : Nat) : Has (u ++ [x]) n ↔ n ≤ (wkIn k x).red := by
  obtain ⟨h1, h2, h3⟩ := h
  unfold Has at h3 ⊢
  constructor
  · rintro ⟨i, j, l, rfl, q⟩
    rcases row_snoc.mp q with z | ⟨rfl, k', rfl, z⟩ | ⟨rfl, rfl, j', rfl, z⟩ | ⟨rfl, rfl, rfl, i', rfl, z⟩
    · exact Nat.le_trans ((h3 _).mp ⟨i, j, l, rfl, z⟩) (rd_up k x)
    · rw [rd_s]; exact Nat.succ_le_succ ((h3 _).mp ⟨i, j, k', rfl, z⟩)
    · rw [rd_t]; exact Nat.le_trans (Nat.succ_le_succ ((h2 _).mp ⟨i, j', rfl, z⟩)) (Nat.le_max_left _ _)
    · rw [rd_m]; exact Nat.le_trans (Nat.succ_le_succ ((h1 _).mp z)) (Nat.le_trans (Nat.le_max_left _ _) (Nat.le_max_left _ _))
  · intro q
    rcases Nat.lt_or_ge k.red n with c | c
    · cases x with
      | s =>
        rw [rd_s] at q
        obtain ⟨i, j, l, e, z⟩ := (h3 _).mpr (Nat.le_refl _)
        exact ⟨i, j, l + 1, (congrArg (· + 1) e).trans (Nat.le_antisymm c q), row_snoc.mpr (.inr (.inl ⟨rfl, l, rfl, z⟩))⟩
      | t =>
        rw [rd_t] at q
        obtain ⟨i, j, e, z⟩ := (h2 _).mpr (Nat.le_refl _)
        exact ⟨i, j + 1, 0, (congrArg (· + 1) e).trans (mx_eqm q c), row_snoc.mpr (.inr (.inr (.inl ⟨rfl, rfl, j, rfl, z⟩)))⟩
      | m =>
        rw [rd_m] at q
        have c' : max (max k.low k.mid) k.high < n := c
        have c1 : k.high < n := Nat.lt_of_le_of_lt (Nat.le_max_right _ _) c'
        have c2 : max k.low k.mid < n := Nat.lt_of_le_of_lt (Nat.le_max_left _ _) c'
        have q' : n ≤ max (k.low + 1) k.mid := by
          rcases Nat.le_total (max (k.low + 1) k.mid) k.high with e | e
          · rw [Nat.max_eq_right e] at q; exact absurd q (Nat.not_le.mpr c1)
          · rw [Nat.max_eq_left e] at q; exact q
        exact ⟨k.low + 1, 0, 0, mx_eqm q' c2, row_snoc.mpr (.inr (.inr (.inr ⟨rfl, rfl, rfl, k.low, rfl, (h1 _).mpr (Nat.le_refl _)⟩)))⟩
    · obtain ⟨i, j, l, e, z⟩ := (h3 n).mpr c
      exact ⟨i, j, l, e, row_snoc.mpr (.inl z)⟩
theorem rows_in {k : Wk} {u : List Ltr} (h : Rows k u) (x : Ltr) : Rows (wkIn k x) (u ++ [x]) := ⟨rows_one h x, rows_two h x, rows_three h x⟩
theorem rows_fold : ∀ (v u : List Ltr) {k : Wk}, Rows k u → Rows (v.foldl wkIn k) (u ++ v)
  | [], u, _, h => by rw [List.append_nil]; exact h
  | x :: v, u, _, h => by
    have := rows_fold v (u ++ [x]) (rows_in h x)
    rw [List.append_assoc] at this
    exact this
theorem rows_nil : Rows Wk.zero [] := by
  refine ⟨fun n => ?_, fun n => ?_, fun n => ?_⟩
  · simp [rowOf, Wk.zero]
  · constructor
    · rintro ⟨i, j, rfl, q⟩
      have := q.length_le
      simp [rowOf] at this
      simp [Wk.zero]; omega
    · intro q
      have : n = 0 := by simpa [Wk.zero] using q
      exact ⟨0, 0, by omega, by simp [rowOf]⟩
  · constructor
    · rintro ⟨i, j, l, rfl, q⟩
      have := q.length_le
      simp [rowOf] at this
      simp [Wk.zero, Wk.red]; omega
    · intro q
      have : n = 0 := by simpa [Wk.zero, Wk.red] using q
      exact ⟨0, 0, 0, by omega, by simp [rowOf]⟩
theorem rows_wk (u : List Ltr) : Rows (wk u) u := by
  have := rows_fold u [] rows_nil
  rw [List.nil_append] at this
  exact this
theorem has_iff (u : List Ltr) (n : Nat) : Has u n ↔ n ≤ (gt u).l1 := by
  rw [(rows_wk u).three n, wk_red]
end Mine
end
section
namespace Mine
/-- the part before the first x, and the part behind it -/
noncomputable def cutAt (x : Ltr) : List Ltr → Option (List Ltr × List Ltr)
  | [] => none
  | y :: u => if y = x then some ([], u) else (cutAt x u).map fun p => (y :: p.1, p.2)
theorem cutAt_some {x : Ltr} : ∀ {u a b : List Ltr}, cutAt x u = some (a, b) → u = a ++ x :: b ∧ x ∉ a
  | y :: u, a, b, h => by
    unfold cutAt at h
    split at h
    · rename_i e
      cases h
      exact ⟨by rw [e]; rfl, by simp⟩
    · rename_i e
      obtain ⟨⟨a', b'⟩, h1, h2⟩ := Option.map_eq_some_iff.mp h
      cases h2
      obtain ⟨e1, e2⟩ := cutAt_some h1
      exact ⟨by rw [e1]; rfl, by simp [e2, Ne.symm e]⟩
theorem cutAt_none {x : Ltr} : ∀ {u : List Ltr}, cutAt x u = none → x ∉ u
  | [], _ => by simp
  | y :: u, h => by
    unfold cutAt at h
    split at h
    · cases h
    · rename_i e
      have := cutAt_none (Option.map_eq_none_iff.mp h)
      simp [this, Ne.symm e]
noncomputable def strike (u : List Ltr) : Option (List Ltr) :=
  match cutAt .s u with
  | none => none
  | some (a, r) => match cutAt .t r with
    | none => none
    | some (b, r') => match cutAt .m r' with
      | none => none
      | some (c, d) => some (a ++ (b ++ (c ++ d)))
/-- what two states of the walk say of triples -/
noncomputable def Wk.fpt (k : Wk) : Nat × Nat × Nat := (k.free, k.pairs, k.trip)
theorem fpt_no_s : ∀ (a : List Ltr) {k : Wk}, Ltr.s ∉ a → k.free = 0 → k.pairs = 0 → (a.foldl wkIn k).fpt = k.fpt
  | [], _, _, _, _ => rfl
  | x :: a, k, h, h1, h2 => by
    rw [List.foldl_cons]
    have hx : x ≠ .s := fun e => h (by simp [e])
    have ha : Ltr.s ∉ a := fun e => h (by simp [e])
    have e : (wkIn k x).fpt = k.fpt := by cases x <;> simp_all [wkIn, Wk.fpt]
    have e' := e
    unfold Wk.fpt at e'
    simp only [Prod.mk.injEq] at e'
    rw [fpt_no_s a ha (by omega) (by omega), e]
theorem fpt_no_t : ∀ (b : List Ltr) {k k' : Wk}, Ltr.t ∉ b → k.free = k'.free + 1 → k.pairs = 0 → k'.pairs = 0 → k.trip = k'.trip →
    (b.foldl wkIn k).free = (b.foldl wkIn k').free + 1 ∧ (b.foldl wkIn k).pairs = 0 ∧ (b.foldl wkIn k').pairs = 0 ∧ (b.foldl wkIn k).trip = (b.foldl wkIn k').trip
  | [], _, _, _, h1, h2, h3, h4 => ⟨h1, h2, h3, h4⟩
  | x :: b, k, k', h, h1, h2, h3, h4 => by
    rw [List.foldl_cons, List.foldl_cons]
    have hx : x ≠ .t := fun e => h (by simp [e])
    refine fpt_no_t b (fun e => h (by simp [e])) ?_ ?_ ?_ ?_ <;> cases x <;> simp_all [wkIn]
theorem fpt_no_m : ∀ (b : List Ltr) {k k' : Wk}, Ltr.m ∉ b → k.free = k'.free → k.pairs = k'.pairs + 1 → k.trip = k'.trip →
    (b.foldl wkIn k).free = (b.foldl wkIn k').free ∧ (b.foldl wkIn k).pairs = (b.foldl wkIn k').pairs + 1 ∧ (b.foldl wkIn k).trip = (b.foldl wkIn k').trip
  | [], _, _, _, h1, h2, h3 => ⟨h1, h2, h3⟩
  | x :: b, k, k', h, h1, h2, h3 => by
    rw [List.foldl_cons, List.foldl_cons]
    have hx : x ≠ .m := fun e => h (by simp [e])
    refine fpt_no_m b (fun e => h (by simp [e])) ?_ ?_ ?_ <;> cases x <;> simp_all [wkIn] <;> grind
theorem fpt_off : ∀ (b : List Ltr) {k k' : Wk}, k.free = k'.free → k.pairs = k'.pairs → k.trip = k'.trip + 1 → (b.foldl wkIn k).trip = (b.foldl wkIn k').trip + 1
  | [], _, _, _, _, h => h
  | x :: b, k, k', h1, h2, h3 => by
    rw [List.foldl_cons, List.foldl_cons]
    refine fpt_off b ?_ ?_ ?_ <;> cases x <;> simp_all [wkIn] <;> grind
theorem trip_no_m : ∀ (b : List Ltr) {k : Wk}, Ltr.m ∉ b → (b.foldl wkIn k).trip = k.trip
  | [], _, _ => rfl
  | x :: b, k, h => by
    rw [List.foldl_cons, trip_no_m b (fun e => h (by simp [e]))]
    have hx : x ≠ .m := fun e => h (by simp [e])
    cases x <;> simp_all [wkIn]
theorem trip_no_t : ∀ (b : List Ltr) {k : Wk}, Ltr.t ∉ b → k.pairs = 0 → (b.foldl wkIn k).pairs = 0 ∧ (b.foldl wkIn k).trip = k.trip
  | [], _, _, h => ⟨h, rfl⟩
  | x :: b, k, h, h1 => by
    rw [List.foldl_cons]
    have hx : x ≠ .t := fun e => h (by simp [e])
    have := trip_no_t b (k := wkIn k x) (fun e => h (by simp [e])) (by cases x <;> simp_all [wkIn])
    refine ⟨this.1, this.2.trans ?_⟩
    cases x <;> simp_all [wkIn]
theorem strike_some {u v : List Ltr} (h : strike u = some v) : (wk u).trip = (wk v).trip + 1 ∧ u.length = v.length + 3 := by
  unfold strike at h
  split at h
  · cases h
  · rename_i a r h1
    split at h
    · cases h
    · rename_i b r' h2
      split at h
      · cases h
      · rename_i c d h3
        cases h
        obtain ⟨rfl, n1⟩ := cutAt_some h1
        obtain ⟨rfl, n2⟩ := cutAt_some h2
        obtain ⟨rfl, n3⟩ := cutAt_some h3
        refine ⟨?_, by simp; omega⟩
        unfold wk
        simp only [List.foldl_append, List.foldl_cons]
        have e0 := fpt_no_s a (k := Wk.zero) n1 rfl rfl
        generalize a.foldl wkIn Wk.zero = k at e0
        unfold Wk.fpt at e0
        simp only [Wk.zero, Prod.mk.injEq] at e0
        obtain ⟨z1, z2, z3⟩ := e0
        obtain ⟨y1, y2, y3, y4⟩ := fpt_no_t b (k := wkIn k .s) (k' := k) n2 (by simp [wkIn]) (by simp [wkIn, z2]) z2 (by simp [wkIn])
        generalize b.foldl wkIn (wkIn k .s) = p at *
        generalize b.foldl wkIn k = p' at *
        obtain ⟨x1, x2, x3⟩ := fpt_no_m c (k := wkIn p .t) (k' := p') n3 (by simp [wkIn, y1]) (by simp [wkIn, y1, y2, y3]) (by simp [wkIn, y4])
        generalize c.foldl wkIn (wkIn p .t) = o at *
        generalize c.foldl wkIn p' = o' at *
        exact fpt_off d (by simp [wkIn, x1]) (by simp [wkIn, x2]) (by simp [wkIn, x2, x3])
theorem strike_none {u : List Ltr} (h : strike u = none) : (wk u).trip = 0 := by
  unfold strike at h
  split at h
  · rename_i h1
    have e0 := fpt_no_s u (k := Wk.zero) (cutAt_none h1) rfl rfl
    unfold Wk.fpt at e0
    simp only [Wk.zero, Prod.mk.injEq] at e0
    exact e0.2.2
  · rename_i a r h1
    obtain ⟨rfl, n1⟩ := cutAt_some h1
    have e0 := fpt_no_s a (k := Wk.zero) n1 rfl rfl
    unfold wk
    simp only [List.foldl_append, List.foldl_cons]
    generalize a.foldl wkIn Wk.zero = k at e0
    unfold Wk.fpt at e0
    simp only [Wk.zero, Prod.mk.injEq] at e0
    obtain ⟨z1, z2, z3⟩ := e0
    split at h
    · rename_i h2
      rw [(trip_no_t r (k := wkIn k .s) (cutAt_none h2) (by simp [wkIn, z2])).2]
      simp [wkIn, z3]
    · rename_i b r' h2
      obtain ⟨rfl, n2⟩ := cutAt_some h2
      simp only [List.foldl_append, List.foldl_cons]
      have e1 := trip_no_t b (k := wkIn k .s) n2 (by simp [wkIn, z2])
      split at h
      · rename_i h3
        rw [trip_no_m r' (cutAt_none h3)]
        show (b.foldl wkIn (wkIn k .s)).trip = 0
        rw [e1.2]
        exact z3
      · cases h
/-- how often -/
noncomputable def greedy : Nat → List Ltr → Nat
  | 0, _ => 0
  | n + 1, u => match strike u with
    | none => 0
    | some v => greedy n v + 1
theorem greedy_trip : ∀ (n : Nat) (u : List Ltr), u.length ≤ n → greedy (n + 1) u = (wk u).trip
  | n, u, h => by
    unfold greedy
    cases e : strike u with
    | none => exact (strike_none e).symm
    | some v =>
      obtain ⟨h1, h2⟩ := strike_some e
      dsimp only
      cases n with
      | zero => omega
      | succ n =>
        rw [greedy_trip n v (by omega), h1]
end Mine
end
section
namespace Mine
theorem wk_size_fold : ∀ (u : List Ltr) (k : Wk), (u.foldl wkIn k).size = k.size + u.length
  | [], _ => rfl
  | x :: u, k => by
    rw [List.foldl_cons, wk_size_fold u, List.length_cons]
    cases x <;> simp [wkIn] <;> omega
theorem wk_size (u : List Ltr) : (wk u).size = u.length := by
  have := wk_size_fold u Wk.zero
  simpa [wk, Wk.zero] using this
theorem gt_size (u : List Ltr) : (gt u).l1 + (gt u).l2 + (gt u).l3 = u.length := by
  rw [← (tied u).size, wk_size]
/-- one piece more: the longest row grows by one at most -/
theorem red_step (u p : List Ltr) (hp : p ∈ pcs) : (gt u).l1 ≤ (gt (u ++ p)).l1 ∧ (gt (u ++ p)).l1 ≤ (gt u).l1 + 1 := by
  rw [gt_app]
  have h := gt_ok u
  generalize gt u = g at h
  obtain ⟨l1, l2, l3, m1, m2, n1⟩ := g
  obtain ⟨h1, h2, h3, h4, h5, h6⟩ := h
  dsimp only at *
  simp only [pcs, List.mem_cons, List.not_mem_nil, or_false] at hp
  rcases hp with rfl | rfl | rfl | rfl | rfl | rfl | rfl <;> simp only [List.foldl_cons, List.foldl_nil, rowIn] <;> grind
structure Sorted3 (x y z a b c : Nat) : Prop where
  top : top3 x y z = a
  low : low3 x y z = c
  sum : x + y + z = a + b + c
theorem pcs_two : ∀ a ∈ pcs, a.length ≤ 2 := by decide
theorem local_rule (u a b : List Ltr) (ha : a ∈ pcs) (hb : b ∈ pcs) (hu : u.length ≤ 8) (h4 : (gt u).l1 ≤ 4) :
    (gt (a ++ u)).l1 ≤ (gt u).l1 + (gt (a ++ (u ++ b))).l1 ∧ (gt (a ++ u)).l2 ≤ (gt u).l2 + (gt (a ++ (u ++ b))).l2 ∧ (gt (a ++ u)).l3 ≤ (gt u).l3 + (gt (a ++ (u ++ b))).l3 ∧
    Sorted3 ((gt u).l1 + (gt (a ++ (u ++ b))).l1 - (gt (a ++ u)).l1) ((gt u).l2 + (gt (a ++ (u ++ b))).l2 - (gt (a ++ u)).l2) ((gt u).l3 + (gt (a ++ (u ++ b))).l3 - (gt (a ++ u)).l3)
      (gt (u ++ b)).l1 (gt (u ++ b)).l2 (gt (u ++ b)).l3 := by
  have hg := mem_gts (M := 4) (N := 8) (gt_ok u) h4 (by rw [gt_size]; exact hu)
  have h := List.all_eq_true.mp (List.all_eq_true.mp (loc_all a ha) _ hg) b hb
  have e1 : gt (a ++ u) = a.foldr (fun x g => colIn g x) (gt u) := gt_pre a u (Nat.add_le_add (pcs_two a ha) hu)
  have e2 : gt (a ++ (u ++ b)) = b.foldl rowIn (a.foldr (fun x g => colIn g x) (gt u)) := by rw [← List.append_assoc, gt_app, e1]
  rw [e2, e1, gt_app]
  unfold locOk at h
  simp only [Bool.and_eq_true, Nat.ble_eq, Nat.beq_eq] at h
  obtain ⟨⟨⟨⟨⟨p1, p2⟩, p3⟩, p4⟩, p5⟩, p6⟩ := h
  exact ⟨p1, p2, p3, p4, p5, p6⟩
end Mine
end
section
open PySem PySem.W PyProof.Rows PySem.Builtin.Str PySem.StrLaws
set_option maxRecDepth 100000
namespace Mine
/-! the texts' plain laws: find with two bounds -/
noncomputable def okAt (x y : Str) (hi i : Nat) : Bool := decide (i + y.length ≤ hi) && subAt x y i
theorem occ_stay (x y : Str) (hi : Nat) : ∀ (l : List Nat) (st : Array Nat × Nat), st.fst.size = 1 → (forIn l st (occBody x y hi 1)).run.fst = st.fst
  | [], st, _ => rfl
  | a :: l, st, h => by
    rw [List.forIn_cons]
    unfold occBody
    rw [if_neg (by intro q; have := q.1.1.1; omega)]
    exact occ_stay x y hi l _ h
theorem occ_go (x y : Str) (hi : Nat) : ∀ (l : List Nat) (free : Nat), (∀ i ∈ l, free ≤ i) →
    (forIn l ((#[] : Array Nat), free) (occBody x y hi 1)).run.fst = (match l.find? (okAt x y hi) with | some k => #[k] | none => #[])
  | [], free, _ => rfl
  | a :: l, free, hf => by
    rw [List.forIn_cons, List.find?_cons]
    have ha : free ≤ a := hf a (List.mem_cons_self ..)
    by_cases hc : okAt x y hi a = true
    · have hc' := hc
      unfold okAt at hc'
      rw [Bool.and_eq_true, decide_eq_true_eq] at hc'
      rw [hc]
      unfold occBody
      rw [if_pos ⟨⟨⟨by simp, ha⟩, hc'.1⟩, hc'.2⟩]
      exact occ_stay x y hi l _ (by simp)
    · have hb : okAt x y hi a = false := by simpa using hc
      rw [hb]
      unfold occBody
      rw [if_neg (fun q => hc (by unfold okAt; rw [Bool.and_eq_true, decide_eq_true_eq]; exact ⟨q.1.2, q.2⟩))]
      exact occ_go x y hi l free (fun i hi' => hf i (List.mem_cons_of_mem _ hi'))
theorem occ_first (x y : Str) (lo hi : Nat) : occurrences x y lo hi 1 = (match (List.range' lo (hi + 1 - lo)).find? (okAt x y hi) with | some k => [k] | none => []) := by
  rw [occ_eq, occ_go x y hi _ lo (fun i hi' => (List.mem_range'_1.mp hi').1)]
  cases (List.range' lo (hi + 1 - lo)).find? (okAt x y hi) <;> rfl
/-- the first place at or behind p where y lies, ending at or ahead of q -/
noncomputable def firstAt (x y : Str) (p q : Nat) : Option Nat := (List.range' p (q + 1 - p)).find? (okAt x y q)
theorem firstAt_some {x y : Str} {p q k : Nat} (h : firstAt x y p q = some k) : p ≤ k ∧ k + y.length ≤ q ∧ subAt x y k = true ∧ ∀ i, p ≤ i → i < k → ¬ (i + y.length ≤ q ∧ subAt x y i = true) := by
  unfold firstAt at h
  rw [List.find?_range'_eq_some] at h
  obtain ⟨h1, h2, h3⟩ := h
  unfold okAt at h1
  rw [Bool.and_eq_true, decide_eq_true_eq] at h1
  refine ⟨(List.mem_range'_1.mp h2).1, h1.1, h1.2, fun i a b c => ?_⟩
  have := h3 i a b
  unfold okAt at this
  simp [c.1, c.2] at this
theorem firstAt_none {x y : Str} {p q : Nat} (h : firstAt x y p q = none) : ∀ i, p ≤ i → ¬ (i + y.length ≤ q ∧ subAt x y i = true) := by
  intro i a b
  unfold firstAt at h
  rw [List.find?_eq_none] at h
  refine h i (List.mem_range'_1.mpr ⟨a, by omega⟩) ?_
  unfold okAt
  simp [b.1, b.2]
theorem firstAt_of {x y : Str} {p q k : Nat} (h1 : p ≤ k) (h2 : k + y.length ≤ q) (h3 : subAt x y k = true) (h4 : ∀ i, p ≤ i → i < k → ¬ (i + y.length ≤ q ∧ subAt x y i = true)) : firstAt x y p q = some k := by
  cases h : firstAt x y p q with
  | none => exact absurd ⟨h2, h3⟩ (firstAt_none h k h1)
  | some j =>
    obtain ⟨a, b, c, d⟩ := firstAt_some h
    rcases Nat.lt_trichotomy j k with e | e | e
    · exact absurd ⟨b, c⟩ (h4 j a e)
    · rw [e]
    · exact absurd ⟨h2, h3⟩ (d k h1 e)
theorem firstAt_no {x y : Str} {p q : Nat} (h : ∀ i, p ≤ i → ¬ (i + y.length ≤ q ∧ subAt x y i = true)) : firstAt x y p q = none := by
  cases e : firstAt x y p q with
  | none => rfl
  | some k =>
    obtain ⟨a, b, c, _⟩ := firstAt_some e
    exact absurd ⟨b, c⟩ (h k a)
noncomputable def orNeg : Option Nat → Int
  | some k => (k : Int)
  | none => -1
theorem find4_first (x y : Str) (p q : Nat) (hq : q ≤ x.length) : find4 x y p q = orNeg (firstAt x y p q) := by
  unfold find4 fromIndex
  have e1 : (max 0 (if (p : Int) < 0 then (p : Int) + x.length else (p : Int))).toNat = p := by rw [if_neg (by omega)]; omega
  have e2 : (max 0 (if (q : Int) < 0 then (q : Int) + x.length else (q : Int))).toNat = q := by rw [if_neg (by omega)]; omega
  rw [e1, e2, Nat.min_eq_left hq, occ_first]
  unfold firstAt
  cases (List.range' p (q + 1 - p)).find? (okAt x y q) <;> rfl
theorem find_first (x y : Str) : Txt.find x y = orNeg (firstAt x y 0 x.length) := by
  unfold Txt.find
  rw [occ_first]
  unfold firstAt
  cases (List.range' 0 (x.length + 1 - 0)).find? (okAt x y x.length) <;> rfl
theorem contains_first (x y : Str) : Txt.contains x y = (firstAt x y 0 x.length).isSome := by
  unfold Txt.contains
  rw [occ_first]
  unfold firstAt
  cases (List.range' 0 (x.length + 1 - 0)).find? (okAt x y x.length) <;> rfl
/-! texts of three letters -/
noncomputable def lc : Ltr → Nat
  | .s => 115
  | .t => 116
  | .m => 109
theorem lc_inj {a b : Ltr} (h : lc a = lc b) : a = b := by cases a <;> cases b <;> first | rfl | (exfalso; revert h; decide)
noncomputable def tx (u : List Ltr) : Str := ⟨(u.map lc).toArray⟩
theorem tx_len (u : List Ltr) : (tx u).length = u.length := by simp [tx, Str.length]
theorem tx_app (u v : List Ltr) : tx u ++ tx v = tx (u ++ v) := by
  show Str.mk _ = Str.mk _
  simp [tx]
theorem map_lc_inj : ∀ {u v : List Ltr}, u.map lc = v.map lc → u = v
  | [], [], _ => rfl
  | [], _ :: _, h => by simp at h
  | _ :: _, [], h => by simp at h
  | a :: u, b :: v, h => by
    simp only [List.map_cons, List.cons.injEq] at h
    rw [lc_inj h.1, map_lc_inj h.2]
theorem tx_inj {u v : List Ltr} (h : tx u = tx v) : u = v := by
  unfold tx at h
  simp only [Str.mk.injEq] at h
  exact map_lc_inj (by simpa using h)
theorem subAt_tx (u v : List Ltr) (i : Nat) : subAt (tx u) (tx v) i = true ↔ (u.drop i).take v.length = v := by
  rw [subAt_eq]
  unfold tx Str.length
  simp only [beq_iff_eq, List.size_toArray, List.length_map]
  rw [← List.map_drop, ← List.map_take]
  exact ⟨map_lc_inj, fun h => by rw [h]⟩
theorem sub_tx (u : List Ltr) (i j : Nat) : strSub (tx u) i j = tx ((u.drop i).take (j - i)) := by
  unfold strSub tx
  simp only [Str.mk.injEq]
  apply Array.toList_inj.mp
  simp [List.map_drop, List.map_take]
end Mine
end
section
open PySem PySem.W PyProof.Rows PySem.Spec PySem.Calls
set_option maxRecDepth 100000
namespace Mine
noncomputable def EllIs (want got : Str) (b : Bool) : Prop := ∀ (w : World) (mean : ExcName → Option Value) (mg mb : Str → Option Value) (tw tg : Tok) (news : List (Addr × Obj)), SClaim w mean mg mb 21 news [.str want tw, .str got tg] (fun _ => .bool b)
theorem EllIs.out {want got : Str} {b : Bool} (h : EllIs want got b) (w : World) (mean : ExcName → Option Value) (mg mb : Str → Option Value) (tw tg : Tok) (news : List (Addr × Obj)) : SClaim w mean mg mb 21 news [.str want tw, .str got tg] (fun _ => .bool b) := h w mean mg mb tw tg news
noncomputable def triSt (i : Nat) : Stmt := ((fBody (stOf 17)).drop i).headD (.Pass default)
noncomputable abbrev envT3 (L : Addr) : Env := envOf (Str.ofString "_law_triples") (fScope (stOf 17)) L 139 (Value.ref 138)
section
variable {b p q r : Bool}
theorem cl_a (hb : b = (p && q)) (h : p = true) (h2 : (b != q) = true) : False := by subst hb; subst h; cases q <;> cases h2
theorem cl_b (hb : b = (p && q)) (h : p = false) (h2 : (b != p) = true) : False := by subst hb; subst h; cases q <;> cases h2
theorem cl_c (hb : b = (p && (q && r))) (h : p = true) (h' : q = true) (h2 : (b != r) = true) : False := by subst hb; subst h; subst h'; cases r <;> cases h2
theorem cl_d (hb : b = (p && (q && r))) (h : p = true) (h' : q = false) (h2 : (b != q) = true) : False := by subst hb; subst h; subst h'; cases r <;> cases h2
theorem cl_e (hb : b = p) (h : (b != p) = true) : False := by subst hb; cases b <;> cases h
theorem cl_f (hb : b = ((!p) && q)) (h : p = false) (h2 : (b != q) = true) : False := cl_a hb (by rw [h]; rfl) h2
theorem cl_g (hb : b = ((!p) && q)) (h : p = true) (h2 : (b != !p) = true) : False := cl_b hb (by rw [h]; rfl) h2
end
set_option maxHeartbeats 1000000 in
theorem tri_1 (w : World) (mean : ExcName → Option Value) (mg mb : Str → Option Value) (news : List (Addr × Obj)) (u : Str) (tt : Tok) (b : Bool) (he : EllIs (Str.ofString "s...m") u b) (hb : b = ((Txt.slice u none (some 1) == Str.ofString "s") && (Txt.slice u (some (-1)) none == Str.ofString "m")))
  (dp un : Nat) (gd : Option (List Code)) (cn : Str) (cs : Scope) (a : Addr) (ccd : Value) (cl : List (Str × Addr)) (outer : List Env) (base : Heap) (gh h : Heap) (L₀ L : Addr) (m : Str → Option Value) (s : Shared) (tk : Nat) (Q : Flow → Shared → Prop) (E : Value → Shared → Prop)
  (B' : Below (ktrTop dp un gd cn cs L₀ a ccd cl outer) base (envX cn cs L₀ a ccd cl :: outer) gh) (X' : (KT w.params).In gh) (T' : Top qV looseV mean mg mb gh)
  (F' : Fr gh L h (fun y => if y = Str.ofString "text" then some (.str u tt) else m y))
  (N' : News gh L h news) (hul : u.length ≤ 100) 
  (hdp : dp + 6 < recursionLimit) (hun : un + 100 < cLine) 
  (hnext : ∀ h' tk', Fr gh L h' (fun y => if y = Str.ofString "text" then some (.str u tt) else m y) → News gh L h' news → Q .next { s with heap := h', toks := tk' }) :
  wpAny (model rwT.prog w) ((ktrTop dp un gd cn cs L₀ a ccd cl outer).deeper (envT3 L)) (exec (triSt 0) (envT3 L)) Q E { s with heap := h, toks := tk } := by
  k_with_none
  k_with "call ref" => (k_here; (with_reducible show wpAny _ _ (call (Value.ref 21) [Value.str _ _, Value.str _ _]) _ _ _); k_dflt (refine' EllIs.out ?kew9 _ _ _ _ _ _ _ _ _ _ _ _ _ _ _ _ _ _ _ _ _ _ _ _ ?k1w9 ?k2w9 ?k3w9 ?k4w9 ?k5w9 ?k6w9 ?kdw9 ?kuw9 ?_; (case k1w9 => k_asm); (case k2w9 => k_asm); (case k3w9 => k_asm); (case k4w9 => k_asm); (case k5w9 => k_asm); (case k6w9 => first | exact rfl | assumption); (case kdw9 => ktr_room); (case kuw9 => ktr_units); (case kew9 => assumption)); intro tw9 hw9 tkw9 Fw9 Nw9; (try dsimp only))
  dsimp only [envT3]; (conv in (triSt _) => whnf); revert X'; k_fill; intro X'
  k_steps
  all_goals first
    | exact hnext _ _ (by k_asm) (by k_asm)
    | (exfalso; first | exact cl_a hb (by assumption) (by assumption) | exact cl_b hb (by assumption) (by assumption) | exact cl_c hb (by assumption) (by assumption) (by assumption) | exact cl_d hb (by assumption) (by assumption) (by assumption) | exact cl_f hb (by assumption) (by assumption) | exact cl_g hb (by assumption) (by assumption) | exact cl_e hb (by assumption))
set_option maxHeartbeats 1000000 in
theorem tri_2 (w : World) (mean : ExcName → Option Value) (mg mb : Str → Option Value) (news : List (Addr × Obj)) (u : Str) (tt : Tok) (b : Bool) (he : EllIs (Str.ofString "ss...ss") u b) (hb : b = ((Txt.slice u none (some 2) == Str.ofString "ss") && ((Txt.slice u (some (-2)) none == Str.ofString "ss") && decide (3 < (u.length : Int)))))
  (dp un : Nat) (gd : Option (List Code)) (cn : Str) (cs : Scope) (a : Addr) (ccd : Value) (cl : List (Str × Addr)) (outer : List Env) (base : Heap) (gh h : Heap) (L₀ L : Addr) (m : Str → Option Value) (s : Shared) (tk : Nat) (Q : Flow → Shared → Prop) (E : Value → Shared → Prop)
  (B' : Below (ktrTop dp un gd cn cs L₀ a ccd cl outer) base (envX cn cs L₀ a ccd cl :: outer) gh) (X' : (KT w.params).In gh) (T' : Top qV looseV mean mg mb gh)
  (F' : Fr gh L h (fun y => if y = Str.ofString "text" then some (.str u tt) else m y))
  (N' : News gh L h news) (hul : u.length ≤ 100) 
  (hdp : dp + 6 < recursionLimit) (hun : un + 100 < cLine) 
  (hnext : ∀ h' tk', Fr gh L h' (fun y => if y = Str.ofString "text" then some (.str u tt) else m y) → News gh L h' news → Q .next { s with heap := h', toks := tk' }) :
  wpAny (model rwT.prog w) ((ktrTop dp un gd cn cs L₀ a ccd cl outer).deeper (envT3 L)) (exec (triSt 1) (envT3 L)) Q E { s with heap := h, toks := tk } := by
  k_with_none
  k_with "call ref" => (k_here; (with_reducible show wpAny _ _ (call (Value.ref 21) [Value.str _ _, Value.str _ _]) _ _ _); k_dflt (refine' EllIs.out ?kew9 _ _ _ _ _ _ _ _ _ _ _ _ _ _ _ _ _ _ _ _ _ _ _ _ ?k1w9 ?k2w9 ?k3w9 ?k4w9 ?k5w9 ?k6w9 ?kdw9 ?kuw9 ?_; (case k1w9 => k_asm); (case k2w9 => k_asm); (case k3w9 => k_asm); (case k4w9 => k_asm); (case k5w9 => k_asm); (case k6w9 => first | exact rfl | assumption); (case kdw9 => ktr_room); (case kuw9 => ktr_units); (case kew9 => assumption)); intro tw9 hw9 tkw9 Fw9 Nw9; (try dsimp only))
  dsimp only [envT3]; (conv in (triSt _) => whnf); revert X'; k_fill; intro X'
  k_steps
  all_goals first
    | exact hnext _ _ (by k_asm) (by k_asm)
    | (exfalso; first | exact cl_a hb (by assumption) (by assumption) | exact cl_b hb (by assumption) (by assumption) | exact cl_c hb (by assumption) (by assumption) (by assumption) | exact cl_d hb (by assumption) (by assumption) (by assumption) | exact cl_f hb (by assumption) (by assumption) | exact cl_g hb (by assumption) (by assumption) | exact cl_e hb (by assumption))
set_option maxHeartbeats 1000000 in
theorem tri_3 (w : World) (mean : ExcName → Option Value) (mg mb : Str → Option Value) (news : List (Addr × Obj)) (u : Str) (tt : Tok) (b : Bool) (he : EllIs (Str.ofString "...ss...ss...") u b) (hb : b = ((!(Builtin.Str.occurrences u (Str.ofString "ss") 0 u.length 1).isEmpty) && (!(Builtin.Str.occurrences (Txt.slice u (some (Txt.find u (Str.ofString "ss") + 2)) none) (Str.ofString "ss") 0 (Txt.slice u (some (Txt.find u (Str.ofString "ss") + 2)) none).length 1).isEmpty)))
  (dp un : Nat) (gd : Option (List Code)) (cn : Str) (cs : Scope) (a : Addr) (ccd : Value) (cl : List (Str × Addr)) (outer : List Env) (base : Heap) (gh h : Heap) (L₀ L : Addr) (m : Str → Option Value) (s : Shared) (tk : Nat) (Q : Flow → Shared → Prop) (E : Value → Shared → Prop)
  (B' : Below (ktrTop dp un gd cn cs L₀ a ccd cl outer) base (envX cn cs L₀ a ccd cl :: outer) gh) (X' : (KT w.params).In gh) (T' : Top qV looseV mean mg mb gh)
  (F' : Fr gh L h (fun y => if y = Str.ofString "text" then some (.str u tt) else m y))
  (N' : News gh L h news) (hul : u.length ≤ 100) 
  (hdp : dp + 6 < recursionLimit) (hun : un + 100 < cLine) 
  (hnext : ∀ h' tk', Fr gh L h' (fun y => if y = Str.ofString "text" then some (.str u tt) else m y) → News gh L h' news → Q .next { s with heap := h', toks := tk' }) :
  wpAny (model rwT.prog w) ((ktrTop dp un gd cn cs L₀ a ccd cl outer).deeper (envT3 L)) (exec (triSt 2) (envT3 L)) Q E { s with heap := h, toks := tk } := by
  k_with_none
  k_with "call ref" => (k_here; (with_reducible show wpAny _ _ (call (Value.ref 21) [Value.str _ _, Value.str _ _]) _ _ _); k_dflt (refine' EllIs.out ?kew9 _ _ _ _ _ _ _ _ _ _ _ _ _ _ _ _ _ _ _ _ _ _ _ _ ?k1w9 ?k2w9 ?k3w9 ?k4w9 ?k5w9 ?k6w9 ?kdw9 ?kuw9 ?_; (case k1w9 => k_asm); (case k2w9 => k_asm); (case k3w9 => k_asm); (case k4w9 => k_asm); (case k5w9 => k_asm); (case k6w9 => first | exact rfl | assumption); (case kdw9 => ktr_room); (case kuw9 => ktr_units); (case kew9 => assumption)); intro tw9 hw9 tkw9 Fw9 Nw9; (try dsimp only))
  dsimp only [envT3]; (conv in (triSt _) => whnf); revert X'; k_fill; intro X'
  k_steps
  all_goals first
    | exact hnext _ _ (by k_asm) (by k_asm)
    | (exfalso; first | exact cl_a hb (by assumption) (by assumption) | exact cl_b hb (by assumption) (by assumption) | exact cl_c hb (by assumption) (by assumption) (by assumption) | exact cl_d hb (by assumption) (by assumption) (by assumption) | exact cl_f hb (by assumption) (by assumption) | exact cl_g hb (by assumption) (by assumption) | exact cl_e hb (by assumption))
set_option maxHeartbeats 1000000 in
theorem tri_4 (w : World) (mean : ExcName → Option Value) (mg mb : Str → Option Value) (news : List (Addr × Obj)) (u : Str) (tt : Tok) (b : Bool) (he : EllIs (Str.ofString "st") u b) (hb : b = (u == Str.ofString "st"))
  (dp un : Nat) (gd : Option (List Code)) (cn : Str) (cs : Scope) (a : Addr) (ccd : Value) (cl : List (Str × Addr)) (outer : List Env) (base : Heap) (gh h : Heap) (L₀ L : Addr) (m : Str → Option Value) (s : Shared) (tk : Nat) (Q : Flow → Shared → Prop) (E : Value → Shared → Prop)
  (B' : Below (ktrTop dp un gd cn cs L₀ a ccd cl outer) base (envX cn cs L₀ a ccd cl :: outer) gh) (X' : (KT w.params).In gh) (T' : Top qV looseV mean mg mb gh)
  (F' : Fr gh L h (fun y => if y = Str.ofString "text" then some (.str u tt) else m y))
  (N' : News gh L h news) (hul : u.length ≤ 100) 
  (hdp : dp + 6 < recursionLimit) (hun : un + 100 < cLine) 
  (hnext : ∀ h' tk', Fr gh L h' (fun y => if y = Str.ofString "text" then some (.str u tt) else m y) → News gh L h' news → Q .next { s with heap := h', toks := tk' }) :
  wpAny (model rwT.prog w) ((ktrTop dp un gd cn cs L₀ a ccd cl outer).deeper (envT3 L)) (exec (triSt 3) (envT3 L)) Q E { s with heap := h, toks := tk } := by
  k_with_none
  k_with "call ref" => (k_here; (with_reducible show wpAny _ _ (call (Value.ref 21) [Value.str _ _, Value.str _ _]) _ _ _); k_dflt (refine' EllIs.out ?kew9 _ _ _ _ _ _ _ _ _ _ _ _ _ _ _ _ _ _ _ _ _ _ _ _ ?k1w9 ?k2w9 ?k3w9 ?k4w9 ?k5w9 ?k6w9 ?kdw9 ?kuw9 ?_; (case k1w9 => k_asm); (case k2w9 => k_asm); (case k3w9 => k_asm); (case k4w9 => k_asm); (case k5w9 => k_asm); (case k6w9 => first | exact rfl | assumption); (case kdw9 => ktr_room); (case kuw9 => ktr_units); (case kew9 => assumption)); intro tw9 hw9 tkw9 Fw9 Nw9; (try dsimp only))
  dsimp only [envT3]; (conv in (triSt _) => whnf); revert X'; k_fill; intro X'
  k_steps
  all_goals first
    | exact hnext _ _ (by k_asm) (by k_asm)
    | (exfalso; first | exact cl_a hb (by assumption) (by assumption) | exact cl_b hb (by assumption) (by assumption) | exact cl_c hb (by assumption) (by assumption) (by assumption) | exact cl_d hb (by assumption) (by assumption) (by assumption) | exact cl_f hb (by assumption) (by assumption) | exact cl_g hb (by assumption) (by assumption) | exact cl_e hb (by assumption))
end Mine
end
section
open PySem PySem.W PyProof.Rows PySem.Spec PySem.Calls PySem.Builtin.Str
set_option maxRecDepth 100000
namespace Mine
noncomputable def find3 (x y : Str) (i : Int) : Int := match occurrences x y (fromIndex x.length i) x.length 1 with | k :: _ => (k : Int) | [] => -1
section
variable {prog : Program} {w : World} {A : Around} {E : Value → Shared → Prop} {s : Shared} {x y : Str} {t u v : Tok} {i k : Int} {Q : Value → Shared → Prop}
theorem find_k2 (e : Txt.find x y = k) (hq : ∀ tk, Q (.int k s.toks) { s with toks := tk }) : wpAny (model prog w) A (call (.builtin "str.find") [.str x t, .str y u]) Q E s := by
  refine call_gives F.slot_str_find (typeIs_str _ _ _) F.entry_str_find (F.args_str_find_2 _ _) (gives_str_find x y t u) ?_
  have := hq (s.toks + 1)
  rw [← e] at this
  exact this
theorem find_k3 (e : find3 x y i = k) (hq : ∀ tk, Q (.int k s.toks) { s with toks := tk }) : wpAny (model prog w) A (call (.builtin "str.find") [.str x t, .str y u, .int i v]) Q E s := by
  refine call_gives F.slot_str_find (typeIs_str _ _ _) F.entry_str_find (F.args_str_find_3 _ _ _) (gives_str_find_from x y i t u v) ?_
  have := hq (s.toks + 1)
  rw [← e] at this
  exact this
end
noncomputable def whTest : Stmt → PySem.Expr | .While t _ _ _ => t | _ => .Constant .none 0 default
noncomputable def whBody : Stmt → List Stmt | .While _ b _ _ => b | _ => []
set_option maxHeartbeats 1000000 in
theorem tri_turn (w : World) (mean : ExcName → Option Value) (mg mb : Str → Option Value) (news : List (Addr × Obj)) (u u' : Str) (c i1 i2 i3 : Int) (tt tc : Tok) 
  (h1 : Txt.find u (Str.ofString "s") = i1) (h2 : find3 u (Str.ofString "t") i1 = i2) (h3 : find3 u (Str.ofString "m") i2 = i3) (h01 : -1 < i1) (h12 : i1 < i2) (h23 : i2 < i3) (hi : i3 ≤ 100) (hc : 0 ≤ c ∧ c ≤ 100)
  (h4 : Txt.slice u none (some i1) ++ Txt.slice u (some (i1 + 1)) (some i2) ++ Txt.slice u (some (i2 + 1)) (some i3) ++ Txt.slice u (some (i3 + 1)) none = u')
  (dp un : Nat) (gd : Option (List Code)) (cn : Str) (cs : Scope) (a : Addr) (ccd : Value) (cl : List (Str × Addr)) (outer : List Env) (base : Heap) (gh h : Heap) (L₀ L : Addr) (m : Str → Option Value) (s : Shared) (tk : Nat) (Q : Flow → Shared → Prop) (E : Value → Shared → Prop)
  (B' : Below (ktrTop dp un gd cn cs L₀ a ccd cl outer) base (envX cn cs L₀ a ccd cl :: outer) gh) (X' : (KT w.params).In gh) (T' : Top qV looseV mean mg mb gh)
  (F' : Fr gh L h (fun y => if y = Str.ofString "text" then some (.str u tt) else if y = Str.ofString "count" then some (.int c tc) else m y))
  (N' : News gh L h news) (hul : u.length ≤ 100) 
  (hdp : dp + 6 < recursionLimit) (hun : un + 100 < cLine) 
  (hnext : ∀ h' tk' m' t1 t2, Fr gh L h' m' → News gh L h' news → m' (Str.ofString "text") = some (.str u' t1) → m' (Str.ofString "count") = some (.int (c + 1) t2) → Q .next { s with heap := h', toks := tk' }) :
  wpAny (model rwT.prog w) ((ktrTop dp un gd cn cs L₀ a ccd cl outer).deeper (envT3 L)) (execs (whBody (triSt 5)) (envT3 L)) Q E { s with heap := h, toks := tk } := by
  k_with_none
  k_with "call ref" => (k_here; (with_reducible show wpAny _ _ (call (Value.ref 21) [Value.str _ _, Value.str _ _]) _ _ _); k_dflt (refine' EllIs.out ?kew9 _ _ _ _ _ _ _ _ _ _ _ _ _ _ _ _ _ _ _ _ _ _ _ _ ?k1w9 ?k2w9 ?k3w9 ?k4w9 ?k5w9 ?k6w9 ?kdw9 ?kuw9 ?_; (case k1w9 => k_asm); (case k2w9 => k_asm); (case k3w9 => k_asm); (case k4w9 => k_asm); (case k5w9 => k_asm); (case k6w9 => first | exact rfl | assumption); (case kdw9 => ktr_room); (case kuw9 => ktr_units); (case kew9 => assumption)); intro tw9 hw9 tkw9 Fw9 Nw9; (try dsimp only))
  k_with "call builtin:str.find" => (first | ((with_reducible show wpAny _ _ (call _ [Value.str _ _, Value.str _ _]) _ _ _); k_dflt (refine find_k2 (by assumption) ?_); intro _) | ((with_reducible show wpAny _ _ (call _ [Value.str _ _, Value.str _ _, Value.int _ _]) _ _ _); k_dflt (refine find_k3 (by assumption) ?_); intro _))
  k_with "testChain" => ((with_reducible show wpAny _ _ (testChain _ _ (_ :: _ :: _) _) _ _ _); k_dflt (refine test_link ?_))
  subst h4; dsimp only [envT3]; (conv in (whBody _) => whnf); revert X'; k_fill; intro X'
  k_steps
  all_goals exact hnext _ _ _ _ _ (by k_asm) (by k_asm) rfl rfl
set_option maxHeartbeats 1000000 in
theorem tri_test (w : World) (mean : ExcName → Option Value) (mg mb : Str → Option Value) (news : List (Addr × Obj)) (u : Str) (b : Bool) (c : Int) (tt tc : Tok) (he : EllIs (Str.ofString "...s...t...m...") u b)
  (dp un : Nat) (gd : Option (List Code)) (cn : Str) (cs : Scope) (a : Addr) (ccd : Value) (cl : List (Str × Addr)) (outer : List Env) (base : Heap) (gh h : Heap) (L₀ L : Addr) (m : Str → Option Value) (s : Shared) (tk : Nat) (Q : Bool → Shared → Prop) (E : Value → Shared → Prop)
  (B' : Below (ktrTop dp un gd cn cs L₀ a ccd cl outer) base (envX cn cs L₀ a ccd cl :: outer) gh) (X' : (KT w.params).In gh) (T' : Top qV looseV mean mg mb gh)
  (F' : Fr gh L h (fun y => if y = Str.ofString "text" then some (.str u tt) else if y = Str.ofString "count" then some (.int c tc) else m y))
  (N' : News gh L h news) (hul : u.length ≤ 100) 
  (hdp : dp + 6 < recursionLimit) (hun : un + 100 < cLine) 
  (hnext : ∀ h' tk', Fr gh L h' (fun y => if y = Str.ofString "text" then some (.str u tt) else if y = Str.ofString "count" then some (.int c tc) else m y) → News gh L h' news → Q b { s with heap := h', toks := tk' }) :
  wpAny (model rwT.prog w) ((ktrTop dp un gd cn cs L₀ a ccd cl outer).deeper (envT3 L)) (isTrue (whTest (triSt 5)) (envT3 L) (eval (whTest (triSt 5)) (envT3 L))) Q E { s with heap := h, toks := tk } := by
  k_with_none
  k_with "call ref" => (k_here; (with_reducible show wpAny _ _ (call (Value.ref 21) [Value.str _ _, Value.str _ _]) _ _ _); k_dflt (refine' EllIs.out ?kew9 _ _ _ _ _ _ _ _ _ _ _ _ _ _ _ _ _ _ _ _ _ _ _ _ ?k1w9 ?k2w9 ?k3w9 ?k4w9 ?k5w9 ?k6w9 ?kdw9 ?kuw9 ?_; (case k1w9 => k_asm); (case k2w9 => k_asm); (case k3w9 => k_asm); (case k4w9 => k_asm); (case k5w9 => k_asm); (case k6w9 => first | exact rfl | assumption); (case kdw9 => ktr_room); (case kuw9 => ktr_units); (case kew9 => assumption)); intro tw9 hw9 tkw9 Fw9 Nw9; (try dsimp only))
  k_with "call builtin:str.find" => (first | ((with_reducible show wpAny _ _ (call _ [Value.str _ _, Value.str _ _]) _ _ _); k_dflt (refine find_k2 (by assumption) ?_); intro _) | ((with_reducible show wpAny _ _ (call _ [Value.str _ _, Value.str _ _, Value.int _ _]) _ _ _); k_dflt (refine find_k3 (by assumption) ?_); intro _))
  k_with "testChain" => ((with_reducible show wpAny _ _ (testChain _ _ (_ :: _ :: _) _) _ _ _); k_dflt (refine test_link ?_))
  dsimp only [envT3]; (conv in (isTrue _ _ _) => (conv => arg 1; whnf); (conv => arg 3; arg 1; whnf)); revert X'; k_fill; intro X'
  k_steps
  all_goals (rw [show (b == true) = b by cases b <;> rfl]; exact hnext _ _ (by k_asm) (by k_asm))
end Mine
end
section
open PySem PySem.W PyProof.Rows PySem.Builtin.Str PySem.StrLaws
set_option maxRecDepth 100000
namespace Mine
noncomputable def clipN (n : Nat) (d : Nat) : Option Int → Nat
  | none => d
  | some i => (max 0 (min (if i < 0 then i + n else i) (n : Int))).toNat
theorem clipN_le (n d : Nat) (hd : d ≤ n) (o : Option Int) : clipN n d o ≤ n := by
  cases o with
  | none => exact hd
  | some i => unfold clipN; dsimp only; split <;> omega
theorem indices_is (l u : Option Int) (n : Nat) : strSliceIndices l u 1 n = (List.range (clipN n n u - clipN n 0 l)).map fun k => clipN n 0 l + k := by
  have key : ∀ (a b : Nat), sliceRange (a : Int) (b : Int) 1 = (List.range (b - a)).map fun k => a + k := by
    intro a b
    unfold sliceRange
    rw [if_pos (by decide)]
    have e : (if (a : Int) < b then ((b : Int) - a + 1 - 1) / 1 else 0).toNat = b - a := by
      split
      · rw [Int.ediv_one]; omega
      · omega
    dsimp only
    rw [e]
    refine List.map_congr_left fun k _ => ?_
    omega
  have cl : ∀ (o : Option Int) (d : Nat), (match o with | none => (d : Int) | some i => if (1 : Int) > 0 then max 0 (min (if i < 0 then i + n else i) (n : Int)) else max (-1) (min (if i < 0 then i + n else i) ((n : Int) - 1))) = (clipN n d o : Int) := by
    intro o d
    cases o with
    | none => rfl
    | some i =>
      unfold clipN
      dsimp only
      rw [if_pos (by decide)]
      omega
  rw [← key]
  unfold strSliceIndices
  rw [← cl u n, ← cl l 0]
  rfl
theorem slice_is (x : Str) (l u : Option Int) : Txt.slice x l u = strSub x (clipN x.length 0 l) (clipN x.length x.length u) := by
  have hu := clipN_le x.length x.length (Nat.le_refl _) u
  have hl := clipN_le x.length 0 (Nat.zero_le _) l
  unfold Txt.slice
  rw [indices_is]
  generalize hA : clipN x.length 0 l = a at *
  generalize hB : clipN x.length x.length u = b at *
  unfold Str.length at *
  split
  · rename_i h
    simp only [beq_self_eq_true, List.length_map, List.length_range, Bool.true_and, beq_iff_eq] at h
    unfold strSub
    have e1 : (a = 0 ∧ b = x.cps.size) ∨ x.cps.size = 0 := by omega
    rcases e1 with ⟨rfl, rfl⟩ | e1
    · simp
    · have : x.cps = #[] := Array.eq_empty_of_size_eq_zero e1
      cases x; simp_all
  · have : ((List.range (b - a)).map fun k => a + k).filterMap (fun i => x.cps[i]?) = (x.cps.toList.drop a).take (b - a) := by
      by_cases hab : a ≤ b
      · have := picks x.cps.toList (b - a) a (by simp; omega)
        rw [← this]
        congr 1
        funext i
        simp
      · have e0 : b - a = 0 := by omega
        rw [e0]; simp
    unfold strSub
    rw [this]
    congr 1
    apply Array.toList_inj.mp
    simp
theorem slice_tx (v : List Ltr) (l u : Option Int) : Txt.slice (tx v) l u = tx ((v.drop (clipN v.length 0 l)).take (clipN v.length v.length u - clipN v.length 0 l)) := by
  rw [slice_is, tx_len, sub_tx]
theorem tx_beq (u v : List Ltr) : (tx u == tx v) = decide (u = v) := by
  rw [Bool.eq_iff_iff, beq_iff_eq, decide_eq_true_eq]
  exact ⟨tx_inj, fun h => by rw [h]⟩
/-! the empty text, found everywhere -/
theorem tx_nil : Str.ofString "" = tx [] := by decide
theorem tx_s : Str.ofString "s" = tx [.s] := by decide
theorem tx_t : Str.ofString "t" = tx [.t] := by decide
theorem tx_m : Str.ofString "m" = tx [.m] := by decide
theorem tx_ss : Str.ofString "ss" = tx [.s, .s] := by decide
theorem tx_st : Str.ofString "st" = tx [.s, .t] := by decide
theorem first_nil (x : Str) {p q : Nat} (h : p ≤ q) : firstAt x (tx []) p q = some p := by
  refine firstAt_of (Nat.le_refl _) h ?_ (fun i a b => absurd a (by omega))
  rw [subAt_eq]
  rfl
theorem findAll_nil_last (x : Str) : ∀ (ws : List Str) (p q : Nat), p ≤ q → q ≤ x.length → (findAll x (ws ++ [tx []]) p q).isSome = (findAll x ws p q).isSome
  | [], p, q, h, hq => by
    rw [List.nil_append]
    unfold findAll
    rw [find4_first x _ p q hq, first_nil x h]
    rw [if_neg (by show ¬ ((p : Int) < 0); omega)]
    unfold findAll; rfl
  | v :: ws, p, q, h, hq => by
    rw [List.cons_append]
    unfold findAll
    rw [find4_first x v p q hq]
    cases e : firstAt x v p q with
    | none => rfl
    | some k =>
      obtain ⟨a, b, c, d⟩ := firstAt_some e
      show (if (k : Int) < 0 then none else findAll x (ws ++ [tx []]) ((k : Int) + v.length) q).isSome = (if (k : Int) < 0 then none else findAll x ws ((k : Int) + v.length) q).isSome
      rw [if_neg (by omega), if_neg (by omega), show (k : Int) + (v.length : Int) = ((k + v.length : Nat) : Int) by omega]
      exact findAll_nil_last x ws _ q b hq
theorem findAll_nil_first (x : Str) (ws : List Str) (q : Nat) (hq : q ≤ x.length) : findAll x (tx [] :: ws) 0 q = findAll x ws 0 q := by
  conv => lhs; unfold findAll
  have e : find4 x (tx []) 0 q = 0 := by
    have := find4_first x (tx []) 0 q hq
    rw [first_nil x (Nat.zero_le _)] at this
    exact this
  rw [e, if_neg (by decide)]
  rfl
theorem ellB_is (x : Str) (ws : List Str) : ellB (Str.ofString "" :: (ws ++ [Str.ofString ""])) x = (findAll x ws 0 x.length).isSome := by
  unfold ellB
  rw [tx_nil, findAll_nil_first x _ _ (Nat.le_refl _)]
  exact findAll_nil_last x ws 0 x.length (Nat.zero_le _) (Nat.le_refl _)
/-! a letter's first place -/
theorem first_letter (U : List Ltr) (a : Ltr) (p q : Nat) (hq : q ≤ U.length) : firstAt (tx U) (tx [a]) p q = (cutAt a ((U.take q).drop p)).map fun z => p + z.1.length := by
  have at_iff : ∀ i, (i + (tx [a]).length ≤ q ∧ subAt (tx U) (tx [a]) i = true) ↔ (U.take q)[i]? = some a := by
    intro i
    rw [subAt_tx, tx_len]
    constructor
    · rintro ⟨h1, h2⟩
      have : i < U.length := by simp at h1; omega
      rw [List.drop_eq_getElem_cons this] at h2
      simp only [List.length_cons, List.length_nil, List.take_succ_cons, List.take_zero, List.cons.injEq, and_true] at h2 h1
      rw [List.getElem?_take, if_pos (by omega), List.getElem?_eq_getElem this, h2]
    · intro h
      rw [List.getElem?_take] at h
      split at h
      · rename_i hi
        obtain ⟨h1, h2⟩ := List.getElem?_eq_some_iff.mp h
        refine ⟨by simp; omega, ?_⟩
        rw [List.drop_eq_getElem_cons h1]
        simp [h2]
      · cases h
  cases e : cutAt a ((U.take q).drop p) with
  | none =>
    have hn := cutAt_none e
    refine firstAt_no fun i hi hh => hn ?_
    have := (at_iff i).mp hh
    rw [show i = p + (i - p) by omega, ← List.getElem?_drop] at this
    exact List.mem_of_getElem? this
  | some z =>
    obtain ⟨x, y⟩ := z
    obtain ⟨h1, h2⟩ := cutAt_some e
    have hat : ∀ i, p ≤ i → (U.take q)[i]? = (x ++ a :: y)[i - p]? := by
      intro i hi
      rw [← h1, List.getElem?_drop]
      congr 1; omega
    have hk := (at_iff (p + x.length)).mpr (by rw [hat _ (by omega)]; simp)
    show firstAt _ _ _ _ = some (p + x.length)
    refine firstAt_of (by omega) hk.1 hk.2 fun i hi hlt hh => h2 ?_
    have := (at_iff i).mp hh
    rw [hat i hi, List.getElem?_append_left (by omega)] at this
    exact List.mem_of_getElem? this
/-- letters one after the other -/
theorem sub_cut {a : Ltr} {l w : List Ltr} : (a :: l).Sublist w ↔ ∃ x y, cutAt a w = some (x, y) ∧ l.Sublist y := by
  induction w with
  | nil => simp [cutAt]
  | cons b w ih =>
    unfold cutAt
    by_cases e : b = a
    · subst e
      rw [if_pos rfl]
      simp only [List.cons_sublist_cons, Option.some.injEq, Prod.mk.injEq]
      exact ⟨fun h => ⟨[], w, ⟨rfl, rfl⟩, h⟩, fun ⟨_, _, ⟨_, e⟩, h⟩ => e ▸ h⟩
    · rw [if_neg e]
      constructor
      · intro h
        cases h with
        | cons _ h =>
          obtain ⟨x, y, h1, h2⟩ := ih.mp h
          exact ⟨b :: x, y, by rw [h1]; rfl, h2⟩
        | cons_cons _ h => exact absurd rfl e
      · rintro ⟨x, y, h1, h2⟩
        obtain ⟨⟨x', y'⟩, h3, h4⟩ := Option.map_eq_some_iff.mp h1
        cases h4
        exact List.Sublist.cons _ (ih.mpr ⟨x', _, h3, h2⟩)
theorem findAll_row (U : List Ltr) (q : Nat) (hq : q ≤ U.length) : ∀ (l : List Ltr) (p : Nat), p ≤ q → ((findAll (tx U) (l.map fun a => tx [a]) p q).isSome = true ↔ l.Sublist ((U.take q).drop p))
  | [], p, _ => by simp [findAll]
  | a :: l, p, hp => by
    rw [List.map_cons]
    unfold findAll
    rw [find4_first _ _ p q (by rw [tx_len]; exact hq), first_letter U a p q hq, sub_cut]
    cases e : cutAt a ((U.take q).drop p) with
    | none => simp [orNeg]
    | some z =>
      obtain ⟨x, y⟩ := z
      obtain ⟨h1, _⟩ := cutAt_some e
      have hlen := congrArg List.length h1
      simp at hlen
      show (if ((p + x.length : Nat) : Int) < 0 then none else findAll (tx U) (l.map fun a => tx [a]) (((p + x.length : Nat) : Int) + (tx [a]).length) q).isSome = true ↔ _
      rw [if_neg (by omega), tx_len, show ((p + x.length : Nat) : Int) + (([a] : List Ltr).length : Nat) = ((p + x.length + 1 : Nat) : Int) by simp, findAll_row U q hq l _ (by omega)]
      have e2 : (U.take q).drop (p + x.length + 1) = y := by
        rw [show p + x.length + 1 = p + (x.length + 1) by omega, ← List.drop_drop, h1]
        simp
      rw [e2]
      constructor
      · intro h; exact ⟨x, y, rfl, h⟩
      · rintro ⟨x', y', h3, h4⟩
        cases h3; exact h4
end Mine
end
section
open PySem PySem.W PyProof.Rows PySem.Builtin.Str PySem.StrLaws
set_option maxRecDepth 100000
namespace Mine
theorem st_tx (u v : List Ltr) : Txt.startswith (tx u) (tx v) = decide (u.take v.length = v) := by
  unfold Txt.startswith
  rw [Bool.eq_iff_iff, Bool.and_eq_true, decide_eq_true_eq, decide_eq_true_eq, subAt_tx, tx_len, tx_len, List.drop_zero]
  constructor
  · exact fun h => h.2
  · intro h
    refine ⟨?_, h⟩
    have := congrArg List.length h
    simp at this; omega
theorem en_tx (u v : List Ltr) : Txt.endswith (tx u) (tx v) = decide (u.drop (u.length - v.length) = v) := by
  unfold Txt.endswith
  rw [Bool.eq_iff_iff, Bool.and_eq_true, decide_eq_true_eq, decide_eq_true_eq, subAt_tx, tx_len, tx_len]
  constructor
  · rintro ⟨h1, h2⟩
    rw [List.take_of_length_le (by simp; omega)] at h2
    exact h2
  · intro h
    have := congrArg List.length h
    simp at this
    refine ⟨by omega, ?_⟩
    rw [List.take_of_length_le (by simp; omega)]
    exact h
theorem clip_some (n d k : Nat) : clipN n d (some (k : Int)) = min k n := by
  unfold clipN; dsimp only; rw [if_neg (Int.not_lt.mpr (Int.natCast_nonneg k))]; omega
theorem sl_to (u : List Ltr) (k : Nat) : Txt.slice (tx u) none (some (k : Int)) = tx (u.take k) := by
  rw [slice_tx]
  have e1 : clipN u.length 0 none = 0 := rfl
  have e2 : clipN u.length u.length (some (k : Int)) = min k u.length := clip_some _ _ _
  rw [e1, e2, List.drop_zero, Nat.sub_zero]
  congr 1
  rw [List.take_eq_take_iff]; omega
theorem sl_back (u : List Ltr) (k : Nat) (hk : 0 < k) : Txt.slice (tx u) (some (-(k : Int))) none = tx (u.drop (u.length - k)) := by
  rw [slice_tx]
  have e1 : clipN u.length 0 (some (-(k : Int))) = u.length - k := by unfold clipN; dsimp only; rw [if_pos (by omega)]; omega
  have e2 : clipN u.length u.length none = u.length := rfl
  rw [e1, e2, List.take_of_length_le (by simp)]
theorem sl_from (u : List Ltr) (k : Nat) : Txt.slice (tx u) (some (k : Int)) none = tx (u.drop k) := by
  rw [slice_tx]
  have e1 : clipN u.length 0 (some (k : Int)) = min k u.length := clip_some _ _ _
  have e2 : clipN u.length u.length none = u.length := rfl
  rw [e1, e2, List.take_of_length_le (by simp)]
  rcases Nat.le_total k u.length with h | h
  · rw [Nat.min_eq_left h]
  · rw [Nat.min_eq_right h, List.drop_of_length_le (Nat.le_refl _), List.drop_of_length_le h]
theorem sl_mid (u : List Ltr) (j k : Nat) (h : j ≤ k) (hk : k ≤ u.length) : Txt.slice (tx u) (some (j : Int)) (some (k : Int)) = tx ((u.drop j).take (k - j)) := by
  rw [slice_tx]
  have e1 : clipN u.length 0 (some (j : Int)) = j := (clip_some _ _ _).trans (Nat.min_eq_left (Nat.le_trans h hk))
  have e2 : clipN u.length u.length (some (k : Int)) = k := (clip_some _ _ _).trans (Nat.min_eq_left hk)
  rw [e1, e2]
theorem ellA_two (u a b : List Ltr) : ellA (tx a) [] (tx b) (tx u) = (decide (u.take a.length = a) && (decide (u.drop (u.length - b.length) = b) && decide (a.length + b.length ≤ u.length))) := by
  unfold ellA findAll
  rw [st_tx, en_tx, tx_len, tx_len, tx_len, Bool.and_assoc, Bool.and_assoc]
  congr 1
  by_cases h : u.drop (u.length - b.length) = b
  · have := congrArg List.length h
    simp at this
    rw [decide_eq_true h, Bool.true_and, Bool.true_and]
    simp
    rw [Bool.eq_iff_iff, Bool.not_eq_true', decide_eq_false_iff_not, decide_eq_true_eq]
    omega
  · rw [decide_eq_false h]; rfl
theorem pl1 (u : List Ltr) : ellA (tx [.s]) [] (tx [.m]) (tx u) = ((Txt.slice (tx u) none (some 1) == Str.ofString "s") && (Txt.slice (tx u) (some (-1)) none == Str.ofString "m")) := by
  rw [ellA_two, show (1 : Int) = ((1 : Nat) : Int) by rfl, sl_to, sl_back _ 1 (by decide), tx_s, tx_m, tx_beq, tx_beq, Bool.eq_iff_iff]
  simp only [Bool.and_eq_true, decide_eq_true_eq, List.length_cons, List.length_nil]
  constructor
  · rintro ⟨h1, h2, _⟩; exact ⟨h1, h2⟩
  · rintro ⟨h1, h2⟩
    refine ⟨h1, h2, ?_⟩
    match u, h1, h2 with
    | [], h1, _ => simp at h1
    | [x], h1, h2 => simp at h1 h2; rw [h1] at h2; cases h2
    | _ :: _ :: _, _, _ => simp
theorem pl2 (u : List Ltr) : ellA (tx [.s, .s]) [] (tx [.s, .s]) (tx u) = ((Txt.slice (tx u) none (some 2) == Str.ofString "ss") && ((Txt.slice (tx u) (some (-2)) none == Str.ofString "ss") && decide (3 < ((tx u).length : Int)))) := by
  rw [ellA_two, show (2 : Int) = ((2 : Nat) : Int) by rfl, sl_to, sl_back _ 2 (by decide), tx_ss, tx_beq, tx_beq, tx_len]
  simp only [List.length_cons, List.length_nil]
  have : decide (0 + 1 + 1 + (0 + 1 + 1) ≤ u.length) = decide (3 < (u.length : Int)) := by rw [Bool.eq_iff_iff, decide_eq_true_eq, decide_eq_true_eq]; omega
  rw [this]
theorem firstAt_isSome (x y : Str) (p q : Nat) : (firstAt x y p q).isSome = true ↔ ∃ i, p ≤ i ∧ i + y.length ≤ q ∧ subAt x y i = true := by
  cases e : firstAt x y p q with
  | none => simp; intro i h1 h2; have := firstAt_none e i h1; simp [h2] at this; simpa using this
  | some k =>
    obtain ⟨a, b, c, _⟩ := firstAt_some e
    simp; exact ⟨k, a, b, c⟩
theorem pl3 (u : List Ltr) : ellB (Str.ofString "" :: ([tx [.s, .s], tx [.s, .s]] ++ [Str.ofString ""])) (tx u) =
    ((!(occurrences (tx u) (Str.ofString "ss") 0 (tx u).length 1).isEmpty) && (!(occurrences (Txt.slice (tx u) (some (Txt.find (tx u) (Str.ofString "ss") + 2)) none) (Str.ofString "ss") 0 (Txt.slice (tx u) (some (Txt.find (tx u) (Str.ofString "ss") + 2)) none).length 1).isEmpty)) := by
  have c1 := contains_first (tx u) (Str.ofString "ss")
  have c2 := contains_first (Txt.slice (tx u) (some (Txt.find (tx u) (Str.ofString "ss") + 2)) none) (Str.ofString "ss")
  unfold Txt.contains at c1 c2
  rw [ellB_is, c1, c2, find_first, tx_ss]
  unfold findAll
  have f := find4_first (tx u) (tx [.s, .s]) 0 (tx u).length (Nat.le_refl _)
  rw [show ((0 : Nat) : Int) = 0 by rfl] at f
  rw [f]
  cases e : firstAt (tx u) (tx [.s, .s]) 0 (tx u).length with
  | none => rfl
  | some k =>
    obtain ⟨_, hk, _, _⟩ := firstAt_some e
    show (if (k : Int) < 0 then none else findAll (tx u) [tx [.s, .s]] ((k : Int) + (tx [.s, .s]).length) (tx u).length).isSome = (true && _)
    rw [if_neg (by omega), Bool.true_and]
    show _ = (firstAt (Txt.slice (tx u) (some ((k : Int) + 2)) none) _ 0 (Txt.slice (tx u) (some ((k : Int) + 2)) none).length).isSome
    rw [show (k : Int) + 2 = ((k + 2 : Nat) : Int) by omega, sl_from, show (k : Int) + ((tx [Ltr.s, .s]).length : Nat) = ((k + 2 : Nat) : Int) by rw [tx_len]; simp]
    unfold findAll
    rw [find4_first _ _ _ _ (Nat.le_refl _)]
    have key : (firstAt (tx u) (tx [.s, .s]) (k + 2) (tx u).length).isSome = (firstAt (tx (u.drop (k + 2))) (tx [.s, .s]) 0 (tx (u.drop (k + 2))).length).isSome := by
      rw [Bool.eq_iff_iff, firstAt_isSome, firstAt_isSome]
      simp only [tx_len, subAt_tx, List.length_drop, List.length_cons, List.length_nil, List.drop_drop] at hk ⊢
      constructor
      · rintro ⟨i, h1, h2, h3⟩
        exact ⟨i - (k + 2), by omega, by omega, by rw [show k + 2 + (i - (k + 2)) = i by omega]; exact h3⟩
      · rintro ⟨i, h1, h2, h3⟩
        exact ⟨k + 2 + i, by omega, by omega, h3⟩
    rw [← key]
    cases e2 : firstAt (tx u) (tx [.s, .s]) (k + 2) (tx u).length with
    | none => rfl
    | some j =>
      show (if (j : Int) < 0 then none else findAll (tx u) [] ((j : Int) + _) _).isSome = true
      rw [if_neg (by omega)]
      rfl
theorem strike_sub (u : List Ltr) : (strike u).isSome = true ↔ [Ltr.s, .t, .m].Sublist u := by
  rw [sub_cut]
  unfold strike
  cases e1 : cutAt .s u with
  | none => simp
  | some z =>
    obtain ⟨a, r⟩ := z
    simp only [Option.some.injEq, Prod.mk.injEq]
    have : (∃ x y, (a = x ∧ r = y) ∧ [Ltr.t, .m].Sublist y) ↔ [Ltr.t, .m].Sublist r := ⟨fun ⟨_, _, ⟨_, e⟩, h⟩ => e ▸ h, fun h => ⟨_, _, ⟨rfl, rfl⟩, h⟩⟩
    rw [this, sub_cut]
    cases e2 : cutAt .t r with
    | none => simp
    | some z2 =>
      obtain ⟨b, r'⟩ := z2
      simp only [Option.some.injEq, Prod.mk.injEq]
      have : (∃ x y, (b = x ∧ r' = y) ∧ [Ltr.m].Sublist y) ↔ [Ltr.m].Sublist r' := ⟨fun ⟨_, _, ⟨_, e⟩, h⟩ => e ▸ h, fun h => ⟨_, _, ⟨rfl, rfl⟩, h⟩⟩
      rw [this, sub_cut]
      cases e3 : cutAt .m r' with
      | none => simp
      | some z3 => obtain ⟨c, d⟩ := z3; simp
theorem pl5 (u : List Ltr) : ellB (Str.ofString "" :: ([tx [.s], tx [.t], tx [.m]] ++ [Str.ofString ""])) (tx u) = (strike u).isSome := by
  rw [ellB_is, Bool.eq_iff_iff, strike_sub, tx_len]
  have := findAll_row u u.length (Nat.le_refl _) [.s, .t, .m] 0 (Nat.zero_le _)
  rw [List.take_length, List.drop_zero] at this
  exact this
theorem pl6 {u v : List Ltr} (h : strike u = some v) : ∃ i1 i2 i3 : Int, Txt.find (tx u) (Str.ofString "s") = i1 ∧ find3 (tx u) (Str.ofString "t") i1 = i2 ∧ find3 (tx u) (Str.ofString "m") i2 = i3 ∧ -1 < i1 ∧ i1 < i2 ∧ i2 < i3 ∧ i3 ≤ u.length ∧
    Txt.slice (tx u) none (some i1) ++ Txt.slice (tx u) (some (i1 + 1)) (some i2) ++ Txt.slice (tx u) (some (i2 + 1)) (some i3) ++ Txt.slice (tx u) (some (i3 + 1)) none = tx v := by
  have f3 : ∀ (y : Str) (i : Nat), find3 (tx u) y i = orNeg (firstAt (tx u) y i (tx u).length) := by
    intro y i
    unfold find3 fromIndex
    rw [show (max 0 (if (i : Int) < 0 then (i : Int) + (tx u).length else (i : Int))).toNat = i by rw [if_neg (by omega)]; omega, occ_first]
    unfold firstAt
    cases (List.range' i ((tx u).length + 1 - i)).find? (okAt (tx u) y (tx u).length) <;> rfl
  unfold strike at h
  split at h
  · cases h
  · rename_i a r h1
    split at h
    · cases h
    · rename_i b r' h2
      split at h
      · cases h
      · rename_i c d h3
        cases h
        obtain ⟨hu, n1⟩ := cutAt_some h1
        obtain ⟨hr, n2⟩ := cutAt_some h2
        obtain ⟨hr', n3⟩ := cutAt_some h3
        have hlen := congrArg List.length hu
        have hlen2 := congrArg List.length hr
        have hlen3 := congrArg List.length hr'
        simp only [List.length_append, List.length_cons] at hlen hlen2 hlen3
        refine ⟨(a.length : Nat), ((a.length + 1 + b.length : Nat) : Int), ((a.length + 1 + b.length + 1 + c.length : Nat) : Int), ?_, ?_, ?_, by omega, by omega, by omega, by omega, ?_⟩
        · rw [find_first, tx_s, tx_len, first_letter u .s 0 u.length (Nat.le_refl _), List.take_length, List.drop_zero, h1]
          show ((0 + a.length : Nat) : Int) = _
          omega
        · rw [f3, tx_t, tx_len, first_letter u .t _ u.length (Nat.le_refl _), List.take_length]
          have e : cutAt .t (u.drop a.length) = some (.s :: b, r') := by
            rw [hu, List.drop_left]
            unfold cutAt
            rw [if_neg (by decide), h2]; rfl
          rw [e]
          show ((a.length + (b.length + 1) : Nat) : Int) = _
          omega
        · rw [f3, tx_m, tx_len, first_letter u .m _ u.length (Nat.le_refl _), List.take_length]
          have e : cutAt .m (u.drop (a.length + 1 + b.length)) = some (.t :: c, d) := by
            have : u.drop (a.length + 1 + b.length) = .t :: r' := by
              rw [hu, hr, show a.length + 1 + b.length = a.length + (1 + b.length) by omega, ← List.drop_drop, List.drop_left, Nat.add_comm, List.drop_succ_cons, List.drop_left]
            rw [this]
            unfold cutAt
            rw [if_neg (by decide), h3]; rfl
          rw [e]
          show ((a.length + 1 + b.length + (c.length + 1) : Nat) : Int) = _
          omega
        · rw [sl_to, show ((a.length : Nat) : Int) + 1 = ((a.length + 1 : Nat) : Int) by omega, sl_mid _ _ _ (by omega) (by omega), show ((a.length + 1 + b.length : Nat) : Int) + 1 = ((a.length + 1 + b.length + 1 : Nat) : Int) by omega, sl_mid _ _ _ (by omega) (by omega),
            show ((a.length + 1 + b.length + 1 + c.length : Nat) : Int) + 1 = ((a.length + 1 + b.length + 1 + c.length + 1 : Nat) : Int) by omega, sl_from, tx_app, tx_app, tx_app]
          congr 1
          have d1 : u.drop (a.length + 1) = b ++ .t :: (c ++ .m :: d) := by rw [hu, hr, hr', ← List.drop_drop, List.drop_left]; rfl
          have d2 : u.drop (a.length + 1 + b.length + 1) = c ++ .m :: d := by
            rw [show a.length + 1 + b.length + 1 = a.length + 1 + (b.length + 1) by omega, ← List.drop_drop, d1, ← List.drop_drop, List.drop_left]; rfl
          have d3 : u.drop (a.length + 1 + b.length + 1 + c.length + 1) = d := by
            rw [show a.length + 1 + b.length + 1 + c.length + 1 = a.length + 1 + b.length + 1 + (c.length + 1) by omega, ← List.drop_drop, d2, ← List.drop_drop, List.drop_left]; rfl
          have d0 : u.take a.length = a := by rw [hu, List.take_left]
          rw [d0, d1, d2, d3, show a.length + 1 + b.length - (a.length + 1) = b.length by omega, show a.length + 1 + b.length + 1 + c.length - (a.length + 1 + b.length + 1) = c.length by omega, List.take_left, List.take_left]
          simp
end Mine
end
section
open PySem PySem.W PyProof.Rows PySem.Spec PySem.Calls PySem.Builtin.Str
set_option maxRecDepth 100000
namespace Mine
/-- a def's contract with room d, k -/
noncomputable abbrev GClaim (d k : Nat) (w : World) (mean : ExcName → Option Value) (mg mb : Str → Option Value) (f : Addr) (news : List (Addr × Obj)) (vs : List Value) (R : Tok → Value) : Prop :=
  ∀ (dp un : Nat) (gd : Option (List Code)) (cn : Str) (cs : Scope) (a : Addr) (ccd : Value) (cl : List (Str × Addr)) (outer : List Env) (A₀ : Around) (base h₀ : Heap) (L : Addr) (m : Str → Option Value) (s : Shared) (Q E : Value → Shared → Prop),
    Below A₀ base outer h₀ → Fr h₀ L s.heap m → (KT w.params).In h₀ → News h₀ L s.heap news → Top qV looseV mean mg mb h₀ → cs.kind = .function →
    dp + d < recursionLimit → un + k < cLine → CbRet h₀ L m news s Q R →
      wpAny (model rwT.prog w) (ktrTop dp un gd cn cs L a ccd cl outer) (call (.ref f) vs) Q E s
theorem know {g h : Heap} {L : Addr} {m : Str → Option Value} {n : Str} {v : Value} (F : Fr g L h m) (e : m n = some v) : Fr g L h (fun y => if y = n then some v else m y) := by
  have : (fun y => if y = n then some v else m y) = m := by
    funext y
    by_cases h : y = n
    · rw [if_pos h, h, e]
    · rw [if_neg h]
  rw [this]
  exact F
/-! the patterns that are written -/
theorem ei_1 (u : List Ltr) (hu : u.length ≤ 100) : EllIs (Str.ofString "s...m") (tx u) (ellA (tx [.s]) [] (tx [.m]) (tx u)) := fun w mean mg mb tw tg news =>
  ell_a w mean mg mb _ _ tw tg news (tx [.s]) (tx [.m]) [] (by decide +kernel) (by decide +kernel) (by decide) (by decide) (by decide) (by decide) (by rw [tx_len]; exact hu) (by decide) (by decide) (by simp)
theorem ei_2 (u : List Ltr) (hu : u.length ≤ 100) : EllIs (Str.ofString "ss...ss") (tx u) (ellA (tx [.s, .s]) [] (tx [.s, .s]) (tx u)) := fun w mean mg mb tw tg news =>
  ell_a w mean mg mb _ _ tw tg news (tx [.s, .s]) (tx [.s, .s]) [] (by decide +kernel) (by decide +kernel) (by decide) (by decide) (by decide) (by decide) (by rw [tx_len]; exact hu) (by decide) (by decide) (by simp)
theorem ei_3 (u : List Ltr) (hu : u.length ≤ 100) : EllIs (Str.ofString "...ss...ss...") (tx u) (ellB (Str.ofString "" :: ([tx [.s, .s], tx [.s, .s]] ++ [Str.ofString ""])) (tx u)) := fun w mean mg mb tw tg news =>
  ell_b w mean mg mb _ _ tw tg news [tx [.s, .s], tx [.s, .s]] (by decide +kernel) (by decide +kernel) (by rw [tx_len]; exact hu) (by decide) (by decide) (by decide) (by decide)
theorem ei_4 (u : List Ltr) (hu : u.length ≤ 100) : EllIs (Str.ofString "st") (tx u) (tx u == Str.ofString "st") := fun w mean mg mb tw tg news => by
  rw [show (tx u == Str.ofString "st") = (Str.ofString "st" == tx u) by rw [Bool.eq_iff_iff, beq_iff_eq, beq_iff_eq]; exact eq_comm]
  exact ell_c w mean mg mb _ _ tw tg news (by decide +kernel) (by rw [tx_len]; exact hu) (by decide)
theorem ei_5 (u : List Ltr) (hu : u.length ≤ 100) : EllIs (Str.ofString "...s...t...m...") (tx u) (strike u).isSome := fun w mean mg mb tw tg news => by
  rw [← pl5]
  exact ell_b w mean mg mb _ _ tw tg news [tx [.s], tx [.t], tx [.m]] (by decide +kernel) (by decide +kernel) (by rw [tx_len]; exact hu) (by decide) (by decide) (by decide) (by decide)
theorem triBody : fBody (stOf 17) = [triSt 0, triSt 1, triSt 2, triSt 3, triSt 4, triSt 5, triSt 6] := by kernel_rfl
theorem triWhile : triSt 5 = .While (whTest (triSt 5)) (whBody (triSt 5)) [] (triSt 5).pos := by kernel_rfl
section
variable (w : World) (mean : ExcName → Option Value) (mg mb : Str → Option Value) (news : List (Addr × Obj)) (u : List Ltr)
  (dp un : Nat) (gd : Option (List Code)) (cn : Str) (cs : Scope) (a : Addr) (ccd : Value) (cl : List (Str × Addr)) (outer : List Env) (base : Heap) (gh h : Heap) (L₀ L : Addr) (m : Str → Option Value) (s : Shared) (tk : Nat) (Q : Flow → Shared → Prop) (E : Value → Shared → Prop)
noncomputable def Jtri (u₀ : List Ltr) (n : Nat) (m₁ : Str → Option Value) (news₁ : List (Addr × Obj)) : Prop :=
  news₁ = news ∧ ∃ (v : List Ltr) (t : Tok) (c : Nat) (tc : Tok), m₁ (Str.ofString "text") = some (.str (tx v) t) ∧ m₁ (Str.ofString "count") = some (.int c tc) ∧ c + (wk v).trip = (wk u₀).trip ∧ v.length = n ∧ c + v.length ≤ u₀.length
set_option maxHeartbeats 1000000 in
theorem tri_while
  (B' : Below (ktrTop dp un gd cn cs L₀ a ccd cl outer) base (envX cn cs L₀ a ccd cl :: outer) gh) (X' : (KT w.params).In gh) (T' : Top qV looseV mean mg mb gh)
  (F' : Fr gh L h m) (N' : News gh L h news) (hul : u.length ≤ 100) (tt tc : Tok) (h1 : m (Str.ofString "text") = some (.str (tx u) tt)) (h2 : m (Str.ofString "count") = some (.int 0 tc))
  (hE : PassesOwn (model rwT.prog w) ((ktrTop dp un gd cn cs L₀ a ccd cl outer).deeper (envT3 L)) (envT3 L) E) (hdp : dp + 6 < recursionLimit) (hun : un + 100 < cLine) 
  (hnext : ∀ h' tk' m' t, Fr gh L h' m' → News gh L h' news → m' (Str.ofString "count") = some (.int (wk u).trip t) → Q .next { s with heap := h', toks := tk' }) :
  wpAny (model rwT.prog w) ((ktrTop dp un gd cn cs L₀ a ccd cl outer).deeper (envT3 L)) (exec (triSt 5) (envT3 L)) Q E { s with heap := h, toks := tk } := by
  rw [triWhile]
  refine While_inv2 (s := { s with heap := h, toks := tk }) (L := L) (h₀ := gh) (Jtri news u) (n₀ := u.length) F' N' ⟨rfl, u, tt, 0, tc, h1, h2, by omega, rfl, by omega⟩ ?_ hE
  rintro n m₁ news₁ h₁ tk₁ F₁ N₁ ⟨rfl, v, t, c, tc', g1, g2, g3, g4, g5⟩
  have F₂ := know (know F₁ g2) (n := Str.ofString "text") (v := .str (tx v) t) (by rw [if_neg (by decide)]; exact g1)
  refine tri_test w mean mg mb news₁ (tx v) (strike v).isSome c t tc' (ei_5 v (by omega)) dp un gd cn cs a ccd cl outer base gh h₁ L₀ L m₁ s tk₁ _ E B' X' T' F₂ N₁ (by rw [tx_len]; omega) hdp hun ?_
  intro h' tk' F₃ N₃
  cases e : strike v with
  | none =>
    have z := strike_none e
    exact hnext h' tk' _ tc' F₃ N₃ (by rw [if_neg (by decide), if_pos rfl, show (c : Int) = ((wk u).trip : Int) by omega])
  | some v' =>
    obtain ⟨z1, z2⟩ := strike_some e
    obtain ⟨i1, i2, i3, p1, p2, p3, p4, p5, p6, p7, p8⟩ := pl6 e
    show wpAny _ _ _ _ _ _
    refine tri_turn w mean mg mb news₁ (tx v) (tx v') c i1 i2 i3 t tc' p1 p2 p3 p4 p5 p6 (by omega) (by omega) p8 dp un gd cn cs a ccd cl outer base gh h' L₀ L m₁ s tk' _ E B' X' T' F₃ N₃ (by rw [tx_len]; omega) hdp hun ?_
    intro h'' tk'' m'' t1 t2 F₄ N₄ q1 q2
    exact ⟨h'', tk'', m'', news₁, v'.length, rfl, F₄, N₄, by omega, rfl, v', t1, c + 1, t2, q1, by rw [q2]; rfl, by omega, rfl, by omega⟩
set_option maxHeartbeats 1000000 in
theorem tri_zero
  (B' : Below (ktrTop dp un gd cn cs L₀ a ccd cl outer) base (envX cn cs L₀ a ccd cl :: outer) gh) (X' : (KT w.params).In gh) (T' : Top qV looseV mean mg mb gh)
  (x : Str) (tt : Tok) (F' : Fr gh L h (fun y => if y = Str.ofString "text" then some (.str x tt) else m y)) (N' : News gh L h news) (hdp : dp + 6 < recursionLimit) (hun : un + 100 < cLine) 
  (hnext : ∀ h' tk' m' t t2, Fr gh L h' m' → News gh L h' news → m' (Str.ofString "text") = some (.str x t2) → m' (Str.ofString "count") = some (.int 0 t) → Q .next { s with heap := h', toks := tk' }) :
  wpAny (model rwT.prog w) ((ktrTop dp un gd cn cs L₀ a ccd cl outer).deeper (envT3 L)) (exec (triSt 4) (envT3 L)) Q E { s with heap := h, toks := tk } := by
  k_with_none
  dsimp only [envT3]; (conv in (triSt _) => whnf); revert X'; k_fill; intro X'
  k_steps
  all_goals exact hnext _ _ _ _ _ (by k_asm) (by k_asm) rfl rfl
set_option maxHeartbeats 1000000 in
theorem tri_ret
  (B' : Below (ktrTop dp un gd cn cs L₀ a ccd cl outer) base (envX cn cs L₀ a ccd cl :: outer) gh) (X' : (KT w.params).In gh) (T' : Top qV looseV mean mg mb gh)
  (c : Int) (tt : Tok) (F' : Fr gh L h (fun y => if y = Str.ofString "count" then some (.int c tt) else m y)) (N' : News gh L h news) (hdp : dp + 6 < recursionLimit) (hun : un + 100 < cLine) 
  (hret : ∀ tk', Q (.ret (.int c tt)) { s with heap := h, toks := tk' }) :
  wpAny (model rwT.prog w) ((ktrTop dp un gd cn cs L₀ a ccd cl outer).deeper (envT3 L)) (execs [triSt 6] (envT3 L)) Q E { s with heap := h, toks := tk } := by
  k_with_none
  dsimp only [envT3]; (conv in (triSt _) => whnf); revert X'; k_fill; intro X'
  k_steps
  all_goals exact hret _
end
theorem tri_c (w : World) (mean : ExcName → Option Value) (mg mb : Str → Option Value) (news : List (Addr × Obj)) (u : List Ltr) (tt : Tok) (hu : u.length ≤ 100) :
   GClaim 12 300 w mean mg mb 139 news [.str (tx u) tt] (fun t => .int ((wk u).trip : Int) t) := by
  k_with_none
  dsimp only [GClaim, CbRet]; k_fill; intros; rename_i hret
  refine wpAny_call ?_
  k_dflt cell_enter
  rename_i g1 L1 h1 FG F N B X T
  have F0 := know F (n := Str.ofString "text") (v := .str (tx u) tt) rfl
  rw [triBody]
  have hl : (tx u).length ≤ 100 := by rw [tx_len]; exact hu
  refine wpAny_execs_cons (tri_1 w mean mg mb news (tx u) tt _ (ei_1 u hu) (pl1 u) _ _ _ _ _ _ _ _ _ _ _ _ _ _ _ _ _ _ _ B X T F0 N hl (by first | exact lt_dn (by assumption) (by decide) | omega) (by first | exact lt_dn (by assumption) (by decide) | omega) ?_)
  intro h2 tk2 F2 N2
  refine wpAny_execs_cons (tri_2 w mean mg mb news (tx u) tt _ (ei_2 u hu) (pl2 u) _ _ _ _ _ _ _ _ _ _ _ _ _ _ _ _ _ _ _ B X T F2 N2 hl (by first | exact lt_dn (by assumption) (by decide) | omega) (by first | exact lt_dn (by assumption) (by decide) | omega) ?_)
  intro h3 tk3 F3 N3
  refine wpAny_execs_cons (tri_3 w mean mg mb news (tx u) tt _ (ei_3 u hu) (pl3 u) _ _ _ _ _ _ _ _ _ _ _ _ _ _ _ _ _ _ _ B X T F3 N3 hl (by first | exact lt_dn (by assumption) (by decide) | omega) (by first | exact lt_dn (by assumption) (by decide) | omega) ?_)
  intro h4 tk4 F4 N4
  refine wpAny_execs_cons (tri_4 w mean mg mb news (tx u) tt _ (ei_4 u hu) rfl _ _ _ _ _ _ _ _ _ _ _ _ _ _ _ _ _ _ _ B X T F4 N4 hl (by first | exact lt_dn (by assumption) (by decide) | omega) (by first | exact lt_dn (by assumption) (by decide) | omega) ?_)
  intro h5 tk5 F5 N5
  refine wpAny_execs_cons (tri_zero w mean mg mb news _ _ _ _ _ _ _ _ _ _ _ _ _ _ _ _ _ _ _ B X T _ _ F5 N5 (by first | exact lt_dn (by assumption) (by decide) | omega) (by first | exact lt_dn (by assumption) (by decide) | omega) ?_)
  intro h6 tk6 m6 t6 t6' F6 N6 e1 e2
  refine wpAny_execs_cons (tri_while w mean mg mb news u _ _ _ _ _ _ _ _ _ _ _ _ _ _ _ _ _ _ _ B X T F6 N6 hu _ _ e1 e2 (by passes_own) (by first | exact lt_dn (by assumption) (by decide) | omega) (by first | exact lt_dn (by assumption) (by decide) | omega) ?_)
  intro h7 tk7 m7 t7 F7 N7 e3
  have F8 := know F7 e3
  refine tri_ret w mean mg mb news _ _ _ _ _ _ _ _ _ _ _ _ _ _ _ _ _ _ _ B X T _ _ F8 N7 (by first | exact lt_dn (by assumption) (by decide) | omega) (by first | exact lt_dn (by assumption) (by decide) | omega) ?_
  intro tk8
  k_steps
  all_goals (refine' cb_retI hret rfl ?f ?n; (case f => k_asm); (case n => k_asm))
end Mine
end
section
open PySem PySem.W PyProof.Rows PySem.Spec PySem.Calls PySem.Builtin.Str
set_option maxRecDepth 100000
namespace Mine
open LCg
noncomputable def callArg : PySem.Expr → PySem.Expr | .Call _ (a :: _) _ _ => a | _ => .Constant .none 0 default
noncomputable def asgVal : Stmt → PySem.Expr | .Assign _ v _ => v | _ => .Constant .none 0 default
noncomputable def litC : PySem.Expr := callArg (asgVal (pieSt 11))
noncomputable def compIter : PySem.Expr → PySem.Expr | .ListComp _ (g :: _) _ _ => g.iter | _ => .Constant .none 0 default
noncomputable def compTest : PySem.Expr → PySem.Expr | .ListComp _ (g :: _) _ _ => g.ifs.headD (.Constant .none 0 default) | _ => .Constant .none 0 default
noncomputable def compElt : PySem.Expr → PySem.Expr | .ListComp e _ _ _ => e | _ => .Constant .none 0 default
noncomputable def compScope : PySem.Expr → Scope | .ListComp _ _ s _ => s | _ => fScope (stOf 14)
noncomputable abbrev envL (L C : Addr) : Env := compEnvC (compScope litC) [(Str.ofString "due", L + 1)] C (envP L)
theorem tupQ1 {prog : Program} {w : World} {A : Around} {E : Value → Shared → Prop} {s : Shared} {h₀ : Heap} {L : Addr} {news : List (Addr × Obj)} {d : Addr} {a b c : Value} {u : Tok} {value slice : PySem.Expr} {Q : Value → Shared → Prop} (N : News h₀ L s.heap news) (hm : (d, tupQ a b c) ∈ news) (h : Q b s)
    (hs : subscripted slice false (.ref d) (.int 1 u) = operate [.ref d, .int 1 u] (getItem (.ref d) (.int 1 u)) := by with_unfolding_all rfl) :
    wpAny (model prog w) A (subscriptTail value slice (.ref d) (.int 1 u)) Q E s := by
  have hl : IsTup s.heap d #[a, b, c] := ⟨_, (N _ hm).1, rfl, 0, rfl⟩
  exact tail_any hl.typeIs slot_tuple_getitem.lookup (PyProof.Rows.getItem_tuple hl (by decide) (by decide) rfl rfl h) hs
section
variable (w : World) (mean : ExcName → Option Value) (mg mb : Str → Option Value) (news : List (Addr × Obj))
  (dp un : Nat) (gd : Option (List Code)) (cn : Str) (cs : Scope) (a : Addr) (ccd : Value) (cl : List (Str × Addr)) (outer : List Env) (base : Heap) (gh h : Heap) (L₀ L : Addr) (m : Str → Option Value) (s : Shared) (tk : Nat) 
set_option maxHeartbeats 1000000 in
theorem pie_zip (Q : Value → Shared → Prop) (E : Value → Shared → Prop) (r g b : UInt64) (t3 t4 t5 : Tok)
  (B' : Below (ktrTop dp un gd cn cs L₀ a ccd cl outer) base (envX cn cs L₀ a ccd cl :: outer) gh) (X' : (KT w.params).In gh) (T' : Top qV looseV mean mg mb gh)
  (F' : Fr gh L h (fun z => if z = Str.ofString "red" then some (.float r t3) else if z = Str.ofString "green" then some (.float g t4) else if z = Str.ofString "blue" then some (.float b t5) else m z)) (N' : News gh L h news) (hdp : dp + 10 < recursionLimit) (hun : un + 100 < cLine)
  (hq : ∀ h' tk' z ta tb c d e t, Six z ta tb c d e → ZAt h' z ta tb c d e (Str.ofString "stm") t #[.float r t3, .float g t4, .float b t5] 0 .none → (∀ k ∈ [z, ta, tb, c, d], gh.get? k = none ∧ k ≠ L ∧ ∀ p ∈ news, p.1 ≠ k) → Fr gh L h' (fun z => if z = Str.ofString "red" then some (.float r t3) else if z = Str.ofString "green" then some (.float g t4) else if z = Str.ofString "blue" then some (.float b t5) else m z) → News gh L h' news → Q (.ref z) { s with heap := h', toks := tk' }) :
  wpAny (model rwT.prog w) ((ktrTop dp un gd cn cs L₀ a ccd cl outer).deeper (envP L)) (eval (compIter litC) (envP L)) Q E { s with heap := h, toks := tk } := by
  k_with_none
  k_with "subscriptTail" => (k_here; (with_reducible show wpAny _ _ (subscriptTail _ _ (Value.ref _) (Value.int 1 _)) _ _ _); k_dflt (refine' tupQ1 ?k1w9 ?k2w9 ?_ ?k4w9; (case k1w9 => k_asm); (case k2w9 => exact List.Mem.tail _ (List.Mem.tail _ (List.Mem.tail _ (by assumption)))); (case k4w9 => with_unfolding_all rfl)))
  dsimp only [envP]; (conv in (compIter _) => whnf); revert X'; k_fill; intro X'
  k_steps
  rename_i l1 h1 F1 N1 _
  refine call_zs (by decide +kernel) ⟨_, N1.get (List.Mem.head _), rfl, 0, rfl⟩ ?_
  intro h' z ta tb c d S Z hk up
  refine hq _ _ z ta tb c d _ _ S Z (fun k hk' => ?_) (F1.keeps up) (fun p hp => ⟨up _ _ (N1 p (.tail _ hp)).1, (N1 p (.tail _ hp)).2⟩)
  have hk2 : h1.get? k = none ∧ h1.objs.size ≤ k := hk k hk'
  refine ⟨?_, fun e => ?_, fun p hp e => ?_⟩
  · cases q : gh.get? k with
    | none => rfl
    | some o => have := F1.keep k o q; rw [hk2.1] at this; cases this
  · exact absurd F1.ns.lt (by rw [← e]; exact Nat.not_lt.mpr hk2.2)
  · exact absurd (Heap.lt_size (N1 p (.tail _ hp)).1) (by rw [e]; exact Nat.not_lt.mpr hk2.2)
set_option maxHeartbeats 1000000 in
theorem pie_test (Q : Bool → Shared → Prop) (E : Value → Shared → Prop) (v b1 b2 b3 : UInt64) (tv v1 v2 v3 : Tok) (Dd C D : Addr) (o oC : Obj) (m₂ : Str → Option Value) (ys : List Value) (od : o.data = .cell (some (.ref Dd))) (hD : (Dd, tupQ (.float b1 v1) (.float b2 v2) (.float b3 v3)) ∈ news)
  (hC : NsObj oC m₂) (h1 : m₂ (Str.ofString "lamp") = some (.float v tv))
  (B' : Below (ktrTop dp un gd cn cs L₀ a ccd cl outer) base (envX cn cs L₀ a ccd cl :: outer) gh) (X' : (KT w.params).In gh) (T' : Top qV looseV mean mg mb gh)
  (F' : Fr gh L h m) (N' : News gh L h ((C, oC) :: (D, lst ys) :: (L + 1, o) :: news)) (hdp : dp + 10 < recursionLimit) (hun : un + 100 < cLine)
  (hq : ∀ tk', Q (Float64.cmp v b2 == some Ordering.gt) { s with heap := h, toks := tk' }) :
  wpAny (model rwT.prog w) ((ktrTop dp un gd cn cs L₀ a ccd cl outer).deeper (envP L)) (isTrue (compTest litC) (envL L C) (eval (compTest litC) (envL L C))) Q E { s with heap := h, toks := tk } := by
  k_with_none
  k_with "subscriptTail" => (k_here; (with_reducible show wpAny _ _ (subscriptTail _ _ (Value.ref _) (Value.int 1 _)) _ _ _); k_dflt (refine' tupQ1 ?k1w9 ?k2w9 ?_ ?k4w9; (case k1w9 => k_asm); (case k2w9 => exact List.Mem.tail _ (List.Mem.tail _ (List.Mem.tail _ (by assumption)))); (case k4w9 => with_unfolding_all rfl)))
  dsimp only [envL, envP]; (conv in (isTrue _ _ _) => (conv => arg 1; whnf); (conv => arg 3; arg 1; whnf)); revert X'; k_fill; intro X'
  k_steps
  all_goals exact hq _
set_option maxHeartbeats 1000000 in
theorem pie_elt (Q : Value → Shared → Prop) (E : Value → Shared → Prop) (x : Str) (tx1 : Tok) (C D : Addr) (oC : Obj) (m₂ : Str → Option Value) (ys : List Value)
  (hC : NsObj oC m₂) (h1 : m₂ (Str.ofString "letter") = some (.str x tx1))
  (B' : Below (ktrTop dp un gd cn cs L₀ a ccd cl outer) base (envX cn cs L₀ a ccd cl :: outer) gh) (X' : (KT w.params).In gh) (T' : Top qV looseV mean mg mb gh)
  (F' : Fr gh L h m) (N' : News gh L h ((C, oC) :: (D, lst ys) :: news)) (hdp : dp + 10 < recursionLimit) (hun : un + 100 < cLine)
  (hq : ∀ tk', Q (.str x tx1) { s with heap := h, toks := tk' }) :
  wpAny (model rwT.prog w) ((ktrTop dp un gd cn cs L₀ a ccd cl outer).deeper (envP L)) (eval (compElt litC) (envL L C)) Q E { s with heap := h, toks := tk } := by
  k_with_none
  k_with "subscriptTail" => (k_here; (with_reducible show wpAny _ _ (subscriptTail _ _ (Value.ref _) (Value.int 1 _)) _ _ _); k_dflt (refine' tupQ1 ?k1w9 ?k2w9 ?_ ?k4w9; (case k1w9 => k_asm); (case k2w9 => exact List.Mem.tail _ (List.Mem.tail _ (List.Mem.tail _ (by assumption)))); (case k4w9 => with_unfolding_all rfl)))
  dsimp only [envL, envP]; (conv in (compElt _) => whnf); revert X'; k_fill; intro X'
  k_steps
  all_goals exact hq _
noncomputable def litTxt (b0 b1 b2 : Bool) : List Ltr := (if b0 then [Ltr.s] else []) ++ ((if b1 then [Ltr.t] else []) ++ (if b2 then [Ltr.m] else []))
noncomputable def litRel (b0 b1 b2 : Bool) (i : Nat) (ys : List Value) : Prop := ∃ lm : List (Str × Tok), ys = strValues lm ∧ lm.length ≤ i ∧ lm.map (·.1) = (litTxt (b0 && decide (1 ≤ i)) (b1 && decide (2 ≤ i)) (b2 && decide (3 ≤ i))).map (fun a => tx [a])
theorem litC_is : litC = .ListComp (compElt litC) [⟨.Tuple [.Name (Str.ofString "letter") ⟨134, 30, 134, 36⟩, .Name (Str.ofString "lamp") ⟨134, 38, 134, 42⟩] 0 ⟨134, 30, 134, 42⟩, compIter litC, [compTest litC], 0⟩] (compScope litC) litC.pos := by kernel_rfl
theorem rel_no {b0 b1 b2 : Bool} {i : Nat} {ys : List Value} (h : litRel b0 b1 b2 i ys) (e : litTxt (b0 && decide (1 ≤ i + 1)) (b1 && decide (2 ≤ i + 1)) (b2 && decide (3 ≤ i + 1)) = litTxt (b0 && decide (1 ≤ i)) (b1 && decide (2 ≤ i)) (b2 && decide (3 ≤ i))) : litRel b0 b1 b2 (i + 1) ys := by
  obtain ⟨lm, h1, h2, h3⟩ := h
  exact ⟨lm, h1, by omega, by rw [e]; exact h3⟩
theorem rel_yes {b0 b1 b2 : Bool} {i : Nat} {ys : List Value} {x : Ltr} {u : Tok} (h : litRel b0 b1 b2 i ys) (e : litTxt (b0 && decide (1 ≤ i + 1)) (b1 && decide (2 ≤ i + 1)) (b2 && decide (3 ≤ i + 1)) = litTxt (b0 && decide (1 ≤ i)) (b1 && decide (2 ≤ i)) (b2 && decide (3 ≤ i)) ++ [x]) : litRel b0 b1 b2 (i + 1) (ys ++ [.str (tx [x]) u]) := by
  obtain ⟨lm, h1, h2, h3⟩ := h
  refine ⟨lm ++ [(tx [x], u)], by rw [h1]; simp [strValues], by simp; omega, ?_⟩
  rw [e, List.map_append, List.map_append, h3]; rfl
theorem pie_comp (Q : Value → Shared → Prop) (E : Value → Shared → Prop) (r g b b1 b2 b3 : UInt64) (t3 t4 t5 v1 v2 v3 : Tok) (Dd : Addr) (o : Obj) (od : o.data = .cell (some (.ref Dd))) (hD : (Dd, tupQ (.float b1 v1) (.float b2 v2) (.float b3 v3)) ∈ news)
  (B' : Below (ktrTop dp un gd cn cs L₀ a ccd cl outer) base (envX cn cs L₀ a ccd cl :: outer) gh) (X' : (KT w.params).In gh) (T' : Top qV looseV mean mg mb gh)
  (F' : Fr gh L h (fun z => if z = Str.ofString "red" then some (.float r t3) else if z = Str.ofString "green" then some (.float g t4) else if z = Str.ofString "blue" then some (.float b t5) else m z)) (N' : News gh L h ((L + 1, o) :: news)) (hdp : dp + 10 < recursionLimit) (hun : un + 100 < cLine)
  (hq : ∀ h' tk' D lm, lm.map (·.1) = (litTxt (Float64.cmp r b2 == some Ordering.gt) (Float64.cmp g b2 == some Ordering.gt) (Float64.cmp b b2 == some Ordering.gt)).map (fun a => tx [a]) → lm.length ≤ 3 → Fr gh L h' (fun z => if z = Str.ofString "red" then some (.float r t3) else if z = Str.ofString "green" then some (.float g t4) else if z = Str.ofString "blue" then some (.float b t5) else m z) → News gh L h' ((D, lst (strValues lm)) :: (L + 1, o) :: news) → Q (.ref D) { s with heap := h', toks := tk' }) :
  wpAny (model rwT.prog w) ((ktrTop dp un gd cn cs L₀ a ccd cl outer).deeper (envP L)) (eval litC (envP L)) Q E { s with heap := h, toks := tk } := by
  rw [litC_is]
  refine zs_ListComp (h₀ := gh) (L := L) (m := fun z => if z = Str.ofString "red" then some (.float r t3) else if z = Str.ofString "green" then some (.float g t4) else if z = Str.ofString "blue" then some (.float b t5) else m z) (env := envP L) (cl := [(Str.ofString "due", L + 1)]) (by with_unfolding_all rfl) (by decide +kernel) rfl (by decide +kernel) (by decide +kernel) (by decide +kernel) (by decide) rfl
    (litRel (Float64.cmp r b2 == some Ordering.gt) (Float64.cmp g b2 == some Ordering.gt) (Float64.cmp b b2 == some Ordering.gt)) ⟨[], rfl, Nat.le_refl _, by simp [litTxt]⟩ (fun i ys' h => ?_) ?_
  · obtain ⟨lm, h1, h2, _⟩ := h
    rw [h1]; simpa [strValues] using h2
  refine pie_zip w mean mg mb ((L + 1, o) :: news) dp un gd cn cs a ccd cl outer base gh h L₀ L m s tk _ E r g b t3 t4 t5 B' X' T' F' N' hdp hun ?_
  intro h1 tk1 z ta tb c d e t S Z hk F1 N1
  refine ⟨z, ta, tb, c, d, e, Str.ofString "stm", t, _, (L + 1, o) :: news, rfl, S, Z, by show (Str.ofString "stm").cps.size ≤ 3; decide +kernel, by decide +kernel, fun k hk' => ⟨(hk k hk').1, (hk k hk').2.1⟩, F1, N1, fun p hp => ⟨(hk z (by simp)).2.2 p hp, (hk tb (by simp)).2.2 p hp, (hk c (by simp)).2.2 p hp, (hk d (by simp)).2.2 p hp⟩, ?_, ?_⟩
  · intro i n y u ys' C oC D m₂ h2 tk2 E' hn hy R hC q1 q2 F2 N2
    have go : ∀ (v : UInt64) (tv : Tok) (x : Ltr), y = .float v tv → (⟨#[n]⟩ : Str) = tx [x] → ((Float64.cmp v b2 == some Ordering.gt) = true → litRel (Float64.cmp r b2 == some Ordering.gt) (Float64.cmp g b2 == some Ordering.gt) (Float64.cmp b b2 == some Ordering.gt) (i + 1) (ys' ++ [.str (tx [x]) u])) →
        ((Float64.cmp v b2 == some Ordering.gt) = false → litRel (Float64.cmp r b2 == some Ordering.gt) (Float64.cmp g b2 == some Ordering.gt) (Float64.cmp b b2 == some Ordering.gt) (i + 1) ys') → wpAny (model rwT.prog w) ((ktrTop dp un gd cn cs L₀ a ccd cl outer).deeper (envP L)) (isTrue (compTest litC) (envL L C) (eval (compTest litC) (envL L C))) (fun ok s₃ => (∃ h' tk', s₃ = { { s with heap := h1, toks := tk1 } with heap := h', toks := tk' } ∧ KeepAll h2 h') ∧
        if ok = true then wpAny (model rwT.prog w) ((ktrTop dp un gd cn cs L₀ a ccd cl outer).deeper (envP L)) (eval (compElt litC) (envL L C)) (fun v s₄ => (∃ h' tk', s₄ = { { s with heap := h1, toks := tk1 } with heap := h', toks := tk' } ∧ KeepAll h2 h') ∧ litRel (Float64.cmp r b2 == some Ordering.gt) (Float64.cmp g b2 == some Ordering.gt) (Float64.cmp b b2 == some Ordering.gt) (i + 1) (ys' ++ [v])) E' s₃ else litRel (Float64.cmp r b2 == some Ordering.gt) (Float64.cmp g b2 == some Ordering.gt) (Float64.cmp b b2 == some Ordering.gt) (i + 1) ys') E' { s with heap := h2, toks := tk2 } := by
      intro v tv x ey ex hyes hno
      subst ey
      rw [ex] at q1
      refine pie_test w mean mg mb news dp un gd cn cs a ccd cl outer base gh h2 L₀ L _ s tk2 _ E' v b1 b2 b3 tv v1 v2 v3 Dd C D o oC m₂ ys' od hD hC q2 B' X' T' F2 N2 hdp hun ?_
      intro tk3
      refine ⟨⟨h2, tk3, rfl, fun _ _ q => q⟩, ?_⟩
      cases hb : (Float64.cmp v b2 == some Ordering.gt) with
      | false => rw [if_neg Bool.false_ne_true]; exact hno hb
      | true =>
        rw [if_pos rfl]
        refine pie_elt w mean mg mb ((L + 1, o) :: news) dp un gd cn cs a ccd cl outer base gh h2 L₀ L _ s tk3 _ E' (tx [x]) u C D oC m₂ ys' hC q1 B' X' T' F2 N2 hdp hun ?_
        intro tk4
        exact ⟨⟨h2, tk4, rfl, fun _ _ q => q⟩, hyes hb⟩
    match i, hn, hy, R with
    | 0, hn, hy, R =>
      have en : n = 115 := (Option.some.inj hn).symm
      refine go r t3 .s (Option.some.inj hy).symm (by rw [en]; rfl) (fun hb => rel_yes R ?_) (fun hb => rel_no R ?_) <;> rw [hb] <;> simp [litTxt]
    | 1, hn, hy, R =>
      have en : n = 116 := (Option.some.inj hn).symm
      refine go g t4 .t (Option.some.inj hy).symm (by rw [en]; rfl) (fun hb => rel_yes R ?_) (fun hb => rel_no R ?_) <;> rw [hb] <;> simp [litTxt]
    | 2, hn, hy, R =>
      have en : n = 109 := (Option.some.inj hn).symm
      refine go b t5 .m (Option.some.inj hy).symm (by rw [en]; rfl) (fun hb => rel_yes R ?_) (fun hb => rel_no R ?_) <;> rw [hb] <;> simp [litTxt]
    | i + 3, hn, hy, R =>
      have : (i + 3 : Nat) < 3 := (Array.getElem?_eq_some_iff.mp hy).1
      omega
  · intro D h2 tk2 ys' F2 N2 _ R
    obtain ⟨lm, rfl, h3, h4⟩ := R
    have e3 : (Str.ofString "stm").cps.size = 3 := by decide +kernel
    rw [e3] at h3 h4
    exact hq h2 tk2 D lm (by simpa using h4) h3 F2 N2
end
end Mine
end
section
open PySem PySem.W PyProof.Rows PySem.Spec PySem.Calls PySem.Builtin.Str
set_option maxRecDepth 100000
namespace Mine
local macro_rules | `(tactic| k_fmods) => `(tactic| skip)
open LCg
theorem join_tx : ∀ (l : List Ltr), Txt.join (Str.ofString "") (l.map fun a => tx [a]) = tx l := by
  intro l
  show glued _ _ = _
  rw [StrLaws.glued_eq_join]
  induction l with
  | nil => rfl
  | cons a r ih =>
    cases r with
    | nil => rfl
    | cons b r =>
      show tx [a] ++ Str.ofString "" ++ Str.join (Str.ofString "") ((b :: r).map fun a => tx [a]) = _
      rw [ih, tx_nil, tx_app, tx_app]; rfl
theorem join_lit {prog : Program} {w : World} {A : Around} {E : Value → Shared → Prop} {s : Shared} {h₀ : Heap} {L : Addr} {news : List (Addr × Obj)} {D : Addr} {t : Tok} {lm : List (Str × Tok)} {l : List Ltr} {Q : Value → Shared → Prop} (N : News h₀ L s.heap news)
    (hm : (D, lst (strValues lm)) ∈ news) (e : lm.map (·.1) = l.map (fun a => tx [a])) (hz : lm.length ≤ 3)
    (h : ∀ t' k, Q (.str (tx l) t') { s with toks := k }) : wpAny (model prog w) A (call (.builtin "str.join") [.str (Str.ofString "") t, .ref D]) Q E s := by
  have hl : s.heap.IsList D (strValues lm).toArray := ⟨_, (N _ hm).1, rfl, _, rfl⟩
  have hlen : (l.map (fun a => tx [a])).length ≤ 3 := by rw [← e]; simpa using hz
  refine SC.join hl e ?_ (by rw [join_tx]; exact h)
  have hf := StrLaws.joinFits (sep := Str.ofString "") (texts := l.map (fun a => tx [a])) (B := 1) (by
    intro y hy
    obtain ⟨a, _, rfl⟩ := List.mem_map.mp hy
    rw [tx_len]; simp) (by rw [show (Str.ofString "").length = 0 by decide]; omega)
  unfold JoinOk
  rw [hf]; rfl
section
variable (w : World) (mean : ExcName → Option Value) (mg mb : Str → Option Value) (news : List (Addr × Obj))
  (dp un : Nat) (gd : Option (List Code)) (cn : Str) (cs : Scope) (a : Addr) (ccd : Value) (cl : List (Str × Addr)) (outer : List Env) (base : Heap) (gh h : Heap) (L₀ L : Addr) (m : Str → Option Value) (s : Shared) (tk : Nat) (Q : Flow → Shared → Prop) (E : Value → Shared → Prop)
set_option maxHeartbeats 1000000 in
theorem pie_E (y kind : Int) (r g b b1 b2 b3 : UInt64) (t1 t2 t3 t4 t5 v1 v2 v3 : Tok) (Dd : Addr) (o : Obj) (od : o.data = .cell (some (.ref Dd))) (hD : (Dd, tupQ (.float b1 v1) (.float b2 v2) (.float b3 v3)) ∈ news)
  (B' : Below (ktrTop dp un gd cn cs L₀ a ccd cl outer) base (envX cn cs L₀ a ccd cl :: outer) gh) (X' : (KT w.params).In gh) (T' : Top qV looseV mean mg mb gh)
  (F' : Fr gh L h (fun z => if z = Str.ofString "red" then some (.float r t3) else if z = Str.ofString "green" then some (.float g t4) else if z = Str.ofString "blue" then some (.float b t5) else if z = Str.ofString "y" then some (.int y t1) else if z = Str.ofString "kind" then some (.int kind t2) else m z)) (N' : News gh L h ((L + 1, o) :: news)) (hdp : dp + 20 < recursionLimit) (hun : un + 200 < cLine)
  (hnext : ∀ h' tk' m' t, Fr gh L h' m' → News gh L h' ((L + 1, o) :: news) → m' (Str.ofString "lit") = some (.str (tx (litTxt (Float64.cmp r b2 == some Ordering.gt) (Float64.cmp g b2 == some Ordering.gt) (Float64.cmp b b2 == some Ordering.gt))) t) → HoldZ m' (Str.ofString "y") y → HoldZ m' (Str.ofString "kind") kind → Q .next { s with heap := h', toks := tk' }) :
  wpAny (model rwT.prog w) ((ktrTop dp un gd cn cs L₀ a ccd cl outer).deeper (envP L)) (exec (pieSt 11) (envP L)) Q E { s with heap := h, toks := tk } := by
  k_with_none
  k_with "eval ListComp" => (k_here; k_dflt (refine' pie_comp _ _ _ _ _ _ _ _ _ _ _ _ _ _ _ _ _ _ _ _ _ _ _ _ _ _ _ _ _ _ _ _ _ _ _ _ _ _ ?o1w9 ?o2w9 ?k1w9 ?k2w9 ?k3w9 ?k4w9 ?k5w9 ?kdw9 ?kuw9 ?_; (case k1w9 => k_asm); (case k2w9 => k_asm); (case k3w9 => k_asm); (case k4w9 => k_asm); (case k5w9 => k_asm); (case o1w9 => assumption); (case o2w9 => assumption); (case kdw9 => ktr_room); (case kuw9 => ktr_units)); intro hw9 tkw9 Dw9 lmw9 ew9 hzw9 Fw9 Nw9; (try dsimp only))
  k_with "call builtin:str.join" => (k_here; k_dflt (refine' join_lit ?Nw9 ?lw9 ?ew9 ?zw9 ?_; (case Nw9 => k_asm); (case lw9 => k_mem); (case ew9 => assumption); (case zw9 => assumption)); intro _ _)
  dsimp only [envP]; (conv in (pieSt _) => whnf); revert X'; k_fill; intro X'
  k_steps
  all_goals exact hnext _ _ _ _ (by k_asm) (cb_drop (by assumption) sub1) rfl ⟨_, rfl⟩ ⟨_, rfl⟩
theorem ret_as {g : Heap} {L : Addr} {news : List (Addr × Obj)} {s : Shared} {Q : Flow → Shared → Prop} {lit x : Str} {h' : Heap} {tk' : Nat} {m' : Str → Option Value} {t : Tok} (hret : ∀ h' tk' m' t, Fr g L h' m' → News g L h' news → Q (.ret (.str lit t)) { s with heap := h', toks := tk' }) (e : x = lit) (F : Fr g L h' m') (N : News g L h' news) : Q (.ret (.str x t)) { s with heap := h', toks := tk' } := by
  subst e; exact hret _ _ _ _ F N
section
variable {b : Bool} {v sg lit : Str}
theorem x0 (f1 : b = true → v = sg ∧ lit = Str.ofString "") (h : (b == true) = true) (h2 : (v != sg) = true) : False := by
  have := (f1 (by simpa using h)).1
  rw [this] at h2; simp at h2
theorem x1 (f1 : b = true → v = sg ∧ lit = Str.ofString "") (h : (b == true) = true) (h2 : (Str.ofString "" != lit) = true) : False := by
  have := (f1 (by simpa using h)).2
  rw [this] at h2; simp at h2
theorem x2 (f2 : b = false → v = lit) (h : (b == true) = false) (h2 : (v != lit) = true) : False := by
  have := f2 (by simpa using h)
  rw [this] at h2; simp at h2
theorem x3 (f1 : b = true → v = sg ∧ lit = Str.ofString "") (h : (b == true) = true) : Str.ofString "" = lit := (f1 (by simpa using h)).2.symm
theorem x4 (f2 : b = false → v = lit) (h : (b == true) = false) : v = lit := f2 (by simpa using h)
end
set_option maxHeartbeats 1000000 in
theorem pie_F (y kind : Int) (lit : Str) (t1 t2 t3 : Tok) (o : Obj) (hk : 0 ≤ kind ∧ kind ≤ 6 ∧ 0 ≤ y.fdiv 960 ∧ y.fdiv 960 ≤ 2000) (hlit : lit.length ≤ 10) (hb3 : (b3Str (signStr kind (y.fdiv 960))).length ≤ 10)
  (hlen : (signStr kind (y.fdiv 960)).length = 1) (f1 : b1In ((signStr kind (y.fdiv 960)).cps.getD 0 0 : Nat) = true → b3Str (signStr kind (y.fdiv 960)) = signStr kind (y.fdiv 960) ∧ lit = Str.ofString "") (f2 : b1In ((signStr kind (y.fdiv 960)).cps.getD 0 0 : Nat) = false → b3Str (signStr kind (y.fdiv 960)) = lit)
  (B' : Below (ktrTop dp un gd cn cs L₀ a ccd cl outer) base (envX cn cs L₀ a ccd cl :: outer) gh) (X' : (KT w.params).In gh) (T' : Top qV looseV mean mg mb gh)
  (F' : Fr gh L h (fun z => if z = Str.ofString "y" then some (.int y t1) else if z = Str.ofString "kind" then some (.int kind t2) else if z = Str.ofString "lit" then some (.str lit t3) else m z)) (N' : News gh L h news) (hdp : dp + 20 < recursionLimit) (hun : un + 200 < cLine)
  (hret : ∀ h' tk' m' t, Fr gh L h' m' → News gh L h' news → Q (.ret (.str lit t)) { s with heap := h', toks := tk' }) :
  wpAny (model rwT.prog w) ((ktrTop dp un gd cn cs L₀ a ccd cl outer).deeper (envP L)) (execs (pieL 12 5) (envP L)) Q E { s with heap := h, toks := tk } := by
  k_with_none
  k_with "eval ListComp" => (k_here; k_dflt (refine' pie_comp _ _ _ _ _ _ _ _ _ _ _ _ _ _ _ _ _ _ _ _ _ _ _ _ _ _ _ _ _ _ _ _ _ _ _ _ _ _ ?o1w9 ?o2w9 ?k1w9 ?k2w9 ?k3w9 ?k4w9 ?k5w9 ?kdw9 ?kuw9 ?_; (case k1w9 => k_asm); (case k2w9 => k_asm); (case k3w9 => k_asm); (case k4w9 => k_asm); (case k5w9 => k_asm); (case o1w9 => assumption); (case o2w9 => assumption); (case kdw9 => ktr_room); (case kuw9 => ktr_units)); intro hw9 tkw9 Dw9 lmw9 ew9 hzw9 Fw9 Nw9; (try dsimp only))
  k_with "call builtin:str.join" => (k_here; k_dflt (refine' join_lit ?Nw9 ?lw9 ?ew9 ?zw9 ?_; (case Nw9 => k_asm); (case lw9 => k_mem); (case ew9 => assumption); (case zw9 => assumption)); intro _ _)
  k_with "call ref" => (k_here; first
      | ((with_reducible show wpAny _ _ (call (Value.ref 113) [Value.int _ _, Value.int _ _]) _ _ _); k_dflt (have hCbw9 := @sign_c; dsimp only [CbClaim, CbLists, CbRet] at hCbw9; refine' hCbw9 _ _ _ _ _ _ _ _ _ _ _ _ _ _ _ _ _ _ _ _ _ _ _ _ _ _ ?k1w9 ?k2w9 ?k3w9 ?k4w9 ?k5w9 ?k6w9 ?kpw9 ?kdw9 ?kuw9 ?_; (case k1w9 => k_asm); (case k2w9 => k_asm); (case k3w9 => k_asm); (case k4w9 => k_asm); (case k5w9 => k_asm); (case k6w9 => first | exact rfl | assumption); (case kpw9 => first | assumption | omega); (case kdw9 => ktr_room); (case kuw9 => ktr_units); clear hCbw9); intro tw9 hw9 tkw9 Fw9 Nw9; (try dsimp only))
      | ((with_reducible show wpAny _ _ (call (Value.ref 106) [Value.str _ _]) _ _ _); k_dflt (have hCbw9 := @b3_c; dsimp only [CbClaim, CbLists, CbRet] at hCbw9; refine' hCbw9 _ _ _ _ _ _ _ _ _ _ _ _ _ _ _ _ _ _ _ _ _ _ _ _ ?k1w9 ?k2w9 ?k3w9 ?k4w9 ?k5w9 ?k6w9 ?kpw9 ?kdw9 ?kuw9 ?_; (case k1w9 => k_asm); (case k2w9 => k_asm); (case k3w9 => k_asm); (case k4w9 => k_asm); (case k5w9 => k_asm); (case k6w9 => first | exact rfl | assumption); (case kpw9 => first | assumption | omega); (case kdw9 => ktr_room); (case kuw9 => ktr_units); clear hCbw9); intro tw9 hw9 tkw9 Fw9 Nw9; (try dsimp only))
      | ((with_reducible show wpAny _ _ (call (Value.ref 60) [Value.str _ _]) _ _ _); k_dflt (have hCbw9 := @b1_c; dsimp only [CbClaim, CbLists, CbRet] at hCbw9; refine' hCbw9 _ _ _ _ _ _ _ _ _ _ _ _ _ _ _ _ _ _ _ _ _ _ _ _ ?k1w9 ?k2w9 ?k3w9 ?k4w9 ?k5w9 ?k6w9 ?kpw9 ?kdw9 ?kuw9 ?_; (case k1w9 => k_asm); (case k2w9 => k_asm); (case k3w9 => k_asm); (case k4w9 => k_asm); (case k5w9 => k_asm); (case k6w9 => first | exact rfl | assumption); (case kpw9 => first | assumption | omega); (case kdw9 => ktr_room); (case kuw9 => ktr_units); clear hCbw9); intro tw9 hw9 tkw9 Fw9 Nw9; (try dsimp only)))
  dsimp only [envP]; (conv in (pieL _ _) => whnf); revert X'; k_fill; intro X'
  k_steps
  all_goals first
    | exact ret_as hret (x3 f1 (by assumption)) (by k_asm) (by k_asm)
    | exact ret_as hret (x4 f2 (by assumption)) (by k_asm) (by k_asm)
    | (exfalso; first | exact x0 f1 (by assumption) (by assumption) | exact x1 f1 (by assumption) (by assumption) | exact x2 f2 (by assumption) (by assumption))
end
end Mine
end
section
open PySem PySem.W PyProof.Rows PySem.Spec PySem.Calls PySem.Builtin.Str
set_option maxRecDepth 100000
namespace Mine
theorem exs_app (env : Env) : ∀ (a b : List Stmt), execs (a ++ b) env = (execs a env >>= fun f => match f with | .next => execs b env | f => pure f)
  | [], b => by show execs b env = (pure Flow.next >>= _); rw [pure_bind]
  | st :: a, b => by
    rw [List.cons_append, execs_cons, execs_cons, bind_assoc]
    congr 1
    funext f
    cases f <;> simp only [exs_app env a b, pure_bind]
theorem wpAny_app {M : Model} {A : Around} {E : Value → Shared → Prop} {env : Env} {a b : List Stmt} {Q : Flow → Shared → Prop} {s : Shared} (h : wpAny M A (execs a env) (fun f s' => match f with | .next => wpAny M A (execs b env) Q E s' | f => Q f s') E s) : wpAny M A (execs (a ++ b) env) Q E s := by
  rw [exs_app]
  refine wpAny_bind (wpAny_mono h (fun f s' q => ?_) fun _ _ q => q)
  cases f with
  | next => exact q
  | ret v => exact wpAny_pure q
  | brk => exact wpAny_pure q
  | cont => exact wpAny_pure q
theorem pieBody : fBody (stOf 14) = pieSt 0 :: (pieL 1 5 ++ (pieL 6 3 ++ (pieSt 9 :: pieSt 10 :: pieSt 11 :: pieL 12 5))) := by kernel_rfl
/-! the signs -/
noncomputable def lettersOf (k : Nat) : List Ltr := match k with | 0 => [.s] | 1 => [.s, .t] | 2 => [.t] | 3 => [.t, .m] | 4 => [.m] | 5 => [.s, .m] | _ => []
noncomputable def sgOk (k : Nat) (S : Str) : Bool := S.length == 1 && ((b3Str S).length ≤ 10 && (if b1In (S.cps.getD 0 0 : Nat) then b3Str S == S && lettersOf k == [] else b3Str S == tx (lettersOf k)))
theorem sg_6 : ((List.range 27).all fun f => sgOk 6 (signStr 6 f)) = true := by decide +kernel
theorem sg_odd : ([1, 3, 5].all fun k => (List.range 2).all fun f => sgOk k (signStr k f)) = true := by decide +kernel
theorem sg_even : ([0, 2, 4].all fun k => (List.range 12).all fun f => sgOk k (signStr k f)) = true := by decide +kernel
theorem fm (f n : Nat) (hn : 0 < n) : (f : Int).fmod n = ((f % n : Nat) : Int) := by
  rw [Int.fmod_eq_emod_of_nonneg _ (by omega)]; rfl
theorem sg_all (k f : Nat) (hk : k ≤ 6) : sgOk k (signStr k f) = true := by
  have h27 := fm f 27 (by decide)
  have h12 := fm f 12 (by decide)
  have h2 := fm f 2 (by decide)
  have m27 := fm (f % 27) 27 (by decide)
  have m12 := fm (f % 12) 12 (by decide)
  have m2 := fm (f % 2) 2 (by decide)
  rw [Nat.mod_mod] at m27 m12 m2
  rcases (by omega : k = 6 ∨ (k = 1 ∨ k = 3 ∨ k = 5) ∨ (k = 0 ∨ k = 2 ∨ k = 4)) with rfl | h | h
  · have e : signStr (6 : Nat) f = signStr (6 : Nat) (f % 27 : Nat) := by
      unfold signStr
      rw [if_pos (show ((6:Nat):Int) = 6 by rfl), if_pos (show ((6:Nat):Int) = 6 by rfl), show ((27 : Int)) = ((27 : Nat) : Int) by rfl, h27, m27]
    rw [e]
    exact List.all_eq_true.mp sg_6 _ (List.mem_range.mpr (Nat.mod_lt _ (by decide)))
  · have e : signStr (k : Nat) f = signStr (k : Nat) (f % 2 : Nat) := by
      unfold signStr
      have n6 : ¬ ((k : Nat) : Int) = 6 := by omega
      have o1 : ((k : Nat) : Int).fmod 2 = 1 := by rcases h with rfl | rfl | rfl <;> decide
      rw [if_neg n6, if_neg n6, if_pos o1, if_pos o1, show ((2 : Int)) = ((2 : Nat) : Int) by rfl, h2, m2]
    rw [e]
    have := List.all_eq_true.mp sg_odd k (by rcases h with rfl | rfl | rfl <;> simp)
    exact List.all_eq_true.mp this _ (List.mem_range.mpr (Nat.mod_lt _ (by decide)))
  · have e : signStr (k : Nat) f = signStr (k : Nat) (f % 12 : Nat) := by
      unfold signStr
      have n6 : ¬ ((k : Nat) : Int) = 6 := by omega
      have o1 : ¬ ((k : Nat) : Int).fmod 2 = 1 := by rcases h with rfl | rfl | rfl <;> decide
      rw [if_neg n6, if_neg n6, if_neg o1, if_neg o1, show ((12 : Int)) = ((12 : Nat) : Int) by rfl, h12, m12]
    rw [e]
    have := List.all_eq_true.mp sg_even k (by rcases h with rfl | rfl | rfl <;> simp)
    exact List.all_eq_true.mp this _ (List.mem_range.mpr (Nat.mod_lt _ (by decide)))
end Mine
end
section
open PySem PySem.W
set_option maxRecDepth 100000
namespace Mine
noncomputable def feq (a b : UInt64) : Bool := Float64.cmp a b == some .eq
noncomputable def fgt (a b : UInt64) : Bool := Float64.cmp a b == some .gt
noncomputable def litB (k : Nat) : Bool × Bool × Bool := match k with
  | 0 => (true, false, false) | 1 => (true, true, false) | 2 => (false, true, false) | 3 => (false, true, true) | 4 => (false, false, true) | 5 => (true, false, true) | _ => (false, false, false)
noncomputable def kindN (i sh : Nat) : Nat := if sh = 4 then 6 else (6 * (2 * i + 1) + 16) / 32 % 6
noncomputable def toldF (hue share value : Int) : F3 := if share = 0 then (0, 0, qD value 4) else (qD hue 32, qD share 4, qD value 4)
noncomputable def dueF (hue share value whole : Int) : F3 := if share = 0 then (0, qD whole 32, 0) else (qD hue 32, qD whole 32, Float64.div (qD (value * share) 16) (qD (if 32 - whole < whole then 32 - whole else whole) 16))
noncomputable def eq3 (a b : F3) : Bool := feq a.1 b.1 && (feq a.2.1 b.2.1 && feq a.2.2 b.2.2)
noncomputable def chk (hue share value whole : Int) (k : Nat) : Bool :=
  match toRgb (qD hue 32) (qD share 4) (qD value 4) with
  | none => false
  | some (r, g, b) =>
    ((match toHsv r g b with | some x => eq3 x (toldF hue share value) | none => false) && ((match toHls r g b with | some x => eq3 x (dueF hue share value whole) | none => false) &&
      ((fgt r (qD whole 32) == (litB k).1 && (fgt g (qD whole 32) == (litB k).2.1 && fgt b (qD whole 32) == (litB k).2.2)) && !(Float64.isZero (qD (if 32 - whole < whole then 32 - whole else whole) 16) && decide (share ≠ 0)))))
noncomputable def chkAt (i sh v : Nat) : Bool := chk (2 * i + 1) (4 - sh) (v + 1) ((v + 1) * (8 - (4 - sh))) (kindN i sh)
noncomputable def chkRow (i : Nat) : Bool := (List.range 5).all fun sh => (List.range 4).all fun v => chkAt i sh v
theorem chk_0 : chkRow 0 = true := by decide +kernel
theorem chk_1 : chkRow 1 = true := by decide +kernel
theorem chk_2 : chkRow 2 = true := by decide +kernel
theorem chk_3 : chkRow 3 = true := by decide +kernel
theorem chk_4 : chkRow 4 = true := by decide +kernel
theorem chk_5 : chkRow 5 = true := by decide +kernel
theorem chk_6 : chkRow 6 = true := by decide +kernel
theorem chk_7 : chkRow 7 = true := by decide +kernel
theorem chk_8 : chkRow 8 = true := by decide +kernel
theorem chk_9 : chkRow 9 = true := by decide +kernel
theorem chk_10 : chkRow 10 = true := by decide +kernel
theorem chk_11 : chkRow 11 = true := by decide +kernel
theorem chk_12 : chkRow 12 = true := by decide +kernel
theorem chk_13 : chkRow 13 = true := by decide +kernel
theorem chk_14 : chkRow 14 = true := by decide +kernel
theorem chk_15 : chkRow 15 = true := by decide +kernel
theorem chk_all : ∀ i, i < 16 → chkRow i = true
  | 0, _ => chk_0
  | 1, _ => chk_1
  | 2, _ => chk_2
  | 3, _ => chk_3
  | 4, _ => chk_4
  | 5, _ => chk_5
  | 6, _ => chk_6
  | 7, _ => chk_7
  | 8, _ => chk_8
  | 9, _ => chk_9
  | 10, _ => chk_10
  | 11, _ => chk_11
  | 12, _ => chk_12
  | 13, _ => chk_13
  | 14, _ => chk_14
  | 15, _ => chk_15
  | n + 16, h => absurd h (Nat.not_lt.mpr (Nat.le_add_left 16 n))
noncomputable def hueEq (h h' : UInt64) : Bool := Float64.isFinite (Float64.mul h f6) && (Float64.isFinite (Float64.mul h' f6) && (decide ((truncI (Float64.mul h f6)).natAbs < 1000) && (decide ((truncI (Float64.mul h' f6)).natAbs < 1000) && (decide ((truncI (Float64.mul h f6)).fmod 6 = (truncI (Float64.mul h' f6)).fmod 6) && (Float64.sub (Float64.mul h f6) (Float64.ofInt (truncI (Float64.mul h f6))) == Float64.sub (Float64.mul h' f6) (Float64.ofInt (truncI (Float64.mul h' f6))))))))
theorem hue_eq {h h' : UInt64} (e : hueEq h h' = true) (s v : UInt64) : toRgb h' s v = toRgb h s v := by
  unfold hueEq at e
  simp only [Bool.and_eq_true, decide_eq_true_eq, beq_iff_eq] at e
  obtain ⟨e1, e2, e3, e4, e5, e6⟩ := e
  have q : qF h' s v = qF h s v := by unfold qF; rw [show fracF h' = fracF h from e6.symm]
  have t : tF h' s v = tF h s v := by unfold tF; rw [show fracF h' = fracF h from e6.symm]
  unfold toRgb
  rw [if_pos e1, if_pos e2, if_pos e3, if_pos e4, e5, q, t]
theorem hue_all : ((List.range 16).all fun i => (List.range 3).all fun tn => hueEq (qD (2 * (i : Int) + 1) 32) (Float64.add (qD (2 * (i : Int) + 1) 32) (Float64.ofInt (tn : Int)))) = true := by decide +kernel
end Mine
end
section
open PySem PySem.W PyProof.Rows PySem.Spec PySem.Calls PySem.Builtin.Str
set_option maxRecDepth 100000
namespace Mine
noncomputable abbrev triQ (x : F3) (a b c : Tok) : Obj := tupQ (.float x.1 a) (.float x.2.1 b) (.float x.2.2 c)
noncomputable def kindZ (hue share : Int) : Int := if share = 0 then 6 else ((6 * hue + 16).fdiv 32).fmod 6
noncomputable def pcOf (x : Int) : List Ltr := lettersOf (kindN ((x.fmod 1000000).toNat % 16) ((x.fmod 1000000).toNat / 16 % 5))
theorem kindN_le (i sh : Nat) : kindN i sh ≤ 6 := by unfold kindN; split <;> omega
theorem lettersOf_pcs : ∀ k, k ≤ 6 → lettersOf k ∈ pcs := by decide +kernel
theorem pcOf_pcs (x : Int) : pcOf x ∈ pcs := lettersOf_pcs _ (kindN_le _ _)
theorem lit_of : ∀ k, k ≤ 6 → litTxt (litB k).1 (litB k).2.1 (litB k).2.2 = lettersOf k := by decide +kernel
theorem let_len : ∀ k, k ≤ 6 → (lettersOf k).length ≤ 2 := by decide +kernel
theorem piece_facts (i sh v tn : Nat) (hi : i < 16) (hs : sh < 5) (hv : v < 4) (ht : tn < 3) : ∃ r g b h1 h2 h3 l1 l2 l3, toRgb (Float64.add (qD (2 * (i : Int) + 1) 32) (Float64.ofInt tn)) (qD (4 - (sh : Int)) 4) (qD ((v : Int) + 1) 4) = some (r, g, b) ∧ toHsv r g b = some (h1, h2, h3) ∧ toHls r g b = some (l1, l2, l3) ∧
    eq3 (h1, h2, h3) (toldF (2 * (i : Int) + 1) (4 - (sh : Int)) ((v : Int) + 1)) = true ∧ eq3 (l1, l2, l3) (dueF (2 * (i : Int) + 1) (4 - (sh : Int)) ((v : Int) + 1) (((v : Int) + 1) * (8 - (4 - (sh : Int))))) = true ∧
    (fgt r (qD (((v : Int) + 1) * (8 - (4 - (sh : Int)))) 32) = (litB (kindN i sh)).1 ∧ fgt g (qD (((v : Int) + 1) * (8 - (4 - (sh : Int)))) 32) = (litB (kindN i sh)).2.1 ∧ fgt b (qD (((v : Int) + 1) * (8 - (4 - (sh : Int)))) 32) = (litB (kindN i sh)).2.2) ∧
    ((4 - (sh : Int)) ≠ 0 → Float64.isZero (qD (if 32 - (((v : Int) + 1) * (8 - (4 - (sh : Int)))) < (((v : Int) + 1) * (8 - (4 - (sh : Int)))) then 32 - (((v : Int) + 1) * (8 - (4 - (sh : Int)))) else (((v : Int) + 1) * (8 - (4 - (sh : Int))))) 16) = false) := by
  have ht2 : toRgb (Float64.add (qD (2 * (i : Int) + 1) 32) (Float64.ofInt tn)) (qD (4 - (sh : Int)) 4) (qD ((v : Int) + 1) 4) = toRgb (qD (2 * (i : Int) + 1) 32) (qD (4 - (sh : Int)) 4) (qD ((v : Int) + 1) 4) :=
    hue_eq (List.all_eq_true.mp (List.all_eq_true.mp hue_all i (List.mem_range.mpr hi)) tn (List.mem_range.mpr ht)) _ _
  rw [ht2]
  clear ht2
  have h := List.all_eq_true.mp (List.all_eq_true.mp (chk_all i hi) sh (List.mem_range.mpr hs)) v (List.mem_range.mpr hv)
  unfold chkAt at h
  generalize (2 * (i : Int) + 1) = hue at h ⊢
  generalize (4 - (sh : Int)) = share at h ⊢
  generalize ((v : Int) + 1) = value at h ⊢
  generalize (value * (8 - share)) = whole at h ⊢
  generalize kindN i sh = k at h ⊢
  unfold chk at h
  split at h
  · cases h
  rename_i r g b er
  simp only [Bool.and_eq_true] at h
  obtain ⟨a3, a4, a5, a6⟩ := h
  split at a3
  case h_2 => cases a3
  rename_i x ex
  split at a4
  case h_2 => cases a4
  rename_i z ez
  obtain ⟨x1, x2, x3⟩ := x
  obtain ⟨z1, z2, z3⟩ := z
  refine ⟨r, g, b, x1, x2, x3, z1, z2, z3, er, ex, ez, a3, a4, ⟨by simpa using a5.1, by simpa using a5.2.1, by simpa using a5.2.2⟩, fun hne => ?_⟩
  · simp only [Bool.not_eq_true', Bool.and_eq_false_iff, decide_eq_false_iff_not] at a6
    rcases a6 with a6 | a6
    · exact a6
    · exact absurd hne a6
noncomputable def Cur (L : Addr) (o : Obj) (Dd : Addr) : Prop := o.data = .cell (some (.ref Dd))
section
variable (w : World) (mean : ExcName → Option Value) (mg mb : Str → Option Value) (news : List (Addr × Obj))
  (dp un : Nat) (gd : Option (List Code)) (cn : Str) (cs : Scope) (a : Addr) (ccd : Value) (cl : List (Str × Addr)) (outer : List Env) (base : Heap) (gh h : Heap) (L₀ L : Addr) (m : Str → Option Value) (s : Shared) (tk : Nat) (Q : Flow → Shared → Prop) (E : Value → Shared → Prop)
theorem pie_B (y hue share value whole : Int) (o : Obj) (od : o.data = .cell none) (hh : 1 ≤ hue ∧ hue ≤ 31) (hs : 0 ≤ share ∧ share ≤ 4) (hv : 1 ≤ value ∧ value ≤ 4) (hw : whole = value * (8 - share)) (hz : share ≠ 0 → Float64.isZero (qD (if 32 - whole < whole then 32 - whole else whole) 16) = false) (hne : ∀ q ∈ news, q.1 ≠ L + 1) (htk : 0 < tk)
  (B' : Below (ktrTop dp un gd cn cs L₀ a ccd cl outer) base (envX cn cs L₀ a ccd cl :: outer) gh) (X' : (KT w.params).In gh) (T' : Top qV looseV mean mg mb gh)
  (F' : Fr gh L h m) (e1 : HoldZ m (Str.ofString "y") y) (e2 : HoldZ m (Str.ofString "hue") hue) (e3 : HoldZ m (Str.ofString "share") share) (e4 : HoldZ m (Str.ofString "value") value) (e5 : HoldZ m (Str.ofString "whole") whole) (e6 : HoldZ m (Str.ofString "kind") 6)
  (N' : News gh L h ((L + 1, o) :: news)) (hdp : dp + 6 < recursionLimit) (hun : un + 100 < cLine)
  (hnext : ∀ h' tk' m' Td Dd o' u1 u2 u3 v1 v2 v3, Fr gh L h' m' → News gh L h' ((L + 1, o') :: (Dd, triQ (dueF hue share value whole) v1 v2 v3) :: (Td, triQ (toldF hue share value) u1 u2 u3) :: news) → Td ≠ L + 1 → Dd ≠ L + 1 → o'.data = .cell (some (.ref Dd)) → (u1 ≠ 0 ∧ u2 ≠ 0 ∧ u3 ≠ 0 ∧ v1 ≠ 0 ∧ v2 ≠ 0 ∧ v3 ≠ 0) →
    HoldZ m' (Str.ofString "y") y → HoldZ m' (Str.ofString "hue") hue → HoldZ m' (Str.ofString "share") share → HoldZ m' (Str.ofString "value") value → HoldZ m' (Str.ofString "kind") (kindZ hue share) → m' (Str.ofString "told") = some (.ref Td) → Q .next { s with heap := h', toks := tk' }) :
  wpAny (model rwT.prog w) ((ktrTop dp un gd cn cs L₀ a ccd cl outer).deeper (envP L)) (execs (pieL 6 3) (envP L)) Q E { s with heap := h, toks := tk } := by
  obtain ⟨t1, e1⟩ := e1
  obtain ⟨t2, e2⟩ := e2
  obtain ⟨t3, e3⟩ := e3
  obtain ⟨t4, e4⟩ := e4
  obtain ⟨t5, e5⟩ := e5
  obtain ⟨t6, e6⟩ := e6
  have F6 := know F' e6
  have F5 := know F6 (n := Str.ofString "whole") (v := .int whole t5) (by rw [if_neg (by decide)]; exact e5)
  have F4 := know F5 (n := Str.ofString "value") (v := .int value t4) (by rw [if_neg (by decide), if_neg (by decide)]; exact e4)
  have F3 := know F4 (n := Str.ofString "share") (v := .int share t3) (by rw [if_neg (by decide), if_neg (by decide), if_neg (by decide)]; exact e3)
  have F2 := know F3 (n := Str.ofString "hue") (v := .int hue t2) (by rw [if_neg (by decide), if_neg (by decide), if_neg (by decide), if_neg (by decide)]; exact e2)
  have F1 := know F2 (n := Str.ofString "y") (v := .int y t1) (by rw [if_neg (by decide), if_neg (by decide), if_neg (by decide), if_neg (by decide), if_neg (by decide)]; exact e1)
  by_cases s0 : share = 0
  · subst s0
    refine pie_B0 w mean mg mb news dp un gd cn cs a ccd cl outer base gh h L₀ L m s tk Q E y hue value whole t1 t2 t3 t4 t5 t6 o od hv ⟨by omega, by omega⟩ hne htk B' X' T' F1 N' hdp hun ?_
    intro h' tk' m' Td Dd o' u1 u2 u3 v1 v2 v3 F N d1 d2 od' us g1 g2 g3 g4 g5 g6
    refine hnext h' tk' m' Td Dd o' u1 u2 u3 v1 v2 v3 F ?_ d1 d2 od' us g1 g2 g3 g4 ?_ g6
    · have x1 : dueF hue 0 value whole = (0, qD whole 32, 0) := if_pos rfl
      have x2 : toldF hue 0 value = (0, 0, qD value 4) := if_pos rfl
      rw [x1, x2]; exact N
    · have x3 : kindZ hue 0 = 6 := if_pos rfl
      rw [x3]; exact g5
  · have hw1 : 1 ≤ whole ∧ whole ≤ 31 ∧ 0 ≤ value * share ∧ value * share ≤ 16 := by
      rcases (by omega : share = 1 ∨ share = 2 ∨ share = 3 ∨ share = 4) with rfl | rfl | rfl | rfl <;> (rw [hw]; omega)
    refine pie_B1 w mean mg mb news dp un gd cn cs a ccd cl outer base gh h L₀ L m s tk Q E y hue share value whole t1 t2 t3 t4 t5 t6 o od hh ⟨by omega, by omega⟩ hv ⟨hw1.1, hw1.2.1⟩ hw1.2.2 (hz s0) hne htk B' X' T' F1 N' hdp hun ?_
    intro h' tk' m' Td Dd o' u1 u2 u3 v1 v2 v3 F N d1 d2 od' us g1 g2 g3 g4 g5 g6
    refine hnext h' tk' m' Td Dd o' u1 u2 u3 v1 v2 v3 F ?_ d1 d2 od' us g1 g2 g3 g4 ?_ g6
    · have x1 : dueF hue share value whole = (qD hue 32, qD whole 32, Float64.div (qD (value * share) 16) (qD (mnZ whole) 16)) := if_neg s0
      have x2 : toldF hue share value = (qD hue 32, qD share 4, qD value 4) := if_neg s0
      rw [x1, x2]; exact N
    · have x3 : kindZ hue share = ((6 * hue + 16).fdiv 32).fmod 6 := if_neg s0
      rw [x3]; exact g5
end
end Mine
end
section
open PySem PySem.W PyProof.Rows PySem.Spec PySem.Calls PySem.Builtin.Str
set_option maxRecDepth 100000
namespace Mine
theorem f1000 (x : Int) : 0 ≤ x.fmod 1000000 ∧ x.fmod 1000000 < 1000000 := by
  rw [Int.fmod_eq_emod_of_nonneg _ (by omega)]; omega
theorem fdn (n d : Nat) : (n : Int).fdiv (d : Nat) = ((n / d : Nat) : Int) := by
  rw [Int.fdiv_eq_ediv_of_nonneg _ (by omega)]; rfl
theorem kindZ_is (i sh : Nat) (hs : sh < 5) : kindZ (2 * (i : Int) + 1) (4 - (sh : Int)) = (kindN i sh : Int) := by
  unfold kindZ kindN
  by_cases h : sh = 4
  · subst h; rfl
  · rw [if_neg (by omega), if_neg h, show (6 * (2 * (i : Int) + 1) + 16 : Int) = ((6 * (2 * i + 1) + 16 : Nat) : Int) by omega, show (32 : Int) = ((32 : Nat) : Int) by rfl, fdn, show (6 : Int) = ((6 : Nat) : Int) by rfl, fm _ 6 (by omega)]
theorem eq3_get {a1 a2 a3 : UInt64} {b : F3} (h : eq3 (a1, a2, a3) b = true) : (Float64.cmp a1 b.1 == some Ordering.eq) = true ∧ (Float64.cmp a2 b.2.1 == some Ordering.eq) = true ∧ (Float64.cmp a3 b.2.2 == some Ordering.eq) = true := by
  unfold eq3 feq at h
  simp only [Bool.and_eq_true] at h
  exact h
theorem dueF_mid (hue share value whole : Int) : (dueF hue share value whole).2.1 = qD whole 32 := by
  unfold dueF; split <;> rfl
theorem sub3 {a b c : Addr × Obj} {l : List (Addr × Obj)} : ∀ x ∈ l, x ∈ a :: b :: c :: l := fun _ hx => .tail _ (.tail _ (.tail _ hx))
theorem hueB {i : Nat} (h : i < 16) : 1 ≤ 2 * (i : Int) + 1 ∧ 2 * (i : Int) + 1 ≤ 31 := by omega
theorem shB {i : Nat} (h : i < 5) : 0 ≤ 4 - (i : Int) ∧ 4 - (i : Int) ≤ 4 := by omega
theorem vB {i : Nat} (h : i < 4) : 1 ≤ (i : Int) + 1 ∧ (i : Int) + 1 ≤ 4 := by omega
theorem tnB {i : Nat} (h : i < 3) : (i : Int).natAbs < 1000 := by omega
theorem yB {k y : Nat} (h : k ≤ 6) (hy : (y : Int) < 1000000) : 0 ≤ (k : Int) ∧ (k : Int) ≤ 6 ∧ 0 ≤ ((y / 960 : Nat) : Int) ∧ ((y / 960 : Nat) : Int) ≤ 2000 := by omega
set_option maxHeartbeats 2000000 in
theorem piece_c (w : World) (mean : ExcName → Option Value) (mg mb : Str → Option Value) (news : List (Addr × Obj)) (x : Int) (tt : Tok) :
   GClaim 32 500 w mean mg mb 118 news [.int x tt] (fun t => .str (tx (pcOf x)) t) := by
  k_with_none
  dsimp only [GClaim, CbRet]; k_fill; intros; rename_i hret
  refine wpAny_call ?_
  k_dflt (refine' code_defC ?k1 ?k2 ?k3 ?k4 ?k5 ?kA ?kF ?kK ?k6 ?k7 ?k8 ?k9 ?kB ?kD ?_ ?c2 ?c3 ?c4; (case kA => exact rfl); (case kF => exact rfl); (case kK => assumption); (case k1 => k_asm); (case k2 => k_asm); (case k3 => k_asm); (case k4 => k_asm); (case k5 => k_asm); (case k6 => k_is); (case k7 => k_is); (case k8 => ktr_room); (case k9 => exact BindsTo.of_eq rfl); (case kB => exact rfl); (case kD => decide +kernel); (case c2 => exact rfl); (case c3 => exact rfl); (case c4 => exact rfl); k_whole)
  intro g' L' h' tk' cells' FG' F' N' Y' B' X' T' l1; (try k_lt l1); k_cells Y'; (try simp only [List.cons_append, List.nil_append] at N'); (try dsimp only); (try k_lift B'); (try k_fold)
  rename_i o od
  have N := N'
  have od' : o.data = .cell none := od
  rw [pieBody]
  have F0 := know F' (n := Str.ofString "x") (v := .int x tt) rfl
  have hL : ∀ q ∈ news, q.1 ≠ L' + 1 := fun q hq => Nat.ne_of_lt (Nat.lt_succ_of_lt (l1 q hq))
  obtain ⟨y0, y1⟩ := f1000 x
  have hp : pcOf x = lettersOf (kindN ((x.fmod 1000000).toNat % 16) ((x.fmod 1000000).toNat / 16 % 5)) := rfl
  obtain ⟨y, hy⟩ : ∃ y : Nat, x.fmod 1000000 = (y : Int) := ⟨_, (Int.toNat_of_nonneg y0).symm⟩
  rw [hy] at y0 y1 hp
  rw [Int.toNat_natCast] at hp
  rw [hp] at hret
  refine wpAny_execs_cons (pie_A0 w mean mg mb ((L' + 1, o) :: news) _ _ _ _ _ _ _ _ _ _ _ _ _ L' _ _ _ _ _ x tt B' X' T' F0 N (lt_dn (by assumption) (by decide)) (lt_dn (by assumption) (by decide)) ?_)
  rw [hy]
  intro h2 tk2 m2 p2 F2 N2 ey
  obtain ⟨ty, ey⟩ := ey
  have F2' := know F2 ey
  refine wpAny_app (wpAny_toks (pie_A1 w mean mg mb ((L' + 1, o) :: news) _ _ _ _ _ _ _ _ _ _ _ _ _ L' _ _ _ _ _ y ty ⟨y0, y1⟩ B' X' T' F2' N2 (lt_dn (by assumption) (by decide)) (lt_dn (by assumption) (by decide)) ?_))
  intro h3 tk3 m3 F3 N3 g1 g2 g3 g4 g5 g6 hle3
  have p3 : 0 < tk3 := Nat.lt_of_lt_of_le p2 hle3
  clear hle3
  have c16 : (16 : Int) = ((16 : Nat) : Int) := rfl
  have q1 : (y : Int).fmod 16 = ((y % 16 : Nat) : Int) := fm y 16 (by decide)
  have q2 : ((y : Int).fdiv 16).fmod 5 = ((y / 16 % 5 : Nat) : Int) := by
    rw [show (16 : Int) = ((16 : Nat) : Int) from rfl, fdn, show (5 : Int) = ((5 : Nat) : Int) from rfl, fm _ 5 (by decide)]
  have q3 : ((y : Int).fdiv 80).fmod 4 = ((y / 80 % 4 : Nat) : Int) := by
    rw [show (80 : Int) = ((80 : Nat) : Int) from rfl, fdn, show (4 : Int) = ((4 : Nat) : Int) from rfl, fm _ 4 (by decide)]
  have q4 : ((y : Int).fdiv 320).fmod 3 = ((y / 320 % 3 : Nat) : Int) := by
    rw [show (320 : Int) = ((320 : Nat) : Int) from rfl, fdn, show (3 : Int) = ((3 : Nat) : Int) from rfl, fm _ 3 (by decide)]
  have q5 : (y : Int).fdiv 960 = ((y / 960 : Nat) : Int) := by
    rw [show (960 : Int) = ((960 : Nat) : Int) from rfl, fdn]
  rw [q1] at g2
  rw [q2] at g3
  rw [q3] at g4
  rw [q2, q3] at g5
  have hi : y % 16 < 16 := Nat.mod_lt _ (by decide)
  have hs : y / 16 % 5 < 5 := Nat.mod_lt _ (by decide)
  have hv : y / 80 % 4 < 4 := Nat.mod_lt _ (by decide)
  have ht : y / 320 % 3 < 3 := Nat.mod_lt _ (by decide)
  generalize ei : y % 16 = i at *
  generalize es : y / 16 % 5 = sh at *
  generalize ev : y / 80 % 4 = v at *
  generalize et : y / 320 % 3 = tn at *
  obtain ⟨r, g, b, h1, h2', h3', l1', l2', l3', kr, kh, kl, ke1, ke2, ⟨kf1, kf2, kf3⟩, kz⟩ := piece_facts i sh v tn hi hs hv ht
  have hk := kindN_le i sh
  have bH := hueB hi
  have bS := shB hs
  have bV := vB hv
  have kz6 := kindZ_is i sh hs
  have dm := dueF_mid (2 * (i : Int) + 1) (4 - (sh : Int)) ((v : Int) + 1) (((v : Int) + 1) * (8 - (4 - (sh : Int))))
  refine wpAny_app (wpAny_toks (pie_B w mean mg mb news _ _ _ _ _ _ _ _ _ _ _ _ _ L' _ _ _ _ _ y (2 * (i : Int) + 1) (4 - (sh : Int)) ((v : Int) + 1) (((v : Int) + 1) * (8 - (4 - (sh : Int)))) o od' bH bS bV rfl kz hL p3 B' X' T' F3 g1 g2 g3 g4 g5 g6 N3 (lt_dn (by assumption) (by decide)) (lt_dn (by assumption) (by decide)) ?_))
  intro h4 tk4 m4 Td Dd o4 u1 u2 u3 v1 v2 v3 F4 N4 hTd hDd od4 us b1 b2 b3 b4 b5 b6 hle4
  have p4 : 0 < tk4 := Nat.lt_of_lt_of_le p3 hle4
  clear hle4
  rw [kz6] at b5
  generalize eh : (2 * (i : Int) + 1) = hue at *
  generalize eS : (4 - (sh : Int)) = share at *
  generalize eV : ((v : Int) + 1) = value at *
  generalize eW : (value * (8 - share)) = whole at *
  generalize ek : kindN i sh = k at *
  generalize ED : dueF hue share value whole = DD at *
  generalize ET : toldF hue share value = TT at *
  have hL4 : ∀ q ∈ (Dd, triQ DD v1 v2 v3) :: (Td, triQ TT u1 u2 u3) :: news, q.1 ≠ L' + 1 := by
    intro q hq
    rcases List.mem_cons.mp hq with rfl | hq
    · exact hDd
    · rcases List.mem_cons.mp hq with rfl | hq
      · exact hTd
      · exact hL q hq
  obtain ⟨t1, b1⟩ := b1
  obtain ⟨t2, b2⟩ := b2
  obtain ⟨t3, b3⟩ := b3
  obtain ⟨t4, b4⟩ := b4
  obtain ⟨t5, b5⟩ := b5
  have G6 := know F4 b6
  have G5 := know G6 (n := Str.ofString "kind") (v := .int (k : Nat) t5) (by rw [if_neg (by decide)]; exact b5)
  have G4 := know G5 (n := Str.ofString "value") (v := .int value t4) (by rw [if_neg (by decide), if_neg (by decide)]; exact b4)
  have G3 := know G4 (n := Str.ofString "share") (v := .int share t3) (by rw [if_neg (by decide), if_neg (by decide), if_neg (by decide)]; exact b3)
  have G2 := know G3 (n := Str.ofString "hue") (v := .int hue t2) (by rw [if_neg (by decide), if_neg (by decide), if_neg (by decide), if_neg (by decide)]; exact b2)
  have G1 := know G2 (n := Str.ofString "y") (v := .int y t1) (by rw [if_neg (by decide), if_neg (by decide), if_neg (by decide), if_neg (by decide), if_neg (by decide)]; exact b1)
  refine wpAny_execs_cons (pie_C w mean mg mb ((Dd, triQ DD v1 v2 v3) :: (Td, triQ TT u1 u2 u3) :: news) _ _ _ _ _ _ _ _ _ _ _ _ _ L' _ _ _ _ _ y hue share value (k : Nat) r g b t1 t2 t3 t4 t5 Td o4 ⟨y0, y1⟩ bH bS bV hL4 p4 (by rw [q4]; exact tnB ht) (by rw [q4]; exact kr) B' X' T' G1 N4 (lt_dn (by assumption) (by decide)) (lt_dn (by assumption) (by decide)) ?_)
  intro h5 tk5 m5 p5 F5 N5 c1 c2 c3 c4 c5 c6
  obtain ⟨s1, c1⟩ := c1
  obtain ⟨s2, c2⟩ := c2
  obtain ⟨s4, c4, z4⟩ := c4
  obtain ⟨s5, c5, z5⟩ := c5
  obtain ⟨s6, c6, z6⟩ := c6
  have H4 := know F5 c6
  have H3 := know H4 (n := Str.ofString "green") (v := .float g s5) (by rw [if_neg (by decide)]; exact c5)
  have H2 := know H3 (n := Str.ofString "red") (v := .float r s4) (by rw [if_neg (by decide), if_neg (by decide)]; exact c4)
  have H1 := know H2 (n := Str.ofString "told") (v := .ref Td) (by rw [if_neg (by decide), if_neg (by decide), if_neg (by decide)]; exact c3)
  obtain ⟨k1, k2, k3⟩ := eq3_get ke1
  obtain ⟨k4, k5, k6⟩ := eq3_get ke2
  refine wpAny_execs_cons (pie_D w mean mg mb ((Dd, triQ DD v1 v2 v3) :: (Td, triQ TT u1 u2 u3) :: news) _ _ _ _ _ _ _ _ _ _ _ _ _ L' _ _ _ _ _ y (k : Nat) r g b h1 h2' h3' l1' l2' l3' _ _ _ _ _ _ s1 s2 s4 s5 s6 u1 u2 u3 v1 v2 v3 Td Dd o4 hL4 p5 z4 z5 z6 od4 (.tail _ (.head _)) (.head _) ⟨us.1, us.2.1, us.2.2.1⟩ us.2.2.2 kh kl k1 k2 k3 k4 k5 k6 B' X' T' H1 N5 (lt_dn (by assumption) (by decide)) (lt_dn (by assumption) (by decide)) ?_)
  intro h6 tk6 F6 N6
  have nm : ∀ {n : Str} {v : Value}, n ≠ Str.ofString "told" → n ≠ Str.ofString "red" → n ≠ Str.ofString "green" → n ≠ Str.ofString "blue" → m5 n = some v → (fun z => if z = Str.ofString "told" then some (Value.ref Td) else if z = Str.ofString "red" then some (.float r s4) else if z = Str.ofString "green" then some (.float g s5) else if z = Str.ofString "blue" then some (.float b s6) else m5 z) n = some v := by
    intro n v a1 a2 a3 a4 e
    show (if n = _ then _ else _) = _
    rw [if_neg a1, if_neg a2, if_neg a3, if_neg a4]; exact e
  have I5 := know F6 (n := Str.ofString "kind") (v := .int (k : Nat) s2) (nm (by decide) (by decide) (by decide) (by decide) c2)
  have I4 := know I5 (n := Str.ofString "y") (v := .int y s1) (by rw [if_neg (by decide)]; exact nm (by decide) (by decide) (by decide) (by decide) c1)
  have I3 := know I4 (n := Str.ofString "blue") (v := .float b s6) rfl
  have I2 := know I3 (n := Str.ofString "green") (v := .float g s5) rfl
  have I1 := know I2 (n := Str.ofString "red") (v := .float r s4) rfl
  refine wpAny_execs_cons (pie_E w mean mg mb ((Dd, triQ DD v1 v2 v3) :: (Td, triQ TT u1 u2 u3) :: news) _ _ _ _ _ _ _ _ _ _ _ _ _ L' _ _ _ _ _ y (k : Nat) r g b _ _ _ s1 s2 s4 s5 s6 v1 v2 v3 Dd o4 od4 (.head _) B' X' T' I1 N6 (lt_dn (by assumption) (by decide)) (lt_dn (by assumption) (by decide)) ?_)
  intro h7 tk7 m7 t7 F7 N7 j1 j2 j3
  have ll : litTxt (Float64.cmp r DD.2.1 == some Ordering.gt) (Float64.cmp g DD.2.1 == some Ordering.gt) (Float64.cmp b DD.2.1 == some Ordering.gt) = lettersOf k := by
    rw [dm]
    have w1 : (Float64.cmp r (qD whole 32) == some Ordering.gt) = (litB k).1 := kf1
    have w2 : (Float64.cmp g (qD whole 32) == some Ordering.gt) = (litB k).2.1 := kf2
    have w3 : (Float64.cmp b (qD whole 32) == some Ordering.gt) = (litB k).2.2 := kf3
    rw [w1, w2, w3]
    exact lit_of k hk
  rw [ll] at j1
  obtain ⟨r2, j2⟩ := j2
  obtain ⟨r3, j3⟩ := j3
  have J3 := know F7 j1
  have J2 := know J3 (n := Str.ofString "kind") (v := .int (k : Nat) r3) (by rw [if_neg (by decide)]; exact j3)
  have J1 := know J2 (n := Str.ofString "y") (v := .int y r2) (by rw [if_neg (by decide), if_neg (by decide)]; exact j2)
  have sg := sg_all k (y / 960) hk
  unfold sgOk at sg
  simp only [Bool.and_eq_true, beq_iff_eq, decide_eq_true_eq] at sg
  have sl := let_len k hk
  refine pie_F w mean mg mb _ _ _ _ _ _ _ _ _ _ _ _ _ _ L' _ _ _ _ _ y (k : Nat) (tx (lettersOf k)) r2 r3 t7 o4 (by rw [q5]; exact yB hk y1) (by rw [tx_len]; omega) (by rw [q5]; exact sg.2.1) (by rw [q5]; exact sg.1) ?f1 ?f2 B' X' T' J1 N7 (lt_dn (by assumption) (by decide)) (lt_dn (by assumption) (by decide)) ?_
  case f1 =>
    rw [q5]
    intro hb
    have s3 := sg.2.2
    rw [hb, if_pos rfl] at s3
    simp only [Bool.and_eq_true, beq_iff_eq] at s3
    exact ⟨s3.1, by rw [s3.2]; rfl⟩
  case f2 =>
    rw [q5]
    intro hb
    have s3 := sg.2.2
    rw [hb, if_neg Bool.false_ne_true] at s3
    simpa using s3
  intro h8 tk8 m8 t8 F8 N8
  k_steps
  all_goals (refine' cb_retS hret rfl ?zf ?zn; (case zf => k_asm); (case zn => (refine' cb_drop ?cbN ?cbS; (case cbN => assumption); (case cbS => exact sub3))))
end Mine
end
section
open PySem PySem.W PyProof.Rows PySem.Spec PySem.Calls PySem.Builtin.Str
set_option maxRecDepth 100000
namespace Mine
theorem flat_rep {α : Type} (v : α) (k : Nat) : (List.replicate k [v]).flatten = List.replicate k v := by
  induction k with
  | zero => rfl
  | succ k ih => rw [List.replicate_succ, List.flatten_cons, ih]; rfl
section
variable {prog : Program} {w : World} {A : Around} {E : Value → Shared → Prop} {s : Shared} {h₀ : Heap} {L : Addr} {m : Str → Option Value} {news : List (Addr × Obj)} {l l' : Addr} {v : Value} {xs ys : List Value} {x : Int} {u : Tok} {n n' : Nat} {Q : Value → Shared → Prop}
theorem mul_rep (F : Fr h₀ L s.heap m) (N : News h₀ L s.heap news) (hm : (l, listOf #[v] n) ∈ news) (hlo : 0 ≤ x) (hhi : x ≤ 200)
    (h : ∀ D h', Fr h₀ L h' m → News h₀ L h' ((D, listOf (List.replicate x.toNat v).toArray 0) :: news) → (∀ p ∈ news, p.1 < D) → Q (.ref D) { s with heap := h' }) : wpAny (model prog w) A (binaryOp .Mult (.ref l) (.int x u)) Q E s :=
  KMa.mul (vs := [v]) F N ⟨_, (N _ hm).1, rfl, n, rfl⟩ (by omega) (by omega) (by simp; omega) (flat_rep v x.toNat) h
theorem add_two (F : Fr h₀ L s.heap m) (N : News h₀ L s.heap news) (h1 : (l, listOf xs.toArray n) ∈ news) (h2 : (l', listOf ys.toArray n') ∈ news) (hz : xs.length + ys.length ≤ 1000)
    (h : ∀ D h', Fr h₀ L h' m → News h₀ L h' ((D, listOf (xs ++ ys).toArray 0) :: news) → (∀ p ∈ news, p.1 < D) → Q (.ref D) { s with heap := h' }) : wpAny (model prog w) A (binaryOp .Add (.ref l) (.ref l')) Q E s :=
  kmk_add_lit F N ⟨_, (N _ h1).1, rfl, n, rfl⟩ ⟨_, (N _ h2).1, rfl, n', rfl⟩ (by simp) h (by rw [sizeLine_eq]; simp; omega)
end
noncomputable abbrev rowTxt (a b c : Nat) : List Str := List.replicate a (Str.ofString "m") ++ List.replicate b (Str.ofString "t") ++ List.replicate c (Str.ofString "s")
theorem join_rows {prog : Program} {w : World} {A : Around} {E : Value → Shared → Prop} {s : Shared} {h₀ : Heap} {L : Addr} {news : List (Addr × Obj)} {D : Addr} {n a b c : Nat} {t t1 t2 t3 : Tok} {Q : Value → Shared → Prop} (N : News h₀ L s.heap news)
    (hm : (D, listOf (List.replicate a (Value.str (Str.ofString "m") t1) ++ List.replicate b (Value.str (Str.ofString "t") t2) ++ List.replicate c (Value.str (Str.ofString "s") t3)).toArray n) ∈ news) (hz : a + b + c ≤ 200)
    (h : ∀ t' k, Q (.str (Txt.join dots (rowTxt a b c)) t') { s with toks := k }) : wpAny (model prog w) A (call (.builtin "str.join") [.str dots t, .ref D]) Q E s := by
  have e : strValues (List.replicate a (Str.ofString "m", t1) ++ List.replicate b (Str.ofString "t", t2) ++ List.replicate c (Str.ofString "s", t3)) = List.replicate a (Value.str (Str.ofString "m") t1) ++ List.replicate b (Value.str (Str.ofString "t") t2) ++ List.replicate c (Value.str (Str.ofString "s") t3) := by
    simp [strValues]
  have hl : s.heap.IsList D (strValues (List.replicate a (Str.ofString "m", t1) ++ List.replicate b (Str.ofString "t", t2) ++ List.replicate c (Str.ofString "s", t3))).toArray := ⟨_, (N _ hm).1, rfl, n, by rw [e]⟩
  refine SC.join hl (texts := rowTxt a b c) (by simp) ?_ h
  have hlen : (rowTxt a b c).length = a + b + c := by simp only [rowTxt, List.length_append, List.length_replicate]
  have hf := StrLaws.joinFits (sep := dots) (texts := rowTxt a b c) (B := 1) (by
    intro y hy
    simp only [List.mem_append, List.mem_replicate] at hy
    rcases hy with (⟨_, rfl⟩ | ⟨_, rfl⟩) | ⟨_, rfl⟩ <;> decide) (by rw [hlen, show dots.length = 3 by decide]; omega)
  unfold JoinOk
  rw [hf]; rfl
theorem sub8 {a b c d e f g i : Addr × Obj} {l : List (Addr × Obj)} : ∀ x ∈ l, x ∈ a :: b :: c :: d :: e :: f :: g :: i :: l := fun _ hx => .tail _ (.tail _ (.tail _ (.tail _ (.tail _ (.tail _ (.tail _ (.tail _ hx)))))))
noncomputable def fouFor : Stmt := ((fBody (stOf 16)).drop 0).headD (.Pass default)
noncomputable def fouIn : Stmt := (forBody fouFor).headD (.Pass default)
noncomputable abbrev envF (L : Addr) : Env := envOf (Str.ofString "_law_found") (fScope (stOf 16)) L 132 (Value.ref 131)
set_option maxHeartbeats 1000000 in
theorem fou_turn (w : World) (mean : ExcName → Option Value) (mg mb : Str → Option Value) (news : List (Addr × Obj)) (x : Str) (n i j : Int) (tx1 tn ti tj : Tok) 
  (hi : 0 ≤ i ∧ i ≤ n) (hj : 0 ≤ j ∧ j ≤ n - i) (hn : n ≤ 30) (hx : x.length ≤ 60)
  (dp un : Nat) (gd : Option (List Code)) (cn : Str) (cs : Scope) (a : Addr) (ccd : Value) (cl : List (Str × Addr)) (outer : List Env) (base : Heap) (gh h : Heap) (L₀ L : Addr) (m : Str → Option Value) (s : Shared) (tk : Nat) (Q : Flow → Shared → Prop) (E : Value → Shared → Prop)
  (B' : Below (ktrTop dp un gd cn cs L₀ a ccd cl outer) base (envX cn cs L₀ a ccd cl :: outer) gh) (X' : (KT w.params).In gh) (T' : Top qV looseV mean mg mb gh)
  (F' : Fr gh L h (fun y => if y = Str.ofString "text" then some (.str x tx1) else if y = Str.ofString "size" then some (.int n tn) else if y = Str.ofString "i" then some (.int i ti) else if y = Str.ofString "j" then some (.int j tj) else m y))
  (N' : News gh L h news)
  (bb : Bool) (he : EllIs (Txt.join (Str.ofString "...") (rowTxt (i + 1).toNat j.toNat (n - i - j + 1).toNat)) (Str.ofString "m" ++ x ++ Str.ofString "s") bb)
  (hdp : dp + 6 < recursionLimit) (hun : un + 100 < cLine)
  (hret : bb = true → ∀ h' tk' m', Fr gh L h' m' → News gh L h' news → Q (.ret (.bool true)) { s with heap := h', toks := tk' })
  (hnext : bb = false → ∀ h' tk' m', Fr gh L h' m' → News gh L h' news → m' (Str.ofString "text") = some (.str x tx1) → m' (Str.ofString "size") = some (.int n tn) → m' (Str.ofString "i") = some (.int i ti) → Q .next { s with heap := h', toks := tk' }) :
  wpAny (model rwT.prog w) ((ktrTop dp un gd cn cs L₀ a ccd cl outer).deeper (envF L)) (execs (forBody fouIn) (envF L)) Q E { s with heap := h, toks := tk } := by
  k_with_none
  k_with "call ref" => (k_here; (with_reducible show wpAny _ _ (call (Value.ref 21) [Value.str _ _, Value.str _ _]) _ _ _); k_dflt (refine' EllIs.out ?kew9 _ _ _ _ _ _ _ _ _ _ _ _ _ _ _ _ _ _ _ _ _ _ _ _ ?k1w9 ?k2w9 ?k3w9 ?k4w9 ?k5w9 ?k6w9 ?kdw9 ?kuw9 ?_; (case k1w9 => k_asm); (case k2w9 => k_asm); (case k3w9 => k_asm); (case k4w9 => k_asm); (case k5w9 => k_asm); (case k6w9 => first | exact rfl | assumption); (case kdw9 => ktr_room); (case kuw9 => ktr_units); (case kew9 => assumption)); intro tw9 hw9 tkw9 Fw9 Nw9; (try dsimp only))
  k_with "binaryOp Mult ref int" => (k_here; k_dflt (refine' mul_rep ?Fw9 ?Nw9 ?lw9 ?low9 ?hiw9 ?_; (case Fw9 => k_asm); (case Nw9 => k_asm); (case lw9 => k_mem); (case low9 => omega); (case hiw9 => omega)); intro Dw9 hw9 Fw9 Nw9 l1w9; (try k_lt l1w9))
  k_with "binaryOp Add ref ref" => (k_here; k_dflt (refine' add_two ?Fw9 ?Nw9 ?lw9 ?l2w9 ?zw9 ?_; (case Fw9 => k_asm); (case Nw9 => k_asm); (case lw9 => k_mem); (case l2w9 => k_mem); (case zw9 => (simp only [List.length_append, List.length_replicate]; omega))); intro Dw9 hw9 Fw9 Nw9 l1w9; (try k_lt l1w9))
  k_with "execs cons" => ((with_reducible refine wpAny_execs_cons ?_); try dsimp only)
  k_with "call builtin:str.join" => (k_here; k_dflt (refine' join_rows ?Nw9 ?lw9 ?zw9 ?_; (case Nw9 => k_asm); (case lw9 => k_mem); (case zw9 => omega)); intro _ _)
  dsimp only [envF]; (conv in (forBody _) => whnf); revert X'; k_fill; intro X'
  k_steps
  all_goals cases bb
  all_goals first
    | (rename_i hbb; cases hbb; done)
    | exact hret rfl _ _ _ (by k_asm) (cb_drop (by assumption) sub8)
    | exact hnext rfl _ _ _ (by k_asm) (cb_drop (by assumption) sub8) rfl rfl rfl
end Mine
end
section
open PySem PySem.W PyProof.Rows PySem.Spec PySem.Calls
namespace Mine
noncomputable def FreeEnd (h₀ : Heap) (L : Addr) (wr : List Addr) (J : (Str → Option Value) → List (Addr × Obj) → Prop) (own : List (Addr × Obj)) (s₁ s₂ : Shared) : Prop :=
  ∃ h' tk m' news' nx, s₂ = { s₁ with heap := h', toks := tk } ∧ Fr h₀ L h' m' ∧ News h₀ L h' news' ∧ (∀ p ∈ nx, p ∈ news') ∧ (∀ p ∈ own, p ∈ news') ∧ (∀ p ∈ nx, p.1 ∉ wr) ∧ J m' nx
noncomputable def FreePost (h₀ : Heap) (L : Addr) (wr : List Addr) (J : (Str → Option Value) → List (Addr × Obj) → Prop) (own : List (Addr × Obj)) (s₁ : Shared) (Q : Flow → Shared → Prop) (f : Flow) (s₂ : Shared) : Prop :=
  match f with
  | .ret v => Q (.ret v) s₂
  | .brk => Q .next s₂
  | _ => FreeEnd h₀ L wr J own s₁ s₂
section
variable {prog : Program} {w : World} {A : Around} {E : Value → Shared → Prop} {s : Shared} {env : Env} {h₀ : Heap} {x : Str} {body : List Stmt} {Q : Flow → Shared → Prop}
/-- a loop whose ledger may grow -/
theorem loop_free {I : Addr} {fp wr : List Addr} {n : Nat} {P : Nat → Value → Prop} {St : Nat → Heap → Prop} {m₀ : Str → Option Value} {news : List (Addr × Obj)} (J : Nat → (Str → Option Value) → List (Addr × Obj) → Prop)
    (W : Walks prog w A I fp wr n P St) (hLf : env.locals ∉ fp) (hwr : ∀ b ∈ wr, h₀.get? b = none) (hnw : ∀ p ∈ news, p.1 ∉ wr) (hst : St 0 s.heap) (F : Fr h₀ env.locals s.heap m₀) (N : News h₀ env.locals s.heap news) (hj : J 0 m₀ news)
    (turn : ∀ i v m₁ news₁ h tk own, i < n → P i v → (∀ p ∈ news₁, p.1 ∉ wr) → (∀ p ∈ own, p.1 ∈ fp) → (∀ b ∈ fp, h₀.get? b = none → ∀ o, h.get? b = some o → (b, o) ∈ own) → St (i + 1) h → J i m₁ news₁ → Fr h₀ env.locals h (fun y => if y = x then some v else m₁ y) → News h₀ env.locals h (news₁ ++ own) →
      wpAny (model prog w) A (execs body env) (FreePost h₀ env.locals wr (J (i + 1)) own { s with heap := h, toks := tk } Q) E { s with heap := h, toks := tk })
    (done : ∀ m₁ news₁ h tk, J n m₁ news₁ → Fr h₀ env.locals h m₁ → News h₀ env.locals h news₁ → Q .next { s with heap := h, toks := tk }) :
    LoopAtV prog w A h₀ env x body Q E (.ref I) s := by
  refine ⟨I, fp, wr, n, P, St, m₀, news, J, rfl, W, hLf, hwr, hnw, hst, F, N, hj, ?_, ?_⟩
  · rintro i v m₁ news₁ s₁ own ⟨hh', tk', rfl⟩ hin hP hJ hoff hown _ hall hst' F₁ N₁
    have N₂ : News h₀ env.locals hh' (news₁ ++ own) := fun p hp => N₁ p ((List.mem_append.mp hp).elim (fun h => List.mem_append.mpr (.inr h)) fun h => List.mem_append.mpr (.inl h))
    refine wpAny_mono (turn i v m₁ news₁ hh' tk' own hin hP hoff hown hall hst' hJ F₁ N₂) (fun f s₂ p => ?_) fun _ _ e => e
    have fin : FreeEnd h₀ env.locals wr (J (i + 1)) own { s with heap := hh', toks := tk' } s₂ → LoopStepU h₀ env.locals wr own (J (i + 1)) { s with heap := hh', toks := tk' } .next s₂ := by
      rintro ⟨h', tk, m', news', nx, e, F', N', hn, ho, ha, hm⟩
      exact ⟨rfl, h', tk, m', nx, e, F', fun p hp => N' p ((List.mem_append.mp hp).elim (ho p) (hn p)), ha, hm⟩
    cases f with
    | ret v => exact .ret p
    | brk => exact .brk p
    | next => exact .next (fin p)
    | cont => exact .cont (fin p)
  · rintro h' tk m' news' F' N' _ hJ
    exact done m' news' h' tk hJ F' N'
/-- over a range by ones -/
theorem iter_rng {r : Addr} {a₀ b₀ : Int} {t₀ u₀ v₀ : Tok} {n : Nat} {m₀ : Str → Option Value} {news : List (Addr × Obj)} (J : Nat → (Str → Option Value) → List (Addr × Obj) → Prop)
    (hh : A.handled = none) (hr : IsRange s.heap r a₀ b₀ 1 t₀ u₀ v₀) (hsmall : Builtin.Range.small a₀ b₀ 1 = true) (hn : Builtin.Range.rangeSize a₀ b₀ 1 = (n : Int)) (F : Fr h₀ env.locals s.heap m₀) (N : News h₀ env.locals s.heap news) (hj : J 0 m₀ news)
    (turn : ∀ (I : Addr) i t m₁ news₁ h tk own, i < n → (∀ p ∈ news, p.1 < I) → (∀ p ∈ news₁, p.1 ≠ I) → (∃ o, h.get? I = some o ∧ (I, o) ∈ own) → J i m₁ news₁ → Fr h₀ env.locals h (fun y => if y = x then some (.int (a₀ + (i : Int)) t) else m₁ y) → News h₀ env.locals h (news₁ ++ own) →
      wpAny (model prog w) A (execs body env) (FreePost h₀ env.locals [I] (J (i + 1)) own { s with heap := h, toks := tk } Q) E { s with heap := h, toks := tk })
    (done : ∀ m₁ news₁ h tk, J n m₁ news₁ → Fr h₀ env.locals h m₁ → News h₀ env.locals h news₁ → Q .next { s with heap := h, toks := tk }) :
    wpAny (model prog w) A (pyIter (.ref r)) (fun it s₂ => LoopAtV prog w A h₀ env x body Q E it s₂) E s := by
  refine wpAny_pyIter_range hr hsmall ?_
  have W : Walks prog w A s.heap.objs.size [s.heap.objs.size] [s.heap.objs.size] n (fun i v => ∃ t, v = .int (a₀ + i * 1) t)
      (fun i h => IsRangeIter h s.heap.objs.size (a₀ + (i : Nat) * 1) ((n : Int) - (i : Nat)) 1) := Walks.range hh _ a₀ 1 n
  have hnew := next_is_new F
  have hlt : ∀ p ∈ news, p.1 < s.heap.objs.size := fun p hp => Heap.lt_size (N p hp).1
  refine loop_free J W ?_ ?_ ?_ (by show IsRangeIter _ _ _ _ _; rw [hn]; simpa using Heap.get?_push_size _ rfl) (F.push _) (fun p hp => ⟨Heap.get?_push_of_some _ (N p hp).1, (N p hp).2⟩) hj ?_ ?_
  · intro hm
    exact absurd F.ns.lt ((List.mem_singleton.mp hm) ▸ Nat.lt_irrefl _)
  · intro b hb
    rw [List.mem_singleton.mp hb]
    exact hnew
  · intro p hp hI
    exact absurd (hlt p hp) ((List.mem_singleton.mp hI) ▸ Nat.lt_irrefl _)
  · rintro i v m₁ news₁ h tk own hi ⟨t, rfl⟩ hoff hown hall hst hJ F₁ N₁
    rw [Int.mul_one] at F₁
    refine turn s.heap.objs.size i t m₁ news₁ h tk own hi hlt (fun p hp e => hoff p hp (by rw [e]; exact .head _)) ?_ hJ F₁ N₁
    have hst' : ∃ o, h.get? s.heap.objs.size = some o := ⟨_, hst⟩
    obtain ⟨o, ho⟩ := hst'
    exact ⟨o, ho, hall _ (.head _) hnew o ho⟩
  · exact done
/-- over a list of the ledger, the ledger may grow -/
theorem iter_lst {l : Addr} {vs : List Value} {o : Obj} {m₀ : Str → Option Value} {news : List (Addr × Obj)} (J : Nat → (Str → Option Value) → List (Addr × Obj) → Prop)
    (hh : A.handled = none) (hl : s.heap.IsList l vs.toArray) (hlo : (l, o) ∈ news) (F : Fr h₀ env.locals s.heap m₀) (N : News h₀ env.locals s.heap news) (hj : J 0 m₀ news)
    (turn : ∀ (I : Addr) i v m₁ news₁ h tk own, vs[i]? = some v → (∀ p ∈ news, p.1 < I) → (∀ p ∈ news₁, p.1 ≠ I) → (∃ o', h.get? I = some o' ∧ (I, o') ∈ own) → (∀ p ∈ own, p.1 = I ∨ p.1 = l) → J i m₁ news₁ → Fr h₀ env.locals h (fun y => if y = x then some v else m₁ y) → News h₀ env.locals h (news₁ ++ own) →
      wpAny (model prog w) A (execs body env) (FreePost h₀ env.locals [I] (J (i + 1)) own { s with heap := h, toks := tk } Q) E { s with heap := h, toks := tk })
    (done : ∀ m₁ news₁ h tk, J vs.length m₁ news₁ → Fr h₀ env.locals h m₁ → News h₀ env.locals h news₁ → Q .next { s with heap := h, toks := tk }) :
    wpAny (model prog w) A (pyIter (.ref l)) (fun it s₂ => LoopAtV prog w A h₀ env x body Q E it s₂) E s := by
  have hls : s.heap.get? l = some o := (N _ hlo).1
  have hlL : l ≠ env.locals := (N _ hlo).2.1
  have hlt : l < s.heap.objs.size := Heap.lt_size hls
  have hne : l ≠ s.heap.objs.size := Nat.ne_of_lt hlt
  have hlt' : ∀ p ∈ news, p.1 < s.heap.objs.size := fun p hp => Heap.lt_size (N p hp).1
  have hnew := next_is_new F
  refine wpAny_pyIter_list hl ?_
  have W := Walks.list (prog := prog) (w := w) hh s.heap.objs.size l hne vs.toArray
  have hlen : vs.toArray.size = vs.length := by simp
  rw [hlen] at W
  refine loop_free J W ?_ ?_ ?_ ⟨⟨_, Heap.get?_push_size _ rfl, rfl, rfl⟩, hl.at fun o e => Heap.get?_push_of_some _ e⟩ (F.push _) (fun p hp => ⟨Heap.get?_push_of_some _ (N p hp).1, (N p hp).2⟩) hj ?_ ?_
  · intro hm
    rcases List.mem_cons.mp hm with e | hm
    · exact absurd F.ns.lt (e ▸ Nat.lt_irrefl _)
    · exact hlL (List.mem_singleton.mp hm).symm
  · intro b hb
    rw [List.mem_singleton.mp hb]
    exact hnew
  · intro p hp hI
    exact absurd (hlt' p hp) ((List.mem_singleton.mp hI) ▸ Nat.lt_irrefl _)
  · intro i v m₁ news₁ h tk own _ hP hoff hown hall hst hJ F₁ N₁
    refine turn s.heap.objs.size i v m₁ news₁ h tk own (by simpa using hP) hlt' (fun p hp e => hoff p hp (by rw [e]; exact .head _)) ?_ (fun p hp => ?_) hJ F₁ N₁
    · obtain ⟨o', ho, _⟩ := hst.1
      exact ⟨o', ho, hall _ (.head _) hnew o' ho⟩
    · have := hown p hp
      simpa using this
  · exact done
end
end Mine
end
section
open PySem PySem.W PyProof.Rows PySem.Spec PySem.Calls PySem.Builtin.Str
set_option maxRecDepth 100000
namespace Mine
local macro_rules | `(tactic| k_fmods) => `(tactic| skip)
noncomputable def splitRow (i : Nat) : Bool := (List.range 7).all fun j => (List.range 7).all fun k => if i + j + k ≤ 6 then (Txt.split (Txt.join dots (rowTxt (i + 1) j (k + 1))) dots == rowTxt (i + 1) j (k + 1) && Txt.contains (Txt.join dots (rowTxt (i + 1) j (k + 1))) dots) && decide ((Txt.join dots (rowTxt (i + 1) j (k + 1))).length ≤ 500) else true
theorem split_0 : splitRow 0 = true := by decide +kernel
theorem split_1 : splitRow 1 = true := by decide +kernel
theorem split_2 : splitRow 2 = true := by decide +kernel
theorem split_3 : splitRow 3 = true := by decide +kernel
theorem split_4 : splitRow 4 = true := by decide +kernel
theorem split_5 : splitRow 5 = true := by decide +kernel
theorem split_6 : splitRow 6 = true := by decide +kernel
theorem split_rows : ∀ i, i < 7 → splitRow i = true
  | 0, _ => split_0
  | 1, _ => split_1
  | 2, _ => split_2
  | 3, _ => split_3
  | 4, _ => split_4
  | 5, _ => split_5
  | 6, _ => split_6
  | n + 7, h => absurd h (Nat.not_lt.mpr (Nat.le_add_left 7 n))
theorem split_row {i j k : Nat} (h : i + j + k ≤ 6) : Txt.split (Txt.join dots (rowTxt (i + 1) j (k + 1))) dots = rowTxt (i + 1) j (k + 1) ∧ Txt.contains (Txt.join dots (rowTxt (i + 1) j (k + 1))) dots = true ∧ (Txt.join dots (rowTxt (i + 1) j (k + 1))).length ≤ 500 := by
  have a := List.all_eq_true.mp (List.all_eq_true.mp (split_rows i (by omega)) j (List.mem_range.mpr (by omega))) k (List.mem_range.mpr (by omega))
  rw [if_pos h, Bool.and_eq_true, Bool.and_eq_true, beq_iff_eq, decide_eq_true_eq] at a
  exact ⟨a.1.1, a.1.2, a.2⟩
theorem row_parts (i j k : Nat) : rowTxt (i + 1) j (k + 1) = tx [.m] :: ((rowOf i j k).map (fun a => tx [a]) ++ [tx [.s]]) := by
  unfold rowTxt rowOf
  rw [tx_m, tx_t, tx_s, List.replicate_succ, List.replicate_succ' (n := k)]
  simp only [List.map_append, List.map_replicate, List.cons_append, List.append_assoc]
theorem ei_row (u : List Ltr) (hu : u.length ≤ 90) (i j k : Nat) (h : i + j + k ≤ 6) : EllIs (Txt.join dots (rowTxt (i + 1) j (k + 1))) (Str.ofString "m" ++ tx u ++ Str.ofString "s") (decide ((rowOf i j k).Sublist u)) := by
  intro w mean mg mb tw tg news
  obtain ⟨h1, h2, h3⟩ := split_row h
  have h1 := h1.trans (row_parts i j k)
  have hl : (rowOf i j k).length = i + j + k := by simp [rowOf]; omega
  have e : Str.ofString "m" ++ tx u ++ Str.ofString "s" = tx (.m :: (u ++ [.s])) := by
    rw [tx_m, tx_s, tx_app, tx_app]; rfl
  rw [e]
  have key : ellA (tx [.m]) ((rowOf i j k).map (fun a => tx [a])) (tx [.s]) (tx (.m :: (u ++ [.s]))) = decide ((rowOf i j k).Sublist u) := by
    unfold ellA
    rw [st_tx, en_tx]
    have q1 : decide ((Ltr.m :: (u ++ [.s])).take [Ltr.m].length = [.m]) = true := decide_eq_true rfl
    have q2 : decide ((Ltr.m :: (u ++ [.s])).drop ((Ltr.m :: (u ++ [.s])).length - [Ltr.s].length) = [.s]) = true := by
      apply decide_eq_true
      simp
    rw [q1, q2, tx_len, tx_len, tx_len]
    have q3 : decide ((([Ltr.m].length : Nat) : Int) > (((Ltr.m :: (u ++ [.s])).length : Nat) : Int) - (([Ltr.s].length : Nat) : Int)) = false := by
      apply decide_eq_false
      simp; omega
    rw [q3, Bool.true_and, Bool.true_and, Bool.not_false, Bool.true_and, Bool.eq_iff_iff, decide_eq_true_eq]
    have f := findAll_row (.m :: (u ++ [.s])) (u.length + 1) (by simp) (rowOf i j k) 1 (by omega)
    rw [show ((Ltr.m :: (u ++ [.s])).take (u.length + 1)).drop 1 = u by simp] at f
    have e1 : (((Ltr.m :: (u ++ [.s])).length : Nat) : Int) - (([Ltr.s].length : Nat) : Int) = ((u.length + 1 : Nat) : Int) := by simp
    rw [e1]
    exact f
  rw [← key]
  exact ell_a w mean mg mb _ _ tw tg news (tx [.m]) (tx [.s]) _ h2 h1 (by decide) (by decide) (by decide) (by decide) (by rw [tx_len]; simp; omega) h3 (by rw [List.length_map, hl]; omega) (by
    intro x hx
    obtain ⟨a, _, rfl⟩ := List.mem_map.mp hx
    rw [tx_len]; simp)
noncomputable abbrev forIter : Stmt → PySem.Expr | .For _ i _ _ _ => i | _ => .Constant .none 0 default
section
variable (w : World) (mean : ExcName → Option Value) (mg mb : Str → Option Value) (news : List (Addr × Obj))
  (dp un : Nat) (gd : Option (List Code)) (cn : Str) (cs : Scope) (a : Addr) (ccd : Value) (cl : List (Str × Addr)) (outer : List Env) (base : Heap) (gh h : Heap) (L₀ L : Addr) (m : Str → Option Value) (s : Shared) (tk : Nat)
set_option maxHeartbeats 1000000 in
theorem fou_rng2 (Q E : Value → Shared → Prop) (n i : Int) (tn ti : Tok) (hi : 0 ≤ i ∧ i ≤ n) (hn : n ≤ 30)
  (B' : Below (ktrTop dp un gd cn cs L₀ a ccd cl outer) base (envX cn cs L₀ a ccd cl :: outer) gh) (X' : (KT w.params).In gh) (T' : Top qV looseV mean mg mb gh)
  (F' : Fr gh L h (fun y => if y = Str.ofString "size" then some (.int n tn) else if y = Str.ofString "i" then some (.int i ti) else m y)) (N' : News gh L h news) (hdp : dp + 6 < recursionLimit) (hun : un + 100 < cLine)
  (hq : ∀ r h' tk' t1 t2 t3, IsRange h' r 0 (n + 1 - i) 1 t1 t2 t3 → Fr gh L h' (fun y => if y = Str.ofString "size" then some (.int n tn) else if y = Str.ofString "i" then some (.int i ti) else m y) → News gh L h' news → Q (.ref r) { s with heap := h', toks := tk' }) :
  wpAny (model rwT.prog w) ((ktrTop dp un gd cn cs L₀ a ccd cl outer).deeper (envF L)) (eval (forIter fouIn) (envF L)) Q E { s with heap := h, toks := tk } := by
  k_with_none
  dsimp only [envF]; (conv in (forIter _) => whnf); revert X'; k_fill; intro X'
  k_steps
  all_goals exact hq _ _ _ _ _ _ (by assumption) (by assumption) (by assumption)
set_option maxHeartbeats 1000000 in
theorem fou_rng1 (Q E : Value → Shared → Prop) (n : Int) (tn : Tok) (hn : 0 ≤ n ∧ n ≤ 30)
  (B' : Below (ktrTop dp un gd cn cs L₀ a ccd cl outer) base (envX cn cs L₀ a ccd cl :: outer) gh) (X' : (KT w.params).In gh) (T' : Top qV looseV mean mg mb gh)
  (F' : Fr gh L h (fun y => if y = Str.ofString "size" then some (.int n tn) else m y)) (N' : News gh L h news) (hdp : dp + 6 < recursionLimit) (hun : un + 100 < cLine)
  (hq : ∀ r h' tk' t1 t2 t3, IsRange h' r 0 (n + 1) 1 t1 t2 t3 → Fr gh L h' (fun y => if y = Str.ofString "size" then some (.int n tn) else m y) → News gh L h' news → Q (.ref r) { s with heap := h', toks := tk' }) :
  wpAny (model rwT.prog w) ((ktrTop dp un gd cn cs L₀ a ccd cl outer).deeper (envF L)) (eval (forIter fouFor) (envF L)) Q E { s with heap := h, toks := tk } := by
  k_with_none
  dsimp only [envF]; (conv in (forIter _) => whnf); revert X'; k_fill; intro X'
  k_steps
  all_goals exact hq _ _ _ _ _ _ (by assumption) (by assumption) (by assumption)
noncomputable def forPx : Stmt → Pos | .For (.Name _ p) _ _ _ _ => p | _ => default
theorem fouIn_is : fouIn = .For (.Name (Str.ofString "j") (forPx fouIn)) (forIter fouIn) (forBody fouIn) [] fouIn.pos := by kernel_rfl
theorem fouFor_is : fouFor = .For (.Name (Str.ofString "i") (forPx fouFor)) (forIter fouFor) [fouIn] [] fouFor.pos := by kernel_rfl
theorem rng_size (n : Nat) : Builtin.Range.rangeSize 0 (n : Int) 1 = (n : Int) := by
  unfold Builtin.Range.rangeSize
  rw [if_pos (by decide)]
  split
  · rw [Int.ediv_one]; omega
  · omega
theorem rng_small_all : ((List.range 41).all fun n => Builtin.Range.small 0 (n : Int) 1) = true := by decide +kernel
theorem rng_small (n : Nat) (h : n ≤ 40) : Builtin.Range.small 0 (n : Int) 1 = true := List.all_eq_true.mp rng_small_all n (List.mem_range.mpr (by omega))
variable (Q : Flow → Shared → Prop) (E : Value → Shared → Prop)
theorem fou_in (u : List Ltr) (n i : Nat) (tt tn ti : Tok) (hi : i ≤ n) (hn : n ≤ 6) (hu : u.length ≤ 50)
  (B' : Below (ktrTop dp un gd cn cs L₀ a ccd cl outer) base (envX cn cs L₀ a ccd cl :: outer) gh) (X' : (KT w.params).In gh) (T' : Top qV looseV mean mg mb gh)
  (F' : Fr gh L h m) (N' : News gh L h news) (g1 : m (Str.ofString "text") = some (.str (tx u) tt)) (g2 : m (Str.ofString "size") = some (.int n tn)) (g3 : m (Str.ofString "i") = some (.int i ti)) 
  (hE : PassesOwn (model rwT.prog w) ((ktrTop dp un gd cn cs L₀ a ccd cl outer).deeper (envF L)) (envF L) E) (hdp : dp + 6 < recursionLimit) (hun : un + 100 < cLine)
  (hret : (∃ j k, i + j + k = n ∧ (rowOf i j k).Sublist u) → ∀ h' tk' m', Fr gh L h' m' → News gh L h' news → Q (.ret (.bool true)) { s with heap := h', toks := tk' })
  (hnext : (∀ j k, i + j + k = n → ¬ (rowOf i j k).Sublist u) → ∀ h' tk' m', Fr gh L h' m' → News gh L h' news → m' (Str.ofString "text") = some (.str (tx u) tt) → m' (Str.ofString "size") = some (.int n tn) → Q .next { s with heap := h', toks := tk' }) :
  wpAny (model rwT.prog w) ((ktrTop dp un gd cn cs L₀ a ccd cl outer).deeper (envF L)) (exec fouIn (envF L)) Q E { s with heap := h, toks := tk } := by
  rw [fouIn_is]
  refine For_invVF (env := envF L) (h₀ := gh) F' rfl rfl ?_ (hE := hE)
  have F1 := know (know F' g3) (n := Str.ofString "size") (v := .int n tn) (by rw [if_neg (by decide)]; exact g2)
  refine fou_rng2 w mean mg mb news dp un gd cn cs a ccd cl outer base gh h L₀ L m s tk _ E n i tn ti (by omega) (by omega) B' X' T' F1 N' hdp hun ?_
  intro r h2 tk2 t1 t2 t3 hr F2 N2
  have en : (n : Int) + 1 - i = ((n + 1 - i : Nat) : Int) := by omega
  rw [en] at hr
  refine iter_rng (env := envF L) (s := { s with heap := h2, toks := tk2 }) (fun jj m₁ news₁ => news₁ = news ∧ m₁ (Str.ofString "text") = some (.str (tx u) tt) ∧ m₁ (Str.ofString "size") = some (.int n tn) ∧ m₁ (Str.ofString "i") = some (.int i ti) ∧ ∀ j, j < jj → ¬ (rowOf i j (n - i - j)).Sublist u)
    rfl hr (rng_small _ (by omega)) (rng_size _) F2 N2 ⟨rfl, by rw [if_neg (by decide), if_neg (by decide)]; exact g1, by rw [if_pos rfl], by rw [if_neg (by decide), if_pos rfl], fun j hj => absurd hj (by omega)⟩ ?_ ?_
  · rintro I j t m₁ news₁ h3 tk3 own hj hI hI2 _ ⟨rfl, e1, e2, e3, e4⟩ F3 N3
    rw [Int.zero_add] at F3
    have F4 := know (know (know (know F3 (n := Str.ofString "j") (v := .int j t) (if_pos rfl)) (n := Str.ofString "i") (v := .int i ti) (by rw [if_neg (by decide), if_neg (by decide)]; exact e3)) (n := Str.ofString "size") (v := .int n tn) (by rw [if_neg (by decide), if_neg (by decide), if_neg (by decide)]; exact e2)) (n := Str.ofString "text") (v := .str (tx u) tt) (by rw [if_neg (by decide), if_neg (by decide), if_neg (by decide), if_neg (by decide)]; exact e1)
    have ee := ei_row u (by omega) i j (n - i - j) (by omega)
    have x1 : ((i : Int) + 1).toNat = i + 1 := by omega
    have x3 : ((n : Int) - i - j + 1).toNat = n - i - j + 1 := by omega
    refine fou_turn w mean mg mb (news₁ ++ own) (tx u) n i j tt tn ti t (by omega) (by omega) (by omega) (by rw [tx_len]; omega) dp un gd cn cs a ccd cl outer base gh h3 L₀ L _ _ tk3 _ E B' X' T' F4 N3 _ (by rw [x1, x3]; exact ee) hdp hun ?_ ?_
    · intro hb h' tk' m' F5 N5
      refine hret ⟨j, n - i - j, by omega, of_decide_eq_true hb⟩ h' tk' m' F5 (cb_drop N5 fun _ hx => List.mem_append_left _ hx)
    · intro hb h' tk' m' F5 N5 q1 q2 q3
      refine ⟨h', tk', m', news₁ ++ own, news₁, rfl, F5, N5, fun _ hx => List.mem_append_left _ hx, fun _ hx => List.mem_append_right _ hx, fun p hp hm => hI2 p hp (List.mem_singleton.mp hm), rfl, q1, q2, q3, fun j' hj' => ?_⟩
      rcases Nat.lt_or_ge j' j with c | c
      · exact e4 j' c
      · have : j' = j := by omega
        subst this
        exact of_decide_eq_false hb
  · rintro m₁ news₁ h3 tk3 ⟨rfl, e1, e2, e3, e4⟩ F3 N3
    refine hnext (fun j k hjk => ?_) h3 tk3 m₁ F3 N3 e1 e2
    have := e4 j (by omega)
    rwa [show n - i - j = k by omega] at this
theorem fou_out (u : List Ltr) (n : Nat) (tt tn : Tok) (hn : n ≤ 6) (hu : u.length ≤ 50)
  (B' : Below (ktrTop dp un gd cn cs L₀ a ccd cl outer) base (envX cn cs L₀ a ccd cl :: outer) gh) (X' : (KT w.params).In gh) (T' : Top qV looseV mean mg mb gh)
  (F' : Fr gh L h m) (N' : News gh L h news) (g1 : m (Str.ofString "text") = some (.str (tx u) tt)) (g2 : m (Str.ofString "size") = some (.int n tn))
  (hE : PassesOwn (model rwT.prog w) ((ktrTop dp un gd cn cs L₀ a ccd cl outer).deeper (envF L)) (envF L) E) (hdp : dp + 6 < recursionLimit) (hun : un + 100 < cLine)
  (hret : Has u n → ∀ h' tk' m', Fr gh L h' m' → News gh L h' news → Q (.ret (.bool true)) { s with heap := h', toks := tk' })
  (hnext : ¬ Has u n → ∀ h' tk' m', Fr gh L h' m' → News gh L h' news → Q .next { s with heap := h', toks := tk' }) :
  wpAny (model rwT.prog w) ((ktrTop dp un gd cn cs L₀ a ccd cl outer).deeper (envF L)) (exec fouFor (envF L)) Q E { s with heap := h, toks := tk } := by
  rw [fouFor_is]
  refine For_invVF (env := envF L) (h₀ := gh) F' rfl rfl ?_ (hE := hE)
  have F1 := know F' g2
  refine fou_rng1 w mean mg mb news dp un gd cn cs a ccd cl outer base gh h L₀ L m s tk _ E n tn (by omega) B' X' T' F1 N' hdp hun ?_
  intro r h2 tk2 t1 t2 t3 hr F2 N2
  rw [show (n : Int) + 1 = ((n + 1 : Nat) : Int) by omega] at hr
  refine iter_rng (env := envF L) (s := { s with heap := h2, toks := tk2 }) (fun ii m₁ news₁ => news₁ = news ∧ m₁ (Str.ofString "text") = some (.str (tx u) tt) ∧ m₁ (Str.ofString "size") = some (.int n tn) ∧ ∀ i, i < ii → ∀ j k, i + j + k = n → ¬ (rowOf i j k).Sublist u)
    rfl hr (rng_small _ (by omega)) (rng_size _) F2 N2 ⟨rfl, by rw [if_neg (by decide)]; exact g1, by rw [if_pos rfl], fun j hj => absurd hj (by omega)⟩ ?_ ?_
  · rintro I i t m₁ news₁ h3 tk3 own hi hI hI2 _ ⟨rfl, e1, e2, e4⟩ F3 N3
    rw [Int.zero_add] at F3
    refine wpAny_execs_cons (fou_in w mean mg mb (news₁ ++ own) dp un gd cn cs a ccd cl outer base gh h3 L₀ L _ _ tk3 _ E u n i tt tn t (by omega) hn hu B' X' T' F3 N3 (by rw [if_neg (by decide)]; exact e1) (by rw [if_neg (by decide)]; exact e2) (by rw [if_pos rfl]) hE hdp hun ?_ ?_)
    · rintro ⟨j, k, e, z⟩ h' tk' m' F5 N5
      exact hret ⟨i, j, k, e, z⟩ h' tk' m' F5 (cb_drop N5 fun _ hx => List.mem_append_left _ hx)
    · intro hb h' tk' m' F5 N5 q1 q2
      refine wpAny_execs_nil ⟨h', tk', m', news₁ ++ own, news₁, rfl, F5, N5, fun _ hx => List.mem_append_left _ hx, fun _ hx => List.mem_append_right _ hx, fun p hp hm => hI2 p hp (List.mem_singleton.mp hm), rfl, q1, q2, fun i' hi' => ?_⟩
      rcases Nat.lt_or_ge i' i with c | c
      · exact e4 i' c
      · have : i' = i := by omega
        subst this
        exact hb
  · rintro m₁ news₁ h3 tk3 ⟨rfl, e1, e2, e4⟩ F3 N3
    refine hnext ?_ h3 tk3 m₁ F3 N3
    rintro ⟨i, j, k, e, z⟩
    exact e4 i (by omega) j k e z
end
theorem fouBody : fBody (stOf 16) = fouFor :: (fBody (stOf 16)).drop 1 := by kernel_rfl
set_option maxHeartbeats 1000000 in
theorem found_c (w : World) (mean : ExcName → Option Value) (mg mb : Str → Option Value) (news : List (Addr × Obj)) (u : List Ltr) (n : Nat) (tt tn : Tok) (hu : u.length ≤ 50) (hn : n ≤ 6) :
   GClaim 12 300 w mean mg mb 132 news [.str (tx u) tt, .int n tn] (fun _ => .bool (decide (n ≤ (gt u).l1))) := by
  k_with_none
  dsimp only [GClaim, CbRet]; k_fill; intros; rename_i hret
  refine wpAny_call ?_
  k_dflt cell_enter
  rename_i g1 L1 h1 FG F N B X T
  rw [fouBody]
  refine wpAny_execs_cons (fou_out w mean mg mb news _ _ _ _ _ _ _ _ _ _ _ _ _ _ _ _ _ _ _ u n tt tn hn hu B X T F N rfl rfl (by passes_own) (by first | exact lt_dn (by assumption) (by decide) | omega) (by first | exact lt_dn (by assumption) (by decide) | omega) ?_ ?_)
  · intro hh h2 tk2 m2 F2 N2
    have e : true = decide (n ≤ (gt u).l1) := (decide_eq_true ((has_iff u n).mp hh)).symm
    k_steps
    all_goals (refine' cb_retB hret e ?f ?n; (case f => k_asm); (case n => k_asm))
  · intro hh h2 tk2 m2 F2 N2
    have e : false = decide (n ≤ (gt u).l1) := (decide_eq_false fun q => hh ((has_iff u n).mpr q)).symm
    k_steps
    all_goals (refine' cb_retB hret e ?f ?n; (case f => k_asm); (case n => k_asm))
end Mine
end
section
open PySem PySem.W PyProof.Rows PySem.Spec PySem.Calls PySem.Builtin.Str
set_option maxRecDepth 100000
namespace Mine
noncomputable abbrev tupO (a b c : Value) : Obj := { cls := Value.type "tuple", data := Data.seq #[a, b, c] }
noncomputable def FouIs (x : Str) (n : Int) (b : Bool) : Prop := ∀ (w : World) (mean : ExcName → Option Value) (mg mb : Str → Option Value) (tt tn : Tok) (news : List (Addr × Obj)), GClaim 12 300 w mean mg mb 132 news [.str x tt, .int n tn] (fun _ => .bool b)
theorem FouIs.out {x : Str} {n : Int} {b : Bool} (h : FouIs x n b) (w : World) (mean : ExcName → Option Value) (mg mb : Str → Option Value) (tt tn : Tok) (news : List (Addr × Obj)) : GClaim 12 300 w mean mg mb 132 news [.str x tt, .int n tn] (fun _ => .bool b) := h w mean mg mb tt tn news
noncomputable def TriIs (x : Str) (c : Int) : Prop := ∀ (w : World) (mean : ExcName → Option Value) (mg mb : Str → Option Value) (tt : Tok) (news : List (Addr × Obj)), GClaim 12 300 w mean mg mb 139 news [.str x tt] (fun t => .int c t)
theorem TriIs.out {x : Str} {c : Int} (h : TriIs x c) (w : World) (mean : ExcName → Option Value) (mg mb : Str → Option Value) (tt : Tok) (news : List (Addr × Obj)) : GClaim 12 300 w mean mg mb 139 news [.str x tt] (fun t => .int c t) := h w mean mg mb tt news
section
variable {prog : Program} {w : World} {A : Around} {E : Value → Shared → Prop} {s : Shared} {h₀ : Heap} {L : Addr} {m : Str → Option Value} {news : List (Addr × Obj)} {d : Addr} {a b c : Value} {u : Tok}
theorem tup0 {value slice : PySem.Expr} {Q : Value → Shared → Prop} (N : News h₀ L s.heap news) (hm : (d, tupO a b c) ∈ news) (h : Q a s)
    (hs : subscripted slice false (.ref d) (.int 0 u) = operate [.ref d, .int 0 u] (getItem (.ref d) (.int 0 u)) := by with_unfolding_all rfl) :
    wpAny (model prog w) A (subscriptTail value slice (.ref d) (.int 0 u)) Q E s := by
  have hl : IsTup s.heap d #[a, b, c] := ⟨_, (N _ hm).1, rfl, 0, rfl⟩
  exact tail_any hl.typeIs slot_tuple_getitem.lookup (PyProof.Rows.getItem_tuple hl (by decide) (by decide) rfl rfl h) hs
theorem tup1 {value slice : PySem.Expr} {Q : Value → Shared → Prop} (N : News h₀ L s.heap news) (hm : (d, tupO a b c) ∈ news) (h : Q b s)
    (hs : subscripted slice false (.ref d) (.int 1 u) = operate [.ref d, .int 1 u] (getItem (.ref d) (.int 1 u)) := by with_unfolding_all rfl) :
    wpAny (model prog w) A (subscriptTail value slice (.ref d) (.int 1 u)) Q E s := by
  have hl : IsTup s.heap d #[a, b, c] := ⟨_, (N _ hm).1, rfl, 0, rfl⟩
  exact tail_any hl.typeIs slot_tuple_getitem.lookup (PyProof.Rows.getItem_tuple hl (by decide) (by decide) rfl rfl h) hs
theorem tup2 {value slice : PySem.Expr} {Q : Value → Shared → Prop} (N : News h₀ L s.heap news) (hm : (d, tupO a b c) ∈ news) (h : Q c s)
    (hs : subscripted slice false (.ref d) (.int 2 u) = operate [.ref d, .int 2 u] (getItem (.ref d) (.int 2 u)) := by with_unfolding_all rfl) :
    wpAny (model prog w) A (subscriptTail value slice (.ref d) (.int 2 u)) Q E s := by
  have hl : IsTup s.heap d #[a, b, c] := ⟨_, (N _ hm).1, rfl, 0, rfl⟩
  exact tail_any hl.typeIs slot_tuple_getitem.lookup (PyProof.Rows.getItem_tuple hl (by decide) (by decide) rfl rfl h) hs
end
theorem allLt_lt2 {d : Addr} {l : List (Addr × Obj)} (h : AllLt d l) : ∀ p ∈ l, p.1 < d := by
  induction l with
  | nil => intro p hp; cases hp
  | cons q r ih =>
    intro p hp
    rcases List.mem_cons.mp hp with e | hp
    · rw [e]; exact h.1
    · exact ih h.2 p hp
noncomputable def rowFor : Stmt := ((fBody (stOf 18)).drop 2).headD (.Pass default)
noncomputable abbrev envR (L : Addr) : Env := envOf (Str.ofString "_law_row") (fScope (stOf 18)) L 146 (Value.ref 145)
set_option maxHeartbeats 1000000 in
theorem row_turn (w : World) (mean : ExcName → Option Value) (mg mb : Str → Option Value) (news : List (Addr × Obj)) (x p : Str) (tt tp : Tok) (D d : Addr) (vs : List Value) (k : Nat) (r c : Int) (y z : Value) (tr : Tok) (b : Bool)
  (hd : (d, tupO (.int r tr) y z) ∈ news) (hD : ∀ q ∈ news, q.1 ≠ D) (hvs : vs.length ≤ 20) (hr : 0 ≤ r ∧ r ≤ 50) (hc : 0 ≤ c ∧ c ≤ 50) (hx : x.length ≤ 50) (hp : p.length ≤ 50)
  (hf : FouIs (x ++ p) (r + 1) b) (ht : TriIs (x ++ p) c)
  (dp un : Nat) (gd : Option (List Code)) (cn : Str) (cs : Scope) (a : Addr) (ccd : Value) (cl : List (Str × Addr)) (outer : List Env) (base : Heap) (gh h : Heap) (L₀ L : Addr) (m : Str → Option Value) (s : Shared) (tk : Nat) (Q : Flow → Shared → Prop) (E : Value → Shared → Prop)
  (B' : Below (ktrTop dp un gd cn cs L₀ a ccd cl outer) base (envX cn cs L₀ a ccd cl :: outer) gh) (X' : (KT w.params).In gh) (T' : Top qV looseV mean mg mb gh)
  (F' : Fr gh L h (fun y => if y = Str.ofString "text" then some (.str x tt) else if y = Str.ofString "row" then some (.ref D) else if y = Str.ofString "piece" then some (.str p tp) else m y))
  (N' : News gh L h ((D, listOf (vs ++ [Value.ref d]).toArray k) :: news))
  (hdp : dp + 20 < recursionLimit) (hun : un + 500 < cLine)
  (hnext : ∀ h' tk' m' (D' : Addr) t1 t2 t3 tt' (r' : Int), r' = (if b = true then r + 1 else r) → Fr gh L h' m' → News gh L h' ((D', tupO (.int r' t1) (.int (((x ++ p).length : Int) - r' - c) t2) (.int c t3)) :: (D, listOf ((vs ++ [Value.ref d]).toArray.push (.ref D')) (k + 1)) :: news) → D < D' → (∀ q ∈ news, q.1 < D') →
    m' (Str.ofString "text") = some (.str (x ++ p) tt') → m' (Str.ofString "row") = some (.ref D) → Q .next { s with heap := h', toks := tk' }) :
  wpAny (model rwT.prog w) ((ktrTop dp un gd cn cs L₀ a ccd cl outer).deeper (envR L)) (execs (forBody rowFor) (envR L)) Q E { s with heap := h, toks := tk } := by
  k_with_none
  k_with "execs cons" => ((with_reducible refine wpAny_execs_cons ?_); try dsimp only)
  k_with "call ref" => (k_here; first
      | ((with_reducible show wpAny _ _ (call (Value.ref 132) [Value.str _ _, Value.int _ _]) _ _ _); k_dflt (refine' FouIs.out ?kew9 _ _ _ _ _ _ _ _ _ _ _ _ _ _ _ _ _ _ _ _ _ _ _ _ ?k1w9 ?k2w9 ?k3w9 ?k4w9 ?k5w9 ?k6w9 ?kdw9 ?kuw9 ?_; (case k1w9 => k_asm); (case k2w9 => k_asm); (case k3w9 => k_asm); (case k4w9 => k_asm); (case k5w9 => k_asm); (case k6w9 => first | exact rfl | assumption); (case kdw9 => ktr_room); (case kuw9 => ktr_units); (case kew9 => assumption)); intro tw9 hw9 tkw9 Fw9 Nw9; (try dsimp only))
      | ((with_reducible show wpAny _ _ (call (Value.ref 139) [Value.str _ _]) _ _ _); k_dflt (refine' TriIs.out ?kew9 _ _ _ _ _ _ _ _ _ _ _ _ _ _ _ _ _ _ _ _ _ _ _ ?k1w9 ?k2w9 ?k3w9 ?k4w9 ?k5w9 ?k6w9 ?kdw9 ?kuw9 ?_; (case k1w9 => k_asm); (case k2w9 => k_asm); (case k3w9 => k_asm); (case k4w9 => k_asm); (case k5w9 => k_asm); (case k6w9 => first | exact rfl | assumption); (case kdw9 => ktr_room); (case kuw9 => ktr_units); (case kew9 => assumption)); intro tw9 hw9 tkw9 Fw9 Nw9; (try dsimp only)))
  k_with "subscriptTail" => (k_here; first
      | ((with_reducible show wpAny _ _ (subscriptTail _ _ (Value.ref _) (Value.int 0 _)) _ _ _); k_dflt (refine' tup0 ?k1w9 ?k2w9 ?_ ?k4w9; (case k1w9 => k_asm); (case k2w9 => exact List.Mem.tail _ (by assumption)); (case k4w9 => with_unfolding_all rfl)))
      | ((with_reducible show wpAny _ _ (subscriptTail _ _ (Value.ref _) (Value.int (-1) _)) _ _ _); k_dflt (refine' item_end ?k1w9 ?k2w9 ?_ ?k4w9; (case k1w9 => k_asm); (case k2w9 => k_mem); (case k4w9 => with_unfolding_all rfl))))
  k_with "call builtin:list.append" => (k_here; (with_reducible show wpAny _ _ (call (Value.builtin _) [Value.ref _, _]) _ _ _); k_dflt (refine' append_K ?k1w9 ?k2w9 ?k3w9 ?_ ?zw9; (case k1w9 => k_asm); (case k2w9 => k_asm); (case k3w9 => k_upd); (case zw9 => (rw [sizeLine_eq]; simp; omega)); k_whole); intro hw9 Fw9 Nw9; (try k_sweep))
  dsimp only [envR]; (conv in (forBody _) => whnf); revert X'; k_fill; intro X'
  cases b
  all_goals k_steps
  all_goals first
    | (rename_i hbb _; exact absurd hbb (by decide))
    | exact hnext _ _ _ _ _ _ _ _ _ rfl (by k_asm) (by k_asm) (And.left (by assumption)) (allLt_lt2 (And.right (by assumption))) rfl rfl
end Mine
end
section
open PySem PySem.W PyProof.Rows PySem.Spec PySem.Calls PySem.Builtin.Str
set_option maxRecDepth 100000
namespace Mine
noncomputable abbrev Z3 := Int × Int × Int
noncomputable def paint (u : List Ltr) : Z3 := ((gt u).l1, (gt u).l2, (gt u).l3)
noncomputable def paintsTo (ps : List (List Ltr)) (i : Nat) : List Z3 := (List.range (i + 1)).map fun j => paint (ps.take j).flatten
noncomputable abbrev tupZ (t : Z3) (t1 t2 t3 : Tok) : Obj := tupO (.int t.1 t1) (.int t.2.1 t2) (.int t.2.2 t3)
structure TripsIn (own : List (Addr × Obj)) (vs : List Value) (ts : List Z3) : Prop where
  len : vs.length = ts.length
  at_ : ∀ (i : Nat) (t : Z3), ts[i]? = some t → ∃ d t1 t2 t3, vs[i]? = some (.ref d) ∧ (d, tupZ t t1 t2 t3) ∈ own
theorem TripsIn.mono {own own' : List (Addr × Obj)} {vs : List Value} {ts : List Z3} (h : TripsIn own vs ts) (hs : ∀ p ∈ own, p ∈ own') : TripsIn own' vs ts :=
  ⟨h.len, fun i t e => let ⟨d, a, b, c, x, y⟩ := h.at_ i t e; ⟨d, a, b, c, x, hs _ y⟩⟩
theorem TripsIn.snoc {own : List (Addr × Obj)} {vs : List Value} {ts : List Z3} {d : Addr} {t : Z3} {t1 t2 t3 : Tok} (h : TripsIn own vs ts) (hd : (d, tupZ t t1 t2 t3) ∈ own) : TripsIn own (vs ++ [.ref d]) (ts ++ [t]) := by
  refine ⟨by simp [h.len], fun i t' e => ?_⟩
  rcases Nat.lt_or_ge i ts.length with c | c
  · rw [List.getElem?_append_left c] at e
    obtain ⟨d', a, b, c', x, y⟩ := h.at_ i t' e
    exact ⟨d', a, b, c', by rw [List.getElem?_append_left (by rw [h.len]; exact c)]; exact x, y⟩
  · rw [List.getElem?_append_right c] at e
    have hi : i - ts.length = 0 := by
      cases hq : i - ts.length with
      | zero => rfl
      | succ n => rw [hq] at e; simp at e
    rw [hi] at e
    simp at e
    subst e
    refine ⟨d, t1, t2, t3, ?_, hd⟩
    rw [List.getElem?_append_right (by rw [h.len]; exact c), h.len, hi]
    rfl
theorem paintsTo_succ (ps : List (List Ltr)) (i : Nat) : paintsTo ps (i + 1) = paintsTo ps i ++ [paint (ps.take (i + 1)).flatten] := by
  unfold paintsTo
  rw [List.range_succ, List.map_append]; rfl
theorem paintsTo_last (ps : List (List Ltr)) (i : Nat) : ∃ r, paintsTo ps i = r ++ [paint (ps.take i).flatten] := by
  unfold paintsTo
  rw [List.range_succ, List.map_append]; exact ⟨_, rfl⟩
theorem paintsTo_len (ps : List (List Ltr)) (i : Nat) : (paintsTo ps i).length = i + 1 := by simp [paintsTo]
noncomputable def rowSt (i : Nat) : Stmt := ((fBody (stOf 18)).drop i).headD (.Pass default)
theorem rowBody : fBody (stOf 18) = rowSt 0 :: rowSt 1 :: rowFor :: (fBody (stOf 18)).drop 3 := by kernel_rfl
theorem rowFor_is : rowFor = .For (.Name (Str.ofString "piece") (forPx rowFor)) (forIter rowFor) (forBody rowFor) [] rowFor.pos := by kernel_rfl
section
variable (w : World) (mean : ExcName → Option Value) (mg mb : Str → Option Value) (news : List (Addr × Obj))
  (dp un : Nat) (gd : Option (List Code)) (cn : Str) (cs : Scope) (a : Addr) (ccd : Value) (cl : List (Str × Addr)) (outer : List Env) (base : Heap) (gh h : Heap) (L₀ L : Addr) (m : Str → Option Value) (s : Shared) (tk : Nat) (Q : Flow → Shared → Prop) (E : Value → Shared → Prop)
set_option maxHeartbeats 1000000 in
theorem row_ini0
  (B' : Below (ktrTop dp un gd cn cs L₀ a ccd cl outer) base (envX cn cs L₀ a ccd cl :: outer) gh) (X' : (KT w.params).In gh) (T' : Top qV looseV mean mg mb gh)
  (l : Addr) (F' : Fr gh L h (fun y => if y = Str.ofString "pieces" then some (.ref l) else m y)) (N' : News gh L h news) (hdp : dp + 6 < recursionLimit) (hun : un + 100 < cLine)
  (hnext : ∀ h' tk' m' D d t1 t2 t3, Fr gh L h' m' → News gh L h' ((D, listOf #[.ref d] 0) :: (d, tupZ (0, 0, 0) t1 t2 t3) :: news) → d < D → (∀ q ∈ news, q.1 < d) → (∀ q ∈ news, q.1 < D) → m' (Str.ofString "pieces") = some (.ref l) → m' (Str.ofString "row") = some (.ref D) → Q .next { s with heap := h', toks := tk' }) :
  wpAny (model rwT.prog w) ((ktrTop dp un gd cn cs L₀ a ccd cl outer).deeper (envR L)) (exec (rowSt 0) (envR L)) Q E { s with heap := h, toks := tk } := by
  k_with_none
  dsimp only [envR]; (conv in (rowSt _) => whnf); revert X'; k_fill; intro X'
  k_steps
  all_goals exact hnext _ _ _ _ _ _ _ _ (by k_asm) (by k_asm) (And.left (by assumption)) (by assumption) (allLt_lt2 (And.right (by assumption))) rfl rfl
set_option maxHeartbeats 1000000 in
theorem row_ini1
  (B' : Below (ktrTop dp un gd cn cs L₀ a ccd cl outer) base (envX cn cs L₀ a ccd cl :: outer) gh) (X' : (KT w.params).In gh) (T' : Top qV looseV mean mg mb gh)
  (l D : Addr) (F' : Fr gh L h (fun y => if y = Str.ofString "pieces" then some (.ref l) else if y = Str.ofString "row" then some (.ref D) else m y)) (N' : News gh L h news) (hdp : dp + 6 < recursionLimit) (hun : un + 100 < cLine)
  (hnext : ∀ h' tk' m' t, Fr gh L h' m' → News gh L h' news → m' (Str.ofString "pieces") = some (.ref l) → m' (Str.ofString "row") = some (.ref D) → m' (Str.ofString "text") = some (.str (tx []) t) → Q .next { s with heap := h', toks := tk' }) :
  wpAny (model rwT.prog w) ((ktrTop dp un gd cn cs L₀ a ccd cl outer).deeper (envR L)) (exec (rowSt 1) (envR L)) Q E { s with heap := h, toks := tk } := by
  k_with_none
  dsimp only [envR]; (conv in (rowSt _) => whnf); revert X'; k_fill; intro X'
  k_steps
  all_goals exact hnext _ _ _ _ (by k_asm) (by k_asm) rfl rfl rfl
set_option maxHeartbeats 1000000 in
theorem row_it (Q : Value → Shared → Prop)
  (B' : Below (ktrTop dp un gd cn cs L₀ a ccd cl outer) base (envX cn cs L₀ a ccd cl :: outer) gh) (X' : (KT w.params).In gh) (T' : Top qV looseV mean mg mb gh)
  (l : Addr) (F' : Fr gh L h (fun y => if y = Str.ofString "pieces" then some (.ref l) else m y)) (N' : News gh L h news) (hdp : dp + 6 < recursionLimit) (hun : un + 100 < cLine)
  (hq : ∀ tk', Q (.ref l) { s with heap := h, toks := tk' }) :
  wpAny (model rwT.prog w) ((ktrTop dp un gd cn cs L₀ a ccd cl outer).deeper (envR L)) (eval (forIter rowFor) (envR L)) Q E { s with heap := h, toks := tk } := by
  k_with_none
  dsimp only [envR]; (conv in (forIter _) => whnf); revert X'; k_fill; intro X'
  k_steps
  all_goals exact hq _
/-! the plain side -/
end
theorem snoc_of {vs : List Value} {v : Value} {i : Nat} (h1 : vs.length = i + 1) (h2 : vs[i]? = some v) : ∃ vs', vs = vs' ++ [v] := by
  have e : vs.drop i = [v] := by
    obtain ⟨hlt, e⟩ := List.getElem?_eq_some_iff.mp h2
    rw [List.drop_eq_getElem_cons hlt, e, List.drop_of_length_le (by omega)]
  refine ⟨vs.take i, ?_⟩
  rw [← e, List.take_append_drop]
theorem pcs_len {p : List Ltr} (h : p ∈ pcs) : p.length ≤ 2 := by
  simp only [pcs, List.mem_cons, List.not_mem_nil, or_false] at h
  rcases h with rfl | rfl | rfl | rfl | rfl | rfl | rfl <;> decide
theorem take_next {ps : List (List Ltr)} {i : Nat} {p : List Ltr} (h : ps[i]? = some p) : (ps.take (i + 1)).flatten = (ps.take i).flatten ++ p := by
  rw [List.take_add_one, h]; simp
theorem flat_len {ps : List (List Ltr)} (hp : ∀ p ∈ ps, p ∈ pcs) : ∀ i, (ps.take i).flatten.length ≤ 2 * i
  | 0 => by simp
  | i + 1 => by
    cases e : ps[i]? with
    | none =>
      rw [List.take_add_one, e]
      have := flat_len hp i
      simp at this ⊢; omega
    | some p =>
      rw [take_next e, List.length_append]
      have := flat_len hp i
      have := pcs_len (hp p (List.mem_of_getElem? e))
      omega
theorem l1_le {ps : List (List Ltr)} (hp : ∀ p ∈ ps, p ∈ pcs) : ∀ i, (gt (ps.take i).flatten).l1 ≤ i
  | 0 => by simp [gt, GT.zero]
  | i + 1 => by
    cases e : ps[i]? with
    | none =>
      rw [List.take_add_one, e]
      have := l1_le hp i
      simp at this ⊢; omega
    | some p =>
      rw [take_next e]
      have := l1_le hp i
      have := (red_step (ps.take i).flatten p (hp p (List.mem_of_getElem? e))).2
      omega
theorem fou_is (u : List Ltr) (n : Nat) (hu : u.length ≤ 50) (hn : n ≤ 6) : FouIs (tx u) n (decide (n ≤ (gt u).l1)) := fun w mean mg mb tt tn news => found_c w mean mg mb news u n tt tn hu hn
theorem tri_is (u : List Ltr) (hu : u.length ≤ 50) : TriIs (tx u) (gt u).l3 := fun w mean mg mb tt news => by
  rw [← wk_trip]
  exact tri_c w mean mg mb news u tt (by omega)
section
variable (w : World) (mean : ExcName → Option Value) (mg mb : Str → Option Value) (news : List (Addr × Obj))
  (dp un : Nat) (gd : Option (List Code)) (cn : Str) (cs : Scope) (a : Addr) (ccd : Value) (cl : List (Str × Addr)) (outer : List Env) (base : Heap) (gh h : Heap) (L₀ L : Addr) (m : Str → Option Value) (s : Shared) (tk : Nat) (Q : Flow → Shared → Prop) (E : Value → Shared → Prop)
theorem row_loop (ps : List (List Ltr)) (lm : List (Str × Tok)) (l D : Addr) (n : Nat)
  (hp : ∀ p ∈ ps, p ∈ pcs) (hlen : ps.length ≤ 6) (hlm : lm.map (·.1) = ps.map tx) (hl : (l, listOf (strValues lm).toArray n) ∈ news) (hD : ∀ q ∈ news, q.1 < D)
  (B' : Below (ktrTop dp un gd cn cs L₀ a ccd cl outer) base (envX cn cs L₀ a ccd cl :: outer) gh) (X' : (KT w.params).In gh) (T' : Top qV looseV mean mg mb gh)
  (vs₀ : List Value) (tup₀ : List (Addr × Obj)) (k₀ : Nat) (t₀ : Tok) (F' : Fr gh L h m) (N' : News gh L h ((D, listOf vs₀.toArray k₀) :: (tup₀ ++ news)))
  (h1 : ∀ q ∈ tup₀, q.1 ≠ D) (h2 : ∀ q ∈ tup₀, ∀ p ∈ news, p.1 < q.1) (h3 : TripsIn tup₀ vs₀ (paintsTo ps 0)) (g1 : m (Str.ofString "pieces") = some (.ref l)) (g2 : m (Str.ofString "row") = some (.ref D)) (g3 : m (Str.ofString "text") = some (.str (tx []) t₀))
  (hE : PassesOwn (model rwT.prog w) ((ktrTop dp un gd cn cs L₀ a ccd cl outer).deeper (envR L)) (envR L) E) (hdp : dp + 20 < recursionLimit) (hun : un + 500 < cLine)
  (hnext : ∀ h' tk' m' vs tup k, Fr gh L h' m' → News gh L h' ((D, listOf vs.toArray k) :: (tup ++ news)) → (∀ q ∈ tup, q.1 ≠ D) → (∀ q ∈ tup, ∀ p ∈ news, p.1 < q.1) → TripsIn tup vs (paintsTo ps ps.length) → m' (Str.ofString "row") = some (.ref D) → Q .next { s with heap := h', toks := tk' }) :
  wpAny (model rwT.prog w) ((ktrTop dp un gd cn cs L₀ a ccd cl outer).deeper (envR L)) (exec rowFor (envR L)) Q E { s with heap := h, toks := tk } := by
  rw [rowFor_is]
  refine For_invVF (env := envR L) (h₀ := gh) F' rfl rfl ?_ (hE := hE)
  refine row_it w mean mg mb _ dp un gd cn cs a ccd cl outer base gh h L₀ L m s tk E _ B' X' T' l (know F' g1) N' (by first | exact lt_dn (by assumption) (by decide) | omega) (by first | exact lt_dn (by assumption) (by decide) | omega) ?_
  intro tk2
  have hmem : (l, listOf (strValues lm).toArray n) ∈ ((D, listOf vs₀.toArray k₀) :: (tup₀ ++ news)) := .tail _ (List.mem_append_right _ hl)
  have hlv : (strValues lm).length = ps.length := by
    have := congrArg List.length hlm
    simpa [strValues] using this
  refine iter_lst (env := envR L) (s := { s with heap := h, toks := tk2 }) (news := (D, listOf vs₀.toArray k₀) :: (tup₀ ++ news)) (fun i m₁ nx => ∃ vs tup k tt, nx = (D, listOf vs.toArray k) :: (tup ++ news) ∧ (∀ q ∈ tup, q.1 ≠ D) ∧ (∀ q ∈ tup, ∀ p ∈ news, p.1 < q.1) ∧ TripsIn tup vs (paintsTo ps i) ∧
    m₁ (Str.ofString "row") = some (.ref D) ∧ m₁ (Str.ofString "text") = some (.str (tx (ps.take i).flatten) tt))
    rfl ⟨_, (N' _ hmem).1, rfl, n, rfl⟩ hmem F' N' ⟨vs₀, tup₀, k₀, t₀, rfl, h1, h2, h3, g2, g3⟩ ?_ ?_
  · rintro I i v m₁ news₁ h4 tk4 own hv hI hI2 ⟨oI, hoI, hoI2⟩ hown ⟨vs, tup, k, tt, rfl, j1, j2, j3, j4, j5⟩ F4 N4
    have hi : i < ps.length := by
      have := (List.getElem?_eq_some_iff.mp hv).1
      omega
    obtain ⟨p, hpi⟩ : ∃ p, ps[i]? = some p := ⟨_, List.getElem?_eq_getElem hi⟩
    have hpp := hp p (List.mem_of_getElem? hpi)
    obtain ⟨tp, rfl⟩ : ∃ tp, v = .str (tx p) tp := by
      unfold strValues at hv
      rw [List.getElem?_map] at hv
      obtain ⟨⟨x, t⟩, e1, rfl⟩ := Option.map_eq_some_iff.mp hv
      have e2 : (lm.map (·.1))[i]? = (ps.map tx)[i]? := by rw [hlm]
      rw [List.getElem?_map, List.getElem?_map, e1, hpi] at e2
      simp only [Option.map_some, Option.some.injEq] at e2
      exact ⟨t, by rw [← e2]⟩
    obtain ⟨rr, hrr⟩ := paintsTo_last ps i
    have hsz := j3.len
    rw [paintsTo_len] at hsz
    obtain ⟨d, t1, t2, t3, hd1, hd2⟩ := j3.at_ i (paint (ps.take i).flatten) (by
      have : rr.length = i := by have := congrArg List.length hrr; rw [paintsTo_len] at this; simp at this; omega
      rw [hrr, ← this]; simp)
    obtain ⟨vs', rfl⟩ := snoc_of hsz hd1
    have hul := flat_len hp i
    have hpl := pcs_len hpp
    have hl1 := l1_le hp i
    have hst := red_step (ps.take i).flatten p hpp
    have hsz2 := gt_size ((ps.take i).flatten ++ p)
    simp only [List.length_append] at hsz2 hsz
    have F5 := know (know (know F4 (n := Str.ofString "piece") (v := .str (tx p) tp) (if_pos rfl)) (n := Str.ofString "row") (v := .ref D) (by rw [if_neg (by decide), if_neg (by decide)]; exact j4)) (n := Str.ofString "text") (v := .str (tx (ps.take i).flatten) tt) (by rw [if_neg (by decide), if_neg (by decide), if_neg (by decide)]; exact j5)
    have hID : D ≠ I := hI2 _ List.mem_cons_self
    have N5 : News gh L h4 ((D, listOf (vs' ++ [Value.ref d]).toArray k) :: ((tup ++ news) ++ own)) := N4
    refine row_turn w mean mg mb ((tup ++ news) ++ own) (tx (ps.take i).flatten) (tx p) tt tp D d vs' k ((gt (ps.take i).flatten).l1 : Int) ((gt ((ps.take i).flatten ++ p)).l3 : Int) _ _ t1 (decide ((gt (ps.take i).flatten).l1 + 1 ≤ (gt ((ps.take i).flatten ++ p)).l1))
      (List.mem_append_left _ (List.mem_append_left _ hd2)) ?_ (by simp at hsz; omega) (by omega) (by omega) (by rw [tx_len]; omega) (by rw [tx_len]; omega)
      (by rw [tx_app]; exact fou_is ((ps.take i).flatten ++ p) ((gt (ps.take i).flatten).l1 + 1) (by rw [List.length_append]; omega) (by omega)) (by rw [tx_app]; exact tri_is _ (by rw [List.length_append]; omega)) dp un gd cn cs a ccd cl outer base gh h4 L₀ L _ _ tk4 _ E B' X' T' F5 N5 hdp hun ?_
    · intro q hq
      rcases List.mem_append.mp hq with hq | hq
      · rcases List.mem_append.mp hq with hq | hq
        · exact j1 q hq
        · exact Nat.ne_of_lt (hD q hq)
      · rcases hown q hq with e | e
        · rw [e]; exact fun x => hID x.symm
        · rw [e]; exact Nat.ne_of_lt (hD _ hl)
    · intro h6 tk6 m6 D' x1 x2 x3 tt' r' hr' F6 N6 hDD hall e1 e2
      have er : r' = ((gt ((ps.take i).flatten ++ p)).l1 : Int) := by
        rw [hr']
        by_cases c : (gt (ps.take i).flatten).l1 + 1 ≤ (gt ((ps.take i).flatten ++ p)).l1
        · rw [if_pos (decide_eq_true c)]; omega
        · rw [if_neg (by rw [decide_eq_true_eq]; exact c)]; omega
      have em : ((tx (ps.take i).flatten ++ tx p).length : Int) - r' - ((gt ((ps.take i).flatten ++ p)).l3 : Int) = ((gt ((ps.take i).flatten ++ p)).l2 : Int) := by
        rw [er, tx_app, tx_len, List.length_append]; omega
      rw [em, er] at N6
      have hIm : (I, oI) ∈ ((tup ++ news) ++ own) := List.mem_append_right _ hoI2
      refine ⟨h6, tk6, m6, _, (D, listOf ((vs' ++ [Value.ref d]) ++ [Value.ref D']).toArray (k + 1)) :: (((D', tupZ (paint (ps.take (i + 1)).flatten) x1 x2 x3) :: tup) ++ news), rfl, F6, N6, ?_, ?_, ?_, (vs' ++ [Value.ref d]) ++ [Value.ref D'], (D', tupZ (paint (ps.take (i + 1)).flatten) x1 x2 x3) :: tup, k + 1, tt', rfl, ?_, ?_, ?_, e2, ?_⟩
      · intro q hq
        rcases List.mem_cons.mp hq with rfl | hq
        · refine .tail _ ?_
          rw [show (vs' ++ [Value.ref d]).toArray.push (.ref D') = ((vs' ++ [Value.ref d]) ++ [Value.ref D']).toArray by simp]
          exact .head _
        · rcases List.mem_cons.mp hq with rfl | hq
          · rw [take_next hpi]; exact .head _
          · exact .tail _ (.tail _ (List.mem_append_left _ hq))
      · exact fun q hq => .tail _ (.tail _ (List.mem_append_right _ hq))
      · intro q hq hm
        have hm := List.mem_singleton.mp hm
        rcases List.mem_cons.mp hq with rfl | hq
        · exact hID hm
        · rcases List.mem_cons.mp hq with rfl | hq
          · exact Nat.ne_of_gt (hall _ hIm) hm
          · exact hI2 q (.tail _ hq) hm
      · intro q hq
        rcases List.mem_cons.mp hq with rfl | hq
        · exact Nat.ne_of_gt hDD
        · exact j1 q hq
      · intro q hq p' hp'
        rcases List.mem_cons.mp hq with rfl | hq
        · exact hall p' (List.mem_append_left _ (List.mem_append_right _ hp'))
        · exact j2 q hq p' hp'
      · rw [paintsTo_succ]
        exact TripsIn.snoc (j3.mono fun _ hq => .tail _ hq) (.head _)
      · rw [take_next hpi, ← tx_app]; exact e1
  · rintro m₁ news₁ h4 tk4 ⟨vs, tup, k, tt, rfl, j1, j2, j3, j4, j5⟩ F4 N4
    rw [hlv] at j3
    exact hnext h4 tk4 m₁ vs tup k F4 N4 j1 j2 j3 j4
end
/-- _law_row, _law_walk: a new list of new tuples -/
noncomputable abbrev PaintClaim (w : World) (mean : ExcName → Option Value) (mg mb : Str → Option Value) (f : Addr) (news : List (Addr × Obj)) (l : Addr) (ts : List Z3) : Prop :=
  ∀ (dp un : Nat) (gd : Option (List Code)) (cn : Str) (cs : Scope) (a : Addr) (ccd : Value) (cl : List (Str × Addr)) (outer : List Env) (A₀ : Around) (base h₀ : Heap) (L : Addr) (m : Str → Option Value) (s : Shared) (Q E : Value → Shared → Prop),
    Below A₀ base outer h₀ → Fr h₀ L s.heap m → (KT w.params).In h₀ → News h₀ L s.heap news → Top qV looseV mean mg mb h₀ → cs.kind = .function →
    dp + 30 < recursionLimit → un + 700 < cLine →
    (∀ (D : Addr) vs (tup : List (Addr × Obj)) (k : Nat) (h' : Heap) (tk' : Nat), Fr h₀ L h' m → News h₀ L h' ((D, listOf (List.toArray vs) k) :: (tup ++ news)) → (∀ q ∈ tup, q.1 ≠ D) → (∀ q ∈ tup, ∀ p ∈ news, p.1 < q.1) → (∀ q ∈ news, q.1 < D) → TripsIn tup vs ts → Q (.ref D) { s with heap := h', toks := tk' }) →
      wpAny (model rwT.prog w) (ktrTop dp un gd cn cs L a ccd cl outer) (call (.ref f) [.ref l]) Q E s
set_option maxHeartbeats 1000000 in
theorem row_c (w : World) (mean : ExcName → Option Value) (mg mb : Str → Option Value) (news : List (Addr × Obj)) (ps : List (List Ltr)) (lm : List (Str × Tok)) (l : Addr) (n : Nat)
  (hp : ∀ p ∈ ps, p ∈ pcs) (hlen : ps.length ≤ 6) (hlm : lm.map (·.1) = ps.map tx) (hl : (l, listOf (strValues lm).toArray n) ∈ news) : PaintClaim w mean mg mb 146 news l (paintsTo ps ps.length) := by
  k_with_none
  dsimp only [PaintClaim]; k_fill; intros; rename_i hret
  refine wpAny_call ?_
  k_dflt cell_enter
  rename_i g1 L1 h1 FG F N B X T
  rw [rowBody]
  have F0 := know F (n := Str.ofString "pieces") (v := .ref l) rfl
  refine wpAny_execs_cons (row_ini0 w mean mg mb news _ _ _ _ _ _ _ _ _ _ _ _ _ _ _ _ _ _ _ B X T l F0 N (by first | exact lt_dn (by assumption) (by decide) | omega) (by first | exact lt_dn (by assumption) (by decide) | omega) ?_)
  intro h2 tk2 m2 D d t1 t2 t3 F2 N2 hdD hd hD e1 e2
  have F3 := know (know F2 e2) (n := Str.ofString "pieces") (v := .ref l) (by rw [if_neg (by decide)]; exact e1)
  refine wpAny_execs_cons (row_ini1 w mean mg mb _ _ _ _ _ _ _ _ _ _ _ _ _ _ _ _ _ _ _ _ B X T l D F3 N2 (by first | exact lt_dn (by assumption) (by decide) | omega) (by first | exact lt_dn (by assumption) (by decide) | omega) ?_)
  intro h4 tk4 m4 t4 F4 N4 e3 e4 e5
  refine wpAny_execs_cons (row_loop w mean mg mb news _ _ _ _ _ _ _ _ _ _ _ _ _ _ _ _ _ _ _ ps lm l D n hp hlen hlm hl hD B X T [.ref d] [(d, tupZ (0, 0, 0) t1 t2 t3)] 0 t4 F4 N4 ?_ ?_ ?_ e3 e4 e5 (by passes_own) (by first | exact lt_dn (by assumption) (by decide) | omega) (by first | exact lt_dn (by assumption) (by decide) | omega) ?_)
  · intro q hq
    rw [List.mem_singleton.mp hq]
    exact Nat.ne_of_lt hdD
  · intro q hq p hp'
    rw [List.mem_singleton.mp hq]
    exact hd p hp'
  · refine ⟨rfl, fun i t e => ?_⟩
    cases i with
    | zero =>
      have : t = (0, 0, 0) := by
        have e' : some (paint []) = some t := e
        rw [← Option.some.inj e']
        rfl
      subst this
      exact ⟨d, t1, t2, t3, rfl, .head _⟩
    | succ i => cases e
  · intro h5 tk5 m5 vs tup k F5 N5 j1 j2 j3 j4
    have F6 := know F5 j4
    k_steps
    all_goals exact hret D vs tup k _ _ (by k_asm) (by k_asm) j1 j2 hD j3
end Mine
end
section
open PySem PySem.W PyProof.Rows PySem.Spec PySem.Calls
namespace Mine
section
variable {prog : Program} {w : World} {A : Around} {E : Value → Shared → Prop} {s : Shared} {env : Env} {h₀ : Heap} {x : Str} {body : List Stmt} {Q : Flow → Shared → Prop}
/-- over a text's signs -/
theorem iter_str {y : Str} {ty : Tok} {m₀ : Str → Option Value} {news : List (Addr × Obj)} (J : Nat → (Str → Option Value) → List (Addr × Obj) → Prop)
    (hh : A.handled = none) (ha : y.cps.all (· < 128) = true) (F : Fr h₀ env.locals s.heap m₀) (N : News h₀ env.locals s.heap news) (hj : J 0 m₀ news)
    (turn : ∀ (I : Addr) i c t m₁ news₁ h tk own, y.cps[i]? = some c → (∀ p ∈ news, p.1 < I) → (∀ p ∈ news₁, p.1 ≠ I) → (∃ o', h.get? I = some o' ∧ (I, o') ∈ own) → (∀ p ∈ own, p.1 = I) → J i m₁ news₁ → Fr h₀ env.locals h (fun z => if z = x then some (.str ⟨#[c]⟩ t) else m₁ z) → News h₀ env.locals h (news₁ ++ own) →
      wpAny (model prog w) A (execs body env) (FreePost h₀ env.locals [I] (J (i + 1)) own { s with heap := h, toks := tk } Q) E { s with heap := h, toks := tk })
    (done : ∀ m₁ news₁ h tk, J y.cps.size m₁ news₁ → Fr h₀ env.locals h m₁ → News h₀ env.locals h news₁ → Q .next { s with heap := h, toks := tk }) :
    wpAny (model prog w) A (pyIter (.str y ty)) (fun it s₂ => LoopAtV prog w A h₀ env x body Q E it s₂) E s := by
  have hlt' : ∀ p ∈ news, p.1 < s.heap.objs.size := fun p hp => Heap.lt_size (N p hp).1
  have hnew := next_is_new F
  refine wpAny_pyIter_ascii ha ?_
  have W := Walks.strAscii (prog := prog) (w := w) hh s.heap.objs.size y ty
  refine loop_free J W ?_ ?_ ?_ ⟨_, Heap.get?_push_size _ rfl, rfl, rfl⟩ (F.push _) (fun p hp => ⟨Heap.get?_push_of_some _ (N p hp).1, (N p hp).2⟩) hj ?_ ?_
  · intro hm
    exact absurd F.ns.lt ((List.mem_singleton.mp hm) ▸ Nat.lt_irrefl _)
  · intro b hb
    rw [List.mem_singleton.mp hb]
    exact hnew
  · intro p hp hI
    exact absurd (hlt' p hp) ((List.mem_singleton.mp hI) ▸ Nat.lt_irrefl _)
  · rintro i v m₁ news₁ h tk own _ ⟨c, t, hc, rfl⟩ hoff hown hall hst hJ F₁ N₁
    refine turn s.heap.objs.size i c t m₁ news₁ h tk own hc hlt' (fun p hp e => hoff p hp (by rw [e]; exact .head _)) ?_ (fun p hp => by simpa using hown p hp) hJ F₁ N₁
    obtain ⟨o', ho, _⟩ := hst
    exact ⟨o', ho, hall _ (.head _) hnew o' ho⟩
  · exact done
end
section
variable {prog : Program} {w : World} {A : Around} {E : Value → Shared → Prop} {s : Shared} {Q : Value → Shared → Prop} {a b c : Nat} {t u v : Tok} {h₀ : Heap} {L : Addr} {m : Str → Option Value} {news : List (Addr × Obj)}
theorem max3_nn (hh : A.handled = none) (F : Fr h₀ L s.heap m) (N : News h₀ L s.heap news) (h : ∀ h' tk k, Fr h₀ L h' m → News h₀ L h' news → Q (.int ((max (max a b) c : Nat) : Int) k) { s with heap := h', toks := tk }) :
    wpAny (model prog w) A (call (.builtin "max") [.int (a : Int) t, .int (b : Int) u, .int (c : Int) v]) Q E s := by
  refine max_three_ints hh fun h' tk hk => ?_
  have key := fun k => h h' tk k (F.grownK hk) (N.grown hk)
  by_cases h1 : (b : Int) > a <;> by_cases h2 : (c : Int) > b <;> by_cases h3 : (c : Int) > a <;> simp only [h1, h2, h3, if_true, if_false]
  all_goals first
    | (rw [show max (max a b) c = a by omega] at key; exact key _)
    | (rw [show max (max a b) c = b by omega] at key; exact key _)
    | (rw [show max (max a b) c = c by omega] at key; exact key _)
theorem max2_nn (hh : A.handled = none) (F : Fr h₀ L s.heap m) (N : News h₀ L s.heap news) (h : ∀ h' tk k, Fr h₀ L h' m → News h₀ L h' news → Q (.int ((max a b : Nat) : Int) k) { s with heap := h', toks := tk }) :
    wpAny (model prog w) A (call (.builtin "max") [.int (a : Int) t, .int (b : Int) u]) Q E s := by
  refine max_two_ints hh fun h' tk hk => ?_
  have key := fun k => h h' tk k (F.grownK hk) (N.grown hk)
  by_cases h1 : (b : Int) > a <;> simp only [h1, if_true, if_false]
  · rw [show max a b = b by omega] at key; exact key _
  · rw [show max a b = a by omega] at key; exact key _
end
end Mine
end
section
open PySem PySem.W PyProof.Rows PySem.Spec PySem.Calls PySem.Builtin.Str
set_option maxRecDepth 100000
namespace Mine
noncomputable def wlkSt (i : Nat) : Stmt := ((fBody (stOf 15)).drop i).headD (.Pass default)
noncomputable abbrev envW (L : Addr) : Env := envOf (Str.ofString "_law_walk") (fScope (stOf 15)) L 125 (Value.ref 124)
noncomputable def wlkIn : Stmt := (forBody (wlkSt 2)).headD (.Pass default)
noncomputable def Holds7 (m : Str → Option Value) (x : Str) (n : Nat) : Prop := ∃ z t, m x = some (.int z t) ∧ z = (n : Int)
structure WkM (m : Str → Option Value) (k : Wk) : Prop where
  low : Holds7 m (Str.ofString "low") k.low
  mid : Holds7 m (Str.ofString "middle") k.mid
  high : Holds7 m (Str.ofString "high") k.high
  free : Holds7 m (Str.ofString "free") k.free
  pairs : Holds7 m (Str.ofString "pairs") k.pairs
  trip : Holds7 m (Str.ofString "triples") k.trip
  size : Holds7 m (Str.ofString "size") k.size
section
variable (w : World) (mean : ExcName → Option Value) (mg mb : Str → Option Value) (news : List (Addr × Obj))
  (dp un : Nat) (gd : Option (List Code)) (cn : Str) (cs : Scope) (a : Addr) (ccd : Value) (cl : List (Str × Addr)) (outer : List Env) (base : Heap) (gh h : Heap) (L₀ L : Addr) (m : Str → Option Value) (s : Shared) (tk : Nat) (Q : Flow → Shared → Prop) (E : Value → Shared → Prop)
set_option maxHeartbeats 1000000 in
theorem wlk_letter (k : Wk) (x : Ltr) (tl t1 t2 t3 t4 t5 t6 t7 : Tok) (D : Addr) (l : Addr) (hb : k.low ≤ 100 ∧ k.mid ≤ 100 ∧ k.high ≤ 100 ∧ k.free ≤ 100 ∧ k.pairs ≤ 100 ∧ k.trip ≤ 100 ∧ k.size ≤ 100)
  (B' : Below (ktrTop dp un gd cn cs L₀ a ccd cl outer) base (envX cn cs L₀ a ccd cl :: outer) gh) (X' : (KT w.params).In gh) (T' : Top qV looseV mean mg mb gh)
  (F' : Fr gh L h (fun y => if y = Str.ofString "letter" then some (.str (tx [x]) tl) else if y = Str.ofString "low" then some (.int k.low t1) else if y = Str.ofString "middle" then some (.int k.mid t2) else if y = Str.ofString "high" then some (.int k.high t3) else if y = Str.ofString "free" then some (.int k.free t4) else if y = Str.ofString "pairs" then some (.int k.pairs t5) else if y = Str.ofString "triples" then some (.int k.trip t6) else if y = Str.ofString "size" then some (.int k.size t7) else if y = Str.ofString "row" then some (.ref D) else m y))
  (N' : News gh L h news) (hdp : dp + 6 < recursionLimit) (hun : un + 100 < cLine)
  (hnext : ∀ h' tk' m', Fr gh L h' m' → News gh L h' news → WkM m' (wkIn k x) → m' (Str.ofString "row") = some (.ref D) → Q .next { s with heap := h', toks := tk' }) :
  wpAny (model rwT.prog w) ((ktrTop dp un gd cn cs L₀ a ccd cl outer).deeper (envW L)) (execs (forBody wlkIn) (envW L)) Q E { s with heap := h, toks := tk } := by
  k_with_none
  k_with "execs cons" => ((with_reducible refine wpAny_execs_cons ?_); try dsimp only)
  k_with "call builtin:max" => (k_here; first
      | ((with_reducible show wpAny _ _ (call (Value.builtin _) [Value.int _ _, Value.int _ _, Value.int _ _]) _ _ _); k_dflt (refine' max3_nn rfl ?Fw9 ?Nw9 ?_; (case Fw9 => k_asm); (case Nw9 => k_asm)); intro _ _ _ _ _)
      | ((with_reducible show wpAny _ _ (call (Value.builtin _) [Value.int _ _, Value.int _ _]) _ _ _); k_dflt (refine' max2_nn rfl ?Fw9 ?Nw9 ?_; (case Fw9 => k_asm); (case Nw9 => k_asm)); intro _ _ _ _ _))
  obtain ⟨hb1, hb2, hb3, hb4, hb5, hb6, hb7⟩ := hb
  dsimp only [envW]; (conv in (forBody _) => whnf); revert X'; k_fill; intro X'
  cases x
  · rw [show tx [Ltr.s] = Str.ofString "s" by decide] at F'
    k_steps
    all_goals exact hnext _ _ _ (by k_asm) (by k_asm) ⟨⟨_, _, rfl, by first | rfl | (simp only [wkIn]; omega) | (simp only [wkIn]; split <;> omega)⟩, ⟨_, _, rfl, by first | rfl | (simp only [wkIn]; omega) | (simp only [wkIn]; split <;> omega)⟩, ⟨_, _, rfl, by first | rfl | (simp only [wkIn]; omega) | (simp only [wkIn]; split <;> omega)⟩, ⟨_, _, rfl, by first | rfl | (simp only [wkIn]; omega) | (simp only [wkIn]; split <;> omega)⟩, ⟨_, _, rfl, by first | rfl | (simp only [wkIn]; omega) | (simp only [wkIn]; split <;> omega)⟩, ⟨_, _, rfl, by first | rfl | (simp only [wkIn]; omega) | (simp only [wkIn]; split <;> omega)⟩, ⟨_, _, rfl, by first | rfl | (simp only [wkIn]; omega) | (simp only [wkIn]; split <;> omega)⟩⟩ rfl
  · rw [show tx [Ltr.t] = Str.ofString "t" by decide] at F'
    k_steps
    all_goals exact hnext _ _ _ (by k_asm) (by k_asm) ⟨⟨_, _, rfl, by first | rfl | (simp only [wkIn]; omega) | (simp only [wkIn]; split <;> omega)⟩, ⟨_, _, rfl, by first | rfl | (simp only [wkIn]; omega) | (simp only [wkIn]; split <;> omega)⟩, ⟨_, _, rfl, by first | rfl | (simp only [wkIn]; omega) | (simp only [wkIn]; split <;> omega)⟩, ⟨_, _, rfl, by first | rfl | (simp only [wkIn]; omega) | (simp only [wkIn]; split <;> omega)⟩, ⟨_, _, rfl, by first | rfl | (simp only [wkIn]; omega) | (simp only [wkIn]; split <;> omega)⟩, ⟨_, _, rfl, by first | rfl | (simp only [wkIn]; omega) | (simp only [wkIn]; split <;> omega)⟩, ⟨_, _, rfl, by first | rfl | (simp only [wkIn]; omega) | (simp only [wkIn]; split <;> omega)⟩⟩ rfl
  · rw [show tx [Ltr.m] = Str.ofString "m" by decide] at F'
    k_steps
    all_goals exact hnext _ _ _ (by k_asm) (by k_asm) ⟨⟨_, _, rfl, by first | rfl | (simp only [wkIn]; omega) | (simp only [wkIn]; split <;> omega)⟩, ⟨_, _, rfl, by first | rfl | (simp only [wkIn]; omega) | (simp only [wkIn]; split <;> omega)⟩, ⟨_, _, rfl, by first | rfl | (simp only [wkIn]; omega) | (simp only [wkIn]; split <;> omega)⟩, ⟨_, _, rfl, by first | rfl | (simp only [wkIn]; omega) | (simp only [wkIn]; split <;> omega)⟩, ⟨_, _, rfl, by first | rfl | (simp only [wkIn]; omega) | (simp only [wkIn]; split <;> omega)⟩, ⟨_, _, rfl, by first | rfl | (simp only [wkIn]; omega) | (simp only [wkIn]; split <;> omega)⟩, ⟨_, _, rfl, by first | rfl | (simp only [wkIn]; omega) | (simp only [wkIn]; split <;> omega)⟩⟩ rfl
set_option maxHeartbeats 1000000 in
theorem wlk_app (k : Wk) (t1 t2 t3 t4 t5 t6 t7 : Tok) (D : Addr) (vs : List Value) (c : Nat) (hvs : vs.length ≤ 20) (hD : ∀ q ∈ news, q.1 ≠ D) (hb : k.low ≤ 100 ∧ k.mid ≤ 100 ∧ k.high ≤ 100 ∧ k.free ≤ 100 ∧ k.pairs ≤ 100 ∧ k.trip ≤ 100 ∧ k.size ≤ 100)
  (B' : Below (ktrTop dp un gd cn cs L₀ a ccd cl outer) base (envX cn cs L₀ a ccd cl :: outer) gh) (X' : (KT w.params).In gh) (T' : Top qV looseV mean mg mb gh)
  (F' : Fr gh L h (fun y => if y = Str.ofString "low" then some (.int k.low t1) else if y = Str.ofString "middle" then some (.int k.mid t2) else if y = Str.ofString "high" then some (.int k.high t3) else if y = Str.ofString "free" then some (.int k.free t4) else if y = Str.ofString "pairs" then some (.int k.pairs t5) else if y = Str.ofString "triples" then some (.int k.trip t6) else if y = Str.ofString "size" then some (.int k.size t7) else if y = Str.ofString "row" then some (.ref D) else m y))
  (N' : News gh L h ((D, listOf vs.toArray c) :: news)) (hdp : dp + 6 < recursionLimit) (hun : un + 100 < cLine)
  (hnext : ∀ h' tk' m' D' u1 u2 u3, Fr gh L h' m' → News gh L h' ((D', tupO (.int (k.red : Int) u1) (.int ((k.size : Int) - (k.red : Int) - (k.trip : Int)) u2) (.int (k.trip : Int) u3)) :: (D, listOf (vs.toArray.push (.ref D')) (c + 1)) :: news) → D < D' → (∀ q ∈ news, q.1 < D') → WkM m' k → m' (Str.ofString "row") = some (.ref D) → Q .next { s with heap := h', toks := tk' }) :
  wpAny (model rwT.prog w) ((ktrTop dp un gd cn cs L₀ a ccd cl outer).deeper (envW L)) (execs ((forBody (wlkSt 2)).drop 1) (envW L)) Q E { s with heap := h, toks := tk } := by
  k_with_none
  k_with "execs cons" => ((with_reducible refine wpAny_execs_cons ?_); try dsimp only)
  k_with "call builtin:max" => (k_here; first
      | ((with_reducible show wpAny _ _ (call (Value.builtin _) [Value.int _ _, Value.int _ _, Value.int _ _]) _ _ _); k_dflt (refine' max3_nn rfl ?Fw9 ?Nw9 ?_; (case Fw9 => k_asm); (case Nw9 => k_asm)); intro _ _ _ _ _)
      | ((with_reducible show wpAny _ _ (call (Value.builtin _) [Value.int _ _, Value.int _ _]) _ _ _); k_dflt (refine' max2_nn rfl ?Fw9 ?Nw9 ?_; (case Fw9 => k_asm); (case Nw9 => k_asm)); intro _ _ _ _ _))
  k_with "call builtin:list.append" => (k_here; (with_reducible show wpAny _ _ (call (Value.builtin _) [Value.ref _, _]) _ _ _); k_dflt (refine' append_K ?k1w9 ?k2w9 ?k3w9 ?_ ?zw9; (case k1w9 => k_asm); (case k2w9 => k_asm); (case k3w9 => k_upd); (case zw9 => (rw [sizeLine_eq]; simp; omega)); k_whole); intro hw9 Fw9 Nw9; (try k_sweep))
  obtain ⟨hb1, hb2, hb3, hb4, hb5, hb6, hb7⟩ := hb
  dsimp only [envW]; (conv in (List.drop _ _) => whnf); revert X'; k_fill; intro X'
  k_steps
  all_goals exact hnext _ _ _ _ _ _ _ (by k_asm) (by k_asm) (And.left (by assumption)) (allLt_lt2 (And.right (by assumption))) ⟨⟨_, _, rfl, rfl⟩, ⟨_, _, rfl, rfl⟩, ⟨_, _, rfl, rfl⟩, ⟨_, _, rfl, rfl⟩, ⟨_, _, rfl, rfl⟩, ⟨_, _, rfl, rfl⟩, ⟨_, _, rfl, rfl⟩⟩ rfl
end
end Mine
end
section
open PySem PySem.W PyProof.Rows PySem.Spec PySem.Calls PySem.Builtin.Str
set_option maxRecDepth 100000
namespace Mine
noncomputable def chainF : List (Str × Value) → (Str → Option Value) → (Str → Option Value)
  | [], m => m
  | p :: r, m => fun y => if y = p.1 then some p.2 else chainF r m y
theorem chain_is {m : Str → Option Value} : ∀ {l : List (Str × Value)}, (∀ p ∈ l, m p.1 = some p.2) → chainF l m = m
  | [], _ => rfl
  | p :: r, h => by
    funext y
    show (if y = p.1 then some p.2 else chainF r m y) = m y
    rw [chain_is (l := r) fun q hq => h q (.tail _ hq)]
    by_cases e : y = p.1
    · rw [if_pos e, e, h p (.head _)]
    · rw [if_neg e]
theorem chain_know {g h : Heap} {L : Addr} {m : Str → Option Value} {l : List (Str × Value)} (F : Fr g L h m) (e : ∀ p ∈ l, m p.1 = some p.2) : Fr g L h (chainF l m) := by
  rw [chain_is e]; exact F
theorem fa {p : Str × Value} {l : List (Str × Value)} {P : Str × Value → Prop} (h : P p) (r : ∀ q ∈ l, P q) : ∀ q ∈ p :: l, P q := List.forall_mem_cons.mpr ⟨h, r⟩
theorem fn {P : Str × Value → Prop} : ∀ q ∈ ([] : List (Str × Value)), P q := fun _ h => by cases h
structure Bd (k : Wk) (n : Nat) : Prop where
  a : k.low ≤ n
  b : k.mid ≤ n
  c : k.high ≤ n
  d : k.free ≤ n
  e : k.pairs ≤ n
  f : k.trip ≤ n
  g : k.size ≤ n
theorem bd_in {k : Wk} {n : Nat} (h : Bd k n) (x : Ltr) : Bd (wkIn k x) (n + 1) := by
  obtain ⟨h1, h2, h3, h4, h5, h6, h7⟩ := h
  cases x <;> constructor <;> simp only [wkIn] <;> first | omega | (split <;> omega)
theorem bd_fold : ∀ (u : List Ltr) {k : Wk} {n : Nat}, Bd k n → Bd (u.foldl wkIn k) (n + u.length)
  | [], _, _, h => h
  | x :: u, k, n, h => by
    have := bd_fold u (bd_in h x)
    rw [List.foldl_cons, List.length_cons]
    rw [show n + (u.length + 1) = n + 1 + u.length by omega]
    exact this
theorem Bd.all {k : Wk} {n : Nat} (h : Bd k n) (hn : n ≤ 100) : k.low ≤ 100 ∧ k.mid ≤ 100 ∧ k.high ≤ 100 ∧ k.free ≤ 100 ∧ k.pairs ≤ 100 ∧ k.trip ≤ 100 ∧ k.size ≤ 100 :=
  ⟨by have := h.a; omega, by have := h.b; omega, by have := h.c; omega, by have := h.d; omega, by have := h.e; omega, by have := h.f; omega, by have := h.g; omega⟩
theorem bd_wk (u : List Ltr) : Bd (wk u) u.length := by
  have := bd_fold u (k := Wk.zero) (n := 0) (by constructor <;> decide)
  rw [Nat.zero_add] at this
  exact this
theorem WkM.toks {m : Str → Option Value} {k : Wk} (h : WkM m k) : ∃ t1 t2 t3 t4 t5 t6 t7 : Tok, m (Str.ofString "low") = some (.int k.low t1) ∧ m (Str.ofString "middle") = some (.int k.mid t2) ∧ m (Str.ofString "high") = some (.int k.high t3) ∧ m (Str.ofString "free") = some (.int k.free t4) ∧ m (Str.ofString "pairs") = some (.int k.pairs t5) ∧ m (Str.ofString "triples") = some (.int k.trip t6) ∧ m (Str.ofString "size") = some (.int k.size t7) := by
  obtain ⟨⟨_, t1, e1, rfl⟩, ⟨_, t2, e2, rfl⟩, ⟨_, t3, e3, rfl⟩, ⟨_, t4, e4, rfl⟩, ⟨_, t5, e5, rfl⟩, ⟨_, t6, e6, rfl⟩, ⟨_, t7, e7, rfl⟩⟩ := h
  exact ⟨t1, t2, t3, t4, t5, t6, t7, e1, e2, e3, e4, e5, e6, e7⟩
theorem WkM.off {m : Str → Option Value} {k : Wk} {x : Str} {v : Value} (h : WkM m k) (hx : x = Str.ofString "letter" ∨ x = Str.ofString "piece") : WkM (fun y => if y = x then some v else m y) k := by
  obtain ⟨⟨a1, b1, c1, d1⟩, ⟨a2, b2, c2, d2⟩, ⟨a3, b3, c3, d3⟩, ⟨a4, b4, c4, d4⟩, ⟨a5, b5, c5, d5⟩, ⟨a6, b6, c6, d6⟩, ⟨a7, b7, c7, d7⟩⟩ := h
  rcases hx with rfl | rfl <;> exact ⟨⟨a1, b1, (if_neg (by decide)).trans c1, d1⟩, ⟨a2, b2, (if_neg (by decide)).trans c2, d2⟩, ⟨a3, b3, (if_neg (by decide)).trans c3, d3⟩, ⟨a4, b4, (if_neg (by decide)).trans c4, d4⟩, ⟨a5, b5, (if_neg (by decide)).trans c5, d5⟩, ⟨a6, b6, (if_neg (by decide)).trans c6, d6⟩, ⟨a7, b7, (if_neg (by decide)).trans c7, d7⟩⟩
theorem wlkIn_is : wlkIn = .For (.Name (Str.ofString "letter") (forPx wlkIn)) (forIter wlkIn) (forBody wlkIn) [] wlkIn.pos := by kernel_rfl
theorem wlkFor_is : wlkSt 2 = .For (.Name (Str.ofString "piece") (forPx (wlkSt 2))) (forIter (wlkSt 2)) (wlkIn :: (forBody (wlkSt 2)).drop 1) [] (wlkSt 2).pos := by kernel_rfl
theorem wlkBody : fBody (stOf 15) = wlkSt 0 :: wlkSt 1 :: wlkSt 2 :: (fBody (stOf 15)).drop 3 := by kernel_rfl
theorem tx_ascii (p : List Ltr) : (tx p).cps.all (· < 128) = true := by
  unfold tx
  rw [Array.all_eq_true']
  intro x hx
  simp only [List.mem_toArray, List.mem_map] at hx
  obtain ⟨a, _, rfl⟩ := hx
  cases a <;> decide
section
variable (w : World) (mean : ExcName → Option Value) (mg mb : Str → Option Value) (news : List (Addr × Obj))
  (dp un : Nat) (gd : Option (List Code)) (cn : Str) (cs : Scope) (a : Addr) (ccd : Value) (cl : List (Str × Addr)) (outer : List Env) (base : Heap) (gh h : Heap) (L₀ L : Addr) (m : Str → Option Value) (s : Shared) (tk : Nat) (Q : Flow → Shared → Prop) (E : Value → Shared → Prop)
set_option maxHeartbeats 1000000 in
theorem wlk_it1 (Q : Value → Shared → Prop)
  (B' : Below (ktrTop dp un gd cn cs L₀ a ccd cl outer) base (envX cn cs L₀ a ccd cl :: outer) gh) (X' : (KT w.params).In gh) (T' : Top qV looseV mean mg mb gh)
  (x : Str) (t : Tok) (F' : Fr gh L h (fun y => if y = Str.ofString "piece" then some (.str x t) else m y)) (N' : News gh L h news) (hdp : dp + 6 < recursionLimit) (hun : un + 100 < cLine)
  (hq : ∀ tk', Q (.str x t) { s with heap := h, toks := tk' }) :
  wpAny (model rwT.prog w) ((ktrTop dp un gd cn cs L₀ a ccd cl outer).deeper (envW L)) (eval (forIter wlkIn) (envW L)) Q E { s with heap := h, toks := tk } := by
  k_with_none
  dsimp only [envW]; (conv in (forIter _) => whnf); revert X'; k_fill; intro X'
  k_steps
  all_goals exact hq _
set_option maxHeartbeats 1000000 in
theorem wlk_it2 (Q : Value → Shared → Prop)
  (B' : Below (ktrTop dp un gd cn cs L₀ a ccd cl outer) base (envX cn cs L₀ a ccd cl :: outer) gh) (X' : (KT w.params).In gh) (T' : Top qV looseV mean mg mb gh)
  (l : Addr) (F' : Fr gh L h (fun y => if y = Str.ofString "pieces" then some (.ref l) else m y)) (N' : News gh L h news) (hdp : dp + 6 < recursionLimit) (hun : un + 100 < cLine)
  (hq : ∀ tk', Q (.ref l) { s with heap := h, toks := tk' }) :
  wpAny (model rwT.prog w) ((ktrTop dp un gd cn cs L₀ a ccd cl outer).deeper (envW L)) (eval (forIter (wlkSt 2)) (envW L)) Q E { s with heap := h, toks := tk } := by
  k_with_none
  dsimp only [envW]; (conv in (forIter _) => whnf); revert X'; k_fill; intro X'
  k_steps
  all_goals exact hq _
theorem wlk_in (p : List Ltr) (k : Wk) (n : Nat) (tp : Tok) (D : Addr) (hk : Bd k n) (hn : n + p.length ≤ 100)
  (B' : Below (ktrTop dp un gd cn cs L₀ a ccd cl outer) base (envX cn cs L₀ a ccd cl :: outer) gh) (X' : (KT w.params).In gh) (T' : Top qV looseV mean mg mb gh)
  (F' : Fr gh L h m) (N' : News gh L h news) (g1 : WkM m k) (g2 : m (Str.ofString "piece") = some (.str (tx p) tp)) (g3 : m (Str.ofString "row") = some (.ref D))
  (hE : PassesOwn (model rwT.prog w) ((ktrTop dp un gd cn cs L₀ a ccd cl outer).deeper (envW L)) (envW L) E) (hdp : dp + 6 < recursionLimit) (hun : un + 100 < cLine)
  (hnext : ∀ h' tk' m', Fr gh L h' m' → News gh L h' news → WkM m' (p.foldl wkIn k) → m' (Str.ofString "row") = some (.ref D) → Q .next { s with heap := h', toks := tk' }) :
  wpAny (model rwT.prog w) ((ktrTop dp un gd cn cs L₀ a ccd cl outer).deeper (envW L)) (exec wlkIn (envW L)) Q E { s with heap := h, toks := tk } := by
  rw [wlkIn_is]
  refine For_invVF (env := envW L) (h₀ := gh) F' rfl rfl ?_ (hE := hE)
  refine wlk_it1 w mean mg mb _ dp un gd cn cs a ccd cl outer base gh h L₀ L m s tk E _ B' X' T' (tx p) tp (know F' g2) N' hdp hun ?_
  intro tk2
  refine iter_str (env := envW L) (s := { s with heap := h, toks := tk2 }) (fun i m₁ nx => nx = news ∧ WkM m₁ ((p.take i).foldl wkIn k) ∧ m₁ (Str.ofString "row") = some (.ref D)) rfl (tx_ascii p) F' N' ⟨rfl, g1, g3⟩ ?_ ?_
  · rintro I i c t m₁ news₁ h3 tk3 own hc hI hI2 _ hown ⟨rfl, e1, e2⟩ F3 N3
    obtain ⟨x, hx, rfl⟩ : ∃ x, p[i]? = some x ∧ c = lc x := by
      have : (p.map lc)[i]? = some c := by simpa [tx] using hc
      rw [List.getElem?_map] at this
      obtain ⟨x, h1, h2⟩ := Option.map_eq_some_iff.mp this
      exact ⟨x, h1, h2.symm⟩
    have hxl : (⟨#[lc x]⟩ : Str) = tx [x] := rfl
    rw [hxl] at F3
    have hlt := (List.getElem?_eq_some_iff.mp hx).1
    have hbd := bd_fold (p.take i) hk
    obtain ⟨t1, t2, t3, t4, t5, t6, t7, q1, q2, q3, q4, q5, q6, q7⟩ := e1.toks
    have F4 := chain_know (l := [(Str.ofString "letter", .str (tx [x]) t), (Str.ofString "low", .int ((p.take i).foldl wkIn k).low t1), (Str.ofString "middle", .int ((p.take i).foldl wkIn k).mid t2), (Str.ofString "high", .int ((p.take i).foldl wkIn k).high t3), (Str.ofString "free", .int ((p.take i).foldl wkIn k).free t4), (Str.ofString "pairs", .int ((p.take i).foldl wkIn k).pairs t5), (Str.ofString "triples", .int ((p.take i).foldl wkIn k).trip t6), (Str.ofString "size", .int ((p.take i).foldl wkIn k).size t7), (Str.ofString "row", .ref D)]) F3
      (fa (if_pos rfl) (fa ((if_neg (by dsimp only; decide)).trans q1) (fa ((if_neg (by dsimp only; decide)).trans q2) (fa ((if_neg (by dsimp only; decide)).trans q3) (fa ((if_neg (by dsimp only; decide)).trans q4) (fa ((if_neg (by dsimp only; decide)).trans q5) (fa ((if_neg (by dsimp only; decide)).trans q6) (fa ((if_neg (by dsimp only; decide)).trans q7) (fa ((if_neg (by dsimp only; decide)).trans e2) fn)))))))))
    refine wlk_letter w mean mg mb (news₁ ++ own) dp un gd cn cs a ccd cl outer base gh h3 L₀ L _ s tk3 _ E ((p.take i).foldl wkIn k) x t t1 t2 t3 t4 t5 t6 t7 D 0 (hbd.all (by simp; omega)) B' X' T' F4 N3 hdp hun ?_
    intro h4 tk4 m4 F5 N5 w1 w2
    refine ⟨h4, tk4, m4, news₁ ++ own, news₁, rfl, F5, N5, fun _ hx => List.mem_append_left _ hx, fun _ hx => List.mem_append_right _ hx, fun p hp hm => hI2 p hp (List.mem_singleton.mp hm), rfl, ?_, w2⟩
    rw [List.take_add_one, hx]
    simpa using w1
  · rintro m₁ news₁ h3 tk3 ⟨rfl, e1, e2⟩ F3 N3
    refine hnext h3 tk3 m₁ F3 N3 ?_ e2
    have : (tx p).cps.size = p.length := tx_len p
    rw [this, List.take_length] at e1
    exact e1
theorem wlk_loop (ps : List (List Ltr)) (lm : List (Str × Tok)) (l D : Addr) (n : Nat)
  (hp : ∀ p ∈ ps, p ∈ pcs) (hlen : ps.length ≤ 6) (hlm : lm.map (·.1) = ps.map tx) (hl : (l, listOf (strValues lm).toArray n) ∈ news) (hD : ∀ q ∈ news, q.1 < D)
  (B' : Below (ktrTop dp un gd cn cs L₀ a ccd cl outer) base (envX cn cs L₀ a ccd cl :: outer) gh) (X' : (KT w.params).In gh) (T' : Top qV looseV mean mg mb gh)
  (vs₀ : List Value) (tup₀ : List (Addr × Obj)) (k₀ : Nat) (F' : Fr gh L h m) (N' : News gh L h ((D, listOf vs₀.toArray k₀) :: (tup₀ ++ news)))
  (h1 : ∀ q ∈ tup₀, q.1 ≠ D) (h2 : ∀ q ∈ tup₀, ∀ p ∈ news, p.1 < q.1) (h3 : TripsIn tup₀ vs₀ (paintsTo ps 0)) (g1 : m (Str.ofString "pieces") = some (.ref l)) (g2 : m (Str.ofString "row") = some (.ref D)) (g3 : WkM m Wk.zero)
  (hE : PassesOwn (model rwT.prog w) ((ktrTop dp un gd cn cs L₀ a ccd cl outer).deeper (envW L)) (envW L) E) (hdp : dp + 20 < recursionLimit) (hun : un + 500 < cLine)
  (hnext : ∀ h' tk' m' vs tup k, Fr gh L h' m' → News gh L h' ((D, listOf vs.toArray k) :: (tup ++ news)) → (∀ q ∈ tup, q.1 ≠ D) → (∀ q ∈ tup, ∀ p ∈ news, p.1 < q.1) → TripsIn tup vs (paintsTo ps ps.length) → m' (Str.ofString "row") = some (.ref D) → Q .next { s with heap := h', toks := tk' }) :
  wpAny (model rwT.prog w) ((ktrTop dp un gd cn cs L₀ a ccd cl outer).deeper (envW L)) (exec (wlkSt 2) (envW L)) Q E { s with heap := h, toks := tk } := by
  rw [wlkFor_is]
  refine For_invVF (env := envW L) (h₀ := gh) F' rfl rfl ?_ (hE := hE)
  refine wlk_it2 w mean mg mb _ dp un gd cn cs a ccd cl outer base gh h L₀ L m s tk E _ B' X' T' l (know F' g1) N' (by first | exact lt_dn (by assumption) (by decide) | omega) (by first | exact lt_dn (by assumption) (by decide) | omega) ?_
  intro tk2
  have hmem : (l, listOf (strValues lm).toArray n) ∈ ((D, listOf vs₀.toArray k₀) :: (tup₀ ++ news)) := .tail _ (List.mem_append_right _ hl)
  have hlv : (strValues lm).length = ps.length := by
    have := congrArg List.length hlm
    simpa [strValues] using this
  refine iter_lst (env := envW L) (s := { s with heap := h, toks := tk2 }) (news := (D, listOf vs₀.toArray k₀) :: (tup₀ ++ news)) (fun i m₁ nx => ∃ vs tup k, nx = (D, listOf vs.toArray k) :: (tup ++ news) ∧ (∀ q ∈ tup, q.1 ≠ D) ∧ (∀ q ∈ tup, ∀ p ∈ news, p.1 < q.1) ∧ TripsIn tup vs (paintsTo ps i) ∧
    m₁ (Str.ofString "row") = some (.ref D) ∧ WkM m₁ (wk (ps.take i).flatten))
    rfl ⟨_, (N' _ hmem).1, rfl, n, rfl⟩ hmem F' N' ⟨vs₀, tup₀, k₀, rfl, h1, h2, h3, g2, g3⟩ ?_ ?_
  · rintro I i v m₁ news₁ h4 tk4 own hv hI hI2 ⟨oI, hoI, hoI2⟩ hown ⟨vs, tup, k, rfl, j1, j2, j3, j4, j5⟩ F4 N4
    have hi : i < ps.length := by
      have := (List.getElem?_eq_some_iff.mp hv).1
      omega
    obtain ⟨p, hpi⟩ : ∃ p, ps[i]? = some p := ⟨_, List.getElem?_eq_getElem hi⟩
    have hpp := hp p (List.mem_of_getElem? hpi)
    obtain ⟨tp, rfl⟩ : ∃ tp, v = .str (tx p) tp := by
      unfold strValues at hv
      rw [List.getElem?_map] at hv
      obtain ⟨⟨x, t⟩, e1, rfl⟩ := Option.map_eq_some_iff.mp hv
      have e2 : (lm.map (·.1))[i]? = (ps.map tx)[i]? := by rw [hlm]
      rw [List.getElem?_map, List.getElem?_map, e1, hpi] at e2
      simp only [Option.map_some, Option.some.injEq] at e2
      exact ⟨t, by rw [← e2]⟩
    have hsz := j3.len
    rw [paintsTo_len] at hsz
    have hul := flat_len hp i
    have hpl := pcs_len hpp
    have hsz2 := gt_size ((ps.take i).flatten ++ p)
    have hID : D ≠ I := hI2 _ List.mem_cons_self
    have hoff : ∀ q ∈ (tup ++ news) ++ own, q.1 ≠ D := by
      intro q hq
      rcases List.mem_append.mp hq with hq | hq
      · rcases List.mem_append.mp hq with hq | hq
        · exact j1 q hq
        · exact Nat.ne_of_lt (hD q hq)
      · rcases hown q hq with e | e
        · rw [e]; exact fun x => hID x.symm
        · rw [e]; exact Nat.ne_of_lt (hD _ hl)
    have N5 : News gh L h4 ((D, listOf vs.toArray k) :: ((tup ++ news) ++ own)) := N4
    have hfold : p.foldl wkIn (wk (ps.take i).flatten) = wk ((ps.take i).flatten ++ p) := by unfold wk; rw [List.foldl_append]
    refine wpAny_execs_cons (wlk_in w mean mg mb _ dp un gd cn cs a ccd cl outer base gh h4 L₀ L _ s tk4 _ E p (wk (ps.take i).flatten) (ps.take i).flatten.length tp D (bd_wk _) (by omega) B' X' T' F4 N5 (j5.off (.inr rfl)) (if_pos rfl) ((if_neg (by decide)).trans j4) hE (by first | exact lt_dn (by assumption) (by decide) | omega) (by first | exact lt_dn (by assumption) (by decide) | omega) ?_)
    intro h5 tk5 m5 F5 N6 w1 w2
    rw [hfold] at w1
    have hbd := bd_wk ((ps.take i).flatten ++ p)
    have hll : ((ps.take i).flatten ++ p).length ≤ 100 := by rw [List.length_append]; omega
    obtain ⟨t1, t2, t3, t4, t5, t6, t7, q1, q2, q3, q4, q5, q6, q7⟩ := w1.toks
    have F6 := chain_know (l := [(Str.ofString "low", .int (wk ((ps.take i).flatten ++ p)).low t1), (Str.ofString "middle", .int (wk ((ps.take i).flatten ++ p)).mid t2), (Str.ofString "high", .int (wk ((ps.take i).flatten ++ p)).high t3), (Str.ofString "free", .int (wk ((ps.take i).flatten ++ p)).free t4), (Str.ofString "pairs", .int (wk ((ps.take i).flatten ++ p)).pairs t5), (Str.ofString "triples", .int (wk ((ps.take i).flatten ++ p)).trip t6), (Str.ofString "size", .int (wk ((ps.take i).flatten ++ p)).size t7), (Str.ofString "row", .ref D)]) F5
      (fa q1 (fa q2 (fa q3 (fa q4 (fa q5 (fa q6 (fa q7 (fa w2 fn))))))))
    refine wlk_app w mean mg mb ((tup ++ news) ++ own) dp un gd cn cs a ccd cl outer base gh h5 L₀ L _ s tk5 _ E (wk ((ps.take i).flatten ++ p)) t1 t2 t3 t4 t5 t6 t7 D vs k (by omega) hoff (hbd.all hll) B' X' T' F6 N6 (by first | exact lt_dn (by assumption) (by decide) | omega) (by first | exact lt_dn (by assumption) (by decide) | omega) ?_
    intro h6 tk6 m6 D' x1 x2 x3 F7 N7 hDD hall w3 w4
    have hIm : (I, oI) ∈ ((tup ++ news) ++ own) := List.mem_append_right _ hoI2
    have e1 : ((wk ((ps.take i).flatten ++ p)).red : Int) = (gt ((ps.take i).flatten ++ p)).l1 := by rw [wk_red]
    have e3 : ((wk ((ps.take i).flatten ++ p)).trip : Int) = (gt ((ps.take i).flatten ++ p)).l3 := by rw [wk_trip]
    have e2 : ((wk ((ps.take i).flatten ++ p)).size : Int) - ((wk ((ps.take i).flatten ++ p)).red : Int) - ((wk ((ps.take i).flatten ++ p)).trip : Int) = (gt ((ps.take i).flatten ++ p)).l2 := by
      rw [e1, e3, wk_size]; omega
    rw [e2, e1, e3] at N7
    refine ⟨h6, tk6, m6, _, (D, listOf (vs ++ [Value.ref D']).toArray (k + 1)) :: (((D', tupZ (paint (ps.take (i + 1)).flatten) x1 x2 x3) :: tup) ++ news), rfl, F7, N7, ?_, ?_, ?_, vs ++ [Value.ref D'], (D', tupZ (paint (ps.take (i + 1)).flatten) x1 x2 x3) :: tup, k + 1, rfl, ?_, ?_, ?_, w4, ?_⟩
    · intro q hq
      rcases List.mem_cons.mp hq with rfl | hq
      · refine .tail _ ?_
        rw [show vs.toArray.push (.ref D') = (vs ++ [Value.ref D']).toArray by simp]
        exact .head _
      · rcases List.mem_cons.mp hq with rfl | hq
        · rw [take_next hpi]; exact .head _
        · exact .tail _ (.tail _ (List.mem_append_left _ hq))
    · exact fun q hq => .tail _ (.tail _ (List.mem_append_right _ hq))
    · intro q hq hm
      have hm := List.mem_singleton.mp hm
      rcases List.mem_cons.mp hq with rfl | hq
      · exact hID hm
      · rcases List.mem_cons.mp hq with rfl | hq
        · exact Nat.ne_of_gt (hall _ hIm) hm
        · exact hI2 q (.tail _ hq) hm
    · intro q hq
      rcases List.mem_cons.mp hq with rfl | hq
      · exact Nat.ne_of_gt hDD
      · exact j1 q hq
    · intro q hq p' hp'
      rcases List.mem_cons.mp hq with rfl | hq
      · exact hall p' (List.mem_append_left _ (List.mem_append_right _ hp'))
      · exact j2 q hq p' hp'
    · rw [paintsTo_succ]
      exact TripsIn.snoc (j3.mono fun _ hq => .tail _ hq) (.head _)
    · rw [take_next hpi]; exact w3
  · rintro m₁ news₁ h4 tk4 ⟨vs, tup, k, rfl, j1, j2, j3, j4, j5⟩ F4 N4
    rw [hlv] at j3
    exact hnext h4 tk4 m₁ vs tup k F4 N4 j1 j2 j3 j4
theorem asg7 {M : Model} {A : Around} {E : Value → Shared → Prop} {s : Shared} {env : Env} {t₁ t₂ t₃ t₄ t₅ t₆ t₇ value : PySem.Expr} {pos : Pos} {Q : Flow → Shared → Prop}
    (h : wpAny M A (eval value env) (fun v s₁ => wpAny M A (assign t₁ env v) (fun _ s₂ => wpAny M A (assign t₂ env v) (fun _ s₃ => wpAny M A (assign t₃ env v) (fun _ s₄ => wpAny M A (assign t₄ env v) (fun _ s₅ => wpAny M A (assign t₅ env v) (fun _ s₆ => wpAny M A (assign t₆ env v) (fun _ s₇ => wpAny M A (assign t₇ env v) (fun _ => Q .next) E s₇) E s₆) E s₅) E s₄) E s₃) E s₂) E s₁) E s)
    (he : (assignEach [t₁, t₂, t₃, t₄, t₅, t₆, t₇] env).map (·.2) = [assign t₁ env, assign t₂ env, assign t₃ env, assign t₄ env, assign t₅ env, assign t₆ env, assign t₇ env] := by rfl)
    (hw : swappedStores [t₁, t₂, t₃, t₄, t₅, t₆, t₇] value env = pure none := by rfl) :
    wpAny M A (exec (.Assign [t₁, t₂, t₃, t₄, t₅, t₆, t₇] value pos) env) Q E s := by
  refine wpAny_Assign_stores (wpAny_mono h (fun v s₁ h₁ => ?_) fun _ _ x => x) rfl hw
  rw [he]
  exact wpAny_bind (wpAny_holding (wpAny_mono h₁ (fun _ s₂ h₂ => wpAny_bind (wpAny_holding (wpAny_mono h₂ (fun _ s₃ h₃ => wpAny_bind (wpAny_holding (wpAny_mono h₃ (fun _ s₄ h₄ => wpAny_bind (wpAny_holding (wpAny_mono h₄ (fun _ s₅ h₅ => wpAny_bind (wpAny_holding (wpAny_mono h₅ (fun _ s₆ h₆ => wpAny_bind (wpAny_holding h₆)) fun _ _ x => x))) fun _ _ x => x))) fun _ _ x => x))) fun _ _ x => x))) fun _ _ x => x))
set_option maxHeartbeats 1000000 in
theorem wlk_ini0
  (B' : Below (ktrTop dp un gd cn cs L₀ a ccd cl outer) base (envX cn cs L₀ a ccd cl :: outer) gh) (X' : (KT w.params).In gh) (T' : Top qV looseV mean mg mb gh)
  (l : Addr) (F' : Fr gh L h (fun y => if y = Str.ofString "pieces" then some (.ref l) else m y)) (N' : News gh L h news) (hdp : dp + 6 < recursionLimit) (hun : un + 100 < cLine)
  (hnext : ∀ h' tk' m', Fr gh L h' m' → News gh L h' news → m' (Str.ofString "pieces") = some (.ref l) → WkM m' Wk.zero → Q .next { s with heap := h', toks := tk' }) :
  wpAny (model rwT.prog w) ((ktrTop dp un gd cn cs L₀ a ccd cl outer).deeper (envW L)) (exec (wlkSt 0) (envW L)) Q E { s with heap := h, toks := tk } := by
  k_with_none
  k_with "exec Assign" => (k_here; (with_reducible show wpAny _ _ (exec (Stmt.Assign [_, _, _, _, _, _, _] _ _) _) _ _ _); refine asg7 ?_)
  dsimp only [envW]; (conv in (wlkSt _) => whnf); revert X'; k_fill; intro X'
  k_steps
  all_goals exact hnext _ _ _ (by k_asm) (by k_asm) rfl ⟨⟨_, _, rfl, rfl⟩, ⟨_, _, rfl, rfl⟩, ⟨_, _, rfl, rfl⟩, ⟨_, _, rfl, rfl⟩, ⟨_, _, rfl, rfl⟩, ⟨_, _, rfl, rfl⟩, ⟨_, _, rfl, rfl⟩⟩
end
end Mine
end
section
open PySem PySem.W PyProof.Rows PySem.Spec PySem.Calls PySem.Builtin.Str
set_option maxRecDepth 100000
namespace Mine
section
variable (w : World) (mean : ExcName → Option Value) (mg mb : Str → Option Value) (news : List (Addr × Obj))
  (dp un : Nat) (gd : Option (List Code)) (cn : Str) (cs : Scope) (a : Addr) (ccd : Value) (cl : List (Str × Addr)) (outer : List Env) (base : Heap) (gh h : Heap) (L₀ L : Addr) (m : Str → Option Value) (s : Shared) (tk : Nat) (Q : Flow → Shared → Prop) (E : Value → Shared → Prop)
set_option maxHeartbeats 1000000 in
theorem wlk_ini1
  (B' : Below (ktrTop dp un gd cn cs L₀ a ccd cl outer) base (envX cn cs L₀ a ccd cl :: outer) gh) (X' : (KT w.params).In gh) (T' : Top qV looseV mean mg mb gh)
  (l : Addr) (t1 t2 t3 t4 t5 t6 t7 : Tok) (F' : Fr gh L h (fun y => if y = Str.ofString "pieces" then some (.ref l) else if y = Str.ofString "low" then some (.int 0 t1) else if y = Str.ofString "middle" then some (.int 0 t2) else if y = Str.ofString "high" then some (.int 0 t3) else if y = Str.ofString "free" then some (.int 0 t4) else if y = Str.ofString "pairs" then some (.int 0 t5) else if y = Str.ofString "triples" then some (.int 0 t6) else if y = Str.ofString "size" then some (.int 0 t7) else m y)) (N' : News gh L h news) (hdp : dp + 6 < recursionLimit) (hun : un + 100 < cLine)
  (hnext : ∀ h' tk' m' D d t1 t2 t3, Fr gh L h' m' → News gh L h' ((D, listOf #[.ref d] 0) :: (d, tupZ (0, 0, 0) t1 t2 t3) :: news) → d < D → (∀ q ∈ news, q.1 < d) → (∀ q ∈ news, q.1 < D) → m' (Str.ofString "pieces") = some (.ref l) → m' (Str.ofString "row") = some (.ref D) → WkM m' Wk.zero → Q .next { s with heap := h', toks := tk' }) :
  wpAny (model rwT.prog w) ((ktrTop dp un gd cn cs L₀ a ccd cl outer).deeper (envW L)) (exec (wlkSt 1) (envW L)) Q E { s with heap := h, toks := tk } := by
  k_with_none
  dsimp only [envW]; (conv in (wlkSt _) => whnf); revert X'; k_fill; intro X'
  k_steps
  all_goals exact hnext _ _ _ _ _ _ _ _ (by k_asm) (by k_asm) (And.left (by assumption)) (by assumption) (allLt_lt2 (And.right (by assumption))) rfl rfl ⟨⟨_, _, rfl, rfl⟩, ⟨_, _, rfl, rfl⟩, ⟨_, _, rfl, rfl⟩, ⟨_, _, rfl, rfl⟩, ⟨_, _, rfl, rfl⟩, ⟨_, _, rfl, rfl⟩, ⟨_, _, rfl, rfl⟩⟩
end
set_option maxHeartbeats 1000000 in
theorem walk_c (w : World) (mean : ExcName → Option Value) (mg mb : Str → Option Value) (news : List (Addr × Obj)) (ps : List (List Ltr)) (lm : List (Str × Tok)) (l : Addr) (n : Nat)
  (hp : ∀ p ∈ ps, p ∈ pcs) (hlen : ps.length ≤ 6) (hlm : lm.map (·.1) = ps.map tx) (hl : (l, listOf (strValues lm).toArray n) ∈ news) : PaintClaim w mean mg mb 125 news l (paintsTo ps ps.length) := by
  k_with_none
  dsimp only [PaintClaim]; k_fill; intros; rename_i hret
  refine wpAny_call ?_
  k_dflt cell_enter
  rename_i g1 L1 h1 FG F N B X T
  rw [wlkBody]
  have F0 := know F (n := Str.ofString "pieces") (v := .ref l) rfl
  refine wpAny_execs_cons (wlk_ini0 w mean mg mb news _ _ _ _ _ _ _ _ _ _ _ _ _ _ _ _ _ _ _ B X T l F0 N (by first | exact lt_dn (by assumption) (by decide) | omega) (by first | exact lt_dn (by assumption) (by decide) | omega) ?_)
  intro h2 tk2 m2 F2 N2 e1 e2
  obtain ⟨t1, t2, t3, t4, t5, t6, t7, q1, q2, q3, q4, q5, q6, q7⟩ := e2.toks
  have F3 := chain_know (l := [(Str.ofString "pieces", .ref l), (Str.ofString "low", .int 0 t1), (Str.ofString "middle", .int 0 t2), (Str.ofString "high", .int 0 t3), (Str.ofString "free", .int 0 t4), (Str.ofString "pairs", .int 0 t5), (Str.ofString "triples", .int 0 t6), (Str.ofString "size", .int 0 t7)]) F2
    (fa e1 (fa q1 (fa q2 (fa q3 (fa q4 (fa q5 (fa q6 (fa q7 fn))))))))
  refine wpAny_execs_cons (wlk_ini1 w mean mg mb news _ _ _ _ _ _ _ _ _ _ _ _ _ _ _ _ _ _ _ B X T l t1 t2 t3 t4 t5 t6 t7 F3 N2 (by first | exact lt_dn (by assumption) (by decide) | omega) (by first | exact lt_dn (by assumption) (by decide) | omega) ?_)
  intro h4 tk4 m4 D d x1 x2 x3 F4 N4 hdD hd hD e3 e4 e5
  refine wpAny_execs_cons (wlk_loop w mean mg mb news _ _ _ _ _ _ _ _ _ _ _ _ _ _ _ _ _ _ _ ps lm l D n hp hlen hlm hl hD B X T [.ref d] [(d, tupZ (0, 0, 0) x1 x2 x3)] 0 F4 N4 ?_ ?_ ?_ e3 e4 e5 (by passes_own) (by first | exact lt_dn (by assumption) (by decide) | omega) (by first | exact lt_dn (by assumption) (by decide) | omega) ?_)
  · intro q hq
    rw [List.mem_singleton.mp hq]
    exact Nat.ne_of_lt hdD
  · intro q hq p hp'
    rw [List.mem_singleton.mp hq]
    exact hd p hp'
  · refine ⟨rfl, fun i t e => ?_⟩
    cases i with
    | zero =>
      have : t = (0, 0, 0) := by
        have e' : some (paint []) = some t := e
        rw [← Option.some.inj e']
        rfl
      subst this
      exact ⟨d, x1, x2, x3, rfl, .head _⟩
    | succ i => cases e
  · intro h5 tk5 m5 vs tup k F5 N5 j1 j2 j3 j4
    have F6 := know F5 j4
    k_steps
    all_goals exact hret D vs tup k _ _ (by k_asm) (by k_asm) j1 j2 hD j3
end Mine
end
section
open PySem PySem.W PyProof.Rows PySem.Spec PySem.Calls PySem.Builtin.Str
set_option maxRecDepth 100000
namespace Mine
noncomputable abbrev lawA (dp un : Nat) (gd : Option (List Code)) : Around := { handled := none, depth := dp, frames := some [], guards := gd, units := un }
noncomputable abbrev envN (L fa : Addr) (cd : Value) : Env := envOfC (Str.ofString "law") (fScope (stOf 20)) L fa cd
noncomputable def lawSt (i : Nat) : Stmt := ((fBody (stOf 20)).drop i).headD (.Pass default)
theorem lawBody : fBody (stOf 20) = [lawSt 0, lawSt 1, lawSt 2, lawSt 3, lawSt 4, lawSt 5, lawSt 6] := by kernel_rfl
theorem subA {a b c d : Addr × Obj} {l : List (Addr × Obj)} : ∀ x ∈ a :: l, x ∈ a :: b :: c :: d :: l := fun x hx => by
  rcases List.mem_cons.mp hx with rfl | hx
  · exact .head _
  · exact .tail _ (.tail _ (.tail _ (.tail _ hx)))
theorem four_ints (a b c d : Tok) : IntsAre [Value.int 1378 a, .int 5642 b, .int 1263 c, .int 2247 d] [1378, 5642, 1263, 2247] := by repeat constructor
theorem four_from (a b c d : Tok) {n : Nat} : IntsAre (slicePick [Value.int 1378 a, .int 5642 b, .int 1263 c, .int 2247 d].toArray (some (n : Int)) none none).toList (([1378, 5642, 1263, 2247] : List Int).drop n) := kmk_from (four_ints a b c d) (Int.natCast_nonneg n)
section
variable (w : World) (mean : ExcName → Option Value) (mg mb : Str → Option Value) (news : List (Addr × Obj))
  (dp un : Nat) (gd : Option (List Code)) (base : Heap) (gh h : Heap) (L fa : Addr) (cd : Value) (m : Str → Option Value) (s : Shared) (tk : Nat) (Q : Flow → Shared → Prop) (E : Value → Shared → Prop)
set_option maxHeartbeats 1000000 in
theorem law_0 (sc : Addr) (xs : List Int) (vals : List Value) (hl : gh.IsList sc vals.toArray) (hI : IntsAre vals xs) (hx : xs.length ≤ 63)
  (B' : Below (lawA dp un gd) base [] gh) (X' : (KT w.params).In gh) (T' : Top qV looseV mean mg mb gh)
  (F' : Fr gh L h (fun y => if y = Str.ofString "script" then some (.ref sc) else m y)) (N' : News gh L h news) (hdp : dp + 10 < recursionLimit) (hun : un + 100 < cLine)
  (hnext : ∀ h' tk' m' D ys vs k, Fr gh L h' m' → News gh L h' ((D, listOf vs.toArray k) :: news) → (∀ p ∈ news, p.1 < D) → IntsAre vs ys → 4 ≤ ys.length → ys.length ≤ 6 → m' (Str.ofString "numbers") = some (.ref D) → Q .next { s with heap := h', toks := tk' }) :
  wpAny (model rwT.prog w) ((lawA dp un gd).deeper (envN L fa cd)) (exec (lawSt 0) (envN L fa cd)) Q E { s with heap := h, toks := tk } := by
  k_with_none
  k_with "subscriptTail" => (k_here; (with_reducible show wpAny _ _ (subscriptTail (PySem.Expr.List _ _) (PySem.Expr.Slice _ _ none _) (Value.ref _) (Value.ref _)) _ _ _); (refine kba_turn (value' := .Name (Str.ofString "x") default) (fun _ => rfl) ?_); k_dflt (refine' kmk_slice_ints ?Fw9 ?Nw9 ?lw9 ?pw9 ?qw9 ?iw9 ?mw9 ?cw9 ?_ ?sw9 ?tw9 ?zw9; (case Fw9 => k_asm); (case Nw9 => k_asm); (case lw9 => kmk_list); (case pw9 => kmk_part); (case qw9 => kmk_part); (case iw9 => exact four_ints _ _ _ _); (case mw9 => exact four_from _ _ _ _); (case cw9 => exact rfl); (case sw9 => with_unfolding_all rfl); (case tw9 => kmk_pure); (case zw9 => exact Nat.le_of_ble_eq_true rfl)); intro Dw9 wsw9 hw9 Fw9 Nw9 l1w9 hIw9 hCw9 hLw9; (try k_lt l1w9); (try k_sweep))
  dsimp only [envN]; (conv in (lawSt _) => whnf); revert X'; k_fill; intro X'
  k_steps
  all_goals exact hnext _ _ _ _ _ _ _ (by k_asm) (cb_drop (by k_asm) subA) (allLt_lt2 (And.right (And.right (And.right (by assumption))))) (by assumption) (by simp only [List.length_append, List.length_take, List.length_drop, List.length_cons, List.length_nil]; omega) (by simp only [List.length_append, List.length_take, List.length_drop, List.length_cons, List.length_nil]; omega) rfl
end
end Mine
end
section
open PySem PySem.W PyProof.Rows PySem.Spec PySem.Calls PySem.Builtin.Str
set_option maxRecDepth 100000
namespace Mine
open LCg
noncomputable def compPx : PySem.Expr → Pos | .ListComp _ (g :: _) _ _ => (match g.target with | .Name _ p => p | _ => default) | _ => default
noncomputable def pcC : PySem.Expr := asgVal (lawSt 1)
theorem pcC_is : pcC = .ListComp (compElt pcC) [⟨.Name (Str.ofString "x") (compPx pcC), compIter pcC, [], 0⟩] (compScope pcC) pcC.pos := by kernel_rfl
noncomputable abbrev envC1 (C L fa : Addr) (cd : Value) : Env := compEnvC (compScope pcC) [] C (envN L fa cd)
theorem off1_mem {D : Addr} : ∀ {l : List (Addr × Obj)}, Off1 D l → ∀ p ∈ l, p.1 ≠ D
  | [], _, _, h => nomatch h
  | _ :: _, x, p, h => by
    rcases List.mem_cons.mp h with rfl | h
    · exact x.1
    · exact off1_mem x.2 p h
theorem strV_snoc (lm : List (Str × Tok)) (x : Str) (t : Tok) : strValues (lm ++ [(x, t)]) = strValues lm ++ [.str x t] := by simp [strValues]
section
variable (w : World) (mean : ExcName → Option Value) (mg mb : Str → Option Value) (news : List (Addr × Obj))
  (dp un : Nat) (gd : Option (List Code)) (base : Heap) (gh h : Heap) (L fa : Addr) (cd : Value) (m : Str → Option Value) (s : Shared) (tk : Nat)
set_option maxHeartbeats 1000000 in
theorem pc_elt (Q : Value → Shared → Prop) (E : Value → Shared → Prop) (x : Int) (t : Tok) (I C : Addr) (oI oC : Obj) (m₂ : Str → Option Value)
  (hC : NsObj oC m₂) (h1 : m₂ (Str.ofString "x") = some (.int x t))
  (B' : Below (lawA dp un gd) base [] gh) (X' : (KT w.params).In gh) (T' : Top qV looseV mean mg mb gh)
  (F' : Fr gh L h m) (N' : News gh L h ((I, oI) :: (C, oC) :: news)) (hdp : dp + 40 < recursionLimit) (hun : un + 800 < cLine)
  (hq : ∀ h' tk' t', Fr gh L h' m → News gh L h' ((I, oI) :: (C, oC) :: news) → Q (.str (tx (pcOf x)) t') { s with heap := h', toks := tk' }) :
  wpAny (model rwT.prog w) ((lawA dp un gd).deeper (envN L fa cd)) (eval (compElt pcC) (envC1 C L fa cd)) Q E { s with heap := h, toks := tk } := by
  k_with_none
  k_with "call ref" => (k_here; (with_reducible show wpAny _ _ (call (Value.ref 118) [Value.int _ _]) _ _ _); k_dflt (refine' piece_c _ _ _ _ _ _ _ _ _ _ _ _ _ _ _ _ _ _ _ _ _ _ _ _ ?k1w9 ?k2w9 ?k3w9 ?k4w9 ?k5w9 ?k6w9 ?kdw9 ?kuw9 ?_; (case k1w9 => k_asm); (case k2w9 => k_asm); (case k3w9 => k_asm); (case k4w9 => k_asm); (case k5w9 => k_asm); (case k6w9 => first | exact rfl | assumption); (case kdw9 => ktr_room); (case kuw9 => ktr_units)); intro tw9 hw9 tkw9 Fw9 Nw9; (try dsimp only))
  dsimp only [envC1, envN]; (conv in (compElt _) => whnf); revert X'; k_fill; intro X'
  k_steps
  all_goals exact hq _ _ _ (by k_asm) (by k_asm)
set_option maxHeartbeats 1000000 in
theorem pc_iter (Q : Value → Shared → Prop) (E : Value → Shared → Prop) (D : Addr)
  (B' : Below (lawA dp un gd) base [] gh) (X' : (KT w.params).In gh) (T' : Top qV looseV mean mg mb gh)
  (F' : Fr gh L h (fun y => if y = Str.ofString "numbers" then some (.ref D) else m y)) (N' : News gh L h news) (hdp : dp + 10 < recursionLimit) (hun : un + 100 < cLine)
  (hq : ∀ tk', Q (.ref D) { s with heap := h, toks := tk' }) :
  wpAny (model rwT.prog w) ((lawA dp un gd).deeper (envN L fa cd)) (eval (compIter pcC) (envN L fa cd)) Q E { s with heap := h, toks := tk } := by
  k_with_none
  k_with "call ref" => (k_here; (with_reducible show wpAny _ _ (call (Value.ref 118) [Value.int _ _]) _ _ _); k_dflt (refine' piece_c _ _ _ _ _ _ _ _ _ _ _ _ _ _ _ _ _ _ _ _ _ _ _ _ ?k1w9 ?k2w9 ?k3w9 ?k4w9 ?k5w9 ?k6w9 ?kdw9 ?kuw9 ?_; (case k1w9 => k_asm); (case k2w9 => k_asm); (case k3w9 => k_asm); (case k4w9 => k_asm); (case k5w9 => k_asm); (case k6w9 => first | exact rfl | assumption); (case kdw9 => ktr_room); (case kuw9 => ktr_units)); intro tw9 hw9 tkw9 Fw9 Nw9; (try dsimp only))
  dsimp only [envN]; (conv in (compIter _) => whnf); revert X'; k_fill; intro X'
  k_steps
  all_goals exact hq _
theorem pc_rest (B' : Below (lawA dp un gd) base [] gh) (X' : (KT w.params).In gh) (T' : Top qV looseV mean mg mb gh) (hdp : dp + 40 < recursionLimit) (hun : un + 800 < cLine) (D : Addr) (xs : List Int) (ws : List Value) (hI : IntsAre ws xs) (hSrc : SrcAt gh D ws.toArray news) (Fin : List Value → List (Addr × Obj) → Prop)
  (hF : ∀ lm : List (Str × Tok), lm.map (·.1) = (xs.map pcOf).map tx → Fin (strValues lm) news) :
  ∀ (k i : Nat) (lm : List (Str × Tok)), i + k = xs.length → lm.map (·.1) = ((xs.take i).map pcOf).map tx →
    CompRest rwT.prog w ((lawA dp un gd).deeper (envN L fa cd)) gh L m (envN L fa cd) (compElt pcC) (Str.ofString "x") (compScope pcC) [] s (SrcAt gh D ws.toArray) (fun i v => ws.toArray[i]? = some v) Fin k i (strValues lm) news
  | 0, i, lm, hi, hm => .zero (hF lm (by rw [hm, List.take_of_length_le (by omega)]))
  | k + 1, i, lm, hi, hm => by
    refine .succ fun v I oI C oC D2 m₂ h tk E' hv hC hx F N off ne => ?_
    obtain ⟨x, t, e1, e2⟩ := hI.at i v (by rw [← hv, List.getElem?_toArray])
    subst e1
    refine pc_elt w mean mg mb ((D2, lst (strValues lm)) :: news) dp un gd base gh h L fa cd m s tk _ E' x t I C oI oC m₂ hC hx B' X' T' F N hdp hun ?_
    intro h' tk' t' F2 N2
    refine CompEnd.intro F2 N2 news (fun p hp => hp) off hSrc ?_
    rw [← strV_snoc]
    refine pc_rest B' X' T' hdp hun D xs ws hI hSrc Fin hF k (i + 1) (lm ++ [(tx (pcOf x), t')]) (by omega) ?_
    rw [List.take_add_one, e2, List.map_append, List.map_append, List.map_append, hm]; rfl
theorem pc_comp (Q : Value → Shared → Prop) (E : Value → Shared → Prop) (D : Addr) (xs : List Int) (ws : List Value) (kk : Nat) (hI : IntsAre ws xs) (hx : xs.length ≤ 6) (hD : (D, listOf ws.toArray kk) ∈ news)
  (B' : Below (lawA dp un gd) base [] gh) (X' : (KT w.params).In gh) (T' : Top qV looseV mean mg mb gh)
  (F' : Fr gh L h (fun y => if y = Str.ofString "numbers" then some (.ref D) else m y)) (N' : News gh L h news) (hdp : dp + 40 < recursionLimit) (hun : un + 800 < cLine)
  (hq : ∀ h' tk' P lm, lm.map (·.1) = (xs.map pcOf).map tx → Fr gh L h' (fun y => if y = Str.ofString "numbers" then some (.ref D) else m y) → News gh L h' ((P, lst (strValues lm)) :: news) → (∀ p ∈ news, p.1 ≠ P) → Q (.ref P) { s with heap := h', toks := tk' }) :
  wpAny (model rwT.prog w) ((lawA dp un gd).deeper (envN L fa cd)) (eval pcC (envN L fa cd)) Q E { s with heap := h, toks := tk } := by
  rw [pcC_is]
  refine LCg.ListComp_U (s := { s with heap := h, toks := tk }) (L := L) (F₀ := F') (by with_unfolding_all rfl) (by decide +kernel) (by rfl) (by decide +kernel) (by rfl) ?_
  refine pc_iter w mean mg mb news dp un gd base gh h L fa cd m s tk _ E D B' X' T' F' N' (by first | exact lt_dn (by assumption) (by decide) | omega) (by first | exact lt_dn (by assumption) (by decide) | omega) ?_
  intro tk1
  refine CompSrc.ledger rfl F' N' hD (by rw [sizeLine_eq, List.size_toArray, hI.length]; omega) fun g => ?_
  have hs : ws.toArray.size = xs.length := by rw [List.size_toArray, hI.length]
  rw [hs]
  refine pc_rest w mean mg mb news dp un gd base gh L fa cd _ _ B' X' T' hdp hun D xs ws hI (.inr ⟨_, hD, rfl, _, rfl⟩) _ ?_ xs.length 0 [] (by omega) rfl
  intro lm hm D2 h2 tk2 F2 N2 off
  exact hq h2 tk2 D2 lm hm F2 N2 (off1_mem off)
theorem two_cell {g h : Heap} {L : Addr} {a b c : Addr × Obj} {l : List (Addr × Obj)} (N : News g L h (a :: b :: c :: l)) : News g L h (c :: a :: l) := News.perm N (fun p hp => by
  rcases List.mem_cons.mp hp with rfl | hp
  · exact .tail _ (.tail _ (.head _))
  · rcases List.mem_cons.mp hp with rfl | hp
    · exact .head _
    · exact .tail _ (.tail _ (.tail _ hp)))
set_option maxHeartbeats 1000000 in
theorem law_1 (Q : Flow → Shared → Prop) (E : Value → Shared → Prop) (D : Addr) (o : Obj) (od : o.data = .cell none) (xs : List Int) (ws : List Value) (kk : Nat) (hI : IntsAre ws xs) (hx : xs.length ≤ 6) (hD : L + 1 < D)
  (B' : Below (lawA dp un gd) base [] gh) (X' : (KT w.params).In gh) (T' : Top qV looseV mean mg mb gh)
  (F' : Fr gh L h (fun y => if y = Str.ofString "numbers" then some (.ref D) else m y)) (N' : News gh L h [(D, listOf ws.toArray kk), (L + 1, o)]) (hdp : dp + 40 < recursionLimit) (hun : un + 800 < cLine)
  (hnext : ∀ h' tk' m' P lm o', lm.map (·.1) = (xs.map pcOf).map tx → Fr gh L h' m' → News gh L h' [(L + 1, o'), (P, lst (strValues lm))] → P ≠ L + 1 → o'.data = .cell (some (.ref P)) → Q .next { s with heap := h', toks := tk' }) :
  wpAny (model rwT.prog w) ((lawA dp un gd).deeper (envN L fa cd)) (exec (lawSt 1) (envN L fa cd)) Q E { s with heap := h, toks := tk } := by
  k_with_none
  k_with "call ref" => (k_here; (with_reducible show wpAny _ _ (call (Value.ref 118) [Value.int _ _]) _ _ _); k_dflt (refine' piece_c _ _ _ _ _ _ _ _ _ _ _ _ _ _ _ _ _ _ _ _ _ _ _ _ ?k1w9 ?k2w9 ?k3w9 ?k4w9 ?k5w9 ?k6w9 ?kdw9 ?kuw9 ?_; (case k1w9 => k_asm); (case k2w9 => k_asm); (case k3w9 => k_asm); (case k4w9 => k_asm); (case k5w9 => k_asm); (case k6w9 => first | exact rfl | assumption); (case kdw9 => ktr_room); (case kuw9 => ktr_units)); intro tw9 hw9 tkw9 Fw9 Nw9; (try dsimp only))
  k_with "eval ListComp" => (k_here; k_dflt (refine' pc_comp _ _ _ _ _ _ _ _ _ _ _ _ _ _ _ _ _ _ _ _ _ _ _ ?kIw9 ?kxw9 ?kDw9 ?k1w9 ?k2w9 ?k3w9 ?k4w9 ?k5w9 ?kdw9 ?kuw9 ?_; (case k1w9 => k_asm); (case k2w9 => k_asm); (case k3w9 => k_asm); (case k4w9 => k_asm); (case k5w9 => k_asm); (case kIw9 => assumption); (case kxw9 => assumption); (case kDw9 => exact List.Mem.head _); (case kdw9 => ktr_room); (case kuw9 => ktr_units)); intro hw9 tkw9 Pw9 lmw9 ew9 Fw9 Nw9 l1w9; (try dsimp only))
  dsimp only [envN]; (conv in (lawSt _) => whnf); revert X'; k_fill; intro X'
  k_steps
  all_goals (exact hnext _ _ _ _ _ _ (by assumption) (by k_asm) (two_cell (by assumption)) (fun e => l1w9 _ (.tail _ (.head _)) e.symm) (by assumption))
end
end Mine
end
section
open PySem PySem.W PyProof.Rows PySem.Spec PySem.Calls PySem.Builtin.Str
set_option maxRecDepth 100000
namespace Mine
open LCg PySem.SeqAt
noncomputable def rwC : PySem.Expr := asgVal (lawSt 3)
noncomputable def asgPy : Stmt → Pos | .Assign (.Name _ p :: _) _ _ => p | _ => default
theorem rwC_is : lawSt 3 = .Assign [.Name (Str.ofString "rows") (asgPy (lawSt 3))] (.ListComp (compElt rwC) [⟨.Name (Str.ofString "place") (compPx rwC), compIter rwC, [], 0⟩] (compScope rwC) rwC.pos) (lawSt 3).pos := by kernel_rfl
noncomputable abbrev envC3 (C L fa : Addr) (cd : Value) : Env := compEnvC (compScope rwC) [(Str.ofString "pieces", L + 1)] C (envN L fa cd)
theorem none_in {prog : Program} {w : World} {A : Around} {E : Value → Shared → Prop} {s : Shared} {gh : Heap} {L : Addr} {news : List (Addr × Obj)} {P : Addr} {lm : List (Str × Tok)} {Q : Value → Shared → Prop} (N : News gh L s.heap news) (hP : (P, lst (strValues lm)) ∈ news) (h : Q (.bool false) s) :
    wpAny (model prog w) A (compareOp .In .none (.ref P)) Q E s := by
  have hl : s.heap.IsList P (strValues lm).toArray := ⟨_, (N _ hP).1, rfl, _, rfl⟩
  refine in_listAt (fun _ => false) hl (fun y hy => ?_) (by rw [show (strValues lm).toArray.any (fun _ => false) = false by simp]; exact h)
  obtain ⟨p, _, rfl⟩ := List.mem_map.mp (List.mem_toArray.mp hy)
  exact EqAt.str_none _ _
theorem kms_from (l : List Value) (i : Nat) : kms_pick l (some (i : Int)) none = l.drop i := by
  unfold kms_pick kms_lo kms_hi
  dsimp only
  rw [if_neg (by omega), Int.toNat_natCast, kmk_drop_min, List.take_of_length_le (by rw [List.length_drop]; omega)]
theorem pc_slice {prog : Program} {w : World} {A : Around} {E : Value → Shared → Prop} {s : Shared} {gh : Heap} {L : Addr} {m : Str → Option Value} {news : List (Addr × Obj)} {P : Addr} {lm : List (Str × Tok)} {i : Nat} {t : Tok} {value slice : PySem.Expr} {Q : Value → Shared → Prop} (F : Fr gh L s.heap m) (N : News gh L s.heap news) (hP : (P, lst (strValues lm)) ∈ news) (hz : lm.length ≤ 6)
    (h : ∀ D h', Fr gh L h' m → News gh L h' ((D, listOf (strValues (lm.drop i)).toArray 0) :: news) → (∀ p ∈ news, p.1 < D) → Q (.ref D) { s with heap := h' })
    (hs : subscripted slice false (.ref P) (.ref s.heap.objs.size) = operate [.ref s.heap.objs.size, .ref P] (getItem (.ref P) (.ref s.heap.objs.size))) (ht : ∀ r, letTemporaryGo value (.ref P) r = pure ()) :
    wpAny (model prog w) A (subscriptTail value slice (.ref P) (.ref s.heap.objs.size)) Q E { s with heap := s.heap.push { cls := .type "slice", data := .fields #[.int (i : Int) t, .none, .none] } } := by
  have hl : s.heap.IsList P (strValues lm).toArray := ⟨_, (N _ hP).1, rfl, _, rfl⟩
  refine kms_slice_lit F N hl (IsPart.int _ _) IsPart.none (zs := strValues (lm.drop i)) ?_ h hs ht (by rw [sizeLine_eq]; simp [strValues]; omega)
  rw [List.toList_toArray, kms_from]
  unfold strValues
  rw [List.map_drop]
theorem pc_len {prog : Program} {w : World} {A : Around} {E : Value → Shared → Prop} {s : Shared} {gh : Heap} {L : Addr} {news : List (Addr × Obj)} {P : Addr} {lm : List (Str × Tok)} {Q : Value → Shared → Prop} (N : News gh L s.heap news) (hP : (P, lst (strValues lm)) ∈ news) (hz : lm.length ≤ 6)
    (h : Q (.int (lm.length : Nat) (s.toks + 1)) { s with toks := s.toks + 1 + 1 }) : wpAny (model prog w) A (call (.builtin "len") [.ref P]) Q E s := by
  have hl : s.heap.IsList P (strValues lm).toArray := ⟨_, (N _ hP).1, rfl, _, rfl⟩
  have e : (strValues lm).toArray.size = lm.length := by simp [strValues]
  refine call_len_list hl (by rw [e]; omega) ?_
  rw [e]; exact h
structure RowsIn (own : List (Addr × Obj)) (ys : List Value) (tss : List (List Z3)) : Prop where
  len : ys.length = tss.length
  at_ : ∀ (i : Nat) (ts : List Z3), tss[i]? = some ts → ∃ D vs k, ys[i]? = some (.ref D) ∧ (D, listOf (List.toArray vs) k) ∈ own ∧ TripsIn own vs ts
theorem RowsIn.mono {own own' : List (Addr × Obj)} {ys : List Value} {tss : List (List Z3)} (h : RowsIn own ys tss) (hs : ∀ p ∈ own, p ∈ own') : RowsIn own' ys tss :=
  ⟨h.len, fun i t e => let ⟨d, a, b, x, y, z⟩ := h.at_ i t e; ⟨d, a, b, x, hs _ y, z.mono hs⟩⟩
theorem RowsIn.snoc {own : List (Addr × Obj)} {ys : List Value} {tss : List (List Z3)} {D : Addr} {vs : List Value} {k : Nat} {ts : List Z3} (h : RowsIn own ys tss) (hd : (D, listOf (List.toArray vs) k) ∈ own) (ht : TripsIn own vs ts) : RowsIn own (ys ++ [.ref D]) (tss ++ [ts]) := by
  refine ⟨by simp [h.len], fun i t' e => ?_⟩
  rcases Nat.lt_or_ge i tss.length with c | c
  · rw [List.getElem?_append_left c] at e
    obtain ⟨d', a, b, x, y, z⟩ := h.at_ i t' e
    exact ⟨d', a, b, by rw [List.getElem?_append_left (by rw [h.len]; exact c)]; exact x, y, z⟩
  · rw [List.getElem?_append_right c] at e
    have hi : i - tss.length = 0 := by
      cases hq : i - tss.length with
      | zero => rfl
      | succ n => rw [hq] at e; simp at e
    rw [hi] at e
    simp at e
    subst e
    refine ⟨D, vs, k, ?_, hd, ht⟩
    rw [List.getElem?_append_right (by rw [h.len]; exact c), h.len, hi]
    rfl
section
variable (w : World) (mean : ExcName → Option Value) (mg mb : Str → Option Value) (news : List (Addr × Obj))
  (dp un : Nat) (gd : Option (List Code)) (base : Heap) (gh h : Heap) (L fa : Addr) (cd : Value) (m : Str → Option Value) (s : Shared) (tk : Nat)
set_option maxHeartbeats 1000000 in
theorem law_2 (Q : Flow → Shared → Prop) (E : Value → Shared → Prop) (P : Addr) (o : Obj) (od : o.data = .cell (some (.ref P))) (lm : List (Str × Tok)) (hP : (P, lst (strValues lm)) ∈ news)
  (B' : Below (lawA dp un gd) base [] gh) (X' : (KT w.params).In gh) (T' : Top qV looseV mean mg mb gh)
  (F' : Fr gh L h m) (N' : News gh L h ((L + 1, o) :: news)) (hdp : dp + 40 < recursionLimit) (hun : un + 800 < cLine)
  (hnext : ∀ h' tk', Fr gh L h' m → News gh L h' ((L + 1, o) :: news) → Q .next { s with heap := h', toks := tk' }) :
  wpAny (model rwT.prog w) ((lawA dp un gd).deeper (envN L fa cd)) (exec (lawSt 2) (envN L fa cd)) Q E { s with heap := h, toks := tk } := by
  k_with_none
  k_with "compareOp In none ref" => (k_here; k_dflt (refine' none_in ?Nw9 ?lw9 ?_; (case Nw9 => k_asm); (case lw9 => assumption)))
  have hP' : (P, lst (strValues lm)) ∈ (L + 1, o) :: news := .tail _ hP
  dsimp only [envN]; (conv in (lawSt _) => whnf); revert X'; k_fill; intro X'
  k_steps
  all_goals exact hnext _ _ (by k_asm) (by k_asm)
set_option maxHeartbeats 1000000 in
theorem rw_iter (Q : Value → Shared → Prop) (E : Value → Shared → Prop) (P : Addr) (o : Obj) (od : o.data = .cell (some (.ref P))) (lm : List (Str × Tok)) 
  (B' : Below (lawA dp un gd) base [] gh) (X' : (KT w.params).In gh) (T' : Top qV looseV mean mg mb gh) (hz : lm.length ≤ 6)
  (F' : Fr gh L h m) (N' : News gh L h ((L + 1, o) :: (P, lst (strValues lm)) :: news)) (hdp : dp + 40 < recursionLimit) (hun : un + 800 < cLine)
  (hq : ∀ r h' tk' t1 t2 t3, IsRange h' r 0 (lm.length : Nat) 1 t1 t2 t3 → Fr gh L h' m → News gh L h' ((L + 1, o) :: (P, lst (strValues lm)) :: news) → Q (.ref r) { s with heap := h', toks := tk' }) :
  wpAny (model rwT.prog w) ((lawA dp un gd).deeper (envN L fa cd)) (eval (compIter rwC) (envN L fa cd)) Q E { s with heap := h, toks := tk } := by
  k_with_none
  k_with "compareOp In none ref" => (k_here; k_dflt (refine' none_in ?Nw9 ?lw9 ?_; (case Nw9 => k_asm); (case lw9 => assumption)))
  k_with "call builtin:len" => (k_here; k_dflt (refine' pc_len ?Nw9 ?lw9 ?hzw9 ?_; (case Nw9 => k_asm); (case lw9 => exact List.Mem.tail _ (List.Mem.head _)); (case hzw9 => assumption)))
  dsimp only [envN]; (conv in (compIter _) => whnf); revert X'; k_fill; intro X'
  k_steps
  all_goals exact hq _ _ _ _ _ _ (by assumption) (by k_asm) (by k_asm)
end
end Mine
end
section
open PySem PySem.W PyProof.Rows PySem.Spec PySem.Calls PySem.Builtin.Str
set_option maxRecDepth 100000
namespace Mine
open LCg PySem.SeqAt
noncomputable def tssOf (ps : List (List Ltr)) : List (List Z3) := (List.range ps.length).map fun j => paintsTo (ps.drop j) (ps.drop j).length
theorem tss_at (ps : List (List Ltr)) {i : Nat} (h : i < ps.length) : (tssOf ps)[i]? = some (paintsTo (ps.drop i) (ps.drop i).length) := by
  unfold tssOf
  rw [List.getElem?_map, List.getElem?_range h]; rfl
theorem tss_take (ps : List (List Ltr)) {i : Nat} (h : i < ps.length) : (tssOf ps).take (i + 1) = (tssOf ps).take i ++ [paintsTo (ps.drop i) (ps.drop i).length] := by
  rw [List.take_add_one, tss_at ps h]; rfl
theorem PaintClaim.out {w : World} {mean : ExcName → Option Value} {mg mb : Str → Option Value} {f : Addr} {news : List (Addr × Obj)} {l : Addr} {ts : List Z3} (h : PaintClaim w mean mg mb f news l ts) : PaintClaim w mean mg mb f news l ts := h
theorem kept2 {a b I C D x y : Addr × Obj} {tup own : List (Addr × Obj)} : ∀ p ∈ I :: C :: D :: x :: y :: (a :: (tup ++ own)), p ∈ (a :: (tup ++ (b :: I :: C :: D :: x :: y :: own))) := by
  intro p hp
  simp only [List.mem_cons, List.mem_append] at hp ⊢
  rcases hp with h | h | h | h | h | h | h | h <;> simp [h]
section
variable (w : World) (mean : ExcName → Option Value) (mg mb : Str → Option Value) (news : List (Addr × Obj))
  (dp un : Nat) (gd : Option (List Code)) (base : Heap) (gh h : Heap) (L fa : Addr) (cd : Value) (m : Str → Option Value) (s : Shared) (tk : Nat)
set_option maxHeartbeats 1000000 in
theorem rw_elt (Q : Value → Shared → Prop) (E : Value → Shared → Prop) (i : Nat) (t : Tok) (I C D P : Addr) (oI oC oD o : Obj) (m₂ : Str → Option Value) (lm : List (Str × Tok)) (ps : List (List Ltr)) (od : o.data = .cell (some (.ref P)))
  (hz : lm.length ≤ 6) (hp : ∀ p ∈ ps.drop i, p ∈ pcs) (hl6 : (ps.drop i).length ≤ 6) (hlm : (lm.drop i).map (·.1) = (ps.drop i).map tx)
  (hC : NsObj oC m₂) (h1 : m₂ (Str.ofString "place") = some (.int (i : Int) t))
  (B' : Below (lawA dp un gd) base [] gh) (X' : (KT w.params).In gh) (T' : Top qV looseV mean mg mb gh)
  (F' : Fr gh L h m) (N' : News gh L h ((I, oI) :: (C, oC) :: (D, oD) :: (L + 1, o) :: (P, lst (strValues lm)) :: news)) (hdp : dp + 40 < recursionLimit) (hun : un + 800 < cLine)
  (hq : ∀ R vs tup k Dsl osl h' tk', Fr gh L h' m → News gh L h' ((R, listOf (List.toArray vs) k) :: (tup ++ ((Dsl, osl) :: (I, oI) :: (C, oC) :: (D, oD) :: (L + 1, o) :: (P, lst (strValues lm)) :: news))) → (∀ q ∈ tup, ∀ p ∈ (Dsl, osl) :: (I, oI) :: (C, oC) :: (D, oD) :: (L + 1, o) :: (P, lst (strValues lm)) :: news, p.1 < q.1) → (∀ q ∈ (Dsl, osl) :: (I, oI) :: (C, oC) :: (D, oD) :: (L + 1, o) :: (P, lst (strValues lm)) :: news, q.1 < R) → TripsIn tup vs (paintsTo (ps.drop i) (ps.drop i).length) → Q (.ref R) { s with heap := h', toks := tk' }) :
  wpAny (model rwT.prog w) ((lawA dp un gd).deeper (envN L fa cd)) (eval (compElt rwC) (envC3 C L fa cd)) Q E { s with heap := h, toks := tk } := by
  k_with_none
  k_with "call ref" => (k_here; (with_reducible show wpAny _ _ (call (Value.ref 146) [Value.ref _]) _ _ _); k_dflt (refine' row_c _ _ _ _ _ _ _ _ _ ?hpw9 ?hl6w9 ?hlmw9 ?hlw9 _ _ _ _ _ _ _ _ _ _ _ _ _ _ _ _ _ ?k1w9 ?k2w9 ?k3w9 ?k4w9 ?k5w9 ?k6w9 ?kdw9 ?kuw9 ?_; (case k1w9 => k_asm); (case k2w9 => k_asm); (case k3w9 => k_asm); (case k4w9 => k_asm); (case k5w9 => k_asm); (case k6w9 => first | exact rfl | assumption); (case hlw9 => exact List.Mem.head _); (case hlmw9 => assumption); (case hpw9 => assumption); (case hl6w9 => assumption); (case kdw9 => ktr_room); (case kuw9 => ktr_units)))
  k_with "subscriptTail Name Slice ref ref" => (k_here; k_dflt (refine' pc_slice ?Fw9 ?Nw9 ?lw9 ?zw9 ?_ ?sw9 ?tw9; (case Fw9 => k_asm); (case Nw9 => k_asm); (case lw9 => exact List.Mem.tail _ (List.Mem.tail _ (List.Mem.tail _ (List.Mem.tail _ (List.Mem.head _))))); (case zw9 => assumption); (case sw9 => with_unfolding_all rfl); (case tw9 => kmk_pure)); intro Dw9 hw9 Fw9 Nw9 l1w9)
  dsimp only [envC3, envN]; (conv in (compElt _) => whnf); revert X'; k_fill; intro X'
  k_steps
  all_goals exact hq _ _ _ _ _ _ _ _ (by assumption) (by assumption) (by assumption) (by assumption) (by assumption)
theorem rw_rest (B' : Below (lawA dp un gd) base [] gh) (X' : (KT w.params).In gh) (T' : Top qV looseV mean mg mb gh) (hdp : dp + 40 < recursionLimit) (hun : un + 800 < cLine) (P : Addr) (o : Obj) (od : o.data = .cell (some (.ref P))) (lm : List (Str × Tok)) (ps : List (List Ltr)) (hp : ∀ p ∈ ps, p ∈ pcs) (hz : ps.length ≤ 6) (hlm : lm.map (·.1) = ps.map tx) (Fin : List Value → List (Addr × Obj) → Prop)
  (hF : ∀ ys own, RowsIn own ys (tssOf ps) → Fin ys ((L + 1, o) :: (P, lst (strValues lm)) :: own)) :
  ∀ (k i : Nat) (ys : List Value) (own : List (Addr × Obj)), i + k = ps.length → RowsIn own ys ((tssOf ps).take i) →
    CompRest rwT.prog w ((lawA dp un gd).deeper (envN L fa cd)) gh L m (envN L fa cd) (compElt rwC) (Str.ofString "place") (compScope rwC) [(Str.ofString "pieces", L + 1)] s (fun _ => True) (fun i v => ∃ t, v = .int (0 + (i : Int)) t) Fin k i ys ((L + 1, o) :: (P, lst (strValues lm)) :: own)
  | 0, i, ys, own, hi, hr => .zero (hF ys own (by rw [List.take_of_length_le (by simp [tssOf]; omega)] at hr; exact hr))
  | k + 1, i, ys, own, hi, hr => by
    refine .succ fun v I oI C oC D2 m₂ h tk E' hv hC hx F N off ne => ?_
    obtain ⟨t, rfl⟩ := hv
    rw [Int.zero_add] at hx
    have hl : lm.length = ps.length := by have := congrArg List.length hlm; simpa using this
    refine rw_elt w mean mg mb own dp un gd base gh h L fa cd m s tk _ E' i t I C D2 P oI oC (lst ys) o m₂ lm ps od (by omega) (fun p q => hp p (List.mem_of_mem_drop q)) (by rw [List.length_drop]; omega) (by rw [List.map_drop, List.map_drop, hlm]) hC hx B' X' T' F N hdp hun ?_
    intro R vs tup kk Dsl osl h' tk' F2 N2 g1 g2 tr
    refine CompEnd.intro F2 N2 ((L + 1, o) :: (P, lst (strValues lm)) :: ((R, listOf vs.toArray kk) :: (tup ++ own))) kept2 ?_ trivial ?_
    · refine Off3.of fun p q => ?_
      have mI : ∀ {x : Addr × Obj} {l : List (Addr × Obj)}, x ∈ x :: l := .head _
      rcases List.mem_cons.mp q with rfl | q
      · exact off.mem _ (.head _)
      rcases List.mem_cons.mp q with rfl | q
      · exact off.mem _ (.tail _ (.head _))
      rcases List.mem_cons.mp q with rfl | q
      · exact ⟨Nat.ne_of_gt (g2 _ (.tail _ (.head _))), Nat.ne_of_gt (g2 _ (.tail _ (.tail _ (.head _)))), Nat.ne_of_gt (g2 _ (.tail _ (.tail _ (.tail _ (.head _)))))⟩
      rcases List.mem_append.mp q with q | q
      · exact ⟨Nat.ne_of_gt (g1 p q _ (.tail _ (.head _))), Nat.ne_of_gt (g1 p q _ (.tail _ (.tail _ (.head _)))), Nat.ne_of_gt (g1 p q _ (.tail _ (.tail _ (.tail _ (.head _)))))⟩
      · exact off.mem _ (.tail _ (.tail _ q))
    · refine rw_rest B' X' T' hdp hun P o od lm ps hp hz hlm Fin hF k (i + 1) (ys ++ [.ref R]) ((R, listOf vs.toArray kk) :: (tup ++ own)) (by omega) ?_
      rw [tss_take ps (by omega)]
      exact (hr.mono fun p q => .tail _ (List.mem_append_right _ q)).snoc (.head _) (tr.mono fun p q => .tail _ (List.mem_append_left _ q))
theorem law_3 (Q : Flow → Shared → Prop) (E : Value → Shared → Prop) (P : Addr) (o : Obj) (od : o.data = .cell (some (.ref P))) (lm : List (Str × Tok)) (ps : List (List Ltr)) (hp : ∀ p ∈ ps, p ∈ pcs) (hz : ps.length ≤ 6) (hlm : lm.map (·.1) = ps.map tx)
  (B' : Below (lawA dp un gd) base [] gh) (X' : (KT w.params).In gh) (T' : Top qV looseV mean mg mb gh)
  (F' : Fr gh L h m) (N' : News gh L h ((L + 1, o) :: (P, lst (strValues lm)) :: news)) (hdp : dp + 40 < recursionLimit) (hun : un + 800 < cLine)
  (hnext : ∀ h' tk' RL ys own, RowsIn own ys (tssOf ps) → Fr gh L h' (fun z => if z = Str.ofString "rows" then some (.ref RL) else m z) → News gh L h' ((RL, lst ys) :: (L + 1, o) :: (P, lst (strValues lm)) :: own) → Q .next { s with heap := h', toks := tk' }) :
  wpAny (model rwT.prog w) ((lawA dp un gd).deeper (envN L fa cd)) (exec (lawSt 3) (envN L fa cd)) Q E { s with heap := h, toks := tk } := by
  rw [rwC_is]
  have hl : lm.length = ps.length := by have := congrArg List.length hlm; simpa using this
  refine LCg.Assign_ListComp_U (s := { s with heap := h, toks := tk }) (L := L) (F₀ := F') rfl (by with_unfolding_all rfl) (by with_unfolding_all rfl) (by decide +kernel) (by rfl) (by decide +kernel) (by rfl) (by rfl) (by rfl) ?_
  refine rw_iter w mean mg mb news dp un gd base gh h L fa cd m s tk _ E P o od lm B' X' T' (by omega) F' N' hdp hun ?_
  intro r h1 tk1 t1 t2 t3 hr F1 N1
  have e1 : (lm.length : Int) = ((ps.length : Nat) : Int) := by rw [hl]
  rw [e1] at hr
  refine CompSrc.range rfl F1 N1 hr (rng_small _ (by omega)) (rng_size _) (by rw [sizeLine_eq]; omega) fun g => ?_
  refine rw_rest w mean mg mb dp un gd base gh L fa cd _ _ B' X' T' hdp hun P o od lm ps hp hz hlm _ ?_ ps.length 0 [] news (by omega) ⟨rfl, fun i ts e => by simp at e⟩
  intro ys own hr2 D2 h2 tk2 F2 N2 off
  exact hnext h2 tk2 D2 ys own hr2 F2 N2
end
end Mine
end
section
open PySem PySem.W PyProof.Rows PySem.Spec PySem.Calls PySem.Builtin.Str
set_option maxRecDepth 100000
namespace Mine
open LCg PySem.SeqAt
theorem lst_item {prog : Program} {w : World} {A : Around} {E : Value → Shared → Prop} {s : Shared} {gh : Heap} {L : Addr} {news : List (Addr × Obj)} {D : Addr} {vs : List Value} {n : Nat} {x : Int} {i : Nat} {u : Tok} {v : Value} {value slice : PySem.Expr} {Q : Value → Shared → Prop} (N : News gh L s.heap news) (hm : (D, listOf vs.toArray n) ∈ news) (hx : x = (i : Int)) (he : vs[i]? = some v) (hz : vs.length ≤ 100) (h : Q v s)
    (hs : subscripted slice false (.ref D) (.int x u) = operate [.ref D, .int x u] (getItem (.ref D) (.int x u)) := by with_unfolding_all rfl) :
    wpAny (model prog w) A (subscriptTail value slice (.ref D) (.int x u)) Q E s := by
  have hl : s.heap.IsList D vs.toArray := ⟨_, (N _ hm).1, rfl, n, rfl⟩
  have hlt := (List.getElem?_eq_some_iff.mp he).1
  subst hx
  exact tail_any hl.typeIs slot_list_getitem.lookup (wpAny_getItem_list hl (by omega) (by simp; omega) (by rw [List.getElem?_toArray, Int.toNat_natCast]; exact he) h) hs
theorem lst_in {P : Addr} {lm : List (Str × Tok)} {l : List (Addr × Obj)} (h : (P, lst (strValues lm)) ∈ l) : (P, listOf (strValues lm).toArray (strValues lm).length) ∈ l := h
theorem int_eq (A : Around) (s : Shared) (a : Int) (t u : Tok) : EqAt A s (.int a t) (.int a u) true := by
  have := EqAt.int_int (A := A) (s := s) a t a u
  rwa [beq_self_eq_true] at this
theorem eq_tup {A : Around} {s : Shared} {gh : Heap} {L : Addr} {news : List (Addr × Obj)} {d1 d2 : Addr} {t : Z3} {t1 t2 t3 u1 u2 u3 : Tok} (N : News gh L s.heap news) (h1 : (d1, tupZ t t1 t2 t3) ∈ news) (h2 : (d2, tupZ t u1 u2 u3) ∈ news) (hne : d1 ≠ d2) (hu : A.units < cLine) : EqAt A s (.ref d1) (.ref d2) true := by
  have i1 : s.heap.IsTuple d1 #[.int t.1 t1, .int t.2.1 t2, .int t.2.2 t3] := ⟨_, (N _ h1).1, rfl, 0, rfl⟩
  have i2 : s.heap.IsTuple d2 #[.int t.1 u1, .int t.2.1 u2, .int t.2.2 u3] := ⟨_, (N _ h2).1, rfl, 0, rfl⟩
  have r := RcAt.tuples (A := A) (e := fun _ => true) i1 i2 hu (fun j hj1 hj2 => by
    simp only [List.size_toArray, List.length_cons, List.length_nil] at hj1
    match j, hj1, hj2 with
    | 0, _, _ => exact int_eq _ _ _ _ _
    | 1, _, _ => exact int_eq _ _ _ _ _
    | 2, _, _ => exact int_eq _ _ _ _ _)
  exact EqAt.of_refs hne r
theorem ne_tupZ {prog : Program} {w : World} {A : Around} {E : Value → Shared → Prop} {s : Shared} {gh : Heap} {L : Addr} {news : List (Addr × Obj)} {d1 d2 : Addr} {t : Z3} {t1 t2 t3 u1 u2 u3 : Tok} {Q : Value → Shared → Prop} (N : News gh L s.heap news) (h1 : (d1, tupZ t t1 t2 t3) ∈ news) (h2 : (d2, tupZ t u1 u2 u3) ∈ news) (hu : A.units < cLine) (h : Q (.bool false) s) : wpAny (model prog w) A (compareOp .NotEq (.ref d1) (.ref d2)) Q E s := by
  have i1 : s.heap.IsTuple d1 #[.int t.1 t1, .int t.2.1 t2, .int t.2.2 t3] := ⟨_, (N _ h1).1, rfl, 0, rfl⟩
  have i2 : s.heap.IsTuple d2 #[.int t.1 u1, .int t.2.1 u2, .int t.2.2 u3] := ⟨_, (N _ h2).1, rfl, 0, rfl⟩
  have r := RcNeAt.tuples (A := A) (e := fun _ => true) i1 i2 hu (fun j hj1 hj2 => by
    simp only [List.size_toArray, List.length_cons, List.length_nil] at hj1
    match j, hj1, hj2 with
    | 0, _, _ => exact int_eq _ _ _ _ _
    | 1, _, _ => exact int_eq _ _ _ _ _
    | 2, _, _ => exact int_eq _ _ _ _ _)
  exact r prog w E Q h
theorem ne_rows {prog : Program} {w : World} {A : Around} {E : Value → Shared → Prop} {s : Shared} {gh : Heap} {L : Addr} {news own1 own2 : List (Addr × Obj)} {D1 D2 : Addr} {vs1 vs2 : List Value} {k1 k2 : Nat} {ts : List Z3} {Q : Value → Shared → Prop} (N : News gh L s.heap news) (h1 : (D1, listOf vs1.toArray k1) ∈ news) (h2 : (D2, listOf vs2.toArray k2) ∈ news)
    (t1 : TripsIn own1 vs1 ts) (t2 : TripsIn own2 vs2 ts) (s1 : ∀ p ∈ own1, p ∈ news) (s2 : ∀ p ∈ own2, p ∈ news) (hne : ∀ p ∈ own1, ∀ q ∈ own2, p.1 < q.1) (hu : A.units + 10 < cLine) (h : Q (.bool false) s) : wpAny (model prog w) A (compareOp .NotEq (.ref D1) (.ref D2)) Q E s := by
  have i1 : s.heap.IsList D1 vs1.toArray := ⟨_, (N _ h1).1, rfl, k1, rfl⟩
  have i2 : s.heap.IsList D2 vs2.toArray := ⟨_, (N _ h2).1, rfl, k2, rfl⟩
  have r := RcNeAt.lists (A := A) (e := fun _ => true) i1 i2 (by simp [t1.len, t2.len]) (by omega) (fun j hj1 hj2 => by
    have hlt : j < ts.length := by rw [← t1.len]; simpa using hj1
    obtain ⟨d1, a1, a2, a3, x1, y1⟩ := t1.at_ j _ (List.getElem?_eq_getElem hlt)
    obtain ⟨d2, b1, b2, b3, x2, y2⟩ := t2.at_ j _ (List.getElem?_eq_getElem hlt)
    have z1 : vs1.toArray[j] = .ref d1 := by
      have := (List.getElem?_eq_some_iff.mp x1).2
      simpa using this
    have z2 : vs2.toArray[j] = .ref d2 := by
      have := (List.getElem?_eq_some_iff.mp x2).2
      simpa using this
    rw [z1, z2]
    exact eq_tup N (s1 _ y1) (s2 _ y2) (Nat.ne_of_lt (hne _ y1 _ y2)) (by show A.units + _ < cLine; omega))
  refine r prog w E Q ?_
  rw [show (!(List.range vs1.toArray.size).all fun _ => true) = false by simp]
  exact h
section
variable (w : World) (mean : ExcName → Option Value) (mg mb : Str → Option Value)
  (dp un : Nat) (gd : Option (List Code)) (base : Heap) (gh h : Heap) (L fa : Addr) (cd : Value) (m : Str → Option Value) (s : Shared) (tk : Nat)
set_option maxHeartbeats 1000000 in
theorem law_4' (Q : Flow → Shared → Prop) (E : Value → Shared → Prop) (RL P R0 : Addr) (o : Obj) (od : o.data = .cell (some (.ref P))) (lm : List (Str × Tok)) (ps : List (List Ltr)) (hp : ∀ p ∈ ps, p ∈ pcs) (hz : ps.length ≤ 6) (hlm : lm.map (·.1) = ps.map tx) (ys vs0 : List Value) (k0 : Nat) (own : List (Addr × Obj)) (hys : ys.length ≤ 100)
  (y0 : ys[0]? = some (.ref R0)) (m0 : (R0, listOf vs0.toArray k0) ∈ own) (tr0 : TripsIn own vs0 (paintsTo ps ps.length))
  (B' : Below (lawA dp un gd) base [] gh) (X' : (KT w.params).In gh) (T' : Top qV looseV mean mg mb gh)
  (F' : Fr gh L h (fun z => if z = Str.ofString "rows" then some (.ref RL) else m z)) (N' : News gh L h ((RL, lst ys) :: (L + 1, o) :: (P, lst (strValues lm)) :: own)) (hdp : dp + 40 < recursionLimit) (hun : un + 800 < cLine)
  (hnext : ∀ h' tk', Fr gh L h' (fun z => if z = Str.ofString "rows" then some (.ref RL) else m z) → News gh L h' ((RL, lst ys) :: (L + 1, o) :: (P, lst (strValues lm)) :: own) → Q .next { s with heap := h', toks := tk' }) :
  wpAny (model rwT.prog w) ((lawA dp un gd).deeper (envN L fa cd)) (exec (lawSt 4) (envN L fa cd)) Q E { s with heap := h, toks := tk } := by
  k_with_none
  k_with "call ref" => (k_here; (with_reducible show wpAny _ _ (call (Value.ref 125) [Value.ref _]) _ _ _); k_dflt (refine' walk_c _ _ _ _ _ _ _ _ _ ?hpw9 ?hl6w9 ?hlmw9 ?hlw9 _ _ _ _ _ _ _ _ _ _ _ _ _ _ _ _ _ ?k1w9 ?k2w9 ?k3w9 ?k4w9 ?k5w9 ?k6w9 ?kdw9 ?kuw9 ?_; (case k1w9 => k_asm); (case k2w9 => k_asm); (case k3w9 => k_asm); (case k4w9 => k_asm); (case k5w9 => k_asm); (case k6w9 => first | exact rfl | assumption); (case hlw9 => exact lst_in (List.Mem.tail _ (List.Mem.tail _ (List.Mem.head _)))); (case hlmw9 => assumption); (case hpw9 => assumption); (case hl6w9 => assumption); (case kdw9 => ktr_room); (case kuw9 => ktr_units)); intro Dw9 vsw9 tupw9 kw9 hw9 tkw9 Fw9 Nw9 g1w9 g2w9 g3w9 g4w9)
  k_with "subscriptTail" => (k_here; (with_reducible show wpAny _ _ (subscriptTail _ _ (Value.ref _) (Value.int 0 _)) _ _ _); k_dflt (refine' lst_item (i := 0) ?Nw9 ?lw9 rfl ?ew9 ?zw9 ?_ ?sw9; (case Nw9 => k_asm); (case lw9 => exact List.Mem.head _); (case ew9 => assumption); (case zw9 => assumption); (case sw9 => with_unfolding_all rfl)))
  k_with "compareOp NotEq ref ref" => (k_here; k_dflt (refine' ne_rows ?Nw9 ?h1w9 ?h2w9 ?t1w9 ?t2w9 ?s1w9 ?s2w9 ?new9 ?huw9 ?_; (case Nw9 => k_asm); (case h2w9 => exact List.Mem.head _); (case h1w9 => exact List.Mem.tail _ (List.mem_append_right _ (List.Mem.tail _ (List.Mem.tail _ (List.Mem.tail _ (by assumption)))))); (case t1w9 => assumption); (case t2w9 => assumption); (case s1w9 => exact fun p q => List.Mem.tail _ (List.mem_append_right _ (List.Mem.tail _ (List.Mem.tail _ (List.Mem.tail _ q))))); (case s2w9 => exact fun p q => List.Mem.tail _ (List.mem_append_left _ q)); (case new9 => exact fun p q r t => (by assumption : ∀ q ∈ _, ∀ p ∈ _, p.1 < q.1) r t p (List.Mem.tail _ (List.Mem.tail _ (List.Mem.tail _ q)))); (case huw9 => ktr_units)))
  dsimp only [envN]; (conv in (lawSt _) => whnf); revert X'; k_fill; intro X'
  k_steps
  all_goals exact hnext _ _ (by k_asm) (cb_drop (by assumption) (fun p q => .tail _ (List.mem_append_right _ q)))
end
end Mine
end
section
open PySem PySem.W PyProof.Rows PySem.Spec PySem.Calls
set_option maxRecDepth 100000
namespace Mine
local macro_rules | `(tactic| k_fmods) => `(tactic| skip)
theorem news_drop2 {g h : Heap} {L : Addr} {p q r : Addr × Obj} {news : List (Addr × Obj)} (N : News g L h (p :: q :: r :: news)) : News g L h (p :: news) :=
  News.perm N (fun _ hx => (List.mem_cons.mp hx).elim (fun e => e ▸ List.mem_cons_self) (fun hx => List.mem_cons_of_mem _ (List.mem_cons_of_mem _ (List.mem_cons_of_mem _ hx))))
theorem allLt_lt {d : Addr} {l : List (Addr × Obj)} (h : AllLt d l) : ∀ p ∈ l, p.1 < d := by
  induction l with
  | nil => intro p hp; cases hp
  | cons q r ih =>
    intro p hp
    rcases List.mem_cons.mp hp with e | hp
    · rw [e]; exact h.1
    · exact ih h.2 p hp
section
variable (w : World) (mean : ExcName → Option Value) (mg mb : Str → Option Value) (x y z : Int) (tx ty tz : Tok) (news : List (Addr × Obj)) (i j k : Int)
noncomputable def FoldClaim : Prop :=
   ∀ (dp un : Nat) (gd : Option (List Code)) (cn : Str) (cs : Scope) (a : Addr) (ccd : Value) (cl : List (Str × Addr)) (outer : List Env) (A₀ : Around) (base h₀ : Heap) (L : Addr) (m : Str → Option Value) (s : Shared) (Q E : Value → Shared → Prop),
    Below A₀ base outer h₀ → Fr h₀ L s.heap m → (KT w.params).In h₀ → News h₀ L s.heap news → Top qV looseV mean mg mb h₀ → cs.kind = .function → 0 < s.toks →
     dp + 2 < recursionLimit → un + 30 < cLine → (∀ (D : Addr) (ta tb tc : Tok) (h' : Heap) (tk' : Nat), Fr h₀ L h' m → News h₀ L h' ((D, { cls := Value.type "tuple", data := Data.seq #[Value.int i ta, Value.int j tb, Value.int k tc] }) :: news) → (∀ p ∈ news, p.1 < D) → Q (.ref D) { s with heap := h', toks := tk' }) →
      wpAny (model rwT.prog w) (ktrTop dp un gd cn cs L a ccd cl outer) (call (.ref 153) [.int x tx, .int y ty, .int z tz]) Q E s
end
set_option maxHeartbeats 2000000 in
theorem fold_even (w : World) (mean : ExcName → Option Value) (mg mb : Str → Option Value) (x y z : Int) (tx ty tz : Tok) (news : List (Addr × Obj)) (hx : 0 ≤ x ∧ x ≤ 12) (hy : 0 ≤ y ∧ y ≤ 12) (hz : 0 ≤ z ∧ z ≤ 12)
   (H S V r g b : UInt64) (k1 : Known (toHsv (qD x 16) (qD y 16) (qD z 16)) (H, S, V)) (k2 : Float64.isFinite (Float64.mul (Float64.ofInt 6) H) = true) (k3 : (truncI (Float64.mul (Float64.ofInt 6) H)).natAbs < 1000)
   (k4 : ¬ (truncI (Float64.mul (Float64.ofInt 6) H)).fmod 2 = 1)
   (k5 : Known (toRgb (Float64.div (Float64.sub (Float64.mul (Float64.ofInt 6) H) (Float64.ofInt (truncI (Float64.mul (Float64.ofInt 6) H)))) (Float64.ofInt 6)) S V) (r, g, b))
   (k6 : Float64.isFinite (Float64.add (Float64.mul (Float64.ofInt 16) r) fh) = true) (k7 : Float64.isFinite (Float64.add (Float64.mul (Float64.ofInt 16) g) fh) = true) (k8 : Float64.isFinite (Float64.add (Float64.mul (Float64.ofInt 16) b) fh) = true) :
   FoldClaim w mean mg mb x y z tx ty tz news (truncI (Float64.add (Float64.mul (Float64.ofInt 16) r) fh)) (truncI (Float64.add (Float64.mul (Float64.ofInt 16) g) fh)) (truncI (Float64.add (Float64.mul (Float64.ofInt 16) b) fh)) := by
  k_with_none
  k_with "call ref" => (k_here; (with_reducible show wpAny _ _ (call (Value.ref 42) [Value.float _ _, Value.float _ _, Value.float _ _]) _ _ _); k_dflt (refine' rgb_c _ _ _ _ _ _ _ _ _ _ _ _ _ _ _ _ _ _ _ _ _ _ _ _ _ _ _ _ ?k1w9 ?k2w9 ?k3w9 ?k4w9 ?k5w9 ?k6w9 ?k7w9 ?k8w9 ?k9w9 ?kaw9 ?ksw9 ?kdw9 ?kuw9 ?_; (case k1w9 => k_asm); (case k2w9 => k_asm); (case k3w9 => k_asm); (case k4w9 => k_asm); (case k5w9 => k_asm); (case k6w9 => first | exact rfl | assumption); (case kdw9 => ktr_room); (case kuw9 => ktr_units); (case k7w9 => first | assumption | exact Nat.succ_ne_zero _ | exact Nat.ne_of_gt (by assumption) | exact Nat.succ_pos _ | omega | (dsimp only; omega)); (case k8w9 => first | assumption | exact Nat.succ_ne_zero _ | exact Nat.ne_of_gt (by assumption) | exact Nat.succ_pos _ | omega | (dsimp only; omega)); (case k9w9 => first | assumption | exact Nat.succ_ne_zero _ | exact Nat.ne_of_gt (by assumption) | exact Nat.succ_pos _ | omega | (dsimp only; omega)); (case kaw9 => first | assumption | exact Nat.succ_ne_zero _ | exact Nat.ne_of_gt (by assumption) | exact Nat.succ_pos _ | omega | (dsimp only; omega)); (case ksw9 => exact some_of (by assumption))); intro Dw9 aw9 bw9 cw9 taw9 tbw9 tcw9 hw9 tkw9 ew9 Fw9 Nw9 l1w9 htksw9; (obtain ⟨htk1w9, htk2w9, htk3w9, htk4w9⟩ := htksw9); (obtain ⟨haw9, hbw9, hcw9⟩ := same3 ew9 (by assumption)); subst haw9; subst hbw9; subst hcw9; clear ew9; (try k_lt l1w9); (try dsimp only))
  k_with "call ref" => (k_here; (with_reducible show wpAny _ _ (call (Value.ref 35) [Value.float _ _, Value.float _ _, Value.float _ _]) _ _ _); k_dflt (refine' hsv_c _ _ _ _ _ _ _ _ _ _ _ _ _ _ _ _ _ _ _ _ _ _ _ _ _ _ _ _ ?k1w9 ?k2w9 ?k3w9 ?k4w9 ?k5w9 ?k6w9 ?k7w9 ?k8w9 ?k9w9 ?kaw9 ?ksw9 ?kdw9 ?kuw9 ?_; (case k1w9 => k_asm); (case k2w9 => k_asm); (case k3w9 => k_asm); (case k4w9 => k_asm); (case k5w9 => k_asm); (case k6w9 => first | exact rfl | assumption); (case kdw9 => ktr_room); (case kuw9 => ktr_units); (case k7w9 => first | assumption | exact Nat.succ_ne_zero _ | exact Nat.ne_of_gt (by assumption) | exact Nat.succ_pos _ | omega | (dsimp only; omega)); (case k8w9 => first | assumption | exact Nat.succ_ne_zero _ | exact Nat.ne_of_gt (by assumption) | exact Nat.succ_pos _ | omega | (dsimp only; omega)); (case k9w9 => first | assumption | exact Nat.succ_ne_zero _ | exact Nat.ne_of_gt (by assumption) | exact Nat.succ_pos _ | omega | (dsimp only; omega)); (case kaw9 => first | assumption | exact Nat.succ_ne_zero _ | exact Nat.ne_of_gt (by assumption) | exact Nat.succ_pos _ | omega | (dsimp only; omega)); (case ksw9 => exact some_of (by assumption))); intro Dw9 aw9 bw9 cw9 taw9 tbw9 tcw9 hw9 tkw9 ew9 Fw9 Nw9 l1w9 htksw9; (obtain ⟨htk1w9, htk2w9, htk3w9, htk4w9⟩ := htksw9); (obtain ⟨haw9, hbw9, hcw9⟩ := same3 ew9 (by assumption)); subst haw9; subst hbw9; subst hcw9; clear ew9; (try k_lt l1w9); (try dsimp only))
  k_with "binaryOp Div int int" => ((with_reducible show wpAny _ _ (binaryOp Operator.Div (Value.int _ _) (Value.int _ _)) _ _ _); refine div_small rfl (by omega) (by first | exact lt_dn (by assumption) (by decide) | omega) (by first | exact lt_dn (by assumption) (by decide) | omega) ?_)
  k_with "binaryOp Div float int" => (refine div_fi_small rfl (by first | assumption | omega) (by omega) ?_)
  k_with "binaryOp Sub float int" => (refine sub_fi_small (by first | assumption | omega) ?_)
  k_with "binaryOp Sub int float" => (refine sub_if_small (by first | assumption | omega) ?_)
  k_with "binaryOp Mult int float" => (refine mul_if_small (by first | assumption | omega) ?_)
  k_with "call type:int" => (refine int_fin (by assumption) rfl ?_)
  k_with "execs cons" => (k_here; (refine gen_pos (by first | assumption | omega | (dsimp only; omega)) ?_); intro tkw9 htkw9; (with_reducible refine wpAny_execs_cons ?_); try dsimp only)
  dsimp only [FoldClaim]; k_fill; intros; rename_i hret
  refine wpAny_call ?_
  k_dflt cell_enter
  k_steps
  all_goals first
    | (exfalso; exact absurd (by assumption) k4)
    | (refine' hret _ _ _ _ _ _ ?f ?n ?l; (case f => k_asm); (case n => exact news_drop2 (by k_asm)); (case l => exact allLt_lt (And.right (And.right (by assumption)))))
set_option maxHeartbeats 2000000 in
theorem fold_odd (w : World) (mean : ExcName → Option Value) (mg mb : Str → Option Value) (x y z : Int) (tx ty tz : Tok) (news : List (Addr × Obj)) (hx : 0 ≤ x ∧ x ≤ 12) (hy : 0 ≤ y ∧ y ≤ 12) (hz : 0 ≤ z ∧ z ≤ 12)
   (H S V r g b : UInt64) (k1 : Known (toHsv (qD x 16) (qD y 16) (qD z 16)) (H, S, V)) (k2 : Float64.isFinite (Float64.mul (Float64.ofInt 6) H) = true) (k3 : (truncI (Float64.mul (Float64.ofInt 6) H)).natAbs < 1000)
   (k4 : (truncI (Float64.mul (Float64.ofInt 6) H)).fmod 2 = 1)
   (k5 : Known (toRgb (Float64.div (Float64.sub (Float64.ofInt 1) (Float64.sub (Float64.mul (Float64.ofInt 6) H) (Float64.ofInt (truncI (Float64.mul (Float64.ofInt 6) H))))) (Float64.ofInt 6)) S V) (r, g, b))
   (k6 : Float64.isFinite (Float64.add (Float64.mul (Float64.ofInt 16) r) fh) = true) (k7 : Float64.isFinite (Float64.add (Float64.mul (Float64.ofInt 16) g) fh) = true) (k8 : Float64.isFinite (Float64.add (Float64.mul (Float64.ofInt 16) b) fh) = true) :
   FoldClaim w mean mg mb x y z tx ty tz news (truncI (Float64.add (Float64.mul (Float64.ofInt 16) r) fh)) (truncI (Float64.add (Float64.mul (Float64.ofInt 16) g) fh)) (truncI (Float64.add (Float64.mul (Float64.ofInt 16) b) fh)) := by
  k_with_none
  k_with "call ref" => (k_here; (with_reducible show wpAny _ _ (call (Value.ref 42) [Value.float _ _, Value.float _ _, Value.float _ _]) _ _ _); k_dflt (refine' rgb_c _ _ _ _ _ _ _ _ _ _ _ _ _ _ _ _ _ _ _ _ _ _ _ _ _ _ _ _ ?k1w9 ?k2w9 ?k3w9 ?k4w9 ?k5w9 ?k6w9 ?k7w9 ?k8w9 ?k9w9 ?kaw9 ?ksw9 ?kdw9 ?kuw9 ?_; (case k1w9 => k_asm); (case k2w9 => k_asm); (case k3w9 => k_asm); (case k4w9 => k_asm); (case k5w9 => k_asm); (case k6w9 => first | exact rfl | assumption); (case kdw9 => ktr_room); (case kuw9 => ktr_units); (case k7w9 => first | assumption | exact Nat.succ_ne_zero _ | exact Nat.ne_of_gt (by assumption) | exact Nat.succ_pos _ | omega | (dsimp only; omega)); (case k8w9 => first | assumption | exact Nat.succ_ne_zero _ | exact Nat.ne_of_gt (by assumption) | exact Nat.succ_pos _ | omega | (dsimp only; omega)); (case k9w9 => first | assumption | exact Nat.succ_ne_zero _ | exact Nat.ne_of_gt (by assumption) | exact Nat.succ_pos _ | omega | (dsimp only; omega)); (case kaw9 => first | assumption | exact Nat.succ_ne_zero _ | exact Nat.ne_of_gt (by assumption) | exact Nat.succ_pos _ | omega | (dsimp only; omega)); (case ksw9 => exact some_of (by assumption))); intro Dw9 aw9 bw9 cw9 taw9 tbw9 tcw9 hw9 tkw9 ew9 Fw9 Nw9 l1w9 htksw9; (obtain ⟨htk1w9, htk2w9, htk3w9, htk4w9⟩ := htksw9); (obtain ⟨haw9, hbw9, hcw9⟩ := same3 ew9 (by assumption)); subst haw9; subst hbw9; subst hcw9; clear ew9; (try k_lt l1w9); (try dsimp only))
  k_with "call ref" => (k_here; (with_reducible show wpAny _ _ (call (Value.ref 35) [Value.float _ _, Value.float _ _, Value.float _ _]) _ _ _); k_dflt (refine' hsv_c _ _ _ _ _ _ _ _ _ _ _ _ _ _ _ _ _ _ _ _ _ _ _ _ _ _ _ _ ?k1w9 ?k2w9 ?k3w9 ?k4w9 ?k5w9 ?k6w9 ?k7w9 ?k8w9 ?k9w9 ?kaw9 ?ksw9 ?kdw9 ?kuw9 ?_; (case k1w9 => k_asm); (case k2w9 => k_asm); (case k3w9 => k_asm); (case k4w9 => k_asm); (case k5w9 => k_asm); (case k6w9 => first | exact rfl | assumption); (case kdw9 => ktr_room); (case kuw9 => ktr_units); (case k7w9 => first | assumption | exact Nat.succ_ne_zero _ | exact Nat.ne_of_gt (by assumption) | exact Nat.succ_pos _ | omega | (dsimp only; omega)); (case k8w9 => first | assumption | exact Nat.succ_ne_zero _ | exact Nat.ne_of_gt (by assumption) | exact Nat.succ_pos _ | omega | (dsimp only; omega)); (case k9w9 => first | assumption | exact Nat.succ_ne_zero _ | exact Nat.ne_of_gt (by assumption) | exact Nat.succ_pos _ | omega | (dsimp only; omega)); (case kaw9 => first | assumption | exact Nat.succ_ne_zero _ | exact Nat.ne_of_gt (by assumption) | exact Nat.succ_pos _ | omega | (dsimp only; omega)); (case ksw9 => exact some_of (by assumption))); intro Dw9 aw9 bw9 cw9 taw9 tbw9 tcw9 hw9 tkw9 ew9 Fw9 Nw9 l1w9 htksw9; (obtain ⟨htk1w9, htk2w9, htk3w9, htk4w9⟩ := htksw9); (obtain ⟨haw9, hbw9, hcw9⟩ := same3 ew9 (by assumption)); subst haw9; subst hbw9; subst hcw9; clear ew9; (try k_lt l1w9); (try dsimp only))
  k_with "binaryOp Div int int" => ((with_reducible show wpAny _ _ (binaryOp Operator.Div (Value.int _ _) (Value.int _ _)) _ _ _); refine div_small rfl (by omega) (by first | exact lt_dn (by assumption) (by decide) | omega) (by first | exact lt_dn (by assumption) (by decide) | omega) ?_)
  k_with "binaryOp Div float int" => (refine div_fi_small rfl (by first | assumption | omega) (by omega) ?_)
  k_with "binaryOp Sub float int" => (refine sub_fi_small (by first | assumption | omega) ?_)
  k_with "binaryOp Sub int float" => (refine sub_if_small (by first | assumption | omega) ?_)
  k_with "binaryOp Mult int float" => (refine mul_if_small (by first | assumption | omega) ?_)
  k_with "call type:int" => (refine int_fin (by assumption) rfl ?_)
  k_with "execs cons" => (k_here; (refine gen_pos (by first | assumption | omega | (dsimp only; omega)) ?_); intro tkw9 htkw9; (with_reducible refine wpAny_execs_cons ?_); try dsimp only)
  dsimp only [FoldClaim]; k_fill; intros; rename_i hret
  refine wpAny_call ?_
  k_dflt cell_enter
  k_steps
  all_goals first
    | (exfalso; exact absurd k4 (by assumption))
    | (refine' hret _ _ _ _ _ _ ?f ?n ?l; (case f => k_asm); (case n => exact news_drop2 (by k_asm)); (case l => exact allLt_lt (And.right (And.right (by assumption)))))

theorem fold_c (w : World) (mean : ExcName → Option Value) (mg mb : Str → Option Value) (x y z : Int) (tx ty tz : Tok) (news : List (Addr × Obj)) (hx : 0 ≤ x ∧ x ≤ 12) (hy : 0 ≤ y ∧ y ≤ 12) (hz : 0 ≤ z ∧ z ≤ 12)
    (i j k : Int) (hf : foldF x y z = some (i, j, k)) : FoldClaim w mean mg mb x y z tx ty tz news i j k := by
  unfold foldF at hf
  split at hf
  · cases hf
  · rename_i H S V e1
    split at hf
    · rename_i hc
      split at hf
      · cases hf
      · rename_i r g b e2
        unfold finI at hf
        by_cases f1 : Float64.isFinite (upF r) = true
        · by_cases f2 : Float64.isFinite (upF g) = true
          · by_cases f3 : Float64.isFinite (upF b) = true
            · rw [if_pos f1, if_pos f2, if_pos f3] at hf
              simp only [Option.some.injEq, Prod.mk.injEq] at hf
              obtain ⟨rfl, rfl, rfl⟩ := hf
              by_cases c : (truncI (six H)).fmod 2 = 1
              · unfold partF at e2; rw [if_pos c] at e2
                exact fold_odd w mean mg mb x y z tx ty tz news hx hy hz H S V r g b e1 hc.1 hc.2 c e2 f1 f2 f3
              · unfold partF at e2; rw [if_neg c] at e2
                exact fold_even w mean mg mb x y z tx ty tz news hx hy hz H S V r g b e1 hc.1 hc.2 c e2 f1 f2 f3
            · rw [if_neg f3] at hf; split at hf <;> simp_all
          · rw [if_neg f2] at hf; split at hf <;> simp_all
        · rw [if_neg f1] at hf; split at hf <;> simp_all
    · cases hf
end Mine
end
section
open PySem PySem.W PyProof.Rows PySem.Spec PySem.Calls PySem.Builtin.Str
set_option maxRecDepth 100000
namespace Mine
open LCg PySem.SeqAt
noncomputable def lawFor : Stmt := lawSt 5
noncomputable def lawIn : Stmt := (forBody lawFor).headD (.Pass default)
noncomputable def ItemI (vs : List Value) (x : Int) (v : Value) : Prop := ∃ i : Nat, x = (i : Int) ∧ vs[i]? = some v
theorem lst_itemI {prog : Program} {w : World} {A : Around} {E : Value → Shared → Prop} {s : Shared} {gh : Heap} {L : Addr} {news : List (Addr × Obj)} {D : Addr} {vs : List Value} {n : Nat} {x : Int} {u : Tok} {v : Value} {value slice : PySem.Expr} {Q : Value → Shared → Prop} (N : News gh L s.heap news) (hm : (D, listOf vs.toArray n) ∈ news) (he : ItemI vs x v) (hz : vs.length ≤ 100) (h : Q v s)
    (hs : subscripted slice false (.ref D) (.int x u) = operate [.ref D, .int x u] (getItem (.ref D) (.int x u)) := by with_unfolding_all rfl) :
    wpAny (model prog w) A (subscriptTail value slice (.ref D) (.int x u)) Q E s := by
  obtain ⟨i, hx, e⟩ := he
  exact lst_item N hm hx e hz h hs
theorem ne_tup3 {prog : Program} {w : World} {A : Around} {E : Value → Shared → Prop} {s : Shared} {gh : Heap} {L : Addr} {news : List (Addr × Obj)} {d1 d2 : Addr} {a b c : Int} {t1 t2 t3 u1 u2 u3 : Tok} {Q : Value → Shared → Prop} (N : News gh L s.heap news) (h1 : (d1, tupO (.int a t1) (.int b t2) (.int c t3)) ∈ news) (h2 : (d2, tupO (.int a u1) (.int b u2) (.int c u3)) ∈ news) (hu : A.units < cLine) (h : Q (.bool false) s) : wpAny (model prog w) A (compareOp .NotEq (.ref d1) (.ref d2)) Q E s :=
  ne_tupZ (t := (a, b, c)) N h1 h2 hu h
section
variable (w : World) (mean : ExcName → Option Value) (mg mb : Str → Option Value) (news : List (Addr × Obj))
  (dp un : Nat) (gd : Option (List Code)) (base : Heap) (gh h : Heap) (L fa : Addr) (cd : Value) (m : Str → Option Value) (s : Shared) (tk : Nat)
set_option maxHeartbeats 1000000 in
theorem law_turn (Q : Flow → Shared → Prop) (E : Value → Shared → Prop) (Wd Nn dI dM dL dN : Addr) (vsW vsN : List Value) (kW kN : Nat) (z : Int) (tz : Tok) (x1 x2 x3 y1 y2 y3 z1 z2 z3 c1 c2 c3 : Int) (a1 a2 a3 b1 b2 b3 e1 e2 e3 f1 f2 f3 : Tok) (hz : 1 ≤ z ∧ z ≤ 20)
  (hW : (Wd, listOf vsW.toArray kW) ∈ news) (hN : (Nn, listOf vsN.toArray kN) ∈ news) (lW : vsW.length ≤ 100) (lN : vsN.length ≤ 100)
  (i1 : ItemI vsN (z - 1) (.ref dI)) (i2 : ItemI vsW (z + 1) (.ref dM)) (i3 : ItemI vsW z (.ref dL)) (i4 : ItemI vsN z (.ref dN))
  (m1 : (dI, tupO (.int x1 a1) (.int x2 a2) (.int x3 a3)) ∈ news) (m2 : (dM, tupO (.int y1 b1) (.int y2 b2) (.int y3 b3)) ∈ news) (m3 : (dL, tupO (.int z1 e1) (.int z2 e2) (.int z3 e3)) ∈ news) (m4 : (dN, tupO (.int c1 f1) (.int c2 f2) (.int c3 f3)) ∈ news)
  (hx1 : 0 ≤ x1 ∧ x1 ≤ 20) (hx2 : 0 ≤ x2 ∧ x2 ≤ 20) (hx3 : 0 ≤ x3 ∧ x3 ≤ 20) (hy1 : 0 ≤ y1 ∧ y1 ≤ 20) (hy2 : 0 ≤ y2 ∧ y2 ≤ 20) (hy3 : 0 ≤ y3 ∧ y3 ≤ 20) (hz1 : 0 ≤ z1 ∧ z1 ≤ 20) (hz2 : 0 ≤ z2 ∧ z2 ≤ 20) (hz3 : 0 ≤ z3 ∧ z3 ≤ 20)
  (g1 : 0 ≤ x1 + y1 - z1 ∧ x1 + y1 - z1 ≤ 12) (g2 : 0 ≤ x2 + y2 - z2 ∧ x2 + y2 - z2 ≤ 12) (g3 : 0 ≤ x3 + y3 - z3 ∧ x3 + y3 - z3 ≤ 12) (hf : foldF (x1 + y1 - z1) (x2 + y2 - z2) (x3 + y3 - z3) = some (c1, c2, c3))
  (B' : Below (lawA dp un gd) base [] gh) (X' : (KT w.params).In gh) (T' : Top qV looseV mean mg mb gh)
  (F' : Fr gh L h (fun q => if q = Str.ofString "size" then some (.int z tz) else if q = Str.ofString "narrow" then some (.ref Nn) else if q = Str.ofString "wide" then some (.ref Wd) else m q)) (N' : News gh L h news) (hdp : dp + 40 < recursionLimit) (hun : un + 800 < cLine)
  (hnext : ∀ h' tk' m', Fr gh L h' m' → News gh L h' news → m' (Str.ofString "narrow") = some (.ref Nn) → m' (Str.ofString "wide") = some (.ref Wd) → Q .next { s with heap := h', toks := tk' }) :
  wpAny (model rwT.prog w) ((lawA dp un gd).deeper (envN L fa cd)) (execs (forBody lawIn) (envN L fa cd)) Q E { s with heap := h, toks := tk } := by
  k_with_none
  k_with "subscriptTail" => (k_here; first
      | ((with_reducible show wpAny _ _ (subscriptTail _ _ (Value.ref _) (Value.int 0 _)) _ _ _); k_dflt (refine' tup0 ?k1w9 ?k2w9 ?_ ?k4w9; (case k1w9 => k_asm); (case k2w9 => assumption); (case k4w9 => with_unfolding_all rfl)))
      | ((with_reducible show wpAny _ _ (subscriptTail _ _ (Value.ref _) (Value.int 1 _)) _ _ _); k_dflt (refine' tup1 ?k1w9 ?k2w9 ?_ ?k4w9; (case k1w9 => k_asm); (case k2w9 => assumption); (case k4w9 => with_unfolding_all rfl)))
      | ((with_reducible show wpAny _ _ (subscriptTail _ _ (Value.ref _) (Value.int 2 _)) _ _ _); k_dflt (refine' tup2 ?k1w9 ?k2w9 ?_ ?k4w9; (case k1w9 => k_asm); (case k2w9 => assumption); (case k4w9 => with_unfolding_all rfl)))
      | ((with_reducible show wpAny _ _ (subscriptTail _ _ (Value.ref _) (Value.int _ _)) _ _ _); k_dflt (refine' lst_itemI ?Nw9 ?lw9 ?ew9 ?zw9 ?_ ?sw9; (case Nw9 => k_asm); (case lw9 => first | assumption | exact List.Mem.tail _ (by assumption)); (case ew9 => assumption); (case zw9 => assumption); (case sw9 => with_unfolding_all rfl))))
  k_with "call ref" => (k_here; (with_reducible show wpAny _ _ (call (Value.ref 153) [Value.int _ _, Value.int _ _, Value.int _ _]) _ _ _); k_dflt (refine' fold_c _ _ _ _ _ _ _ _ _ _ _ ?hxw9 ?hyw9 ?hzw9 _ _ _ ?hfw9 _ _ _ _ _ _ _ _ _ _ _ _ _ _ _ _ _ ?k1w9 ?k2w9 ?k3w9 ?k4w9 ?k5w9 ?k6w9 ?k7w9 ?kdw9 ?kuw9 ?_; (case k1w9 => k_asm); (case k2w9 => k_asm); (case k3w9 => k_asm); (case k4w9 => k_asm); (case k5w9 => k_asm); (case k6w9 => first | exact rfl | assumption); (case k7w9 => exact Nat.succ_pos _); (case hfw9 => assumption); (case hxw9 => assumption); (case hyw9 => assumption); (case hzw9 => assumption); (case kdw9 => ktr_room); (case kuw9 => ktr_units)); intro Dw9 taw9 tbw9 tcw9 hw9 tkw9 Fw9 Nw9 l1w9)
  k_with "compareOp NotEq ref ref" => (k_here; k_dflt (refine' ne_tup3 ?Nw9 ?h1w9 ?h2w9 ?huw9 ?_; (case Nw9 => k_asm); (case h2w9 => exact List.Mem.head _); (case h1w9 => exact List.Mem.tail _ (by assumption)); (case huw9 => ktr_units)))
  dsimp only [envN]; (conv in (forBody _) => whnf); revert X'; k_fill; intro X'
  k_steps

  all_goals exact hnext _ _ _ (by k_asm) (cb_drop (by assumption) sub1) rfl rfl
end
end Mine
end
section
open PySem PySem.W PyProof.Rows PySem.Spec PySem.Calls PySem.Builtin.Str
set_option maxRecDepth 100000
namespace Mine
section
variable {prog : Program} {w : World} {A : Around} {E : Value → Shared → Prop} {s : Shared} {env : Env} {h₀ : Heap} {body : List Stmt} {Q : Flow → Shared → Prop}
theorem zip_turns {elts : List PySem.Expr} {k : Nat} {pos : Pos} {l1 l2 : Addr} {xs ys : List Value} {n1 n2 : Nat} {m₀ : Str → Option Value} {news : List (Addr × Obj)} (J : Nat → (Str → Option Value) → List (Addr × Obj) → Prop)
    (hh : A.handled = none) (F : Fr h₀ env.locals s.heap m₀) (N : News h₀ env.locals s.heap news) (hm1 : (l1, listOf xs.toArray n1) ∈ news) (hm2 : (l2, listOf ys.toArray n2) ∈ news) (h0 : J 0 m₀ news)
    (turn : ∀ wr i a b T m₁ news₁ h tk own, xs[i]? = some a → ys[i]? = some b → h.IsTuple T #[a, b] → J i m₁ news₁ → (∀ p ∈ news₁, p.1 ∉ wr) → Fr h₀ env.locals h m₁ → News h₀ env.locals h (own ++ news₁) →
      wpAny (model prog w) A (assign (.Tuple elts k pos) env (.ref T)) (fun _ s₂ => wpAny (model prog w) A (execs body env) (FreePost h₀ env.locals wr (J (i + 1)) own { s with heap := h, toks := tk } Q) E s₂) E { s with heap := h, toks := tk })
    (done : ∀ m₁ news₁ h tk, J (min xs.length ys.length) m₁ news₁ → Fr h₀ env.locals h m₁ → News h₀ env.locals h news₁ → Q .next { s with heap := h, toks := tk }) :
    wpAny (model prog w) A (call (.type "zip") [.ref l1, .ref l2]) (fun xv s₁ => wpAny (model prog w) A (pyIter xv) (fun it s₂ => TurnsAt prog w A h₀ env (.Tuple elts k pos) body Q E it s₂) E s₁) E s := by
  have hax1 := N _ hm1
  have hax2 := N _ hm2
  have hl1 : s.heap.IsList l1 xs.toArray := ⟨_, hax1.1, rfl, n1, rfl⟩
  have hl2 : s.heap.IsList l2 ys.toArray := ⟨_, hax2.1, rfl, n2, rfl⟩
  have hlt1 : l1 < s.heap.objs.size := Heap.lt_size hax1.1
  have hlt2 : l2 < s.heap.objs.size := Heap.lt_size hax2.1
  have hLs : env.locals < s.heap.objs.size := F.ns.lt
  have D : ZipApart (s.heap.objs.size + 4) (s.heap.objs.size + 2) (s.heap.objs.size + 3) s.heap.objs.size (s.heap.objs.size + 1) l1 l2 := ktu_apart _ _ _ hlt1 hlt2
  refine call_zip_2 hl1 hl2 fun h' hz hTI hTO hi1 hi2 hsz hk => ?_
  refine wpAny_pyIter_zip hz ?_
  have W := (WalksT.zip2 (prog := prog) (w := w) hh _ _ _ _ _ _ _ D xs.toArray ys.toArray).toU
  refine ⟨_, _, _, _, _, _, _, m₀, news, J, rfl, KTurns.ofWalksU W, ?_, ?_, ?_, ⟨hz, hTI, ⟨_, _, hTO⟩, hi1, hi2, hl1.at fun o e => hk l1 o e, hl2.at fun o e => hk l2 o e⟩, F.keeps hk, N.grown hk, h0, ?_, ?_⟩
  · intro hI'
    have hb' : env.locals = s.heap.objs.size + 4 ∨ env.locals = s.heap.objs.size + 2 ∨ env.locals = s.heap.objs.size + 3 ∨ env.locals = s.heap.objs.size ∨ env.locals = s.heap.objs.size + 1 ∨ env.locals = l1 ∨ env.locals = l2 := by simpa using hI'
    rcases hb' with e | e | e | e | e | e | e
    · exact ktu_ne 4 hLs e
    · exact ktu_ne 2 hLs e
    · exact ktu_ne 3 hLs e
    · exact Nat.ne_of_lt hLs e
    · exact ktu_ne 1 hLs e
    · exact hax1.2.1 e.symm
    · exact hax2.2.1 e.symm
  · intro b hb
    have hb' : b = s.heap.objs.size + 4 ∨ b = s.heap.objs.size + 3 ∨ b = s.heap.objs.size ∨ b = s.heap.objs.size + 1 := by simpa using hb
    rcases hb' with rfl | rfl | rfl | rfl
    · exact ktu_new F (Nat.le_add_right _ _)
    · exact ktu_new F (Nat.le_add_right _ _)
    · exact ktu_new F (Nat.le_refl _)
    · exact ktu_new F (Nat.le_add_right _ _)
  · intro p hp hI'
    have hb' : p.1 = s.heap.objs.size + 4 ∨ p.1 = s.heap.objs.size + 3 ∨ p.1 = s.heap.objs.size ∨ p.1 = s.heap.objs.size + 1 := by simpa using hI'
    have hlp := Heap.lt_size (N p hp).1
    rcases hb' with e | e | e | e
    · exact ktu_ne 4 hlp e
    · exact ktu_ne 3 hlp e
    · exact Nat.ne_of_lt hlp e
    · exact ktu_ne 1 hlp e
  · rintro i v m₁ news₁ h₁ tk₁ own hi ⟨T, vals, rfl, ⟨x, y, hx, hy, rfl⟩, hT⟩ hJ hoff hown hget hall hst F₁ N₁
    refine wpAny_mono (turn _ i x y T m₁ news₁ h₁ tk₁ own (by simpa using hx) (by simpa using hy) hT hJ hoff F₁ N₁) (fun _ s₂ h₂ => wpAny_mono h₂ (fun f s₃ p => ?_) fun _ _ e => e) fun _ _ e => e
    have fin : ∀ {wr : List Addr}, FreeEnd h₀ env.locals wr (J (i + 1)) own { s with heap := h₁, toks := tk₁ } s₃ → LoopStepU h₀ env.locals wr own (J (i + 1)) { s with heap := h₁, toks := tk₁ } .next s₃ := by
      rintro wr ⟨h', tk, m', news', nx, e, F', N', hn, ho, ha, hm⟩
      exact ⟨rfl, h', tk, m', nx, e, F', fun p hp => N' p ((List.mem_append.mp hp).elim (ho p) (hn p)), ha, hm⟩
    cases f with
    | ret v => exact .ret p
    | brk => exact .brk p
    | next => exact .next (fin p)
    | cont => exact .cont (fin p)
  · intro h2 tk m' news' F' N' _ hJ
    exact done m' news' h2 tk (by simpa using hJ) F' N'
end
end Mine
end
section
open PySem PySem.W PyProof.Rows PySem.Spec PySem.Calls PySem.Builtin.Str
set_option maxRecDepth 100000
namespace Mine
theorem paints_at {ps : List (List Ltr)} {i j : Nat} (h : j ≤ i) : (paintsTo ps i)[j]? = some (paint (ps.take j).flatten) := by
  unfold paintsTo
  rw [List.getElem?_map, List.getElem?_range (by omega)]; rfl
theorem reds_le : ∀ (l : List (List Ltr)) (u : List Ltr), (∀ p ∈ l, p ∈ pcs) → (gt (u ++ l.flatten)).l1 ≤ (gt u).l1 + l.length
  | [], u, _ => by simp
  | p :: l, u, h => by
    have h1 := (red_step u p (h p (.head _))).2
    have h2 := reds_le l (u ++ p) (fun q hq => h q (.tail _ hq))
    rw [List.flatten_cons, ← List.append_assoc, List.length_cons]; omega
theorem flat_le : ∀ (l : List (List Ltr)), (∀ p ∈ l, p ∈ pcs) → l.flatten.length ≤ 2 * l.length
  | [], _ => by simp
  | p :: l, h => by
    have h1 := pcs_len (h p (.head _))
    have h2 := flat_le l (fun q hq => h q (.tail _ hq))
    rw [List.flatten_cons, List.length_append, List.length_cons]; omega
theorem cmax (a b : Nat) : max (a : Int) (b : Int) = ((max a b : Nat) : Int) := by omega
theorem cmin (a b : Nat) : min (a : Int) (b : Int) = ((min a b : Nat) : Int) := by omega
theorem rest_of {x y z a b c : Nat} (h : x + y + z = a + b + c) : (x : Int) + y + z - a - c = b := by omega
theorem fold_from (x y z a b c : Nat) (h : Sorted3 x y z a b c) (ha : a ≤ 5) (hs : x + y + z ≤ 10) : foldF x y z = some ((a : Int), (b : Int), (c : Int)) := by
  obtain ⟨h1, h2, h3⟩ := h
  unfold top3 at h1
  unfold low3 at h2
  have hx : x < 6 := Nat.lt_succ_of_le (Nat.le_trans (Nat.le_trans (Nat.le_max_left x (max y z)) (Nat.le_of_eq h1)) ha)
  have hyz : max y z ≤ 5 := Nat.le_trans (Nat.le_trans (Nat.le_max_right x (max y z)) (Nat.le_of_eq h1)) ha
  have hy : y < 6 := Nat.lt_succ_of_le (Nat.le_trans (Nat.le_max_left y z) hyz)
  have hz : z < 6 := Nat.lt_succ_of_le (Nat.le_trans (Nat.le_max_right y z) hyz)
  have f := List.all_eq_true.mp (List.all_eq_true.mp (fold_all x hx) y (List.mem_range.mpr hy)) z (List.mem_range.mpr hz)
  rw [if_pos hs, beq_iff_eq] at f
  rw [f]
  unfold sort3
  rw [cmax y z, cmax x (max y z), cmin y z, cmin x (min y z), h1, h2, rest_of h3]
theorem bnd {a b c n : Nat} (s : a + b + c = n) (h : n ≤ 20) : (0 ≤ (a : Int) ∧ (a : Int) ≤ 20) ∧ (0 ≤ (b : Int) ∧ (b : Int) ≤ 20) ∧ (0 ≤ (c : Int) ∧ (c : Int) ≤ 20) := by
  subst s
  refine ⟨⟨Int.natCast_nonneg _, ?_⟩, ⟨Int.natCast_nonneg _, ?_⟩, ⟨Int.natCast_nonneg _, ?_⟩⟩ <;> omega
theorem bnd12 {a b c n : Nat} (s : a + b + c = n) (h : n ≤ 10) : (0 ≤ (a : Int) ∧ (a : Int) ≤ 12) ∧ (0 ≤ (b : Int) ∧ (b : Int) ≤ 12) ∧ (0 ≤ (c : Int) ∧ (c : Int) ≤ 12) := by
  subst s
  refine ⟨⟨Int.natCast_nonneg _, ?_⟩, ⟨Int.natCast_nonneg _, ?_⟩, ⟨Int.natCast_nonneg _, ?_⟩⟩ <;> omega
theorem dif_is {a d c : Nat} (h : c ≤ a + d) : (a : Int) + d - c = ((a + d - c : Nat) : Int) := by omega
theorem turn_plain (ps : List (List Ltr)) (i j : Nat) (hp : ∀ p ∈ ps, p ∈ pcs) (hz : ps.length ≤ 6) (hj : j + (i + 1) < ps.length) :
    ∃ x y z c : Z3, (paintsTo (ps.drop (i + 1)) (ps.drop (i + 1)).length)[j]? = some x ∧ (paintsTo (ps.drop i) (ps.drop i).length)[j + 2]? = some y ∧ (paintsTo (ps.drop i) (ps.drop i).length)[j + 1]? = some z ∧ (paintsTo (ps.drop (i + 1)) (ps.drop (i + 1)).length)[j + 1]? = some c ∧
      ((0 ≤ x.1 ∧ x.1 ≤ 20) ∧ (0 ≤ x.2.1 ∧ x.2.1 ≤ 20) ∧ (0 ≤ x.2.2 ∧ x.2.2 ≤ 20) ∧ (0 ≤ y.1 ∧ y.1 ≤ 20) ∧ (0 ≤ y.2.1 ∧ y.2.1 ≤ 20) ∧ (0 ≤ y.2.2 ∧ y.2.2 ≤ 20) ∧ (0 ≤ z.1 ∧ z.1 ≤ 20) ∧ (0 ≤ z.2.1 ∧ z.2.1 ≤ 20) ∧ (0 ≤ z.2.2 ∧ z.2.2 ≤ 20)) ∧
      (0 ≤ x.1 + y.1 - z.1 ∧ x.1 + y.1 - z.1 ≤ 12) ∧ (0 ≤ x.2.1 + y.2.1 - z.2.1 ∧ x.2.1 + y.2.1 - z.2.1 ≤ 12) ∧ (0 ≤ x.2.2 + y.2.2 - z.2.2 ∧ x.2.2 + y.2.2 - z.2.2 ≤ 12) ∧
      foldF (x.1 + y.1 - z.1) (x.2.1 + y.2.1 - z.2.1) (x.2.2 + y.2.2 - z.2.2) = some (c.1, c.2.1, c.2.2) := by
  have hi : i < ps.length := by omega
  have eq : ps.drop i = ps[i] :: ps.drop (i + 1) := List.drop_eq_getElem_cons hi
  have hlq : (ps.drop (i + 1)).length = ps.length - (i + 1) := List.length_drop
  have hln : (ps.drop i).length = ps.length - i := List.length_drop
  refine ⟨_, _, _, _, paints_at (by omega), paints_at (by omega), paints_at (by omega), paints_at (by omega), ?_⟩
  have hq : ∀ p ∈ ps.drop (i + 1), p ∈ pcs := fun p h => hp p (List.mem_of_mem_drop h)
  have ha : ps[i] ∈ pcs := hp _ (List.getElem_mem hi)
  have hb' : j < (ps.drop (i + 1)).length := by omega
  have hb : (ps.drop (i + 1))[j] ∈ pcs := hq _ (List.getElem_mem hb')
  have eb : ((ps.drop (i + 1)).take (j + 1)).flatten = ((ps.drop (i + 1)).take j).flatten ++ (ps.drop (i + 1))[j] := take_next (List.getElem?_eq_getElem hb')
  rw [eq, List.take_succ_cons, List.take_succ_cons, List.flatten_cons, List.flatten_cons, eb]
  have hq1 : ∀ p ∈ (ps.drop (i + 1)).take j, p ∈ pcs := fun p h => hq p (List.mem_of_mem_take h)
  have hq2 : ∀ p ∈ (ps.drop (i + 1)).take (j + 1), p ∈ pcs := fun p h => hq p (List.mem_of_mem_take h)
  have k1 := flat_le _ hq1
  have k2 := flat_le _ hq2
  have k3 := reds_le _ [] hq2
  have k5 := reds_le _ [] hq1
  have k4 := pcs_len ha
  have hj8 : 2 * j ≤ 8 := by omega
  have l1t : ((ps.drop (i + 1)).take j).length = j := by rw [List.length_take]; omega
  have l2t : ((ps.drop (i + 1)).take (j + 1)).length = j + 1 := by rw [List.length_take]; omega
  rw [l1t] at k1 k5
  rw [l2t] at k2 k3
  rw [eb] at k2 k3
  have g0 : (gt []).l1 = 0 := rfl
  rw [List.nil_append, g0] at k3 k5
  generalize ((ps.drop (i + 1)).take j).flatten = u at *
  generalize ps[i] = a at *
  generalize (ps.drop (i + 1))[j] = b at *
  obtain ⟨r1, r2, r3, r4⟩ := local_rule u a b ha hb (Nat.le_trans k1 hj8) (Nat.le_trans k5 (by omega))
  have s1 := gt_size u
  have s2 := gt_size (u ++ b)
  have s3 := gt_size (a ++ u)
  have s4 := gt_size (a ++ (u ++ b))
  have e3 : (a ++ u).length = a.length + u.length := List.length_append
  have e4 : (a ++ (u ++ b)).length = a.length + (u ++ b).length := List.length_append
  have rs := r4.sum
  unfold paint
  dsimp only
  generalize gt u = A at *
  generalize gt (u ++ b) = B at *
  generalize gt (a ++ u) = C at *
  generalize gt (a ++ (u ++ b)) = D at *
  rw [dif_is r1, dif_is r2, dif_is r3]
  have n1 : u.length ≤ 8 := Nat.le_trans k1 hj8
  have n2 : (u ++ b).length ≤ 10 := Nat.le_trans k2 (by omega)
  have n3 : (a ++ u).length ≤ 10 := by rw [e3]; exact Nat.add_le_add k4 n1
  have n4 : (a ++ (u ++ b)).length ≤ 20 := by rw [e4]; exact Nat.le_trans (Nat.add_le_add k4 n2) (by decide)
  have bx := bnd s1 (Nat.le_trans n1 (by decide))
  have by' := bnd s4 n4
  have bz := bnd s3 (Nat.le_trans n3 (by decide))
  have rs' := rs.trans s2
  have bd := bnd12 rs' n2
  exact ⟨⟨bx.1, bx.2.1, bx.2.2, by'.1, by'.2.1, by'.2.2, bz.1, bz.2.1, bz.2.2⟩, bd.1, bd.2.1, bd.2.2, fold_from _ _ _ _ _ _ r4 (Nat.le_trans k3 (by omega)) (by rw [rs']; exact n2)⟩
end Mine
end
section
open PySem PySem.W PyProof.Rows PySem.Spec PySem.Calls PySem.Builtin.Str
set_option maxRecDepth 100000
namespace Mine
open LCg PySem.SeqAt
theorem lawIn_is : lawIn = .For (.Name (Str.ofString "size") (forPx lawIn)) (forIter lawIn) (forBody lawIn) [] lawIn.pos := by kernel_rfl
theorem rng1_size (n : Nat) (h : 1 ≤ n) : Builtin.Range.rangeSize 1 (n : Int) 1 = ((n - 1 : Nat) : Int) := by
  unfold Builtin.Range.rangeSize
  simp
  omega
theorem rng1_small_all : ((List.range 41).all fun n => Builtin.Range.small 1 (n : Int) 1) = true := by decide +kernel
theorem rng1_small (n : Nat) (h : n ≤ 40) : Builtin.Range.small 1 (n : Int) 1 = true := List.all_eq_true.mp rng1_small_all n (List.mem_range.mpr (by omega))
theorem any_len {prog : Program} {w : World} {A : Around} {E : Value → Shared → Prop} {s : Shared} {gh : Heap} {L : Addr} {news : List (Addr × Obj)} {D : Addr} {vs : List Value} {n : Nat} {Q : Value → Shared → Prop} (N : News gh L s.heap news) (hm : (D, listOf vs.toArray n) ∈ news) (hz : vs.length ≤ 10)
    (h : Q (.int (vs.length : Nat) (s.toks + 1)) { s with toks := s.toks + 1 + 1 }) : wpAny (model prog w) A (call (.builtin "len") [.ref D]) Q E s := by
  have hl : s.heap.IsList D vs.toArray := ⟨_, (N _ hm).1, rfl, n, rfl⟩
  refine call_len_list hl (by simp; omega) ?_
  simpa using h
theorem slice1 {prog : Program} {w : World} {A : Around} {E : Value → Shared → Prop} {s : Shared} {gh : Heap} {L : Addr} {m : Str → Option Value} {news : List (Addr × Obj)} {P : Addr} {vs : List Value} {t : Tok} {value slice : PySem.Expr} {Q : Value → Shared → Prop} (F : Fr gh L s.heap m) (N : News gh L s.heap news) (hP : (P, lst vs) ∈ news) (hz : vs.length ≤ 10)
    (h : ∀ D h', Fr gh L h' m → News gh L h' ((D, listOf (vs.drop 1).toArray 0) :: news) → (∀ p ∈ news, p.1 < D) → Q (.ref D) { s with heap := h' })
    (hs : subscripted slice false (.ref P) (.ref s.heap.objs.size) = operate [.ref s.heap.objs.size, .ref P] (getItem (.ref P) (.ref s.heap.objs.size))) (ht : ∀ r, letTemporaryGo value (.ref P) r = pure ()) :
    wpAny (model prog w) A (subscriptTail value slice (.ref P) (.ref s.heap.objs.size)) Q E { s with heap := s.heap.push { cls := .type "slice", data := .fields #[.int 1 t, .none, .none] } } := by
  have hl : s.heap.IsList P vs.toArray := ⟨_, (N _ hP).1, rfl, _, rfl⟩
  refine kms_slice_lit F N hl (IsPart.int _ _) IsPart.none (zs := vs.drop 1) ?_ h hs ht (by rw [sizeLine_eq]; simp; omega)
  rw [List.toList_toArray]
  exact kms_from vs 1
noncomputable def forElts : Stmt → List PySem.Expr | .For (.Tuple l _ _) _ _ _ _ => l | _ => []
noncomputable def forTp : Stmt → Pos | .For (.Tuple _ _ p) _ _ _ _ => p | _ => default
theorem lawFor_is : lawSt 5 = .For (.Tuple (forElts lawFor) 0 (forTp lawFor)) (forIter lawFor) (forBody lawFor) [] lawFor.pos := by kernel_rfl
theorem lawForB : forBody lawFor = [lawIn] := by kernel_rfl
section
variable (w : World) (mean : ExcName → Option Value) (mg mb : Str → Option Value) (news : List (Addr × Obj))
  (dp un : Nat) (gd : Option (List Code)) (base : Heap) (gh h : Heap) (L fa : Addr) (cd : Value) (m : Str → Option Value) (s : Shared) (tk : Nat)
set_option maxHeartbeats 1000000 in
theorem in_iter (Q : Value → Shared → Prop) (E : Value → Shared → Prop) (Nn : Addr) (vsN : List Value) (kN : Nat) (hN : (Nn, listOf vsN.toArray kN) ∈ news) (lN : vsN.length ≤ 10)
  (B' : Below (lawA dp un gd) base [] gh) (X' : (KT w.params).In gh) (T' : Top qV looseV mean mg mb gh)
  (F' : Fr gh L h (fun q => if q = Str.ofString "narrow" then some (.ref Nn) else m q)) (N' : News gh L h news) (hdp : dp + 40 < recursionLimit) (hun : un + 800 < cLine)
  (hq : ∀ r h' tk' t1 t2 t3, IsRange h' r 1 (vsN.length : Nat) 1 t1 t2 t3 → Fr gh L h' (fun q => if q = Str.ofString "narrow" then some (.ref Nn) else m q) → News gh L h' news → Q (.ref r) { s with heap := h', toks := tk' }) :
  wpAny (model rwT.prog w) ((lawA dp un gd).deeper (envN L fa cd)) (eval (forIter lawIn) (envN L fa cd)) Q E { s with heap := h, toks := tk } := by
  k_with_none
  k_with "call builtin:len" => (k_here; k_dflt (refine' any_len ?Nw9 ?lw9 ?hzw9 ?_; (case Nw9 => k_asm); (case lw9 => assumption); (case hzw9 => assumption)))
  k_with "subscriptTail Name Slice ref ref" => (k_here; k_dflt (refine' slice1 ?Fw9 ?Nw9 ?lw9 ?zw9 ?_ ?sw9 ?tw9; (case Fw9 => k_asm); (case Nw9 => k_asm); (case lw9 => assumption); (case zw9 => assumption); (case sw9 => with_unfolding_all rfl); (case tw9 => kmk_pure)); intro Dw9 hw9 Fw9 Nw9 l1w9)
  dsimp only [envN]; (conv in (forIter _) => whnf); revert X'; k_fill; intro X'
  k_steps
  all_goals exact hq _ _ _ _ _ _ (by assumption) (by k_asm) (by k_asm)
set_option maxHeartbeats 1000000 in
theorem law_zip (Q : Value → Shared → Prop) (E : Value → Shared → Prop) (RL : Addr) (ys : List Value) (hR : (RL, lst ys) ∈ news) (hy : ys.length ≤ 10)
  (B' : Below (lawA dp un gd) base [] gh) (X' : (KT w.params).In gh) (T' : Top qV looseV mean mg mb gh)
  (F' : Fr gh L h (fun q => if q = Str.ofString "rows" then some (.ref RL) else m q)) (N' : News gh L h news) (hdp : dp + 40 < recursionLimit) (hun : un + 800 < cLine)
  (hq : ∀ S h' tk', Fr gh L h' (fun q => if q = Str.ofString "rows" then some (.ref RL) else m q) → News gh L h' ((S, listOf (ys.drop 1).toArray 0) :: news) → wpAny (model rwT.prog w) ((lawA dp un gd).deeper (envN L fa cd)) (call (.type "zip") [.ref RL, .ref S]) Q E { s with heap := h', toks := tk' }) :
  wpAny (model rwT.prog w) ((lawA dp un gd).deeper (envN L fa cd)) (eval (forIter lawFor) (envN L fa cd)) Q E { s with heap := h, toks := tk } := by
  k_with_none
  k_with "call builtin:len" => (k_here; k_dflt (refine' any_len ?Nw9 ?lw9 ?hzw9 ?_; (case Nw9 => k_asm); (case lw9 => assumption); (case hzw9 => assumption)))
  k_with "subscriptTail Name Slice ref ref" => (k_here; k_dflt (refine' slice1 ?Fw9 ?Nw9 ?lw9 ?zw9 ?_ ?sw9 ?tw9; (case Fw9 => k_asm); (case Nw9 => k_asm); (case lw9 => assumption); (case zw9 => assumption); (case sw9 => with_unfolding_all rfl); (case tw9 => kmk_pure)); intro Dw9 hw9 Fw9 Nw9 l1w9)
  dsimp only [envN] at hq ⊢; (conv in (forIter _) => whnf); revert X'; k_fill; intro X'
  k_steps
  all_goals exact hq _ _ _ (by k_asm) (by k_asm)
set_option maxHeartbeats 1000000 in
theorem law_asg (Q : Unit → Shared → Prop) (E : Value → Shared → Prop) (T a b : Addr) (hT : IsTup h T #[.ref a, .ref b])
  (B' : Below (lawA dp un gd) base [] gh) (X' : (KT w.params).In gh) (T' : Top qV looseV mean mg mb gh)
  (F' : Fr gh L h m) (N' : News gh L h news) (hdp : dp + 40 < recursionLimit) (hun : un + 800 < cLine)
  (hq : ∀ h' tk', Fr gh L h' (fun q => if q = Str.ofString "narrow" then some (.ref b) else if q = Str.ofString "wide" then some (.ref a) else m q) → News gh L h' news → Q () { s with heap := h', toks := tk' }) :
  wpAny (model rwT.prog w) ((lawA dp un gd).deeper (envN L fa cd)) (assign (.Tuple (forElts lawFor) 0 (forTp lawFor)) (envN L fa cd) (.ref T)) Q E { s with heap := h, toks := tk } := by
  k_with_none
  k_with "call builtin:len" => (k_here; k_dflt (refine' any_len ?Nw9 ?lw9 ?hzw9 ?_; (case Nw9 => k_asm); (case lw9 => assumption); (case hzw9 => assumption)))
  k_with "subscriptTail Name Slice ref ref" => (k_here; k_dflt (refine' slice1 ?Fw9 ?Nw9 ?lw9 ?zw9 ?_ ?sw9 ?tw9; (case Fw9 => k_asm); (case Nw9 => k_asm); (case lw9 => assumption); (case zw9 => assumption); (case sw9 => with_unfolding_all rfl); (case tw9 => kmk_pure)); intro Dw9 hw9 Fw9 Nw9 l1w9)
  dsimp only [envN]; (conv in (forElts _) => whnf); revert X'; k_fill; intro X'
  k_steps
  all_goals exact hq _ _ (by k_asm) (by k_asm)
end
end Mine
end
section
open PySem PySem.W PyProof.Rows PySem.Spec PySem.Calls PySem.Builtin.Str
set_option maxRecDepth 100000
namespace Mine
open LCg PySem.SeqAt
section
variable (w : World) (mean : ExcName → Option Value) (mg mb : Str → Option Value) (news : List (Addr × Obj))
  (dp un : Nat) (gd : Option (List Code)) (base : Heap) (gh h : Heap) (L fa : Addr) (cd : Value) (m : Str → Option Value) (s : Shared) (tk : Nat)
theorem law_in (Q : Flow → Shared → Prop) (E : Value → Shared → Prop) (Wd Nn : Addr) (vsW vsN : List Value) (kW kN : Nat) (ps : List (List Ltr)) (i : Nat) (hp : ∀ p ∈ ps, p ∈ pcs) (hz : ps.length ≤ 6) (hi : i + 1 < ps.length)
  (hW : (Wd, listOf vsW.toArray kW) ∈ news) (hN : (Nn, listOf vsN.toArray kN) ∈ news)
  (tW : TripsIn news vsW (paintsTo (ps.drop i) (ps.drop i).length)) (tN : TripsIn news vsN (paintsTo (ps.drop (i + 1)) (ps.drop (i + 1)).length))
  (hE : PassesOwn (model rwT.prog w) ((lawA dp un gd).deeper (envN L fa cd)) (envN L fa cd) E)
  (B' : Below (lawA dp un gd) base [] gh) (X' : (KT w.params).In gh) (T' : Top qV looseV mean mg mb gh)
  (F' : Fr gh L h m) (e1 : m (Str.ofString "narrow") = some (.ref Nn)) (e2 : m (Str.ofString "wide") = some (.ref Wd)) (N' : News gh L h news) (hdp : dp + 40 < recursionLimit) (hun : un + 800 < cLine)
  (hnext : ∀ h' tk' m', Fr gh L h' m' → News gh L h' news → Q .next { s with heap := h', toks := tk' }) :
  wpAny (model rwT.prog w) ((lawA dp un gd).deeper (envN L fa cd)) (exec lawIn (envN L fa cd)) Q E { s with heap := h, toks := tk } := by
  have lN : vsN.length = ps.length - i := by rw [tN.len, paintsTo_len, List.length_drop]; omega
  have lW : vsW.length = ps.length - i + 1 := by rw [tW.len, paintsTo_len, List.length_drop]
  rw [lawIn_is]
  refine For_invVF (env := envN L fa cd) (h₀ := gh) F' rfl rfl ?_ (hE := hE)
  refine in_iter w mean mg mb news dp un gd base gh h L fa cd m s tk _ E Nn vsN kN hN (by omega) B' X' T' (know F' e1) N' hdp hun ?_
  intro r h2 tk2 t1 t2 t3 hr F2 N2
  refine iter_rng (env := envN L fa cd) (s := { s with heap := h2, toks := tk2 }) (fun _ m₁ news₁ => news₁ = news ∧ m₁ (Str.ofString "narrow") = some (.ref Nn) ∧ m₁ (Str.ofString "wide") = some (.ref Wd))
    rfl hr (rng1_small _ (by omega)) (rng1_size _ (by omega)) F2 N2 ⟨rfl, by rw [if_pos rfl], by rw [if_neg (by decide)]; exact e2⟩ ?_ ?_
  · rintro I j t m₁ news₁ h3 tk3 own hj hI hI2 _ ⟨rfl, q1, q2⟩ F3 N3
    have F4 := know (know (know F3 (n := Str.ofString "wide") (v := .ref Wd) (by rw [if_neg (by decide)]; exact q2)) (n := Str.ofString "narrow") (v := .ref Nn) (by rw [if_neg (by decide), if_neg (by decide)]; exact q1)) (n := Str.ofString "size") (v := .int (1 + (j : Int)) t) (by rw [if_neg (by decide), if_neg (by decide), if_pos rfl])
    obtain ⟨x, y, z, c, a1, a2, a3, a4, ⟨b1, b2, b3, b4, b5, b6, b7, b8, b9⟩, c1, c2, c3, hf⟩ := turn_plain ps i j hp hz (by omega)
    obtain ⟨dI, u1, u2, u3, o1, p1⟩ := tN.at_ j x a1
    obtain ⟨dM, v1, v2, v3, o2, p2⟩ := tW.at_ (j + 2) y a2
    obtain ⟨dL, w1, w2, w3, o3, p3⟩ := tW.at_ (j + 1) z a3
    obtain ⟨dN, r1, r2, r3, o4, p4⟩ := tN.at_ (j + 1) c a4
    have up : ∀ {p : Addr × Obj}, p ∈ news₁ → p ∈ news₁ ++ own := fun q => List.mem_append_left _ q
    refine law_turn w mean mg mb (news₁ ++ own) dp un gd base gh h3 L fa cd _ _ tk3 _ E Wd Nn dI dM dL dN vsW vsN kW kN (1 + (j : Int)) t x.1 x.2.1 x.2.2 y.1 y.2.1 y.2.2 z.1 z.2.1 z.2.2 c.1 c.2.1 c.2.2 u1 u2 u3 v1 v2 v3 w1 w2 w3 r1 r2 r3 (by omega)
      (up hW) (up hN) (by omega) (by omega) ⟨j, by omega, o1⟩ ⟨j + 2, by omega, o2⟩ ⟨j + 1, by omega, o3⟩ ⟨j + 1, by omega, o4⟩ (up p1) (up p2) (up p3) (up p4) b1 b2 b3 b4 b5 b6 b7 b8 b9 c1 c2 c3 hf B' X' T' F4 N3 hdp hun ?_
    intro h' tk' m' F5 N5 q3 q4
    exact ⟨h', tk', m', news₁ ++ own, news₁, rfl, F5, N5, fun _ hx => List.mem_append_left _ hx, fun _ hx => List.mem_append_right _ hx, fun p hp hm => hI2 p hp (List.mem_singleton.mp hm), rfl, q3, q4⟩
  · rintro m₁ news₁ h3 tk3 ⟨rfl, _, _⟩ F3 N3
    exact hnext h3 tk3 m₁ F3 N3
theorem law_5 (Q : Flow → Shared → Prop) (E : Value → Shared → Prop) (RL : Addr) (ys : List Value) (ps : List (List Ltr)) (hp : ∀ p ∈ ps, p ∈ pcs) (hz : ps.length ≤ 6) (hR : (RL, lst ys) ∈ news) (hr : RowsIn news ys (tssOf ps))
  (hE : PassesOwn (model rwT.prog w) ((lawA dp un gd).deeper (envN L fa cd)) (envN L fa cd) E)
  (B' : Below (lawA dp un gd) base [] gh) (X' : (KT w.params).In gh) (T' : Top qV looseV mean mg mb gh)
  (F' : Fr gh L h (fun q => if q = Str.ofString "rows" then some (.ref RL) else m q)) (N' : News gh L h news) (hdp : dp + 40 < recursionLimit) (hun : un + 800 < cLine)
  (hnext : ∀ h' tk' m', Fr gh L h' m' → News gh L h' news → Q .next { s with heap := h', toks := tk' }) :
  wpAny (model rwT.prog w) ((lawA dp un gd).deeper (envN L fa cd)) (exec (lawSt 5) (envN L fa cd)) Q E { s with heap := h, toks := tk } := by
  have ly : ys.length = ps.length := by rw [hr.len]; simp [tssOf]
  rw [lawFor_is]
  refine For_turns (env := envN L fa cd) (h₀ := gh) F' ?_ (hE := hE)
  refine law_zip w mean mg mb news dp un gd base gh h L fa cd m s tk _ E RL ys hR (by omega) B' X' T' F' N' hdp hun ?_
  intro S h2 tk2 F2 N2
  refine zip_turns (env := envN L fa cd) (s := { s with heap := h2, toks := tk2 }) (fun _ _ news₁ => news₁ = (S, listOf (ys.drop 1).toArray 0) :: news) rfl F2 N2 (.tail _ hR) (.head _) rfl ?_ ?_
  · rintro wr i a b T m₁ news₁ h3 tk3 own ea eb hT rfl hoff F3 N3
    have hi1 : i + 1 < ps.length := by
      have := (List.getElem?_eq_some_iff.mp eb).1
      rw [List.length_drop] at this
      omega
    rw [List.getElem?_drop] at eb
    obtain ⟨Da, vsW, kW, x1, m1, t1⟩ := hr.at_ i _ (tss_at ps (by omega))
    obtain ⟨Db, vsN, kN, x2, m2, t2⟩ := hr.at_ (i + 1) _ (tss_at ps hi1)
    have ea' : a = .ref Da := by rw [ea] at x1; exact Option.some.inj x1
    have eb' : b = .ref Db := by rw [show 1 + i = i + 1 by omega, x2] at eb; exact (Option.some.inj eb).symm
    subst ea'
    subst eb'
    refine law_asg w mean mg mb _ dp un gd base gh h3 L fa cd _ s tk3 _ E T Da Db hT B' X' T' F3 N3 hdp hun ?_
    intro h4 tk4 F4 N4
    rw [lawForB]
    have up : ∀ {p : Addr × Obj}, p ∈ news → p ∈ own ++ ((S, listOf (ys.drop 1).toArray 0) :: news) := fun q => List.mem_append_right _ (.tail _ q)
    refine wpAny_execs_cons (law_in w mean mg mb _ dp un gd base gh h4 L fa cd _ s tk4 _ E Da Db vsW vsN kW kN ps i hp hz hi1 (up m1) (up m2) (t1.mono fun p q => up q) (t2.mono fun p q => up q) hE B' X' T' F4 (by rw [if_pos rfl]) (by rw [if_neg (by decide), if_pos rfl]) N4 hdp hun ?_)
    intro h5 tk5 m5 F5 N5
    exact wpAny_execs_nil ⟨h5, tk5, m5, _, _, rfl, F5, N5, fun _ hx => List.mem_append_right _ hx, fun _ hx => List.mem_append_left _ hx, hoff, rfl⟩
  · rintro m₁ news₁ h3 tk3 rfl F3 N3
    exact hnext h3 tk3 m₁ F3 (cb_drop N3 sub1)
set_option maxHeartbeats 1000000 in
theorem law_6 (Q : Flow → Shared → Prop) (E : Value → Shared → Prop)
  (B' : Below (lawA dp un gd) base [] gh) (X' : (KT w.params).In gh) (T' : Top qV looseV mean mg mb gh)
  (F' : Fr gh L h m) (N' : News gh L h news) (hdp : dp + 40 < recursionLimit) (hun : un + 800 < cLine)
  (hret : ∀ tk', Q (.ret (.bool true)) { s with heap := h, toks := tk' }) :
  wpAny (model rwT.prog w) ((lawA dp un gd).deeper (envN L fa cd)) (execs [lawSt 6] (envN L fa cd)) Q E { s with heap := h, toks := tk } := by
  k_with_none
  dsimp only [envN]; (conv in (lawSt _) => whnf); revert X'; k_fill; intro X'
  k_steps
  all_goals exact hret _
end
end Mine
end
section
open PySem PySem.W PyProof.Rows PySem.Spec PySem.Calls PySem.Builtin.Str
set_option maxRecDepth 100000
namespace Mine
open LCg PySem.SeqAt
theorem law_all (w : World) (mean : ExcName → Option Value) (mg mb : Str → Option Value) (dp un : Nat) (gd : Option (List Code)) (base : Heap) (gh h : Heap) (L fa : Addr) (cd : Value) (m : Str → Option Value) (s : Shared) (tk : Nat) (Q : Flow → Shared → Prop) (E : Value → Shared → Prop)
  (sc : Addr) (xs : List Int) (vals : List Value) (hl : gh.IsList sc vals.toArray) (hI : IntsAre vals xs) (hx : xs.length ≤ 63) (o : Obj) (od : o.data = .cell none)
  (hE : PassesOwn (model rwT.prog w) ((lawA dp un gd).deeper (envN L fa cd)) (envN L fa cd) E)
  (B : Below (lawA dp un gd) base [] gh) (X : (KT w.params).In gh) (T : Top qV looseV mean mg mb gh)
  (F : Fr gh L h m) (e1 : m (Str.ofString "script") = some (.ref sc)) (N : News gh L h [(L + 1, o)]) (hdp : dp + 40 < recursionLimit) (hun : un + 800 < cLine)
  (hret : ∀ h' tk' m' news', Fr gh L h' m' → News gh L h' news' → Q (.ret (.bool true)) { s with heap := h', toks := tk' }) :
  wpAny (model rwT.prog w) ((lawA dp un gd).deeper (envN L fa cd)) (execs (fBody (stOf 20)) (envN L fa cd)) Q E { s with heap := h, toks := tk } := by
  rw [lawBody]
  refine wpAny_execs_cons (law_0 w mean mg mb [(L + 1, o)] dp un gd base gh h L fa cd _ s tk _ E sc xs vals hl hI hx B X T (know F e1) N (by first | exact lt_dn (by assumption) (by decide) | omega) (by first | exact lt_dn (by assumption) (by decide) | omega) ?_)
  intro h1 tk1 m1 D xs1 ws k1 F1 N1 hlt hI1 hx4 hx6 e2
  refine wpAny_execs_cons (law_1 w mean mg mb dp un gd base gh h1 L fa cd _ s tk1 _ E D o od xs1 ws k1 hI1 hx6 (hlt _ (.head _)) B X T (know F1 e2) N1 (by first | exact lt_dn (by assumption) (by decide) | omega) (by first | exact lt_dn (by assumption) (by decide) | omega) ?_)
  intro h2 tk2 m2 P lm o2 hlm F2 N2 hP od2
  have hp : ∀ p ∈ xs1.map pcOf, p ∈ pcs := fun p q => by
    obtain ⟨x, _, rfl⟩ := List.mem_map.mp q
    exact pcOf_pcs x
  have hz : (xs1.map pcOf).length ≤ 6 := by rw [List.length_map]; exact hx6
  have hz4 : 4 ≤ (xs1.map pcOf).length := by rw [List.length_map]; exact hx4
  generalize xs1.map pcOf = ps at *
  refine wpAny_execs_cons (law_2 w mean mg mb [(P, lst (strValues lm))] dp un gd base gh h2 L fa cd _ s tk2 _ E P o2 od2 lm (.head _) B X T F2 N2 hdp hun ?_)
  intro h3 tk3 F3 N3
  refine wpAny_execs_cons (law_3 w mean mg mb [] dp un gd base gh h3 L fa cd _ s tk3 _ E P o2 od2 lm ps hp hz hlm B X T F3 N3 hdp hun ?_)
  intro h4 tk4 RL ys own hr F4 N4
  obtain ⟨R0, vs0, k0, y0, m0, tr0⟩ := hr.at_ 0 _ (tss_at ps (by omega))
  have ly : ys.length = ps.length := by rw [hr.len]; simp [tssOf]
  refine wpAny_execs_cons (law_4' w mean mg mb dp un gd base gh h4 L fa cd _ s tk4 _ E RL P R0 o2 od2 lm ps hp hz hlm ys vs0 k0 own (by omega) y0 m0 tr0 B X T F4 N4 hdp hun ?_)
  intro h5 tk5 F5 N5
  refine wpAny_execs_cons (law_5 w mean mg mb _ dp un gd base gh h5 L fa cd _ s tk5 _ E RL ys ps hp hz (.head _) (hr.mono fun p q => .tail _ (.tail _ (.tail _ q))) hE B X T F5 N5 hdp hun ?_)
  intro h6 tk6 m6 F6 N6
  refine law_6 w mean mg mb _ dp un gd base gh h6 L fa cd _ s tk6 _ E B X T F6 N6 hdp hun ?_
  intro tk7
  exact hret h6 tk7 m6 _ F6 N6
local macro_rules | `(tactic| k_qdec) => `(tactic| kernel_rfl)
set_option maxHeartbeats 4000000 in
theorem walk : WalkT := by
  k_with_none
  unfold WalkT
  k_go0
  rename_i hL ra w1 r0 hI hr hcond hc2 K0 hD h1 tk1 F o od N X0
  rename (KT _).In _ => KX
  rename Top _ _ _ _ _ _ => T
  have hx : (63 : Int) ≥ _ := Int.not_lt.mp hcond
  refine law_all _ _ _ _ (1 + claimMargin) 4 (some []) _ _ _ _ _ _ _ _ _ _ _ _ _ _ hL hI (Int.ofNat_le.mp hx) _ od (by passes_own) K0 KX T F rfl N (by decide +kernel) (by decide +kernel) ?_
  intro h' tk' m' news' F' N'
  k_steps
end Mine
end
section
open PySem PySem.W PyProof.Rows
namespace Mine

/-- a tree runs, from a state, to its value and a state, within `b` steps of the top's machine -/
noncomputable def Runs (p : Program) (w : World) (n₀ : Nat) (ann : Option Value) (c : Code) (B : List Frame) {α : Type} (b : Nat) (x : Sem α) (s : Shared) (q : Pos) (a : α) (s' : Shared) (q' : Pos) : Prop :=
  ∀ (K : α → Sem Fin) (H : Value → Sem Fin) (gd : Bool → Bool) (lv : List Value → List Value) (N : Nat) (r : Shared),
    topRun treeTable p w n₀ ann N s' ⟨K a, c, q', B⟩ = some r → topRun treeTable p w n₀ ann (b + N) s ⟨x.wrap K H gd lv, c, q, B⟩ = some r

section
variable {p : Program} {w : World} {n₀ : Nat} {ann : Option Value} {c : Code} {fr : Frame} {B : List Frame} {α β : Type}

theorem one_step {s s' : Shared} {t t' : Thread} {N : Nat} {r : Shared} (h1 : through t = false) (h2 : stepOk n₀ ann t = true) (h3 : step (denote treeTable) p w s t = .go s' t')
    (h : topRun treeTable p w n₀ ann N s' t' = some r) : topRun treeTable p w n₀ ann (1 + N) s t = some r := by
  rw [Nat.add_comm]
  unfold topRun
  rw [h1, h2, h3]
  exact h

theorem Runs.mono {b b' : Nat} {x : Sem α} {s s' : Shared} {q q' : Pos} {a : α} (h : Runs p w n₀ ann c B b x s q a s' q') (hb : b ≤ b') : Runs p w n₀ ann c B b' x s q a s' q' := by
  intro K H gd lv N r k
  have := topRun_mono (b' - b) _ _ _ _ (h K H gd lv N r k)
  rwa [show b + N + (b' - b) = b' + N by omega] at this

theorem Runs.ret {s : Shared} {q : Pos} {a : α} : Runs p w n₀ ann c B 0 (.pure a) s q a s q := by
  intro K H gd lv N r k
  rw [Nat.zero_add]
  exact k

theorem Runs.bind {b b' : Nat} {x : Sem α} {f : α → Sem β} {s s₁ s' : Shared} {q q₁ q' : Pos} {a : α} {y : β} (h : Runs p w n₀ ann c B b x s q a s₁ q₁) (h' : Runs p w n₀ ann c B b' (f a) s₁ q₁ y s' q') :
    Runs p w n₀ ann c B (b + b') (x >>= f) s q y s' q' := by
  intro K H gd lv N r k
  rw [Sem.bind_eq_wrap', Sem.wrap_wrap, Nat.add_assoc]
  refine h _ _ _ _ _ _ ?_
  exact h' K H gd lv N r k

theorem Runs.keep {b : Nat} {vs : List Value} {x : Sem α} {s s' : Shared} {q q' : Pos} {a : α} (h : Runs p w n₀ ann c B b x s q a s' q') : Runs p w n₀ ann c B b (x.keep vs) s q a s' q' := by
  intro K H gd lv N r k
  rw [Sem.keep_eq_wrap, Sem.wrap_wrap]
  exact h _ _ _ _ _ _ k

theorem Runs.holding {b : Nat} {vs : List Value} {x : Sem α} {s s' : Shared} {q q' : Pos} {a : α} (h : Runs p w n₀ ann c B b x s q a s' q') : Runs p w n₀ ann c B b (PySem.holding vs x) s q a s' q' := by
  unfold PySem.holding
  split
  · exact h
  · exact h.keep

theorem Runs.onRaise {b : Nat} {g : Value → Sem Unit} {x : Sem α} {s s' : Shared} {q q' : Pos} {a : α} (h : Runs p w n₀ ann c B b x s q a s' q') : Runs p w n₀ ann c B b (x.onRaise g) s q a s' q' := by
  intro K H gd lv N r k
  rw [Sem.onRaise_eq_wrap, Sem.wrap_wrap]
  exact h _ _ _ _ _ _ k

variable {s s' : Shared} {q q' : Pos} {a : α} {b : Nat}

theorem Runs.rule {k : Unit → Sem α} {tag : String} (h : Runs p w n₀ ann c (fr :: B) b (k ()) s q a s' q') : Runs p w n₀ ann c (fr :: B) (1 + b) (.rule tag k) s q a s' q' := by
  intro K H gd lv N r z
  rw [Nat.add_assoc]
  exact one_step rfl rfl rfl (h K H gd lv N r z)
theorem Runs.at {k : Unit → Sem α} {q₁ : Pos} (h : Runs p w n₀ ann c (fr :: B) b (k ()) s q₁ a s' q') : Runs p w n₀ ann c (fr :: B) (1 + b) (.at q₁ k) s q a s' q' := by
  intro K H gd lv N r z
  rw [Nat.add_assoc]
  exact one_step rfl rfl rfl (h K H gd lv N r z)
theorem Runs.load {k : Obj → Sem α} {d : Addr} {part : Option Value} {o : Obj} (ho : s.heap.get? d = some o) (h : Runs p w n₀ ann c (fr :: B) b (k o) s q a s' q') : Runs p w n₀ ann c (fr :: B) (1 + b) (.load d part k) s q a s' q' := by
  intro K H gd lv N r z
  rw [Nat.add_assoc]
  refine one_step rfl rfl ?_ (h K H gd lv N r z)
  obtain ⟨heap, gens, drawn, toks, os⟩ := s
  simp only [Sem.wrap, step]
  rw [show heap.get? d = some o from ho]
theorem Runs.update {k : Unit → Sem α} {d : Addr} {part : Option Value} {f : Obj → Obj} (ho : (s.heap.get? d).isSome = true) (hd : Nat.ble n₀ d = true) (h : Runs p w n₀ ann c (fr :: B) b (k ()) { s with heap := s.heap.update d f } q a s' q') :
    Runs p w n₀ ann c (fr :: B) (1 + b) (.update d part f k) s q a s' q' := by
  intro K H gd lv N r z
  rw [Nat.add_assoc]
  refine one_step rfl ?_ ?_ (h K H gd lv N r z)
  · simp only [Sem.wrap, stepOk, hd, Bool.true_or, Bool.and_true]; rfl
  · obtain ⟨heap, gens, drawn, toks, os⟩ := s
    simp only [Sem.wrap, step]
    rw [if_pos ho]
theorem Runs.alloc {k : Addr → Sem α} {o : Obj} (h : Runs p w n₀ ann c (fr :: B) b (k s.heap.objs.size) { s with heap := s.heap.push o } q a s' q') : Runs p w n₀ ann c (fr :: B) (1 + b) (.alloc o k) s q a s' q' := by
  intro K H gd lv N r z
  rw [Nat.add_assoc]
  refine one_step rfl rfl ?_ (h K H gd lv N r z)
  obtain ⟨heap, gens, drawn, toks, os⟩ := s
  rfl
theorem Runs.fresh {k : Tok → Sem α} (h : Runs p w n₀ ann c (fr :: B) b (k s.toks) { s with toks := s.toks + 1 } q a s' q') : Runs p w n₀ ann c (fr :: B) (1 + b) (.fresh k) s q a s' q' := by
  intro K H gd lv N r z
  rw [Nat.add_assoc]
  refine one_step rfl rfl ?_ (h K H gd lv N r z)
  obtain ⟨heap, gens, drawn, toks, os⟩ := s
  rfl
end
end Mine
end
section
open PySem PySem.W PyProof.Rows
set_option maxRecDepth 100000
namespace Mine
section
variable {p : Program} {w : World} {n₀ : Nat} {ann : Option Value} {c : Code} {fr : Frame} {B : List Frame} {α β : Type}

theorem hash_goT (b : Bool) (s : Shared) (k : Int) (t : Tok) (K : Int → Sem Fin) (H : Value → Sem Fin) (gd : Bool → Bool) (lv : List Value → List Value) (q : Pos) :
    Fast.tw15667345088766844465 Fast.tw14364793385576792824 p (w.withFollow "special-get-raises" b) n₀ ann 5 s ⟨(Fast.tw10540108854288196387 (.int k t)).wrap K H gd lv, c, q, fr :: B⟩ =
      some ({ s with toks := s.toks + 1 }, ⟨(Fast.tw199310478702765468 (rawHash k)).wrap K H gd lv, c, q, fr :: B⟩) := by
  obtain ⟨heap, gens, drawn, toks, os⟩ := s
  cases b <;> kernel_rfl
theorem hash_go (s : Shared) (k : Int) (t : Tok) (K : Int → Sem Fin) (H : Value → Sem Fin) (gd : Bool → Bool) (lv : List Value → List Value) (q : Pos) :
    topGo treeTable p w n₀ ann 5 s ⟨(pyHash (.int k t)).wrap K H gd lv, c, q, fr :: B⟩ =
      some ({ s with toks := s.toks + 1 }, ⟨(pyHashByItsType.reduced (rawHash k)).wrap K H gd lv, c, q, fr :: B⟩) := by
  have h := hash_goT (p := p) (w := w) (n₀ := n₀) (ann := ann) (c := c) (fr := fr) (B := B) (w.params.followText "special-get-raises") s k t K H gd lv q
  rw [World.withFollow_self] at h
  rw [← Fast.te15667345088766844465, ← Fast.te14364793385576792824, ← Fast.te10540108854288196387, ← Fast.te199310478702765468] at h
  exact h

theorem reduced_small {k : Int} (h0 : 0 ≤ k) (h1 : k < 1000000) : pyHashByItsType.reduced (rawHash k) = (.pure k : Sem Int) := by
  have e : rawHash k = k := by
    unfold rawHash
    have e1 : ((k.natAbs : Int) % ((2 ^ 61 - 1 : Nat) : Int)) = k := by
      rw [show ((2 ^ 61 - 1 : Nat) : Int) = 2305843009213693951 by decide]
      omega
    dsimp only
    have hk : ¬ k < 0 := by omega
    have hm : ¬ (k == -1) = true := by simp only [beq_iff_eq]; omega
    simp only [e1, hk, if_false, hm]
    rfl
  rw [e]
  unfold pyHashByItsType.reduced
  rw [if_pos (by simp; omega)]
  rw [if_neg (by simp; omega)]
  rfl

theorem Runs.hashInt {s : Shared} {k : Int} {t : Tok} {q : Pos} (h0 : 0 ≤ k) (h1 : k < 1000000) : Runs p w n₀ ann c (fr :: B) 5 (pyHash (.int k t)) s q k { s with toks := s.toks + 1 } q := by
  intro K H gd lv N r z
  refine go_top (hash_go s k t K H gd lv q) ?_
  rw [reduced_small h0 h1]
  exact z
end
end Mine
end
section
open PySem PySem.W PyProof.Rows
set_option maxRecDepth 100000
namespace Mine

/-- the base heap with objects behind it -/
noncomputable def G (h : Heap) (os : List Obj) : Heap := ⟨⟨h.objs.toList ++ os⟩, h.life⟩

theorem G_push (h : Heap) (os : List Obj) (o : Obj) : (G h os).push o = G h (os ++ [o]) := by
  unfold G Heap.push
  simp
theorem G_size (h : Heap) (os : List Obj) : (G h os).objs.size = h.objs.size + os.length := by
  unfold G
  simp
theorem G_get (h : Heap) (os : List Obj) (i : Nat) (es : List DictEntry) (hi : os[i]? = some (dictO es)) : (G h os).get? (h.objs.size + i) = some (dictO es) := by
  unfold G Heap.get?
  have : (Array.mk (h.objs.toList ++ os))[h.objs.size + i]? = some (dictO es) := by
    rw [← hi, ← Array.getElem?_toList]
    simp only
    rw [List.getElem?_append_right (by simp)]
    simp
  simp only
  rw [this]
  rfl
theorem modify_app {α : Type} (f : α → α) : ∀ (l os : List α) (i : Nat), (l ++ os).modify (l.length + i) f = l ++ os.modify i f
  | [], os, i => by simp
  | a :: l, os, i => by
    rw [List.length_cons, show l.length + 1 + i = (l.length + i) + 1 by omega, List.cons_append, List.modify_succ_cons, modify_app f l os i, List.cons_append]
theorem G_update (h : Heap) (os : List Obj) (i : Nat) (f : Obj → Obj) : (G h os).update (h.objs.size + i) f = G h (os.modify i f) := by
  unfold G Heap.update
  simp only [Heap.mk.injEq, and_true]
  apply Array.ext'
  rw [Array.toList_modify]
  simp only
  have := modify_app f h.objs.toList os i
  rwa [Array.length_toList] at this
theorem mapKeys_dictO (es : List DictEntry) (e : DictEntry) : Obj.mapDictKeys (·.push e) (dictO es) = dictO (es ++ [e]) := by
  unfold dictO Obj.mapDictKeys
  simp

section
variable {p : Program} {w : World} {n₀ : Nat} {ann : Option Value} {c : Code} {fr : Frame} {B : List Frame} {α β : Type} {s : Shared} {q : Pos} {d : Addr} {es : List DictEntry}

theorem Runs.entries {part : Option Value} (hd : s.heap.get? d = some (dictO es)) : Runs p w n₀ ann c (fr :: B) 1 (dictEntries d part) s q es.toArray s q :=
  Runs.bind (b := 1) (b' := 0) (Runs.load hd Runs.ret) Runs.ret
theorem Runs.epoch {part : Option Value} (hd : s.heap.get? d = some (dictO es)) : Runs p w n₀ ann c (fr :: B) 1 (dictEpoch d part) s q es.length s q :=
  Runs.bind (b := 1) (b' := 0) (Runs.load hd Runs.ret) Runs.ret

theorem places_none (es : List DictEntry) (h : Int) (hne : ∀ e ∈ es, e.hash ≠ h) : placesWithHash es.toArray.size (fun i => es.toArray[i]?.map (·.hash)) h = [] := by
  unfold placesWithHash
  rw [List.filter_eq_nil_iff]
  intro i _
  simp only [List.getElem?_toArray, beq_iff_eq]
  intro e
  obtain ⟨x, hx, hh⟩ := Option.map_eq_some_iff.mp e
  exact hne x (List.mem_of_getElem? hx) hh

theorem Runs.findNone {k : Int} {t : Tok} (hd : s.heap.get? d = some (dictO es)) (hne : ∀ e ∈ es, e.hash ≠ k) : Runs p w n₀ ann c (fr :: B) 1 (dictFind d (.int k t) k) s q none s q := by
  unfold dictFind
  refine Runs.holding ?_
  refine Runs.bind (b := 1) (b' := 0) (Runs.entries hd) ?_
  dsimp only
  rw [places_none es k hne]
  exact Runs.ret

theorem past_none {es : List DictEntry} (h : es.length < 100000) : (Data.dict es.toArray es.length).pastItsLine = none := by
  show (if es.toArray.size > sizeLine + 1 then some "dict:memory" else none) = none
  rw [if_neg]
  simp only [List.size_toArray]
  have : sizeLine = 16777216 := by decide
  omega

/-- one new key at the end of a dict of the base's -/
theorem Runs.pushKey {h : Heap} {os : List Obj} {i : Nat} {e : DictEntry} {part : Option Value} (hs : s.heap = G h os) (hd : d = h.objs.size + i) (hi : os[i]? = some (dictO es)) (hn : Nat.ble n₀ d = true) (hl : es.length < 99999) :
    Runs p w n₀ ann c (fr :: B) 3 (updateDictKeys d (·.push e) part) s q () { s with heap := G h (os.set i (dictO (es ++ [e]))) } q := by
  have hg : s.heap.get? d = some (dictO es) := by rw [hs, hd]; exact G_get h os i es hi
  have hlt : i < os.length := by
    rcases Nat.lt_or_ge i os.length with q | q
    · exact q
    · rw [List.getElem?_eq_none q] at hi; cases hi
  have hu : s.heap.update d (Obj.mapDictKeys (·.push e)) = G h (os.set i (dictO (es ++ [e]))) := by
    rw [hs, hd, G_update]
    congr 1
    rw [← mapKeys_dictO]
    apply List.ext_getElem?
    intro j
    rw [List.getElem?_modify, List.getElem?_set]
    by_cases hij : i = j
    · subst hij
      simp only [hi, if_true, hlt]
      rfl
    · simp [hij]
  unfold updateDictKeys
  refine Runs.bind (b := 1) (b' := 2) (Runs.load hg Runs.ret) ?_
  dsimp only [dictO]
  refine Runs.bind (b := 1) (b' := 1) (Runs.update (by rw [hg]; rfl) hn Runs.ret) ?_
  rw [hu]
  unfold lookBehind
  refine Runs.bind (b := 1) (b' := 0) (Runs.load (o := dictO (es ++ [e])) ?_ Runs.ret) ?_
  · rw [hd]
    exact G_get h _ i _ (by rw [List.getElem?_set]; simp [hlt])
  · dsimp only [dictO]
    have := past_none (es := es ++ [e]) (by simp; omega)
    rw [this]
    exact Runs.ret

theorem Runs.setNew {h : Heap} {os : List Obj} {i : Nat} {k : Int} {t : Tok} {v : Value} (hs : s.heap = G h os) (hd : d = h.objs.size + i) (hi : os[i]? = some (dictO es)) (hn : Nat.ble n₀ d = true) (hl : es.length < 99999) (hne : ∀ e ∈ es, e.hash ≠ k)
    (h0 : 0 ≤ k) (h1 : k < 1000000) :
    Runs p w n₀ ann c (fr :: B) 10 (dictSet d (.int k t) v) s q () { s with heap := G h (os.set i (dictO (es ++ [⟨k, .int k t, v⟩]))), toks := s.toks + 1 } q := by
  have hg : s.heap.get? d = some (dictO es) := by rw [hs, hd]; exact G_get h os i es hi
  unfold dictSet
  refine Runs.holding (Runs.bind (b := 5) (b' := 5) (Runs.hashInt h0 h1) ?_)
  unfold dictSetHashed
  refine Runs.holding (Runs.bind (b := 1) (b' := 4) (Runs.findNone (es := es) hg hne) ?_)
  dsimp only
  refine Runs.bind (b := 1) (b' := 3) (Runs.rule Runs.ret) ?_
  exact Runs.pushKey (s := { s with toks := s.toks + 1 }) hs hd hi hn hl

theorem Runs.putNew {h : Heap} {os : List Obj} {i : Nat} {k : Int} {t : Tok} {v : Value} (hs : s.heap = G h os) (hd : d = h.objs.size + i) (hi : os[i]? = some (dictO es)) (hn : Nat.ble n₀ d = true) (hl : es.length < 99999) (hne : ∀ e ∈ es, e.hash ≠ k) :
    Runs p w n₀ ann c (fr :: B) 4 (dictPut d k (.int k t) v) s q () { s with heap := G h (os.set i (dictO (es ++ [⟨k, .int k t, v⟩]))) } q := by
  have hg : s.heap.get? d = some (dictO es) := by rw [hs, hd]; exact G_get h os i es hi
  unfold dictPut
  refine Runs.bind (b := 1) (b' := 3) (Runs.findNone (es := es) hg hne) ?_
  dsimp only
  exact Runs.pushKey hs hd hi hn hl

/-- a loop over a list by its states -/
theorem Runs.loop {γ : Type} {b : Nat} (f : γ → PUnit → Sem (ForInStep PUnit)) (q : Pos) : ∀ (l : List γ) (st : Nat → Shared), (∀ i (hi : i < l.length), Runs p w n₀ ann c (fr :: B) b (f l[i] ⟨⟩) (st i) q (.yield ⟨⟩) (st (i + 1)) q) →
    Runs p w n₀ ann c (fr :: B) (b * l.length) (forIn l PUnit.unit f) (st 0) q ⟨⟩ (st l.length) q
  | [], st, _ => by
    rw [List.forIn_nil]
    exact Runs.ret
  | x :: l, st, H => by
    rw [List.forIn_cons, List.length_cons, Nat.mul_succ, Nat.add_comm]
    refine Runs.bind (H 0 (by simp)) ?_
    dsimp only
    exact Runs.loop f q l (fun i => st (i + 1)) fun i hi => H (i + 1) (by simpa using hi)
theorem Runs.loopN {γ : Type} {b n : Nat} (f : γ → PUnit → Sem (ForInStep PUnit)) (q : Pos) (l : List γ) (st : Nat → Shared) (hn : l.length = n) (H : ∀ i (hi : i < l.length), Runs p w n₀ ann c (fr :: B) b (f l[i] ⟨⟩) (st i) q (.yield ⟨⟩) (st (i + 1)) q) :
    Runs p w n₀ ann c (fr :: B) (b * n) (forIn l PUnit.unit f) (st 0) q ⟨⟩ (st n) q := by
  subst hn
  exact Runs.loop f q l st H
end
end Mine
end
section
open PySem PySem.W PyProof.Rows
set_option maxRecDepth 100000
namespace Mine
section
variable {p : Program} {w : World} {n₀ : Nat} {ann : Option Value} {c : Code} {fr : Frame} {B : List Frame} {α β : Type} {s : Shared} {q : Pos} {d : Addr} {es : List DictEntry}

noncomputable def kSem (k : Int) : Sem Value := mkInt k
noncomputable def vSem (P : Pos) (x : Str) : Sem Value := do let y ← mkText x; standAt P; pure y
noncomputable def runOf (P : Pos) (l : List KV) : List (Sem Value × Sem Value) := l.map fun e => (kSem e.1, vSem P e.2)
/-- the entries of a long run, from a token on -/

theorem Runs.kSem {k : Int} : Runs p w n₀ ann c (fr :: B) 1 (kSem k) s q (.int k s.toks) { s with toks := s.toks + 1 } q :=
  Runs.bind (b := 1) (b' := 0) (Runs.fresh Runs.ret) Runs.ret
theorem Runs.vSem {P : Pos} {x : Str} : Runs p w n₀ ann c (fr :: B) 2 (vSem P x) s q (.str x s.toks) { s with toks := s.toks + 1 } P :=
  Runs.bind (b := 1) (b' := 1) (Runs.bind (b := 1) (b' := 0) (Runs.fresh Runs.ret) Runs.ret) (Runs.bind (b := 1) (b' := 0) (Runs.at Runs.ret) Runs.ret)

theorem entsL_hash {l : List KV} {tk : Nat} {e : DictEntry} (he : e ∈ entsL l tk) : ∃ x ∈ l, e.hash = x.1 := by
  unfold entsL at he
  rw [List.mem_iff_getElem?] at he
  obtain ⟨i, hi⟩ := he
  rw [List.getElem?_mapIdx] at hi
  obtain ⟨x, hx, rfl⟩ := Option.map_eq_some_iff.mp hi
  exact ⟨x, List.mem_of_getElem? hx, rfl⟩
theorem entsL_take (l : List KV) (tk i : Nat) : entsL (l.take i) tk = (entsL l tk).take i := by
  apply List.ext_getElem?
  intro j
  unfold entsL
  rw [List.getElem?_mapIdx, List.getElem?_take, List.getElem?_take, List.getElem?_mapIdx]
  split <;> rfl

noncomputable def Good (l : List KV) : Prop := l.Pairwise (fun a b => a.1 < b.1) ∧ ∀ x ∈ l, 0 ≤ x.1 ∧ x.1 < 1000000

/-- the long run makes one new dict -/
theorem Runs.subLong {h : Heap} {os : List Obj} {P : Pos} {l : List KV} (hl : 15 < l.length) (hl2 : l.length < 1000) (hg : Good l) (hs : s.heap = G h os) (hn : n₀ ≤ h.objs.size) :
    Runs p w n₀ ann c (fr :: B) (2 + 13 * l.length) (subDict (runOf P l)) s P (h.objs.size + os.length) { s with heap := G h (os ++ [dictO (entsL l s.toks)]), toks := s.toks + 3 * l.length } P := by
  unfold subDict
  refine (Runs.bind (b := 1) (b' := 1 + 13 * l.length) (a := h.objs.size + os.length) (s₁ := { s with heap := G h (os ++ [dictO []]) }) (q₁ := P) ?_ ?_).mono (by omega)
  · have e1 : s.heap.objs.size = h.objs.size + os.length := by rw [hs, G_size]
    have e2 : s.heap.push { cls := .type "dict", data := .dict #[] } = G h (os ++ [dictO []]) := by rw [hs, G_push]; rfl
    have := Runs.alloc (p := p) (w := w) (n₀ := n₀) (ann := ann) (c := c) (fr := fr) (B := B) (s := s) (q := P) (o := { cls := .type "dict", data := .dict #[] }) (k := Sem.pure) (Runs.ret)
    rw [e1, e2] at this
    exact this
  · refine Runs.bind (b := 1 + 13 * l.length) (b' := 0) (a := ()) (Runs.holding ?_) Runs.ret
    rw [if_neg (by simp [runOf]; omega)]
    refine Runs.bind (b := 1) (b' := 13 * l.length) (Runs.rule Runs.ret) ?_
    have hlen : (runOf P l).length = l.length := by simp [runOf]
    have e3 : (entsL l s.toks).take l.length = entsL l s.toks := List.take_of_length_le (by rw [entsL_length]; exact Nat.le_refl _)
    refine Runs.bind (b := 13 * l.length) (b' := 0) (a := ⟨⟩) (s₁ := { s with heap := G h (os ++ [dictO (entsL l s.toks)]), toks := s.toks + 3 * l.length }) (q₁ := P) ?_ Runs.ret
    have st := Runs.loopN (p := p) (w := w) (n₀ := n₀) (ann := ann) (c := c) (fr := fr) (B := B) (b := 13) (n := l.length)
      (fun (x : Sem Value × Sem Value) (_ : PUnit) => (match x with | (k, v) => (do let kv ← k; let vv ← PySem.holding [kv] v; PySem.holding [kv, vv] (dictSet (h.objs.size + os.length) kv vv); pure (ForInStep.yield PUnit.unit) : Sem (ForInStep PUnit)))) P (runOf P l)
      (fun i => { s with heap := G h (os ++ [dictO ((entsL l s.toks).take i)]), toks := s.toks + 3 * i }) hlen ?_
    · simp only [e3] at st
      exact st
    · intro i hi
      rw [hlen] at hi
      have hx : (runOf P l)[i] = (Mine.kSem l[i].1, Mine.vSem P l[i].2) := by simp [runOf]
      rw [hx]
      dsimp only
      refine Runs.bind (b := 1) (b' := 12) Runs.kSem ?_
      refine Runs.bind (b := 2) (b' := 10) (Runs.holding Runs.vSem) ?_
      refine Runs.bind (b := 10) (b' := 0) (a := ()) (Runs.holding ?_) Runs.ret
      have hk := hg.2 l[i] (List.getElem_mem hi)
      have st := Runs.setNew (p := p) (w := w) (n₀ := n₀) (ann := ann) (c := c) (fr := fr) (B := B) (q := P) (d := h.objs.size + os.length) (es := (entsL l s.toks).take i) (h := h) (os := os ++ [dictO ((entsL l s.toks).take i)]) (i := os.length) (k := l[i].1) (t := s.toks + 3 * i) (v := .str l[i].2 (s.toks + 3 * i + 1))
        (s := { s with heap := G h (os ++ [dictO ((entsL l s.toks).take i)]), toks := s.toks + 3 * i + 1 + 1 }) rfl rfl (by simp) (by rw [Nat.ble_eq]; omega) (by rw [List.length_take, entsL_length]; omega) ?_ hk.1 hk.2
      · have e4 : (os ++ [dictO ((entsL l s.toks).take i)]).set os.length (dictO ((entsL l s.toks).take i ++ [⟨l[i].1, .int l[i].1 (s.toks + 3 * i), .str l[i].2 (s.toks + 3 * i + 1)⟩])) = os ++ [dictO ((entsL l s.toks).take (i + 1))] := by
          rw [List.set_append_right _ _ (Nat.le_refl _), Nat.sub_self, List.set_cons_zero]
          congr 3
          rw [List.take_add_one]
          congr 1
          unfold entsL
          rw [List.getElem?_mapIdx, List.getElem?_eq_getElem hi]
          rfl
        rw [e4] at st
        exact st
      · intro e he
        rw [← entsL_take] at he
        obtain ⟨x, hx, e'⟩ := entsL_hash he
        rw [e']
        obtain ⟨j, hj, rfl⟩ := List.getElem_of_mem hx
        rw [List.length_take] at hj
        rw [List.getElem_take]
        have := List.pairwise_iff_getElem.mp hg.1 j i (by omega) hi (by omega)
        omega
end
end Mine
end
section
open PySem PySem.W PyProof.Rows
set_option maxRecDepth 100000
namespace Mine
section
variable {p : Program} {w : World} {n₀ : Nat} {ann : Option Value} {c : Code} {fr : Frame} {B : List Frame} {α β : Type} {s : Shared} {q : Pos} {d : Addr} {es : List DictEntry}

/-- the pairs of a short run, from a token on -/
theorem pairsS_length : ∀ (l : List KV) (tk : Nat), (pairsS l tk).length = l.length
  | [], _ => rfl
  | _ :: l, tk => congrArg (· + 1) (pairsS_length l (tk + 2))
theorem pairsS_get : ∀ (l : List KV) (tk i : Nat), (pairsS l tk)[i]? = l[i]?.map fun e => (.int e.1 (tk + 2 * i), .str e.2 (tk + 2 * i + 1))
  | [], _, _ => by simp [pairsS]
  | e :: l, tk, 0 => by simp [pairsS]
  | e :: l, tk, i + 1 => by
    simp only [pairsS, List.getElem?_cons_succ]
    rw [pairsS_get l (tk + 2) i, show tk + 2 + 2 * i = tk + 2 * (i + 1) by omega]

theorem Runs.evalPairs {P : Pos} : ∀ (l : List KV) (s : Shared), Runs p w n₀ ann c (fr :: B) (3 * l.length) (PySem.evalPairs (runOf P l)) s P (pairsS l s.toks) { s with toks := s.toks + 2 * l.length } P
  | [], s => Runs.ret
  | e :: l, s => by
    show Runs p w n₀ ann c (fr :: B) (3 * (l.length + 1)) (PySem.evalPairs ((Mine.kSem e.1, Mine.vSem P e.2) :: runOf P l)) s P _ _ P
    unfold PySem.evalPairs
    refine (Runs.bind (b := 1) (b' := 2 + 3 * l.length) Runs.kSem ?_).mono (by omega)
    refine Runs.bind (b := 2) (b' := 3 * l.length) (Runs.holding Runs.vSem) ?_
    have ih := Runs.evalPairs (P := P) l { s with toks := s.toks + 1 + 1 }
    refine Runs.bind (b := 3 * l.length) (b' := 0) (Runs.holding ih) ?_
    have e : s.toks + 1 + 1 + 2 * l.length = s.toks + 2 * (e :: l).length := by simp only [List.length_cons]; omega
    dsimp only
    rw [e]
    exact Runs.ret

theorem Runs.subShort {h : Heap} {os : List Obj} {P : Pos} {l : List KV} (hl : l.length ≤ 15) (hg : Good l) (hs : s.heap = G h os) (hn : n₀ ≤ h.objs.size) :
    Runs p w n₀ ann c (fr :: B) (2 + 13 * l.length) (subDict (runOf P l)) s P (h.objs.size + os.length) { s with heap := G h (os ++ [dictO (entsS l s.toks)]), toks := s.toks + 3 * l.length } P := by
  unfold subDict
  refine (Runs.bind (b := 1) (b' := 1 + 13 * l.length) (a := h.objs.size + os.length) (s₁ := { s with heap := G h (os ++ [dictO []]) }) (q₁ := P) ?_ ?_).mono (by omega)
  · have e1 : s.heap.objs.size = h.objs.size + os.length := by rw [hs, G_size]
    have e2 : s.heap.push { cls := .type "dict", data := .dict #[] } = G h (os ++ [dictO []]) := by rw [hs, G_push]; rfl
    have := Runs.alloc (p := p) (w := w) (n₀ := n₀) (ann := ann) (c := c) (fr := fr) (B := B) (s := s) (q := P) (o := { cls := .type "dict", data := .dict #[] }) (k := Sem.pure) (Runs.ret)
    rw [e1, e2] at this
    exact this
  · refine Runs.mono (b := 13 * l.length) ?_ (by omega)
    refine Runs.bind (b := 13 * l.length) (b' := 0) (a := ()) (Runs.holding ?_) Runs.ret
    have hlen : (runOf P l).length = l.length := by simp [runOf]
    rw [if_pos (by rw [hlen]; exact hl)]
    refine Runs.mono (b := 3 * l.length + 10 * l.length) ?_ (by omega)
    refine Runs.bind (b := 3 * l.length) (b' := 10 * l.length) (Runs.evalPairs l _) ?_
    refine Runs.holding (Runs.bind (b := 10 * l.length) (b' := 0) (a := ⟨⟩) (s₁ := { s with heap := G h (os ++ [dictO (entsS l s.toks)]), toks := s.toks + 3 * l.length }) (q₁ := P) ?_ Runs.ret)
    have e3 : (entsS l s.toks).take l.length = entsS l s.toks := List.take_of_length_le (by rw [entsS_length]; exact Nat.le_refl _)
    have st := Runs.loopN (p := p) (w := w) (n₀ := n₀) (ann := ann) (c := c) (fr := fr) (B := B) (b := 10) (n := l.length)
      (fun (x : Value × Value) (_ : PUnit) => (match x with | (k, v) => (do dictSet (h.objs.size + os.length) k v; pure (ForInStep.yield PUnit.unit) : Sem (ForInStep PUnit)))) P (pairsS l s.toks)
      (fun i => { s with heap := G h (os ++ [dictO ((entsS l s.toks).take i)]), toks := s.toks + 2 * l.length + i }) (pairsS_length _ _) ?_
    · simp only [e3] at st
      rw [show s.toks + 2 * l.length + l.length = s.toks + 3 * l.length by omega] at st
      exact st
    · intro i hi
      rw [pairsS_length] at hi
      have hx : (pairsS l s.toks)[i]'(by rw [pairsS_length]; exact hi) = (.int l[i].1 (s.toks + 2 * i), .str l[i].2 (s.toks + 2 * i + 1)) := by
        have := pairsS_get l s.toks i
        rw [List.getElem?_eq_getElem hi, List.getElem?_eq_getElem (by rw [pairsS_length]; exact hi)] at this
        exact Option.some.inj this
      rw [hx]
      dsimp only
      refine Runs.bind (b := 10) (b' := 0) (a := ()) ?_ Runs.ret
      have hk := hg.2 l[i] (List.getElem_mem hi)
      have st := Runs.setNew (p := p) (w := w) (n₀ := n₀) (ann := ann) (c := c) (fr := fr) (B := B) (q := P) (d := h.objs.size + os.length) (es := (entsS l s.toks).take i) (h := h) (os := os ++ [dictO ((entsS l s.toks).take i)]) (i := os.length) (k := l[i].1) (t := s.toks + 2 * i) (v := .str l[i].2 (s.toks + 2 * i + 1))
        (s := { s with heap := G h (os ++ [dictO ((entsS l s.toks).take i)]), toks := s.toks + 2 * l.length + i }) rfl rfl (by simp) (by rw [Nat.ble_eq]; omega) (by rw [List.length_take, entsS_length]; omega) ?_ hk.1 hk.2
      · have e4 : (os ++ [dictO ((entsS l s.toks).take i)]).set os.length (dictO ((entsS l s.toks).take i ++ [⟨l[i].1, .int l[i].1 (s.toks + 2 * i), .str l[i].2 (s.toks + 2 * i + 1)⟩])) = os ++ [dictO ((entsS l s.toks).take (i + 1))] := by
          rw [List.set_append_right _ _ (Nat.le_refl _), Nat.sub_self, List.set_cons_zero]
          congr 3
          rw [List.take_add_one]
          congr 1
          rw [entsS_get, List.getElem?_eq_getElem hi]
          rfl
        rw [e4] at st
        exact st
      · intro e he
        obtain ⟨j, hj, e'⟩ := List.getElem_of_mem he
        rw [List.length_take, entsS_length] at hj
        rw [List.getElem_take] at e'
        have := entsS_get l s.toks j
        rw [List.getElem?_eq_getElem (by rw [entsS_length]; omega), List.getElem?_eq_getElem (by omega)] at this
        have := Option.some.inj this
        rw [e'] at this
        rw [this]
        have := List.pairwise_iff_getElem.mp hg.1 j i (by omega) hi (by omega)
        dsimp only
        omega
end
end Mine
end
section
open PySem PySem.W PyProof.Rows
set_option maxRecDepth 100000
namespace Mine
section
variable {p : Program} {w : World} {n₀ : Nat} {ann : Option Value} {c : Code} {fr : Frame} {B : List Frame} {α β : Type} {s : Shared} {q : Pos} {d : Addr} {es : List DictEntry}

theorem Runs.eqs {b : Nat} {x : Sem α} {s s₁ s' s₁' : Shared} {q q' : Pos} {a : α} (h : Runs p w n₀ ann c B b x s₁ q a s₁' q') (e : s = s₁) (e' : s' = s₁') : Runs p w n₀ ann c B b x s q a s' q' := by
  subst e e'
  exact h
theorem sub_dict : isSubtype (.type "dict") (.type "dict") = pure true := by rw [isSubtype_type]; kernel_rfl
theorem iter_dict : typeLookup (.type "dict") "__iter__" = pure (some (.builtin "dict.__iter__")) := by rw [typeLookup_type, builtinLookup_eq_fast]; kernel_rfl

theorem Runs.typeDict (hd : s.heap.get? d = some (dictO es)) : Runs p w n₀ ann c (fr :: B) 1 (typeOf (.ref d)) s q (.type "dict") s q :=
  Runs.bind (b := 1) (b' := 0) (Runs.load hd Runs.ret) Runs.ret

theorem Runs.merge {h : Heap} {os : List Obj} {j : Nat} {m cs : List DictEntry} (hs : s.heap = G h os) (h0 : os[0]? = some (dictO m)) (hj : os[j]? = some (dictO cs)) (hj0 : j ≠ 0) (hm : m ≠ []) (hn : n₀ ≤ h.objs.size) (hn2 : 2 ≤ h.objs.size)
    (hc : ∀ e ∈ cs, ∃ t, e.key = .int e.hash t) (hp : (m ++ cs).Pairwise (fun a b => a.hash < b.hash)) (hl : m.length + cs.length < 90000) :
    Runs p w n₀ ann c (fr :: B) (10 + 8 * cs.length) (mergeMapping (h.objs.size + 0) (.ref (h.objs.size + j)) false) s q () { s with heap := G h (os.set 0 (dictO (m ++ cs))) } q := by
  have hgd : s.heap.get? (h.objs.size + 0) = some (dictO m) := by rw [hs]; exact G_get h os 0 m h0
  have hga : s.heap.get? (h.objs.size + j) = some (dictO cs) := by rw [hs]; exact G_get h os j cs hj
  unfold mergeMapping
  refine Runs.mono (b := 1 + (1 + (0 + (3 + 8 * cs.length)))) ?_ (by omega)
  refine Runs.bind (b := 1) (b' := 1 + (0 + (3 + 8 * cs.length))) (a := true) (s₁ := s) (q₁ := q) ?_ ?_
  · unfold isInstance
    refine Runs.bind (b := 1) (b' := 0) (Runs.typeDict hga) ?_
    rw [sub_dict]
    exact Runs.ret
  rw [if_pos rfl]
  refine Runs.bind (b := 1) (b' := 0 + (3 + 8 * cs.length)) (a := some (.builtin "dict.__iter__")) (s₁ := s) (q₁ := q) ?_ ?_
  · unfold specialOf
    refine Runs.bind (b := 1) (b' := 0) (Runs.typeDict hga) ?_
    rw [iter_dict]
    exact Runs.ret
  have hb : ((some (Value.builtin "dict.__iter__") == some (Value.builtin "dict.__iter__")) = true) := by decide +kernel
  rw [hb]
  refine Runs.bind (b := 0) (b' := 3 + 8 * cs.length) Runs.ret ?_
  dsimp only
  have hne1 : ¬ ((h.objs.size + j == sysModules) = true) := by
    rw [beq_iff_eq]
    unfold sysModules
    exact fun e => by
      have : h.objs.size + j = (1 : Nat) := e
      omega
  rw [if_neg hne1]
  refine Runs.mono (b := 1 + (1 + (1 + 8 * cs.length))) ?_ (by omega)
  refine Runs.bind (b := 1) (b' := 1 + (1 + 8 * cs.length)) (Runs.entries hgd) ?_
  rw [if_neg (by simpa using hm)]
  refine Runs.bind (b := 1) (b' := 1 + 8 * cs.length) (Runs.entries hga) ?_
  refine Runs.bind (b := 1) (b' := 8 * cs.length) (Runs.epoch hga) ?_
  refine Runs.bind (b := 8 * cs.length) (b' := 0) (a := ⟨⟩) (s₁ := { s with heap := G h (os.set 0 (dictO (m ++ cs))) }) (q₁ := q) ?_ Runs.ret
  have hlt : 0 < os.length := by
    rcases Nat.lt_or_ge 0 os.length with q | q
    · exact q
    · rw [List.getElem?_eq_none q] at h0; cases h0
  have e1 : os.set 0 (dictO (m ++ cs.take 0)) = os := by
    rw [List.take_zero, List.append_nil]
    apply List.ext_getElem?
    intro i
    rw [List.getElem?_set]
    by_cases hi : 0 = i
    · subst hi; rw [h0, if_pos rfl, if_pos hlt]
    · simp [hi]
  refine Runs.eqs (Runs.loopN (p := p) (w := w) (n₀ := n₀) (ann := ann) (c := c) (fr := fr) (B := B) (b := 8) (n := cs.length) _ q (List.range cs.toArray.size)
      (fun i => { s with heap := G h (os.set 0 (dictO (m ++ cs.take i))) }) (by simp) ?_) ?_ ?_
  · intro i hi
    have hi' : i < cs.length := by simpa using hi
    rw [List.getElem_range]
    have hga' : (G h (os.set 0 (dictO (m ++ cs.take i)))).get? (h.objs.size + j) = some (dictO cs) := G_get _ _ _ _ (by rw [List.getElem?_set]; simp [Ne.symm hj0, hj])
    refine Runs.bind (b := 1) (b' := 7) (Runs.entries (s := { s with heap := G h (os.set 0 (dictO (m ++ cs.take i))) }) hga') ?_
    have hx : cs.toArray[i]? = some cs[i] := by simp [hi']
    rw [hx]
    dsimp only
    obtain ⟨t, ht⟩ := hc cs[i] (List.getElem_mem hi')
    refine Runs.mono (b := 4 + (1 + 0)) ?_ (by omega)
    refine Runs.bind (b := 4) (b' := 1 + 0) (a := ()) (s₁ := { s with heap := G h (os.set 0 (dictO (m ++ cs.take (i + 1)))) }) (q₁ := q) (Runs.holding ?_) ?_
    · rw [if_neg (by decide)]
      have st := Runs.putNew (p := p) (w := w) (n₀ := n₀) (ann := ann) (c := c) (fr := fr) (B := B) (q := q) (d := h.objs.size + 0) (es := m ++ cs.take i) (h := h) (os := os.set 0 (dictO (m ++ cs.take i))) (i := 0) (k := cs[i].hash) (t := t) (v := cs[i].val)
        (s := { s with heap := G h (os.set 0 (dictO (m ++ cs.take i))) }) rfl rfl (by rw [List.getElem?_set]; simp [hlt]) (by rw [Nat.ble_eq]; omega) (by rw [List.length_append, List.length_take]; omega) ?_
      · have e4 : (os.set 0 (dictO (m ++ cs.take i))).set 0 (dictO (m ++ cs.take i ++ [⟨cs[i].hash, .int cs[i].hash t, cs[i].val⟩])) = os.set 0 (dictO (m ++ cs.take (i + 1))) := by
          rw [List.set_set, List.append_assoc]
          congr 3
          rw [List.take_add_one, List.getElem?_eq_getElem hi', ← ht]
          rfl
        rw [e4] at st
        rw [ht]
        exact st
      · intro e he
        have hp' := hp
        rw [List.pairwise_append] at hp'
        rcases List.mem_append.mp he with he | he
        · have := hp'.2.2 e he cs[i] (List.getElem_mem hi')
          omega
        · obtain ⟨k, hk, rfl⟩ := List.getElem_of_mem he
          rw [List.length_take] at hk
          rw [List.getElem_take]
          have := List.pairwise_iff_getElem.mp hp'.2.1 k i (by omega) hi' (by omega)
          omega
    · have hga2 : (G h (os.set 0 (dictO (m ++ cs.take (i + 1))))).get? (h.objs.size + j) = some (dictO cs) := G_get _ _ _ _ (by rw [List.getElem?_set]; simp [Ne.symm hj0, hj])
      refine Runs.bind (b := 1) (b' := 0) (Runs.epoch (s := { s with heap := G h (os.set 0 (dictO (m ++ cs.take (i + 1)))) }) hga2) ?_
      rw [if_neg (by simp)]
      exact Runs.ret
  · rw [e1, ← hs]
  · rw [List.take_length]
end
end Mine
end
section
open PySem PySem.W PyProof.Rows
set_option maxRecDepth 100000
namespace Mine
noncomputable def itemsOf (P : Pos) (l : List KV) : List (Option (Sem Value) × Sem Value) := l.map fun e => (some (kSem e.1), vSem P e.2)
noncomputable abbrev Run := List (Sem Value × Sem Value)
noncomputable def flushF (run : Run) (main : Option Addr) : Sem (Option Addr) :=
  if run.isEmpty = true then pure main
  else match main with
    | none => do
      let d ← subDict run
      pure (some d)
    | some d => do
      let sub ← holding [Value.ref d] (subDict run)
      (holding [Value.ref d, Value.ref sub] (mergeMapping d (Value.ref sub) false)).onRaise fun x => do
        let _ ← holding [Value.ref d, x] (runValue (Code.builtin "proto.let_go" { }))
        pure ()
      pure (some d)
noncomputable abbrev BodyF := Option (Sem Value) × Sem Value → Option Addr × Run → Sem (ForInStep (Option Addr × Run))
noncomputable def IsBody (F : BodyF) : Prop := ∀ k v main run, F (some k, v) (main, run) =
  if ((run ++ [(k, v)]).length == 17) = true then (do let m ← flushF (run ++ [(k, v)]) main; pure (ForInStep.yield (m, []))) else pure (ForInStep.yield (main, run ++ [(k, v)]))
noncomputable def lastF (st : Option Addr × Run) : Sem Value := do
  match ← flushF st.2 st.1 with
  | some d => pure (Value.ref d)
  | none => newDict
theorem display_eq (items : List (Option (Sem Value) × Sem Value)) : ∃ F : BodyF, IsBody F ∧ dictDisplay items = (do let st ← forIn items (none, []) F; lastF st) :=
  ⟨_, fun _ _ _ _ => rfl, rfl⟩

theorem runOf_app (P : Pos) (a b : List KV) : runOf P (a ++ b) = runOf P a ++ runOf P b := by simp [runOf]
theorem forIn_chunk {F : BodyF} (hF : IsBody F) (P : Pos) (rest : List (Option (Sem Value) × Sem Value)) (main : Option Addr) : ∀ (l r : List KV), l ≠ [] → r.length + l.length = 17 →
    forIn (itemsOf P l ++ rest) (main, runOf P r) F = (do let m ← flushF (runOf P (r ++ l)) main; forIn rest (m, []) F)
  | [], _, h, _ => absurd rfl h
  | e :: l, r, _, hl => by
    show forIn ((some (kSem e.1), vSem P e.2) :: (itemsOf P l ++ rest)) (main, runOf P r) F = _
    rw [List.forIn_cons, hF]
    have e1 : runOf P r ++ [(kSem e.1, vSem P e.2)] = runOf P (r ++ [e]) := by rw [runOf_app]; rfl
    rw [e1]
    have hlen : (runOf P (r ++ [e])).length = r.length + 1 := by simp [runOf]
    cases l with
    | nil =>
      rw [if_pos (by rw [hlen]; simp at hl ⊢; omega)]
      show (flushF (runOf P (r ++ [e])) main >>= fun m => (pure (ForInStep.yield (m, [])) : Sem _)) >>= _ = _
      rw [Sem.bind_eq_wrap', Sem.bind_eq_wrap', Sem.bind_eq_wrap', Sem.wrap_wrap]
      rfl
    | cons e' l =>
      rw [if_neg (by rw [hlen]; simp at hl ⊢; omega)]
      have ih := forIn_chunk hF P rest main (e' :: l) (r ++ [e]) (by simp) (by simp at hl ⊢; omega)
      rw [List.append_assoc] at ih
      exact ih
theorem forIn_tail {F : BodyF} (hF : IsBody F) (P : Pos) (main : Option Addr) : ∀ (l r : List KV), r.length + l.length < 17 →
    forIn (itemsOf P l) (main, runOf P r) F = pure (main, runOf P (r ++ l))
  | [], r, _ => by
    show forIn [] (main, runOf P r) F = _
    rw [List.forIn_nil, List.append_nil]
  | e :: l, r, hl => by
    show forIn ((some (kSem e.1), vSem P e.2) :: itemsOf P l) (main, runOf P r) F = _
    rw [List.forIn_cons, hF]
    have e1 : runOf P r ++ [(kSem e.1, vSem P e.2)] = runOf P (r ++ [e]) := by rw [runOf_app]; rfl
    have hlen : (runOf P (r ++ [e])).length = r.length + 1 := by simp [runOf]
    rw [e1, if_neg (by rw [hlen]; simp at hl ⊢; omega)]
    have ih := forIn_tail hF P main l (r ++ [e]) (by simp at hl ⊢; omega)
    rw [List.append_assoc] at ih
    exact ih

theorem ents_hash (l : List KV) (tk : Nat) : (ents l tk).map (·.hash) = l.map (·.1) := by
  apply List.ext_getElem?
  intro i
  obtain ⟨a, b, e⟩ := ents_get l tk i
  rw [List.getElem?_map, List.getElem?_map, e, Option.map_map]
  rfl
theorem ents_key (l : List KV) (tk : Nat) : ∀ e ∈ ents l tk, ∃ t, e.key = .int e.hash t := by
  intro e he
  obtain ⟨i, hi⟩ := List.mem_iff_getElem?.mp he
  obtain ⟨a, b, q⟩ := ents_get l tk i
  rw [hi] at q
  obtain ⟨x, _, rfl⟩ := Option.map_eq_some_iff.mp q.symm
  exact ⟨a, rfl⟩

section
variable {p : Program} {w : World} {n₀ : Nat} {ann : Option Value} {c : Code} {fr : Frame} {B : List Frame} {α β : Type} {s : Shared} {q : Pos} {d : Addr} {es : List DictEntry}

theorem Runs.sub {h : Heap} {os : List Obj} {P : Pos} {l : List KV} (hl2 : l.length < 1000) (hg : Good l) (hs : s.heap = G h os) (hn : n₀ ≤ h.objs.size) :
    Runs p w n₀ ann c (fr :: B) (2 + 13 * l.length) (subDict (runOf P l)) s P (h.objs.size + os.length) { s with heap := G h (os ++ [dictO (ents l s.toks)]), toks := s.toks + 3 * l.length } P := by
  unfold ents
  split
  · rename_i hl; exact Runs.subLong hl hl2 hg hs hn
  · rename_i hl; exact Runs.subShort (by omega) hg hs hn

theorem Runs.flush0 {h : Heap} {P : Pos} {l : List KV} (hl : l ≠ []) (hl2 : l.length < 1000) (hg : Good l) (hs : s.heap = G h []) (hn : n₀ ≤ h.objs.size) :
    Runs p w n₀ ann c (fr :: B) (14 + 21 * l.length) (flushF (runOf P l) none) s P (some h.objs.size) { s with heap := G h [dictO (ents l s.toks)], toks := s.toks + 3 * l.length } P := by
  unfold flushF
  rw [if_neg (by cases l <;> simp [runOf] at hl ⊢)]
  refine Runs.mono (b := (2 + 13 * l.length) + 0) ?_ (by omega)
  have := Runs.sub (p := p) (w := w) (n₀ := n₀) (ann := ann) (c := c) (fr := fr) (B := B) (P := P) hl2 hg hs hn
  exact Runs.bind this Runs.ret

theorem Runs.flush1 {h : Heap} {P : Pos} {l : List KV} {m : List DictEntry} {S : List Obj} (hl : l ≠ []) (hl2 : l.length < 1000) (hg : Good l) (hs : s.heap = G h (dictO m :: S)) (hn : n₀ ≤ h.objs.size) (hn2 : 2 ≤ h.objs.size) (hm : m ≠ [])
    (hp : (m.map (·.hash) ++ l.map (·.1)).Pairwise (· < ·)) (hml : m.length < 80000) :
    Runs p w n₀ ann c (fr :: B) (14 + 21 * l.length) (flushF (runOf P l) (some h.objs.size)) s P (some h.objs.size) { s with heap := G h (dictO (m ++ ents l s.toks) :: (S ++ [dictO (ents l s.toks)])), toks := s.toks + 3 * l.length } P := by
  unfold flushF
  rw [if_neg (by cases l <;> simp [runOf] at hl ⊢)]
  dsimp only
  refine Runs.mono (b := (2 + 13 * l.length) + ((10 + 8 * l.length) + 0)) ?_ (by omega)
  have h1 := Runs.sub (p := p) (w := w) (n₀ := n₀) (ann := ann) (c := c) (fr := fr) (B := B) (P := P) hl2 hg hs hn
  refine Runs.bind (Runs.holding h1) ?_
  have h2 := Runs.merge (p := p) (w := w) (n₀ := n₀) (ann := ann) (c := c) (fr := fr) (B := B) (q := P) (h := h) (os := dictO m :: S ++ [dictO (ents l s.toks)]) (j := (dictO m :: S).length) (m := m) (cs := ents l s.toks)
    (s := { s with heap := G h (dictO m :: S ++ [dictO (ents l s.toks)]), toks := s.toks + 3 * l.length }) rfl rfl (by rw [List.getElem?_append_right (Nat.le_refl _)]; simp) (by simp) hm hn hn2 (ents_key _ _) ?_ (by rw [ents_length]; omega)
  · rw [ents_length] at h2
    exact Runs.bind (Runs.onRaise (Runs.holding h2)) Runs.ret
  · have : ((m ++ ents l s.toks).map (·.hash)).Pairwise (· < ·) := by rw [List.map_append, ents_hash]; exact hp
    exact List.pairwise_map.mp this


theorem Runs.chunks {F : BodyF} (hF : IsBody F) {h : Heap} {P : Pos} (hn : n₀ ≤ h.objs.size) (hn2 : 2 ≤ h.objs.size) {last : List KV} (hlast : last.length < 17) : ∀ (cs : List (List KV)) (m : List DictEntry) (S : List Obj) (s : Shared), (∀ c ∈ cs, c.length = 17) → s.heap = G h (dictO m :: S) → m ≠ [] →
    (m.map (·.hash) ++ (cs.flatten).map (·.1)).Pairwise (· < ·) → (∀ c ∈ cs, ∀ x ∈ c, 0 ≤ x.1 ∧ x.1 < 1000000) → m.length + cs.flatten.length < 80000 →
    Runs p w n₀ ann c (fr :: B) (dispB cs) (forIn (itemsOf P (cs.flatten ++ last)) (some h.objs.size, []) F) s P (some h.objs.size, runOf P last) { s with heap := G h (dictO (m ++ dispM cs s.toks) :: (S ++ dispS cs s.toks)), toks := s.toks + dispT cs } P
  | [], m, S, s, _, hs, _, _, _, _ => by
    have := forIn_tail hF P (some h.objs.size) last [] (by simpa using hlast)
    rw [List.flatten_nil, List.nil_append]
    show Runs p w n₀ ann c (fr :: B) 0 (forIn (itemsOf P last) (some h.objs.size, runOf P []) F) s P _ _ P
    rw [this]
    simp only [dispM, dispS, dispT, List.append_nil, Nat.add_zero, List.nil_append]
    rw [← hs]
    exact Runs.ret
  | l :: cs, m, S, s, h17, hs, hm, hp, hr, hlen => by
    have hl17 := h17 l (by simp)
    have hl : l ≠ [] := by intro e; subst e; simp at hl17
    have e0 : itemsOf P ((l :: cs).flatten ++ last) = itemsOf P l ++ itemsOf P (cs.flatten ++ last) := by simp [itemsOf]
    have := forIn_chunk hF P (itemsOf P (cs.flatten ++ last)) (some h.objs.size) l [] hl (by simpa using hl17)
    rw [e0]
    show Runs p w n₀ ann c (fr :: B) (dispB (l :: cs)) (forIn (itemsOf P l ++ itemsOf P (cs.flatten ++ last)) (some h.objs.size, runOf P []) F) s P _ _ P
    rw [this, List.nil_append]
    rw [List.flatten_cons, List.map_append, ← List.append_assoc] at hp
    have hp1 := (List.pairwise_append.mp hp).1
    have hg : Good l := ⟨List.pairwise_map.mp (List.pairwise_append.mp hp1).2.1, hr l (by simp)⟩
    rw [List.flatten_cons, List.length_append] at hlen
    have r1 := Runs.flush1 (p := p) (w := w) (n₀ := n₀) (ann := ann) (c := c) (fr := fr) (B := B) (P := P) hl (by omega) hg hs hn hn2 hm hp1 (by omega)
    refine Runs.bind r1 ?_
    have r2 := Runs.chunks hF (P := P) hn hn2 hlast cs (m ++ ents l s.toks) (S ++ [dictO (ents l s.toks)]) { s with heap := G h (dictO (m ++ ents l s.toks) :: (S ++ [dictO (ents l s.toks)])), toks := s.toks + 3 * l.length }
      (fun c hc => h17 c (by simp [hc])) rfl (by simp [hm]) (by rw [List.map_append, ents_hash]; exact hp) (fun c hc => hr c (by simp [hc])) (by rw [List.length_append, ents_length]; omega)
    simp only [dispM, dispS, dispT, List.append_assoc, List.cons_append, List.nil_append, Nat.add_assoc] at r2 ⊢
    exact r2

/-- the display of one chunk, chunks of seventeen and a short rest -/
theorem Runs.display {h : Heap} {P : Pos} (hs : s.heap = G h []) (hn : n₀ ≤ h.objs.size) (hn2 : 2 ≤ h.objs.size) (c₀ : List KV) (cs : List (List KV)) (last : List KV) (h0 : c₀.length = 17) (h17 : ∀ c ∈ cs, c.length = 17) (hl : last ≠ []) (hlast : last.length < 17)
    (hp : ((c₀ ++ (cs.flatten ++ last)).map (·.1)).Pairwise (· < ·)) (hr : ∀ x ∈ c₀ ++ (cs.flatten ++ last), 0 ≤ x.1 ∧ x.1 < 1000000) (hlen : (c₀ ++ (cs.flatten ++ last)).length < 10000) :
    Runs p w n₀ ann c (fr :: B) (dispB (c₀ :: cs) + dispB [last]) (dictDisplay (itemsOf P (c₀ ++ (cs.flatten ++ last)))) s P (.ref h.objs.size)
      { s with heap := G h (dictO (dispM (c₀ :: (cs ++ [last])) s.toks) :: dispS (cs ++ [last]) (s.toks + 51)), toks := s.toks + dispT (c₀ :: (cs ++ [last])) } P := by
  obtain ⟨F, hF, e⟩ := display_eq (itemsOf P (c₀ ++ (cs.flatten ++ last)))
  rw [e]
  have e0 : itemsOf P (c₀ ++ (cs.flatten ++ last)) = itemsOf P c₀ ++ itemsOf P (cs.flatten ++ last) := by simp [itemsOf]
  have hc0 : c₀ ≠ [] := by intro e; subst e; simp at h0
  have ch := forIn_chunk hF P (itemsOf P (cs.flatten ++ last)) none c₀ [] hc0 (by simpa using h0)
  rw [e0, show (none, ([] : Run)) = ((none : Option Addr), runOf P []) from rfl, ch, List.nil_append]
  have hp' := hp
  rw [List.map_append] at hp'
  have hp1 := List.pairwise_append.mp hp'
  have hg0 : Good c₀ := ⟨List.pairwise_map.mp hp1.1, fun x hx => hr x (by simp [hx])⟩
  have hpl : (last.map (·.1)).Pairwise (· < ·) := by
    have := hp1.2.1
    rw [List.map_append] at this
    exact (List.pairwise_append.mp this).2.1
  have hgl : Good last := ⟨List.pairwise_map.mp hpl, fun x hx => hr x (by simp [hx])⟩
  simp only [List.length_append] at hlen
  have r0 := Runs.flush0 (p := p) (w := w) (n₀ := n₀) (ann := ann) (c := c) (fr := fr) (B := B) (P := P) hc0 (by omega) hg0 hs hn
  have r1 := Runs.chunks (p := p) (w := w) (n₀ := n₀) (ann := ann) (c := c) (fr := fr) (B := B) (P := P) hF hn hn2 hlast cs (ents c₀ s.toks) [] { s with heap := G h [dictO (ents c₀ s.toks)], toks := s.toks + 3 * c₀.length } h17 rfl
    (by intro e; have := congrArg List.length e; rw [ents_length] at this; simp [h0] at this)
    (by
      rw [ents_hash]
      rw [List.map_append, ← List.append_assoc] at hp'
      exact (List.pairwise_append.mp hp').1)
    (fun c hc x hx => hr x (by simp only [List.mem_append, List.mem_flatten]; exact .inr (.inl ⟨c, hc, hx⟩))) (by rw [ents_length]; omega)
  have hdl : ∀ (cs : List (List KV)) (tk : Nat), (dispM cs tk).length = cs.flatten.length := by
    intro cs
    induction cs with
    | nil => intro _; rfl
    | cons c cs ih => intro tk; simp only [dispM, List.length_append, ents_length, ih, List.flatten_cons]
  have hdh : ∀ (cs : List (List KV)) (tk : Nat), (dispM cs tk).map (·.hash) = cs.flatten.map (·.1) := by
    intro cs
    induction cs with
    | nil => intro _; rfl
    | cons c cs ih => intro tk; simp only [dispM, List.map_append, ents_hash, ih, List.flatten_cons]
  have r2 := Runs.flush1 (p := p) (w := w) (n₀ := n₀) (ann := ann) (c := c) (fr := fr) (B := B) (P := P) (l := last) (m := ents c₀ s.toks ++ dispM cs (s.toks + 3 * c₀.length)) (S := dispS cs (s.toks + 3 * c₀.length))
    (s := { s with heap := G h (dictO (ents c₀ s.toks ++ dispM cs (s.toks + 3 * c₀.length)) :: ([] ++ dispS cs (s.toks + 3 * c₀.length))), toks := s.toks + 3 * c₀.length + dispT cs }) hl (by omega) hgl rfl hn hn2
    (by intro e; have := congrArg List.length e; rw [List.length_append, ents_length, List.length_nil] at this; omega)
    (by
      rw [List.map_append, ents_hash, hdh]
      rw [List.map_append, ← List.append_assoc] at hp'
      exact hp')
    (by rw [List.length_append, ents_length, hdl]; omega)
  have z1 : ∀ (cs : List (List KV)) (tk : Nat), dispM (cs ++ [last]) tk = dispM cs tk ++ ents last (tk + dispT cs) := by
    intro cs
    induction cs with
    | nil => intro tk; simp [dispM, dispT]
    | cons c cs ih => intro tk; simp only [List.cons_append, dispM, dispT, ih, List.append_assoc, Nat.add_assoc]
  have z2 : ∀ (cs : List (List KV)) (tk : Nat), dispS (cs ++ [last]) tk = dispS cs tk ++ [dictO (ents last (tk + dispT cs))] := by
    intro cs
    induction cs with
    | nil => intro tk; simp [dispS, dispT]
    | cons c cs ih => intro tk; simp only [List.cons_append, dispS, dispT, ih, List.cons_append, Nat.add_assoc]
  have z3 : ∀ cs : List (List KV), dispT (cs ++ [last]) = dispT cs + 3 * last.length := by
    intro cs
    induction cs with
    | nil => simp [dispT]
    | cons c cs ih => simp only [List.cons_append, dispT, ih]; omega
  have fin : Runs p w n₀ ann c (fr :: B) ((14 + 21 * c₀.length + dispB cs) + (14 + 21 * last.length + 0))
      ((flushF (runOf P c₀) none >>= fun m => forIn (itemsOf P (cs.flatten ++ last)) (m, []) F) >>= lastF) s P (.ref h.objs.size) _ P :=
    Runs.bind (Runs.bind r0 r1) (Runs.bind r2 Runs.ret)
  refine Runs.eqs (Runs.mono fin ?_) rfl ?_
  · simp only [dispB]; omega
  · simp only [dispM, dispT, z1, z2, z3, h0, List.nil_append, List.append_assoc, Nat.add_assoc]
end
end Mine
end
section
open PySem PySem.W PyProof.Rows
set_option maxRecDepth 100000
namespace Mine
noncomputable def envT : Env := { scope := pw.main.scope, locals := mainNs, globals := mainNs, cells := [], code := .ref 13, frame := some 14 }
noncomputable def cT : Code := .body bodyT envT
noncomputable abbrev q0 : Pos := ⟨0, 0, 0, 0⟩
noncomputable abbrev annT : Option Value := some (.ref 6)
noncomputable abbrev lifeT (P : Params) : Life := (boot_heap P).life
noncomputable abbrev shT (l : Params → List Obj) (tk : Nat) (w : World) (os : OsState) : Shared := ⟨⟨⟨l w.params⟩, lifeT w.params⟩, #[], boot_drawn, tk, os⟩

theorem pre_T (w : World) (os : OsState) : Fast.tw15667345088766844465 Fast.tw14364793385576792824 pw w 11 annT 12 ⟨boot_heap w.params, #[], boot_drawn, boot_toks, os⟩ (topStub pw) =
   some (shT l_A 187 w os, ⟨Fast.tw11892475500146522536 Fast.tw14364793385576792824 cT, cT, q0, [topFrame q0]⟩) := by kernel_rfl
theorem block_T (w : World) (os : OsState) : Fast.tw14374325043358763698 Fast.tw14364793385576792824 pw w 11 annT 1 1 (shT l_A 187 w os) (blockOf bodyT envT cT q0 [topFrame q0]) =
   some (.next, shT l_A 187 w os, cT, q0) := by kernel_rfl
noncomputable def stsA : List Stmt := bodyT.take 8
theorem a_T (w : World) (os : OsState) : Fast.tw14374325043358763698 Fast.tw14364793385576792824 pw w 11 annT 1 188 (shT l_A 187 w os) ⟨(Fast.tw12563942051412417395 stsA envT).wrap doneF deadEnd id id, cT, q0, [topFrame q0]⟩ =
   some (.next, shT l_7 258 w os, cT, ⟨95, 0, 95, 8⟩) := by kernel_rfl
noncomputable def SetT (b b' : Bool) : Prop := ∀ (w : World) (os : OsState), Fast.tw14374325043358763698 Fast.tw14364793385576792824 pw ((w.withFollow "set-order" b).withFollow "special-get-raises" b') 11 annT 1 999 (shT l_7 258 ((w.withFollow "set-order" b).withFollow "special-get-raises" b') os) ⟨(Fast.tw12563942051412417395 [stOf 8] envT).wrap doneF deadEnd id id, cT, ⟨95, 0, 95, 8⟩, [topFrame q0]⟩ =
   some (.next, shT l_8 318 ((w.withFollow "set-order" b).withFollow "special-get-raises" b') os, cT, ⟨96, 0, 96, 6⟩)
theorem set_tt : SetT true true := by intro w os; kernel_rfl
theorem set_tf : SetT true false := by intro w os; kernel_rfl
theorem set_ft : SetT false true := by intro w os; kernel_rfl
theorem set_ff : SetT false false := by intro w os; kernel_rfl
theorem set_T (b b' : Bool) (w : World) (os : OsState) : Fast.tw14374325043358763698 Fast.tw14364793385576792824 pw ((w.withFollow "set-order" b).withFollow "special-get-raises" b') 11 annT 1 999 (shT l_7 258 ((w.withFollow "set-order" b).withFollow "special-get-raises" b') os) ⟨(Fast.tw12563942051412417395 [stOf 8] envT).wrap doneF deadEnd id id, cT, ⟨95, 0, 95, 8⟩, [topFrame q0]⟩ =
   some (.next, shT l_8 318 ((w.withFollow "set-order" b).withFollow "special-get-raises" b') os, cT, ⟨96, 0, 96, 6⟩) := by
  cases b <;> cases b'
  · exact set_ff w os
  · exact set_ft w os
  · exact set_tf w os
  · exact set_tt w os
theorem b_T (w : World) (os : OsState) : Fast.tw14374325043358763698 Fast.tw14364793385576792824 pw w 11 annT 1 30 (shT l_8 318 w os) ⟨(Fast.tw12563942051412417395 [stOf 9] envT).wrap doneF deadEnd id id, cT, ⟨96, 0, 96, 6⟩, [topFrame q0]⟩ =
   some (.next, shT l_9 325 w os, cT, ⟨97, 0, 98, 30⟩) := by kernel_rfl
end Mine
end
section
open PySem PySem.W PyProof.Rows
set_option maxRecDepth 100000
namespace Mine
noncomputable def stsC : List Stmt := bodyT.drop 11
theorem c_T (w : World) (os : OsState) : Fast.tw14374325043358763698 Fast.tw14364793385576792824 pw w 11 annT 1 304 (shT l_10 2276 w os) ⟨(Fast.tw12563942051412417395 stsC envT).wrap doneF deadEnd id id, cT, ⟨99, 0, 99, 13⟩, [topFrame q0]⟩ =
   some (.next, shT l_20 2378 w os, cT, ⟨212, 0, 228, 15⟩) := by kernel_rfl
theorem fin_T (w : World) (os : OsState) : topRun treeTable pw w 11 annT 2 (shT l_20 2378 w os) ⟨doneF .next, cT, ⟨212, 0, 228, 15⟩, [topFrame q0]⟩ = some (shT l_20 2378 w os) := by kernel_rfl
end Mine
end
section
open PySem PySem.W PyProof.Rows
set_option maxRecDepth 100000
namespace Mine
theorem exec_dict (ks : List (Option Expr)) (vs : List Expr) (nm : Str) (npos dpos pos : Pos) (env : Env) :
    exec (.Assign [.Name nm npos] (.Dict ks vs dpos) pos) env = (do
      standAt pos
      let v ← (do standAt dpos; dictDisplay ((evalEachOpt ks env).zip ((evalEach vs env).map fun v => do let x ← v; standAt dpos; pure x)))
      assign (.Name nm npos) env v
      pure .next) := by
  rfl
theorem items_eq (env : Env) (dpos : Pos) (ks : List (Option Expr)) : ∀ (vs : List Expr) (l : List KV), kvOf ks vs = some l → (evalEachOpt ks env).zip ((evalEach vs env).map fun v => do let x ← v; standAt dpos; pure x) = itemsOf dpos l := by
  induction ks with
  | nil =>
    intro vs l h
    unfold kvOf at h
    split at h
    · cases h; rfl
    · contradiction
    · cases h
  | cons k ks ih =>
    intro vs l h
    unfold kvOf at h
    split at h
    · rename_i e; cases e
    · rename_i k' a b ks' x a' b' vs' e
      cases e
      obtain ⟨l', h1, rfl⟩ := Option.map_eq_some_iff.mp h
      exact congrArg (fun t => (some (kSem k'), vSem dpos x) :: t) (ih vs' l' h1)
    · cases h

noncomputable def sortedK : List KV → Bool
  | [] => true
  | [_] => true
  | a :: b :: l => decide (a.1 < b.1) && sortedK (b :: l)
theorem sortedK_pw : ∀ l : List KV, sortedK l = true → (l.map (·.1)).Pairwise (· < ·)
  | [], _ => .nil
  | [a], _ => by simp
  | a :: b :: l, h => by
    unfold sortedK at h
    rw [Bool.and_eq_true, decide_eq_true_eq] at h
    have ih := sortedK_pw (b :: l) h.2
    rw [List.map_cons, List.pairwise_cons]
    refine ⟨fun y hy => ?_, ih⟩
    rw [List.map_cons] at hy ih
    rcases List.mem_cons.mp hy with rfl | hy
    · exact h.1
    · exact Int.lt_trans h.1 ((List.pairwise_cons.mp ih).1 y hy)
theorem kv_is : kvOf kvParts.1 kvParts.2 = some kvL := by kernel_rfl
theorem kv_sorted : sortedK kvL = true := by kernel_rfl
theorem kv_len : kvL.length = 650 := by kernel_rfl
theorem ch0_len : ch0.length = 17 := by kernel_rfl
theorem chs_len : (chs.all fun c => c.length == 17) = true := by kernel_rfl
theorem chl_len : chl.length = 4 := by kernel_rfl
theorem st10_is : stOf 10 = .Assign [.Name (Str.ofString "b3_exceptions") ⟨99, 0, 99, 13⟩] (.Dict kvParts.1 kvParts.2 ⟨99, 16, 99, 8704⟩) ⟨99, 0, 99, 8704⟩ := by kernel_rfl
theorem dispB_is : dispB (ch0 :: chs) + dispB [chl] = 14196 := by kernel_rfl
theorem dispT_is : dispT (ch0 :: (chs ++ [chl])) = 1950 := by kernel_rfl
noncomputable def l_10a (P : Params) : List Obj := l_9 P ++ tailD
theorem store_T (w : World) (os : OsState) (K : Unit → Sem Fin) (H : Value → Sem Fin) (gd : Bool → Bool) (lv : List Value → List Value) :
   topGo treeTable pw w 11 annT 7 (shT l_10a 2275 w os) ⟨(assign (.Name (Str.ofString "b3_exceptions") ⟨99, 0, 99, 13⟩) envT (.ref 61)).wrap K H gd lv, cT, ⟨99, 16, 99, 8704⟩, [topFrame q0]⟩ =
   some (shT l_10 2276 w os, ⟨K (), cT, ⟨99, 0, 99, 13⟩, [topFrame q0]⟩) := by kernel_rfl
theorem st10_runs (w : World) (os : OsState) : Runs pw w 11 annT cT [topFrame q0] 14300 (exec (stOf 10) envT) (shT l_9 325 w os) ⟨97, 0, 98, 30⟩ .next (shT l_10 2276 w os) ⟨99, 0, 99, 13⟩ := by
  rw [st10_is, exec_dict, items_eq envT _ _ _ _ kv_is]
  refine Runs.mono (b := 1 + ((1 + 14196) + (7 + 0))) ?_ (by decide)
  refine Runs.bind (b := 1) (a := ()) (s₁ := shT l_9 325 w os) (q₁ := ⟨99, 0, 99, 8704⟩) (Runs.at Runs.ret) ?_
  refine Runs.bind (b := 1 + 14196) (a := .ref 61) (s₁ := shT l_10a 2275 w os) (q₁ := ⟨99, 16, 99, 8704⟩) ?_ ?_
  · refine Runs.bind (b := 1) (a := ()) (s₁ := shT l_9 325 w os) (q₁ := ⟨99, 16, 99, 8704⟩) (Runs.at Runs.ret) ?_
    have hsz : (⟨⟨l_9 w.params⟩, lifeT w.params⟩ : Heap).objs.size = 61 := by kernel_rfl
    have d := Runs.display (p := pw) (w := w) (n₀ := 11) (ann := annT) (c := cT) (fr := topFrame q0) (B := []) (s := shT l_9 325 w os) (h := ⟨⟨l_9 w.params⟩, lifeT w.params⟩) (P := ⟨99, 16, 99, 8704⟩)
      (by unfold G; simp) (by rw [hsz]; decide) (by rw [hsz]; decide) ch0 chs chl ch0_len (fun c hc => by simpa using List.all_eq_true.mp chs_len c hc) (by intro e; have := chl_len; rw [e] at this; cases this) (by rw [chl_len]; decide)
      (by rw [kv_chunks]; exact sortedK_pw _ kv_sorted) (by
        rw [kv_chunks]
        intro x hx
        have := List.all_eq_true.mp kv_small x hx
        simpa using this) (by rw [kv_chunks, kv_len]; decide)
    rw [kv_chunks, dispB_is, dispT_is, hsz] at d
    exact d
  · refine Runs.bind (b := 7) (a := ()) (s₁ := shT l_10 2276 w os) (q₁ := ⟨99, 0, 99, 13⟩) ?_ Runs.ret
    intro K H gd lv N r z
    exact go_top (store_T w os K H gd lv) z
end Mine
end
section
open PySem PySem.W PyProof.Rows
set_option maxRecDepth 100000
namespace Mine
theorem set_A (w : World) (os : OsState) : Fast.tw14374325043358763698 Fast.tw14364793385576792824 pw w 11 annT 1 999 (shT l_7 258 w os) ⟨(Fast.tw12563942051412417395 [stOf 8] envT).wrap doneF deadEnd id id, cT, ⟨95, 0, 95, 8⟩, [topFrame q0]⟩ =
   some (.next, shT l_8 318 w os, cT, ⟨96, 0, 96, 6⟩) := by
  have h := set_T (w.params.followText "set-order") (w.params.followText "special-get-raises") w os
  rw [World.withFollow_self, World.withFollow_self] at h
  exact h
theorem body_is : bodyT = stsA ++ ([stOf 8] ++ ([stOf 9] ++ (stOf 10 :: (stsC ++ [])))) := by kernel_rfl
theorem top_runs (w : World) (os : OsState) : topRun treeTable pw w 11 annT (12 + (1 + (188 + (999 + (30 + (14300 + (304 + 2))))))) ⟨boot_heap w.params, #[], boot_drawn, boot_toks, os⟩ (topStub pw) = some (shT l_20 2378 w os) := by
  have pre := pre_T w os
  have blk := block_T w os
  have a := a_T w os
  have st := set_A w os
  have b := b_T w os
  have c := c_T w os
  rw [← Fast.te15667345088766844465, ← Fast.te14364793385576792824, ← Fast.te11892475500146522536] at pre
  rw [← Fast.te14374325043358763698, ← Fast.te14364793385576792824] at blk
  rw [← Fast.te14374325043358763698, ← Fast.te14364793385576792824, ← Fast.te12563942051412417395] at a st b c
  refine go_top pre (piece_block blk ?_)
  rw [body_is]
  refine piece_app a (piece_app st (piece_app b ?_))
  unfold restOf
  rw [execs_cons_wrap]
  refine st10_runs w os _ _ _ _ _ _ ?_
  exact piece_app c (piece_nil (fin_T w os))
end Mine
end
section
open PySem PySem.W PyProof.Rows
set_option maxRecDepth 100000
namespace Mine
theorem size_T (w : World) : ((boot_heap w.params).isNs mainGlobals && (Array.mk ([] : List GenState)).size == 0, (boot_heap w.params).objs.size, (boot_heap w.params).nsMap mainGlobals "__annotations__") = (true, 11, annT) := by kernel_rfl
theorem look1 (w : World) (os : OsState) : (staticsOk (importedModules pw.main.body) (boot_heap w.params) ⟨⟨l_20 w.params⟩, lifeT w.params⟩ && namesBound pw ⟨⟨l_20 w.params⟩, lifeT w.params⟩ && gensDone (shT l_20 2378 w os) && laidKept (boot_heap w.params) ⟨⟨l_20 w.params⟩, lifeT w.params⟩) = true := by kernel_rfl
theorem look2 (w : World) (os : OsState) : Fast.tw4187177175401517315 qV looseV (importedModules pw.main.body) XtV true (shT l_20 2378 w os) = openGood qV looseV := by kernel_rfl
theorem look3 (w : World) (os : OsState) : HK.obs (shT l_20 2378 w os) = HK.val w := by kernel_rfl
end Mine
end
section
open PySem PySem.W PyProof.Rows
set_option maxRecDepth 100000
namespace Mine
theorem leftT : LeftO pw qV looseV XtV HK.obs HK.val 32000 := by
  refine LeftO.of_pieces (H₀ := boot_heap) (H₁ := fun P => ⟨⟨l_20 P⟩, lifeT P⟩) (gs₀ := Array.mk []) (gs₁ := #[]) (d₀ := boot_drawn) (d₁ := boot_drawn) (k₀ := boot_toks) (k₁ := 2378) (m₀ := 11) (ann := annT)
    (M := 12 + (1 + (188 + (999 + (30 + (14300 + (304 + 2))))))) ?_ size_T (fun w os => top_runs w os) (by decide) ?_
  · exact boot_open (by kernel_rfl) (by decide) (fun s => by kernel_rfl)
  · intro w
    funext os
    have h2 := look2 w os
    rw [← Fast.te4187177175401517315] at h2
    exact Prod.ext (look1 w os) (Prod.ext h2 (look3 w os))
theorem law_said : OpenLaw.wellSaid PySem.Challenge.rw_rl0120_01 = true := by
  unfold OpenLaw.wellSaid OpenRow.wellSaid OpenRow.partSaid looksOpen
  repeat' (with_reducible refine look_both ?_ ?_)
  all_goals decide +kernel
set_option maxHeartbeats 4000000 in
theorem holds_by (walk : WalkT) : PySem.Challenge.rw_rl0120_01.Holds := by
  w_on
  refine holds_law law_said fun said => ?_
  refine holds_open (q := qV) (loose := looseV) (Xt := XtV) (XP := XL qV []) (Yf := HK.obs) (Ya := HK.val) (YP := HK.says) (N := 32000) leftT HK.of HK.keeps (fun s e => xl_of s (Bool.and_eq_true_iff.mp e).1) XL.keeps dLaw_is (by kernel_rfl) (by kernel_rfl)
    (fun s e => recFacts_of (Bool.and_eq_true_iff.mp e).2) (by rfl) (by assumption) (by decide +kernel) ⟨rfl, rfl, rfl, rfl, rfl, by decide +kernel⟩ ?_ walk
  w_witness2
end Mine
end
theorem PySem.Challenge.cw_rl0120_01_holds : PySem.Challenge.rw_rl0120_01.Holds :=
  Mine.holds_by Mine.walk
