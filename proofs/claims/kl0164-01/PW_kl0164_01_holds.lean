import PyProof.Rows.All
import Wide.All
import OpenK.AllK
import Wide.FinOn
import PySem.Challenge.RW_kl0164_01
set_option maxRecDepth 1000000
set_option Elab.async false
set_option linter.unusedVariables false
namespace Mine
open PySem PySem.W PySem.Calls PyProof.Rows
noncomputable section
noncomputable abbrev pw : Program := PySem.Challenge.pw_kl0164_01
noncomputable def stm (i : Nat) : Stmt := (pw.main.body[i]?).getD (.Pass ⟨0, 0, 0, 0⟩)
noncomputable def fdArgs : Stmt → Arguments
  | .FunctionDef _ a _ _ _ _ _ _ _ _ => a
  | _ => { posonlyargs := [], args := [], vararg := none, kwonlyargs := [], kw_defaults := [], kwarg := none, defaults := [] }
noncomputable def fdBody : Stmt → List Stmt
  | .FunctionDef _ _ b _ _ _ _ _ _ _ => b
  | _ => []
noncomputable def fdScope : Stmt → Scope
  | .FunctionDef _ _ _ _ _ _ s _ _ _ => s
  | _ => { kind := .function, names := [], isGenerator := false, isCoroutine := false, more := [] }
noncomputable def topLife : Life := {}
noncomputable def topEnv : Env := { scope := pw.main.scope, locals := mainNs, globals := mainNs, cells := [], code := .ref 13, frame := some 14 }
noncomputable def topAnn : Option Value := some (.ref 6)
noncomputable def topBody : List Stmt := behindTheImports pw
noncomputable def topCode : Code := .body topBody topEnv
noncomputable def o11a (P : Params) : Obj := ⟨.type "tuple", none, .seq #[] 0, #[]⟩
noncomputable def o12a (P : Params) : Obj := ⟨.none, none, .fields #[], #[]⟩
noncomputable def o13a (P : Params) : Obj := ⟨.type "code", none, .fields #[.str (Str.ofString "<module>") 182, .str (Str.ofString "<module>") 183, .str (Str.ofString "/claim/cut.py") 184, .int 1 0, .int 0 0, .int 0 0, .int 0 0, .int 0 0, .ref 11, .bool false, .int 181 0, .ref 12, .none, .none, .none, .none, .int 185 0, .int 1 0, .str (Str.ofString "/claim/cut.py") 186], #[]⟩
noncomputable def o14a (P : Params) : Obj := ⟨.type "frame", none, .plain, #[some (.ref 13), some (.ref 3), some (.ref 3), none, some (.str (Str.ofString "__main__") 164), none, some (.ref 0)]⟩
noncomputable def tree_a (P : Params) : BT := (.node (boot_o_0 P) (.node (boot_o_1 P) (.node (boot_o_3 P) (.node (boot_o_7 P) .nil .nil) (.node (o11a P) .nil .nil)) (.node (boot_o_5 P) (.node (boot_o_9 P) .nil .nil) (.node (o13a P) .nil .nil))) (.node (boot_o_2 P) (.node (boot_o_4 P) (.node (boot_o_8 P) .nil .nil) (.node (o12a P) .nil .nil)) (.node (boot_o_6 P) (.node (boot_o_10 P) .nil .nil) (.node (o14a P) .nil .nil))))
noncomputable def st_a (w : World) (os : OsState) : SharedT := ⟨tree_a w.params, 15, topLife, #[], boot_drawn, 187, os⟩
noncomputable abbrev pos_a : Pos := ⟨0, 0, 0, 0⟩
noncomputable def o3b (P : Params) : Obj := ⟨.type "dict", none, .dict #[⟨PyData.keyHash P (Str.ofString "__name__"), .str (Str.ofString "__name__") 165, .str (Str.ofString "cpy313.stringprep") 187⟩, ⟨PyData.keyHash P (Str.ofString "__doc__"), .str (Str.ofString "__doc__") 166, .none⟩, ⟨PyData.keyHash P (Str.ofString "__package__"), .str (Str.ofString "__package__") 167, .none⟩, ⟨PyData.keyHash P (Str.ofString "__loader__"), .str (Str.ofString "__loader__") 168, .builtin "__main__.__loader__#opaque"⟩, ⟨PyData.keyHash P (Str.ofString "__spec__"), .str (Str.ofString "__spec__") 169, .none⟩, ⟨PyData.keyHash P (Str.ofString "__annotations__"), .str (Str.ofString "__annotations__") 170, .ref 6⟩, ⟨PyData.keyHash P (Str.ofString "__builtins__"), .str (Str.ofString "__builtins__") 171, .ref 4⟩, ⟨PyData.keyHash P (Str.ofString "__file__"), .str (Str.ofString "__file__") 173, .str (Str.ofString "/claim/cut.py") 172⟩, ⟨PyData.keyHash P (Str.ofString "__cached__"), .str (Str.ofString "__cached__") 174, .none⟩, ⟨PyData.keyHash P (Str.ofString "b1_set"), .str (Str.ofString "b1_set") 248, .ref 22⟩, ⟨PyData.keyHash P (Str.ofString "in_table_b1"), .str (Str.ofString "in_table_b1") 255, .ref 32⟩] 11, #[]⟩
noncomputable def o12b (P : Params) : Obj := ⟨.none, none, .fields #[.int 3 0, .int 0 0, .ref 31], #[]⟩
noncomputable def o15b (P : Params) : Obj := ⟨.type "list", none, .seq #[.int 173 189, .int 847 190, .int 6150 191, .int 6155 192, .int 6156 193, .int 6157 194, .int 8203 195, .int 8204 196, .int 8205 197, .int 8288 198, .int 65279 199] 0, #[]⟩
noncomputable def o16b (P : Params) : Obj := ⟨.type "range", none, .fields #[.int 65024 200, .int 65040 201, .int 1 202], #[]⟩
noncomputable def o17b (P : Params) : Obj := ⟨.type "list", none, .seq #[.int 65024 205, .int 65025 206, .int 65026 207, .int 65027 208, .int 65028 209, .int 65029 210, .int 65030 211, .int 65031 212, .int 65032 213, .int 65033 214, .int 65034 215, .int 65035 216, .int 65036 217, .int 65037 218, .int 65038 219, .int 65039 220] 18, #[]⟩
noncomputable def o18b (P : Params) : Obj := ⟨.type "range_iterator", none, .fields #[.int 65040 0, .int 0 0, .int 1 0], #[]⟩
noncomputable def o19b (P : Params) : Obj := ⟨.type "tuple", none, .seq #[] 0, #[]⟩
noncomputable def o20b (P : Params) : Obj := ⟨.type "StopIteration", none, .fields #[.ref 19, .none, .none, .none, .bool false, .none], #[]⟩
noncomputable def o21b (P : Params) : Obj := ⟨.type "list", none, .seq #[.int 173 189, .int 847 190, .int 6150 191, .int 6155 192, .int 6156 193, .int 6157 194, .int 8203 195, .int 8204 196, .int 8205 197, .int 8288 198, .int 65279 199, .int 65024 205, .int 65025 206, .int 65026 207, .int 65027 208, .int 65028 209, .int 65029 210, .int 65030 211, .int 65031 212, .int 65032 213, .int 65033 214, .int 65034 215, .int 65035 216, .int 65036 217, .int 65037 218, .int 65038 219, .int 65039 220] 0, #[]⟩
noncomputable def o22b (P : Params) : Obj := ⟨.type "set", none, .set #[(65024, .int 65024 205), (65025, .int 65025 206), (65026, .int 65026 207), (65027, .int 65027 208), (65028, .int 65028 209), (65029, .int 65029 210), (6150, .int 6150 191), (65030, .int 65030 211), (65031, .int 65031 212), (65032, .int 65032 213), (65033, .int 65033 214), (6155, .int 6155 192), (6156, .int 6156 193), (6157, .int 6157 194), (8203, .int 8203 195), (8204, .int 8204 196), (8205, .int 8205 197), (65034, .int 65034 215), (65035, .int 65035 216), (65036, .int 65036 217), (65037, .int 65037 218), (65038, .int 65038 219), (65039, .int 65039 220), (173, .int 173 189), (847, .int 847 190), (8288, .int 8288 198), (65279, .int 65279 199)] 29 { mask := 127, place := #[0, 1, 2, 3, 4, 5, 6, 7, 8, 9, 10, 11, 12, 13, 14, 15, 16, 17, 18, 19, 20, 21, 22, 45, 79, 96, 127], dummies := #[], finger := 0, led := !P.followText "set-order", moves := 2, plain := true }, #[]⟩
noncomputable def o23b (P : Params) : Obj := ⟨.type "list_iterator", none, .fields #[.none, .int 27 0], #[]⟩
noncomputable def o24b (P : Params) : Obj := ⟨.type "tuple", none, .seq #[] 0, #[]⟩
noncomputable def o25b (P : Params) : Obj := ⟨.type "StopIteration", none, .fields #[.ref 24, .none, .none, .none, .bool false, .none], #[]⟩
noncomputable def o26b (P : Params) : Obj := ⟨.type "tuple", none, .seq #[] 0, #[]⟩
noncomputable def o27b (P : Params) : Obj := ⟨.none, none, .fields #[], #[]⟩
noncomputable def o28b (P : Params) : Obj := ⟨.type "tuple", none, .seq #[.str (Str.ofString "code") 252] 0, #[]⟩
noncomputable def o29b (P : Params) : Obj := ⟨.type "tuple", none, .seq #[] 0, #[]⟩
noncomputable def o30b (P : Params) : Obj := ⟨.none, none, .func { name := (Str.ofString "in_table_b1"), qualname := (Str.ofString "in_table_b1"), params := fdArgs (stm 2), body := .stmts (fdBody (stm 2)), scope := fdScope (stm 2), globals := 0, closure := [], defaults := .none, kwdefaults := .none, doc := .none, pyModule := .none, annotations := none, code := .none, closureTuple := .none, builtins := 0 }, #[]⟩
noncomputable def o31b (P : Params) : Obj := ⟨.type "code", none, .fields #[.str (Str.ofString "in_table_b1") 249, .str (Str.ofString "in_table_b1") 250, .str (Str.ofString "/claim/cut.py") 251, .int 3 0, .int 1 0, .int 0 0, .int 0 0, .int 3 0, .ref 26, .bool true, .int 181 0, .ref 27, .none, .ref 28, .ref 29, .ref 30, .int 253 0, .int 3 0, .str (Str.ofString "/claim/cut.py") 254], #[]⟩
noncomputable def o32b (P : Params) : Obj := ⟨.type "function", none, .func { name := (Str.ofString "in_table_b1"), qualname := (Str.ofString "in_table_b1"), params := fdArgs (stm 2), body := .stmts (fdBody (stm 2)), scope := fdScope (stm 2), globals := 3, closure := [], defaults := .none, kwdefaults := .none, doc := .none, pyModule := .str (Str.ofString "cpy313.stringprep") 187, annotations := none, code := .ref 31, closureTuple := .none, builtins := 0 }, #[]⟩
noncomputable def tree_b (P : Params) : BT := (.node (boot_o_0 P) (.node (boot_o_1 P) (.node (o3b P) (.node (boot_o_7 P) (.node (o15b P) (.node (o31b P) .nil .nil) .nil) (.node (o23b P) .nil .nil)) (.node (o11a P) (.node (o19b P) .nil .nil) (.node (o27b P) .nil .nil))) (.node (boot_o_5 P) (.node (boot_o_9 P) (.node (o17b P) .nil .nil) (.node (o25b P) .nil .nil)) (.node (o13a P) (.node (o21b P) .nil .nil) (.node (o29b P) .nil .nil)))) (.node (boot_o_2 P) (.node (boot_o_4 P) (.node (boot_o_8 P) (.node (o16b P) (.node (o32b P) .nil .nil) .nil) (.node (o24b P) .nil .nil)) (.node (o12b P) (.node (o20b P) .nil .nil) (.node (o28b P) .nil .nil))) (.node (boot_o_6 P) (.node (boot_o_10 P) (.node (o18b P) .nil .nil) (.node (o26b P) .nil .nil)) (.node (o14a P) (.node (o22b P) .nil .nil) (.node (o30b P) .nil .nil)))))
noncomputable def st_b (w : World) (os : OsState) : SharedT := ⟨tree_b w.params, 33, topLife, #[], boot_drawn, 256, os⟩
noncomputable abbrev pos_b : Pos := ⟨3, 0, 4, 30⟩
noncomputable def o3c (P : Params) : Obj := ⟨.type "dict", none, .dict #[⟨PyData.keyHash P (Str.ofString "__name__"), .str (Str.ofString "__name__") 165, .str (Str.ofString "cpy313.stringprep") 187⟩, ⟨PyData.keyHash P (Str.ofString "__doc__"), .str (Str.ofString "__doc__") 166, .none⟩, ⟨PyData.keyHash P (Str.ofString "__package__"), .str (Str.ofString "__package__") 167, .none⟩, ⟨PyData.keyHash P (Str.ofString "__loader__"), .str (Str.ofString "__loader__") 168, .builtin "__main__.__loader__#opaque"⟩, ⟨PyData.keyHash P (Str.ofString "__spec__"), .str (Str.ofString "__spec__") 169, .none⟩, ⟨PyData.keyHash P (Str.ofString "__annotations__"), .str (Str.ofString "__annotations__") 170, .ref 6⟩, ⟨PyData.keyHash P (Str.ofString "__builtins__"), .str (Str.ofString "__builtins__") 171, .ref 4⟩, ⟨PyData.keyHash P (Str.ofString "__file__"), .str (Str.ofString "__file__") 173, .str (Str.ofString "/claim/cut.py") 172⟩, ⟨PyData.keyHash P (Str.ofString "__cached__"), .str (Str.ofString "__cached__") 174, .none⟩, ⟨PyData.keyHash P (Str.ofString "b1_set"), .str (Str.ofString "b1_set") 248, .ref 22⟩, ⟨PyData.keyHash P (Str.ofString "in_table_b1"), .str (Str.ofString "in_table_b1") 255, .ref 32⟩, ⟨PyData.keyHash P (Str.ofString "b3_exceptions"), .str (Str.ofString "b3_exceptions") 2206, .ref 33⟩] 12, #[]⟩
/-- the entries that pairs make, the first token t, three a pair -/
noncomputable def ents3 : List (Int × Str) → Nat → List DictEntry
  | [], _ => []
  | (k, v) :: r, t => ⟨k, .int k t, .str v (t + 1)⟩ :: ents3 r (t + 3)
/-- two a pair (a short display) -/
noncomputable def ents2 : List (Int × Str) → Nat → List DictEntry
  | [], _ => []
  | (k, v) :: r, t => ⟨k, .int k t, .str v (t + 1)⟩ :: ents2 r (t + 2)
noncomputable def keyI : Option Expr → Int
  | some (.Constant (.int k) _ _) => k
  | _ => 0
noncomputable def valS : Expr → Str
  | .Constant (.str s) _ _ => s
  | _ => .empty
noncomputable def b3E : Expr := match stm 3 with
  | .Assign _ e _ => e
  | _ => .Constant .none 0 ⟨0, 0, 0, 0⟩
noncomputable def b3T : List Expr := match stm 3 with
  | .Assign t _ _ => t
  | _ => []
noncomputable def b3K : List (Option Expr) := match b3E with
  | .Dict k _ _ => k
  | _ => []
noncomputable def b3V : List Expr := match b3E with
  | .Dict _ v _ => v
  | _ => []
noncomputable def tabL : List (Int × Str) := List.zipWith (fun k v => (keyI k, valS v)) b3K b3V
noncomputable def o33c (P : Params) : Obj := ⟨.type "dict", none, .dict (ents3 (tabL.take 646) 256 ++ ents2 (tabL.drop 646) 2194).toArray 650, #[]⟩
noncomputable def o34c (P : Params) : Obj := ⟨.type "dict", none, .dict (ents3 ((tabL.drop 17).take 17) 307).toArray 17, #[]⟩
noncomputable def o35c (P : Params) : Obj := ⟨.type "dict", none, .dict (ents3 ((tabL.drop 34).take 17) 358).toArray 17, #[]⟩
noncomputable def o36c (P : Params) : Obj := ⟨.type "dict", none, .dict (ents3 ((tabL.drop 51).take 17) 409).toArray 17, #[]⟩
noncomputable def o37c (P : Params) : Obj := ⟨.type "dict", none, .dict (ents3 ((tabL.drop 68).take 17) 460).toArray 17, #[]⟩
noncomputable def o38c (P : Params) : Obj := ⟨.type "dict", none, .dict (ents3 ((tabL.drop 85).take 17) 511).toArray 17, #[]⟩
noncomputable def o39c (P : Params) : Obj := ⟨.type "dict", none, .dict (ents3 ((tabL.drop 102).take 17) 562).toArray 17, #[]⟩
noncomputable def o40c (P : Params) : Obj := ⟨.type "dict", none, .dict (ents3 ((tabL.drop 119).take 17) 613).toArray 17, #[]⟩
noncomputable def o41c (P : Params) : Obj := ⟨.type "dict", none, .dict (ents3 ((tabL.drop 136).take 17) 664).toArray 17, #[]⟩
noncomputable def o42c (P : Params) : Obj := ⟨.type "dict", none, .dict (ents3 ((tabL.drop 153).take 17) 715).toArray 17, #[]⟩
noncomputable def o43c (P : Params) : Obj := ⟨.type "dict", none, .dict (ents3 ((tabL.drop 170).take 17) 766).toArray 17, #[]⟩
noncomputable def o44c (P : Params) : Obj := ⟨.type "dict", none, .dict (ents3 ((tabL.drop 187).take 17) 817).toArray 17, #[]⟩
noncomputable def o45c (P : Params) : Obj := ⟨.type "dict", none, .dict (ents3 ((tabL.drop 204).take 17) 868).toArray 17, #[]⟩
noncomputable def o46c (P : Params) : Obj := ⟨.type "dict", none, .dict (ents3 ((tabL.drop 221).take 17) 919).toArray 17, #[]⟩
noncomputable def o47c (P : Params) : Obj := ⟨.type "dict", none, .dict (ents3 ((tabL.drop 238).take 17) 970).toArray 17, #[]⟩
noncomputable def o48c (P : Params) : Obj := ⟨.type "dict", none, .dict (ents3 ((tabL.drop 255).take 17) 1021).toArray 17, #[]⟩
noncomputable def o49c (P : Params) : Obj := ⟨.type "dict", none, .dict (ents3 ((tabL.drop 272).take 17) 1072).toArray 17, #[]⟩
noncomputable def o50c (P : Params) : Obj := ⟨.type "dict", none, .dict (ents3 ((tabL.drop 289).take 17) 1123).toArray 17, #[]⟩
noncomputable def o51c (P : Params) : Obj := ⟨.type "dict", none, .dict (ents3 ((tabL.drop 306).take 17) 1174).toArray 17, #[]⟩
noncomputable def o52c (P : Params) : Obj := ⟨.type "dict", none, .dict (ents3 ((tabL.drop 323).take 17) 1225).toArray 17, #[]⟩
noncomputable def o53c (P : Params) : Obj := ⟨.type "dict", none, .dict (ents3 ((tabL.drop 340).take 17) 1276).toArray 17, #[]⟩
noncomputable def o54c (P : Params) : Obj := ⟨.type "dict", none, .dict (ents3 ((tabL.drop 357).take 17) 1327).toArray 17, #[]⟩
noncomputable def o55c (P : Params) : Obj := ⟨.type "dict", none, .dict (ents3 ((tabL.drop 374).take 17) 1378).toArray 17, #[]⟩
noncomputable def o56c (P : Params) : Obj := ⟨.type "dict", none, .dict (ents3 ((tabL.drop 391).take 17) 1429).toArray 17, #[]⟩
noncomputable def o57c (P : Params) : Obj := ⟨.type "dict", none, .dict (ents3 ((tabL.drop 408).take 17) 1480).toArray 17, #[]⟩
noncomputable def o58c (P : Params) : Obj := ⟨.type "dict", none, .dict (ents3 ((tabL.drop 425).take 17) 1531).toArray 17, #[]⟩
noncomputable def o59c (P : Params) : Obj := ⟨.type "dict", none, .dict (ents3 ((tabL.drop 442).take 17) 1582).toArray 17, #[]⟩
noncomputable def o60c (P : Params) : Obj := ⟨.type "dict", none, .dict (ents3 ((tabL.drop 459).take 17) 1633).toArray 17, #[]⟩
noncomputable def o61c (P : Params) : Obj := ⟨.type "dict", none, .dict (ents3 ((tabL.drop 476).take 17) 1684).toArray 17, #[]⟩
noncomputable def o62c (P : Params) : Obj := ⟨.type "dict", none, .dict (ents3 ((tabL.drop 493).take 17) 1735).toArray 17, #[]⟩
noncomputable def o63c (P : Params) : Obj := ⟨.type "dict", none, .dict (ents3 ((tabL.drop 510).take 17) 1786).toArray 17, #[]⟩
noncomputable def o64c (P : Params) : Obj := ⟨.type "dict", none, .dict (ents3 ((tabL.drop 527).take 17) 1837).toArray 17, #[]⟩
noncomputable def o65c (P : Params) : Obj := ⟨.type "dict", none, .dict (ents3 ((tabL.drop 544).take 17) 1888).toArray 17, #[]⟩
noncomputable def o66c (P : Params) : Obj := ⟨.type "dict", none, .dict (ents3 ((tabL.drop 561).take 17) 1939).toArray 17, #[]⟩
noncomputable def o67c (P : Params) : Obj := ⟨.type "dict", none, .dict (ents3 ((tabL.drop 578).take 17) 1990).toArray 17, #[]⟩
noncomputable def o68c (P : Params) : Obj := ⟨.type "dict", none, .dict (ents3 ((tabL.drop 595).take 17) 2041).toArray 17, #[]⟩
noncomputable def o69c (P : Params) : Obj := ⟨.type "dict", none, .dict (ents3 ((tabL.drop 612).take 17) 2092).toArray 17, #[]⟩
noncomputable def o70c (P : Params) : Obj := ⟨.type "dict", none, .dict (ents3 ((tabL.drop 629).take 17) 2143).toArray 17, #[]⟩
noncomputable def o71c (P : Params) : Obj := ⟨.type "dict", none, .dict (ents2 (tabL.drop 646) 2194).toArray 4, #[]⟩
noncomputable def tree_c (P : Params) : BT := (.node (boot_o_0 P) (.node (boot_o_1 P) (.node (o3c P) (.node (boot_o_7 P) (.node (o15b P) (.node (o31b P) (.node (o63c P) .nil .nil) .nil) (.node (o47c P) .nil .nil)) (.node (o23b P) (.node (o39c P) (.node (o71c P) .nil .nil) .nil) (.node (o55c P) .nil .nil))) (.node (o11a P) (.node (o19b P) (.node (o35c P) (.node (o67c P) .nil .nil) .nil) (.node (o51c P) .nil .nil)) (.node (o27b P) (.node (o43c P) .nil .nil) (.node (o59c P) .nil .nil)))) (.node (boot_o_5 P) (.node (boot_o_9 P) (.node (o17b P) (.node (o33c P) (.node (o65c P) .nil .nil) .nil) (.node (o49c P) .nil .nil)) (.node (o25b P) (.node (o41c P) .nil .nil) (.node (o57c P) .nil .nil))) (.node (o13a P) (.node (o21b P) (.node (o37c P) (.node (o69c P) .nil .nil) .nil) (.node (o53c P) .nil .nil)) (.node (o29b P) (.node (o45c P) .nil .nil) (.node (o61c P) .nil .nil))))) (.node (boot_o_2 P) (.node (boot_o_4 P) (.node (boot_o_8 P) (.node (o16b P) (.node (o32b P) (.node (o64c P) .nil .nil) .nil) (.node (o48c P) .nil .nil)) (.node (o24b P) (.node (o40c P) .nil .nil) (.node (o56c P) .nil .nil))) (.node (o12b P) (.node (o20b P) (.node (o36c P) (.node (o68c P) .nil .nil) .nil) (.node (o52c P) .nil .nil)) (.node (o28b P) (.node (o44c P) .nil .nil) (.node (o60c P) .nil .nil)))) (.node (boot_o_6 P) (.node (boot_o_10 P) (.node (o18b P) (.node (o34c P) (.node (o66c P) .nil .nil) .nil) (.node (o50c P) .nil .nil)) (.node (o26b P) (.node (o42c P) .nil .nil) (.node (o58c P) .nil .nil))) (.node (o14a P) (.node (o22b P) (.node (o38c P) (.node (o70c P) .nil .nil) .nil) (.node (o54c P) .nil .nil)) (.node (o30b P) (.node (o46c P) .nil .nil) (.node (o62c P) .nil .nil))))))
noncomputable def st_c (w : World) (os : OsState) : SharedT := ⟨tree_c w.params, 72, topLife, #[], boot_drawn, 2207, os⟩
noncomputable abbrev pos_c : Pos := ⟨5, 0, 5, 13⟩
noncomputable def o3d (P : Params) : Obj := ⟨.type "dict", none, .dict #[⟨PyData.keyHash P (Str.ofString "__name__"), .str (Str.ofString "__name__") 165, .str (Str.ofString "law_kl0164_01") 2227⟩, ⟨PyData.keyHash P (Str.ofString "__doc__"), .str (Str.ofString "__doc__") 166, .none⟩, ⟨PyData.keyHash P (Str.ofString "__package__"), .str (Str.ofString "__package__") 167, .none⟩, ⟨PyData.keyHash P (Str.ofString "__loader__"), .str (Str.ofString "__loader__") 168, .builtin "__main__.__loader__#opaque"⟩, ⟨PyData.keyHash P (Str.ofString "__spec__"), .str (Str.ofString "__spec__") 169, .none⟩, ⟨PyData.keyHash P (Str.ofString "__annotations__"), .str (Str.ofString "__annotations__") 170, .ref 6⟩, ⟨PyData.keyHash P (Str.ofString "__builtins__"), .str (Str.ofString "__builtins__") 171, .ref 4⟩, ⟨PyData.keyHash P (Str.ofString "__file__"), .str (Str.ofString "__file__") 173, .str (Str.ofString "/claim/cut.py") 172⟩, ⟨PyData.keyHash P (Str.ofString "__cached__"), .str (Str.ofString "__cached__") 174, .none⟩, ⟨PyData.keyHash P (Str.ofString "b1_set"), .str (Str.ofString "b1_set") 248, .ref 22⟩, ⟨PyData.keyHash P (Str.ofString "in_table_b1"), .str (Str.ofString "in_table_b1") 255, .ref 32⟩, ⟨PyData.keyHash P (Str.ofString "b3_exceptions"), .str (Str.ofString "b3_exceptions") 2206, .ref 33⟩, ⟨PyData.keyHash P (Str.ofString "map_table_b3"), .str (Str.ofString "map_table_b3") 2214, .ref 78⟩, ⟨PyData.keyHash P (Str.ofString "Int2AP"), .str (Str.ofString "Int2AP") 2226, .ref 85⟩, ⟨PyData.keyHash P (Str.ofString "_LAW_SPELL"), .str (Str.ofString "_LAW_SPELL") 2234, .ref 92⟩, ⟨PyData.keyHash P (Str.ofString "_LAW_VEILS"), .str (Str.ofString "_LAW_VEILS") 2262, .ref 93⟩, ⟨PyData.keyHash P (Str.ofString "_law_seen"), .str (Str.ofString "_law_seen") 2272, .ref 100⟩, ⟨PyData.keyHash P (Str.ofString "_law_sum"), .str (Str.ofString "_law_sum") 2281, .ref 107⟩] 18, #[]⟩
noncomputable def o12d (P : Params) : Obj := ⟨.none, none, .fields #[.int 3 0, .int 0 0, .ref 31, .int 6 0, .int 0 0, .ref 77, .int 12 0, .int 0 0, .ref 84, .int 21 0, .int 0 0, .ref 91, .int 24 0, .int 0 0, .ref 99, .int 31 0, .int 0 0, .ref 106], #[]⟩
noncomputable def o72d (P : Params) : Obj := ⟨.type "tuple", none, .seq #[] 0, #[]⟩
noncomputable def o73d (P : Params) : Obj := ⟨.none, none, .fields #[], #[]⟩
noncomputable def o74d (P : Params) : Obj := ⟨.type "tuple", none, .seq #[.str (Str.ofString "code") 2210, .str (Str.ofString "r") 2211] 0, #[]⟩
noncomputable def o75d (P : Params) : Obj := ⟨.type "tuple", none, .seq #[] 0, #[]⟩
noncomputable def o76d (P : Params) : Obj := ⟨.none, none, .func { name := (Str.ofString "map_table_b3"), qualname := (Str.ofString "map_table_b3"), params := fdArgs (stm 4), body := .stmts (fdBody (stm 4)), scope := fdScope (stm 4), globals := 0, closure := [], defaults := .none, kwdefaults := .none, doc := .none, pyModule := .none, annotations := none, code := .none, closureTuple := .none, builtins := 0 }, #[]⟩
noncomputable def o77d (P : Params) : Obj := ⟨.type "code", none, .fields #[.str (Str.ofString "map_table_b3") 2207, .str (Str.ofString "map_table_b3") 2208, .str (Str.ofString "/claim/cut.py") 2209, .int 6 0, .int 1 0, .int 0 0, .int 0 0, .int 3 0, .ref 72, .bool true, .int 181 0, .ref 73, .none, .ref 74, .ref 75, .ref 76, .int 2212 0, .int 6 0, .str (Str.ofString "/claim/cut.py") 2213], #[]⟩
noncomputable def o78d (P : Params) : Obj := ⟨.type "function", none, .func { name := (Str.ofString "map_table_b3"), qualname := (Str.ofString "map_table_b3"), params := fdArgs (stm 4), body := .stmts (fdBody (stm 4)), scope := fdScope (stm 4), globals := 3, closure := [], defaults := .none, kwdefaults := .none, doc := .none, pyModule := .str (Str.ofString "cpy313.stringprep") 187, annotations := none, code := .ref 77, closureTuple := .none, builtins := 0 }, #[]⟩
noncomputable def o79d (P : Params) : Obj := ⟨.type "tuple", none, .seq #[] 0, #[]⟩
noncomputable def o80d (P : Params) : Obj := ⟨.none, none, .fields #[], #[]⟩
noncomputable def o81d (P : Params) : Obj := ⟨.type "tuple", none, .seq #[.str (Str.ofString "num") 2220, .str (Str.ofString "val") 2221, .str (Str.ofString "AP") 2222, .str (Str.ofString "mod") 2223] 0, #[]⟩
noncomputable def o82d (P : Params) : Obj := ⟨.type "tuple", none, .seq #[] 0, #[]⟩
noncomputable def o83d (P : Params) : Obj := ⟨.none, none, .func { name := (Str.ofString "Int2AP"), qualname := (Str.ofString "Int2AP"), params := fdArgs (stm 6), body := .stmts (fdBody (stm 6)), scope := fdScope (stm 6), globals := 0, closure := [], defaults := .none, kwdefaults := .none, doc := .none, pyModule := .none, annotations := none, code := .none, closureTuple := .none, builtins := 0 }, #[]⟩
noncomputable def o84d (P : Params) : Obj := ⟨.type "code", none, .fields #[.str (Str.ofString "Int2AP") 2217, .str (Str.ofString "Int2AP") 2218, .str (Str.ofString "/claim/cut.py") 2219, .int 12 0, .int 1 0, .int 0 0, .int 0 0, .int 3 0, .ref 79, .bool true, .int 181 0, .ref 80, .none, .ref 81, .ref 82, .ref 83, .int 2224 0, .int 12 0, .str (Str.ofString "/claim/cut.py") 2225], #[]⟩
noncomputable def o85d (P : Params) : Obj := ⟨.type "function", none, .func { name := (Str.ofString "Int2AP"), qualname := (Str.ofString "Int2AP"), params := fdArgs (stm 6), body := .stmts (fdBody (stm 6)), scope := fdScope (stm 6), globals := 3, closure := [], defaults := .none, kwdefaults := .none, doc := .none, pyModule := .str (Str.ofString "cpy313.imaplib") 2215, annotations := none, code := .ref 84, closureTuple := .none, builtins := 0 }, #[]⟩
noncomputable def o86d (P : Params) : Obj := ⟨.type "tuple", none, .seq #[] 0, #[]⟩
noncomputable def o87d (P : Params) : Obj := ⟨.none, none, .fields #[], #[]⟩
noncomputable def o88d (P : Params) : Obj := ⟨.type "tuple", none, .seq #[] 0, #[]⟩
noncomputable def o89d (P : Params) : Obj := ⟨.type "tuple", none, .seq #[] 0, #[]⟩
noncomputable def o90d (P : Params) : Obj := ⟨.none, none, .func { name := (Str.ofString "_LAW_SPELL"), qualname := (Str.ofString "_LAW_SPELL"), params := fdArgs (stm 8), body := .stmts (fdBody (stm 8)), scope := fdScope (stm 8), globals := 0, closure := [], defaults := .none, kwdefaults := .none, doc := .none, pyModule := .none, annotations := none, code := .none, closureTuple := .none, builtins := 0 }, #[]⟩
noncomputable def o91d (P : Params) : Obj := ⟨.type "code", none, .fields #[.str (Str.ofString "_LAW_SPELL") 2229, .str (Str.ofString "_LAW_SPELL") 2230, .str (Str.ofString "/claim/cut.py") 2231, .int 21 0, .int 0 0, .int 0 0, .int 0 0, .int 3 0, .ref 86, .bool true, .int 181 0, .ref 87, .none, .ref 88, .ref 89, .ref 90, .int 2232 0, .int 21 0, .str (Str.ofString "/claim/cut.py") 2233], #[]⟩
noncomputable def o92d (P : Params) : Obj := ⟨.type "function", none, .func { name := (Str.ofString "_LAW_SPELL"), qualname := (Str.ofString "_LAW_SPELL"), params := fdArgs (stm 8), body := .stmts (fdBody (stm 8)), scope := fdScope (stm 8), globals := 3, closure := [], defaults := .none, kwdefaults := .none, doc := .none, pyModule := .str (Str.ofString "law_kl0164_01") 2227, annotations := none, code := .ref 91, closureTuple := .none, builtins := 0 }, #[]⟩
noncomputable def o93d (P : Params) : Obj := ⟨.type "tuple", none, .seq #[.int 65024 2235, .int 65025 2236, .int 65026 2237, .int 65027 2238, .int 65028 2239, .int 65029 2240, .int 65030 2241, .int 65031 2242, .int 65032 2243, .int 65033 2244, .int 65034 2245, .int 65035 2246, .int 65036 2247, .int 65037 2248, .int 65038 2249, .int 65039 2250, .int 173 2251, .int 847 2252, .int 6150 2253, .int 6155 2254, .int 6156 2255, .int 6157 2256, .int 8203 2257, .int 8204 2258, .int 8205 2259, .int 8288 2260, .int 65279 2261] 0, #[]⟩
noncomputable def o94d (P : Params) : Obj := ⟨.type "tuple", none, .seq #[] 0, #[]⟩
noncomputable def o95d (P : Params) : Obj := ⟨.none, none, .fields #[], #[]⟩
noncomputable def o96d (P : Params) : Obj := ⟨.type "tuple", none, .seq #[.str (Str.ofString "total") 2266, .str (Str.ofString "which") 2267, .str (Str.ofString "code") 2268, .str (Str.ofString "starts") 2269] 0, #[]⟩
noncomputable def o97d (P : Params) : Obj := ⟨.type "tuple", none, .seq #[] 0, #[]⟩
noncomputable def o98d (P : Params) : Obj := ⟨.none, none, .func { name := (Str.ofString "_law_seen"), qualname := (Str.ofString "_law_seen"), params := fdArgs (stm 10), body := .stmts (fdBody (stm 10)), scope := fdScope (stm 10), globals := 0, closure := [], defaults := .none, kwdefaults := .none, doc := .none, pyModule := .none, annotations := none, code := .none, closureTuple := .none, builtins := 0 }, #[]⟩
noncomputable def o99d (P : Params) : Obj := ⟨.type "code", none, .fields #[.str (Str.ofString "_law_seen") 2263, .str (Str.ofString "_law_seen") 2264, .str (Str.ofString "/claim/cut.py") 2265, .int 24 0, .int 1 0, .int 0 0, .int 0 0, .int 3 0, .ref 94, .bool true, .int 181 0, .ref 95, .none, .ref 96, .ref 97, .ref 98, .int 2270 0, .int 24 0, .str (Str.ofString "/claim/cut.py") 2271], #[]⟩
noncomputable def o100d (P : Params) : Obj := ⟨.type "function", none, .func { name := (Str.ofString "_law_seen"), qualname := (Str.ofString "_law_seen"), params := fdArgs (stm 10), body := .stmts (fdBody (stm 10)), scope := fdScope (stm 10), globals := 3, closure := [], defaults := .none, kwdefaults := .none, doc := .none, pyModule := .str (Str.ofString "law_kl0164_01") 2227, annotations := none, code := .ref 99, closureTuple := .none, builtins := 0 }, #[]⟩
noncomputable def o101d (P : Params) : Obj := ⟨.type "tuple", none, .seq #[] 0, #[]⟩
noncomputable def o102d (P : Params) : Obj := ⟨.none, none, .fields #[], #[]⟩
noncomputable def o103d (P : Params) : Obj := ⟨.type "tuple", none, .seq #[.str (Str.ofString "figures") 2276, .str (Str.ofString "number") 2277, .str (Str.ofString "figure") 2278] 0, #[]⟩
noncomputable def o104d (P : Params) : Obj := ⟨.type "tuple", none, .seq #[] 0, #[]⟩
noncomputable def o105d (P : Params) : Obj := ⟨.none, none, .func { name := (Str.ofString "_law_sum"), qualname := (Str.ofString "_law_sum"), params := fdArgs (stm 11), body := .stmts (fdBody (stm 11)), scope := fdScope (stm 11), globals := 0, closure := [], defaults := .none, kwdefaults := .none, doc := .none, pyModule := .none, annotations := none, code := .none, closureTuple := .none, builtins := 0 }, #[]⟩
noncomputable def o106d (P : Params) : Obj := ⟨.type "code", none, .fields #[.str (Str.ofString "_law_sum") 2273, .str (Str.ofString "_law_sum") 2274, .str (Str.ofString "/claim/cut.py") 2275, .int 31 0, .int 1 0, .int 0 0, .int 0 0, .int 3 0, .ref 101, .bool true, .int 181 0, .ref 102, .none, .ref 103, .ref 104, .ref 105, .int 2279 0, .int 31 0, .str (Str.ofString "/claim/cut.py") 2280], #[]⟩
noncomputable def o107d (P : Params) : Obj := ⟨.type "function", none, .func { name := (Str.ofString "_law_sum"), qualname := (Str.ofString "_law_sum"), params := fdArgs (stm 11), body := .stmts (fdBody (stm 11)), scope := fdScope (stm 11), globals := 3, closure := [], defaults := .none, kwdefaults := .none, doc := .none, pyModule := .str (Str.ofString "law_kl0164_01") 2227, annotations := none, code := .ref 106, closureTuple := .none, builtins := 0 }, #[]⟩
noncomputable def tree_d (P : Params) : BT := (.node (boot_o_0 P) (.node (boot_o_1 P) (.node (o3d P) (.node (boot_o_7 P) (.node (o15b P) (.node (o31b P) (.node (o63c P) .nil .nil) (.node (o95d P) .nil .nil)) (.node (o47c P) (.node (o79d P) .nil .nil) .nil)) (.node (o23b P) (.node (o39c P) (.node (o71c P) .nil .nil) (.node (o103d P) .nil .nil)) (.node (o55c P) (.node (o87d P) .nil .nil) .nil))) (.node (o11a P) (.node (o19b P) (.node (o35c P) (.node (o67c P) .nil .nil) (.node (o99d P) .nil .nil)) (.node (o51c P) (.node (o83d P) .nil .nil) .nil)) (.node (o27b P) (.node (o43c P) (.node (o75d P) .nil .nil) (.node (o107d P) .nil .nil)) (.node (o59c P) (.node (o91d P) .nil .nil) .nil)))) (.node (boot_o_5 P) (.node (boot_o_9 P) (.node (o17b P) (.node (o33c P) (.node (o65c P) .nil .nil) (.node (o97d P) .nil .nil)) (.node (o49c P) (.node (o81d P) .nil .nil) .nil)) (.node (o25b P) (.node (o41c P) (.node (o73d P) .nil .nil) (.node (o105d P) .nil .nil)) (.node (o57c P) (.node (o89d P) .nil .nil) .nil))) (.node (o13a P) (.node (o21b P) (.node (o37c P) (.node (o69c P) .nil .nil) (.node (o101d P) .nil .nil)) (.node (o53c P) (.node (o85d P) .nil .nil) .nil)) (.node (o29b P) (.node (o45c P) (.node (o77d P) .nil .nil) .nil) (.node (o61c P) (.node (o93d P) .nil .nil) .nil))))) (.node (boot_o_2 P) (.node (boot_o_4 P) (.node (boot_o_8 P) (.node (o16b P) (.node (o32b P) (.node (o64c P) .nil .nil) (.node (o96d P) .nil .nil)) (.node (o48c P) (.node (o80d P) .nil .nil) .nil)) (.node (o24b P) (.node (o40c P) (.node (o72d P) .nil .nil) (.node (o104d P) .nil .nil)) (.node (o56c P) (.node (o88d P) .nil .nil) .nil))) (.node (o12d P) (.node (o20b P) (.node (o36c P) (.node (o68c P) .nil .nil) (.node (o100d P) .nil .nil)) (.node (o52c P) (.node (o84d P) .nil .nil) .nil)) (.node (o28b P) (.node (o44c P) (.node (o76d P) .nil .nil) .nil) (.node (o60c P) (.node (o92d P) .nil .nil) .nil)))) (.node (boot_o_6 P) (.node (boot_o_10 P) (.node (o18b P) (.node (o34c P) (.node (o66c P) .nil .nil) (.node (o98d P) .nil .nil)) (.node (o50c P) (.node (o82d P) .nil .nil) .nil)) (.node (o26b P) (.node (o42c P) (.node (o74d P) .nil .nil) (.node (o106d P) .nil .nil)) (.node (o58c P) (.node (o90d P) .nil .nil) .nil))) (.node (o14a P) (.node (o22b P) (.node (o38c P) (.node (o70c P) .nil .nil) (.node (o102d P) .nil .nil)) (.node (o54c P) (.node (o86d P) .nil .nil) .nil)) (.node (o30b P) (.node (o46c P) (.node (o78d P) .nil .nil) .nil) (.node (o62c P) (.node (o94d P) .nil .nil) .nil))))))
noncomputable def st_d (w : World) (os : OsState) : SharedT := ⟨tree_d w.params, 108, topLife, #[], boot_drawn, 2282, os⟩
noncomputable abbrev pos_d : Pos := ⟨31, 0, 35, 17⟩
noncomputable def o3f (P : Params) : Obj := ⟨.type "dict", none, .dict #[⟨PyData.keyHash P (Str.ofString "__name__"), .str (Str.ofString "__name__") 165, .str (Str.ofString "law_kl0164_01") 2227⟩, ⟨PyData.keyHash P (Str.ofString "__doc__"), .str (Str.ofString "__doc__") 166, .none⟩, ⟨PyData.keyHash P (Str.ofString "__package__"), .str (Str.ofString "__package__") 167, .none⟩, ⟨PyData.keyHash P (Str.ofString "__loader__"), .str (Str.ofString "__loader__") 168, .builtin "__main__.__loader__#opaque"⟩, ⟨PyData.keyHash P (Str.ofString "__spec__"), .str (Str.ofString "__spec__") 169, .none⟩, ⟨PyData.keyHash P (Str.ofString "__annotations__"), .str (Str.ofString "__annotations__") 170, .ref 6⟩, ⟨PyData.keyHash P (Str.ofString "__builtins__"), .str (Str.ofString "__builtins__") 171, .ref 4⟩, ⟨PyData.keyHash P (Str.ofString "__file__"), .str (Str.ofString "__file__") 173, .str (Str.ofString "/claim/cut.py") 172⟩, ⟨PyData.keyHash P (Str.ofString "__cached__"), .str (Str.ofString "__cached__") 174, .none⟩, ⟨PyData.keyHash P (Str.ofString "b1_set"), .str (Str.ofString "b1_set") 248, .ref 22⟩, ⟨PyData.keyHash P (Str.ofString "in_table_b1"), .str (Str.ofString "in_table_b1") 255, .ref 32⟩, ⟨PyData.keyHash P (Str.ofString "b3_exceptions"), .str (Str.ofString "b3_exceptions") 2206, .ref 33⟩, ⟨PyData.keyHash P (Str.ofString "map_table_b3"), .str (Str.ofString "map_table_b3") 2214, .ref 78⟩, ⟨PyData.keyHash P (Str.ofString "Int2AP"), .str (Str.ofString "Int2AP") 2226, .ref 85⟩, ⟨PyData.keyHash P (Str.ofString "_LAW_SPELL"), .str (Str.ofString "_LAW_SPELL") 2234, .ref 92⟩, ⟨PyData.keyHash P (Str.ofString "_LAW_VEILS"), .str (Str.ofString "_LAW_VEILS") 2262, .ref 93⟩, ⟨PyData.keyHash P (Str.ofString "_law_seen"), .str (Str.ofString "_law_seen") 2272, .ref 100⟩, ⟨PyData.keyHash P (Str.ofString "_law_sum"), .str (Str.ofString "_law_sum") 2281, .ref 107⟩, ⟨PyData.keyHash P (Str.ofString "_law_read"), .str (Str.ofString "_law_read") 2287, .ref 112⟩, ⟨PyData.keyHash P (Str.ofString "_law_told"), .str (Str.ofString "_law_told") 2293, .ref 117⟩, ⟨PyData.keyHash P (Str.ofString "_law_step"), .str (Str.ofString "_law_step") 2304, .ref 124⟩, ⟨PyData.keyHash P (Str.ofString "_law_rows"), .str (Str.ofString "_law_rows") 2310, .ref 129⟩, ⟨PyData.keyHash P (Str.ofString "_law_text"), .str (Str.ofString "_law_text") 2316, .ref 134⟩, ⟨PyData.keyHash P (Str.ofString "_law_product"), .str (Str.ofString "_law_product") 2325, .ref 141⟩, ⟨PyData.keyHash P (Str.ofString "_law_orders"), .str (Str.ofString "_law_orders") 2331, .ref 146⟩, ⟨PyData.keyHash P (Str.ofString "_law_ways"), .str (Str.ofString "_law_ways") 2337, .ref 151⟩, ⟨PyData.keyHash P (Str.ofString "law"), .str (Str.ofString "law") 2343, .ref 156⟩] 27, #[]⟩
noncomputable def o12f (P : Params) : Obj := ⟨.none, none, .fields #[.int 3 0, .int 0 0, .ref 31, .int 6 0, .int 0 0, .ref 77, .int 12 0, .int 0 0, .ref 84, .int 21 0, .int 0 0, .ref 91, .int 24 0, .int 0 0, .ref 99, .int 31 0, .int 0 0, .ref 106, .int 36 0, .int 0 0, .ref 111, .int 39 0, .int 0 0, .ref 116, .int 46 0, .int 0 0, .ref 123, .int 54 0, .int 0 0, .ref 128, .int 59 0, .int 0 0, .ref 133, .int 64 0, .int 0 0, .ref 140, .int 69 0, .int 0 0, .ref 145, .int 74 0, .int 0 0, .ref 150, .int 84 0, .int 0 0, .ref 155], #[]⟩
noncomputable def o108f (P : Params) : Obj := ⟨.type "tuple", none, .seq #[] 0, #[]⟩
noncomputable def o109f (P : Params) : Obj := ⟨.none, none, .fields #[], #[]⟩
noncomputable def o110f (P : Params) : Obj := ⟨.none, none, .func { name := (Str.ofString "_law_read"), qualname := (Str.ofString "_law_read"), params := fdArgs (stm 12), body := .stmts (fdBody (stm 12)), scope := fdScope (stm 12), globals := 0, closure := [], defaults := .none, kwdefaults := .none, doc := .none, pyModule := .none, annotations := none, code := .none, closureTuple := .none, builtins := 0 }, #[]⟩
noncomputable def o111f (P : Params) : Obj := ⟨.type "code", none, .fields #[.str (Str.ofString "_law_read") 2282, .str (Str.ofString "_law_read") 2283, .str (Str.ofString "/claim/cut.py") 2284, .int 36 0, .int 1 0, .int 0 0, .int 0 0, .int 3 0, .ref 108, .bool true, .int 181 0, .ref 109, .none, .none, .none, .ref 110, .int 2285 0, .int 36 0, .str (Str.ofString "/claim/cut.py") 2286], #[]⟩
noncomputable def o112f (P : Params) : Obj := ⟨.type "function", none, .func { name := (Str.ofString "_law_read"), qualname := (Str.ofString "_law_read"), params := fdArgs (stm 12), body := .stmts (fdBody (stm 12)), scope := fdScope (stm 12), globals := 3, closure := [], defaults := .none, kwdefaults := .none, doc := .none, pyModule := .str (Str.ofString "law_kl0164_01") 2227, annotations := none, code := .ref 111, closureTuple := .none, builtins := 0 }, #[]⟩
noncomputable def o113f (P : Params) : Obj := ⟨.type "tuple", none, .seq #[] 0, #[]⟩
noncomputable def o114f (P : Params) : Obj := ⟨.none, none, .fields #[], #[]⟩
noncomputable def o115f (P : Params) : Obj := ⟨.none, none, .func { name := (Str.ofString "_law_told"), qualname := (Str.ofString "_law_told"), params := fdArgs (stm 13), body := .stmts (fdBody (stm 13)), scope := fdScope (stm 13), globals := 0, closure := [], defaults := .none, kwdefaults := .none, doc := .none, pyModule := .none, annotations := none, code := .none, closureTuple := .none, builtins := 0 }, #[]⟩
noncomputable def o116f (P : Params) : Obj := ⟨.type "code", none, .fields #[.str (Str.ofString "_law_told") 2288, .str (Str.ofString "_law_told") 2289, .str (Str.ofString "/claim/cut.py") 2290, .int 39 0, .int 1 0, .int 0 0, .int 0 0, .int 3 0, .ref 113, .bool true, .int 181 0, .ref 114, .none, .none, .none, .ref 115, .int 2291 0, .int 39 0, .str (Str.ofString "/claim/cut.py") 2292], #[]⟩
noncomputable def o117f (P : Params) : Obj := ⟨.type "function", none, .func { name := (Str.ofString "_law_told"), qualname := (Str.ofString "_law_told"), params := fdArgs (stm 13), body := .stmts (fdBody (stm 13)), scope := fdScope (stm 13), globals := 3, closure := [], defaults := .none, kwdefaults := .none, doc := .none, pyModule := .str (Str.ofString "law_kl0164_01") 2227, annotations := none, code := .ref 116, closureTuple := .none, builtins := 0 }, #[]⟩
noncomputable def o118f (P : Params) : Obj := ⟨.type "tuple", none, .seq #[] 0, #[]⟩
noncomputable def o119f (P : Params) : Obj := ⟨.none, none, .fields #[], #[]⟩
noncomputable def o120f (P : Params) : Obj := ⟨.type "tuple", none, .seq #[.str (Str.ofString "level") 2297, .str (Str.ofString "further") 2298, .str (Str.ofString "text") 2299, .str (Str.ofString "place") 2300, .str (Str.ofString "other") 2301] 0, #[]⟩
noncomputable def o121f (P : Params) : Obj := ⟨.type "tuple", none, .seq #[] 0, #[]⟩
noncomputable def o122f (P : Params) : Obj := ⟨.none, none, .func { name := (Str.ofString "_law_step"), qualname := (Str.ofString "_law_step"), params := fdArgs (stm 14), body := .stmts (fdBody (stm 14)), scope := fdScope (stm 14), globals := 0, closure := [], defaults := .none, kwdefaults := .none, doc := .none, pyModule := .none, annotations := none, code := .none, closureTuple := .none, builtins := 0 }, #[]⟩
noncomputable def o123f (P : Params) : Obj := ⟨.type "code", none, .fields #[.str (Str.ofString "_law_step") 2294, .str (Str.ofString "_law_step") 2295, .str (Str.ofString "/claim/cut.py") 2296, .int 46 0, .int 1 0, .int 0 0, .int 0 0, .int 3 0, .ref 118, .bool true, .int 181 0, .ref 119, .none, .ref 120, .ref 121, .ref 122, .int 2302 0, .int 46 0, .str (Str.ofString "/claim/cut.py") 2303], #[]⟩
noncomputable def o124f (P : Params) : Obj := ⟨.type "function", none, .func { name := (Str.ofString "_law_step"), qualname := (Str.ofString "_law_step"), params := fdArgs (stm 14), body := .stmts (fdBody (stm 14)), scope := fdScope (stm 14), globals := 3, closure := [], defaults := .none, kwdefaults := .none, doc := .none, pyModule := .str (Str.ofString "law_kl0164_01") 2227, annotations := none, code := .ref 123, closureTuple := .none, builtins := 0 }, #[]⟩
noncomputable def o125f (P : Params) : Obj := ⟨.type "tuple", none, .seq #[] 0, #[]⟩
noncomputable def o126f (P : Params) : Obj := ⟨.none, none, .fields #[], #[]⟩
noncomputable def o127f (P : Params) : Obj := ⟨.none, none, .func { name := (Str.ofString "_law_rows"), qualname := (Str.ofString "_law_rows"), params := fdArgs (stm 15), body := .stmts (fdBody (stm 15)), scope := fdScope (stm 15), globals := 0, closure := [], defaults := .none, kwdefaults := .none, doc := .none, pyModule := .none, annotations := none, code := .none, closureTuple := .none, builtins := 0 }, #[]⟩
noncomputable def o128f (P : Params) : Obj := ⟨.type "code", none, .fields #[.str (Str.ofString "_law_rows") 2305, .str (Str.ofString "_law_rows") 2306, .str (Str.ofString "/claim/cut.py") 2307, .int 54 0, .int 2 0, .int 0 0, .int 0 0, .int 3 0, .ref 125, .bool true, .int 181 0, .ref 126, .none, .none, .none, .ref 127, .int 2308 0, .int 54 0, .str (Str.ofString "/claim/cut.py") 2309], #[]⟩
noncomputable def o129f (P : Params) : Obj := ⟨.type "function", none, .func { name := (Str.ofString "_law_rows"), qualname := (Str.ofString "_law_rows"), params := fdArgs (stm 15), body := .stmts (fdBody (stm 15)), scope := fdScope (stm 15), globals := 3, closure := [], defaults := .none, kwdefaults := .none, doc := .none, pyModule := .str (Str.ofString "law_kl0164_01") 2227, annotations := none, code := .ref 128, closureTuple := .none, builtins := 0 }, #[]⟩
noncomputable def o130f (P : Params) : Obj := ⟨.type "tuple", none, .seq #[] 0, #[]⟩
noncomputable def o131f (P : Params) : Obj := ⟨.none, none, .fields #[], #[]⟩
noncomputable def o132f (P : Params) : Obj := ⟨.none, none, .func { name := (Str.ofString "_law_text"), qualname := (Str.ofString "_law_text"), params := fdArgs (stm 16), body := .stmts (fdBody (stm 16)), scope := fdScope (stm 16), globals := 0, closure := [], defaults := .none, kwdefaults := .none, doc := .none, pyModule := .none, annotations := none, code := .none, closureTuple := .none, builtins := 0 }, #[]⟩
noncomputable def o133f (P : Params) : Obj := ⟨.type "code", none, .fields #[.str (Str.ofString "_law_text") 2311, .str (Str.ofString "_law_text") 2312, .str (Str.ofString "/claim/cut.py") 2313, .int 59 0, .int 3 0, .int 0 0, .int 0 0, .int 3 0, .ref 130, .bool true, .int 181 0, .ref 131, .none, .none, .none, .ref 132, .int 2314 0, .int 59 0, .str (Str.ofString "/claim/cut.py") 2315], #[]⟩
noncomputable def o134f (P : Params) : Obj := ⟨.type "function", none, .func { name := (Str.ofString "_law_text"), qualname := (Str.ofString "_law_text"), params := fdArgs (stm 16), body := .stmts (fdBody (stm 16)), scope := fdScope (stm 16), globals := 3, closure := [], defaults := .none, kwdefaults := .none, doc := .none, pyModule := .str (Str.ofString "law_kl0164_01") 2227, annotations := none, code := .ref 133, closureTuple := .none, builtins := 0 }, #[]⟩
noncomputable def o135f (P : Params) : Obj := ⟨.type "tuple", none, .seq #[] 0, #[]⟩
noncomputable def o136f (P : Params) : Obj := ⟨.none, none, .fields #[], #[]⟩
noncomputable def o137f (P : Params) : Obj := ⟨.type "tuple", none, .seq #[.str (Str.ofString "number") 2320, .str (Str.ofString "product") 2321, .str (Str.ofString "k") 2322] 0, #[]⟩
noncomputable def o138f (P : Params) : Obj := ⟨.type "tuple", none, .seq #[] 0, #[]⟩
noncomputable def o139f (P : Params) : Obj := ⟨.none, none, .func { name := (Str.ofString "_law_product"), qualname := (Str.ofString "_law_product"), params := fdArgs (stm 17), body := .stmts (fdBody (stm 17)), scope := fdScope (stm 17), globals := 0, closure := [], defaults := .none, kwdefaults := .none, doc := .none, pyModule := .none, annotations := none, code := .none, closureTuple := .none, builtins := 0 }, #[]⟩
noncomputable def o140f (P : Params) : Obj := ⟨.type "code", none, .fields #[.str (Str.ofString "_law_product") 2317, .str (Str.ofString "_law_product") 2318, .str (Str.ofString "/claim/cut.py") 2319, .int 64 0, .int 1 0, .int 0 0, .int 0 0, .int 3 0, .ref 135, .bool true, .int 181 0, .ref 136, .none, .ref 137, .ref 138, .ref 139, .int 2323 0, .int 64 0, .str (Str.ofString "/claim/cut.py") 2324], #[]⟩
noncomputable def o141f (P : Params) : Obj := ⟨.type "function", none, .func { name := (Str.ofString "_law_product"), qualname := (Str.ofString "_law_product"), params := fdArgs (stm 17), body := .stmts (fdBody (stm 17)), scope := fdScope (stm 17), globals := 3, closure := [], defaults := .none, kwdefaults := .none, doc := .none, pyModule := .str (Str.ofString "law_kl0164_01") 2227, annotations := none, code := .ref 140, closureTuple := .none, builtins := 0 }, #[]⟩
noncomputable def o142f (P : Params) : Obj := ⟨.type "tuple", none, .seq #[] 0, #[]⟩
noncomputable def o143f (P : Params) : Obj := ⟨.none, none, .fields #[], #[]⟩
noncomputable def o144f (P : Params) : Obj := ⟨.none, none, .func { name := (Str.ofString "_law_orders"), qualname := (Str.ofString "_law_orders"), params := fdArgs (stm 18), body := .stmts (fdBody (stm 18)), scope := fdScope (stm 18), globals := 0, closure := [], defaults := .none, kwdefaults := .none, doc := .none, pyModule := .none, annotations := none, code := .none, closureTuple := .none, builtins := 0 }, #[]⟩
noncomputable def o145f (P : Params) : Obj := ⟨.type "code", none, .fields #[.str (Str.ofString "_law_orders") 2326, .str (Str.ofString "_law_orders") 2327, .str (Str.ofString "/claim/cut.py") 2328, .int 69 0, .int 1 0, .int 0 0, .int 0 0, .int 3 0, .ref 142, .bool true, .int 181 0, .ref 143, .none, .none, .none, .ref 144, .int 2329 0, .int 69 0, .str (Str.ofString "/claim/cut.py") 2330], #[]⟩
noncomputable def o146f (P : Params) : Obj := ⟨.type "function", none, .func { name := (Str.ofString "_law_orders"), qualname := (Str.ofString "_law_orders"), params := fdArgs (stm 18), body := .stmts (fdBody (stm 18)), scope := fdScope (stm 18), globals := 3, closure := [], defaults := .none, kwdefaults := .none, doc := .none, pyModule := .str (Str.ofString "law_kl0164_01") 2227, annotations := none, code := .ref 145, closureTuple := .none, builtins := 0 }, #[]⟩
noncomputable def o147f (P : Params) : Obj := ⟨.type "tuple", none, .seq #[] 0, #[]⟩
noncomputable def o148f (P : Params) : Obj := ⟨.none, none, .fields #[], #[]⟩
noncomputable def o149f (P : Params) : Obj := ⟨.none, none, .func { name := (Str.ofString "_law_ways"), qualname := (Str.ofString "_law_ways"), params := fdArgs (stm 19), body := .stmts (fdBody (stm 19)), scope := fdScope (stm 19), globals := 0, closure := [], defaults := .none, kwdefaults := .none, doc := .none, pyModule := .none, annotations := none, code := .none, closureTuple := .none, builtins := 0 }, #[]⟩
noncomputable def o150f (P : Params) : Obj := ⟨.type "code", none, .fields #[.str (Str.ofString "_law_ways") 2332, .str (Str.ofString "_law_ways") 2333, .str (Str.ofString "/claim/cut.py") 2334, .int 74 0, .int 3 0, .int 0 0, .int 0 0, .int 3 0, .ref 147, .bool true, .int 181 0, .ref 148, .none, .none, .none, .ref 149, .int 2335 0, .int 74 0, .str (Str.ofString "/claim/cut.py") 2336], #[]⟩
noncomputable def o151f (P : Params) : Obj := ⟨.type "function", none, .func { name := (Str.ofString "_law_ways"), qualname := (Str.ofString "_law_ways"), params := fdArgs (stm 19), body := .stmts (fdBody (stm 19)), scope := fdScope (stm 19), globals := 3, closure := [], defaults := .none, kwdefaults := .none, doc := .none, pyModule := .str (Str.ofString "law_kl0164_01") 2227, annotations := none, code := .ref 150, closureTuple := .none, builtins := 0 }, #[]⟩
noncomputable def o152f (P : Params) : Obj := ⟨.type "tuple", none, .seq #[] 0, #[]⟩
noncomputable def o153f (P : Params) : Obj := ⟨.none, none, .fields #[], #[]⟩
noncomputable def o154f (P : Params) : Obj := ⟨.none, none, .func { name := (Str.ofString "law"), qualname := (Str.ofString "law"), params := fdArgs (stm 20), body := .stmts (fdBody (stm 20)), scope := fdScope (stm 20), globals := 0, closure := [], defaults := .none, kwdefaults := .none, doc := .none, pyModule := .none, annotations := none, code := .none, closureTuple := .none, builtins := 0 }, #[]⟩
noncomputable def o155f (P : Params) : Obj := ⟨.type "code", none, .fields #[.str (Str.ofString "law") 2338, .str (Str.ofString "law") 2339, .str (Str.ofString "/claim/cut.py") 2340, .int 84 0, .int 1 0, .int 0 0, .int 0 0, .int 3 0, .ref 152, .bool true, .int 181 0, .ref 153, .none, .none, .none, .ref 154, .int 2341 0, .int 84 0, .str (Str.ofString "/claim/cut.py") 2342], #[]⟩
noncomputable def o156f (P : Params) : Obj := ⟨.type "function", none, .func { name := (Str.ofString "law"), qualname := (Str.ofString "law"), params := fdArgs (stm 20), body := .stmts (fdBody (stm 20)), scope := fdScope (stm 20), globals := 3, closure := [], defaults := .none, kwdefaults := .none, doc := .none, pyModule := .str (Str.ofString "law_kl0164_01") 2227, annotations := none, code := .ref 155, closureTuple := .none, builtins := 0 }, #[]⟩
noncomputable def tree_f (P : Params) : BT := (.node (boot_o_0 P) (.node (boot_o_1 P) (.node (o3f P) (.node (boot_o_7 P) (.node (o15b P) (.node (o31b P) (.node (o63c P) (.node (o127f P) .nil .nil) .nil) (.node (o95d P) .nil .nil)) (.node (o47c P) (.node (o79d P) (.node (o143f P) .nil .nil) .nil) (.node (o111f P) .nil .nil))) (.node (o23b P) (.node (o39c P) (.node (o71c P) (.node (o135f P) .nil .nil) .nil) (.node (o103d P) .nil .nil)) (.node (o55c P) (.node (o87d P) (.node (o151f P) .nil .nil) .nil) (.node (o119f P) .nil .nil)))) (.node (o11a P) (.node (o19b P) (.node (o35c P) (.node (o67c P) (.node (o131f P) .nil .nil) .nil) (.node (o99d P) .nil .nil)) (.node (o51c P) (.node (o83d P) (.node (o147f P) .nil .nil) .nil) (.node (o115f P) .nil .nil))) (.node (o27b P) (.node (o43c P) (.node (o75d P) (.node (o139f P) .nil .nil) .nil) (.node (o107d P) .nil .nil)) (.node (o59c P) (.node (o91d P) (.node (o155f P) .nil .nil) .nil) (.node (o123f P) .nil .nil))))) (.node (boot_o_5 P) (.node (boot_o_9 P) (.node (o17b P) (.node (o33c P) (.node (o65c P) (.node (o129f P) .nil .nil) .nil) (.node (o97d P) .nil .nil)) (.node (o49c P) (.node (o81d P) (.node (o145f P) .nil .nil) .nil) (.node (o113f P) .nil .nil))) (.node (o25b P) (.node (o41c P) (.node (o73d P) (.node (o137f P) .nil .nil) .nil) (.node (o105d P) .nil .nil)) (.node (o57c P) (.node (o89d P) (.node (o153f P) .nil .nil) .nil) (.node (o121f P) .nil .nil)))) (.node (o13a P) (.node (o21b P) (.node (o37c P) (.node (o69c P) (.node (o133f P) .nil .nil) .nil) (.node (o101d P) .nil .nil)) (.node (o53c P) (.node (o85d P) (.node (o149f P) .nil .nil) .nil) (.node (o117f P) .nil .nil))) (.node (o29b P) (.node (o45c P) (.node (o77d P) (.node (o141f P) .nil .nil) .nil) (.node (o109f P) .nil .nil)) (.node (o61c P) (.node (o93d P) .nil .nil) (.node (o125f P) .nil .nil)))))) (.node (boot_o_2 P) (.node (boot_o_4 P) (.node (boot_o_8 P) (.node (o16b P) (.node (o32b P) (.node (o64c P) (.node (o128f P) .nil .nil) .nil) (.node (o96d P) .nil .nil)) (.node (o48c P) (.node (o80d P) (.node (o144f P) .nil .nil) .nil) (.node (o112f P) .nil .nil))) (.node (o24b P) (.node (o40c P) (.node (o72d P) (.node (o136f P) .nil .nil) .nil) (.node (o104d P) .nil .nil)) (.node (o56c P) (.node (o88d P) (.node (o152f P) .nil .nil) .nil) (.node (o120f P) .nil .nil)))) (.node (o12f P) (.node (o20b P) (.node (o36c P) (.node (o68c P) (.node (o132f P) .nil .nil) .nil) (.node (o100d P) .nil .nil)) (.node (o52c P) (.node (o84d P) (.node (o148f P) .nil .nil) .nil) (.node (o116f P) .nil .nil))) (.node (o28b P) (.node (o44c P) (.node (o76d P) (.node (o140f P) .nil .nil) .nil) (.node (o108f P) .nil .nil)) (.node (o60c P) (.node (o92d P) (.node (o156f P) .nil .nil) .nil) (.node (o124f P) .nil .nil))))) (.node (boot_o_6 P) (.node (boot_o_10 P) (.node (o18b P) (.node (o34c P) (.node (o66c P) (.node (o130f P) .nil .nil) .nil) (.node (o98d P) .nil .nil)) (.node (o50c P) (.node (o82d P) (.node (o146f P) .nil .nil) .nil) (.node (o114f P) .nil .nil))) (.node (o26b P) (.node (o42c P) (.node (o74d P) (.node (o138f P) .nil .nil) .nil) (.node (o106d P) .nil .nil)) (.node (o58c P) (.node (o90d P) (.node (o154f P) .nil .nil) .nil) (.node (o122f P) .nil .nil)))) (.node (o14a P) (.node (o22b P) (.node (o38c P) (.node (o70c P) (.node (o134f P) .nil .nil) .nil) (.node (o102d P) .nil .nil)) (.node (o54c P) (.node (o86d P) (.node (o150f P) .nil .nil) .nil) (.node (o118f P) .nil .nil))) (.node (o30b P) (.node (o46c P) (.node (o78d P) (.node (o142f P) .nil .nil) .nil) (.node (o110f P) .nil .nil)) (.node (o62c P) (.node (o94d P) .nil .nil) (.node (o126f P) .nil .nil)))))))
noncomputable def st_f (w : World) (os : OsState) : SharedT := ⟨tree_f w.params, 157, topLife, #[], boot_drawn, 2344, os⟩
noncomputable abbrev pos_f : Pos := ⟨84, 0, 103, 55⟩
end
end Mine
set_option maxRecDepth 1000000
set_option Elab.async false
namespace Mine
open PySem PySem.W PySem.Calls PyProof.Rows
/-- the run of a part of the top, in steps -/
noncomputable def R {α : Type} (w : World) (B : Nat) (x : Sem α) (s : Shared) (a : α) (s' : Shared) : Prop :=
  ∀ (K : α → Sem PySem.Fin) (H : Value → Sem PySem.Fin) (gd : Bool → Bool) (lv : List Value → List Value) (c : Code) (p : Pos) (F : Frame) (st : List Frame),
    ∃ n p', n ≤ B ∧ ∀ N r, topRun treeTable pw w 11 topAnn N s' ⟨K a, c, p', F :: st⟩ = some r → topRun treeTable pw w 11 topAnn (n + N) s ⟨x.wrap K H gd lv, c, p, F :: st⟩ = some r
section
variable {w : World} {α β : Type} {s s' s'' : Shared} {B B' : Nat}
theorem R.pure (a : α) : R w 0 (Pure.pure a : Sem α) s a s := fun K H gd lv c p F st => ⟨0, p, Nat.le_refl _, fun N r h => by rw [Nat.zero_add]; exact h⟩
theorem R.bind {x : Sem α} {f : α → Sem β} {a : α} {b : β} (h1 : R w B x s a s') (h2 : R w B' (f a) s' b s'') : R w (B + B') (x >>= f) s b s'' := fun K H gd lv c p F st => by
  obtain ⟨n, p', hn, k⟩ := h1 (fun a => (f a).wrap K H gd lv) H gd lv c p F st
  obtain ⟨n', p'', hn', k'⟩ := h2 K H gd lv c p' F st
  refine ⟨n + n', p'', by omega, fun N r h => ?_⟩
  have e : (x >>= f).wrap K H gd lv = x.wrap (fun a => (f a).wrap K H gd lv) H gd lv := by
    rw [Sem.bind_eq_wrap', Sem.wrap_wrap]; rfl
  rw [e, Nat.add_assoc]
  exact k _ _ (k' N r h)
theorem R.le {x : Sem α} {a : α} (h : R w B x s a s') (hB : B ≤ B') : R w B' x s a s' := fun K H gd lv c p F st => by
  obtain ⟨n, p', hn, k⟩ := h K H gd lv c p F st
  exact ⟨n, p', Nat.le_trans hn hB, k⟩
theorem R.keep {x : Sem α} {a : α} (vs : List Value) (h : R w B x s a s') : R w B (x.keep vs) s a s' := fun K H gd lv c p F st => by
  obtain ⟨n, p', hn, k⟩ := h K H gd (fun l => lv (vs ++ l)) c p F st
  refine ⟨n, p', hn, fun N r hr => ?_⟩
  have e : (x.keep vs).wrap K H gd lv = x.wrap K H gd (fun l => lv (vs ++ l)) := by
    rw [Sem.keep_eq_wrap, Sem.wrap_wrap]; rfl
  rw [e]; exact k N r hr
theorem R.holding {x : Sem α} {a : α} (vs : List Value) (h : R w B x s a s') : R w B (holding vs x) s a s' := by
  unfold PySem.holding
  split
  · exact h
  · exact h.keep _
theorem topRun_step {t t' : Thread} {r : Shared} {N : Nat} (h1 : through t = false) (h2 : stepOk 11 topAnn t = true) (h3 : step (denote treeTable) pw w s t = .go s' t') (h : topRun treeTable pw w 11 topAnn N s' t' = some r) :
    topRun treeTable pw w 11 topAnn (1 + N) s t = some r := by
  rw [Nat.add_comm]
  unfold topRun
  rw [h1, h2, h3]
  exact h
theorem R.standAt (q : Pos) : R w 1 (standAt q) s () s := fun K H gd lv c p F st => ⟨1, q, Nat.le_refl _, fun N r h => topRun_step (by rfl) (by rfl) (by rfl) h⟩
theorem R.rule (q : String) : R w 1 (rule q) s () s := fun K H gd lv c p F st => ⟨1, p, Nat.le_refl _, fun N r h => topRun_step (by rfl) (by rfl) (by rfl) h⟩
theorem R.mkInt (i : Int) {h : Heap} {g : Array GenState} {d : Drawn} {t : Nat} {os : OsState} : R w 1 (mkInt i) ⟨h, g, d, t, os⟩ (.int i t) ⟨h, g, d, t + 1, os⟩ := fun K H gd lv c p F st => ⟨1, p, Nat.le_refl _, fun N r h => topRun_step (by rfl) (by rfl) (by rfl) h⟩
theorem R.mkText (x : Str) {h : Heap} {g : Array GenState} {d : Drawn} {t : Nat} {os : OsState} : R w 1 (mkText x) ⟨h, g, d, t, os⟩ (.str x t) ⟨h, g, d, t + 1, os⟩ := fun K H gd lv c p F st => ⟨1, p, Nat.le_refl _, fun N r h => topRun_step (by rfl) (by rfl) (by rfl) h⟩
theorem R.alloc (o : Obj) {h : Heap} {g : Array GenState} {d : Drawn} {t : Nat} {os : OsState} : R w 1 (alloc o) ⟨h, g, d, t, os⟩ h.objs.size ⟨h.push o, g, d, t, os⟩ := fun K H gd lv c p F st => ⟨1, p, Nat.le_refl _, fun N r h => topRun_step (by rfl) (by rfl) (by rfl) h⟩
theorem R.loadPart {a : Addr} {part : Option Value} {o : Obj} {h : Heap} {g : Array GenState} {d : Drawn} {t : Nat} {os : OsState} (ho : h.get? a = some o) : R w 1 (loadPart a part) ⟨h, g, d, t, os⟩ o ⟨h, g, d, t, os⟩ :=
  fun K H gd lv c p F st => ⟨1, p, Nat.le_refl _, fun N r h => topRun_step (t' := ⟨K o, c, p, F :: st⟩) (by rfl) (by rfl) (by show step _ _ _ _ ⟨.load _ _ _, _, _, _⟩ = _; simp only [step, ho]; rfl) h⟩
theorem R.updatePart {a : Addr} {part : Option Value} {f : Obj → Obj} {o : Obj} {h : Heap} {g : Array GenState} {d : Drawn} {t : Nat} {os : OsState} (ho : h.get? a = some o) (ha : 11 ≤ a) :
    R w 1 (updatePart a part f) ⟨h, g, d, t, os⟩ () ⟨h.update a f, g, d, t, os⟩ :=
  fun K H gd lv c p F st => ⟨1, p, Nat.le_refl _, fun N r h => topRun_step (t' := ⟨K (), c, p, F :: st⟩) (by rfl)
    (by
      show (Thread.calm ⟨.update a part f _, c, p, F :: st⟩ && (Nat.ble 11 a || a == mainNs || a == cStatics || topAnn == some (.ref a))) = true
      rw [Nat.ble_eq_true_of_le ha]; rfl)
    (by show step _ _ _ _ ⟨.update _ _ _ _, _, _, _⟩ = _; simp only [step, ho, Option.isSome_some, if_true]; rfl) h⟩
end
theorem hash_go (w : World) : ∀ (h : Heap) (g : Array GenState) (d : Drawn) (tk : Nat) (os : OsState) (k : Int) (t : Tok) (K : Int → Sem PySem.Fin) (H : Value → Sem PySem.Fin) (gd : Bool → Bool) (lv : List Value → List Value) (c : Code) (p : Pos) (F : Frame) (st : List Frame),
   topGo treeTable pw w 11 topAnn 5 ⟨h, g, d, tk, os⟩ ⟨(pyHash (.int k t)).wrap K H gd lv, c, p, F :: st⟩ = some (⟨h, g, d, tk + 1, os⟩, ⟨(pyHashByItsType.reduced (rawHash k)).wrap K H gd lv, c, p, F :: st⟩) :=
  byRow2 (P := fun w => ∀ (h : Heap) (g : Array GenState) (d : Drawn) (tk : Nat) (os : OsState) (k : Int) (t : Tok) (K : Int → Sem PySem.Fin) (H : Value → Sem PySem.Fin) (gd : Bool → Bool) (lv : List Value → List Value) (c : Code) (p : Pos) (F : Frame) (st : List Frame),
   topGo treeTable pw w 11 topAnn 5 ⟨h, g, d, tk, os⟩ ⟨(pyHash (.int k t)).wrap K H gd lv, c, p, F :: st⟩ = some (⟨h, g, d, tk + 1, os⟩, ⟨(pyHashByItsType.reduced (rawHash k)).wrap K H gd lv, c, p, F :: st⟩)) "special-get-raises"
   (fun w h g d tk os k t K H gd lv c p F st => by kernel_rfl) (fun w h g d tk os k t K H gd lv c p F st => by kernel_rfl) w
theorem hash_small {k : Int} (h0 : 0 ≤ k) (h1 : k < 2 ^ 60) : pyHashByItsType.reduced (rawHash k) = Pure.pure k := by
  have e : rawHash k = k := by
    unfold rawHash
    have : ((k.natAbs : Int) % ((2 ^ 61 - 1 : Nat) : Int)) = k := by omega
    have hk : ¬ k < 0 := by omega
    have hb : (k == -1) = false := beq_eq_false_iff_ne.mpr (by omega)
    simp only [this, hk, if_false, hb, Bool.false_eq_true]
  rw [e]
  unfold pyHashByItsType.reduced
  have a : (decide (-(2 ^ 63 : Int) ≤ k) && decide (k < 2 ^ 63)) = true := by
    rw [decide_eq_true (by omega), decide_eq_true (by omega)]; rfl
  have b : (k == -1) = false := beq_eq_false_iff_ne.mpr (by omega)
  rw [if_pos a, b]
  simp
theorem R.hash {w : World} {k : Int} {u : Tok} (h0 : 0 ≤ k) (h1 : k < 2 ^ 60) {h : Heap} {g : Array GenState} {d : Drawn} {t : Nat} {os : OsState} : R w 5 (pyHash (.int k u)) ⟨h, g, d, t, os⟩ k ⟨h, g, d, t + 1, os⟩ := fun K H gd lv c p F st =>
  ⟨5, p, Nat.le_refl _, fun N r hr => by
    have e := hash_go w h g d t os k u K H gd lv c p F st
    rw [hash_small h0 h1] at e
    exact go_top e hr⟩
noncomputable def entOf (k : Int) (v : Str) (t : Nat) : DictEntry := ⟨k, .int k t, .str v (t + 1)⟩
noncomputable def dictO (es : List DictEntry) (n : Nat) : Obj := ⟨.type "dict", none, .dict es.toArray n, #[]⟩
noncomputable def mkH (l : List Obj) : Heap := ⟨l.toArray, topLife⟩
theorem mkH_size (l : List Obj) : (mkH l).objs.size = l.length := rfl
theorem mkH_push (l : List Obj) (o : Obj) : (mkH l).push o = mkH (l ++ [o]) := by
  show Heap.mk (l.toArray.push o) _ = _
  simp [mkH]
theorem mkH_get {l : List Obj} {a : Nat} {es : List DictEntry} {n : Nat} (h : l[a]? = some (dictO es n)) : (mkH l).get? a = some (dictO es n) := by
  unfold Heap.get? mkH
  simp only [List.getElem?_toArray, h]
  rfl
theorem mkH_update (l : List Obj) (a : Nat) (f : Obj → Obj) : (mkH l).update a f = mkH (l.modify a f) := by
  show Heap.mk (l.toArray.modify a f) _ = _
  simp [mkH]
section
variable {w : World} {l : List Obj} {g : Array GenState} {d : Drawn} {t : Nat} {os : OsState} {a : Nat} {es : List DictEntry} {n : Nat}
theorem R.dictEntries {part : Option Value} (h : l[a]? = some (dictO es n)) : R w 1 (dictEntries a part) ⟨mkH l, g, d, t, os⟩ es.toArray ⟨mkH l, g, d, t, os⟩ := by
  unfold PySem.dictEntries
  exact (R.loadPart (mkH_get h)).bind (B' := 0) (R.pure _)
theorem R.dictEpoch {part : Option Value} (h : l[a]? = some (dictO es n)) : R w 1 (dictEpoch a part) ⟨mkH l, g, d, t, os⟩ n ⟨mkH l, g, d, t, os⟩ := by
  unfold PySem.dictEpoch
  exact (R.loadPart (mkH_get h)).bind (B' := 0) (R.pure _)
theorem R.pushKey {part : Option Value} {e : DictEntry} (h : l[a]? = some (dictO es n)) (ha : 11 ≤ a) (hz : es.length ≤ 1000) :
    R w 3 (updateDictKeys a (·.push e) part) ⟨mkH l, g, d, t, os⟩ () ⟨mkH (l.set a (dictO (es ++ [e]) (n + 1))), g, d, t, os⟩ := by
  unfold PySem.updateDictKeys
  refine (R.loadPart (mkH_get h)).bind (B' := 2) ?_
  dsimp only [dictO]
  refine (R.updatePart (mkH_get h) ha).bind (B' := 1) ?_
  have e1 : (mkH l).update a (Obj.mapDictKeys (·.push e)) = mkH (l.set a (dictO (es ++ [e]) (n + 1))) := by
    rw [mkH_update, List.modify_eq_set, h]
    simp [Obj.mapDictKeys, dictO]
  rw [e1]
  unfold lookBehind
  have hlt : a < l.length := (List.getElem?_eq_some_iff.mp h).1
  refine (R.loadPart (o := dictO (es ++ [e]) (n + 1)) (mkH_get (by rw [List.getElem?_set_self hlt]))).bind (B' := 0) ?_
  have hp : (dictO (es ++ [e]) (n + 1)).data.pastItsLine = none := pastItsLine_dict (by simp; rw [sizeLine_eq]; omega)
  rw [hp]
  exact R.pure _
theorem places_none {es : List DictEntry} {k : Int} (h : ∀ e ∈ es, e.hash ≠ k) : placesWithHash es.toArray.size (fun i => es.toArray[i]?.map (·.hash)) k = [] := by
  unfold placesWithHash
  rw [List.filter_eq_nil_iff]
  intro i hi
  simp only [List.getElem?_toArray]
  cases he : es[i]? with
  | none => simp
  | some e => simpa using h e (List.mem_of_getElem? he)
theorem R.find {k : Int} {u : Tok} (h : l[a]? = some (dictO es n)) (hn : ∀ e ∈ es, e.hash ≠ k) : R w 1 (dictFind a (.int k u) k) ⟨mkH l, g, d, t, os⟩ none ⟨mkH l, g, d, t, os⟩ := by
  unfold dictFind
  refine R.holding _ ?_
  refine (R.dictEntries h).bind (B' := 0) ?_
  dsimp only
  rw [places_none hn]
  exact R.pure _
theorem R.dictSet {k : Int} {u : Tok} {v : Value} (h0 : 0 ≤ k) (h1 : k < 2 ^ 60) (h : l[a]? = some (dictO es n)) (ha : 11 ≤ a) (hz : es.length ≤ 1000) (hn : ∀ e ∈ es, e.hash ≠ k) :
    R w 10 (dictSet a (.int k u) v) ⟨mkH l, g, d, t, os⟩ () ⟨mkH (l.set a (dictO (es ++ [⟨k, .int k u, v⟩]) (n + 1))), g, d, t + 1, os⟩ := by
  unfold PySem.dictSet dictSetHashed
  refine R.holding _ ((R.hash h0 h1).bind (B' := 5) (R.holding _ ((R.find h hn).bind (B' := 4) ?_)))
  exact (R.rule _).bind (B' := 3) (R.pushKey h ha hz)
end
end Mine
set_option maxRecDepth 1000000
set_option Elab.async false
namespace Mine
open PySem PySem.W PySem.Calls PyProof.Rows
noncomputable def pairT (pos : Pos) (p : Int × Str) : Sem Value × Sem Value := (mkInt p.1, do let x ← mkText p.2; standAt pos; pure x)
noncomputable def itemT (pos : Pos) (p : Int × Str) : Option (Sem Value) × Sem Value := (some (mkInt p.1), do let x ← mkText p.2; standAt pos; pure x)
noncomputable def Rises (lo : Int) : List (Int × Str) → Prop
  | [] => True
  | (k, _) :: r => lo < k ∧ k < 2 ^ 60 ∧ Rises k r
theorem ents3_length : ∀ (L : List (Int × Str)) (t : Nat), (ents3 L t).length = L.length
  | [], _ => rfl
  | (k, v) :: r, t => by simp [ents3, ents3_length r]
theorem ents2_length : ∀ (L : List (Int × Str)) (t : Nat), (ents2 L t).length = L.length
  | [], _ => rfl
  | (k, v) :: r, t => by simp [ents2, ents2_length r]
theorem r_mkV {w : World} (x : Str) (pos : Pos) {h : Heap} {g : Array GenState} {d : Drawn} {t : Nat} {os : OsState} : R w 2 (do let y ← mkText x; standAt pos; pure y) ⟨h, g, d, t, os⟩ (.str x t) ⟨h, g, d, t + 1, os⟩ :=
  (R.mkText x).bind (B' := 1) ((R.standAt pos).bind (B' := 0) (R.pure _))
section
variable {w : World} {g : Array GenState} {d : Drawn} {os : OsState}
theorem r_forIn_cons {α σ : Type} {x : α} {xs : List α} {f : α → σ → Sem (ForInStep σ)} {b b' b'' : σ} {B B' : Nat} {s s' s'' : Shared} (h1 : R w B (f x b) s (.yield b') s') (h2 : R w B' (forIn xs b' f) s' b'' s'') : R w (B + B') (forIn (x :: xs) b f) s b'' s'' := by
  rw [List.forIn_cons]
  exact h1.bind h2
theorem r_forIn_nil {α σ : Type} {f : α → σ → Sem (ForInStep σ)} {b : σ} {s : Shared} : R w 0 (forIn ([] : List α) b f) s b s := by
  rw [List.forIn_nil]
  exact R.pure _
theorem r_longLoop {a : Nat} {pos : Pos} (ha : 11 ≤ a) (f : (Sem Value × Sem Value) → PUnit → Sem (ForInStep PUnit)) (hf : ∀ k v u, f (k, v) u = (do let kv ← k; let vv ← holding [kv] v; holding [kv, vv] (dictSet a kv vv); pure (.yield ⟨⟩))) :
    ∀ (L : List (Int × Str)) (l : List Obj) (es : List DictEntry) (n t : Nat) (lo : Int), 0 ≤ lo → Rises lo L → (∀ e ∈ es, e.hash ≤ lo) → es.length + L.length ≤ 1000 → l[a]? = some (dictO es n) →
      R w (13 * L.length) (forIn (L.map (pairT pos)) ⟨⟩ f) ⟨mkH l, g, d, t, os⟩ ⟨⟩ ⟨mkH (l.set a (dictO (es ++ ents3 L t) (n + L.length))), g, d, t + 3 * L.length, os⟩
  | [], l, es, n, t, lo, _, _, _, _, h => by
    have hlt : a < l.length := (List.getElem?_eq_some_iff.mp h).1
    have e : l.set a (dictO es n) = l := by
      rw [← (List.getElem?_eq_some_iff.mp h).2]; exact List.set_getElem_self hlt
    simp only [ents3, List.append_nil, List.length_nil, Nat.add_zero, Nat.mul_zero, List.map_nil, e]
    exact r_forIn_nil
  | (k, v) :: r, l, es, n, t, lo, h0, hr, hes, hz, h => by
    obtain ⟨hk, hk2, hr⟩ := hr
    have hlt : a < l.length := (List.getElem?_eq_some_iff.mp h).1
    have ih := r_longLoop (pos := pos) ha f hf r (l.set a (dictO (es ++ [⟨k, .int k t, .str v (t + 1)⟩]) (n + 1))) (es ++ [⟨k, .int k t, .str v (t + 1)⟩]) (n + 1) (t + 3) k (by omega) hr
      (fun e he => by
        rcases List.mem_append.mp he with he | he
        · have := hes e he; omega
        · rw [List.mem_singleton.mp he]; exact Int.le_refl _) (by simp at hz ⊢; omega) (by rw [List.getElem?_set_self hlt])
    rw [List.set_set] at ih
    have step : R w 13 (f (pairT pos (k, v)) ⟨⟩) ⟨mkH l, g, d, t, os⟩ (.yield ⟨⟩) ⟨mkH (l.set a (dictO (es ++ [⟨k, .int k t, .str v (t + 1)⟩]) (n + 1))), g, d, t + 3, os⟩ := by
      unfold pairT
      rw [hf]
      refine (R.mkInt k).bind (B' := 12) ((R.holding _ (r_mkV v pos)).bind (B' := 10) (R.bind (B := 10) (B' := 0) (a := ()) (R.holding _ ?_) (R.pure _)))
      exact R.dictSet (by omega) hk2 h ha (by simp at hz; omega) fun e he => by have := hes e he; omega
    have z := r_forIn_cons step ih
    have e1 : es ++ [⟨k, .int k t, .str v (t + 1)⟩] ++ ents3 r (t + 3) = es ++ ents3 ((k, v) :: r) t := by simp [ents3]
    have e2 : n + 1 + r.length = n + ((k, v) :: r).length := by simp; omega
    have e3 : t + 3 + 3 * r.length = t + 3 * ((k, v) :: r).length := by simp; omega
    rw [e1, e2, e3] at z
    exact z.le (by simp; omega)
theorem r_subLong {pos : Pos} {L : List (Int × Str)} {l : List Obj} {t : Nat} {lo : Int} (h0 : 0 ≤ lo) (hr : Rises lo L) (hz : L.length ≤ 1000) (h15 : 15 < L.length) (hl : 11 ≤ l.length) :
    R w (2 + 13 * L.length) (subDict (L.map (pairT pos))) ⟨mkH l, g, d, t, os⟩ l.length ⟨mkH (l ++ [dictO (ents3 L t) L.length]), g, d, t + 3 * L.length, os⟩ := by
  unfold subDict
  refine ((R.alloc _).bind (B' := 1 + 13 * L.length) ?_).le (by omega)
  rw [mkH_push]
  refine R.bind (B := 1 + 13 * L.length) (B' := 0) (a := ()) (R.holding _ ?_) (R.pure _)
  rw [if_neg (by simp; omega)]
  refine (R.rule _).bind (B' := 13 * L.length) ?_
  refine R.bind (B := 13 * L.length) (B' := 0) (a := PUnit.unit) ?_ (R.pure _)
  have e : l ++ [dictO (ents3 L t) L.length] = (l ++ [dictO [] 0]).set l.length (dictO ([] ++ ents3 L t) (0 + L.length)) := by simp
  rw [e]
  exact r_longLoop (a := l.length) hl _ (fun k v u => rfl) L (l ++ [dictO [] 0]) [] 0 t lo h0 hr (fun _ h => by cases h) (by simpa using hz) (by simp)
end
end Mine
set_option maxRecDepth 1000000
set_option Elab.async false
namespace Mine
open PySem PySem.W PySem.Calls PyProof.Rows
theorem sub_dict : isSubtype (.type "dict") (.type "dict") = Pure.pure true := by kernel_rfl
theorem look_dict : typeLookup (.type "dict") "__iter__" = Pure.pure (some (.builtin "dict.__iter__")) := by kernel_rfl
section
variable {w : World} {g : Array GenState} {d : Drawn} {os : OsState} {l : List Obj} {t : Nat} {a m : Nat} {es fs : List DictEntry} {n k : Nat}
theorem r_typeOf {o : Obj} (h : (mkH l).get? a = some o) : R w 1 (typeOf (.ref a)) ⟨mkH l, g, d, t, os⟩ o.cls ⟨mkH l, g, d, t, os⟩ := by
  show R w 1 (do return (← loadPart a (some headPart)).cls) _ _ _
  exact (R.loadPart h).bind (B' := 0) (R.pure _)
theorem r_mergeLoop (ha : 11 ≤ a) (hm : m ≠ a) (f : Nat → PUnit → Sem (ForInStep PUnit))
    (hf : ∀ i u, f i u = (do
      let some e := (← dictEntries m)[i]? | unsupported "dict.changed-during-merge"
      holding [e.key, e.val] (dictPut a e.hash e.key e.val)
      if (← dictEpoch m) != k then unsupported "dict.changed-during-merge"
      pure (.yield ⟨⟩))) :
    ∀ (rest pre : List DictEntry) (l : List Obj) (es : List DictEntry) (n t : Nat), fs = pre ++ rest → (∀ e ∈ rest, ∃ u, e.key = .int e.hash u) → (∀ e ∈ rest, ∀ e' ∈ es, e'.hash ≠ e.hash) → (rest.map (·.hash)).Nodup → es.length + rest.length ≤ 1000 →
      l[m]? = some (dictO fs k) → l[a]? = some (dictO es n) →
      R w (6 * rest.length) (forIn (List.range' pre.length rest.length) ⟨⟩ f) ⟨mkH l, g, d, t, os⟩ ⟨⟩ ⟨mkH (l.set a (dictO (es ++ rest) (n + rest.length))), g, d, t, os⟩
  | [], pre, l, es, n, t, _, _, _, _, _, _, h => by
    have hlt : a < l.length := (List.getElem?_eq_some_iff.mp h).1
    have e : l.set a (dictO es n) = l := by
      rw [← (List.getElem?_eq_some_iff.mp h).2]; exact List.set_getElem_self hlt
    simp only [List.append_nil, List.length_nil, Nat.add_zero, Nat.mul_zero, List.range'_zero, e]
    exact r_forIn_nil
  | x :: r, pre, l, es, n, t, hfs, hkey, hne, hnd, hz, h1, h2 => by
    have hlt : a < l.length := (List.getElem?_eq_some_iff.mp h2).1
    obtain ⟨u, hu⟩ := hkey x (.head _)
    have hnd' := List.nodup_cons.mp hnd
    have ih := r_mergeLoop ha hm f hf r (pre ++ [x]) (l.set a (dictO (es ++ [x]) (n + 1))) (es ++ [x]) (n + 1) t (by simp [hfs]) (fun e he => hkey e (.tail _ he))
      (fun e he e' he' => by
        rcases List.mem_append.mp he' with he' | he'
        · exact hne e (.tail _ he) e' he'
        · rw [List.mem_singleton.mp he']
          intro q
          exact hnd'.1 (List.mem_map.mpr ⟨e, he, q.symm⟩))
      hnd'.2 (by simp at hz ⊢; omega) (by rw [List.getElem?_set_ne (Ne.symm hm)]; exact h1) (by rw [List.getElem?_set_self hlt])
    rw [List.set_set] at ih
    have hx : fs.toArray[pre.length]? = some x := by simp [hfs]
    have step : R w 6 (f pre.length ⟨⟩) ⟨mkH l, g, d, t, os⟩ (.yield ⟨⟩) ⟨mkH (l.set a (dictO (es ++ [x]) (n + 1))), g, d, t, os⟩ := by
      rw [hf]
      refine (R.dictEntries h1).bind (B' := 5) ?_
      simp only [hx]
      refine R.bind (B := 4) (B' := 1) (a := ()) (s' := ⟨mkH (l.set a (dictO (es ++ [x]) (n + 1))), g, d, t, os⟩) (R.holding _ ?_) ?_
      · unfold dictPut
        rw [hu]
        refine (R.find h2 fun e he => hne x (.head _) e he).bind (B' := 3) ?_
        have e : (⟨x.hash, .int x.hash u, x.val⟩ : DictEntry) = x := by cases x; simp only at hu; simp [hu]
        dsimp only
        rw [e]
        exact R.pushKey h2 ha (by simp at hz; omega)
      · refine (R.dictEpoch (l := l.set a (dictO (es ++ [x]) (n + 1))) (by rw [List.getElem?_set_ne (Ne.symm hm)]; exact h1)).bind (B' := 0) ?_
        have : (k != k) = false := by simp
        simp only [this, Bool.false_eq_true, if_false]
        exact R.pure _
    have z := r_forIn_cons (f := f) (xs := List.range' (pre.length + 1) r.length) (b'' := PUnit.unit) (s'' := ⟨mkH (l.set a (dictO (es ++ x :: r) (n + 1 + r.length))), g, d, t, os⟩) step (by simpa using ih)
    have e2 : n + 1 + r.length = n + (x :: r).length := by simp; omega
    rw [e2] at z
    have e3 : List.range' pre.length (x :: r).length = pre.length :: List.range' (pre.length + 1) r.length := by rw [List.length_cons, List.range'_succ]
    rw [e3]
    exact z.le (by simp; omega)
theorem r_merge (ha : 11 ≤ a) (hm : m ≠ a) (hms : (m == sysModules) = false) (hes : es ≠ []) (hkey : ∀ e ∈ fs, ∃ u, e.key = .int e.hash u) (hne : ∀ e ∈ fs, ∀ e' ∈ es, e'.hash ≠ e.hash) (hnd : (fs.map (·.hash)).Nodup) (hz : es.length + fs.length ≤ 1000)
    (h1 : l[m]? = some (dictO fs k)) (h2 : l[a]? = some (dictO es n)) :
    R w (5 + 6 * fs.length) (mergeMapping a (.ref m) false) ⟨mkH l, g, d, t, os⟩ () ⟨mkH (l.set a (dictO (es ++ fs) (n + fs.length))), g, d, t, os⟩ := by
  unfold mergeMapping isInstance specialOf
  have hT : R w 1 (typeOf (.ref m)) ⟨mkH l, g, d, t, os⟩ (.type "dict") ⟨mkH l, g, d, t, os⟩ := r_typeOf (mkH_get h1)
  dsimp only
  refine R.bind (B := 1) (B' := 4 + 6 * fs.length) (a := true) (hT.bind (B' := 0) (by rw [sub_dict]; exact R.pure _)) ?_ |>.le (by omega)
  simp only [if_true]
  refine R.bind (B := 1) (B' := 3 + 6 * fs.length) (a := some (.builtin "dict.__iter__")) (hT.bind (B' := 0) (by rw [look_dict]; exact R.pure _)) ?_ |>.le (by omega)
  have h0 : ((some (Value.builtin "dict.__iter__")) == some (Value.builtin "dict.__iter__")) = true := by decide
  rw [h0]
  refine R.bind (B := 0) (B' := 3 + 6 * fs.length) (a := true) (R.pure _) ?_ |>.le (by omega)
  dsimp only
  rw [hms]
  simp only [Bool.false_eq_true, if_false]
  refine (R.dictEntries h2).bind (B' := 2 + 6 * fs.length) ?_ |>.le (by omega)
  have h3 : es.toArray.isEmpty = false := by cases es <;> simp_all
  rw [h3]
  simp only [Bool.false_eq_true, if_false]
  refine (R.dictEntries h1).bind (B' := 1 + 6 * fs.length) ?_ |>.le (by omega)
  refine (R.dictEpoch h1).bind (B' := 6 * fs.length) ?_ |>.le (by omega)
  refine R.bind (B := 6 * fs.length) (B' := 0) (a := PUnit.unit) ?_ (R.pure _)
  have e : List.range fs.toArray.size = List.range' ([] : List DictEntry).length fs.length := by simp [List.range_eq_range']
  rw [e]
  refine r_mergeLoop (fs := fs) ha hm _ (fun i u => ?_) fs [] l es n t rfl hkey hne hnd hz h1 h2
  rfl
end
end Mine
set_option maxRecDepth 1000000
set_option Elab.async false
namespace Mine
open PySem PySem.W PySem.Calls PyProof.Rows
noncomputable def endK (lo : Int) : List (Int × Str) → Int
  | [] => lo
  | (k, _) :: r => endK k r
theorem rises_append {lo : Int} : ∀ {a b : List (Int × Str)}, Rises lo (a ++ b) → Rises lo a ∧ Rises (endK lo a) b
  | [], _, h => ⟨trivial, h⟩
  | (k, v) :: r, b, ⟨h1, h2, h⟩ => let ⟨x, y⟩ := rises_append (a := r) h; ⟨⟨h1, h2, x⟩, y⟩
theorem rises_end {lo : Int} : ∀ {a : List (Int × Str)}, Rises lo a → lo ≤ endK lo a
  | [], _ => Int.le_refl _
  | (k, v) :: r, ⟨h1, _, h⟩ => by have := rises_end (a := r) h; show lo ≤ endK k r; omega
theorem ents3_mem {lo : Int} : ∀ {L : List (Int × Str)} {t : Nat}, Rises lo L → ∀ e ∈ ents3 L t, lo < e.hash ∧ e.hash ≤ endK lo L ∧ ∃ u, e.key = .int e.hash u
  | [], t, _, e, he => by rw [ents3] at he; cases he
  | (k, v) :: r, t, hr, e, he => by
    obtain ⟨h1, h2, h⟩ := hr
    rcases List.mem_cons.mp he with rfl | he
    · exact ⟨h1, rises_end h, _, rfl⟩
    · obtain ⟨a, b, c⟩ := ents3_mem h e he
      exact ⟨by omega, b, c⟩
theorem ents2_mem {lo : Int} : ∀ {L : List (Int × Str)} {t : Nat}, Rises lo L → ∀ e ∈ ents2 L t, lo < e.hash ∧ e.hash ≤ endK lo L ∧ ∃ u, e.key = .int e.hash u
  | [], t, _, e, he => by rw [ents2] at he; cases he
  | (k, v) :: r, t, hr, e, he => by
    obtain ⟨h1, h2, h⟩ := hr
    rcases List.mem_cons.mp he with rfl | he
    · exact ⟨h1, rises_end h, _, rfl⟩
    · obtain ⟨a, b, c⟩ := ents2_mem h e he
      exact ⟨by omega, b, c⟩
theorem ents3_nodup {lo : Int} : ∀ {L : List (Int × Str)} {t : Nat}, Rises lo L → ((ents3 L t).map (·.hash)).Nodup
  | [], _, _ => List.nodup_nil
  | (k, v) :: r, t, ⟨h1, h2, h⟩ => by
    refine List.nodup_cons.mpr ⟨fun hm => ?_, ents3_nodup h⟩
    obtain ⟨e, he, q⟩ := List.mem_map.mp hm
    have := (ents3_mem h e he).1
    simp only at q
    omega
theorem ents2_nodup {lo : Int} : ∀ {L : List (Int × Str)} {t : Nat}, Rises lo L → ((ents2 L t).map (·.hash)).Nodup
  | [], _, _ => List.nodup_nil
  | (k, v) :: r, t, ⟨h1, h2, h⟩ => by
    refine List.nodup_cons.mpr ⟨fun hm => ?_, ents2_nodup h⟩
    obtain ⟨e, he, q⟩ := List.mem_map.mp hm
    have := (ents2_mem h e he).1
    simp only at q
    omega
section
variable {w : World} {g : Array GenState} {d : Drawn} {os : OsState}
theorem R.onRaise {α : Type} {x : Sem α} {a : α} {s s' : Shared} {B : Nat} (hd : Value → Sem Unit) (h : R w B x s a s') : R w B (x.onRaise hd) s a s' := fun K H gd lv c p F st => by
  obtain ⟨n, p', hn, k⟩ := h K (fun e => ((hd e).bind fun _ => Sem.raise e).wrap K H gd lv) gd lv c p F st
  refine ⟨n, p', hn, fun N r hr => ?_⟩
  have e : (x.onRaise hd).wrap K H gd lv = x.wrap K (fun e => ((hd e).bind fun _ => Sem.raise e).wrap K H gd lv) gd lv := by
    rw [Sem.onRaise_eq_wrap, Sem.wrap_wrap]; rfl
  rw [e]; exact k N r hr
noncomputable def vals2 : List (Int × Str) → Nat → List (Value × Value)
  | [], _ => []
  | (k, v) :: r, t => (.int k t, .str v (t + 1)) :: vals2 r (t + 2)
theorem r_evalPairs {pos : Pos} {h : Heap} : ∀ (L : List (Int × Str)) (t : Nat), R w (3 * L.length) (evalPairs (L.map (pairT pos))) ⟨h, g, d, t, os⟩ (vals2 L t) ⟨h, g, d, t + 2 * L.length, os⟩
  | [], t => R.pure _
  | (k, v) :: r, t => by
    have ih := r_evalPairs (pos := pos) (h := h) r (t + 2)
    rw [List.map_cons]
    unfold pairT evalPairs
    refine ((R.mkInt k).bind (B' := 2 + 3 * r.length) ((R.holding _ (r_mkV v pos)).bind (B' := 3 * r.length) ?_)).le (by simp; omega)
    have e : t + 2 * ((k, v) :: r).length = t + 2 + 2 * r.length := by simp; omega
    rw [e]
    exact (R.holding _ ih).bind (B' := 0) (R.pure _)
theorem r_shortLoop {a : Nat} (ha : 11 ≤ a) (f : (Value × Value) → PUnit → Sem (ForInStep PUnit)) (hf : ∀ k v u, f (k, v) u = (do dictSet a k v; pure (.yield ⟨⟩))) :
    ∀ (L : List (Int × Str)) (l : List Obj) (es : List DictEntry) (n t u : Nat) (lo : Int), 0 ≤ lo → Rises lo L → (∀ e ∈ es, e.hash ≤ lo) → es.length + L.length ≤ 1000 → l[a]? = some (dictO es n) →
      R w (10 * L.length) (forIn (vals2 L u) ⟨⟩ f) ⟨mkH l, g, d, t, os⟩ ⟨⟩ ⟨mkH (l.set a (dictO (es ++ ents2 L u) (n + L.length))), g, d, t + L.length, os⟩
  | [], l, es, n, t, u, lo, _, _, _, _, h => by
    have hlt : a < l.length := (List.getElem?_eq_some_iff.mp h).1
    have e : l.set a (dictO es n) = l := by
      rw [← (List.getElem?_eq_some_iff.mp h).2]; exact List.set_getElem_self hlt
    simp only [ents2, vals2, List.append_nil, List.length_nil, Nat.add_zero, Nat.mul_zero, e]
    exact r_forIn_nil
  | (k, v) :: r, l, es, n, t, u, lo, h0, hr, hes, hz, h => by
    obtain ⟨hk, hk2, hr⟩ := hr
    have hlt : a < l.length := (List.getElem?_eq_some_iff.mp h).1
    have ih := r_shortLoop ha f hf r (l.set a (dictO (es ++ [⟨k, .int k u, .str v (u + 1)⟩]) (n + 1))) (es ++ [⟨k, .int k u, .str v (u + 1)⟩]) (n + 1) (t + 1) (u + 2) k (by omega) hr
      (fun e he => by
        rcases List.mem_append.mp he with he | he
        · have := hes e he; omega
        · rw [List.mem_singleton.mp he]; exact Int.le_refl _) (by simp at hz ⊢; omega) (by rw [List.getElem?_set_self hlt])
    rw [List.set_set] at ih
    have step : R w 10 (f (.int k u, .str v (u + 1)) ⟨⟩) ⟨mkH l, g, d, t, os⟩ (.yield ⟨⟩) ⟨mkH (l.set a (dictO (es ++ [⟨k, .int k u, .str v (u + 1)⟩]) (n + 1))), g, d, t + 1, os⟩ := by
      rw [hf]
      exact R.bind (B := 10) (B' := 0) (a := ()) (R.dictSet (by omega) hk2 h ha (by simp at hz; omega) fun e he => by have := hes e he; omega) (R.pure _)
    have z := r_forIn_cons step ih
    have e1 : es ++ [⟨k, .int k u, .str v (u + 1)⟩] ++ ents2 r (u + 2) = es ++ ents2 ((k, v) :: r) u := by simp [ents2]
    have e2 : n + 1 + r.length = n + ((k, v) :: r).length := by simp; omega
    have e3 : t + 1 + r.length = t + ((k, v) :: r).length := by simp; omega
    rw [e1, e2, e3] at z
    exact z.le (by simp; omega)
theorem r_subShort {pos : Pos} {L : List (Int × Str)} {l : List Obj} {t : Nat} {lo : Int} (h0 : 0 ≤ lo) (hr : Rises lo L) (h15 : L.length ≤ 15) (hl : 11 ≤ l.length) :
    R w (2 + 13 * L.length) (subDict (L.map (pairT pos))) ⟨mkH l, g, d, t, os⟩ l.length ⟨mkH (l ++ [dictO (ents2 L t) L.length]), g, d, t + 3 * L.length, os⟩ := by
  unfold subDict
  refine ((R.alloc _).bind (B' := 13 * L.length) ?_).le (by omega)
  rw [mkH_push]
  refine R.bind (B := 13 * L.length) (B' := 0) (a := ()) (R.holding _ ?_) (R.pure _)
  rw [if_pos (by simpa using h15)]
  refine ((r_evalPairs L t).bind (B' := 10 * L.length) (R.holding _ ?_)).le (by omega)
  refine R.bind (B := 10 * L.length) (B' := 0) (a := PUnit.unit) ?_ (R.pure _)
  have e : l ++ [dictO (ents2 L t) L.length] = (l ++ [dictO [] 0]).set l.length (dictO ([] ++ ents2 L t) (0 + L.length)) := by simp
  rw [e, show t + 3 * L.length = t + 2 * L.length + L.length by omega]
  exact r_shortLoop (a := l.length) hl _ (fun k v u => rfl) L (l ++ [dictO [] 0]) [] 0 _ t lo h0 hr (fun _ h => by cases h) (by simp; omega) (by simp)
end
/-- how far the display has come -/
structure DSt where
  es : List DictEntry
  subs : List Obj
noncomputable def lay (l0 : List Obj) : Option DSt → List Obj
  | none => l0
  | some x => l0 ++ dictO x.es x.es.length :: x.subs
noncomputable def adv (e : List DictEntry) : Option DSt → DSt
  | none => ⟨e, []⟩
  | some x => ⟨x.es ++ e, x.subs ++ [dictO e e.length]⟩
noncomputable def dl : List (Int × Str) → List (Int × Str) → Option DSt → Nat → Option DSt × List (Int × Str) × Nat
  | [], run, m, t => (m, run, t)
  | x :: r, run, m, t => if run.length + 1 = 17 then dl r [] (some (adv (ents3 (run ++ [x]) t) m)) (t + 51) else dl r (run ++ [x]) m t
section
variable {w : World} {g : Array GenState} {d : Drawn} {os : OsState} {pos : Pos}
noncomputable def flushT (run : List (Sem Value × Sem Value)) (main : Option Addr) : Sem (Option Addr) := do
    if run.isEmpty then return main
    match main with
    | none => return some (← subDict run)
    | some d =>
      let sub ← holding [.ref d] (subDict run)
      (holding [.ref d, .ref sub] (mergeMapping d (.ref sub) false)).onRaise fun x => do let _ ← holding [.ref d, x] (runValue (.builtin "proto.let_go" {}))
      return some d
theorem r_flush {l0 : List Obj} (hl : 11 ≤ l0.length) {run : List (Int × Str)} {m : Option DSt} {t : Nat} {lo : Int} {e : List DictEntry} (h0 : 0 ≤ lo) (hne : run ≠ []) (hm : ∀ x, m = some x → x.es ≠ [] ∧ (∀ e ∈ x.es, e.hash ≤ lo) ∧ x.es.length + run.length ≤ 1000)
    (hlen : e.length = run.length) (hmem : ∀ x ∈ e, lo < x.hash ∧ ∃ u, x.key = .int x.hash u) (hnd : (e.map (·.hash)).Nodup)
    (hsub : ∀ l : List Obj, 11 ≤ l.length → R w (2 + 13 * run.length) (subDict (run.map (pairT pos))) ⟨mkH l, g, d, t, os⟩ l.length ⟨mkH (l ++ [dictO e run.length]), g, d, t + 3 * run.length, os⟩) :
    R w (7 + 19 * run.length) (flushT (run.map (pairT pos)) (m.map fun _ => l0.length)) ⟨mkH (lay l0 m), g, d, t, os⟩ (some l0.length) ⟨mkH (lay l0 (some (adv e m))), g, d, t + 3 * run.length, os⟩ := by
  unfold flushT
  have : (run.map (pairT pos)).isEmpty = false := by cases run <;> simp_all
  rw [this]
  cases m with
  | none =>
    simp only [Bool.false_eq_true, if_false, Option.map_none]
    have e0 : lay l0 (some (adv e none)) = l0 ++ [dictO e run.length] := by simp [lay, adv, hlen]
    rw [e0]
    refine R.le (B := 2 + 13 * run.length + 0) (R.bind (hsub l0 hl) (R.pure _)) (by omega)
  | some x =>
    obtain ⟨h1, h2, h3⟩ := hm x rfl
    simp only [Bool.false_eq_true, if_false, Option.map_some]
    have hL : 11 ≤ (lay l0 (some x)).length := by simp [lay]; omega
    refine ((R.holding _ (hsub _ hL)).bind (B' := 5 + 6 * run.length) ?_).le (by omega)
    refine R.bind (B := 5 + 6 * run.length) (B' := 0) (a := ()) (R.onRaise _ (R.holding _ ?_)) (R.pure _)
    have q := r_merge (w := w) (g := g) (d := d) (os := os) (t := t + 3 * run.length) (l := lay l0 (some x) ++ [dictO e run.length]) (a := l0.length) (m := (lay l0 (some x)).length) (es := x.es) (fs := e) (n := x.es.length) (k := run.length) hl
      (by simp [lay]) (by have : (lay l0 (some x)).length ≠ 1 := by omega
                          simpa [sysModules] using this) h1 (fun e' he => (hmem e' he).2) (fun e' he e'' he' => by have := h2 e'' he'; have := (hmem e' he).1; omega) hnd (by omega)
      (by simp) (by simp [lay])
    rw [hlen] at q
    refine q |> cast ?_
    have : (lay l0 (some x) ++ [dictO e run.length]).set l0.length (dictO (x.es ++ e) (x.es.length + run.length)) = lay l0 (some (adv e (some x))) := by
      simp [lay, adv, hlen]
    rw [this]
theorem r_dispLoop {l0 : List Obj} (hl : 11 ≤ l0.length) (f : (Option (Sem Value) × Sem Value) → (Option Addr × List (Sem Value × Sem Value)) → Sem (ForInStep (Option Addr × List (Sem Value × Sem Value))))
    (hf : ∀ k v main run, f (some k, v) (main, run) = if (run ++ [(k, v)]).length == 17 then (do let main ← flushT (run ++ [(k, v)]) main; pure (.yield (main, []))) else pure (.yield (main, run ++ [(k, v)]))) :
    ∀ (rest run : List (Int × Str)) (m : Option DSt) (t : Nat) (lo : Int), 0 ≤ lo → Rises lo (run ++ rest) → run.length < 17 → (∀ x, m = some x → x.es ≠ [] ∧ (∀ e ∈ x.es, e.hash ≤ lo) ∧ x.es.length + run.length + rest.length ≤ 900) → run.length + rest.length ≤ 900 →
      R w (400 * rest.length) (forIn (rest.map (itemT pos)) (m.map (fun _ => l0.length), run.map (pairT pos)) f) ⟨mkH (lay l0 m), g, d, t, os⟩ ((dl rest run m t).1.map (fun _ => l0.length), (dl rest run m t).2.1.map (pairT pos)) ⟨mkH (lay l0 (dl rest run m t).1), g, d, (dl rest run m t).2.2, os⟩
  | [], run, m, t, lo, _, _, _, _, _ => by
    simp only [dl, List.map_nil]
    exact r_forIn_nil.le (by omega)
  | (k, v) :: r, run, m, t, lo, h0, hr, hrun, hm, hz => by
    have e0 : run ++ (k, v) :: r = (run ++ [(k, v)]) ++ r := by simp
    rw [List.map_cons]
    by_cases h17 : run.length + 1 = 17
    · have hd : dl ((k, v) :: r) run m t = dl r [] (some (adv (ents3 (run ++ [(k, v)]) t) m)) (t + 51) := by rw [dl, if_pos h17]
      rw [hd]
      obtain ⟨ra, rb⟩ := rises_append (e0 ▸ hr)
      have hlen : (run ++ [(k, v)]).length = 17 := by simp [h17]
      have ih := r_dispLoop hl f hf r [] (some (adv (ents3 (run ++ [(k, v)]) t) m)) (t + 51) (endK lo (run ++ [(k, v)])) (by have := rises_end ra; omega) rb (by decide)
        (fun x hx => by
          cases hx
          cases m with
          | none => exact ⟨fun q => by have := congrArg List.length q; simp [adv, ents3_length] at this, fun e he => (ents3_mem ra e he).2.1, by simp [adv, ents3_length]; simp at hz; omega⟩
          | some x =>
            obtain ⟨h1, h2, h3⟩ := hm x rfl
            refine ⟨fun q => h1 (List.append_eq_nil_iff.mp q).1, fun e he => ?_, by simp [adv, ents3_length]; simp at h3; omega⟩
            rcases List.mem_append.mp he with he | he
            · have := h2 e he; have := rises_end ra; omega
            · exact (ents3_mem ra e he).2.1)
        (by simp at hz ⊢; omega)
      have step : R w 400 (f (itemT pos (k, v)) (m.map (fun _ => l0.length), run.map (pairT pos))) ⟨mkH (lay l0 m), g, d, t, os⟩ (.yield (some l0.length, [])) ⟨mkH (lay l0 (some (adv (ents3 (run ++ [(k, v)]) t) m))), g, d, t + 51, os⟩ := by
        unfold itemT
        rw [hf]
        have c : ((run.map (pairT pos) ++ [(mkInt k, do let x ← mkText v; standAt pos; pure x)]).length == 17) = true := by simp [h17]
        dsimp only
        rw [c]
        simp only [if_true]
        have e1 : run.map (pairT pos) ++ [(mkInt k, do let x ← mkText v; standAt pos; pure x)] = (run ++ [(k, v)]).map (pairT pos) := by simp [pairT]
        rw [e1]
        have q := r_flush (w := w) (g := g) (d := d) (os := os) (pos := pos) (t := t) (m := m) (lo := lo) (e := ents3 (run ++ [(k, v)]) t) hl h0 (run := run ++ [(k, v)]) (by simp)
          (fun x hx => by obtain ⟨h1, h2, h3⟩ := hm x hx; exact ⟨h1, h2, by simp at h3 ⊢; omega⟩) (ents3_length _ _) (fun x hx => ⟨(ents3_mem ra x hx).1, (ents3_mem ra x hx).2.2⟩) (ents3_nodup ra)
          (fun l hl => r_subLong h0 ra (by omega) (by omega) hl)
        rw [hlen] at q
        exact R.le (B := 7 + 19 * 17 + 0) (R.bind q (R.pure _)) (by omega)
      have z := r_forIn_cons step ih
      exact z.le (by simp; omega)
    · have hd : dl ((k, v) :: r) run m t = dl r (run ++ [(k, v)]) m t := by rw [dl, if_neg h17]
      rw [hd]
      have ih := r_dispLoop hl f hf r (run ++ [(k, v)]) m t lo h0 (e0 ▸ hr) (by simp; omega) (fun x hx => by obtain ⟨h1, h2, h3⟩ := hm x hx; exact ⟨h1, h2, by simp at h3 ⊢; omega⟩) (by simp at hz ⊢; omega)
      have step : R w 0 (f (itemT pos (k, v)) (m.map (fun _ => l0.length), run.map (pairT pos))) ⟨mkH (lay l0 m), g, d, t, os⟩ (.yield (m.map (fun _ => l0.length), (run ++ [(k, v)]).map (pairT pos))) ⟨mkH (lay l0 m), g, d, t, os⟩ := by
        unfold itemT
        rw [hf]
        have c : ((run.map (pairT pos) ++ [(mkInt k, do let x ← mkText v; standAt pos; pure x)]).length == 17) = false := by
          rw [beq_eq_false_iff_ne]; simp; omega
        dsimp only
        rw [c]
        simp only [Bool.false_eq_true, if_false]
        have e1 : run.map (pairT pos) ++ [(mkInt k, do let x ← mkText v; standAt pos; pure x)] = (run ++ [(k, v)]).map (pairT pos) := by simp [pairT]
        rw [e1]
        exact R.pure _
      have z := r_forIn_cons step ih
      exact z.le (by simp; omega)
end
end Mine
set_option maxRecDepth 1000000
set_option Elab.async false
namespace Mine
open PySem PySem.W PySem.Calls PyProof.Rows
noncomputable section
noncomputable def b3P : Pos := b3E.pos
noncomputable def tailT (v : Value) : Sem Flow := assignStores topEnv v none ((assignEach b3T topEnv).map (·.2))
theorem items_eq : (evalEachOpt b3K topEnv).zip ((evalEach b3V topEnv).map fun v => do let x ← v; standAt b3P; pure x) = tabL.map (itemT b3P) := by kernel_rfl
theorem exec3 : exec (stm 3) topEnv = (do standAt ⟨5, 0, 5, 8704⟩; (do standAt b3P; dictDisplay ((evalEachOpt b3K topEnv).zip ((evalEach b3V topEnv).map fun v => do let x ← v; standAt b3P; pure x))) >>= tailT) := by kernel_rfl
theorem tab_len : tabL.length = 650 := by kernel_rfl
end
end Mine
set_option maxRecDepth 1000000
set_option Elab.async false
namespace Mine
open PySem PySem.W PySem.Calls PyProof.Rows
noncomputable section
theorem dl_inv : ∀ (rest run : List (Int × Str)) (m : Option DSt) (t : Nat) (lo : Int), 0 ≤ lo → Rises lo (run ++ rest) → run.length < 17 → (∀ x, m = some x → x.es ≠ [] ∧ (∀ e ∈ x.es, e.hash ≤ lo) ∧ x.es.length + run.length + rest.length ≤ 900) → run.length + rest.length ≤ 900 →
    ∃ lo', 0 ≤ lo' ∧ Rises lo' (dl rest run m t).2.1 ∧ (∀ x, (dl rest run m t).1 = some x → x.es ≠ [] ∧ (∀ e ∈ x.es, e.hash ≤ lo') ∧ x.es.length + (dl rest run m t).2.1.length ≤ 1000)
  | [], run, m, t, lo, h0, hr, _, hm, _ => ⟨lo, h0, by simpa [dl] using hr, fun x hx => by
      obtain ⟨h1, h2, h3⟩ := hm x (by simpa [dl] using hx)
      exact ⟨h1, h2, by simp [dl]; simp at h3; omega⟩⟩
  | (k, v) :: r, run, m, t, lo, h0, hr, hrun, hm, hz => by
    have e0 : run ++ (k, v) :: r = (run ++ [(k, v)]) ++ r := by simp
    by_cases h17 : run.length + 1 = 17
    · have hd : dl ((k, v) :: r) run m t = dl r [] (some (adv (ents3 (run ++ [(k, v)]) t) m)) (t + 51) := by rw [dl, if_pos h17]
      rw [hd]
      obtain ⟨ra, rb⟩ := rises_append (e0 ▸ hr)
      exact dl_inv r [] (some (adv (ents3 (run ++ [(k, v)]) t) m)) (t + 51) (endK lo (run ++ [(k, v)])) (by have := rises_end ra; omega) rb (by decide)
        (fun x hx => by
          cases hx
          cases m with
          | none => exact ⟨fun q => by have := congrArg List.length q; simp [adv, ents3_length] at this, fun e he => (ents3_mem ra e he).2.1, by simp [adv, ents3_length]; simp at hz; omega⟩
          | some x =>
            obtain ⟨h1, h2, h3⟩ := hm x rfl
            refine ⟨fun q => h1 (List.append_eq_nil_iff.mp q).1, fun e he => ?_, by simp [adv, ents3_length]; simp at h3; omega⟩
            rcases List.mem_append.mp he with he | he
            · have := h2 e he; have := rises_end ra; omega
            · exact (ents3_mem ra e he).2.1)
        (by simp at hz ⊢; omega)
    · have hd : dl ((k, v) :: r) run m t = dl r (run ++ [(k, v)]) m t := by rw [dl, if_neg h17]
      rw [hd]
      exact dl_inv r (run ++ [(k, v)]) m t lo h0 (e0 ▸ hr) (by simp; omega) (fun x hx => by obtain ⟨h1, h2, h3⟩ := hm x hx; exact ⟨h1, h2, by simp at h3 ⊢; omega⟩) (by simp at hz ⊢; omega)
noncomputable def risesB (lo : Int) : List (Int × Str) → Bool
  | [] => true
  | (k, _) :: r => decide (lo < k) && decide (k < 2 ^ 60) && risesB k r
theorem rises_of : ∀ {L : List (Int × Str)} {lo : Int}, risesB lo L = true → Rises lo L
  | [], _, _ => trivial
  | (k, v) :: r, lo, h => by
    simp only [risesB, Bool.and_eq_true, decide_eq_true_eq] at h
    exact ⟨h.1.1, h.1.2, rises_of h.2⟩
theorem tab_rises : Rises 0 tabL := rises_of (by kernel_rfl)
theorem dl_run : (dl tabL [] none 256).2.1.length = 4 := by kernel_rfl
theorem dl_tok : (dl tabL [] none 256).2.2 = 2194 := by kernel_rfl
theorem dl_some : (dl tabL [] none 256).1.isSome = true := by kernel_rfl
noncomputable def l0 (P : Params) : List Obj := (tree_b P).list 33
theorem l0_len (P : Params) : (l0 P).length = 33 := by simp [l0, BT.list]
noncomputable def topEs : List DictEntry := ents2 (dl tabL [] none 256).2.1 2194
noncomputable def topL (P : Params) : List Obj := lay (l0 P) (some (adv topEs (dl tabL [] none 256).1))
variable {w : World} {os : OsState}
theorem r_display : R w 300000 (dictDisplay (tabL.map (itemT b3P))) ⟨mkH (l0 w.params), #[], boot_drawn, 256, os⟩ (.ref 33) ⟨mkH (topL w.params), #[], boot_drawn, 2206, os⟩ := by
  have hl : 11 ≤ (l0 w.params).length := by rw [l0_len]; omega
  have hz : tabL.length ≤ 900 := by rw [tab_len]; omega
  obtain ⟨lo, h0, hr, hm⟩ := dl_inv tabL [] none 256 0 (Int.le_refl _) tab_rises (by decide) (fun _ h => by cases h) (by simpa using hz)
  obtain ⟨x, hx⟩ := Option.isSome_iff_exists.mp dl_some
  have loop := fun f hf => r_dispLoop (w := w) (g := #[]) (d := boot_drawn) (os := os) (pos := b3P) hl f hf tabL [] none 256 0 (Int.le_refl _) tab_rises (by decide) (fun _ h => by cases h) (by simpa using hz)
  have fl := r_flush (w := w) (g := #[]) (d := boot_drawn) (os := os) (pos := b3P) (t := 2194) (m := (dl tabL [] none 256).1) (lo := lo) (e := topEs) (run := (dl tabL [] none 256).2.1) hl h0
    (fun q => by have := congrArg List.length q; rw [dl_run] at this; cases this) hm (ents2_length _ _) (fun x hx => ⟨(ents2_mem hr x hx).1, (ents2_mem hr x hx).2.2⟩) (ents2_nodup hr)
    (fun l hl => r_subShort h0 hr (by rw [dl_run]; omega) hl)
  rw [dl_run] at fl
  simp only [dl_tok] at loop
  have e33 : (l0 w.params).length = 33 := l0_len _
  unfold dictDisplay
  dsimp only
  refine R.le (B := 400 * tabL.length + (7 + 19 * 4 + 0)) (R.bind (loop _ (fun k v main run => rfl)) ?_) (by rw [tab_len]; omega)
  refine R.bind (B := 7 + 19 * 4) (B' := 0) fl ?_
  rw [e33]
  exact R.pure _
theorem tail3 (w : World) (os : OsState) (K : Flow → Sem PySem.Fin) (H : Value → Sem PySem.Fin) (gd : Bool → Bool) (lv : List Value → List Value) (c : Code) (p : Pos) (F : Frame) (st : List Frame) :
   topGo treeTable pw w 11 topAnn 7 ⟨mkH (topL w.params), #[], boot_drawn, 2206, os⟩ ⟨(tailT (.ref 33)).wrap K H gd lv, c, p, F :: st⟩ = some ((st_c w os).abs, ⟨K .next, c, ⟨5, 0, 5, 13⟩, F :: st⟩) := by kernel_rfl
theorem r_exec3 : R w 300020 (exec (stm 3) topEnv) (st_b w os).abs .next (st_c w os).abs := by
  rw [exec3, items_eq]
  have e : (st_b w os).abs = ⟨mkH (l0 w.params), #[], boot_drawn, 256, os⟩ := rfl
  rw [e]
  refine R.le (B := 1 + (1 + 300000 + 7)) ((R.standAt _).bind (R.bind ((R.standAt _).bind r_display) ?_)) (by omega)
  exact fun K H gd lv c p F st => ⟨7, _, Nat.le_refl _, fun N r hr => go_top (tail3 w os K H gd lv c p F st) hr⟩
end
end Mine
set_option maxRecDepth 1000000
set_option Elab.async false
namespace Mine
open PySem PySem.W PySem.Calls PyProof.Rows
noncomputable section
noncomputable abbrev tF : Frame := topFrame ⟨0, 0, 0, 0⟩
theorem p_pre (w : World) (os : OsState) : topGo treeTable pw w 11 topAnn 12 ⟨boot_heap w.params, #[], boot_drawn, boot_toks, os⟩ (topStub pw) = some ((st_a w os).abs, ⟨denote treeTable topCode, topCode, pos_a, [tF]⟩) := by kernel_rfl
theorem p_block (w : World) (os : OsState) : segRun treeTable pw w 11 topAnn 1 1 (st_a w os).abs (blockOf topBody topEnv topCode pos_a [tF]) = some (.next, (st_a w os).abs, topCode, pos_a) := by kernel_rfl
noncomputable def PB (os : OsState) (w : World) : Prop := segRunT treeTable pw w 11 topAnn 1 (9+998+29+1) (st_a w os) (piecesOf [stm 0, stm 1, stm 2] topEnv topCode pos_a [tF]) = some (.next, (st_b w os), topCode, pos_b)
theorem p_b1 (w : World) (os : OsState) : PB os ((w.withFollow "set-order" false).withFollow "special-get-raises" false) := by
  unfold PB
  rw [PySem.W.Fast.te10110043849684766642, PySem.W.Fast.te14364793385576792824]
  kernel_rfl
theorem p_b2 (w : World) (os : OsState) : PB os ((w.withFollow "set-order" true).withFollow "special-get-raises" false) := by
  unfold PB
  rw [PySem.W.Fast.te10110043849684766642, PySem.W.Fast.te14364793385576792824]
  kernel_rfl
theorem p_b3 (w : World) (os : OsState) : PB os ((w.withFollow "set-order" false).withFollow "special-get-raises" true) := by
  unfold PB
  rw [PySem.W.Fast.te10110043849684766642, PySem.W.Fast.te14364793385576792824]
  kernel_rfl
theorem p_b4 (w : World) (os : OsState) : PB os ((w.withFollow "set-order" true).withFollow "special-get-raises" true) := by
  unfold PB
  rw [PySem.W.Fast.te10110043849684766642, PySem.W.Fast.te14364793385576792824]
  kernel_rfl
theorem p_b (w : World) (os : OsState) : PB os w := by
  refine byRow2 (P := PB os) "special-get-raises" (fun w => ?_) (fun w => ?_) w
  · exact byRow2 (P := fun w => PB os (w.withFollow "special-get-raises" false)) "set-order" (fun w => p_b1 w os) (fun w => p_b2 w os) w
  · exact byRow2 (P := fun w => PB os (w.withFollow "special-get-raises" true)) "set-order" (fun w => p_b3 w os) (fun w => p_b4 w os) w
theorem p_d (w : World) (os : OsState) (p : Pos) : segRunT treeTable pw w 11 topAnn 1 (30+9+32+9+28+37+32+31+1) (st_c w os) (piecesOf [stm 4, stm 5, stm 6, stm 7, stm 8, stm 9, stm 10, stm 11] topEnv topCode p [tF]) = some (.next, (st_d w os), topCode, pos_d) := by kernel_rfl
theorem p_f (w : World) (os : OsState) : segRunT treeTable pw w 11 topAnn 1 (26+26+33+26+26+31+26+26+26+1) (st_d w os) (piecesOf [stm 12, stm 13, stm 14, stm 15, stm 16, stm 17, stm 18, stm 19, stm 20] topEnv topCode pos_d [tF]) = some (.next, (st_f w os), topCode, pos_f) := by kernel_rfl
theorem p_fin (w : World) (os : OsState) : topRun treeTable pw w 11 topAnn 2 (st_f w os).abs ⟨doneF .next, topCode, pos_f, [tF]⟩ = some (st_f w os).abs := by kernel_rfl
noncomputable def sts1 : List Stmt := [stm 0, stm 1, stm 2]
noncomputable def sts2 : List Stmt := [stm 4, stm 5, stm 6, stm 7, stm 8, stm 9, stm 10, stm 11]
noncomputable def sts3 : List Stmt := [stm 12, stm 13, stm 14, stm 15, stm 16, stm 17, stm 18, stm 19, stm 20]
theorem body_eq : topBody = sts1 ++ (stm 3 :: (sts2 ++ (sts3 ++ []))) := by kernel_rfl
theorem topRun_le {w : World} {n N : Nat} {s r : Shared} {t : Thread} (h : n ≤ N) (k : topRun treeTable pw w 11 topAnn n s t = some r) : topRun treeTable pw w 11 topAnn N s t = some r := by
  have := topRun_mono (N - n) _ _ _ _ k
  rwa [show n + (N - n) = N by omega] at this
theorem top_run (w : World) (os : OsState) : topRun treeTable pw w 11 topAnn 1000000 ⟨boot_heap w.params, #[], boot_drawn, boot_toks, os⟩ (topStub pw) = some (st_f w os).abs := by
  have k3 := piece_app (rest := []) (l := sts3) (segRun_of (p_f w os)) (piece_nil (env := topEnv) (p_fin w os))
  have k2 := fun p => piece_app (rest := sts3 ++ []) (l := sts2) (segRun_of (p_d w os p)) k3
  have key : ∃ n p', n ≤ 300020 ∧ ∀ N r, topRun treeTable pw w 11 topAnn N (st_c w os).abs (restOf (sts2 ++ (sts3 ++ [])) topEnv topCode p' [tF]) = some r → topRun treeTable pw w 11 topAnn (n + N) (st_b w os).abs (restOf (stm 3 :: (sts2 ++ (sts3 ++ []))) topEnv topCode pos_b [tF]) = some r := by
    unfold restOf
    rw [execs_cons_wrap]
    exact r_exec3 (w := w) (os := os) (fun f => match f with | .next => (execs (sts2 ++ (sts3 ++ [])) topEnv).wrap doneF (leaveH topEnv) id id | f => doneF f) (leaveH topEnv) id id topCode pos_b tF []
  obtain ⟨n, p', hn, h3⟩ := key
  have k1 := h3 _ _ (k2 p')
  have k0 := piece_app (rest := stm 3 :: (sts2 ++ (sts3 ++ []))) (l := sts1) (segRun_of (p_b w os)) k1
  rw [← body_eq] at k0
  have kb := go_top (p_pre w os) (piece_block (p_block w os) k0)
  refine topRun_le ?_ kb
  omega
end
end Mine
set_option maxRecDepth 1000000
set_option Elab.async false
namespace Mine
open PySem PySem.W PySem.Calls PyProof.Rows
noncomputable section
noncomputable def HF (P : Params) : Heap := absHeap (tree_f P) 157 topLife
noncomputable def qv : Program := { pw with main := { pw.main with body := [stm 20] } }
noncomputable def looseN : List Str := ["b1_set", "in_table_b1", "b3_exceptions", "map_table_b3", "Int2AP", "_LAW_SPELL", "_LAW_VEILS", "_law_seen", "_law_sum", "_law_read", "_law_told", "_law_step", "_law_rows", "_law_text", "_law_product", "_law_orders", "_law_ways"]
noncomputable def Xt0 (s : Shared) : Bool := recOk [] s
noncomputable abbrev S1 (P : Params) (os : OsState) : Shared := ⟨HF P, #[], boot_drawn, 2344, os⟩
theorem lk_size (w : World) : ((boot_heap w.params).isNs mainGlobals && (#[] : Array GenState).size == 0, (boot_heap w.params).objs.size, (boot_heap w.params).nsMap mainGlobals "__annotations__") = (true, 11, topAnn) := by kernel_rfl
theorem lk_open1 : opening pw = plainProg pw.main.scope.names := by kernel_rfl
theorem lk_fence (s : Shared) : fenceModules? pw s = some s := by kernel_rfl
theorem lk_stat (w : World) : staticsOk (importedModules pw.main.body) (boot_heap w.params) (HF w.params) = true := by kernel_rfl
theorem lk_names (w : World) : namesBound pw (HF w.params) = true := by kernel_rfl
theorem lk_laid (w : World) : laidKept (boot_heap w.params) (HF w.params) = true := by kernel_rfl
theorem lk_seen (w : World) (os : OsState) : openSeen qv looseN (importedModules pw.main.body) Xt0 true (S1 w.params os) = openGood qv looseN := by kernel_rfl
end
end Mine
namespace Mine
open PySem PySem.W PySem.Calls PyProof.Rows
noncomputable section
theorem left : LeftO pw qv looseN Xt0 (fun s : Shared => s.heap) (fun w => HF w.params) 1000000 := by
  refine LeftO.of_pieces (H₀ := boot_heap) (H₁ := HF) (gs₀ := #[]) (gs₁ := #[]) (d₀ := boot_drawn) (d₁ := boot_drawn) (k₀ := boot_toks) (k₁ := 2344) (m₀ := 11) (ann := topAnn) (M := 1000000)
    (boot_open lk_open1 (by decide) lk_fence) lk_size top_run (by decide) (fun w => ?_)
  funext os
  rw [lk_stat, lk_names, lk_laid, lk_seen]
  rfl
theorem get3 (P : Params) : (HF P).get? 3 = some (o3f P) := by kernel_rfl
noncomputable def o3es (P : Params) : Array DictEntry := match (o3f P).data with
  | .dict es _ => es
  | _ => #[]
theorem o3_law (P : Params) : nsFind (o3es P) (Str.ofString "law") = some (.ref 156) := by kernel_rfl
theorem mg_is {P : Params} {h : Heap} {mg : Str → Option Value} (Y : ∀ a o, (HF P).get? a = some o → h.get? a = some o) (hn : h.Ns mainGlobals mg) (x : Str) : mg x = nsFind (o3es P) x := by
  obtain ⟨o, es, ep, h1, h2, _, h4⟩ := hn
  have e := Y 3 _ (get3 P)
  have h1' : h.get? 3 = some o := h1
  rw [e] at h1'
  cases h1'
  rw [← h4 x]
  have : es = o3es P := by unfold o3es; rw [h2]
  rw [this]
noncomputable abbrev claim0 : ClaimW := (PySem.Challenge.rw_kl0164_01).row.toRowW.claim
/-- what is left: the call -/
noncomputable def LawTrue : Prop := ∀ (w : World) (s : Shared) (L : Addr) (vs : List Value) (ns : List Int), (∀ a o, (HF w.params).get? a = some o → s.heap.get? a = some o) → s.gens = #[] → s.heap.IsList L vs.toArray → IntsAre vs ns → ns.length ≤ 63 →
    (∀ n ∈ ns, Builtin.Int.intBits n ≤ 2 ^ 20) →
    wpAny (model pw w) callerA (PySem.call (.ref 156) [.ref L]) (fun v s' => v = .bool true ∧ ∃ h' tk, s' = { s with heap := h', toks := tk } ∧ ∀ b o, s.heap.get? b = some o → h'.get? b = some o) (fun _ _ => False) s
theorem and_both {a b : Bool} (h : a = true) (k : b = true) : (a && b) = true := by rw [h, k]; rfl
/-- the row is well said, part for part -/
theorem said1 : looksOpen PySem.Challenge.rw_kl0164_01.row.prog = true := by
  unfold looksOpen
  repeat' (with_reducible refine and_both ?_ ?_)
  all_goals decide +kernel
theorem said2 : PySem.Challenge.rw_kl0164_01.row.partSaid = true := by
  unfold OpenRow.partSaid
  repeat' (with_reducible refine and_both ?_ ?_)
  all_goals first | with_reducible exact said1 | decide +kernel
theorem said3 : PySem.Challenge.rw_kl0164_01.row.wellSaid = true := by
  unfold OpenRow.wellSaid
  repeat' (with_reducible refine and_both ?_ ?_)
  all_goals first | with_reducible exact said2 | decide +kernel
theorem said4 : PySem.Challenge.rw_kl0164_01.wellSaid = true := by
  unfold OpenLaw.wellSaid
  repeat' (with_reducible refine and_both ?_ ?_)
  all_goals first | with_reducible exact said3 | decide +kernel
theorem holds (lawTrue : LawTrue) : PySem.Challenge.rw_kl0164_01.Holds := by
  w_on
  refine holds_law said4 fun said => ?_
  refine holds_open (q := qv) (loose := looseN) (Xt := Xt0) (XP := fun _ _ => True) (Yf := fun s : Shared => s.heap) (Ya := fun w => HF w.params) (YP := fun w h => ∀ a o, (HF w.params).get? a = some o → h.get? a = some o) (N := 1000000)
    left (fun w s e a o h => e ▸ h) (fun w h h' x k a o e => k a o (x a o e)) (fun _ _ => trivial) (fun _ _ _ _ _ => trivial) (by rfl) (by rfl) (by rfl) (fun s e => recFacts_of e) (by rfl) (by assumption) (by decide +kernel) ⟨rfl, rfl, rfl, rfl, rfl, by decide +kernel⟩ ?_ ?_
  · w_witness2
  · intro w s₀ s₁ mg mb G Y a o pm cd doc dV kV ho hd hcd hD hmg hg args vals as hpre hlay hrd hwl hlo
    have ha : a = 156 := by
      have e := mg_is Y G.T.g (Str.ofString "law")
      rw [o3_law] at e
      have e2 : mg (Str.ofString "law") = some (.ref a) := hmg
      rw [e2] at e
      cases e
      rfl
    subst ha
    clear ho hd hcd hD hmg
    wrow_args hpre hlay hrd hwl hlo
    (rename s₁.heap.IsList _ _ => hl); (rename IntsAre _ _ => hi); (rename ¬ _ < _ => hlen); (rename PyData.layable0 (.list _) = true => hly)
    refine wpAny_mono (lawTrue w s₁ _ _ _ Y hg hl hi (by omega) (fun n hn => PyData.bits_item_of_ints hly hn)) (fun v s' hv => ?_) fun _ _ x => x.elim
    obtain ⟨rfl, h', tk, rfl, hk⟩ := hv
    refine GoodW.toG ⟨.inl ⟨_, .bool true, [], rfl, fun cls => rfl, .bool true, ?_, fun _ => ⟨List.nodup_nil, fun a ha => nomatch ha⟩⟩, hk, rfl, hg⟩
    first | wrow_post | kernel_rfl
end
end Mine
set_option maxRecDepth 100000
set_option Elab.async false
set_option linter.unusedVariables false
namespace Mine
open PySem PySem.W PySem.Calls PyProof.Rows
/-- plain data -/
inductive D where
  | none
  | bool (b : Bool)
  | int (i : Int)
  | str (x : Str)
  | bytes (b : Array UInt8)
  | tup (ds : List D)
  | lst (ds : List D)
  | wl (ds : List D)
  | sd (kvs : List (Str × D))
  | idt (kvs : List (Int × D))
  | ty (T : String)
  | iset (S : Int → Bool)
  | imap (f : Int → Option Str)
  | own (a : Addr)
/-- the heap keeps what stood, but at the addresses of N -/
noncomputable def KpB (N : Addr → Prop) (h h' : Heap) : Prop := ∀ b o, ¬ N b → h.get? b = some o → h'.get? b = some o
noncomputable def Kp (h h' : Heap) : Prop := ∀ b o, h.get? b = some o → h'.get? b = some o
theorem Kp.refl {h : Heap} : Kp h h := fun _ _ e => e
theorem Kp.trans {a b c : Heap} (x : Kp a b) (y : Kp b c) : Kp a c := fun _ _ e => y _ _ (x _ _ e)
theorem KpB.refl {N} {h : Heap} : KpB N h h := fun _ _ _ e => e
theorem KpB.trans {N} {a b c : Heap} (x : KpB N a b) (y : KpB N b c) : KpB N a c := fun _ _ n e => y _ _ n (x _ _ n e)
theorem Kp.but {N} {a b : Heap} (x : Kp a b) : KpB N a b := fun _ _ _ e => x _ _ e
theorem Kp.push {h : Heap} (o : Obj) : Kp h (h.push o) := fun _ _ e => Heap.get?_push_of_some _ e
mutual
/-- the value bears the datum, by objects off X -/
inductive Rep (w : World) (X : Addr → Prop) (h : Heap) : Value → D → Prop
  | none : Rep w X h .none .none
  | bool (b : Bool) : Rep w X h (.bool b) (.bool b)
  | int (i : Int) (t : Tok) : Rep w X h (.int i t) (.int i)
  | str (x : Str) (t : Tok) : Rep w X h (.str x t) (.str x)
  | bytes (b : Array UInt8) (t : Tok) : Rep w X h (.bytes b t) (.bytes b)
  | tup {a : Addr} {vs : List Value} {n : Nat} {ds : List D} : ¬ X a → h.get? a = some (seqObj "tuple" vs.toArray n) → Reps w X h vs ds → Rep w X h (.ref a) (.tup ds)
  | lst {a : Addr} {vs : List Value} {n : Nat} {ds : List D} : ¬ X a → h.get? a = some (seqObj "list" vs.toArray n) → Reps w X h vs ds → Rep w X h (.ref a) (.lst ds)
  | wl {a : Addr} {o : Obj} {vs : List Value} {n : Nat} {ds : List D} : ¬ X a → h.get? a = some o → o.cls = .type "list" → o.data = .seq vs.toArray n → Reps w X h vs ds → Rep w X h (.ref a) (.wl ds)
  | sd {a : Addr} {kvs : List (Str × Value)} {ds : List (Str × D)} : (a == sysModules) = false → ¬ X a → h.DictOf (PySem.strKind pw w) a kvs → kvs.map (·.1) = ds.map (·.1) → Reps w X h (kvs.map (·.2)) (ds.map (·.2)) → Rep w X h (.ref a) (.sd ds)
  | idt {a : Addr} {kvs : List (Int × Value)} {ds : List (Int × D)} : (a == sysModules) = false → ¬ X a → h.DictOf (intKind pw w) a kvs → kvs.map (·.1) = ds.map (·.1) → Reps w X h (kvs.map (·.2)) (ds.map (·.2)) → Rep w X h (.ref a) (.idt ds)
  | ty (T : String) : Rep w X h (.type T) (.ty T)
  | iset {a : Addr} {S : Int → Bool} {n : Nat} : ¬ X a → h.SetOf (intKind pw w) a S n → Rep w X h (.ref a) (.iset S)
  | imap {a : Addr} {g : Int → Option Value} {f : Int → Option Str} : (a == sysModules) = false → ¬ X a → h.MapOf (intKind pw w) a g → (∀ k, f k = none → g k = none) → (∀ k x, f k = some x → ∃ t, g k = some (.str x t)) → Rep w X h (.ref a) (.imap f)
  | own (a : Addr) : Rep w X h (.ref a) (.own a)
inductive Reps (w : World) (X : Addr → Prop) (h : Heap) : List Value → List D → Prop
  | nil : Reps w X h [] []
  | cons {v : Value} {vs : List Value} {d : D} {ds : List D} : Rep w X h v d → Reps w X h vs ds → Reps w X h (v :: vs) (d :: ds)
end
theorem DictOf_at {K : Type} [DecidableEq K] {prog : Program} {w : World} {knd : PySem.KeyKind prog w K} {h h' : Heap} {a : Addr} {kvs : List (K × Value)} (x : h.DictOf knd a kvs) (k : ∀ o, h.get? a = some o → h'.get? a = some o) : h'.DictOf knd a kvs :=
  let ⟨o, es, ep, h1, r⟩ := x; ⟨o, es, ep, k _ h1, r⟩
mutual
theorem Rep.kp {w : World} {X : Addr → Prop} {h h' : Heap} (k : KpB X h h') : ∀ {v : Value} {d : D}, Rep w X h v d → Rep w X h' v d
  | _, _, .none => .none
  | _, _, .bool b => .bool b
  | _, _, .int i t => .int i t
  | _, _, .str x t => .str x t
  | _, _, .bytes b t => .bytes b t
  | _, _, .tup hX hg r => .tup hX (k _ _ hX hg) (Reps.kp k r)
  | _, _, .lst hX hg r => .lst hX (k _ _ hX hg) (Reps.kp k r)
  | _, _, .wl hX hg a b r => .wl hX (k _ _ hX hg) a b (Reps.kp k r)
  | _, _, .sd hS hX hg e r => .sd hS hX (DictOf_at hg fun o e => k _ _ hX e) e (Reps.kp k r)
  | _, _, .idt hS hX hg e r => .idt hS hX (DictOf_at hg fun o e => k _ _ hX e) e (Reps.kp k r)
  | _, _, .ty T => .ty T
  | _, _, .iset hX hg => .iset hX (let ⟨o, es, ep, t, g, r⟩ := hg; ⟨o, es, ep, t, k _ _ hX g, r⟩)
  | _, _, .imap hS hX hg a b => .imap hS hX (let ⟨o, es, ep, g, r⟩ := hg; ⟨o, es, ep, k _ _ hX g, r⟩) a b
  | _, _, .own a => .own a
theorem Reps.kp {w : World} {X : Addr → Prop} {h h' : Heap} (k : KpB X h h') : ∀ {vs : List Value} {ds : List D}, Reps w X h vs ds → Reps w X h' vs ds
  | _, _, .nil => .nil
  | _, _, .cons a r => .cons (Rep.kp k a) (Reps.kp k r)
end
mutual
theorem Rep.off {w : World} {X Y : Addr → Prop} {h : Heap} (k : ∀ b o, h.get? b = some o → Y b → X b) : ∀ {v : Value} {d : D}, Rep w X h v d → Rep w Y h v d
  | _, _, .none => .none
  | _, _, .bool b => .bool b
  | _, _, .int i t => .int i t
  | _, _, .str x t => .str x t
  | _, _, .bytes b t => .bytes b t
  | _, _, .tup hX hg r => .tup (fun y => hX (k _ _ hg y)) hg (Reps.off k r)
  | _, _, .lst hX hg r => .lst (fun y => hX (k _ _ hg y)) hg (Reps.off k r)
  | _, _, .wl hX hg a b r => .wl (fun y => hX (k _ _ hg y)) hg a b (Reps.off k r)
  | _, _, .sd hS hX hg e r => .sd hS (fun y => let ⟨_, _, _, g, _⟩ := hg; hX (k _ _ g y)) hg e (Reps.off k r)
  | _, _, .idt hS hX hg e r => .idt hS (fun y => let ⟨_, _, _, g, _⟩ := hg; hX (k _ _ g y)) hg e (Reps.off k r)
  | _, _, .ty T => .ty T
  | _, _, .iset hX hg => .iset (fun y => let ⟨_, _, _, _, g, _⟩ := hg; hX (k _ _ g y)) hg
  | _, _, .imap hS hX hg a b => .imap hS (fun y => let ⟨_, _, _, g, _⟩ := hg; hX (k _ _ g y)) hg a b
  | _, _, .own a => .own a
theorem Reps.off {w : World} {X Y : Addr → Prop} {h : Heap} (k : ∀ b o, h.get? b = some o → Y b → X b) : ∀ {vs : List Value} {ds : List D}, Reps w X h vs ds → Reps w Y h vs ds
  | _, _, .nil => .nil
  | _, _, .cons a r => .cons (Rep.off k a) (Reps.off k r)
end
section
variable {w : World} {X : Addr → Prop} {h : Heap}
theorem Reps.length : ∀ {vs : List Value} {ds : List D}, Reps w X h vs ds → vs.length = ds.length
  | _, _, .nil => rfl
  | _, _, .cons _ r => by simp [Reps.length r]
theorem Reps.append : ∀ {vs us : List Value} {ds es : List D}, Reps w X h vs ds → Reps w X h us es → Reps w X h (vs ++ us) (ds ++ es)
  | _, _, _, _, .nil, k => k
  | _, _, _, _, .cons a r, k => .cons a (Reps.append r k)
theorem Reps.get : ∀ {vs : List Value} {ds : List D} {i : Nat} {d : D}, Reps w X h vs ds → ds[i]? = some d → ∃ v, vs[i]? = some v ∧ Rep w X h v d
  | _, _, 0, _, .cons a r, e => ⟨_, rfl, by cases e; exact a⟩
  | _, _, i + 1, _, .cons a r, e => Reps.get r (i := i) (by simpa using e)
theorem Reps.snoc {vs : List Value} {ds : List D} {v : Value} {d : D} (a : Reps w X h vs ds) (b : Rep w X h v d) : Reps w X h (vs ++ [v]) (ds ++ [d]) := a.append (.cons b .nil)
end
/-- the base: the heap as the top left it -/
noncomputable def Base (w : World) (h : Heap) : Prop := ∀ a o, (HF w.params).get? a = some o → h.get? a = some o
noncomputable def Live (h : Heap) (b : Addr) : Prop := ∃ o, h.get? b = some o
noncomputable def XOk (w : World) (X : Addr → Prop) (h : Heap) : Prop := ∀ b, X b → (HF w.params).get? b = none ∧ Live h b
theorem Live.kp {h h' : Heap} {b : Addr} (x : Live h b) (k : Kp h h') : Live h' b := let ⟨o, e⟩ := x; ⟨o, k _ _ e⟩
theorem Base.kp {w : World} {X : Addr → Prop} {h h' : Heap} (x : Base w h) (ok : XOk w X h) (k : KpB X h h') : Base w h' := fun a o e => k a o (fun q => by rw [(ok a q).1] at e; cases e) (x a o e)
theorem Base.kp' {w : World} {h h' : Heap} (x : Base w h) (k : Kp h h') : Base w h' := fun a o e => k a o (x a o e)
theorem XOk.lv {w : World} {X : Addr → Prop} {h h' : Heap} (x : XOk w X h) (k : ∀ b, Live h b → Live h' b) : XOk w X h' := fun b q => ⟨(x b q).1, k _ (x b q).2⟩
theorem Base.none {w : World} {h : Heap} (x : Base w h) {b : Addr} (e : h.get? b = none) : (HF w.params).get? b = none := by
  cases q : (HF w.params).get? b with
  | none => rfl
  | some o => rw [x b o q] at e; cases e
theorem get?_size (h : Heap) : h.get? h.objs.size = none := by
  cases e : h.get? h.objs.size with
  | none => rfl
  | some o => exact absurd (Heap.lt_size e) (Nat.lt_irrefl _)
/-- a name's value in a frame -/
noncomputable def Bound (env : Env) (h : Heap) (x : Str) (v : Value) : Prop :=
  (env.kindOf x = some .local ∧ ∃ m, h.Ns env.locals m ∧ m x = some v) ∨ ((env.kindOf x = some .cell ∨ env.kindOf x = some .free) ∧ ∃ c, env.cells.lookup x = some c ∧ h.IsCell c (some v))
noncomputable abbrev Rho := List (Str × D)
structure Sees (w : World) (env : Env) (X : Addr → Prop) (h : Heap) (ρ : Rho) : Prop where
  base : Base w h
  xok : XOk w X h
  kind : env.scope.kind = .function
  glob : env.globals = mainGlobals
  blt : env.builtins = builtinsNs
  ns : ∃ m, h.Ns env.locals m
  cl : ∀ x c, env.cells.lookup x = some c → (∃ v, h.IsCell c v) ∧ c ≠ env.locals
  ap : ∀ x y c, env.cells.lookup x = some c → env.cells.lookup y = some c → x = y
  has : ∀ x, (env.kindOf x = some .cell ∨ env.kindOf x = some .free) → ∃ c, env.cells.lookup x = some c
  val : ∀ x d, ρ.lookup x = some d → ∃ v, Rep w X h v d ∧ Bound env h x v
theorem IsCell_at {h h' : Heap} {c : Addr} {v : Option Value} (x : h.IsCell c v) (k : ∀ o, h.get? c = some o → h'.get? c = some o) : h'.IsCell c v := let ⟨o, a, b⟩ := x; ⟨o, k _ a, b⟩
theorem Bound.at' {env : Env} {h h' : Heap} {x : Str} {v : Value} (b : Bound env h x v) (k : ∀ o, h.get? env.locals = some o → h'.get? env.locals = some o) (k' : ∀ x c o, env.cells.lookup x = some c → h.get? c = some o → h'.get? c = some o) : Bound env h' x v := by
  rcases b with ⟨a, m, n, e⟩ | ⟨a, c, e, i⟩
  · exact .inl ⟨a, m, n.at' k, e⟩
  · exact .inr ⟨a, c, e, IsCell_at i fun o q => k' _ _ o e q⟩
/-- what is off X, the frame's names and its cells stand -/
theorem Sees.step {w : World} {env : Env} {X : Addr → Prop} {h h' : Heap} {ρ : Rho} (s : Sees w env X h ρ) (kX : KpB X h h') (kl : ∀ o, h.get? env.locals = some o → h'.get? env.locals = some o)
    (kc : ∀ x c o, env.cells.lookup x = some c → h.get? c = some o → h'.get? c = some o) (hz : ∀ b, X b → Live h b → Live h' b) : Sees w env X h' ρ :=
  ⟨s.base.kp s.xok kX, fun b q => ⟨(s.xok b q).1, hz b q (s.xok b q).2⟩, s.kind, s.glob, s.blt, let ⟨m, n⟩ := s.ns; ⟨m, n.at' kl⟩, fun x c e => let ⟨⟨v, i⟩, r⟩ := s.cl x c e; ⟨⟨v, IsCell_at i fun o q => kc x c o e q⟩, r⟩, s.ap, s.has,
    fun x d e => let ⟨v, r, b⟩ := s.val x d e; ⟨v, r.kp kX, b.at' kl kc⟩⟩
theorem Sees.kp {w : World} {env : Env} {X : Addr → Prop} {h h' : Heap} {ρ : Rho} (s : Sees w env X h ρ) (k : Kp h h') : Sees w env X h' ρ :=
  s.step k.but (fun o e => k _ o e) (fun _ c o _ e => k c o e) fun b _ l => l.kp k
theorem Sees.sub {w : World} {env : Env} {X : Addr → Prop} {h : Heap} {ρ ρ' : Rho} (s : Sees w env X h ρ) (k : ∀ x d, ρ'.lookup x = some d → ρ.lookup x = some d) : Sees w env X h ρ' :=
  { s with val := fun x d e => s.val x d (k x d e) }
theorem Sees.off {w : World} {env : Env} {X Y : Addr → Prop} {h : Heap} {ρ : Rho} (s : Sees w env X h ρ) (k : ∀ b, Y b → X b) : Sees w env Y h ρ :=
  { s with xok := fun b q => s.xok b (k b q), val := fun x d e => let ⟨v, r, b⟩ := s.val x d e; ⟨v, r.off fun b o _ q => k b q, b⟩ }
/-- fresh addresses go off limits -/
theorem Sees.more {w : World} {env : Env} {X Y : Addr → Prop} {h : Heap} {ρ : Rho} (s : Sees w env X h ρ) {h' : Heap} (k : Kp h h') (hY : ∀ b, Y b → X b ∨ (h.get? b = none ∧ Live h' b)) : Sees w env Y h' ρ :=
  let t := s.kp k
  { t with
    xok := fun b q => (hY b q).elim (t.xok b) fun q => ⟨s.base.none q.1, q.2⟩
    val := fun x d e => let ⟨v, r, b⟩ := s.val x d e
      ⟨v, (r.off (Y := Y) fun b o e q => (hY b q).elim id fun q => by rw [q.1] at e; cases e).kp k.but, b.at' (fun o e => k _ o e) fun _ c o _ e => k c o e⟩ }
structure AOk (n : Nat) (A : Around) : Prop where
  hd : A.handled = none
  dp : A.depth + n < 1000
  un : A.units + 10 * n + 300 < 9900
theorem AOk.deeper {n : Nat} {A : Around} (a : AOk (n + 1) A) (env : Env) : AOk n (A.deeper env) := ⟨a.hd, by have := a.dp; show A.depth + 1 + n < 1000; omega, by have := a.un; show A.units + 3 + 10 * n + 300 < 9900; omega⟩
theorem AOk.le {n m : Nat} {A : Around} (a : AOk n A) (h : m ≤ n) : AOk m A := ⟨a.hd, by have := a.dp; omega, by have := a.un; omega⟩
/-- a heap grows, but for N -/
structure ExtB (N : Addr → Prop) (s s' : Shared) : Prop where
  eq : ∃ h' tk, s' = { s with heap := h', toks := tk }
  kp : KpB N s.heap s'.heap
  lv : ∀ b, Live s.heap b → Live s'.heap b
structure Ext (s s' : Shared) : Prop where
  eq : ∃ h' tk, s' = { s with heap := h', toks := tk }
  kp : Kp s.heap s'.heap
theorem Ext.refl {s : Shared} : Ext s s := ⟨⟨_, _, rfl⟩, Kp.refl⟩
theorem Ext.trans {a b c : Shared} (x : Ext a b) (y : Ext b c) : Ext a c := by
  obtain ⟨⟨h1, t1, rfl⟩, k1⟩ := x
  obtain ⟨⟨h2, t2, rfl⟩, k2⟩ := y
  exact ⟨⟨h2, t2, rfl⟩, k1.trans k2⟩
theorem Ext.tok {s : Shared} {t : Nat} : Ext s { s with toks := t } := ⟨⟨_, _, rfl⟩, Kp.refl⟩
theorem Ext.push {s : Shared} {o : Obj} {t : Nat} : Ext s { s with heap := s.heap.push o, toks := t } := ⟨⟨_, _, rfl⟩, Kp.push o⟩
theorem ExtB.refl {N} {s : Shared} : ExtB N s s := ⟨⟨_, _, rfl⟩, KpB.refl, fun _ x => x⟩
theorem ExtB.trans {N} {a b c : Shared} (x : ExtB N a b) (y : ExtB N b c) : ExtB N a c := by
  obtain ⟨⟨h1, t1, rfl⟩, k1, z1⟩ := x
  obtain ⟨⟨h2, t2, rfl⟩, k2, z2⟩ := y
  exact ⟨⟨h2, t2, rfl⟩, k1.trans k2, fun b l => z2 b (z1 b l)⟩
theorem Ext.b {N} {a b : Shared} (x : Ext a b) : ExtB N a b := ⟨x.eq, x.kp.but, fun _ l => l.kp x.kp⟩
theorem ExtB.mono {N M : Addr → Prop} {a b : Shared} (x : ExtB N a b) (h : ∀ c, N c → M c) : ExtB M a b := ⟨x.eq, fun b o n e => x.kp b o (fun q => n (h _ q)) e, x.lv⟩
theorem ExtB.ext {a b : Shared} (x : ExtB (fun _ => False) a b) : Ext a b := ⟨x.eq, fun b o e => x.kp b o id e⟩
/-- what was made since a does not count -/
theorem ExtB.since {N M : Addr → Prop} {a b c : Shared} (x : ExtB N a b) (y : ExtB M b c) (h : ∀ d, M d → N d ∨ a.heap.get? d = none) : ExtB N a c := by
  obtain ⟨⟨h1, t1, rfl⟩, k1, z1⟩ := x
  obtain ⟨⟨h2, t2, rfl⟩, k2, z2⟩ := y
  exact ⟨⟨h2, t2, rfl⟩, fun b o n e => k2 b o (fun q => (h b q).elim n fun q => by rw [q] at e; cases e) (k1 b o n e), fun b l => z2 b (z1 b l)⟩
theorem Ext.since {M : Addr → Prop} {a b c : Shared} (x : Ext a b) (y : ExtB M b c) (h : ∀ d, M d → a.heap.get? d = none) : Ext a c :=
  (x.b.since y fun d q => .inr (h d q)).ext
noncomputable abbrev No : Value → Shared → Prop := fun _ _ => False
/-- any tree's worth, on a frame of scope sc that sees ρ -/
noncomputable def Tr (w : World) (n : Nat) (sc : Scope) (ρ : Rho) (t : Env → Sem Value) (d : D) : Prop :=
  ∀ A env X s, env.scope = sc → AOk n A → Sees w env X s.heap ρ → wpAny (model pw w) A (t env) (fun v s' => Ext s s' ∧ Rep w X s'.heap v d) No s
/-- an expression's worth -/
noncomputable abbrev Ev (w : World) (n : Nat) (sc : Scope) (ρ : Rho) (e : Expr) (d : D) : Prop := Tr w n sc ρ (fun env => eval e env) d
/-- an operation's worth on values -/
noncomputable def Cl (w : World) (n : Nat) (t : List Value → Sem Value) (ds : List D) (d : D) : Prop :=
  ∀ A X s vs, AOk n A → Base w s.heap → XOk w X s.heap → Reps w X s.heap vs ds → wpAny (model pw w) A (t vs) (fun v s' => Ext s s' ∧ Rep w X s'.heap v d) No s
/-- a test -/
noncomputable def Ts (w : World) (n : Nat) (sc : Scope) (ρ : Rho) (e : Expr) (b : Bool) : Prop :=
  ∀ A env X s, env.scope = sc → AOk n A → Sees w env X s.heap ρ → wpAny (model pw w) A (isTrue e env (eval e env)) (fun c s' => Ext s s' ∧ c = b) No s
section
variable {w : World} {n : Nat} {env : Env} {sc : Scope} {ρ : Rho}
theorem Sees.ext {X : Addr → Prop} {s s' : Shared} (x : Sees w env X s.heap ρ) (e : Ext s s') : Sees w env X s'.heap ρ := x.kp e.kp
theorem Rep.ext {X : Addr → Prop} {s s' : Shared} {v : Value} {d : D} (x : Rep w X s.heap v d) (e : Ext s s') : Rep w X s'.heap v d := x.kp e.kp.but
theorem Reps.ext {X : Addr → Prop} {s s' : Shared} {v : List Value} {d : List D} (x : Reps w X s.heap v d) (e : Ext s s') : Reps w X s'.heap v d := x.kp e.kp.but
theorem Base.ext {s s' : Shared} (x : Base w s.heap) (e : Ext s s') : Base w s'.heap := x.kp' e.kp
theorem XOk.ext {X : Addr → Prop} {s s' : Shared} (x : XOk w X s.heap) (e : Ext s s') : XOk w X s'.heap := x.lv fun _ l => l.kp e.kp
theorem Ev.name {x : Str} {p : Pos} {d : D} (h : ρ.lookup x = some d) (hd : (x == ("__debug__" : Str)) = false := by decide +kernel) (hc : (x == ("__classdict__" : Str)) = false := by decide +kernel) : Ev w n sc ρ (.Name x p) d := fun A env X s _ _ S => by
  obtain ⟨v, r, b⟩ := S.val x d h
  rcases b with ⟨k, m, hn, hv⟩ | ⟨k, c, hc', hi⟩
  · exact wpAny_Name (wpAny_loadName_local S.kind k hn hv ⟨.refl, r⟩) hd
  · rcases k with k | k
    · exact wpAny_Name (wpAny_loadName_cell S.kind k hc' hi ⟨.refl, r⟩) hd
    · exact wpAny_Name (wpAny_loadName_free S.kind k hc' hi ⟨.refl, r⟩ hc) hd
theorem Ev.int {i : Int} {k : Nat} {p : Pos} : Ev w n sc ρ (.Constant (.int i) k p) (.int i) := fun A env X s _ _ S => wpAny_Constant_int ⟨.tok, .int _ _⟩
theorem Ev.str {x : Str} {k : Nat} {p : Pos} : Ev w n sc ρ (.Constant (.str x) k p) (.str x) := fun A env X s _ _ S => Constant_str ⟨.tok, .str _ _⟩
theorem Ev.none {k : Nat} {p : Pos} : Ev w n sc ρ (.Constant .none k p) .none := fun A env X s _ _ S => wpAny_pure ⟨.refl, .none⟩
theorem Ev.bool {b : Bool} {k : Nat} {p : Pos} : Ev w n sc ρ (.Constant (.bool b) k p) (.bool b) := fun A env X s _ _ S => wpAny_pure ⟨.refl, .bool b⟩
theorem Ev.bytes {x : List UInt8} {k : Nat} {p : Pos} : Ev w n sc ρ (.Constant (.bytes x) k p) (.bytes x.toArray) := fun A env X s _ _ S => fun _ _ _ => ⟨.tok, .bytes _ _⟩
noncomputable abbrev Bin (op : Operator) : List Value → Sem Value := fun vs => match vs with | [x, y] => binaryOp op x y | _ => unsupported ""
noncomputable abbrev Cmp (op : CmpOp) : List Value → Sem Value := fun vs => match vs with | [x, y] => compareOp op x y | _ => unsupported ""
theorem Ev.binop {l r : Expr} {op : Operator} {p : Pos} {a b d : D} (hl : Ev w n sc ρ l a) (hr : Ev w n sc ρ r b) (ho : Cl w n (Bin op) [a, b] d) : Ev w n sc ρ (.BinOp l op r p) d := fun A env X s he hA S => by
  refine wpAny_BinOp (wpAny_mono (hl A env X s he hA S) (fun v s₁ h₁ => wpAny_mono (hr A env X s₁ he hA (S.ext h₁.1)) (fun u s₂ h₂ => ?_) fun _ _ x => x) fun _ _ x => x)
  have S2 := (S.ext h₁.1).ext h₂.1
  exact wpAny_mono (ho A X s₂ [v, u] hA S2.base S2.xok (.cons (h₁.2.ext h₂.1) (.cons h₂.2 .nil))) (fun z s₃ h₃ => ⟨(h₁.1.trans h₂.1).trans h₃.1, h₃.2⟩) fun _ _ x => x
theorem Ev.compare {l r : Expr} {op : CmpOp} {p : Pos} {a b d : D} (hl : Ev w n sc ρ l a) (hr : Ev w n sc ρ r b) (ho : Cl w n (Cmp op) [a, b] d) (hm : behindInMarks op r = false := by with_unfolding_all rfl) : Ev w n sc ρ (.Compare l [op] [r] p) d := fun A env X s he hA S => by
  refine wpAny_Compare1 (wpAny_mono (hl A env X s he hA S) (fun v s₁ h₁ => wpAny_mono (hr A env X s₁ he hA (S.ext h₁.1)) (fun u s₂ h₂ => ?_) fun _ _ x => x) fun _ _ x => x) hm
  have S2 := (S.ext h₁.1).ext h₂.1
  exact wpAny_mono (ho A X s₂ [v, u] hA S2.base S2.xok (.cons (h₁.2.ext h₂.1) (.cons h₂.2 .nil))) (fun z s₃ h₃ => ⟨(h₁.1.trans h₂.1).trans h₃.1, h₃.2⟩) fun _ _ x => x
theorem Ts.compare {l r : Expr} {op : CmpOp} {p : Pos} {a b : D} {c : Bool} (hl : Ev w n sc ρ l a) (hr : Ev w n sc ρ r b) (ho : Cl w n (Cmp op) [a, b] (.bool c)) (hm : behindInMarks op r = false := by with_unfolding_all rfl) : Ts w n sc ρ (.Compare l [op] [r] p) c := fun A env X s he hA S => by
  refine wpAny_isTrue_Compare1 (wpAny_mono (hl A env X s he hA S) (fun v s₁ h₁ => wpAny_mono (hr A env X s₁ he hA (S.ext h₁.1)) (fun u s₂ h₂ => ?_) fun _ _ x => x) fun _ _ x => x) hm
  have S2 := (S.ext h₁.1).ext h₂.1
  refine wpAny_mono (ho A X s₂ [v, u] hA S2.base S2.xok (.cons (h₁.2.ext h₂.1) (.cons h₂.2 .nil))) (fun z s₃ h₃ => ?_) fun _ _ x => x
  obtain ⟨e3, r3⟩ := h₃
  cases r3
  exact wpAny_truthy_bool ⟨(h₁.1.trans h₂.1).trans e3, rfl⟩
end
section
variable {w : World} {n : Nat} {a b : Int}
theorem Reps.one {X : Addr → Prop} {h : Heap} {vs : List Value} {d : D} (r : Reps w X h vs [d]) : ∃ v, vs = [v] ∧ Rep w X h v d := by
  cases r with | cons x r => cases r with | nil => exact ⟨_, rfl, x⟩
theorem Reps.two {X : Addr → Prop} {h : Heap} {vs : List Value} {d e : D} (r : Reps w X h vs [d, e]) : ∃ v u, vs = [v, u] ∧ Rep w X h v d ∧ Rep w X h u e := by
  cases r with | cons x r => cases r with | cons y r => cases r with | nil => exact ⟨_, _, rfl, x, y⟩
theorem Rep.int_is {X : Addr → Prop} {h : Heap} {v : Value} {i : Int} (r : Rep w X h v (.int i)) : ∃ t, v = .int i t := by cases r; exact ⟨_, rfl⟩
theorem Rep.str_is {X : Addr → Prop} {h : Heap} {v : Value} {i : Str} (r : Rep w X h v (.str i)) : ∃ t, v = .str i t := by cases r; exact ⟨_, rfl⟩
theorem Rep.bytes_is {X : Addr → Prop} {h : Heap} {v : Value} {i : Array UInt8} (r : Rep w X h v (.bytes i)) : ∃ t, v = .bytes i t := by cases r; exact ⟨_, rfl⟩
theorem Reps.ints2 {X : Addr → Prop} {h : Heap} {vs : List Value} {i j : Int} (r : Reps w X h vs [.int i, .int j]) : ∃ t u, vs = [.int i t, .int j u] := by
  obtain ⟨v, u, rfl, x, y⟩ := r.two
  obtain ⟨t, rfl⟩ := x.int_is
  obtain ⟨t', rfl⟩ := y.int_is
  exact ⟨t, t', rfl⟩
theorem Reps.bytes2 {X : Addr → Prop} {h : Heap} {vs : List Value} {i j : Array UInt8} (r : Reps w X h vs [.bytes i, .bytes j]) : ∃ t u, vs = [.bytes i t, .bytes j u] := by
  obtain ⟨v, u, rfl, x, y⟩ := r.two
  obtain ⟨t, rfl⟩ := x.bytes_is
  obtain ⟨t', rfl⟩ := y.bytes_is
  exact ⟨t, t', rfl⟩
theorem cl_add : Cl w n (Bin .Add) [.int a, .int b] (.int (a + b)) := fun A X s vs _ _ _ r => by
  obtain ⟨t, u, rfl⟩ := r.ints2; exact add_int ⟨.tok, .int _ _⟩
theorem cl_sub : Cl w n (Bin .Sub) [.int a, .int b] (.int (a - b)) := fun A X s vs _ _ _ r => by
  obtain ⟨t, u, rfl⟩ := r.ints2; exact sub_int ⟨.tok, .int _ _⟩
theorem cl_mod (hb : b ≠ 0) : Cl w n (Bin .Mod) [.int a, .int b] (.int (a.fmod b)) := fun A X s vs _ _ _ r => by
  obtain ⟨t, u, rfl⟩ := r.ints2; exact mod_int' hb ⟨.tok, .int _ _⟩
theorem cl_lt : Cl w n (Cmp .Lt) [.int a, .int b] (.bool (decide (a < b))) := fun A X s vs _ _ _ r => by
  obtain ⟨t, u, rfl⟩ := r.ints2; exact lt_int ⟨.refl, .bool _⟩
theorem cl_gt : Cl w n (Cmp .Gt) [.int a, .int b] (.bool (decide (b < a))) := fun A X s vs _ _ _ r => by
  obtain ⟨t, u, rfl⟩ := r.ints2; exact gt_int ⟨.refl, .bool _⟩
theorem cl_eq : Cl w n (Cmp .Eq) [.int a, .int b] (.bool (a == b)) := fun A X s vs _ _ _ r => by
  obtain ⟨t, u, rfl⟩ := r.ints2; exact eq_int ⟨.refl, .bool _⟩
end
end Mine
set_option maxRecDepth 100000
set_option Elab.async false
set_option linter.unusedVariables false
namespace Mine
open PySem PySem.W PySem.Calls PyProof.Rows
/-- a frame at hand: its own objects O, all that is off limits X, its storable names by st -/
structure Fra (env : Env) (st : Scope) (O X : Addr → Prop) : Prop where
  ol : O env.locals
  ox : ∀ b, O b → X b
  loc : ∀ x, st.names.lookup x = some .local → env.kindOf x = some .local
  cel : ∀ x, st.names.lookup x = some .cell → env.kindOf x = some .cell ∧ ∃ c, env.cells.lookup x = some c ∧ O c
noncomputable def Storable (st : Scope) (x : Str) : Prop := st.names.lookup x = some .local ∨ st.names.lookup x = some .cell
theorem lv {a : Addr} {h h' : Heap} (s : Heap.SameBut a h h') (l : Live h' a) : ∀ b, Live h b → Live h' b := fun b ⟨o, e⟩ => by
  by_cases q : b = a
  · subst q; exact l
  · exact ⟨o, s.extBut b o q e⟩
theorem Ns_live {h : Heap} {a : Addr} {m} (x : h.Ns a m) : Live h a := let ⟨o, _, _, e, _⟩ := x; ⟨o, e⟩
theorem Cell_live {h : Heap} {a : Addr} {m} (x : h.IsCell a m) : Live h a := let ⟨o, e, _⟩ := x; ⟨o, e⟩
theorem Fra.mono {env : Env} {st : Scope} {O X Y : Addr → Prop} (f : Fra env st O X) (h : ∀ b, X b → Y b) : Fra env st O Y := ⟨f.ol, fun b q => h b (f.ox b q), f.loc, f.cel⟩
section
variable {w : World} {n : Nat} {env : Env} {sc st : Scope} {ρ : Rho} {A : Around} {O X : Addr → Prop} {s : Shared}
theorem store_sees {x : Str} {v : Value} {d : D} (hx : Storable st x) (S : Sees w env X s.heap ρ) (F : Fra env st O X) (hr : Rep w X s.heap v d) {Q : Unit → Shared → Prop}
    (hQ : ∀ s', ExtB O s s' → Sees w env X s'.heap ((x, d) :: ρ) → Q () s') : wpAny (model pw w) A (storeName env x v) Q No s := by
  rcases hx with hx | hx
  · obtain ⟨m, hn⟩ := S.ns
    refine wpAny_storeName_local (F.loc x hx) hn (fun h' hn' hs => hQ _ ⟨⟨_, _, rfl⟩, fun b o q e => hs.extBut b o (fun c => q (c ▸ F.ol)) e, lv hs (Ns_live hn')⟩ ?_) (by rw [S.kind]; rfl)
    have kX : KpB X s.heap h' := fun b o q e => hs.extBut b o (fun c => q (c ▸ F.ox _ F.ol)) e
    refine ⟨S.base.kp S.xok kX, S.xok.lv (lv hs (Ns_live hn')), S.kind, S.glob, S.blt, ⟨_, hn'⟩, fun y c e => let ⟨⟨v, i⟩, r⟩ := S.cl y c e; ⟨⟨v, i.sameBut hs r⟩, r⟩, S.ap, S.has, fun y e he => ?_⟩
    rw [List.lookup_cons] at he
    cases hy : y == x with
    | true =>
      rw [hy] at he; cases he
      have : y = x := eq_of_beq hy
      subst this
      exact ⟨v, hr.kp kX, .inl ⟨F.loc y hx, _, hn', by simp⟩⟩
    | false =>
      rw [hy] at he
      obtain ⟨u, r, b⟩ := S.val y e he
      have hne : y ≠ x := fun q => by rw [q] at hy; simp at hy
      refine ⟨u, r.kp kX, ?_⟩
      rcases b with ⟨a, m', hm', e'⟩ | ⟨a, c, e', i⟩
      · refine .inl ⟨a, _, hn', ?_⟩
        have : m' = m := by
          obtain ⟨o1, es1, ep1, a1, b1, _, c1⟩ := hm'
          obtain ⟨o2, es2, ep2, a2, b2, _, c2⟩ := hn
          rw [a1] at a2; cases a2; rw [b1] at b2; cases b2
          funext z; rw [← c1, ← c2]
        subst this
        simp [hne, e']
      · exact .inr ⟨a, c, e', i.sameBut hs (S.cl y c e').2⟩
  · obtain ⟨hk, c, hc, hO⟩ := F.cel x hx
    obtain ⟨⟨v₀, hi⟩, hcl⟩ := S.cl x c hc
    refine wpAny_storeName_cell S.kind hk hc hi fun h' hi' hs => hQ _ ⟨⟨_, _, rfl⟩, fun b o q e => hs.extBut b o (fun z => q (z ▸ hO)) e, lv hs (Cell_live hi')⟩ ?_
    have kX : KpB X s.heap h' := fun b o q e => hs.extBut b o (fun z => q (z ▸ F.ox _ hO)) e
    refine ⟨S.base.kp S.xok kX, S.xok.lv (lv hs (Cell_live hi')), S.kind, S.glob, S.blt, let ⟨m, hn⟩ := S.ns; ⟨m, hn.sameBut hs hcl.symm⟩, fun y c' e => let ⟨⟨v', i⟩, r⟩ := S.cl y c' e; ⟨?_, r⟩, S.ap, S.has, fun y e he => ?_⟩
    · by_cases q : c' = c
      · subst q; exact ⟨_, hi'⟩
      · exact ⟨_, i.sameBut hs q⟩
    rw [List.lookup_cons] at he
    cases hy : y == x with
    | true =>
      rw [hy] at he; cases he
      have : y = x := eq_of_beq hy
      subst this
      exact ⟨v, hr.kp kX, .inr ⟨.inl hk, c, hc, hi'⟩⟩
    | false =>
      rw [hy] at he
      obtain ⟨u, r, b⟩ := S.val y e he
      have hne : y ≠ x := fun q => by rw [q] at hy; simp at hy
      refine ⟨u, r.kp kX, ?_⟩
      rcases b with ⟨a, m', hm', e'⟩ | ⟨a, c', e', i⟩
      · exact .inl ⟨a, m', hm'.sameBut hs hcl.symm, e'⟩
      · exact .inr ⟨a, c', e', i.sameBut hs fun q => hne (S.ap _ _ c (q ▸ e') hc)⟩
/-- how statements end -/
inductive Out where
  | nx (ρ : Rho)
  | rt (d : D)
noncomputable def OutOk (w : World) (env : Env) (X : Addr → Prop) (s' : Shared) (f : Flow) : Out → Prop
  | .nx ρ => f = .next ∧ Sees w env X s'.heap ρ
  | .rt d => ∃ v, f = .ret v ∧ Rep w X s'.heap v d
noncomputable def Stm (w : World) (n : Nat) (sc st : Scope) (ρ : Rho) (t : Env → Sem Flow) (o : Out) : Prop :=
  ∀ A env O X s, env.scope = sc → AOk n A → Sees w env X s.heap ρ → Fra env st O X → wpAny (model pw w) A (t env) (fun f s' => ExtB O s s' ∧ OutOk w env X s' f o) No s
noncomputable abbrev Ex (w : World) (n : Nat) (sc st : Scope) (ρ : Rho) (t : Stmt) (o : Out) : Prop := Stm w n sc st ρ (fun env => exec t env) o
noncomputable abbrev Exs (w : World) (n : Nat) (sc st : Scope) (ρ : Rho) (t : List Stmt) (o : Out) : Prop := Stm w n sc st ρ (fun env => execs t env) o
theorem Exs.nil : Exs w n sc st ρ [] (.nx ρ) := fun A env O X s _ _ S F => wpAny_execs_nil ⟨.refl, rfl, S⟩
theorem Exs.cons {t : Stmt} {rest : List Stmt} {ρ' : Rho} {o : Out} (h : Ex w n sc st ρ t (.nx ρ')) (k : Exs w n sc st ρ' rest o) : Exs w n sc st ρ (t :: rest) o := fun A env O X s he hA S F => by
  refine wpAny_execs_cons (wpAny_mono (h A env O X s he hA S F) (fun f s' hf => ?_) fun _ _ x => x)
  obtain ⟨e, rfl, S'⟩ := hf
  exact wpAny_mono (k A env O X s' he hA S' F) (fun f s'' h'' => ⟨e.trans h''.1, h''.2⟩) fun _ _ x => x
theorem Exs.last {t : Stmt} {rest : List Stmt} {d : D} (h : Ex w n sc st ρ t (.rt d)) : Exs w n sc st ρ (t :: rest) (.rt d) := fun A env O X s he hA S F => by
  refine wpAny_execs_cons (wpAny_mono (h A env O X s he hA S F) (fun f s' hf => ?_) fun _ _ x => x)
  obtain ⟨e, v, rfl, r⟩ := hf
  exact ⟨e, v, rfl, r⟩
theorem Stm.sub {t : Env → Sem Flow} {ρ₁ ρ₂ : Rho} (h : Stm w n sc st ρ t (.nx ρ₁)) (k : ∀ x d, ρ₂.lookup x = some d → ρ₁.lookup x = some d) : Stm w n sc st ρ t (.nx ρ₂) := fun A env O X s he hA S F =>
  wpAny_mono (h A env O X s he hA S F) (fun f s' h' => ⟨h'.1, h'.2.1, h'.2.2.sub k⟩) fun _ _ x => x
theorem Stm.pre {t : Env → Sem Flow} {ρ₁ : Rho} {o : Out} (h : Stm w n sc st ρ₁ t o) (k : ∀ x d, ρ₁.lookup x = some d → ρ.lookup x = some d) : Stm w n sc st ρ t o := fun A env O X s he hA S F => h A env O X s he hA (S.sub k) F
theorem Tr.pre {t : Env → Sem Value} {ρ₁ : Rho} {d : D} (h : Tr w n sc ρ₁ t d) (k : ∀ x d, ρ₁.lookup x = some d → ρ.lookup x = some d) : Tr w n sc ρ t d := fun A env X s he hA S => h A env X s he hA (S.sub k)
theorem Ex.assign {x : Str} {p q : Pos} {e : Expr} {d : D} (h : Ev w n sc ρ e d) (hx : Storable st x) (hs : ∀ env : Env, env.scope = sc → swapsWith e (some (.Name x p)) q.line env = pure false) : Ex w n sc st ρ (.Assign [.Name x p] e q) (.nx ((x, d) :: ρ)) := fun A env O X s he hA S F => by
  refine wpAny_Assign_Name (wpAny_mono (h A env X s he hA S) (fun v s₁ h₁ => ?_) fun _ _ x => x) (hs env he)
  exact store_sees hx (S.ext h₁.1) F h₁.2 fun s' e' S' => ⟨h₁.1.b.trans e', rfl, S'⟩
theorem Ex.ret {e : Expr} {p : Pos} {d : D} (h : Ev w n sc ρ e d) : Ex w n sc st ρ (.Return (some e) p) (.rt d) := fun A env O X s he hA S F =>
  wpAny_Return_some (wpAny_mono (h A env X s he hA S) (fun v s₁ h₁ => ⟨h₁.1.b, v, rfl, h₁.2⟩) fun _ _ x => x)
theorem Ex.ifT {t : Expr} {body orelse : List Stmt} {p : Pos} {o : Out} (h : Ts w n sc ρ t true) (k : Exs w n sc st ρ body o) : Ex w n sc st ρ (.If t body orelse p) o := fun A env O X s he hA S F =>
  wpAny_If (wpAny_mono (h A env X s he hA S) (fun c s₁ h₁ => by
    obtain ⟨e, rfl⟩ := h₁
    exact wpAny_mono (k A env O X s₁ he hA (S.ext e) F) (fun f s' h' => ⟨e.b.trans h'.1, h'.2⟩) fun _ _ x => x) fun _ _ x => x)
theorem Ex.ifF {t : Expr} {body orelse : List Stmt} {p : Pos} {o : Out} (h : Ts w n sc ρ t false) (k : Exs w n sc st ρ orelse o) : Ex w n sc st ρ (.If t body orelse p) o := fun A env O X s he hA S F =>
  wpAny_If (wpAny_mono (h A env X s he hA S) (fun c s₁ h₁ => by
    obtain ⟨e, rfl⟩ := h₁
    exact wpAny_mono (k A env O X s₁ he hA (S.ext e) F) (fun f s' h' => ⟨e.b.trans h'.1, h'.2⟩) fun _ _ x => x) fun _ _ x => x)
/-- a target is set -/
noncomputable def As (w : World) (n : Nat) (sc st : Scope) (ρ : Rho) (tgt : Expr) (d : D) (ρ' : Rho) : Prop :=
  ∀ A env O X s v, env.scope = sc → AOk n A → Sees w env X s.heap ρ → Fra env st O X → Rep w X s.heap v d → wpAny (model pw w) A (assign tgt env v) (fun _ s' => ExtB O s s' ∧ Sees w env X s'.heap ρ') No s
theorem As.name {x : Str} {p : Pos} {d : D} (hx : Storable st x) : As w n sc st ρ (.Name x p) d ((x, d) :: ρ) := fun A env O X s v he hA S F r =>
  wpAny_assign_Name (store_sees hx S F r fun s' e S' => ⟨e, S'⟩)
theorem tuple_of_rep {h : Heap} {v : Value} {ds : List D} (r : Rep w X h v (.tup ds)) : ∃ a vs k, v = .ref a ∧ ¬ X a ∧ h.get? a = some (seqObj "tuple" vs.toArray k) ∧ Reps w X h vs ds := by
  cases r with | tup a b c => exact ⟨_, _, _, rfl, a, b, c⟩
theorem list_of_rep {h : Heap} {v : Value} {ds : List D} (r : Rep w X h v (.lst ds)) : ∃ a vs k, v = .ref a ∧ ¬ X a ∧ h.get? a = some (seqObj "list" vs.toArray k) ∧ Reps w X h vs ds := by
  cases r with | lst a b c => exact ⟨_, _, _, rfl, a, b, c⟩
theorem isTuple_of {h : Heap} {a : Addr} {vs : List Value} {k : Nat} (e : h.get? a = some (seqObj "tuple" vs.toArray k)) : h.IsTuple a vs.toArray := ⟨_, e, rfl, _, rfl⟩
theorem isList_of {h : Heap} {a : Addr} {vs : List Value} {k : Nat} (e : h.get? a = some (seqObj "list" vs.toArray k)) : h.IsList a vs.toArray := ⟨_, e, rfl, _, rfl⟩
theorem extBut_ext {h' : Heap} {tk : Nat} (e : Heap.ExtBut s.heap.objs.size s.heap h') : Ext s { s with heap := h', toks := tk } :=
  ⟨⟨_, _, rfl⟩, fun b o q => e b o (Nat.ne_of_lt (Heap.lt_size q)) q⟩
end
end Mine
set_option maxRecDepth 100000
set_option Elab.async false
set_option linter.unusedVariables false
namespace Mine
open PySem PySem.W PySem.Calls PyProof.Rows
/-- an iterator's laws -/
structure ItL (w : World) (A : Around) (tgt : Expr) (it : Value) (wr : Addr → Prop) (St : (Addr → Prop) → List D → Heap → Prop) : Prop where
  grow : ∀ Y Y' ds h, St Y ds h → (∀ b, Y' b → Y b ∨ h.get? b = none) → (∀ b, wr b → Y' b) → St Y' ds h
  frame : ∀ Y ds h h', St Y ds h → (∀ b o, (¬ Y b ∨ wr b) → h.get? b = some o → h'.get? b = some o) → St Y ds h'
  live : ∀ Y ds h, St Y ds h → ∀ b, wr b → Live h b
  next : ∀ Y d ds (s : Shared), St Y (d :: ds) s.heap → (∀ b, Y b → Live s.heap b) → wpAny (model pw w) A (pyNext it) (fun r s₁ => ∃ v, r = some v ∧ wpAny (model pw w) A (letOwnedTupleGo tgt it v) (fun _ s₂ => ExtB wr s s₂ ∧ Rep w Y s₂.heap v d ∧ St Y ds s₂.heap) No s₁) No s
  done : ∀ Y (s : Shared), St Y [] s.heap → wpAny (model pw w) A (pyNext it) (fun r s₁ => r = none ∧ (∃ h' tk, s₁ = { s with heap := h', toks := tk }) ∧ KpB wr s.heap s₁.heap) No s
  self : ∀ Y ds (s : Shared), St Y ds s.heap → wpAny (model pw w) A (pyIter it) (fun it' s' => it' = it ∧ s' = s) No s
noncomputable def Iter (w : World) (A : Around) (tgt : Expr) (it : Value) (wr Y : Addr → Prop) (ds : List D) (h : Heap) : Prop := ∃ St, ItL w A tgt it wr St ∧ St Y ds h
noncomputable def IterMade (w : World) (A : Around) (tgt : Expr) (X : Addr → Prop) (ds : List D) (s : Shared) (it : Value) (s₂ : Shared) : Prop :=
  Ext s s₂ ∧ ∃ wr, (∀ b, wr b → s.heap.get? b = none) ∧ Iter w A tgt it wr (fun b => X b ∨ wr b) ds s₂.heap
noncomputable def Itr (w : World) (n : Nat) (sc : Scope) (ρ : Rho) (tgt e : Expr) (ds : List D) : Prop :=
  ∀ A env X s, env.scope = sc → AOk n A → Sees w env X s.heap ρ → wpAny (model pw w) A (eval e env) (fun x s₁ => wpAny (model pw w) A (pyIter x) (IterMade w A tgt X ds s) No s₁) No s
noncomputable def Its (w : World) (n : Nat) (tgt : Expr) (d : D) (ds : List D) : Prop :=
  ∀ A X s v, AOk n A → Base w s.heap → XOk w X s.heap → Rep w X s.heap v d → wpAny (model pw w) A (pyIter v) (IterMade w A tgt X ds s) No s
theorem none_back {h h' : Heap} (k : Kp h h') {b : Addr} (e : h'.get? b = none) : h.get? b = none := by
  cases q : h.get? b with
  | none => rfl
  | some o => rw [k b o q] at e; cases e
section
variable {w : World} {n : Nat} {sc st : Scope} {ρ : Rho}
theorem Itr.of {tgt e : Expr} {d : D} {ds : List D} (h : Ev w n sc ρ e d) (k : Its w n tgt d ds) : Itr w n sc ρ tgt e ds := fun A env X s he hA S =>
  wpAny_mono (h A env X s he hA S) (fun v s₁ h₁ => wpAny_mono (k A X s₁ v hA (S.ext h₁.1).base (S.ext h₁.1).xok h₁.2) (fun it s₂ h₂ => by
    obtain ⟨e2, wr, fr, i⟩ := h₂
    exact ⟨h₁.1.trans e2, wr, fun b q => none_back h₁.1.kp (fr b q), i⟩) fun _ _ x => x) fun _ _ x => x
theorem As.pair {x y : Str} {p q r : Pos} {k : Nat} {a b : D} (hx : Storable st x) (hy : Storable st y) : As w n sc st ρ (.Tuple [.Name x p, .Name y q] k r) (.tup [a, b]) ((y, b) :: (x, a) :: ρ) := fun A env O X s v he hA S F hr => by
  obtain ⟨t, vs, kk, rfl, hX, hg, rs⟩ := tuple_of_rep hr
  obtain ⟨v1, v2, rfl, r1, r2⟩ := rs.two
  refine wpAny_assign_Tuple hA.hd (isTuple_of hg) rfl rfl fun h' e => ?_
  have E1 : Ext s { s with heap := h' } := extBut_ext e
  show wpAny _ _ (assignInOrder [assign (.Name x p) env, assign (.Name y q) env] [v1, v2]) _ _ _
  unfold assignInOrder
  refine wpAny_bind ?_
  first
  | refine wpAny_holding (wpAny_assign_Name (store_sees hx (S.ext E1) F (r1.ext E1) fun s₂ e₂ S₂ => ?_))
  | refine (wpAny_assign_Name (store_sees hx (S.ext E1) F (r1.ext E1) fun s₂ e₂ S₂ => ?_))
  unfold assignInOrder
  refine wpAny_bind ?_
  have R2 : Rep w X s₂.heap v2 b := (r2.ext E1).kp fun b' o q => e₂.kp b' o fun z => q (F.ox _ z)
  first
  | refine wpAny_holding (wpAny_assign_Name (store_sees hy S₂ F R2 fun s₃ e₃ S₃ => ?_))
  | refine (wpAny_assign_Name (store_sees hy S₂ F R2 fun s₃ e₃ S₃ => ?_))
  unfold assignInOrder
  exact wpAny_pure ⟨(E1.b.trans e₂).trans e₃, S₃⟩
theorem off_wr {env : Env} {X wr : Addr → Prop} {h : Heap} (S : Sees w env X h ρ) (fr : ∀ b, wr b → h.get? b = none) : ¬ wr env.locals ∧ (∀ x c, env.cells.lookup x = some c → ¬ wr c) ∧ ∀ b, X b → ¬ wr b := by
  refine ⟨fun q => ?_, fun x c e q => ?_, fun b x q => ?_⟩
  · obtain ⟨m, hn⟩ := S.ns; obtain ⟨o, e⟩ := Ns_live hn; rw [fr _ q] at e; cases e
  · obtain ⟨⟨v, i⟩, _⟩ := S.cl x c e; obtain ⟨o, e⟩ := Cell_live i; rw [fr _ q] at e; cases e
  · obtain ⟨o, e⟩ := (S.xok b x).2; rw [fr _ q] at e; cases e
theorem Sees.turn {env : Env} {wr Y : Addr → Prop} {s s' : Shared} (S : Sees w env Y s.heap ρ) (hl : ¬ wr env.locals) (hc : ∀ x c, env.cells.lookup x = some c → ¬ wr c) (hY : ∀ b, wr b → Y b) (e : ExtB wr s s') : Sees w env Y s'.heap ρ :=
  S.step (fun b o q e' => e.kp b o (fun z => q (hY b z)) e') (fun o e' => e.kp _ o hl e') (fun x c o e'' e' => e.kp _ o (hc x c e'') e') fun b _ l => e.lv b l
theorem Sees.leave {env : Env} {wr X Y : Addr → Prop} {h h' : Heap} (S : Sees w env Y h ρ) (hl : ¬ wr env.locals) (hc : ∀ x c, env.cells.lookup x = some c → ¬ wr c) (hwY : ∀ b, wr b → Y b) (hX : ∀ b, X b → Y b ∧ ¬ wr b) (k : KpB wr h h') : Sees w env X h' ρ :=
  ⟨fun a o e => k a o (fun q => by have := (S.xok a (hwY a q)).1; rw [this] at e; cases e) (S.base a o e), fun b q => ⟨(S.xok b (hX b q).1).1, let ⟨o, e⟩ := (S.xok b (hX b q).1).2; ⟨o, k b o (hX b q).2 e⟩⟩, S.kind, S.glob, S.blt,
    let ⟨m, hn⟩ := S.ns; ⟨m, hn.at' fun o e => k _ o hl e⟩, fun x c e => let ⟨⟨v, i⟩, r⟩ := S.cl x c e; ⟨⟨v, IsCell_at i fun o q => k _ o (hc x c e) q⟩, r⟩, S.ap, S.has,
    fun x d e => let ⟨v, r, b⟩ := S.val x d e; ⟨v, (r.kp fun b o q e => k b o (fun z => q (hwY b z)) e).off fun b _ _ q => (hX b q).1, b.at' (fun o e => k _ o hl e) fun y c o e' q => k _ o (hc y c e') q⟩⟩
theorem Ex.for {tgt iter : Expr} {body : List Stmt} {p : Pos} {ds : List D} (inv : Nat → Rho) (hi : Itr w n sc ρ tgt iter ds) (h0 : ∀ x d, (inv 0).lookup x = some d → ρ.lookup x = some d)
    (turn : ∀ i d, ds[i]? = some d → ∃ ρ₁, As w n sc st (inv i) tgt d ρ₁ ∧ Exs w n sc st ρ₁ body (.nx (inv (i + 1)))) (hs : ∀ env x, foldedSetIterable iter env x = pure x := by intros; rfl) :
    Ex w n sc st ρ (.For tgt iter body [] p) (.nx (inv ds.length)) := fun A env O X s he hA S F => by
  refine wpAny_For (wpAny_mono (hi A env X s he hA S) (fun x s₁ h₁ => wpAny_mono h₁ (fun it s₂ h₂ => ?_) fun _ _ x => x) fun _ _ x => x) (hs env)
  obtain ⟨e2, wr, fr, St, L, st2⟩ := h₂
  obtain ⟨hl, hc, hx⟩ := off_wr S fr
  have F' : Fra env st O (fun b => X b ∨ wr b) := F.mono fun b q => .inl q
  refine codeAny_forLoop_any (fun k s' => ∃ i, k = ds.length + 1 - i ∧ i ≤ ds.length ∧ ExtB O s s' ∧ Sees w env (fun b => X b ∨ wr b) s'.heap (inv i) ∧ St (fun b => X b ∨ wr b) (ds.drop i) s'.heap) ?_ (ds.length + 1)
    ⟨0, rfl, Nat.zero_le _, e2.b, (S.sub h0).more e2.kp fun b q => q.elim .inl fun q => .inr ⟨fr b q, L.live _ _ _ st2 b q⟩, by simpa using st2⟩
  rintro k s' ⟨i, rfl, hi, e', S', st'⟩
  by_cases hlt : i < ds.length
  · have hd : ds.drop i = ds[i] :: ds.drop (i + 1) := List.drop_eq_getElem_cons hlt
    rw [hd] at st'
    refine wpAny_mono (L.next _ _ _ s' st' fun b q => (S'.xok b q).2) (fun r s₃ h₃ => ?_) fun _ _ x => x.elim
    obtain ⟨v, rfl, h₃⟩ := h₃
    refine wpAny_mono h₃ (fun _ s₄ h₄ => ?_) fun _ _ x => x.elim
    obtain ⟨e4, r4, st4⟩ := h₄
    have S4 := S'.turn hl hc (fun b q => .inr q) e4
    obtain ⟨ρ₁, ha, hb⟩ := turn i ds[i] (by simp [hlt])
    refine wpAny_mono (ha A env O _ s₄ v he hA S4 F' r4) (fun _ s₅ h₅ => ?_) fun _ _ x => x.elim
    obtain ⟨e5, S5⟩ := h₅
    refine wpAny_mono (hb A env O _ s₅ he hA S5 F') (fun f s₆ h₆ => ?_) fun _ _ x => x.elim
    obtain ⟨e6, rfl, S6⟩ := h₆
    have e46 := e5.trans e6
    refine ⟨ds.length + 1 - (i + 1), by omega, i + 1, rfl, hlt, (e'.since e4 fun d q => .inr (fr d q)).trans e46, S6, L.frame _ _ _ _ st4 fun b o q e => e46.kp b o (fun z => ?_) e⟩
    exact q.elim (fun q => q (.inl (F.ox _ z))) fun q => hx b (F.ox _ z) q
  · have hi' : i = ds.length := by omega
    subst hi'
    rw [List.drop_length] at st'
    refine wpAny_mono (L.done _ s' st') (fun r s₃ h₃ => ?_) fun _ _ x => x.elim
    obtain ⟨rfl, ⟨h', tk, rfl⟩, k3⟩ := h₃
    refine wpAny_execs_nil ?_
    refine ⟨?_, rfl, S'.leave hl hc (fun b q => .inr q) (fun b q => ⟨.inl q, hx b q⟩) k3⟩
    obtain ⟨⟨h1, t1, rfl⟩, k1, z1⟩ := e'
    exact ⟨⟨_, _, rfl⟩, fun b o q e => k3 b o (fun z => by rw [fr b z] at e; cases e) (k1 b o q e), fun b l => let ⟨o, e⟩ := z1 b l; ⟨o, k3 b o (fun z => by obtain ⟨o', e'⟩ := l; rw [fr b z] at e'; cases e') e⟩⟩
theorem Ex.while {test : Expr} {body : List Stmt} {p : Pos} (inv : Nat → Rho) (m : Nat) (h0 : ∀ x d, (inv 0).lookup x = some d → ρ.lookup x = some d)
    (turn : ∀ i, i < m → Ts w n sc (inv i) test true ∧ Exs w n sc st (inv i) body (.nx (inv (i + 1)))) (last : Ts w n sc (inv m) test false) :
    Ex w n sc st ρ (.While test body [] p) (.nx (inv m)) := fun A env O X s he hA S F => by
  refine wpAny_While ?_
  refine codeAny_whileLoop (fun k s' => ∃ i, k = m + 1 - i ∧ i ≤ m ∧ ExtB O s s' ∧ Sees w env X s'.heap (inv i)) ?_ (m + 1) ⟨0, rfl, Nat.zero_le _, .refl, S.sub h0⟩
  rintro k s' ⟨i, rfl, hi, e', S'⟩
  by_cases hlt : i < m
  · obtain ⟨ht, hb⟩ := turn i hlt
    refine wpAny_mono (ht A env X s' he hA S') (fun c s₃ h₃ => ?_) fun _ _ x => x.elim
    obtain ⟨e3, rfl⟩ := h₃
    rw [if_pos rfl]
    refine wpAny_mono (hb A env O X s₃ he hA (S'.ext e3) F) (fun f s₄ h₄ => ?_) fun _ _ x => x.elim
    obtain ⟨e4, rfl, S4⟩ := h₄
    exact ⟨m + 1 - (i + 1), by omega, i + 1, rfl, hlt, (e'.trans e3.b).trans e4, S4⟩
  · have hi' : i = m := by omega
    subst hi'
    refine wpAny_mono (last A env X s' he hA S') (fun c s₃ h₃ => ?_) fun _ _ x => x.elim
    obtain ⟨e3, rfl⟩ := h₃
    rw [if_neg (by decide)]
    exact wpAny_execs_nil ⟨e'.trans e3.b, rfl, S'.ext e3⟩
end
end Mine
set_option maxRecDepth 100000
set_option Elab.async false
set_option linter.unusedVariables false
namespace Mine
open PySem PySem.W PySem.Calls PyProof.Rows
noncomputable def testsOf (ifs : List Expr) (env : Env) : Sem Bool := forIn ifs true fun c r => if r = true then do let ok ← isTrue c env (eval c env); pure (ForInStep.yield ok) else pure (ForInStep.yield r)
noncomputable def Tq (w : World) (n : Nat) (sc : Scope) (ρ : Rho) (ifs : List Expr) (b : Bool) : Prop :=
  ∀ A env X s, env.scope = sc → AOk n A → Sees w env X s.heap ρ → wpAny (model pw w) A (testsOf ifs env) (fun c s' => Ext s s' ∧ c = b) No s
inductive CT (step : D → List D → Prop) : List D → List D → Prop
  | nil : CT step [] []
  | cons {d os ds outs} : step d os → CT step ds outs → CT step (d :: ds) (os ++ outs)
theorem CT.of {step : D → List D → Prop} (f : D → List D) : ∀ {ds : List D}, (∀ d ∈ ds, step d (f d)) → CT step ds (ds.flatMap f)
  | [], _ => .nil
  | d :: ds, h => by rw [List.flatMap_cons]; exact .cons (h d List.mem_cons_self) (CT.of f fun e q => h e (List.mem_cons_of_mem _ q))
/-- what an element's making does to the list at D -/
noncomputable def Em (w : World) (n : Nat) (sc st : Scope) (ρ : Rho) (emit : Env → Value → Sem Unit) (outs : List D) : Prop :=
  ∀ A env O X s la vs0, env.scope = sc → AOk n A → Sees w env X s.heap ρ → Fra env st O X → O la → la ≠ env.locals → (∀ x c, env.cells.lookup x = some c → c ≠ la) → s.heap.PlainList la vs0 → vs0.size + outs.length ≤ sizeLine →
    wpAny (model pw w) A (emit env (.ref la)) (fun _ s' => ExtB O s s' ∧ Sees w env X s'.heap ρ ∧ ∃ vs, s'.heap.PlainList la (vs0 ++ vs.toArray) ∧ Reps w X s'.heap vs outs) No s
noncomputable def CDone (w : World) (env : Env) (O X wr : Addr → Prop) (ρ : Rho) (la : Addr) (vs0 : Array Value) (outs : List D) (s s' : Shared) : Prop :=
  (∃ h' tk, s' = { s with heap := h', toks := tk }) ∧ KpB (fun b => O b ∨ wr b) s.heap s'.heap ∧ (∀ b, ¬ wr b → Live s.heap b → Live s'.heap b) ∧ Sees w env (fun b => X b ∧ ¬ wr b) s'.heap ρ ∧ ∃ vs, s'.heap.PlainList la (vs0 ++ vs.toArray) ∧ Reps w X s'.heap vs outs
noncomputable def Cq (w : World) (n : Nat) (sc st : Scope) (e : Expr) (k : Nat) (tgt : Expr) (ρ : Rho) (ds outs : List D) : Prop :=
  ∀ A env O X s la vs0 it wr, env.scope = sc → AOk n A → Sees w env X s.heap ρ → Fra env st O X → O la → la ≠ env.locals → (∀ x c, env.cells.lookup x = some c → c ≠ la) → s.heap.PlainList la vs0 → vs0.size + outs.length ≤ sizeLine →
    (∀ b, wr b → X b ∧ ¬ O b) → (∀ x c, env.cells.lookup x = some c → ¬ wr c) → Iter w A tgt it wr X ds s.heap →
    codeAny (model pw w) A (.compLoop e k it (.ref la) env) (fun r s' => r = .ok .next ∧ CDone w env O X wr ρ la vs0 outs s s') s
theorem pl_live {h : Heap} {la : Addr} {vs : Array Value} (x : h.PlainList la vs) : Live h la := let ⟨n, e⟩ := x; ⟨_, e⟩
theorem app_assoc {a : Array Value} {b c : List Value} : a ++ b.toArray ++ c.toArray = a ++ (b ++ c).toArray := by apply Array.toList_inj.mp; simp
section
variable {w : World} {n : Nat} {sc st : Scope} {ρ : Rho}
theorem Tq.nil : Tq w n sc ρ [] true := fun A env X s _ _ S => wpAny_pure ⟨.refl, rfl⟩
theorem Tq.one {c : Expr} {b : Bool} (h : Ts w n sc ρ c b) : Tq w n sc ρ [c] b := fun A env X s he hA S => wpAny_tests_one (h A env X s he hA S)
theorem Em.last {elt : Expr} {d : D} (h : Ev w n sc ρ elt d) : Em w n sc st ρ (fun env acc => do let _ ← call (.builtin "list.append") [acc, ← eval elt env]) [d] := fun A env O X s la vs0 he hA S F hD hl hc hp hz => by
  refine wpAny_bind (wpAny_mono (h A env X s he hA S) (fun v s₁ h₁ => ?_) fun _ _ x => x)
  obtain ⟨e1, r1⟩ := h₁
  have hp1 : s₁.heap.PlainList la vs0 := hp.at fun o e => e1.kp _ o e
  refine wpAny_bind (wpAny_list_append_plain hp1 (fun h' hp' hs => wpAny_pure ?_) (by simp at hz; omega))
  have kX : KpB X s₁.heap h' := fun b o q e => hs.extBut b o (fun z => q (z ▸ F.ox _ hD)) e
  refine ⟨e1.b.trans ⟨⟨_, _, rfl⟩, fun b o q e => hs.extBut b o (fun z => q (z ▸ hD)) e, lv hs (pl_live hp')⟩,
    (S.ext e1).step kX (fun o e => hs.extBut _ o (Ne.symm hl) e) (fun x c o e e' => hs.extBut _ o (hc x c e) e') fun b _ l => lv hs (pl_live hp') b l, [v], ?_, .cons (r1.kp kX) .nil⟩
  rw [show vs0 ++ [v].toArray = vs0.push v from by simp]
  exact hp'
theorem Cq.mk {e tgt : Expr} {k : Nat} {p : Pos} {ifs : List Expr} {emit : Env → Value → Sem Unit} {emitC : Env → Value → Sem PySem.Fin → Sem PySem.Fin} {ds outs : List D}
    (hem : ∀ (A : Around) env acc jp (Q : PySem.Fin → Shared → Prop) (E : Value → Shared → Prop) (s : Shared), wpAny (model pw w) A (emit env acc) (fun _ s' => wpAny (model pw w) A jp Q E s') E s → wpAny (model pw w) A (emitC env acc jp) Q E s)
    (hq : ∀ it acc env, (Code.compLoop e k it acc env).quiet = true)
    (heq : ∀ it acc env, compTurn e k it acc env = (do
      standAt p
      match ← pyNext it with
      | none => pure (.done .next)
      | some v =>
        letOwnedTupleGo tgt it v
        assign tgt env v
        let ok ← testsOf ifs env
        if ok then emitC env acc (again (.compLoop e k it acc env)) else again (.compLoop e k it acc env)))
    (hun : ∀ (A : Around) it acc env, A.under (.compLoop e k it acc env) = A)
    (hden : ∀ (A : Around) it acc env, (model pw w).den (.compLoop e k it acc env) = (compTurn e k it acc env).onRaise (fun x => do noteFrame x env; theTreesLotGoes x))
    (h : CT (fun d os => ∃ ρ₁ b, As w n sc st ρ tgt d ρ₁ ∧ (∀ x d, ρ.lookup x = some d → ρ₁.lookup x = some d) ∧ Tq w n sc ρ₁ ifs b ∧ ((b = true ∧ Em w n sc st ρ₁ emit os) ∨ (b = false ∧ os = []))) ds outs) :
    Cq w n sc st e k tgt ρ ds outs := fun A env O X s la vs0 it wr he hA S F hD hl hc hp hz hwr hcw hit => by
  obtain ⟨St, L, st0⟩ := hit
  have hlw : ¬ wr env.locals := fun q => (hwr _ q).2 F.ol
  have hwX : ∀ b, wr b → X b := fun b q => (hwr b q).1
  refine codeAny_loop (hq it _ env) (fun k s' => ∃ rest outs1 outs2 vs1, k = rest.length + 1 ∧ outs = outs1 ++ outs2 ∧ CT (fun d os => ∃ ρ₁ b, As w n sc st ρ tgt d ρ₁ ∧ (∀ x d, ρ.lookup x = some d → ρ₁.lookup x = some d) ∧ Tq w n sc ρ₁ ifs b ∧ ((b = true ∧ Em w n sc st ρ₁ emit os) ∨ (b = false ∧ os = []))) rest outs2 ∧
    ExtB (fun b => O b ∨ wr b) s s' ∧ Sees w env X s'.heap ρ ∧ s'.heap.PlainList la (vs0 ++ vs1.toArray) ∧ Reps w X s'.heap vs1 outs1 ∧ St X rest s'.heap) ?_ (ds.length + 1)
    ⟨ds, [], outs, [], rfl, rfl, h, .refl, S, by simpa using hp, .nil, st0⟩
  rintro k' s' ⟨rest, outs1, outs2, vs1, rfl, rfl, hct, e', S', hp', rs, st'⟩
  rw [hden A, hun]
  refine wpAny_noted ?_
  rw [heq]
  refine wpAny_bind (wpAny_standAt (wpAny_bind ?_))
  cases hct with
  | nil =>
    refine wpAny_mono (L.done _ s' st') (fun r s₁ h₁ => ?_) fun _ _ (x : False) => x.elim
    obtain ⟨rfl, ⟨h', tk, rfl⟩, k1⟩ := h₁
    refine wpAny_pure ⟨rfl, ?_, ?_, ?_, ?_, vs1, ?_, ?_⟩
    · obtain ⟨h2, t2, rfl⟩ := e'.eq; exact ⟨_, _, rfl⟩
    · exact fun b o q e => k1 b o (fun z => q (.inr z)) (e'.kp b o q e)
    · exact fun b q l => let ⟨o, e⟩ := e'.lv b l; ⟨o, k1 b o q e⟩
    · exact S'.leave hlw hcw hwX (fun b q => q) k1
    · exact hp'.at fun o e => k1 _ o (fun q => (hwr _ q).2 hD) e
    · rw [List.append_nil]; exact rs.kp fun b o q e => k1 b o (fun z => q (hwX b z)) e
  | @cons d os rest' outs3 hs hct' =>
    obtain ⟨ρ₁, b, ha, hback, ht, hem'⟩ := hs
    refine wpAny_mono (L.next _ _ _ s' st' fun b q => (S'.xok b q).2) (fun r s₁ h₁ => ?_) fun _ _ (x : False) => x.elim
    obtain ⟨v, rfl, h₁⟩ := h₁
    refine wpAny_bind (wpAny_mono h₁ (fun _ s₂ h₂ => ?_) fun _ _ (x : False) => x.elim)
    obtain ⟨e2, r2, st2⟩ := h₂
    have S2 := S'.turn hlw hcw hwX e2
    have kX2 : KpB X s'.heap s₂.heap := fun b o q e => e2.kp b o (fun z => q (hwX b z)) e
    refine wpAny_bind (wpAny_mono (ha A env (fun b => O b ∧ b ≠ la) X s₂ v he hA S2 ⟨⟨F.ol, Ne.symm hl⟩, fun b q => F.ox b q.1, F.loc, fun x e => let ⟨a, c, e', o⟩ := F.cel x e; ⟨a, c, e', o, hc x c e'⟩⟩ r2) (fun _ s₃ h₃ => ?_) fun _ _ (x : False) => x.elim)
    obtain ⟨e3, S3⟩ := h₃
    refine wpAny_bind (wpAny_mono (ht A env X s₃ he hA S3) (fun ok s₄ h₄ => ?_) fun _ _ (x : False) => x.elim)
    obtain ⟨e4, rfl⟩ := h₄
    have S4 := S3.ext e4
    have hp2 : s₂.heap.PlainList la (vs0 ++ vs1.toArray) := hp'.at fun o e => e2.kp _ o (fun q => (hwr _ q).2 hD) e
    have hp4 : s₄.heap.PlainList la (vs0 ++ vs1.toArray) := (hp2.at fun o e => e3.kp _ o (fun q => q.2 rfl) e).at fun o e => e4.kp _ o e
    have e24 := (e3.mono (M := O) fun b q => q.1).trans e4.b
    have kO : ∀ {a b : Shared}, ExtB O a b → KpB X a.heap b.heap := fun x b o q e => x.kp b o (fun z => q (F.ox _ z)) e
    have fin : ∀ s₅ vs, ExtB O s₄ s₅ → Sees w env X s₅.heap ρ₁ → s₅.heap.PlainList la ((vs0 ++ vs1.toArray) ++ vs.toArray) → Reps w X s₅.heap vs os → wpAny (model pw w) A (again (.compLoop e k it (.ref la) env)) (fun fin s' => match fin with
        | .done f => (fun (r : Result) s' => r = .ok .next ∧ CDone w env O X wr ρ la vs0 (outs1 ++ (os ++ outs3)) s s') (.ok f) s'
        | .again c' => c' = (.compLoop e k it (.ref la) env) ∧ ∃ m, m < (d :: rest').length + 1 ∧ ∃ rest outs1' outs2 vs1, m = rest.length + 1 ∧ outs1 ++ (os ++ outs3) = outs1' ++ outs2 ∧ CT (fun d os => ∃ ρ₁ b, As w n sc st ρ tgt d ρ₁ ∧ (∀ x d, ρ.lookup x = some d → ρ₁.lookup x = some d) ∧ Tq w n sc ρ₁ ifs b ∧ ((b = true ∧ Em w n sc st ρ₁ emit os) ∨ (b = false ∧ os = []))) rest outs2 ∧
          ExtB (fun b => O b ∨ wr b) s s' ∧ Sees w env X s'.heap ρ ∧ s'.heap.PlainList la (vs0 ++ vs1.toArray) ∧ Reps w X s'.heap vs1 outs1' ∧ St X rest s'.heap)
        (notedBy (model pw w) A env (fun e s' => (fun (r : Result) s' => r = .ok .next ∧ CDone w env O X wr ρ la vs0 (outs1 ++ (os ++ outs3)) s s') (.error e) s')) s₅ := fun s₅ vs e5 S5 hp5 r5 => by
      have e25 := e24.trans e5
      refine wpAny_pure ⟨rfl, rest'.length + 1, by simp, rest', outs1 ++ os, outs3, vs1 ++ vs, rfl, by simp, hct', (e'.trans (e2.mono fun b q => .inr q)).trans (e25.mono fun b q => .inl q), S5.sub hback, by rw [← app_assoc]; exact hp5, (((rs.kp kX2).kp (kO e24)).kp (kO e5)).append r5, L.frame _ _ _ _ st2 fun b o q e => e25.kp b o (fun z => ?_) e⟩
      exact q.elim (fun q => q (F.ox _ z)) fun q => (hwr b q).2 z
    rcases hem' with ⟨rfl, hem'⟩ | ⟨rfl, rfl⟩
    · rw [if_pos rfl]
      refine hem _ _ _ _ _ _ _ (wpAny_mono (hem' A env O X s₄ la _ he hA S4 F hD hl hc hp4 ?_) (fun _ s₅ h₅ => ?_) fun _ _ (x : False) => x.elim)
      · have := rs.length; simp at hz ⊢; omega
      · obtain ⟨e5, S5, vs, hp5, r5⟩ := h₅
        exact fin s₅ vs e5 S5 hp5 r5
    · rw [if_neg (by decide)]
      exact fin s₄ [] .refl S4 (by simpa using hp4) .nil
end
end Mine
set_option maxRecDepth 100000
set_option Elab.async false
set_option linter.unusedVariables false
namespace Mine
open PySem PySem.W PySem.Calls PyProof.Rows
section
variable {w : World} {n : Nat} {sc st : Scope} {ρ : Rho}
noncomputable abbrev emit1 (elt : Expr) : Env → Value → Sem Unit := fun env acc => do let _ ← call (.builtin "list.append") [acc, ← eval elt env]
noncomputable abbrev emit2 (e : Expr) (iter : Expr) : Env → Value → Sem Unit := fun env acc => do
  let x ← eval iter env
  standAt iter.pos
  let x ← foldedSetIterable iter env x
  let _ ← runOwn (.compStart e 1 (← holding [x] (pyIter x)) acc env) env
theorem Cq.one {elt tgt iter : Expr} {ifs : List Expr} {scope : Scope} {pos : Pos} {ds outs : List D}
    (h : CT (fun d os => ∃ ρ₁ b, As w n sc st ρ tgt d ρ₁ ∧ (∀ x d, ρ.lookup x = some d → ρ₁.lookup x = some d) ∧ Tq w n sc ρ₁ ifs b ∧ ((b = true ∧ Em w n sc st ρ₁ (emit1 elt) os) ∨ (b = false ∧ os = []))) ds outs) :
    Cq w n sc st (.ListComp elt [⟨tgt, iter, ifs, 0⟩] scope pos) 0 tgt ρ ds outs :=
  Cq.mk (p := iter.pos) (emitC := fun env acc jp => emit1 elt env acc >>= fun _ => jp) (fun _ _ _ _ _ _ _ h => wpAny_bind h) (fun _ _ _ => rfl) (fun it acc env => by rfl) (fun _ _ _ _ => rfl) (fun _ _ _ _ => rfl) h
theorem Cq.two0 {elt tgt iter tgt' iter' : Expr} {ifs ifs' : List Expr} {scope : Scope} {pos : Pos} {ds outs : List D}
    (h : CT (fun d os => ∃ ρ₁ b, As w n sc st ρ tgt d ρ₁ ∧ (∀ x d, ρ.lookup x = some d → ρ₁.lookup x = some d) ∧ Tq w n sc ρ₁ ifs b ∧ ((b = true ∧ Em w n sc st ρ₁ (emit2 (.ListComp elt [⟨tgt, iter, ifs, 0⟩, ⟨tgt', iter', ifs', 0⟩] scope pos) iter') os) ∨ (b = false ∧ os = []))) ds outs) :
    Cq w n sc st (.ListComp elt [⟨tgt, iter, ifs, 0⟩, ⟨tgt', iter', ifs', 0⟩] scope pos) 0 tgt ρ ds outs :=
  Cq.mk (p := iter.pos) (emitC := fun env acc jp => do
      let x ← eval iter' env
      standAt iter'.pos
      let x ← foldedSetIterable iter' env x
      let _ ← runOwn (.compStart (.ListComp elt [⟨tgt, iter, ifs, 0⟩, ⟨tgt', iter', ifs', 0⟩] scope pos) 1 (← holding [x] (pyIter x)) acc env) env
      jp) (fun A env acc jp Q E s h Γ p hΓ => by
        have h := h Γ p hΓ
        simp only [emit2, Sem.wp_bind', Sem.wp_pure'] at h ⊢
        exact Sem.wp_mono _ Γ _ (fun _ _ _ h => Sem.wp_mono _ Γ _ (fun _ _ _ h => Sem.wp_mono _ Γ _ (fun _ _ _ h => Sem.wp_mono _ Γ _ (fun _ _ _ h => Sem.wp_mono _ Γ _ (fun _ p _ h => h Γ p hΓ) (fun _ _ _ h => h) _ _ h) (fun _ _ _ h => h) _ _ h) (fun _ _ _ h => h) _ _ h) (fun _ _ _ h => h) _ _ h) (fun _ _ _ h => h) _ _ h) (fun _ _ _ => rfl) (fun it acc env => by rfl) (fun _ _ _ _ => rfl) (fun _ _ _ _ => rfl) h
theorem Cq.two1 {elt tgt iter tgt' iter' : Expr} {ifs ifs' : List Expr} {scope : Scope} {pos : Pos} {ds outs : List D}
    (h : CT (fun d os => ∃ ρ₁ b, As w n sc st ρ tgt' d ρ₁ ∧ (∀ x d, ρ.lookup x = some d → ρ₁.lookup x = some d) ∧ Tq w n sc ρ₁ ifs' b ∧ ((b = true ∧ Em w n sc st ρ₁ (emit1 elt) os) ∨ (b = false ∧ os = []))) ds outs) :
    Cq w n sc st (.ListComp elt [⟨tgt, iter, ifs, 0⟩, ⟨tgt', iter', ifs', 0⟩] scope pos) 1 tgt' ρ ds outs :=
  Cq.mk (p := iter'.pos) (emitC := fun env acc jp => emit1 elt env acc >>= fun _ => jp) (fun _ _ _ _ _ _ _ h => wpAny_bind h) (fun _ _ _ => rfl) (fun it acc env => by rfl) (fun _ _ _ _ => rfl) (fun _ _ _ _ => rfl) h
theorem codeAny_compStart_two {A : Around} {R : Result → Shared → Prop} {s : Shared} {elt target iter ifs t' i' ifs' scope pos it acc env}
    (h0 : codeAny (model pw w) A (.compLoop (.ListComp elt [⟨target, iter, ifs, 0⟩, ⟨t', i', ifs', 0⟩] scope pos) 1 it acc env) R s)
    (h : wpAny (model pw w) A (pyIter it) (fun it' s' => codeAny (model pw w) A (.compLoop (.ListComp elt [⟨target, iter, ifs, 0⟩, ⟨t', i', ifs', 0⟩] scope pos) 1 it' acc env) R s')
      (notedBy (model pw w) A env fun x s' => R (.error x) s') s) :
    codeAny (model pw w) A (.compStart (.ListComp elt [⟨target, iter, ifs, 0⟩, ⟨t', i', ifs', 0⟩] scope pos) 1 it acc env) R s := by
  refine codeAny_of_tree ?_
  show wpAny _ _ ((compStart (.ListComp elt [⟨target, iter, ifs, 0⟩, ⟨t', i', ifs', 0⟩] scope pos) 1 it acc env).onRaise (fun x => do noteFrame x env; standAt theWindowsPlace)) _ _ s
  refine wpAny_notedAt ?_
  unfold compStart
  show wpAny _ _ (ask >>= _) _ _ s
  refine wpAny_bind (wpAny_askSetting (wpAny_ite ?_))
  split
  · first
      | exact wpAny_bind (wpAny_pure (wpAny_pure (And.intro rfl h0)))
      | exact wpAny_pure (And.intro rfl h0)
  · first
      | (refine wpAny_bind (wpAny_rule ?_); exact wpAny_bind (wpAny_mono h (fun it' s' h' => wpAny_pure (And.intro rfl h')) fun _ _ x => x))
      | (refine wpAny_bind (wpAny_rule ?_); show wpAny _ _ (standAt i'.pos >>= _) _ _ s; exact wpAny_bind (wpAny_standAt (wpAny_bind (wpAny_mono h (fun it' s' h' => wpAny_pure (And.intro rfl h')) fun _ _ x => x))))
theorem Em.next {elt tgt iter tgt' iter' : Expr} {ifs ifs' : List Expr} {scope : Scope} {pos : Pos} {ds outs : List D} (hi : Itr w n sc ρ tgt' iter' ds)
    (hc : Cq w n sc st (.ListComp elt [⟨tgt, iter, ifs, 0⟩, ⟨tgt', iter', ifs', 0⟩] scope pos) 1 tgt' ρ ds outs)
    (hs : ∀ env x, foldedSetIterable iter' env x = pure x := by intros; rfl) :
    Em w n sc st ρ (emit2 (.ListComp elt [⟨tgt, iter, ifs, 0⟩, ⟨tgt', iter', ifs', 0⟩] scope pos) iter') outs := fun A env O X s la vs0 he hA S F hD hl hcl hp hz => by
  refine wpAny_bind (wpAny_mono (hi A env X s he hA S) (fun x s₁ h₁ => ?_) fun _ _ (x : False) => x.elim)
  refine wpAny_bind (wpAny_standAt (wpAny_bind (wpAny_of_eq (hs env x) (wpAny_bind (wpAny_holding (wpAny_mono h₁ (fun it s₂ h₂ => ?_) fun _ _ (x : False) => x.elim))))))
  obtain ⟨e2, wr, fr, St, L, st2⟩ := h₂
  obtain ⟨hlw, hcw, hxw⟩ := off_wr S fr
  have S2 : Sees w env (fun b => X b ∨ wr b) s₂.heap ρ := S.more e2.kp fun b q => q.elim .inl fun q => .inr ⟨fr b q, L.live _ _ _ st2 b q⟩
  have loop := hc A env O (fun b => X b ∨ wr b) s₂ la vs0 it wr he hA S2 (F.mono fun b q => .inl q) hD hl hcl (hp.at fun o e => e2.kp _ o e) hz (fun b q => ⟨.inr q, fun o => hxw b (F.ox _ o) q⟩) hcw ⟨St, L, st2⟩
  refine wpAny_bind (wpAny_runOwn (codeAny_mono (R := fun r s' => r = .ok .next ∧ CDone w env O (fun b => X b ∨ wr b) wr ρ la vs0 outs s₂ s') (codeAny_compStart_two loop (wpAny_mono (L.self _ _ _ st2) (fun it' s' h' => ?_) fun _ _ (x : False) => x.elim)) fun r s' h' => ?_))
  · obtain ⟨rfl, rfl⟩ := h'; exact loop
  · obtain ⟨rfl, ⟨h', tk, rfl⟩, k, l, S', vs, hp', rs⟩ := h'
    refine wpAny_pure ⟨?_, S'.off fun b q => ⟨.inl q, hxw b q⟩, vs, hp', rs.off fun b _ _ q => .inl q⟩
    obtain ⟨h2, t2, rfl⟩ := e2.eq
    refine ⟨⟨_, _, rfl⟩, fun b o q e => k b o (fun z => z.elim q fun z => by rw [fr b z] at e; cases e) (e2.kp b o e), fun b lv' => l b (fun z => by obtain ⟨o, e⟩ := lv'; rw [fr b z] at e; cases e) (lv'.kp e2.kp)⟩
end
end Mine
set_option maxRecDepth 100000
set_option Elab.async false
set_option linter.unusedVariables false
namespace Mine
open PySem PySem.W PySem.Calls PyProof.Rows
/-- the captured cells -/
noncomputable def clos (env : Env) : List (Str × NameKind) → List (Str × Addr) → List (Str × Addr)
  | [], acc => acc
  | (x, k) :: r, acc => if k == .free then clos env r ((x, (env.cells.lookup x).getD 0) :: acc) else clos env r acc
theorem closureFor_eq {scope : Scope} {env : Env} (h : ∀ y ∈ scope.names, y.2 = .free → ∃ c, env.cells.lookup y.1 = some c) : closureFor scope env = pure (clos env scope.names []) := by
  simp only [closureFor]
  have : ∀ (l : List (Str × NameKind)) (acc : List (Str × Addr)), (∀ y ∈ l, y.2 = .free → ∃ c, env.cells.lookup y.1 = some c) →
      (forIn l acc fun x r => (match x with | (name, kind) => if kind == .free then (do let a ← cellOf env name; pure (ForInStep.yield ((name, a) :: r))) else pure (ForInStep.yield r) : Sem (ForInStep (List (Str × Addr))))) = pure (clos env l acc) := by
    intro l
    induction l with
    | nil => intro acc _; rfl
    | cons x r ih =>
      intro acc hl
      obtain ⟨x, k⟩ := x
      have hr := fun y hy => hl y (List.mem_cons_of_mem _ hy)
      rw [List.forIn_cons]
      unfold clos
      cases hk : k == NameKind.free with
      | true =>
        obtain ⟨c, hc⟩ := hl (x, k) List.mem_cons_self (by simpa using hk)
        simp only [hk, if_true, cellOf, hc, pure_bind, Option.getD_some]
        exact ih _ hr
      | false =>
        simp only [hk, Bool.false_eq_true, if_false, pure_bind]
        exact ih _ hr
  have e := this scope.names [] h
  first
  | exact e
  | (refine Eq.trans ?_ e; simp; done)
  | (refine Eq.trans ?_ e; trace_state; rfl)
theorem clos_mem {env : Env} {x : Str} {c : Addr} : ∀ {l : List (Str × NameKind)} {acc : List (Str × Addr)}, (x, c) ∈ clos env l acc → (x, c) ∈ acc ∨ ((x, NameKind.free) ∈ l ∧ c = (env.cells.lookup x).getD 0)
  | [], _, h => .inl h
  | (y, k) :: r, acc, h => by
    unfold clos at h
    split at h
    · rename_i hk
      have hk : k = .free := by simpa using hk
      subst hk
      rcases clos_mem h with h | ⟨h, e⟩
      · rcases List.mem_cons.mp h with h | h
        · cases h; exact .inr ⟨List.mem_cons_self, rfl⟩
        · exact .inl h
      · exact .inr ⟨List.mem_cons_of_mem _ h, e⟩
    · rcases clos_mem h with h | ⟨h, e⟩
      · exact .inl h
      · exact .inr ⟨List.mem_cons_of_mem _ h, e⟩
theorem clos_has {env : Env} {x : Str} : ∀ {l : List (Str × NameKind)} {acc : List (Str × Addr)}, ((x, NameKind.free) ∈ l ∨ ∃ c, (x, c) ∈ acc) → ∃ c, (x, c) ∈ clos env l acc
  | [], _, h => h.elim (fun h => nomatch h) id
  | (y, k) :: r, acc, h => by
    unfold clos
    rcases h with h | ⟨c, h⟩
    · rcases List.mem_cons.mp h with h | h
      · cases h; exact clos_has (.inr ⟨_, List.mem_cons_self⟩)
      · split <;> exact clos_has (.inl h)
    · split
      · exact clos_has (.inr ⟨c, List.mem_cons_of_mem _ h⟩)
      · exact clos_has (.inr ⟨c, h⟩)
theorem cellsFrom_app : ∀ (l : List (Str × NameKind)) (n : Nat) (acc : List (Str × Addr)), cellsFrom n l acc = cellsFrom n l [] ++ acc
  | [], _, _ => rfl
  | (y, k) :: r, n, acc => by
    unfold cellsFrom
    split
    · rw [cellsFrom_app r (n + 1) ((y, n) :: acc), cellsFrom_app r (n + 1) [(y, n)]]; simp
    · exact cellsFrom_app r n acc
theorem cellsFrom_mem {x : Str} {c : Addr} : ∀ {l : List (Str × NameKind)} {n : Nat}, (x, c) ∈ cellsFrom n l [] → (x, NameKind.cell) ∈ l
  | [], _, h => nomatch h
  | (y, k) :: r, n, h => by
    unfold cellsFrom at h
    split at h
    · rename_i hk
      have hk : k = .cell := by simpa using hk
      subst hk
      rw [cellsFrom_app] at h
      rcases List.mem_append.mp h with h | h
      · exact List.mem_cons_of_mem _ (cellsFrom_mem h)
      · rcases List.mem_cons.mp h with h | h
        · cases h; exact List.mem_cons_self
        · cases h
    · exact List.mem_cons_of_mem _ (cellsFrom_mem h)
theorem cellsFrom_has {x : Str} : ∀ {l : List (Str × NameKind)} {n : Nat}, (x, NameKind.cell) ∈ l → ∃ c, (x, c) ∈ cellsFrom n l []
  | [], _, h => nomatch h
  | (y, k) :: r, n, h => by
    unfold cellsFrom
    rcases List.mem_cons.mp h with h | h
    · cases h
      rw [if_pos (by rfl), cellsFrom_app]
      exact ⟨n, List.mem_append_right _ List.mem_cons_self⟩
    · split
      · rw [cellsFrom_app]
        obtain ⟨c, q⟩ := cellsFrom_has (n := n + 1) h
        exact ⟨c, List.mem_append_left _ q⟩
      · exact cellsFrom_has h
theorem lookup_has {α : Type} {x : Str} : ∀ {l : List (Str × α)}, (∃ c, (x, c) ∈ l) → ∃ c, l.lookup x = some c
  | [], ⟨_, h⟩ => nomatch h
  | (y, k) :: r, ⟨c, h⟩ => by
    rw [List.lookup_cons]
    cases hb : x == y with
    | true => exact ⟨_, rfl⟩
    | false =>
      rcases List.mem_cons.mp h with h | h
      · cases h; simp at hb
      · exact lookup_has ⟨c, h⟩
noncomputable def relabS (scope sc : Scope) : Scope :=
  { scope with names := scope.names.map fun (n, k) => if (k == .free && sc.kind == .function && sc.names.lookup n == some .cell) then (n, .cell) else (n, k) }
noncomputable def compOk (scope sc : Scope) : Bool := scope.kind == .function && sc.kind == .function && scope.names.all fun y => scope.names.lookup y.1 == some y.2 && (y.2 != .free || sc.names.lookup y.1 == some .cell || sc.names.lookup y.1 == some .free)
noncomputable def inner (scope : Scope) (ρ : Rho) : Rho := ρ.filter fun p => scope.names.lookup p.1 == some .free
theorem inner_lookup {scope : Scope} {x : Str} {d : D} : ∀ {ρ : Rho}, (inner scope ρ).lookup x = some d → ρ.lookup x = some d ∧ scope.names.lookup x = some .free
  | [], h => nomatch h
  | (y, e) :: r, h => by
    unfold inner at h
    rw [List.filter_cons] at h
    split at h
    · rename_i hy
      rw [List.lookup_cons] at h ⊢
      cases hb : x == y with
      | true => rw [hb] at h; have : x = y := eq_of_beq hb; subst this; exact ⟨h, by simpa using hy⟩
      | false => rw [hb] at h; exact inner_lookup h
    · rename_i hy
      have q := inner_lookup (ρ := r) h
      refine ⟨?_, q.2⟩
      rw [List.lookup_cons]
      cases hb : x == y with
      | true => have : x = y := eq_of_beq hb; subst this; rw [q.2] at hy; simp at hy
      | false => exact q.1
theorem lookup_map_kind {f : Str × NameKind → NameKind} : ∀ {l : List (Str × NameKind)} {x : Str} {k : NameKind}, l.lookup x = some k → (l.map fun y => (y.1, f y)).lookup x = some (f (x, k))
  | [], _, _, h => nomatch h
  | (y, e) :: r, x, k, h => by
    rw [List.lookup_cons] at h
    rw [List.map_cons, List.lookup_cons]
    cases hb : x == y with
    | true => rw [hb] at h; cases h; have : x = y := eq_of_beq hb; subst this; rfl
    | false => rw [hb] at h; exact lookup_map_kind h
theorem lookup_map_none {f : Str × NameKind → NameKind} : ∀ {l : List (Str × NameKind)} {x : Str} {k : NameKind}, (l.map fun y => (y.1, f y)).lookup x = some k → ∃ k', l.lookup x = some k' ∧ k = f (x, k')
  | [], _, _, h => nomatch h
  | (y, e) :: r, x, k, h => by
    rw [List.map_cons, List.lookup_cons] at h
    rw [List.lookup_cons]
    cases hb : x == y with
    | true => rw [hb] at h; cases h; have : x = y := eq_of_beq hb; subst this; exact ⟨_, rfl, rfl⟩
    | false => rw [hb] at h; exact lookup_map_none h
noncomputable def relK (sc : Scope) (y : Str × NameKind) : NameKind := if (y.2 == .free && sc.kind == .function && sc.names.lookup y.1 == some .cell) then .cell else y.2
theorem relabS_names (scope sc : Scope) : (relabS scope sc).names = scope.names.map fun y => (y.1, relK sc y) := by
  unfold relabS
  show List.map _ _ = _
  congr 1; funext y
  obtain ⟨n, k⟩ := y
  unfold relK
  dsimp only
  cases (k == NameKind.free && sc.kind == ScopeKind.function && List.lookup n sc.names == some NameKind.cell) <;> rfl
section
variable {M : Model} {A : Around} {E : Value → Shared → Prop} {s : Shared}
noncomputable def cenvOf (scope : Scope) (L : Addr) (cl : List (Str × Addr)) (env : Env) : Env :=
  { scope, locals := L, globals := env.globals, cells := cellsFrom (L + 1) scope.names cl, qual := env.qual, func := none, code := env.code, frame := env.frame, builtins := env.builtins }
theorem wp_cenv {scope : Scope} {cl : List (Str × Addr)} {env : Env} {Q : Env → Shared → Prop}
    (hQ : Q (cenvOf scope s.heap.objs.size cl env) { s with heap := pushCells (s.heap.push { cls := .type "dict", data := .dict #[] }) scope.names }) :
    wpAny M A (newFunctionEnv scope env.globals cl [] env.qual none .none (some env)) Q E s := by
  simp only [newFunctionEnv, Option.isSome_some, if_true]
  refine wpAny_bind (wpAny_alloc ?_)
  refine wpAny_bind (wpAny_layCells _ (fun name kind cells => by cases hkc : kind == NameKind.cell <;> simp [hkc]) _ _ _ _ ?_)
  rw [show ({ s with heap := s.heap.push { cls := .type "dict", data := .dict #[] } } : Shared).heap.objs.size = s.heap.objs.size + 1 from Heap.size_push ..]
  refine wpAny_bind ?_
  rw [List.forIn_nil]
  exact wpAny_pure (wpAny_pure hQ)
end
end Mine
set_option maxRecDepth 100000
set_option Elab.async false
set_option linter.unusedVariables false
namespace Mine
open PySem PySem.W PySem.Calls PyProof.Rows
theorem relab_back {scope sc : Scope} {x : Str} (h : (relabS scope sc).names.lookup x = some .cell ∨ (relabS scope sc).names.lookup x = some .free) : scope.names.lookup x = some .cell ∨ scope.names.lookup x = some .free := by
  have key : ∀ k, (relabS scope sc).names.lookup x = some k → (k = .cell ∨ k = .free) → scope.names.lookup x = some .cell ∨ scope.names.lookup x = some .free := by
    intro k h hk
    rw [relabS_names] at h
    obtain ⟨k', h', e⟩ := lookup_map_none (f := relK sc) h
    unfold relK at e
    dsimp only at e
    split at e
    · rename_i hc
      simp only [Bool.and_eq_true, beq_iff_eq] at hc
      right; rw [h', hc.1.1]
    · rw [h', ← e]; rcases hk with rfl | rfl <;> simp
  rcases h with h | h
  · exact key _ h (.inl rfl)
  · exact key _ h (.inr rfl)
theorem relab_free {scope sc : Scope} {x : Str} (h : scope.names.lookup x = some .free) : (relabS scope sc).names.lookup x = some .cell ∨ (relabS scope sc).names.lookup x = some .free := by
  rw [relabS_names, lookup_map_kind (f := relK sc) h]
  unfold relK
  split <;> simp
theorem relab_same {scope sc : Scope} {x : Str} {k : NameKind} (h : scope.names.lookup x = some k) (hk : k ≠ .free) : (relabS scope sc).names.lookup x = some k := by
  rw [relabS_names, lookup_map_kind (f := relK sc) h]
  unfold relK
  have : (k == NameKind.free) = false := by simpa using hk
  simp [this]
section
variable {w : World} {n : Nat} {sc : Scope} {ρ : Rho}
theorem lookup_mem' {α : Type} {l : List (Str × α)} {x : Str} {c : α} (h : l.lookup x = some c) : (x, c) ∈ l := mem_of_lookup h
/-- a comprehension's own frame -/
theorem comp_frame {scope : Scope} {env : Env} {X Y : Addr → Prop} {h h' : Heap} (S : Sees w env X h ρ) (ok : compOk scope env.scope = true) {L la : Addr} {O : Addr → Prop}
    (hns : ∃ m, h'.Ns L m) (hL : h.get? L = none) (kp : Kp h h') (ck : CellsOk h' (L + 1) (cellsFrom (L + 1) scope.names []))
    (fr : ∀ b, L ≤ b → h.get? b = none) (hO : O L ∧ ∀ x c, (x, c) ∈ cellsFrom (L + 1) scope.names [] → O c) (hOY : ∀ b, O b → Y b)
    (hY : ∀ b, Y b → X b ∨ (h.get? b = none ∧ Live h' b)) (hla : la < L) (hlaf : h.get? la = none) :
    let cenv := { cenvOf scope L (clos env scope.names []) env with scope := relabS scope env.scope }
    Sees w cenv Y h' (inner scope ρ) ∧ Fra cenv scope O Y ∧ (∀ x c, cenv.cells.lookup x = some c → c ≠ la) := by
  intro cenv
  simp only [compOk, Bool.and_eq_true, beq_iff_eq, List.all_eq_true, Bool.or_eq_true, bne_iff_ne, ne_eq] at ok
  obtain ⟨⟨hk, hk'⟩, hn⟩ := ok
  have hcl : ∀ y ∈ scope.names, y.2 = .free → ∃ c, env.cells.lookup y.1 = some c := fun y hy e => by
    have := (hn y hy).2
    rw [e] at this
    exact S.has y.1 (by rcases this with (q | q) | q; · exact absurd rfl q
                        · exact .inl q
                        · exact .inr q)
  have hcells : cenv.cells = cellsFrom (L + 1) scope.names [] ++ clos env scope.names [] := cellsFrom_app _ _ _
  have own : ∀ {x c}, (x, c) ∈ cellsFrom (L + 1) scope.names [] → h.get? c = none ∧ h'.IsCell c none ∧ L < c := fun {x c} q => ⟨fr c (Nat.le_of_lt (ck.empty _ _ q).2), (ck.empty _ _ q).1, (ck.empty _ _ q).2⟩
  have cap : ∀ {x c}, (x, c) ∈ clos env scope.names [] → env.cells.lookup x = some c ∧ (x, NameKind.free) ∈ scope.names := fun {x c} q => by
    rcases clos_mem q with q | ⟨q, e⟩
    · cases q
    · obtain ⟨c', hc'⟩ := hcl _ q rfl
      rw [hc'] at e; exact ⟨by rw [e]; exact hc', q⟩
  have split : ∀ {x c}, cenv.cells.lookup x = some c → (x, c) ∈ cellsFrom (L + 1) scope.names [] ∨ (x, c) ∈ clos env scope.names [] := fun {x c} q => by
    rw [hcells] at q; exact List.mem_append.mp (mem_of_lookup q)
  have capl : ∀ {x c}, env.cells.lookup x = some c → Live h c := fun {x c} q => Cell_live (S.cl x c q).1.choose_spec
  refine ⟨⟨S.base.kp' kp, fun b q => (hY b q).elim (fun q => ⟨(S.xok b q).1, (S.xok b q).2.kp kp⟩) fun q => ⟨S.base.none q.1, q.2⟩, hk, S.glob, S.blt, hns, fun x c q => ?_, fun x y c q r => ?_, fun x q => ?_, fun x d q => ?_⟩,
    ⟨hO.1, hOY, fun x q => relab_same q (by decide), fun x q => ⟨relab_same q (by decide), ?_⟩⟩, fun x c q e => ?_⟩
  · rcases split q with q | q
    · exact ⟨⟨_, (own q).2.1⟩, Nat.ne_of_gt (own q).2.2⟩
    · obtain ⟨⟨v, i⟩, _⟩ := S.cl x c (cap q).1
      refine ⟨⟨v, i.keeps kp⟩, fun e => ?_⟩
      obtain ⟨o, e'⟩ := Cell_live i
      rw [e] at e'; exact nomatch hL.symm.trans e'
  · rcases split q with q | q <;> rcases split r with r | r
    · exact name_of_addr ck.apart q r
    · obtain ⟨o, e⟩ := capl (cap r).1; rw [(own q).1] at e; cases e
    · obtain ⟨o, e⟩ := capl (cap q).1; rw [(own r).1] at e; cases e
    · exact S.ap _ _ _ (cap q).1 (cap r).1
  · rw [hcells]
    refine lookup_has ?_
    rcases relab_back q with q | q
    · obtain ⟨c, hc⟩ := cellsFrom_has (n := L + 1) (mem_of_lookup q)
      exact ⟨c, List.mem_append_left _ hc⟩
    · obtain ⟨c, hc⟩ := clos_has (env := env) (acc := []) (.inl (mem_of_lookup q))
      exact ⟨c, List.mem_append_right _ hc⟩
  · obtain ⟨q, hf⟩ := inner_lookup q
    obtain ⟨v, r, b⟩ := S.val x d q
    refine ⟨v, ((r.off (Y := Y) fun b o e y => (hY b y).elim id fun z => by rw [z.1] at e; cases e)).kp kp.but, .inr ⟨relab_free hf, ?_⟩⟩
    have hm : (x, NameKind.free) ∈ scope.names := mem_of_lookup hf
    obtain ⟨c, hc⟩ : ∃ c, cenv.cells.lookup x = some c := by
      rw [hcells]
      obtain ⟨c, hc⟩ := clos_has (env := env) (acc := []) (.inl hm)
      exact lookup_has ⟨c, List.mem_append_right _ hc⟩
    have hcx : env.cells.lookup x = some c := by
      rcases split hc with q | q
      · have := (hn _ (cellsFrom_mem q)).1
        rw [hf] at this; cases this
      · exact (cap q).1
    refine ⟨c, hc, ?_⟩
    rcases b with ⟨a, _⟩ | ⟨a, c', e, i⟩
    · have := (hn _ hm).2
      have a' : env.scope.names.lookup x = some .local := a
      rw [a'] at this; simp at this
    · rw [hcx] at e; cases e; exact i.keeps kp
  · rw [hcells]
    obtain ⟨c, hc⟩ := cellsFrom_has (n := L + 1) (mem_of_lookup q)
    obtain ⟨c', hc'⟩ : ∃ c, (cellsFrom (L + 1) scope.names [] ++ clos env scope.names []).lookup x = some c := lookup_has ⟨c, List.mem_append_left _ hc⟩
    refine ⟨c', hc', ?_⟩
    rcases List.mem_append.mp (mem_of_lookup hc') with z | z
    · exact hO.2 _ _ z
    · have := (hn _ (cap z).2).1
      rw [q] at this; cases this
  · subst e
    rcases split q with q | q
    · exact absurd (own q).2.2 (Nat.not_lt.mpr (Nat.le_of_lt hla))
    · obtain ⟨o, e⟩ := capl (cap q).1; rw [hlaf] at e; cases e
end
end Mine
set_option maxRecDepth 100000
set_option Elab.async false
set_option linter.unusedVariables false
namespace Mine
open PySem PySem.W PySem.Calls PyProof.Rows
theorem pushCells_size : ∀ (l : List (Str × NameKind)) (h : Heap), h.objs.size ≤ (pushCells h l).objs.size
  | [], _ => Nat.le_refl _
  | (_, k) :: r, h => by
    unfold pushCells
    split
    · refine Nat.le_trans ?_ (pushCells_size r _); rw [Heap.size_push]; omega
    · exact pushCells_size r h
section
variable {w : World} {n : Nat} {sc st : Scope} {ρ : Rho}
/-- what a comprehension leaves: its list at la, its namespace at L -/
structure CompLeft (w : World) (X : Addr → Prop) (outs : List D) (s : Shared) (la L : Addr) (s' : Shared) : Prop where
  ext : Ext s s'
  fa : s.heap.get? la = none
  fL : s.heap.get? L = none
  ne : la ≠ L
  hdL : (HF w.params).get? L = none
  ns : ∃ m, s'.heap.Ns L m
  vs : ∃ vs : List Value, s'.heap.PlainList la vs.toArray ∧ Reps w (fun b => X b ∨ b = L) s'.heap vs outs
theorem comp_core {elt tgt iter : Expr} {ifs : List Expr} {gens : List Comprehension} {scope : Scope} {pos : Pos} {ds outs : List D} {A : Around} {env : Env} {X : Addr → Prop} {s s₂ : Shared} {it : Value}
    {RR : Value → Addr → Result → Shared → Prop} (hA : AOk n A) (S : Sees w env X s.heap ρ) (ok : compOk scope env.scope = true)
    (hc : Cq w n (relabS scope env.scope) scope (.ListComp elt (⟨tgt, iter, ifs, 0⟩ :: gens) scope pos) 0 tgt (inner scope ρ) ds outs) (hz : outs.length ≤ sizeLine)
    (hit : IterMade w A tgt X ds s it s₂) (hRR : ∀ la L s', CompLeft w X outs s la L s' → RR (.ref la) L (.ok .next) s') :
    wpAny (model pw w) A (newList []) (fun acc s₃ => wpAny (model pw w) A (newFunctionEnv scope env.globals (clos env scope.names []) [] env.qual none .none (some env)) (fun cenv s₄ =>
      codeAny (model pw w) A (.compStart (.ListComp elt (⟨tgt, iter, ifs, 0⟩ :: gens) scope pos) 0 it acc { cenv with scope := relabel scope env }) (RR acc cenv.locals) s₄) No s₃) No s₂ := by
  obtain ⟨e2, wr, fr, St, Lw, st2⟩ := hit
  obtain ⟨hlw, hcw, hxw⟩ := off_wr S fr
  refine wpAny_newObj_type (wp_cenv ?_)
  generalize hH3 : s₂.heap.push { cls := .type "list", dict := none, data := .seq ([] : List Value).toArray } = H3
  generalize hH4 : pushCells (H3.push { cls := .type "dict", data := .dict #[] }) scope.names = H4
  have z3 : H3.objs.size = s₂.heap.objs.size + 1 := by rw [← hH3, Heap.size_push]
  have z3lt : s₂.heap.objs.size < H3.objs.size := by rw [z3]; exact Nat.lt_succ_self _
  have z3le := Nat.le_of_lt z3lt
  have k3 : Kp s₂.heap H3 := by rw [← hH3]; exact Kp.push _
  have k34 : Kp H3 (H3.push { cls := .type "dict", data := .dict #[] }) := Kp.push _
  have k4 : Kp (H3.push { cls := .type "dict", data := .dict #[] }) H4 := by rw [← hH4]; exact pushCells_keeps _ _
  have kp4 : Kp s₂.heap H4 := (k3.trans k34).trans k4
  have kps : Kp s.heap H4 := e2.kp.trans kp4
  have ge_none : ∀ b, s₂.heap.objs.size ≤ b → s₂.heap.get? b = none := fun b hb => by
    cases q : s₂.heap.get? b with
    | none => rfl
    | some o => exact absurd (Heap.lt_size q) (Nat.not_lt.mpr hb)
  have fr2 : ∀ b, s₂.heap.objs.size ≤ b → s.heap.get? b = none := fun b hb => none_back e2.kp (ge_none b hb)
  have ck : CellsOk H4 (H3.objs.size + 1) (cellsFrom (H3.objs.size + 1) scope.names []) := by
    have := cellsFrom_ok scope.names (H3.push { cls := .type "dict", data := .dict #[] }) (H3.objs.size + 1) [] ⟨fun _ _ hm => (nomatch hm), List.Pairwise.nil⟩ (by rw [Heap.size_push]; exact Nat.le_refl _)
    rw [Heap.size_push, hH4] at this; exact this
  have pl4 : H4.PlainList s₂.heap.objs.size #[] := ⟨_, k4 _ _ (k34 _ _ (by rw [← hH3]; exact Heap.get?_push_size _ rfl))⟩
  have ns4 : H4.Ns H3.objs.size fun _ => none := (Heap.Ns.new H3 (.type "dict")).keeps k4
  let O : Addr → Prop := fun b => b = s₂.heap.objs.size ∨ b = H3.objs.size ∨ ∃ x, (x, b) ∈ cellsFrom (H3.objs.size + 1) scope.names []
  let Y : Addr → Prop := fun b => (X b ∨ wr b) ∨ O b
  have hOge : ∀ b, O b → s₂.heap.objs.size ≤ b := fun b q => by
    rcases q with rfl | rfl | ⟨x, q⟩
    · exact Nat.le_refl _
    · rw [z3]; exact Nat.le_succ _
    · have := (ck.empty _ _ q).2; omega
  have hOl : ∀ b, O b → Live H4 b := fun b q => by
    rcases q with rfl | rfl | ⟨x, q⟩
    · exact pl_live pl4
    · exact Ns_live ns4
    · exact Cell_live (ck.empty _ _ q).1
  have wl : ∀ b, wr b → Live H4 b := fun b q => (Lw.live _ _ _ st2 b q).kp kp4
  have hY : ∀ b, Y b → X b ∨ (s.heap.get? b = none ∧ Live H4 b) := fun b q => by
    rcases q with (q | q) | q
    · exact .inl q
    · exact .inr ⟨fr b q, wl b q⟩
    · exact .inr ⟨fr2 b (hOge b q), hOl b q⟩
  obtain ⟨S', F', hcl⟩ := comp_frame (O := O) (Y := Y) (L := H3.objs.size) (la := s₂.heap.objs.size) S ok ⟨_, ns4⟩ (fr2 _ z3le) kps ck (fun b hb => fr2 b (Nat.le_trans z3le hb)) ⟨.inr (.inl rfl), fun x c q => .inr (.inr ⟨x, q⟩)⟩ (fun b q => .inr q) hY z3lt (fr2 _ (Nat.le_refl _))
  have st4 : St Y ds H4 := by
    refine Lw.frame _ _ s₂.heap _ (Lw.grow _ _ _ _ st2 (fun b q => ?_) fun b q => .inl (.inr q)) fun b o _ e => kp4 b o e
    rcases q with q | q
    · exact .inl q
    · exact .inr (ge_none b (hOge b q))
  have hwO : ∀ b, wr b → ¬ O b := fun b q o => by
    obtain ⟨x, e⟩ := Lw.live _ _ _ st2 b q
    rw [ge_none b (hOge b o)] at e; cases e
  have loop := hc A { cenvOf scope H3.objs.size (clos env scope.names []) env with scope := relabS scope env.scope } O Y { s₂ with heap := H4 } s₂.heap.objs.size #[] it wr rfl hA S' F' (.inl rfl)
    (Nat.ne_of_lt z3lt) hcl pl4 (by simpa using hz) (fun b q => ⟨.inl (.inr q), hwO b q⟩) (fun x c e q => ?_) ⟨St, Lw, st4⟩
  · have run : codeAny (model pw w) A (.compLoop (.ListComp elt (⟨tgt, iter, ifs, 0⟩ :: gens) scope pos) 0 it (.ref s₂.heap.objs.size) { cenvOf scope H3.objs.size (clos env scope.names []) env with scope := relabS scope env.scope }) (RR (.ref s₂.heap.objs.size) H3.objs.size) { s₂ with heap := H4 } := by
      refine codeAny_mono loop fun r s' h' => ?_
      obtain ⟨rfl, ⟨h', tk, rfl⟩, k, l, S'', vs, hp, rs⟩ := h'
      refine hRR _ _ _ ⟨?_, fr2 _ (Nat.le_refl _), fr2 _ z3le, Nat.ne_of_lt z3lt, S.base.none (fr2 _ z3le), S''.ns, vs, by simpa using hp, rs.off fun b o e q => ?_⟩
      · obtain ⟨h2, t2, rfl⟩ := e2.eq
        exact ⟨⟨_, _, rfl⟩, fun b o e => k b o (fun q => q.elim (fun q => by rw [fr2 b (hOge b q)] at e; cases e) fun q => by rw [fr b q] at e; cases e) (kps b o e)⟩
      · rcases q with q | rfl
        · exact .inl (.inl q)
        · exact .inr (.inr (.inl rfl))
    exact codeAny_compStart_list run (wpAny_mono (Lw.self _ _ { s₂ with heap := H4 } st4) (fun it' s' h' => by obtain ⟨rfl, rfl⟩ := h'; exact run) fun _ _ (x : False) => x.elim)
  · have e' : (cellsFrom (H3.objs.size + 1) scope.names (clos env scope.names [])).lookup x = some c := e
    rw [cellsFrom_app] at e'
    rcases List.mem_append.mp (mem_of_lookup e') with z | z
    · exact hwO c q (.inr (.inr ⟨x, z⟩))
    · rcases clos_mem z with z | ⟨z, ez⟩
      · cases z
      · simp only [compOk, Bool.and_eq_true, beq_iff_eq, List.all_eq_true, Bool.or_eq_true, bne_iff_ne, ne_eq] at ok
        have := (ok.2 _ z).2
        obtain ⟨c', hc'⟩ := S.has x (by rcases this with (q | q) | q; · exact absurd rfl q
                                        · exact .inl q
                                        · exact .inr q)
        rw [hc'] at ez
        exact hcw x c (by rw [ez]; exact hc') q
theorem clos_ok {scope : Scope} {env : Env} {X : Addr → Prop} {h : Heap} (S : Sees w env X h ρ) (ok : compOk scope env.scope = true) : closureFor scope env = pure (clos env scope.names []) := by
  refine closureFor_eq fun y hy e => ?_
  simp only [compOk, Bool.and_eq_true, beq_iff_eq, List.all_eq_true, Bool.or_eq_true, bne_iff_ne, ne_eq] at ok
  have := (ok.2 _ hy).2
  exact S.has _ (by rcases this with (q | q) | q; · exact absurd e q
                    · exact .inl q
                    · exact .inr q)
theorem names_ok {scope sc : Scope} (ok : compOk scope sc = true) : ∀ y ∈ scope.names, y.2 = .local → scope.names.lookup y.1 = some .local := fun y hy e => by
  simp only [compOk, Bool.and_eq_true, beq_iff_eq, List.all_eq_true] at ok
  rw [(ok.2 _ hy).1, e]
theorem kind_ok {scope sc : Scope} (ok : compOk scope sc = true) : scope.kind = .function := by
  simp only [compOk, Bool.and_eq_true, beq_iff_eq] at ok; exact ok.1.1
theorem Ev.comp {elt tgt iter : Expr} {ifs : List Expr} {gens : List Comprehension} {scope : Scope} {pos : Pos} {ds outs : List D} (ok : compOk scope sc = true) (hi : Itr w n sc ρ tgt iter ds)
    (hc : Cq w n (relabS scope sc) scope (.ListComp elt (⟨tgt, iter, ifs, 0⟩ :: gens) scope pos) 0 tgt (inner scope ρ) ds outs) (hz : outs.length ≤ sizeLine) (hs : ∀ env x, foldedSetIterable iter env x = pure x := by intros; rfl) :
    Ev w n sc ρ (.ListComp elt (⟨tgt, iter, ifs, 0⟩ :: gens) scope pos) (.lst outs) := fun A env X s he hA S => by
  subst he
  show wpAny _ _ (eval _ env) _ _ _
  rw [eval_ListComp]
  refine wpAny_comprehension_free (use := Option.none) rfl (hs env) (clos_ok S ok) (kind_ok ok) (names_ok ok) (wpAny_mono (hi A env X s rfl hA S) (fun xv s₁ h₁ => wpAny_mono h₁ (fun it s₂ h₂ => ?_) fun _ _ (x : False) => x.elim) fun _ _ (x : False) => x.elim)
  refine comp_core hA S ok hc hz h₂ fun la L s' c => ?_
  obtain ⟨vs, hp, rs⟩ := c.vs
  refine ⟨_, c.ns.choose_spec, fun h' hs' => ⟨?_, ?_⟩⟩
  · obtain ⟨h2, t2, rfl⟩ := c.ext.eq
    exact ⟨⟨_, _, rfl⟩, fun b o e => hs'.extBut b o (fun q => by rw [q, c.fL] at e; cases e) (c.ext.kp b o e)⟩
  · obtain ⟨k, e⟩ := hp
    exact .lst (vs := vs) (fun q => by obtain ⟨o, e⟩ := (S.xok _ q).2; rw [c.fa] at e; cases e) (hs'.extBut _ _ c.ne e) ((rs.kp fun b o q e => hs'.extBut b o (fun z => q (.inr z)) e).off fun b _ _ q => .inl q)
theorem Ex.assignComp {x : Str} {p q : Pos} {elt tgt iter : Expr} {ifs : List Expr} {gens : List Comprehension} {scope : Scope} {pos : Pos} {ds outs : List D} (hx : Storable st x) (ok : compOk scope sc = true) (hi : Itr w n sc ρ tgt iter ds)
    (hc : Cq w n (relabS scope sc) scope (.ListComp elt (⟨tgt, iter, ifs, 0⟩ :: gens) scope pos) 0 tgt (inner scope ρ) ds outs) (hz : outs.length ≤ sizeLine)
    (hsw : ∀ env : Env, env.scope = sc → swapsWith (.ListComp elt (⟨tgt, iter, ifs, 0⟩ :: gens) scope pos) (some (.Name x p)) q.line env = pure true)
    (hs : ∀ env x, foldedSetIterable iter env x = pure x := by intros; rfl) :
    Ex w n sc st ρ (.Assign [.Name x p] (.ListComp elt (⟨tgt, iter, ifs, 0⟩ :: gens) scope pos) q) (.nx ((x, .lst outs) :: ρ)) := fun A env O X s he hA S F => by
  subst he
  show wpAny _ _ (exec _ env) _ _ _
  rw [exec_Assign_Name_used _ _ _ _ (hsw env rfl)]
  refine wpAny_bind (wpAny_standAt (wpAny_bind ?_))
  show wpAny _ A (do let _ ← comprehension (.ListComp elt (⟨tgt, iter, ifs, 0⟩ :: gens) scope pos) scope env _ (newList []) false (eval iter env) (Option.some (PySem.assign (Expr.Name x p) env))) _ _ s
  refine wpAny_bind (wpAny_mono (wpAny_comprehension_free (use := Option.some (PySem.assign (Expr.Name x p) env)) (Q := fun _ s' => ExtB O s s' ∧ Sees w env X s'.heap ((x, .lst outs) :: ρ)) rfl (hs env) (clos_ok S ok) (kind_ok ok) (names_ok ok)
    (wpAny_mono (hi A env X s rfl hA S) (fun xv s₁ h₁ => wpAny_mono h₁ (fun it s₂ h₂ => ?_) fun _ _ (x : False) => x.elim) fun _ _ (x : False) => x.elim)) (fun _ s' hq => wpAny_pure (wpAny_pure ⟨hq.1, rfl, hq.2⟩)) fun _ _ (x : False) => x.elim)
  refine comp_core hA S ok hc hz h₂ fun la L s' c => ?_
  obtain ⟨vs, hp, rs⟩ := c.vs
  have hXL : ¬ X L := fun q => by obtain ⟨o, e⟩ := (S.xok _ q).2; rw [c.fL] at e; cases e
  have S' : Sees w env (fun b => X b ∨ b = L) s'.heap ρ := S.more c.ext.kp fun b q => q.elim .inl fun q => .inr (q ▸ ⟨c.fL, Ns_live c.ns.choose_spec⟩)
  have R' : Rep w (fun b => X b ∨ b = L) s'.heap (.ref la) (.lst outs) := by
    obtain ⟨k, e⟩ := hp
    exact .lst (vs := vs) (fun q => q.elim (fun q => by obtain ⟨o, e⟩ := (S.xok _ q).2; rw [c.fa] at e; cases e) c.ne) e rs
  show wpAny _ A (PySem.assign (Expr.Name x p) env (.ref la)) _ _ _
  refine wpAny_assign_Name (store_sees hx S' (F.mono fun b q => .inl q) R' fun s'' e'' S'' => ?_)
  obtain ⟨hl, hcl, _⟩ := off_wr (wr := fun b => b = L) S fun b q => q ▸ c.fL
  refine ⟨_, c.ns.choose_spec.at' fun o e => e''.kp _ o (fun q => hXL (F.ox _ q)) e, fun h' hs' => ⟨?_, ?_⟩⟩
  · have e3 := c.ext.b.trans e''
    obtain ⟨h2, t2, rfl⟩ := e3.eq
    refine ⟨⟨_, _, rfl⟩, fun b o q e => hs'.extBut b o (fun q => by rw [q, c.fL] at e; cases e) (e3.kp b o q e), fun b l => ?_⟩
    obtain ⟨o, e⟩ := e3.lv b l
    exact ⟨o, hs'.extBut b o (fun q => by obtain ⟨o, e'⟩ := l; rw [q, c.fL] at e'; cases e') e⟩
  · exact S''.leave (wr := fun b => b = L) hl hcl (fun b q => .inr q) (fun b q => ⟨.inl q, fun z => hXL (z ▸ q)⟩) fun b o q e => hs'.extBut b o q e
end
end Mine
set_option maxRecDepth 100000
set_option Elab.async false
set_option linter.unusedVariables false
namespace Mine
open PySem PySem.W PySem.Calls PyProof.Rows
noncomputable section
noncomputable def isStrKey (e : DictEntry) : Bool := match e.key with | .str .. => true | _ => false
theorem isStrKey_of {e : DictEntry} (h : isStrKey e = true) : ∃ n t, e.key = .str n t := by
  unfold isStrKey at h
  split at h
  · exact ⟨_, _, by assumption⟩
  · cases h
theorem ns_of {h : Heap} {a : Addr} {o : Obj} {es : Array DictEntry} {ep : Nat} (hg : h.get? a = some o) (hd : o.data = .dict es ep) (hk : es.all isStrKey = true) : h.Ns a (nsFind es) :=
  ⟨o, es, ep, hg, hd, fun e he => isStrKey_of (by rw [Array.all_eq_true_iff_forall_mem] at hk; exact hk e he), fun _ => rfl⟩
noncomputable def o0es (P : Params) : Array DictEntry := match (boot_o_0 P).data with
  | .dict es _ => es
  | _ => #[]
theorem ns3 (P : Params) : (HF P).Ns mainGlobals (nsFind (o3es P)) := ns_of (ep := match (o3f P).data with | .dict _ ep => ep | _ => 0) (get3 P) (by kernel_rfl) (by kernel_rfl)
theorem ns0 (P : Params) : (HF P).Ns builtinsNs (nsFind (o0es P)) := ns_of (o := boot_o_0 P) (ep := match (boot_o_0 P).data with | .dict _ ep => ep | _ => 0) (by kernel_rfl) (by kernel_rfl) (by kernel_rfl)
theorem nolimit (P : Params) : (HF P).NoLimit := by
  refine ⟨nsFind (match (boot_o_2 P).data with | .dict es _ => es | _ => #[]), ns_of (o := boot_o_2 P) (ep := match (boot_o_2 P).data with | .dict _ ep => ep | _ => 0) (by kernel_rfl) (by kernel_rfl) (by kernel_rfl), by kernel_rfl⟩
/-- a function's worth -/
noncomputable def Fn (w : World) (n : Nat) (a : Addr) (ds : List D) (d : D) : Prop := Cl w n (fun vs => PySem.call (.ref a) vs) ds d
noncomputable def fnOk (sc : Scope) (xs : List Str) : Bool := sc.kind == .function && sc.names.all (fun y => sc.names.lookup y.1 == some y.2 && y.2 != .free) && xs.all (fun x => sc.names.lookup x == some .local || sc.names.lookup x == some .cell) && decide xs.Nodup
theorem bindL_off {k : Str → Option NameKind} {x : Str} : ∀ {bs : List (Str × Value)} {m : Str → Option Value}, x ∉ bs.map (·.1) → bindL k bs m x = m x
  | [], _, _ => rfl
  | (y, v) :: r, m, h => by
    have h1 : x ≠ y := fun e => h (by simp [e])
    have h2 : x ∉ r.map (·.1) := fun e => h (List.mem_cons_of_mem _ e)
    unfold bindL
    rw [bindL_off h2]
    split <;> simp [h1]
theorem bindC_off {k : Str → Option NameKind} {x : Str} : ∀ {bs : List (Str × Value)} {m : Str → Option Value}, x ∉ bs.map (·.1) → bindC k bs m x = m x
  | [], _, _ => rfl
  | (y, v) :: r, m, h => by
    have h1 : x ≠ y := fun e => h (by simp [e])
    have h2 : x ∉ r.map (·.1) := fun e => h (List.mem_cons_of_mem _ e)
    unfold bindC
    rw [bindC_off h2]
    split <;> simp [h1]
theorem bindL_at {k : Str → Option NameKind} {x : Str} {v : Value} (hk : k x = some .local) : ∀ {bs : List (Str × Value)} {m : Str → Option Value}, (bs.map (·.1)).Nodup → bs.lookup x = some v → bindL k bs m x = some v
  | [], _, _, h => nomatch h
  | (y, u) :: r, m, nd, h => by
    rw [List.lookup_cons] at h
    obtain ⟨n1, n2⟩ := List.nodup_cons.mp nd
    unfold bindL
    cases hb : x == y with
    | true => rw [hb] at h; cases h; have : x = y := eq_of_beq hb; subst this; rw [bindL_off n1, if_pos hk]; simp
    | false => rw [hb] at h; exact bindL_at hk n2 h
theorem bindC_at {k : Str → Option NameKind} {x : Str} {v : Value} (hk : k x ≠ some .local) : ∀ {bs : List (Str × Value)} {m : Str → Option Value}, (bs.map (·.1)).Nodup → bs.lookup x = some v → bindC k bs m x = some v
  | [], _, _, h => nomatch h
  | (y, u) :: r, m, nd, h => by
    rw [List.lookup_cons] at h
    obtain ⟨n1, n2⟩ := List.nodup_cons.mp nd
    unfold bindC
    cases hb : x == y with
    | true => rw [hb] at h; cases h; have : x = y := eq_of_beq hb; subst this; rw [bindC_off n1, if_neg hk]; simp
    | false => rw [hb] at h; exact bindC_at hk n2 h
theorem zip_at {w : World} {X : Addr → Prop} {h : Heap} {x : Str} {d : D} : ∀ {xs : List Str} {vs : List Value} {ds : List D}, Reps w X h vs ds → (xs.zip ds).lookup x = some d → ∃ v, (xs.zip vs).lookup x = some v ∧ Rep w X h v d
  | [], _, _, _, e => nomatch e
  | y :: xs, _, _, .nil, e => nomatch e
  | y :: xs, _, _, .cons a r, e => by
    rw [List.zip_cons_cons, List.lookup_cons] at e ⊢
    cases hb : x == y with
    | true => rw [hb] at e; cases e; exact ⟨_, rfl, a⟩
    | false => rw [hb] at e; exact zip_at r e
theorem zip_fst : ∀ {xs : List Str} {vs : List Value}, vs.length = xs.length → (xs.zip vs).map (·.1) = xs
  | [], [], _ => rfl
  | x :: xs, v :: vs, h => by rw [List.zip_cons_cons, List.map_cons, zip_fst (by simpa using h)]
theorem all0 {P : List Value → Prop} (h : P []) : ∀ vs : List Value, vs.length = 0 → P vs := fun vs q => by
  rw [List.length_eq_zero_iff.mp q]; exact h
theorem all1 {P : List Value → Prop} (h : ∀ a, P [a]) : ∀ vs : List Value, vs.length = 1 → P vs := fun vs q => by
  obtain ⟨a, rfl⟩ := List.length_eq_one_iff.mp q; exact h a
theorem all2 {P : List Value → Prop} (h : ∀ a b, P [a, b]) : ∀ vs : List Value, vs.length = 2 → P vs := fun vs q => by
  cases vs with
  | nil => cases q
  | cons a r => exact all1 (P := fun r => P (a :: r)) (h a) r (Nat.succ.inj q)
theorem all3 {P : List Value → Prop} (h : ∀ a b c, P [a, b, c]) : ∀ vs : List Value, vs.length = 3 → P vs := fun vs q => by
  cases vs with
  | nil => cases q
  | cons a r => exact all2 (P := fun r => P (a :: r)) (h a) r (Nat.succ.inj q)
theorem Fn.mk {w : World} {n : Nat} {a : Addr} {o : Params → Obj} {fd : FuncData} {body : List Stmt} {sc : Scope} {xs : List Str} {ds : List D} {d : D}
    (hget : ∀ P, (HF P).get? a = some (o P)) (hdata : ∀ P, (o P).data = .func fd) (hcd : ∀ P, (HF P).CodeRec fd.code fd.qualname) (hbody : fd.body = .stmts body) (hsc : fd.scope = sc)
    (hgl : fd.globals = mainGlobals) (hbl : fd.builtins = builtinsNs) (hclo : fd.closure = []) (hbind : ∀ vs, vs.length = xs.length → bindArgs fd ⟨vs, []⟩ = pure (xs.zip vs))
    (hok : fnOk sc xs = true) (hco : sc.isCoroutine = false) (hge : sc.isGenerator = false) (hlen : ds.length = xs.length) (h : Exs w n sc sc (xs.zip ds) body (.rt d)) : Fn w (n + 1) a ds d := fun A X s vs hA B ok rs => by
  simp only [fnOk, Bool.and_eq_true, beq_iff_eq, List.all_eq_true, Bool.or_eq_true, bne_iff_ne, ne_eq, decide_eq_true_eq] at hok
  obtain ⟨⟨⟨hk, hn⟩, hx⟩, hnd⟩ := hok
  have hvl : vs.length = xs.length := rs.length.trans hlen
  have up : ∀ b o, (HF w.params).get? b = some o → s.heap.get? b = some o := B
  have hxs : ∀ y ∈ xs.zip vs, y.1 ∈ xs := fun y hy => by
    have := List.mem_map_of_mem (f := (·.1)) hy
    rwa [zip_fst hvl] at this
  refine wpAny_call (codeAny_call_cells (by have := hA.dp; show A.depth < 1000; omega) (B _ _ (hget w.params)) (hdata w.params) (let ⟨mc, a, b⟩ := nolimit w.params; ⟨mc, a.keeps up, b⟩) ((hcd w.params).keeps up) hbody (hbind vs hvl) hclo
    (fun y hy => ?_) (fun s₁ x => ?_) (hsc ▸ hco) (hsc ▸ hge) (hsc ▸ hk))
  · rcases hx _ (hxs y hy) with q | q
    · exact .inl (hsc ▸ q)
    · refine .inr ⟨hsc ▸ q, ?_⟩
      obtain ⟨c, hc⟩ := lookup_has (cellsFrom_has (n := s.heap.objs.size + 1) (mem_of_lookup q))
      rw [hsc, hc]; rfl
  · generalize hL : s.heap.objs.size = L at x ⊢
    have xk := x.toInCall.keep
    have E1 : Ext s s₁ := ⟨x.toInCall.same, xk⟩
    have ge_none : ∀ b, L ≤ b → s.heap.get? b = none := fun b hb => by
      cases q : s.heap.get? b with
      | none => rfl
      | some o => exact absurd (Heap.lt_size q) (Nat.not_lt.mpr (hL ▸ hb))
    have eL : (callEnvC fd L a).locals = L := rfl
    have eC : (callEnvC fd L a).cells = cellsFrom (L + 1) sc.names [] := by rw [← hsc]; rfl
    have eK : ∀ y, (callEnvC fd L a).kindOf y = sc.names.lookup y := fun y => by rw [← hsc]; rfl
    let O : Addr → Prop := fun b => b = L ∨ ∃ y, (callEnvC fd L a).cells.lookup y = some b
    have above : ∀ y c, (callEnvC fd L a).cells.lookup y = some c → L < c := fun y c q => x.above y c (mem_of_lookup q)
    have hOn : ∀ b, O b → s.heap.get? b = none := fun b q => by
      rcases q with rfl | ⟨y, q⟩
      · exact ge_none _ (Nat.le_refl _)
      · exact ge_none _ (Nat.le_of_lt (above y b q))
    have hOl : ∀ b, O b → Live s₁.heap b := fun b q => by
      rcases q with rfl | ⟨y, q⟩
      · exact Ns_live x.toInCall.ns
      · exact Cell_live (x.cell y b q)
    have nd : ((xs.zip vs).map (·.1)).Nodup := by rw [zip_fst hvl]; exact hnd
    have has : ∀ y, (callEnvC fd L a).kindOf y = some .cell → ∃ c, (callEnvC fd L a).cells.lookup y = some c := fun y q => by
      rw [eC]; exact lookup_has (cellsFrom_has (mem_of_lookup (eK y ▸ q)))
    have S1 : Sees w (callEnvC fd L a) (fun b => X b ∨ O b) s₁.heap (xs.zip ds) := by
      refine ⟨B.kp' xk, fun b q => q.elim (fun q => ⟨(ok b q).1, (ok b q).2.kp xk⟩) fun q => ⟨B.none (hOn b q), hOl b q⟩, (show fd.scope.kind = .function from hsc ▸ hk), hgl, hbl, ⟨_, x.toInCall.ns⟩, fun y c q => ⟨⟨_, x.cell y c q⟩, Nat.ne_of_gt (above y c q)⟩,
        fun y z c q r => name_of_addr x.apart (mem_of_lookup q) (mem_of_lookup r), fun y q => q.elim (has y) fun q => ?_, fun y e q => ?_⟩
      · have := (hn _ (mem_of_lookup (eK y ▸ q))).2; exact absurd rfl this
      · obtain ⟨v, hv, r⟩ := zip_at rs q
        refine ⟨v, (r.off (Y := fun b => X b ∨ O b) fun b o e q => q.elim id fun q => by rw [hOn b q] at e; cases e).kp E1.kp.but, ?_⟩
        have hyx : y ∈ xs := hxs _ (mem_of_lookup hv)
        rcases hx y hyx with q | q
        · have hk' : (callEnvC fd L a).kindOf y = some .local := (eK y).trans q
          exact .inl ⟨hk', _, x.toInCall.ns, bindL_at hk' nd hv⟩
        · have hk' : (callEnvC fd L a).kindOf y = some .cell := (eK y).trans q
          obtain ⟨c, hc⟩ := has y hk'
          have := x.cell y c hc
          rw [bindC_at (by rw [hk']; decide) nd hv] at this
          exact .inr ⟨.inl hk', c, hc, this⟩
    have F1 : Fra (callEnvC fd L a) sc O (fun b => X b ∨ O b) := ⟨.inl rfl, fun b q => .inr q, fun y q => (eK y).trans q, fun y q => let ⟨c, hc⟩ := has y ((eK y).trans q); ⟨(eK y).trans q, c, hc, .inr ⟨y, hc⟩⟩⟩
    refine wpAny_mono (h (A.deeper (callEnvC fd L a)) (callEnvC fd L a) O _ s₁ hsc (hA.deeper _) S1 F1) (fun f s' h' => ?_) fun _ _ (x : False) => x.elim
    obtain ⟨e, v, rfl, r⟩ := h'
    exact ⟨E1.since e hOn, r.off fun b _ _ q => .inl q⟩
end
end Mine
set_option maxRecDepth 100000
set_option Elab.async false
set_option linter.unusedVariables false
namespace Mine
open PySem PySem.W PySem.Calls PyProof.Rows
noncomputable section
inductive EvL (w : World) (n : Nat) (sc : Scope) (ρ : Rho) : List Expr → List D → Prop
  | nil : EvL w n sc ρ [] []
  | cons {e : Expr} {es : List Expr} {d : D} {ds : List D} : Ev w n sc ρ e d → EvL w n sc ρ es ds → EvL w n sc ρ (e :: es) (d :: ds)
section
variable {w : World} {n : Nat} {sc st : Scope} {ρ : Rho}
theorem EvL.run {A : Around} {env : Env} {X : Addr → Prop} (he : env.scope = sc) (hA : AOk n A) {es : List Expr} {ds : List D} (h : EvL w n sc ρ es ds) : ∀ {s : Shared}, Sees w env X s.heap ρ → ∀ {Q : List Value → Shared → Prop},
    (∀ vs s', Ext s s' → Reps w X s'.heap vs ds → Q vs s') → wpAny (model pw w) A (spliced (es.map fun e => (false, eval e env))) Q No s := by
  induction h with
  | nil => intro s S Q hQ; exact spliced_nil (hQ _ _ .refl .nil)
  | cons h k ih =>
    intro s S Q hQ
    exact spliced_cons (wpAny_mono (h A env X s he hA S) (fun v s₁ h₁ => ih (S.ext h₁.1) fun vs s₂ e₂ r₂ => hQ _ _ (h₁.1.trans e₂) (.cons (h₁.2.ext e₂) r₂)) fun _ _ x => x)
theorem EvL.args {es : List Expr} {ds : List D} {f : Value} {A : Around} {env : Env} {X : Addr → Prop} {s : Shared} (h : EvL w n sc ρ es ds) (he : env.scope = sc) (hA : AOk n A) (S : Sees w env X s.heap ρ) {Q : Args → Shared → Prop}
    (hQ : ∀ vs s', Ext s s' → Reps w X s'.heap vs ds → Q ⟨vs, []⟩ s') : wpAny (model pw w) A (evalArgs f true (es.map fun e => (false, eval e env)) []) Q No s := by
  cases h with
  | nil => exact PySem.evalArgs_none (hQ _ _ .refl .nil)
  | cons h k => exact evalArgs_plain (EvL.run he hA (.cons h k) S hQ)
theorem any_false {es : List Expr} {env : Env} : (es.map fun e => ((false, eval e env) : Bool × Sem Value)).any (·.1) = false := by simp [List.any_map]
theorem ns3_of {h : Heap} (B : Base w h) : h.Ns mainGlobals (nsFind (o3es w.params)) := (ns3 w.params).keeps B
theorem ns0_of {h : Heap} (B : Base w h) : h.Ns builtinsNs (nsFind (o0es w.params)) := (ns0 w.params).keeps B
/-- a call of a function of the text -/
theorem Ev.callF {id : Str} {p pos : Pos} {args : List Expr} {a : Addr} {ds : List D} {d : D} (hk : sc.names.lookup id = some .globalImplicit) (hid : ∀ P, nsFind (o3es P) id = some (.ref a)) (hfn : ∀ P, ∃ o fd, (HF P).get? a = some o ∧ o.data = .func fd)
    (ha : EvL w n sc ρ args ds) (hf : Fn w n a ds d) (hse : ∀ env, backTo pos (starEach args env) = args.map fun e => (false, eval e env) := by intros; rfl) (hd : (id == ("__debug__" : Str)) = false := by decide +kernel) :
    Ev w n sc ρ (.Call (.Name id p) args [] pos) d := fun A env X s he hA S => by
  subst he
  refine wpAny_Call_NameR (Name_function_global S.kind hk ?_ hd)
  refine loadGlobal_global (mg := nsFind (o3es w.params)) (by rw [S.glob]; exact ns3_of S.base) (hid w.params) ?_
  obtain ⟨o, fd, ho, hfd⟩ := hfn w.params
  refine callWith_function (o := o) (fd := fd) ?_
  rw [hse]
  refine ha.args rfl hA S fun vs s' e rs => ⟨⟨e.kp _ _ (S.base _ _ ho), hfd⟩, ?_⟩
  exact wpAny_mono (hf A X s' vs hA (S.ext e).base (S.ext e).xok rs) (fun v s'' h => ⟨e.trans h.1, h.2⟩) fun _ _ x => x
/-- a call of a built-in function or type -/
theorem Ev.callB {id : Str} {b : String} {p pos : Pos} {args : List Expr} {ds : List D} {d : D} (hk : sc.names.lookup id = some .globalImplicit) (hid : ∀ P, nsFind (o3es P) id = Option.none) (hb : ∀ P, nsFind (o0es P) id = some (.builtin b))
    (ha : EvL w n sc ρ args ds) (hf : Cl w n (fun vs => call (.builtin b) vs) ds d) (hse : ∀ env, backTo pos (starEach args env) = args.map fun e => (false, eval e env) := by intros; rfl) (hd : (id == ("__debug__" : Str)) = false := by decide +kernel) :
    Ev w n sc ρ (.Call (.Name id p) args [] pos) d := fun A env X s he hA S => by
  subst he
  refine wpAny_Call_NameR (Name_function_global S.kind hk ?_ hd)
  refine loadGlobal_builtin (mg := nsFind (o3es w.params)) (mb := nsFind (o0es w.params)) (by rw [S.glob]; exact ns3_of S.base) (hid w.params) (by rw [S.blt]; exact ns0_of S.base) (hb w.params) ?_
  rw [hse]
  refine callWith_builtin any_false (ha.args rfl hA S fun vs s' e rs => ?_)
  exact wpAny_mono (hf A X s' vs hA (S.ext e).base (S.ext e).xok rs) (fun v s'' h => ⟨e.trans h.1, h.2⟩) fun _ _ x => x
theorem Ev.callT {id : Str} {b : String} {p pos : Pos} {args : List Expr} {ds : List D} {d : D} (hk : sc.names.lookup id = some .globalImplicit) (hid : ∀ P, nsFind (o3es P) id = Option.none) (hb : ∀ P, nsFind (o0es P) id = some (.type b))
    (ha : EvL w n sc ρ args ds) (hf : Cl w n (fun vs => call (.type b) vs) ds d) (hse : ∀ env, backTo pos (starEach args env) = args.map fun e => (false, eval e env) := by intros; rfl) (hd : (id == ("__debug__" : Str)) = false := by decide +kernel) :
    Ev w n sc ρ (.Call (.Name id p) args [] pos) d := fun A env X s he hA S => by
  subst he
  refine wpAny_Call_NameR (Name_function_global S.kind hk ?_ hd)
  refine loadGlobal_builtin (mg := nsFind (o3es w.params)) (mb := nsFind (o0es w.params)) (by rw [S.glob]; exact ns3_of S.base) (hid w.params) (by rw [S.blt]; exact ns0_of S.base) (hb w.params) ?_
  rw [hse]
  refine PySem.callWith_type any_false (ha.args rfl hA S fun vs s' e rs => ?_)
  exact wpAny_mono (hf A X s' vs hA (S.ext e).base (S.ext e).xok rs) (fun v s'' h => ⟨e.trans h.1, h.2⟩) fun _ _ x => x
/-- a method's call -/
theorem Ev.meth {o : Expr} {name : Str} {T id : String} {apos pos : Pos} {args : List Expr} {od d : D} {ds : List D} (ho : Ev w n sc ρ o od)
    (hbase : ∀ env, attributeBase o name env (eval o env) = eval o env) (hfew : args.length < 30) (hline : (apos.endLine == pos.line) = true) (pa : PlainAttrs T) (slot : Slot T name id) (hty : typeOf (.builtin id) = pure (.type "method_descriptor"))
    (hT : ∀ (X : Addr → Prop) (s : Shared) (v : Value), Rep w X s.heap v od → s.TypeIs v T ∧ ∀ a, v = .ref a → ∃ ob, s.heap.get? a = some ob ∧ ob.dict = Option.none)
    (ha : EvL w n sc ρ args ds) (hf : Cl w n (fun vs => call (.builtin id) vs) (od :: ds) d) (hse : ∀ env, backTo pos (starEach args env) = args.map fun e => (false, eval e env) := by intros; rfl) :
    Ev w n sc ρ (.Call (.Attribute o name apos) args [] pos) d := fun A env X s he hA S => by
  refine wpAny_Call_method (hbase env) ?_ hline pa slot hty (wpAny_mono (ho A env X s he hA S) (fun v s₁ h₁ => ⟨(hT X s₁ v h₁.2).1, (hT X s₁ v h₁.2).2, ?_⟩) fun _ _ x => x)
  · rw [hse]
    simp only [List.all_map, List.length_nil, Nat.add_zero, List.isEmpty_nil, if_true]
    simp [hfew, backToKw, keywordEach]
  · rw [hse]
    refine callWith_builtin any_false (ha.args he hA (S.ext h₁.1) fun vs s' e rs => ?_)
    have S' := (S.ext h₁.1).ext e
    exact wpAny_mono (hf A X s' (v :: vs) hA S'.base S'.xok (.cons (h₁.2.ext e) rs)) (fun v s'' h => ⟨(h₁.1.trans e).trans h.1, h.2⟩) fun _ _ x => x
/-- data of the text -/
theorem Ev.gname {id : Str} {p : Pos} {a : Addr} {d : D} (hk : sc.names.lookup id = some .globalImplicit) (hid : ∀ P, nsFind (o3es P) id = some (.ref a)) (hr : ∀ X h, Base w h → XOk w X h → Rep w X h (.ref a) d) (hd : (id == ("__debug__" : Str)) = false := by decide +kernel) :
    Ev w n sc ρ (.Name id p) d := fun A env X s he hA S => by
  subst he
  refine Name_function_global S.kind hk ?_ hd
  exact loadGlobal_global (mg := nsFind (o3es w.params)) (by rw [S.glob]; exact ns3_of S.base) (hid w.params) ⟨.refl, hr _ _ S.base S.xok⟩
theorem cl_ord {c : Nat} : Cl w n (fun vs => call (.builtin "ord") vs) [.str ⟨#[c]⟩] (.int c) := fun A X s vs _ _ _ r => by
  obtain ⟨v, rfl, x⟩ := r.one; cases x; exact P.ord_of_char ⟨.tok, .int _ _⟩
theorem cl_chr {i : Int} (hi : (decide (i < 0) || decide (i > 0x10FFFF)) = false) : Cl w n (fun vs => call (.builtin "chr") vs) [.int i] (.str ⟨#[i.toNat]⟩) := fun A X s vs _ _ _ r => by
  obtain ⟨v, rfl, x⟩ := r.one; cases x; exact P.chr_of_int hi ⟨.tok, .str _ _⟩
theorem cl_inset {k : Int} {S : Int → Bool} : Cl w n (Cmp .In) [.int k, .iset S] (.bool (S k)) := fun A X s vs _ _ _ r => by
  obtain ⟨v, u, rfl, x, y⟩ := r.two; cases x; cases y with | iset hX hS => exact wpAny_inSet_of (knd := intKind pw w) (intKind_is _ _ _ _) (by rfl) hS ⟨.tok, .bool _⟩
theorem off_hf {a : Addr} {o : Obj} {X : Addr → Prop} {h : Heap} (ok : XOk w X h) (e : (HF w.params).get? a = some o) : ¬ X a := fun q => by rw [(ok a q).1] at e; cases e
noncomputable def b1List : List Int := [65024, 65025, 65026, 65027, 65028, 65029, 6150, 65030, 65031, 65032, 65033, 6155, 6156, 6157, 8203, 8204, 8205, 65034, 65035, 65036, 65037, 65038, 65039, 173, 847, 8288, 65279]
noncomputable def isB1 (k : Int) : Bool := b1List.contains k
noncomputable def o22es (P : Params) : Array (Int × Value) := match (o22b P).data with
  | .set es _ _ => es
  | _ => #[]
noncomputable def o22t (P : Params) : SetTable := match (o22b P).data with
  | .set _ _ t => t
  | _ => .fresh 0 0 true
theorem o22_all (P : Params) : (o22es P).toList.map (fun e => match e.2 with | .int k _ => if e.1 == hashInt k && e.2.scannable then some k else none | _ => none) = b1List.map (some : Int → Option Int) := by kernel_rfl
theorem o22_get (P : Params) : (HF P).get? 22 = some (o22b P) := by kernel_rfl
theorem o22_data (P : Params) : (o22b P).data = .set (o22es P) (match (o22b P).data with | .set _ ep _ => ep | _ => 0) (o22t P) := by kernel_rfl
theorem o22_fits (P : Params) : (o22t P).fits (o22es P).size = true := by kernel_rfl
theorem o22_size (P : Params) : (o22es P).size = 27 := by kernel_rfl
theorem set_rep (X : Addr → Prop) (h : Heap) (B : Base w h) (ok : XOk w X h) : Rep w X h (.ref 22) (.iset isB1) := by
  have all := o22_all w.params
  have key : ∀ e ∈ (o22es w.params).toList, ∃ k t, e.2 = .int k t ∧ e.1 = hashInt k ∧ e.2.scannable = true ∧ k ∈ b1List := by
    intro e he
    have hm := List.mem_map_of_mem (f := (fun (e : Int × Value) => match e.2 with | .int k _ => if e.1 == hashInt k && e.2.scannable then some k else none | _ => none)) he
    rw [all] at hm
    obtain ⟨k, hk, e1⟩ := List.mem_map.mp hm
    obtain ⟨h1, v⟩ := e
    cases v with
    | int j t =>
      dsimp only at e1
      split at e1
      · rename_i hc
        simp only [Bool.and_eq_true, beq_iff_eq] at hc
        cases e1
        exact ⟨_, t, rfl, hc.1, hc.2, hk⟩
      · cases e1
    | _ => cases e1
  refine .iset (n := 27) (off_hf ok (o22_get w.params)) ⟨o22b w.params, o22es w.params, _, o22t w.params, B _ _ (o22_get w.params), ⟨rfl, rfl, rfl⟩, o22_data w.params, fun e he => ?_, fun k => ⟨fun hk => ?_, fun ⟨e, he, hk⟩ => ?_⟩, by rw [o22_size]; decide +kernel, o22_fits w.params, o22_size w.params⟩
  · obtain ⟨k, t, e1, e2, e3, _⟩ := key e he
    exact ⟨⟨k, by rw [e1]; exact intKind_is _ _ _ _, e2⟩, e3⟩
  · have hk' : some k ∈ (o22es w.params).toList.map (fun (e : Int × Value) => match e.2 with | .int k _ => if e.1 == hashInt k && e.2.scannable then some k else none | _ => none) := by
      rw [all]
      refine List.mem_map_of_mem ?_
      simpa only [isB1, List.contains_eq_mem, decide_eq_true_eq] using hk
    obtain ⟨e, he, e1⟩ := List.mem_map.mp hk'
    refine ⟨e, he, ?_⟩
    obtain ⟨j, t, e2, _⟩ := key e he
    obtain ⟨h1, v⟩ := e
    cases e2
    dsimp only at e1
    split at e1
    · cases e1; exact intKind_is _ _ _ _
    · cases e1
  · obtain ⟨j, t, e2, _, _, hj⟩ := key e he
    rw [e2] at hk
    have : k = j := (intKind pw w).inj (.int j t) k j hk (intKind_is _ _ _ _)
    subst this
    simpa only [isB1, List.contains_eq_mem, decide_eq_true_eq] using hj
end
end
end Mine
set_option maxRecDepth 100000
set_option Elab.async false
set_option linter.unusedVariables false
namespace Mine
open PySem PySem.W PySem.Calls PyProof.Rows
noncomputable section
theorem lk_hit {x y : Str} {d : D} {ρ : Rho} (h : (x == y) = true) : List.lookup x ((y, d) :: ρ) = some d := by rw [List.lookup_cons, h]
theorem lk_miss {x y : Str} {d e : D} {ρ : Rho} (h : (x == y) = false) (k : ρ.lookup x = some d) : List.lookup x ((y, e) :: ρ) = some d := by rw [List.lookup_cons, h]; exact k
section
variable {w : World} {n : Nat} {sc st : Scope} {ρ : Rho}
theorem Ext.pushed {s s' : Shared} {o : Obj} (e : Ext s s') : Ext s { s' with heap := s'.heap.push o } := e.trans .push
theorem fresh_off {X : Addr → Prop} {h : Heap} (ok : XOk w X h) : ¬ X h.objs.size := fun q => by
  obtain ⟨o, e⟩ := (ok _ q).2; rw [get?_size] at e; cases e
theorem Rep.newTuple {X : Addr → Prop} {h : Heap} {vs : List Value} {ds : List D} (ok : XOk w X h) (r : Reps w X h vs ds) : Rep w X (h.push { cls := .type "tuple", data := .seq vs.toArray }) (.ref h.objs.size) (.tup ds) :=
  .tup (n := 0) (fresh_off ok) (Heap.get?_push_size _ rfl) (r.kp (Kp.push _).but)
theorem Rep.newList {X : Addr → Prop} {h : Heap} {vs : List Value} {ds : List D} (ok : XOk w X h) (r : Reps w X h vs ds) : Rep w X (h.push { cls := .type "list", data := .seq vs.toArray }) (.ref h.objs.size) (.lst ds) :=
  .lst (n := 0) (fresh_off ok) (Heap.get?_push_size _ rfl) (r.kp (Kp.push _).but)
theorem Ev.tuple {es : List Expr} {ds : List D} {k : Nat} {pos : Pos} (h : EvL w n sc ρ es ds) (hz : ds.length ≤ sizeLine) (hse : ∀ env, backTo pos (starEach es env) = es.map fun e => (false, eval e env) := by intros; rfl) : Ev w n sc ρ (.Tuple es k pos) (.tup ds) := fun A env X s he hA S => by
  refine wpAny_Tuple ?_
  rw [hse]
  exact h.run he hA S fun vs s' e r => ⟨by rw [r.length]; exact hz, e.pushed, Rep.newTuple (S.ext e).xok r⟩
theorem Ev.list {es : List Expr} {ds : List D} {pos : Pos} (h : EvL w n sc ρ es ds) (hz : ds.length ≤ sizeLine) (hse : ∀ env, backTo pos (starEach es env) = es.map fun e => (false, eval e env) := by intros; rfl) : Ev w n sc ρ (.List es pos) (.lst ds) := fun A env X s he hA S => by
  refine wpAny_List ?_
  rw [hse]
  exact h.run he hA S fun vs s' e r => ⟨by rw [r.length]; exact hz, e.pushed, Rep.newList (S.ext e).xok r⟩
theorem Ev.ifT {t a b : Expr} {pos : Pos} {d : D} (h : Ts w n sc ρ t true) (k : Ev w n sc ρ a d) : Ev w n sc ρ (.IfExp t a b pos) d := fun A env X s he hA S =>
  wpAny_IfExp (wpAny_mono (h A env X s he hA S) (fun c s₁ h₁ => by
    obtain ⟨e, rfl⟩ := h₁
    exact wpAny_mono (k A env X s₁ he hA (S.ext e)) (fun v s₂ h₂ => ⟨e.trans h₂.1, h₂.2⟩) fun _ _ x => x) fun _ _ x => x)
theorem Ev.ifF {t a b : Expr} {pos : Pos} {d : D} (h : Ts w n sc ρ t false) (k : Ev w n sc ρ b d) : Ev w n sc ρ (.IfExp t a b pos) d := fun A env X s he hA S =>
  wpAny_IfExp (wpAny_mono (h A env X s he hA S) (fun c s₁ h₁ => by
    obtain ⟨e, rfl⟩ := h₁
    exact wpAny_mono (k A env X s₁ he hA (S.ext e)) (fun v s₂ h₂ => ⟨e.trans h₂.1, h₂.2⟩) fun _ _ x => x) fun _ _ x => x)
theorem Ev.unary {op : UnaryOp} {x : Expr} {pos : Pos} {a d : D} (h : Ev w n sc ρ x a) (k : Cl w n (fun vs => match vs with | [v] => unaryOp op v | _ => unsupported "") [a] d) : Ev w n sc ρ (.UnaryOp op x pos) d := fun A env X s he hA S =>
  wpAny_UnaryOp (wpAny_mono (h A env X s he hA S) (fun v s₁ h₁ => wpAny_mono (k A X s₁ [v] hA (S.ext h₁.1).base (S.ext h₁.1).xok (.cons h₁.2 .nil)) (fun u s₂ h₂ => ⟨h₁.1.trans h₂.1, h₂.2⟩) fun _ _ x => x) fun _ _ x => x)
theorem cl_neg {a : Int} : Cl w n (fun vs => match vs with | [v] => unaryOp .USub v | _ => unsupported "") [.int a] (.int (-a)) := fun A X s vs _ _ _ r => by
  obtain ⟨v, rfl, x⟩ := r.one; cases x; exact neg_int ⟨.tok, .int _ _⟩
/-- tests -/
theorem Ts.not {x : Expr} {pos : Pos} {b : Bool} (h : Ts w n sc ρ x b) : Ts w n sc ρ (.UnaryOp .Not x pos) (!b) := fun A env X s he hA S =>
  wpAny_isTrue_Not (wpAny_mono (h A env X s he hA S) (fun c s₁ h₁ => ⟨h₁.1, by rw [h₁.2]⟩) fun _ _ x => x)
theorem isTrue_whole {op : BoolOp} {es : List Expr} {pos : Pos} {env : Env} {a b : Sem Value} : isTrue (.BoolOp op es pos) env a = isTrue (.BoolOp op es pos) env b := rfl
theorem Ts.andF {x : Expr} {r : List Expr} {pos : Pos} (h : Ts w n sc ρ x false) : Ts w n sc ρ (.BoolOp .And (x :: r) pos) false := fun A env X s he hA S =>
  isTrue_and (wpAny_mono (h A env X s he hA S) (fun c s₁ h₁ => by obtain ⟨e, rfl⟩ := h₁; exact ⟨e, rfl⟩) fun _ _ x => x)
theorem Ts.andT {x : Expr} {r : List Expr} {pos : Pos} {b : Bool} (h : Ts w n sc ρ x true) (k : Ts w n sc ρ (.BoolOp .And r pos) b) : Ts w n sc ρ (.BoolOp .And (x :: r) pos) b := fun A env X s he hA S =>
  isTrue_and (wpAny_mono (h A env X s he hA S) (fun c s₁ h₁ => by
    obtain ⟨e, rfl⟩ := h₁
    exact wpAny_mono (k A env X s₁ he hA (S.ext e)) (fun c s₂ h₂ => ⟨e.trans h₂.1, h₂.2⟩) fun _ _ x => x) fun _ _ x => x)
theorem Ts.and0 {pos : Pos} : Ts w n sc ρ (.BoolOp .And [] pos) true := fun A env X s he hA S => isTrue_and_nil ⟨.refl, rfl⟩
theorem Ts.orT {x : Expr} {r : List Expr} {pos : Pos} (h : Ts w n sc ρ x true) : Ts w n sc ρ (.BoolOp .Or (x :: r) pos) true := fun A env X s he hA S =>
  isTrue_or (wpAny_mono (h A env X s he hA S) (fun c s₁ h₁ => by obtain ⟨e, rfl⟩ := h₁; exact ⟨e, rfl⟩) fun _ _ x => x)
theorem Ts.orF {x : Expr} {r : List Expr} {pos : Pos} {b : Bool} (h : Ts w n sc ρ x false) (k : Ts w n sc ρ (.BoolOp .Or r pos) b) : Ts w n sc ρ (.BoolOp .Or (x :: r) pos) b := fun A env X s he hA S =>
  isTrue_or (wpAny_mono (h A env X s he hA S) (fun c s₁ h₁ => by
    obtain ⟨e, rfl⟩ := h₁
    exact wpAny_mono (k A env X s₁ he hA (S.ext e)) (fun c s₂ h₂ => ⟨e.trans h₂.1, h₂.2⟩) fun _ _ x => x) fun _ _ x => x)
theorem Ts.or0 {pos : Pos} : Ts w n sc ρ (.BoolOp .Or [] pos) false := fun A env X s he hA S => isTrue_or_nil ⟨.refl, rfl⟩
theorem Ts.and2 {x y : Expr} {pos : Pos} {a b : Bool} (h : Ts w n sc ρ x a) (k : a = true → Ts w n sc ρ y b) : Ts w n sc ρ (.BoolOp .And [x, y] pos) (a && b) := by
  cases a with
  | false => exact .andF h
  | true =>
    cases b with
    | false => exact .andT h (.andF (k rfl))
    | true => exact .andT h (.andT (k rfl) .and0)
theorem Ts.or2 {x y : Expr} {pos : Pos} {a b : Bool} (h : Ts w n sc ρ x a) (k : a = false → Ts w n sc ρ y b) : Ts w n sc ρ (.BoolOp .Or [x, y] pos) (a || b) := by
  cases a with
  | true => exact .orT h
  | false =>
    cases b with
    | true => exact .orF h (.orT (k rfl))
    | false => exact .orF h (.orF (k rfl) .or0)
theorem Ts.value {e : Expr} {b : Bool} (h : Ev w n sc ρ e (.bool b)) (he : ∀ env whole, isTrue e env whole = (do let v ← whole; standAt e.pos; holding [v] (truthy v)) := by intros; rfl) : Ts w n sc ρ e b := fun A env X s hs hA S =>
  isTrue_plain (wpAny_mono (h A env X s hs hA S) (fun v s₁ h₁ => by obtain ⟨e1, r⟩ := h₁; cases r; exact wpAny_truthy_bool ⟨e1, rfl⟩) fun _ _ x => x) (he env _)
theorem Ts.int {e : Expr} {i : Int} (h : Ev w n sc ρ e (.int i)) (he : ∀ env whole, isTrue e env whole = (do let v ← whole; standAt e.pos; holding [v] (truthy v)) := by intros; rfl) : Ts w n sc ρ e (i != 0) := fun A env X s hs hA S =>
  isTrue_plain (wpAny_mono (h A env X s hs hA S) (fun v s₁ h₁ => by obtain ⟨e1, r⟩ := h₁; cases r; exact truthy_int ⟨e1, rfl⟩) fun _ _ x => x) (he env _)
/-- items -/
noncomputable abbrev GetI : List Value → Sem Value := fun vs => match vs with | [x, y] => getItem x y | _ => unsupported ""
theorem Ev.item {value slice : Expr} {pos : Pos} {T id : String} {a b d : D} (hv : Ev w n sc ρ value a) (hi : Ev w n sc ρ slice b) (hl : typeLookup (.type T) "__getitem__" = pure (some (.builtin id)))
    (hT : ∀ (X : Addr → Prop) (s : Shared) (v : Value), Rep w X s.heap v a → s.TypeIs v T) (hf : Cl w n GetI [a, b] d) (hs : ∀ o i, subscripted slice false o i = operate [o, i] (getItem o i) := by intros; rfl) : Ev w n sc ρ (.Subscript value slice pos) d := fun A env X s he hA S =>
  Subscript_ (wpAny_mono (hv A env X s he hA S) (fun o s₁ h₁ => wpAny_mono (hi A env X s₁ he hA (S.ext h₁.1)) (fun i s₂ h₂ => by
    have S2 := (S.ext h₁.1).ext h₂.1
    exact tail_any (hT X s₂ o (h₁.2.ext h₂.1)) hl (wpAny_mono (hf A X s₂ [o, i] hA S2.base S2.xok (.cons (h₁.2.ext h₂.1) (.cons h₂.2 .nil))) (fun v s₃ h₃ => ⟨(h₁.1.trans h₂.1).trans h₃.1, h₃.2⟩) fun _ _ x => x) (hs o i)) fun _ _ x => x) fun _ _ x => x)
theorem ty_str {x : Str} (X : Addr → Prop) (s : Shared) (v : Value) (r : Rep w X s.heap v (.str x)) : s.TypeIs v "str" := by cases r; exact typeIs_str _ _ _
theorem ty_tup {x : List D} (X : Addr → Prop) (s : Shared) (v : Value) (r : Rep w X s.heap v (.tup x)) : s.TypeIs v "tuple" := by cases r with | tup a b c => exact ⟨_, b, rfl⟩
theorem ty_lst {x : List D} (X : Addr → Prop) (s : Shared) (v : Value) (r : Rep w X s.heap v (.lst x)) : s.TypeIs v "list" := by cases r with | lst a b c => exact ⟨_, b, rfl⟩
theorem ty_sd {x : List (Str × D)} (X : Addr → Prop) (s : Shared) (v : Value) (r : Rep w X s.heap v (.sd x)) : s.TypeIs v "dict" := by cases r with | sd z a b c d => exact b.typeIs
theorem ty_idt {x : List (Int × D)} (X : Addr → Prop) (s : Shared) (v : Value) (r : Rep w X s.heap v (.idt x)) : s.TypeIs v "dict" := by cases r with | idt z a b c d => exact b.typeIs
theorem get_str {x : Str} {i : Int} {c : Nat} (hr : (decide (i < -(2 ^ 63 : Int)) || decide (i ≥ 2 ^ 63)) = false) (hc : (seqIndex? i x.length).bind (x.cps[·]?) = some c) : Cl w n GetI [.str x, .int i] (.str ⟨#[c]⟩) := fun A X s vs _ _ _ r => by
  obtain ⟨v, u, rfl, a, b⟩ := r.two; cases a; cases b; exact P.getItem_str hr hc ⟨.tok, .str _ _⟩
theorem get_tup {ds : List D} {i : Int} {k : Nat} {d : D} (hlo : -2 ^ 63 ≤ i) (hhi : i < 2 ^ 63) (hk : seqIndex? i ds.length = some k) (hy : ds[k]? = some d) : Cl w n GetI [.tup ds, .int i] d := fun A X s vs _ _ _ r => by
  obtain ⟨v, u, rfl, a, b⟩ := r.two
  cases b
  cases a with
  | @tup l us c _ hX hg rs =>
    obtain ⟨y, hy', ry⟩ := rs.get hy
    exact P.getItem_tuple (items := us.toArray) hg hlo hhi (by rw [List.size_toArray, rs.length]; exact hk) (by simpa using hy') ⟨.refl, ry⟩
end
end
end Mine
set_option maxRecDepth 100000
set_option Elab.async false
set_option linter.unusedVariables false
namespace Mine
open PySem PySem.W PySem.Calls PyProof.Rows
noncomputable section
section
variable {w : World} {n : Nat} {sc st : Scope} {ρ : Rho}
noncomputable def ItSt (w : World) (N : Nat) (fp wr : List Addr) (P : Nat → Value → Prop) (St : Nat → Heap → Prop) : (Addr → Prop) → List D → Heap → Prop := fun Y ds h =>
  ∃ k, St k h ∧ k + ds.length = N ∧ (∀ b ∈ fp, Live h b) ∧ (∀ b ∈ fp, ¬ Y b ∨ b ∈ wr) ∧ (∀ i v d, P (k + i) v → ds[i]? = some d → Rep w Y h v d) ∧ ∀ b ∈ wr, Y b
theorem ItL.ofWalks {A : Around} {tgt : Expr} {I : Addr} {fp wr : List Addr} {N : Nat} {P : Nat → Value → Prop} {St : Nat → Heap → Prop} (W : Walks pw w A I fp wr N P St)
    (hgo : ∀ k (s : Shared) v, St k s.heap → wpAny (model pw w) A (letOwnedTupleGo tgt (.ref I) v) (fun _ s' => s' = s) No s) (live : ∀ k h, St k h → ∀ b ∈ wr, Live h b) :
    ItL w A tgt (.ref I) (· ∈ wr) (ItSt w N fp wr P St) where
  grow := fun Y Y' ds h ⟨k, a, b, c, d, e, f⟩ hY hw => ⟨k, a, b, c, fun x hx => (d x hx).elim (fun q => .inl fun q' => (hY x q').elim q fun z => (by obtain ⟨o, e⟩ := c x hx; rw [z] at e; cases e)) .inr,
    fun i v dd p q => (e i v dd p q).off fun x o e q => (hY x q).elim id fun z => (by rw [z] at e; cases e), hw⟩
  frame := fun Y ds h h' ⟨k, a, b, c, d, e, f⟩ hk => ⟨k, W.frame _ _ _ a fun x hx o e => hk x o (d x hx) e, b, fun x hx => let ⟨o, e⟩ := c x hx; ⟨o, hk x o (d x hx) e⟩, d, fun i v dd p q => (e i v dd p q).kp fun x o q e => hk x o (.inl q) e, f⟩
  live := fun Y ds h ⟨k, a, _⟩ b hb => live k h a b hb
  next := fun Y d ds s ⟨k, a, b, c, dd, e, f⟩ hl => by
    refine W.item k s _ _ (by simp at b; omega) a fun v h' tk hP hst hk => ?_
    refine ⟨v, rfl, wpAny_mono (hgo (k + 1) _ v hst) (fun _ s' h => ?_) fun _ _ x => x⟩
    subst h
    have kY : KpB Y s.heap h' := fun x o q e => hk x o (fun z => q (f x z)) e
    refine ⟨⟨⟨_, _, rfl⟩, fun x o q e => hk x o q e, fun x l => ?_⟩, (e 0 v d (by simpa using hP) rfl).kp kY, k + 1, hst, by simp at b ⊢; omega, fun x hx => ?_, dd, fun i v d' p q => (e (i + 1) v d' (by rw [show k + (i + 1) = k + 1 + i by omega]; exact p) (by simpa using q)).kp kY, f⟩
    · by_cases q : x ∈ wr
      · exact live _ _ hst x q
      · obtain ⟨o, e⟩ := l; exact ⟨o, hk x o q e⟩
    · by_cases q : x ∈ wr
      · exact live _ _ hst x q
      · obtain ⟨o, e⟩ := c x hx; exact ⟨o, hk x o q e⟩
  done := fun Y s ⟨k, a, b, c, d, e, f⟩ => by
    have : k = N := by simpa using b
    subst this
    exact W.done s _ _ a fun h' tk hk => ⟨rfl, ⟨_, _, rfl⟩, fun x o q e => hk x o q e⟩
  self := fun Y ds s ⟨k, a, _⟩ => W.self k s _ _ a ⟨rfl, rfl⟩
/-- a target that unpacks nothing of its iterator's own -/
noncomputable def PlainT (tgt : Expr) : Prop := ∀ (A : Around) (I : Addr) (T : String) (v : Value) (s : Shared), (∃ o vs, s.heap.get? I = some o ∧ o.cls = .type T ∧ o.data = .fields vs) →
  (["enumerate", "zip", "dict_itemiterator", "dict_reverseitemiterator", "odict_iterator", "itertools.zip_longest", "itertools.pairwise"] : List String).contains T = false → ∀ w, wpAny (model pw w) A (letOwnedTupleGo tgt (.ref I) v) (fun _ s' => s' = s) No s
theorem PlainT.name {x : Str} {p : Pos} : PlainT (.Name x p) := fun A I T v s _ _ w => wpAny_pure rfl
theorem PlainT.tuple {es : List Expr} {k : Nat} {p : Pos} : PlainT (.Tuple es k p) := fun A I T v s ⟨o, vs, hg, hc, hd⟩ hT w => by
  show wpAny _ A (do
    let (.ref r, .ref a) := ((.ref I : Value), v) | return
    let o ← load r
    match o.cls, o.data with
    | .type n, .fields vs =>
      if ["enumerate", "zip", "dict_itemiterator", "dict_reverseitemiterator", "odict_iterator", "itertools.zip_longest", "itertools.pairwise"].contains n && vs[0]? == some (rawInt a) then
        rule "for.unpacks-the-owned-tuple"
        updateField r 0 .none
    | _, _ => pure ()) _ _ s
  cases v with
  | ref a =>
    refine wpAny_bind (wpAny_load hg ?_)
    rw [hc, hd]
    dsimp only
    rw [hT]
    exact wpAny_pure rfl
  | _ => exact wpAny_pure rfl
theorem live_of_get {h : Heap} {b : Addr} {o : Obj} (e : h.get? b = some o) : Live h b := ⟨o, e⟩
theorem seq_size (h : Heap) (o : Obj) {b : Addr} (q : h.get? b = none) : True := trivial
/-- iterators made of a single fresh object over one older one -/
theorem iter_made {A : Around} {tgt : Expr} {X : Addr → Prop} {s : Shared} {o : Obj} {fp : List Addr} {N : Nat} {P : Nat → Value → Prop} {St : Nat → Heap → Prop} {ds : List D} {tk : Nat}
    (W : Walks pw w A s.heap.objs.size (s.heap.objs.size :: fp) [s.heap.objs.size] N P St) (hst : St 0 (s.heap.push o)) (hN : ds.length = N) (hfp : ∀ b ∈ fp, Live s.heap b ∧ ¬ X b)
    (hR : ∀ i v d, P i v → ds[i]? = some d → Rep w X s.heap v d) (hgo : ∀ k (s' : Shared) v, St k s'.heap → wpAny (model pw w) A (letOwnedTupleGo tgt (.ref s.heap.objs.size) v) (fun _ s'' => s'' = s') No s')
    (live : ∀ k h, St k h → Live h s.heap.objs.size) (hf : o.isFreed = false := by rfl) : IterMade w A tgt X ds s (.ref s.heap.objs.size) { s with heap := s.heap.push o, toks := tk } := by
  refine ⟨.push, (· ∈ [s.heap.objs.size]), fun b q => ?_, _, ItL.ofWalks W hgo (fun k h a b hb => ?_), 0, hst, by simpa using hN, fun b hb => ?_, fun b hb => ?_, fun i v d p q => ?_, fun b hb => .inr hb⟩
  · rw [List.mem_singleton.mp q]; exact get?_size _
  · rw [List.mem_singleton.mp hb]; exact live k h a
  · rcases List.mem_cons.mp hb with rfl | hb
    · exact ⟨_, Heap.get?_push_size _ hf⟩
    · exact (hfp b hb).1.kp (Kp.push o)
  · rcases List.mem_cons.mp hb with rfl | hb
    · exact .inr (List.mem_singleton.mpr rfl)
    · refine .inl fun q => q.elim (hfp b hb).2 fun q => ?_
      obtain ⟨o', e⟩ := (hfp b hb).1
      rw [List.mem_singleton.mp q, get?_size] at e; cases e
  · refine ((hR i v d (by simpa using p) q).off fun b o e q => q.elim id fun q => ?_).kp (Kp.push o).but
    rw [List.mem_singleton.mp q, get?_size] at e; cases e
theorem Its.list {tgt : Expr} (ht : PlainT tgt) {ds : List D} : Its w n tgt (.lst ds) ds := fun A X s v hA B ok r => by
  obtain ⟨a, vs, k, rfl, hX, hg, rs⟩ := list_of_rep r
  have hne : a ≠ s.heap.objs.size := Nat.ne_of_lt (Heap.lt_size hg)
  refine wpAny_pyIter_list (isList_of hg) (iter_made (Walks.list hA.hd _ a hne vs.toArray) ⟨⟨_, Heap.get?_push_size _ rfl, rfl, rfl⟩, isList_of (Heap.get?_push_of_some _ hg)⟩ (by simpa using rs.length.symm)
    (fun b hb => by rw [List.mem_singleton.mp hb]; exact ⟨⟨_, hg⟩, hX⟩) (fun i v d p q => ?_) (fun k s' v st => ?_) fun k h st => let ⟨o, e, _⟩ := st.1; ⟨o, e⟩)
  · obtain ⟨u, e, ru⟩ := rs.get q
    have : v = u := by have p' : vs[i]? = some v := by simpa using p
                       rw [e] at p'; exact (Option.some.inj p').symm
    rw [this]; exact ru
  · obtain ⟨⟨o, e, c, d⟩, _⟩ := st
    exact ht A _ "list_iterator" v s' ⟨o, _, e, c, d⟩ (by decide +kernel) w
theorem Its.tuple {tgt : Expr} (ht : PlainT tgt) {ds : List D} : Its w n tgt (.tup ds) ds := fun A X s v hA B ok r => by
  obtain ⟨a, vs, k, rfl, hX, hg, rs⟩ := tuple_of_rep r
  have hne : a ≠ s.heap.objs.size := Nat.ne_of_lt (Heap.lt_size hg)
  refine wpAny_pyIter_tuple (isTuple_of hg) (iter_made (Walks.tuple hA.hd _ a hne vs.toArray) ⟨⟨_, Heap.get?_push_size _ rfl, rfl, rfl⟩, isTuple_of (Heap.get?_push_of_some _ hg)⟩ (by simpa using rs.length.symm)
    (fun b hb => by rw [List.mem_singleton.mp hb]; exact ⟨⟨_, hg⟩, hX⟩) (fun i v d p q => ?_) (fun k s' v st => ?_) fun k h st => let ⟨o, e, _⟩ := st.1; ⟨o, e⟩)
  · obtain ⟨u, e, ru⟩ := rs.get q
    have : v = u := by have p' : vs[i]? = some v := by simpa using p
                       rw [e] at p'; exact (Option.some.inj p').symm
    rw [this]; exact ru
  · obtain ⟨⟨o, e, c, d⟩, _⟩ := st
    exact ht A _ "tuple_iterator" v s' ⟨o, _, e, c, d⟩ (by decide +kernel) w
theorem Its.str {x : Str} {p : Pos} {y : Str} : Its w n (.Name y p) (.str x) (x.cps.toList.map fun c => .str ⟨#[c]⟩) := fun A X s v hA B ok r => by
  cases r with
  | str _ t =>
    have go : ∀ i v d, SignAt x i v → (x.cps.toList.map fun c => D.str ⟨#[c]⟩)[i]? = some d → Rep w X s.heap v d := fun i v d p q => by
      obtain ⟨c, u, e, rfl⟩ := p
      rw [List.getElem?_map] at q
      have e' : x.cps.toList[i]? = some c := by simpa using e
      rw [e'] at q
      cases q; exact .str _ _
    cases ha : x.cps.all (· < 128)
    · exact wpAny_pyIter_wide ha (iter_made (fp := []) (Walks.strWide hA.hd _ x t) ⟨_, Heap.get?_push_size _ rfl, rfl, rfl⟩ (by simp) (fun b hb => nomatch hb) go (fun k s' v st => wpAny_pure rfl) fun k h st => let ⟨o, e, _⟩ := st; ⟨o, e⟩)
    · exact wpAny_pyIter_ascii ha (iter_made (fp := []) (Walks.strAscii hA.hd _ x t) ⟨_, Heap.get?_push_size _ rfl, rfl, rfl⟩ (by simp) (fun b hb => nomatch hb) go (fun k s' v st => wpAny_pure rfl) fun k h st => let ⟨o, e, _⟩ := st; ⟨o, e⟩)
theorem Its.bytes {b : Array UInt8} {p : Pos} {y : Str} : Its w n (.Name y p) (.bytes b) (b.toList.map fun c => .int (c.toNat : Int)) := fun A X s v hA B ok r => by
  cases r with
  | bytes _ t =>
    refine KBw.pyIter_bytes ?_
    refine iter_made (fp := []) (KBw.walks hA.hd _ b t) ⟨_, Heap.get?_push_size _ rfl, rfl, rfl⟩ (by simp) (fun b hb => nomatch hb) (fun i v d p q => ?_) (fun k s' v st => wpAny_pure rfl) fun k h st => let ⟨o, e, _⟩ := st; ⟨o, e⟩
    obtain ⟨c, u, e, rfl⟩ := p
    rw [List.getElem?_map] at q
    have e' : b.toList[i]? = some c := by simpa using e
    rw [e'] at q
    cases q; exact .int _ _
theorem Its.keys {kvs : List (Str × D)} {p : Pos} {y : Str} : Its w n (.Name y p) (.sd kvs) (kvs.map fun kv => .str kv.1) := fun A X s v hA B ok r => by
  cases r with
  | @sd a us _ hsys hX hd e rs =>
    obtain ⟨ep, hat⟩ := hd.dictAt
    obtain ⟨o, es, hg, _⟩ := id hat
    have hne : a ≠ s.heap.objs.size := Nat.ne_of_lt (Heap.lt_size hg)
    refine wpAny_pyIter_dict (knd := PySem.strKind pw w) hsys hat (iter_made (Walks.dictKeys hA.hd _ a hne us ep) ⟨⟨_, Heap.get?_push_size _ rfl, rfl, rfl⟩, hat.push _⟩ (by have := congrArg List.length e; simpa using this.symm)
      (fun b hb => by rw [List.mem_singleton.mp hb]; exact ⟨⟨_, hg⟩, hX⟩) (fun i v d p q => ?_) (fun k s' v st => wpAny_pure rfl) fun k h st => let ⟨o, e, _⟩ := st.1; ⟨o, e⟩)
    obtain ⟨k, x, ek, hk⟩ := p
    rw [List.getElem?_map] at q
    have e1 : (us.map (·.1))[i]? = some k := by rw [List.getElem?_map, ek]; rfl
    rw [e, List.getElem?_map] at e1
    cases hi : kvs[i]? with
    | none => rw [hi] at q; cases q
    | some kv =>
      rw [hi] at q e1
      cases q
      have : kv.1 = k := by simpa using e1
      subst this
      obtain ⟨t, rfl⟩ := Value.isStrOf_shape hk
      exact .str _ _
end
end
end Mine
set_option maxRecDepth 100000
set_option Elab.async false
set_option linter.unusedVariables false
namespace Mine
open PySem PySem.W PySem.Calls PyProof.Rows
noncomputable section
section
variable {w : World} {n : Nat} {sc st : Scope} {ρ : Rho}
noncomputable def rangeD (N : Int) : List D := (List.range N.toNat).map fun (i : Nat) => D.int (i : Int)
theorem Itr.range {x : Str} {q p pos : Pos} {id : Str} {e : Expr} {N : Int} (hk : sc.names.lookup id = some .globalImplicit) (hid : ∀ P, nsFind (o3es P) id = Option.none) (hb : ∀ P, nsFind (o0es P) id = some (.type "range"))
    (h : Ev w n sc ρ e (.int N)) (hlo : -(2 ^ 62) ≤ N) (hhi : N < 2 ^ 62) (hse : ∀ env, backTo pos (starEach [e] env) = [(false, eval e env)] := by intros; rfl) (hd : (id == ("__debug__" : Str)) = false := by decide +kernel) :
    Itr w n sc ρ (.Name x q) (.Call (.Name id p) [e] [] pos) (rangeD N) := fun A env X s he hA S => by
  subst he
  refine wpAny_Call_NameR (Name_function_global S.kind hk ?_ hd)
  refine loadGlobal_builtin (mg := nsFind (o3es w.params)) (mb := nsFind (o0es w.params)) (by rw [S.glob]; exact ns3_of S.base) (hid w.params) (by rw [S.blt]; exact ns0_of S.base) (hb w.params) ?_
  rw [hse]
  refine PySem.callWith_type rfl (Calls.evalArgs_plain (Calls.spliced_cons (wpAny_mono (h A env X s rfl hA S) (fun nv s₁ h₁ => Calls.spliced_nil ?_) fun _ _ x => x)))
  obtain ⟨e1, r1⟩ := h₁
  cases r1
  have S1 := S.ext e1
  refine call_range_1 (wpAny_pyIter_range (IsRange.new ..) (small_one (by decide) (by decide) hlo hhi) ?_)
  have hsz : Builtin.Range.rangeSize 0 N 1 = (N.toNat : Int) := by rw [rangeSize_one]; split <;> omega
  generalize ho : ({ cls := .type "range", data := .fields #[.int 0 s₁.toks, .int N _, .int 1 (s₁.toks + 1)] } : Obj) = o
  have e2 : Ext s₁ { s₁ with heap := s₁.heap.push o, toks := s₁.toks + 1 + 1 } := .push
  have I := iter_made (w := w) (A := A) (tgt := .Name x q) (X := X) (s := { s₁ with heap := s₁.heap.push o, toks := s₁.toks + 1 + 1 }) (fp := []) (ds := rangeD N) (tk := s₁.toks + 1 + 1)
    (o := { cls := .type "range_iterator", data := .fields #[rawInt 0, rawInt (Builtin.Range.rangeSize 0 N 1), rawInt 1] }) (Walks.range hA.hd _ 0 1 N.toNat) (by
      have e1 : (0 + ((0 : Nat) : Int) * 1) = 0 := by simp
      have e2 : ((N.toNat : Int) - ((0 : Nat) : Int)) = Builtin.Range.rangeSize 0 N 1 := by rw [hsz]; simp
      show IsRangeIter _ _ (0 + ((0 : Nat) : Int) * 1) ((N.toNat : Int) - ((0 : Nat) : Int)) 1
      rw [e1, e2]
      exact Heap.get?_push_size _ rfl) (by simp [rangeD]) (fun b hb => nomatch hb) (fun i v d p q' => by
      obtain ⟨t, rfl⟩ := p
      simp only [rangeD, List.getElem?_map] at q'
      by_cases hi : i < N.toNat
      · rw [List.getElem?_range hi] at q'
        cases q'
        have : (0 : Int) + (i : Int) * 1 = (i : Int) := by omega
        rw [this]; exact .int _ _
      · rw [List.getElem?_eq_none (by simpa using hi)] at q'; cases q') (fun k s' v st => wpAny_pure rfl) (fun k h st => ⟨_, st⟩)
  obtain ⟨e3, wr, fr, it⟩ := I
  exact ⟨e1.trans (e2.trans e3), wr, fun b q => none_back (e1.trans e2).kp (fr b q), it⟩
theorem cl_addStr {x y : Str} (hz : x.length + y.length ≤ 16777216) : Cl w n (Bin .Add) [.str x, .str y] (.str (x ++ y)) := fun A X s vs _ _ _ r => by
  obtain ⟨v, u, rfl, a, b⟩ := r.two; cases a; cases b
  exact KXadd.add (Nat.le_refl _) (Nat.le_refl _) hz fun t' k _ => ⟨.tok, .str _ _⟩
theorem cl_lenStr {x : Str} (hz : x.length ≤ 16777216) : Cl w n (fun vs => call (.builtin "len") vs) [.str x] (.int x.length) := fun A X s vs _ _ _ r => by
  obtain ⟨v, rfl, a⟩ := r.one; cases a
  exact P.len_str (by omega) ⟨.tok, .int _ _⟩
theorem cl_lenTup {ds : List D} (hz : ds.length ≤ 16777216) : Cl w n (fun vs => call (.builtin "len") vs) [.tup ds] (.int ds.length) := fun A X s vs _ _ _ r => by
  obtain ⟨v, rfl, a⟩ := r.one
  obtain ⟨l, us, k, rfl, hX, hg, rs⟩ := tuple_of_rep a
  refine P.len_tuple (items := us.toArray) hg (by rw [List.size_toArray, rs.length]; omega) ⟨.tok, ?_⟩
  rw [List.size_toArray, rs.length]; exact .int _ _
theorem cl_lenLst {ds : List D} (hz : ds.length ≤ 16777216) : Cl w n (fun vs => call (.builtin "len") vs) [.lst ds] (.int ds.length) := fun A X s vs _ _ _ r => by
  obtain ⟨v, rfl, a⟩ := r.one
  obtain ⟨l, us, k, rfl, hX, hg, rs⟩ := list_of_rep a
  refine Calls.call_len_list (items := us.toArray) (isList_of hg) (by rw [List.size_toArray, rs.length]; omega) ⟨.tok, ?_⟩
  rw [List.size_toArray, rs.length]; exact .int _ _
theorem cl_addTup {xs ys : List D} (h1 : xs ≠ []) (h2 : ys ≠ []) (hz : xs.length + ys.length ≤ sizeLine) : Cl w n (Bin .Add) [.tup xs, .tup ys] (.tup (xs ++ ys)) := fun A X s vs _ _ ok r => by
  obtain ⟨v, u, rfl, a, b⟩ := r.two
  obtain ⟨l, us, k, rfl, hX, hg, rs⟩ := tuple_of_rep a
  obtain ⟨l', us', k', rfl, hX', hg', rs'⟩ := tuple_of_rep b
  have n1 : us ≠ [] := fun e => h1 (by subst e; have := rs.length; exact List.length_eq_zero_iff.mp this.symm)
  have n2 : us' ≠ [] := fun e => h2 (by subst e; have := rs'.length; exact List.length_eq_zero_iff.mp this.symm)
  refine P.add_tuple (items := us.toArray) (items2 := us'.toArray) hg hg' (by simpa using n1) (by simpa using n2) ⟨.push, ?_⟩ (by rw [List.size_toArray, List.size_toArray, rs.length, rs'.length]; exact hz)
  rw [List.append_toArray]
  exact Rep.newTuple ok (rs.append rs')
theorem cl_addLst {xs ys : List D} (hz : xs.length + ys.length ≤ sizeLine) : Cl w n (Bin .Add) [.lst xs, .lst ys] (.lst (xs ++ ys)) := fun A X s vs _ _ ok r => by
  obtain ⟨v, u, rfl, a, b⟩ := r.two
  obtain ⟨l, us, k, rfl, hX, hg, rs⟩ := list_of_rep a
  obtain ⟨l', us', k', rfl, hX', hg', rs'⟩ := list_of_rep b
  refine P.add_list (items := us.toArray) (items2 := us'.toArray) hg hg' ⟨.push, ?_⟩ (by rw [List.size_toArray, List.size_toArray, rs.length, rs'.length]; exact hz)
  rw [List.append_toArray]
  exact Rep.newList ok (rs.append rs')
theorem cl_addBytes {x y : Array UInt8} (hz : x.size + y.size ≤ 16777216) : Cl w n (Bin .Add) [.bytes x, .bytes y] (.bytes (x ++ y)) := fun A X s vs _ _ _ r => by
  obtain ⟨v, u, rfl, a, b⟩ := r.two; cases a; cases b
  exact KBy.add_bytes hz fun t' k => ⟨.tok, .bytes _ _⟩
/-- the texts of a list -/
theorem strs_of {X : Addr → Prop} {h : Heap} : ∀ {xs : List Str} {vs : List Value}, Reps w X h vs (xs.map D.str) → ∃ l : List (Str × Tok), vs = strValues l ∧ l.map (·.1) = xs
  | [], _, .nil => ⟨[], rfl, rfl⟩
  | x :: xs, _, .cons a r => by
    obtain ⟨l, e, f⟩ := strs_of r
    cases a with
    | str _ t => exact ⟨(x, t) :: l, by rw [e]; rfl, by simp [f]⟩
theorem cl_join {xs : List Str} (ok : JoinOk (Str.ofString "") xs = true) : Cl w n (fun vs => call (.builtin "str.join") vs) [.str (Str.ofString ""), .lst (xs.map D.str)] (.str (Txt.join (Str.ofString "") xs)) := fun A X s vs _ _ _ r => by
  obtain ⟨v, u, rfl, a, b⟩ := r.two
  cases a
  obtain ⟨l, us, k, rfl, hX, hg, rs⟩ := list_of_rep b
  obtain ⟨ll, rfl, e⟩ := strs_of rs
  exact SC.join (isList_of hg) e ok fun t' k => ⟨.tok, .str _ _⟩
theorem cl_lower {x : Str} (hfit : Builtin.Str.tooLong (Txt.lower x).length = false) : Cl w n (fun vs => call (.builtin "str.lower") vs) [.str x] (.str (Txt.lower x)) := fun A X s vs _ _ _ r => by
  obtain ⟨v, rfl, a⟩ := r.one; cases a
  exact SC.lower hfit ⟨.tok, .str _ _⟩
theorem cl_imapGet {k : Int} {f : Int → Option Str} : Cl w n (fun vs => call (.builtin "dict.get") vs) [.imap f, .int k] (match f k with | some x => .str x | Option.none => .none) := fun A X s vs _ _ _ r => by
  obtain ⟨v, u, rfl, a, b⟩ := r.two
  cases b with
  | int _ t =>
  cases a with
  | @imap d g _ hS hX hm hn hs =>
    refine call_meetsIn F.slot_dict_get hm.typeIs F.entry_dict_get (F.args_dict_get_2 _ _) (meets_dict_get (intKind pw w) d (intKind_is _ _ k t) hS) ⟨g, hm, ?_⟩
    refine ⟨.tok, ?_⟩
    cases hf : f k with
    | none => rw [hn k hf]; exact .none
    | some x => obtain ⟨t, e⟩ := hs k x hf; rw [e]; exact .str _ _
theorem val_at {K : Type} [DecidableEq K] [BEq K] [LawfulBEq K] {X : Addr → Prop} {h : Heap} {k : K} : ∀ {us : List (K × Value)} {kvs : List (K × D)}, us.map (·.1) = kvs.map (·.1) → Reps w X h (us.map (·.2)) (kvs.map (·.2)) →
    (kvs.lookup k = Option.none ∧ valueAt us k = Option.none) ∨ ∃ d v, kvs.lookup k = some d ∧ valueAt us k = some v ∧ Rep w X h v d
  | [], [], _, _ => .inl ⟨rfl, rfl⟩
  | [], _ :: _, e, _ => nomatch e
  | _ :: _, [], e, _ => nomatch e
  | (a, v) :: us, (b, d) :: kvs, e, .cons r rs => by
    simp only [List.map_cons, List.cons.injEq] at e
    obtain ⟨rfl, e⟩ := e
    rw [List.lookup_cons]
    unfold valueAt
    rw [List.find?_cons]
    by_cases hk : a = k
    · subst hk
      simp only [beq_self_eq_true, decide_true, Option.map_some]
      exact .inr ⟨d, v, rfl, rfl, r⟩
    · have h1 : (k == a) = false := by simpa using fun q => hk q.symm
      simp only [h1, hk, decide_false]
      exact val_at e rs
theorem cl_sdGet {k : Str} {kvs : List (Str × D)} {d : D} : Cl w n (fun vs => call (.builtin "dict.get") vs) [.sd kvs, .str k, d] ((kvs.lookup k).getD d) := fun A X s vs _ _ _ r => by
  cases r with | cons a r => cases r with | cons b r => cases r with | cons c r => cases r with | nil =>
  cases b with
  | str _ t =>
  cases a with
  | @sd l us _ hS hX hd e rs =>
    refine call_meetsIn F.slot_dict_get hd.typeIs F.entry_dict_get (F.args_dict_get_3 _ _ _) (meets_dict_get_default (PySem.strKind pw w) l (strKind_is _ _ k t) hS _) ⟨valueAt us, hd.mapOf, ?_⟩
    refine ⟨.tok, ?_⟩
    rcases val_at (k := k) e rs with ⟨h1, h2⟩ | ⟨d', v', h1, h2, r'⟩
    · rw [h1, h2]; exact c
    · rw [h1, h2]; exact r'
theorem get_sd {k : Str} {kvs : List (Str × D)} {d : D} (hk : kvs.lookup k = some d) : Cl w n GetI [.sd kvs, .str k] d := fun A X s vs _ _ _ r => by
  obtain ⟨v, u, rfl, a, b⟩ := r.two
  cases b with
  | str _ t =>
  cases a with
  | @sd l us _ hS hX hd e rs =>
    rcases val_at (k := k) e rs with ⟨h1, h2⟩ | ⟨d', v', h1, h2, r'⟩
    · rw [hk] at h1; cases h1
    · rw [hk] at h1; cases h1
      exact wpAny_getItem_of (knd := PySem.strKind pw w) (strKind_is _ _ k t) hd.mapOf h2 ⟨.tok, r'⟩
theorem get_idt {k : Int} {kvs : List (Int × D)} {d : D} (hk : kvs.lookup k = some d) : Cl w n GetI [.idt kvs, .int k] d := fun A X s vs _ _ _ r => by
  obtain ⟨v, u, rfl, a, b⟩ := r.two
  cases b with
  | int _ t =>
  cases a with
  | @idt l us _ hS hX hd e rs =>
    rcases val_at (k := k) e rs with ⟨h1, h2⟩ | ⟨d', v', h1, h2, r'⟩
    · rw [hk] at h1; cases h1
    · rw [hk] at h1; cases h1
      exact wpAny_getItem_of (knd := intKind pw w) (intKind_is _ _ k t) hd.mapOf h2 ⟨.tok, r'⟩
end
end
end Mine
set_option maxRecDepth 100000
set_option Elab.async false
set_option linter.unusedVariables false
namespace Mine
open PySem PySem.W PySem.Calls PyProof.Rows
noncomputable section
mutual
noncomputable def dP : D → PyData
  | .bool b => .bool b
  | .int i => .int i
  | .str x => .str x
  | .tup ds => .tuple (dPs ds)
  | .lst ds => .list (dPs ds)
  | _ => .none
noncomputable def dPs : List D → List PyData
  | [] => []
  | d :: ds => dP d :: dPs ds
end
mutual
noncomputable def dOk : D → Bool
  | .none => true
  | .bool _ => true
  | .int _ => true
  | .str _ => true
  | .tup ds => dOks ds
  | .lst ds => dOks ds
  | _ => false
noncomputable def dOks : List D → Bool
  | [] => true
  | d :: ds => dOk d && dOks ds
end
section
variable {w : World} {n : Nat} {sc st : Scope} {ρ : Rho} {X : Addr → Prop} {h : Heap}
mutual
theorem Rep.reads : ∀ {v : Value} {d : D}, Rep w X h v d → dOk d = true → ∃ as, Reads h v (dP d) as
  | _, _, .none, _ => ⟨_, by rw [dP]; exact Reads.none; all_goals (intros; contradiction)⟩
  | _, _, .bool b, _ => ⟨_, by rw [dP]; exact Reads.bool b⟩
  | _, _, .int i t, _ => ⟨_, by rw [dP]; exact Reads.int i t⟩
  | _, _, .str x t, _ => ⟨_, by rw [dP]; exact Reads.str x t⟩
  | _, _, .bytes b t, hk => by simp [dOk] at hk
  | _, _, .ty T, hk => by simp [dOk] at hk
  | _, _, .tup hX hg r, hk => by
    rw [dOk] at hk
    obtain ⟨as, q⟩ := Reps.reads r hk
    rw [dP]
    exact ⟨as, reads_tuple_at hg rfl rfl (by simpa using q)⟩
  | _, _, .lst hX hg r, hk => by
    rw [dOk] at hk
    obtain ⟨as, q⟩ := Reps.reads r hk
    rw [dP]
    exact ⟨_, reads_list_at hg rfl rfl (by simpa using q)⟩
  | _, _, .wl _ _ _ _ _, hk => by simp [dOk] at hk
  | _, _, .sd _ _ _ _ _, hk => by simp [dOk] at hk
  | _, _, .idt _ _ _ _ _, hk => by simp [dOk] at hk
  | _, _, .iset _ _, hk => by simp [dOk] at hk
  | _, _, .imap _ _ _ _ _, hk => by simp [dOk] at hk
  | _, _, .own _, hk => by simp [dOk] at hk
theorem Reps.reads : ∀ {vs : List Value} {ds : List D}, Reps w X h vs ds → dOks ds = true → ∃ as, ReadsAll h vs (dPs ds) as
  | _, _, .nil, _ => ⟨_, by rw [dPs]; exact ReadsAll.nil⟩
  | _, _, .cons a r, hk => by
    rw [dOks, Bool.and_eq_true] at hk
    obtain ⟨as, q⟩ := Rep.reads a hk.1
    obtain ⟨bs, p⟩ := Reps.reads r hk.2
    rw [dPs]
    exact ⟨_, ReadsAll.cons q p⟩
end
theorem units_ok {A : Around} (hA : AOk n A) : A.units + 64 < cLine := by
  have := hA.un
  have e : (9900 : Nat) ≤ cLine := by decide
  omega
open SeqAt in
theorem cl_eqD {a b : D} (ha : dOk a = true) (hb : dOk b = true) (sa : SeqAt.shaped (dP a) = true) (sb : SeqAt.shaped (dP b) = true) : Cl w n (Cmp .Eq) [a, b] (.bool (PyData.eqv (dP a) (dP b))) := fun A X s vs hA _ _ r => by
  obtain ⟨v, u, rfl, x, y⟩ := r.two
  obtain ⟨as, ra⟩ := x.reads ha
  obtain ⟨bs, rb⟩ := y.reads hb
  exact eq_dataH ra rb sa sb (units_ok hA) ⟨.refl, .bool _⟩
theorem cl_neD {a b : D} (ha : dOk a = true) (hb : dOk b = true) (sa : SeqAt.shaped (dP a) = true) (sb : SeqAt.shaped (dP b) = true) : Cl w n (Cmp .NotEq) [a, b] (.bool (!PyData.eqv (dP a) (dP b))) := fun A X s vs hA _ _ r => by
  obtain ⟨v, u, rfl, x, y⟩ := r.two
  obtain ⟨as, ra⟩ := x.reads ha
  obtain ⟨bs, rb⟩ := y.reads hb
  exact ne_dataH ra rb sa sb (units_ok hA) ⟨.refl, .bool _⟩
theorem cl_notInD {d : D} {ds : List D} (hd : dOk d = true) (hs : dOks ds = true) (l1 : PyData.canLayAll0 (dPs ds) = true) (l2 : (dP d).canLay0 = true) (dp : (dP d).depth ≤ 64) : Cl w n (Cmp .NotIn) [d, .lst ds] (.bool (!(dPs ds).any fun y => PyData.eqv y (dP d))) := fun A X s vs hA _ _ r => by
  obtain ⟨v, u, rfl, x, y⟩ := r.two
  obtain ⟨as, ra⟩ := x.reads hd
  obtain ⟨bs, rb⟩ := y.reads (by rw [dOk]; exact hs)
  rw [dP] at rb
  refine SeqAt.notIn_list_reads rb ra l1 l2 ?_ ⟨.refl, .bool _⟩
  have := units_ok hA
  have hu := hA.un
  have e : (9900 : Nat) ≤ cLine := by decide
  have := Nat.min_le_right (PyData.depthAll (dPs ds)) (dP d).depth
  omega
theorem cl_eqBytes {a b : Array UInt8} : Cl w n (Cmp .Eq) [.bytes a, .bytes b] (.bool (a.toList == b.toList)) := fun A X s vs hA _ _ r => by
  obtain ⟨t, u, rfl⟩ := r.bytes2; exact eq_bytes ⟨.refl, .bool _⟩
theorem cl_neBytes {a b : Array UInt8} : Cl w n (Cmp .NotEq) [.bytes a, .bytes b] (.bool (a.toList != b.toList)) := fun A X s vs hA _ _ r => by
  obtain ⟨t, u, rfl⟩ := r.bytes2; exact ne_bytes ⟨.refl, .bool _⟩
theorem cl_ge {a b : Int} : Cl w n (Cmp .GtE) [.int a, .int b] (.bool (decide (a ≥ b))) := fun A X s vs _ _ _ r => by
  obtain ⟨t, u, rfl⟩ := r.ints2; exact ge_int ⟨.refl, .bool _⟩
theorem cl_le {a b : Int} : Cl w n (Cmp .LtE) [.int a, .int b] (.bool (decide (a ≤ b))) := fun A X s vs _ _ _ r => by
  obtain ⟨t, u, rfl⟩ := r.ints2; exact le_int ⟨.refl, .bool _⟩
theorem cl_floordiv {a b : Int} (hb : b ≠ 0) (hp : Builtin.divisionGoesByPylong a b = false) : Cl w n (Bin .FloorDiv) [.int a, .int b] (.int (a.fdiv b)) := fun A X s vs _ _ _ r => by
  obtain ⟨t, u, rfl⟩ := r.ints2; exact floordiv_int hb ⟨.tok, .int _ _⟩ (.inl hp)
theorem cl_mul {a b : Int} (hm : IntMulOk a b) : Cl w n (Bin .Mult) [.int a, .int b] (.int (a * b)) := fun A X s vs _ _ _ r => by
  obtain ⟨t, u, rfl⟩ := r.ints2; exact mul_int ⟨.tok, .int _ _⟩ hm
theorem cl_pow {a b : Int} (hn : 0 ≤ b) (hn2 : b ≤ 1000000) (ha : a.natAbs < 2 ^ 64) : Cl w n (Bin .Pow) [.int a, .int b] (.int (a ^ b.toNat)) := fun A X s vs _ _ _ r => by
  obtain ⟨t, u, rfl⟩ := r.ints2; exact pow_int_small hn hn2 ha ⟨.tok, .int _ _⟩
theorem cl_abs {a : Int} : Cl w n (fun vs => call (.builtin "abs") vs) [.int a] (.int (if a < 0 then -a else a)) := fun A X s vs _ _ _ r => by
  obtain ⟨v, rfl, x⟩ := r.one; cases x; exact call_abs_int fun u tk => ⟨.tok, .int _ _⟩
theorem cl_intInt {a : Int} : Cl w n (fun vs => call (.type "int") vs) [.int a] (.int a) := fun A X s vs _ _ _ r => by
  obtain ⟨v, rfl, x⟩ := r.one; cases x; exact call_int_int ⟨.refl, .int _ _⟩
theorem cl_divmod {a b : Int} (hb : b ≠ 0) (hp : Builtin.divisionGoesByPylong a b = false) : Cl w n (fun vs => call (.builtin "divmod") vs) [.int a, .int b] (.tup [.int (a.fdiv b), .int (a.fmod b)]) := fun A X s vs _ _ ok r => by
  obtain ⟨v, u, rfl, x, y⟩ := r.two; cases x; cases y
  refine divmod_int hb ⟨.push, ?_⟩ (.inl hp)
  exact Rep.newTuple (vs := [_, _]) ok (.cons (.int _ _) (.cons (.int _ _) .nil))
theorem cl_isBytes {b : Array UInt8} : Cl w n (fun vs => call (.builtin "isinstance") vs) [.bytes b, .ty "bytes"] (.bool true) := fun A X s vs _ _ _ r => by
  obtain ⟨v, u, rfl, x, y⟩ := r.two; cases x; cases y
  exact call_isinstance (isinstance_true (Tx := "bytes") F.isi_meta_bytes (by rw [isSubtype_type]; kernel_rfl)) ⟨rfl, .refl, .bool _⟩
theorem Ev.btype {id : Str} {p : Pos} {T : String} (hk : sc.names.lookup id = some .globalImplicit) (hid : ∀ P, nsFind (o3es P) id = Option.none) (hb : ∀ P, nsFind (o0es P) id = some (.type T)) (hd : (id == ("__debug__" : Str)) = false := by decide +kernel) :
    Ev w n sc ρ (.Name id p) (.ty T) := fun A env X s he hA S => by
  subst he
  refine Name_function_global S.kind hk ?_ hd
  exact loadGlobal_builtin (mg := nsFind (o3es w.params)) (mb := nsFind (o0es w.params)) (by rw [S.glob]; exact ns3_of S.base) (hid w.params) (by rw [S.blt]; exact ns0_of S.base) (hb w.params) ⟨.refl, .ty T⟩
theorem cl_isTrue {a b : D} : True := trivial
/-- slices -/
noncomputable def pick {α : Type} (xs : List α) (lo hi st : Option Int) : List α := (sliceRange (sliceBounds lo hi st xs.length).1 (sliceBounds lo hi st xs.length).2.1 (sliceBounds lo hi st xs.length).2.2).filterMap (xs[·]?)
theorem Reps.pickIdx {vs : List Value} {ds : List D} (r : Reps w X h vs ds) : ∀ l : List Nat, Reps w X h (l.filterMap (vs[·]?)) (l.filterMap (ds[·]?))
  | [] => .nil
  | i :: l => by
    have ih := Reps.pickIdx r l
    rw [List.filterMap_cons, List.filterMap_cons]
    cases hd : ds[i]? with
    | none =>
      have : vs[i]? = Option.none := by
        rw [List.getElem?_eq_none_iff] at hd ⊢; rw [r.length]; exact hd
      rw [this]; exact ih
    | some d =>
      obtain ⟨v, hv, rv⟩ := r.get hd
      rw [hv]; exact .cons rv ih
inductive PartD : D → Option Int → Prop
  | none : PartD .none Option.none
  | int (i : Int) : PartD (.int i) (some i)
theorem PartD.is {v : Value} {d : D} {o : Option Int} (p : PartD d o) (r : Rep w X h v d) : IsPart v o := by
  cases p <;> cases r
  · exact .none
  · exact .int _ _
/-- a slice's item -/
noncomputable def GetS (w : World) (n : Nat) (a : D) (lo hi st : Option Int) (d : D) : Prop :=
  ∀ A X s v sl vl vu vs, AOk n A → Base w s.heap → XOk w X s.heap → Rep w X s.heap v a → s.heap.IsSliceOf sl vl vu vs → IsPart vl lo → IsPart vu hi → IsPart vs st →
    wpAny (model pw w) A (getItem v (.ref sl)) (fun u s' => Ext s s' ∧ Rep w X s'.heap u d) No s
noncomputable def PartE (w : World) (n : Nat) (sc : Scope) (ρ : Rho) (e : Option Expr) (o : Option Int) : Prop := ∃ d, PartD d o ∧ Tr w n sc ρ (fun env => evalPart e env) d
theorem PartE.none : PartE w n sc ρ Option.none Option.none := ⟨.none, .none, fun A env X s _ _ _ => wpAny_pure ⟨.refl, .none⟩⟩
theorem PartE.int {e : Expr} {i : Int} (h : Ev w n sc ρ e (.int i)) : PartE w n sc ρ (some e) (some i) := ⟨.int i, .int i, h⟩
theorem Ev.slice {x : Str} {xp p pos : Pos} {lo hi : Option Expr} {l u : Option Int} {a d : D} {T id : String} (hv : Ev w n sc ρ (.Name x xp) a) (h1 : PartE w n sc ρ lo l) (h2 : PartE w n sc ρ hi u)
    (hl : typeLookup (.type T) "__getitem__" = pure (some (.builtin id))) (hT : ∀ (X : Addr → Prop) (s : Shared) (v : Value), Rep w X s.heap v a → s.TypeIs v T) (hf : GetS w n a l u Option.none d) : Ev w n sc ρ (.Subscript (.Name x xp) (.Slice lo hi Option.none p) pos) d := fun A env X s he hA S => by
  obtain ⟨d1, p1, t1⟩ := h1
  obtain ⟨d2, p2, t2⟩ := h2
  refine wpAny_Subscript_Slice hl (wpAny_mono (hv A env X s he hA S) (fun o s₁ k₁ => wpAny_Slice (wpAny_mono (t1 A env X s₁ he hA (S.ext k₁.1)) (fun vl s₂ k₂ => wpAny_mono (t2 A env X s₂ he hA ((S.ext k₁.1).ext k₂.1)) (fun vu s₃ k₃ => ?_) fun _ _ x => x) fun _ _ x => x)) fun _ _ x => x)
  rw [evalPart_none]
  refine wpAny_pure ?_
  have S3 := ((S.ext k₁.1).ext k₂.1).ext k₃.1
  generalize hs4 : ({ s₃ with heap := s₃.heap.push { cls := .type "slice", data := .fields #[vl, vu, .none] } } : Shared) = s4
  have e4 : Ext s₃ s4 := by rw [← hs4]; exact .push
  have r4 := ((k₁.2.ext k₂.1).ext k₃.1).ext e4
  refine ⟨hT X s4 o r4, wpAny_mono (hf A X s4 o _ vl vu .none hA (S3.ext e4).base (S3.ext e4).xok r4 (by rw [← hs4]; exact Heap.IsSliceOf.new _ _ _ _) (p1.is k₂.2) (p2.is k₃.2) .none) (fun v s5 k5 => ⟨(((k₁.1.trans k₂.1).trans k₃.1).trans e4).trans k5.1, k5.2⟩) fun _ _ x => x⟩
theorem Ev.slice3 {x : Str} {xp p pos : Pos} {lo hi : Option Expr} {se : Expr} {l u st : Option Int} {a d : D} {T id : String} (hv : Ev w n sc ρ (.Name x xp) a) (h1 : PartE w n sc ρ lo l) (h2 : PartE w n sc ρ hi u) (h3 : PartE w n sc ρ (some se) st)
    (hl : typeLookup (.type T) "__getitem__" = pure (some (.builtin id))) (hT : ∀ (X : Addr → Prop) (s : Shared) (v : Value), Rep w X s.heap v a → s.TypeIs v T) (hf : GetS w n a l u st d) : Ev w n sc ρ (.Subscript (.Name x xp) (.Slice lo hi (some se) p) pos) d := fun A env X s he hA S => by
  obtain ⟨d1, p1, t1⟩ := h1
  obtain ⟨d2, p2, t2⟩ := h2
  obtain ⟨d3, p3, t3⟩ := h3
  refine wpAny_Subscript_Slice_step hl (wpAny_mono (hv A env X s he hA S) (fun o s₁ k₁ => wpAny_Slice (wpAny_mono (t1 A env X s₁ he hA (S.ext k₁.1)) (fun vl s₂ k₂ => wpAny_mono (t2 A env X s₂ he hA ((S.ext k₁.1).ext k₂.1)) (fun vu s₃ k₃ =>
    wpAny_mono (t3 A env X s₃ he hA (((S.ext k₁.1).ext k₂.1).ext k₃.1)) (fun vs s₄ k₄ => ?_) fun _ _ x => x) fun _ _ x => x) fun _ _ x => x)) fun _ _ x => x)
  have S4 := (((S.ext k₁.1).ext k₂.1).ext k₃.1).ext k₄.1
  generalize hs5 : ({ s₄ with heap := s₄.heap.push { cls := .type "slice", data := .fields #[vl, vu, vs] } } : Shared) = s5
  have e5 : Ext s₄ s5 := by rw [← hs5]; exact .push
  have r5 := (((k₁.2.ext k₂.1).ext k₃.1).ext k₄.1).ext e5
  refine ⟨hT X s5 o r5, wpAny_mono (hf A X s5 o _ vl vu vs hA (S4.ext e5).base (S4.ext e5).xok r5 (by rw [← hs5]; exact Heap.IsSliceOf.new _ _ _ _) (p1.is k₂.2) (p2.is k₃.2) (p3.is k₄.2)) (fun v s6 k6 => ⟨((((k₁.1.trans k₂.1).trans k₃.1).trans k₄.1).trans e5).trans k6.1, k6.2⟩) fun _ _ x => x⟩
theorem getS_lst {ds : List D} {lo hi st : Option Int} (h0 : st ≠ some 0) (hz : ds.length ≤ sizeLine) : GetS w n (.lst ds) lo hi st (.lst (pick ds lo hi st)) := fun A X s v sl vl vu vs hA B ok r hs p1 p2 p3 => by
  obtain ⟨l, us, k, rfl, hX, hg, rs⟩ := list_of_rep r
  refine wpAny_getItem_list_slice (isList_of hg) hs p1 p2 p3 h0 ⟨.push, ?_⟩ (by rw [List.size_toArray, rs.length]; exact hz)
  unfold slicePick
  refine Rep.newList ok ?_
  rw [List.size_toArray, rs.length]
  have := rs.pickIdx (sliceRange (sliceBounds lo hi st ds.length).1 (sliceBounds lo hi st ds.length).2.1 (sliceBounds lo hi st ds.length).2.2)
  simpa [pick] using this
theorem getS_wl {ds : List D} {lo hi st : Option Int} (h0 : st ≠ some 0) (hz : ds.length ≤ sizeLine) : GetS w n (.wl ds) lo hi st (.lst (pick ds lo hi st)) := fun A X s v sl vl vu vs hA B ok r hs p1 p2 p3 => by
  cases r with
  | @wl l o us k _ hX hg hc hd rs =>
  refine wpAny_getItem_list_slice (items := us.toArray) ⟨o, hg, hc, k, hd⟩ hs p1 p2 p3 h0 ⟨.push, ?_⟩ (by rw [List.size_toArray, rs.length]; exact hz)
  unfold slicePick
  refine Rep.newList ok ?_
  rw [List.size_toArray, rs.length]
  have := rs.pickIdx (sliceRange (sliceBounds lo hi st ds.length).1 (sliceBounds lo hi st ds.length).2.1 (sliceBounds lo hi st ds.length).2.2)
  simpa [pick] using this
theorem getS_bytes {b : Array UInt8} {lo hi : Option Int} (hz : b.size ≤ 16777216) : GetS w n (.bytes b) lo hi Option.none (.bytes (KBy.picked b lo hi)) := fun A X s v sl vl vu vs hA B ok r hs p1 p2 p3 => by
  cases r with
  | bytes _ t =>
  cases p3
  exact getItem_meets (typeIs_bytes s b t) (by decide) FB.slot_bytes_getitem FB.entry_bytes_getitem (FB.args_bytes_getitem_2 _ _) (KBc.meets_slice2 b t sl p1 p2) ⟨hs, Nat.le_trans (Nat.le_trans (KBc.size_picked_le _ _ _) hz) (by decide), fun t' k => ⟨.tok, .bytes _ _⟩⟩
theorem partTok {v : Value} {o : Option Int} (p : IsPart v o) : ∃ q : Option (Int × Tok), v = partValue q ∧ q.map (·.1) = o := by
  cases p with
  | none => exact ⟨Option.none, rfl, rfl⟩
  | int i t => exact ⟨some (i, t), rfl, rfl⟩
theorem getS_str {x : Str} {lo hi : Option Int} (hz : x.length ≤ 16777216) : GetS w n (.str x) lo hi Option.none (.str (Txt.slice x lo hi)) := fun A X s v sl vl vu vs hA B ok r hs p1 p2 p3 => by
  cases r with
  | str _ t =>
  cases p3
  obtain ⟨l, rfl, rfl⟩ := partTok p1
  obtain ⟨u, rfl, rfl⟩ := partTok p2
  refine wpAny_getItem_str_slice (l := l) (u := u) (st := Option.none) hs (by rfl) ?_
  have e : sliceMade x t l u Option.none = if ((1 : Int) == 1 && (Builtin.Str.strSliceIndices (l.map (·.1)) (u.map (·.1)) 1 x.length).length == x.length) = true then .val (.str x t) else .str ⟨((Builtin.Str.strSliceIndices (l.map (·.1)) (u.map (·.1)) 1 x.length).filterMap (x.cps[·]?)).toArray⟩ := rfl
  have hle := Txt.slice_le x (l.map (·.1)) (u.map (·.1))
  rw [e]
  unfold Txt.slice at hle ⊢
  by_cases hc : ((1 : Int) == 1 && (Builtin.Str.strSliceIndices (l.map (·.1)) (u.map (·.1)) 1 x.length).length == x.length) = true
  · rw [if_pos hc, if_pos hc]; exact ⟨.refl, .str _ _⟩
  · rw [if_neg hc] at hle ⊢
    rw [if_neg hc]
    exact ⟨Nat.le_trans hle (Nat.le_trans hz (by decide)), .tok, .str _ _⟩
end
end
end Mine
set_option maxRecDepth 100000
set_option Elab.async false
set_option linter.unusedVariables false
namespace Mine
open PySem PySem.W PySem.Calls PyProof.Rows
noncomputable section
noncomputable abbrev Sub (ρ₂ ρ₁ : Rho) : Prop := ∀ x d, ρ₂.lookup x = some d → ρ₁.lookup x = some d
theorem Sub.nil {ρ : Rho} : Sub [] ρ := fun _ _ h => nomatch h
theorem Sub.cons {y : Str} {e : D} {ρ₂ ρ₁ : Rho} (h : ρ₁.lookup y = some e) (k : Sub ρ₂ ρ₁) : Sub ((y, e) :: ρ₂) ρ₁ := fun x d q => by
  rw [List.lookup_cons] at q
  cases hb : x == y with
  | true => rw [hb] at q; cases q; rw [eq_of_beq hb]; exact h
  | false => rw [hb] at q; exact k x d q
local macro_rules | `(tactic| walk_at "lk") => `(tactic| first | exact lk_hit (by decide +kernel) | (refine lk_miss (by decide +kernel) ?_; walk_at "lk"))
local macro_rules | `(tactic| walk_at "sub") => `(tactic| first | exact Sub.nil | (refine Sub.cons (by walk_at "lk") ?_; walk_at "sub"))
local macro_rules | `(tactic| walk_at "st") => `(tactic| first | exact Or.inl (by decide +kernel) | exact Or.inr (by decide +kernel))
local macro_rules | `(tactic| walk_at "g") => `(tactic| first | decide +kernel | (intro P; kernel_rfl))
section
variable {w : World} {n : Nat}
theorem Ex.for' {sc st : Scope} {ρ ρf : Rho} {tgt iter : Expr} {body : List Stmt} {p : Pos} (ds : List D) (inv : Nat → Rho) (hf : inv ds.length = ρf) (hi : Itr w n sc ρ tgt iter ds) (h0 : Sub (inv 0) ρ)
    (turn : ∀ i d, ds[i]? = some d → ∃ ρ₁, As w n sc st (inv i) tgt d ρ₁ ∧ Exs w n sc st ρ₁ body (.nx (inv (i + 1)))) (hs : ∀ env x, foldedSetIterable iter env x = pure x := by intros; rfl) :
    Ex w n sc st ρ (.For tgt iter body [] p) (.nx ρf) := hf ▸ Ex.for inv hi h0 turn hs
theorem rangeD_get {N : Int} {i : Nat} {d : D} (h : (rangeD N)[i]? = some d) : d = .int (i : Int) ∧ i < N.toNat := by
  simp only [rangeD, List.getElem?_map] at h
  by_cases hi : i < N.toNat
  · rw [List.getElem?_range hi] at h
    exact ⟨(Option.some.inj h).symm, hi⟩
  · rw [List.getElem?_eq_none (by simpa using hi)] at h; cases h
theorem rangeD_length (N : Int) : (rangeD N).length = N.toNat := by simp [rangeD]
noncomputable def fact : Nat → Int
  | 0 => 1
  | k + 1 => fact k * ((k : Int) + 1)
theorem fn_product {m : Nat} (hm : m < 1000) : Fn w (n + 1) 141 [.int (m : Int)] (.int (fact m)) := by
  refine Fn.mk (o := o141f) (xs := [Str.ofString "number"]) (fun P => by kernel_rfl) (fun P => rfl) (fun P => ⟨140, o140f P, _, _, rfl, by kernel_rfl, rfl, rfl⟩) rfl rfl rfl rfl rfl ?_ (by decide +kernel) (by decide +kernel) (by decide +kernel) rfl ?_
  · exact all1 fun v => by kernel_rfl
  · refine Exs.cons (Ex.assign Ev.int (by walk_at "st") (by intros; rfl)) ?_
    refine Exs.cons (ρ' := [(Str.ofString "product", .int (fact m))]) (Ex.for' (rangeD (m : Int)) (fun i => [(Str.ofString "product", .int (fact i))]) (by rw [rangeD_length]; rfl)
      (Itr.range (by walk_at "g") (by walk_at "g") (by walk_at "g") (Ev.name (by walk_at "lk")) (by omega) (by omega)) (by walk_at "sub") (fun i d hd => ?_)) (Exs.last (Ex.ret (Ev.name (by walk_at "lk"))))
    obtain ⟨rfl, hi⟩ := rangeD_get hd
    refine ⟨_, As.name (by walk_at "st"), ?_⟩
    exact Stm.sub (Exs.cons (Ex.assign (Ev.binop (Ev.name (by walk_at "lk")) (Ev.binop (Ev.name (by walk_at "lk")) Ev.int cl_add) (cl_mul (IntMulOk.of_right (intBits_le_64 (by omega) (by omega))))) (by walk_at "st") (by intros; rfl)) Exs.nil) (by walk_at "sub")
end
end
end Mine
set_option maxRecDepth 100000
set_option Elab.async false
set_option linter.unusedVariables false
namespace Mine
open PySem PySem.W PySem.Calls PyProof.Rows
noncomputable section
local macro_rules | `(tactic| walk_at "lk") => `(tactic| first | exact lk_hit (by decide +kernel) | (refine lk_miss (by decide +kernel) ?_; walk_at "lk"))
local macro_rules | `(tactic| walk_at "sub") => `(tactic| first | exact Sub.nil | (refine Sub.cons (by walk_at "lk") ?_; walk_at "sub"))
local macro_rules | `(tactic| walk_at "st") => `(tactic| first | exact Or.inl (by decide +kernel) | exact Or.inr (by decide +kernel))
local macro_rules | `(tactic| walk_at "g") => `(tactic| first | decide +kernel | (intro P; kernel_rfl))
section
variable {w : World} {n : Nat}
theorem Ex.assignT {sc st : Scope} {ρ ρ' : Rho} {es : List Expr} {k : Nat} {tp pos : Pos} {e : Expr} {d : D} (h : Ev w n sc ρ e d) (ha : As w n sc st ρ (.Tuple es k tp) d ρ')
    (hs : ∀ env, swapsWithSole [.Tuple es k tp] e pos.line env = pure false := by intros; rfl) (hw : ∀ env, swappedStores [.Tuple es k tp] e env = pure Option.none := by intros; rfl) : Ex w n sc st ρ (.Assign [.Tuple es k tp] e pos) (.nx ρ') := fun A env O X s he hA S F =>
  Assign_Tuple (wpAny_mono (h A env X s he hA S) (fun v s₁ h₁ => wpAny_mono (ha A env O X s₁ v he hA (S.ext h₁.1) F h₁.2) (fun _ s₂ h₂ => ⟨h₁.1.b.trans h₂.1, rfl, h₂.2⟩) fun _ _ x => x) fun _ _ x => x) (hs env) (hw env)
noncomputable def hexv (xs : List Int) : Int := xs.foldl (fun a f => a * 16 + f) 0
theorem hexv_snoc (xs : List Int) (x : Int) : hexv (xs ++ [x]) = hexv xs * 16 + x := by simp [hexv]
theorem fn_sum {xs : List Int} : Fn w (n + 1) 107 [.lst (xs.map D.int)] (.int (hexv xs)) := by
  refine Fn.mk (o := o107d) (xs := [Str.ofString "figures"]) (fun P => by kernel_rfl) (fun P => rfl) (fun P => ⟨106, o106d P, _, _, rfl, by kernel_rfl, rfl, rfl⟩) rfl rfl rfl rfl rfl ?_ (by decide +kernel) (by decide +kernel) (by decide +kernel) rfl ?_
  · exact all1 fun v => by kernel_rfl
  · refine Exs.cons (Ex.assign Ev.int (by walk_at "st") (by intros; rfl)) ?_
    refine Exs.cons (ρ' := [(Str.ofString "number", .int (hexv xs))]) (Ex.for' (xs.map D.int) (fun i => [(Str.ofString "number", .int (hexv (xs.take i)))]) (by rw [List.length_map, List.take_length])
      (Itr.of (Ev.name (by walk_at "lk")) (Its.list PlainT.name)) (by walk_at "sub") (fun i d hd => ?_)) (Exs.last (Ex.ret (Ev.name (by walk_at "lk"))))
    rw [List.getElem?_map] at hd
    cases hx : xs[i]? with
    | none => rw [hx] at hd; cases hd
    | some x =>
      rw [hx] at hd; cases hd
      have e : hexv (xs.take (i + 1)) = hexv (xs.take i) * 16 + x := by rw [List.take_add_one, hx]; exact hexv_snoc _ _
      rw [e]
      refine ⟨_, As.name (by walk_at "st"), ?_⟩
      exact Stm.sub (Exs.cons (Ex.assign (Ev.binop (Ev.binop (Ev.name (by walk_at "lk")) Ev.int (cl_mul (IntMulOk.of_right (by decide +kernel)))) (Ev.name (by walk_at "lk")) cl_add) (by walk_at "st") (by intros; rfl)) Exs.nil) (by walk_at "sub")
noncomputable def apA : Array UInt8 := [65, 66, 67, 68, 69, 70, 71, 72, 73, 74, 75, 76, 77, 78, 79, 80].toArray
noncomputable def lowB (n : Nat) : Nat → List UInt8
  | 0 => []
  | i + 1 => UInt8.ofNat (65 + n / 16 ^ i % 16) :: lowB n i
noncomputable def dcF : Nat → Nat → Nat
  | 0, _ => 0
  | f + 1, n => if n = 0 then 0 else dcF f (n / 16) + 1
noncomputable def dc (n : Nat) : Nat := dcF n n
noncomputable def apB (n : Nat) : List UInt8 := lowB n (dc n)
theorem dcF_pos : ∀ (f n i : Nat), n ≤ f → i < dcF f n → n / 16 ^ i ≠ 0
  | 0, n, i, h, hi => by simp [dcF] at hi
  | f + 1, n, i, h, hi => by
    unfold dcF at hi
    split at hi
    · omega
    · rename_i hn
      cases i with
      | zero => simpa using hn
      | succ i =>
        have := dcF_pos f (n / 16) i (by omega) (by omega)
        rwa [Nat.div_div_eq_div_mul, ← Nat.pow_succ'] at this
theorem dcF_end : ∀ (f n : Nat), n ≤ f → n / 16 ^ dcF f n = 0
  | 0, n, h => by simp [dcF]; omega
  | f + 1, n, h => by
    unfold dcF
    split
    · rename_i hn; subst hn; simp
    · have := dcF_end f (n / 16) (by omega)
      rwa [Nat.div_div_eq_div_mul, ← Nat.pow_succ'] at this
theorem ap_pick : ∀ k : Fin 16, KBy.picked apA (some (k.val : Int)) (some ((k.val : Int) + 1)) = #[UInt8.ofNat (65 + k.val)] := by decide +kernel
theorem lowB_length (n : Nat) : ∀ i, (lowB n i).length = i
  | 0 => rfl
  | i + 1 => by simp [lowB, lowB_length n i]
theorem fn_ap {i : Int} (hz : dc i.natAbs ≤ 1000000) : Fn w (n + 1) 85 [.int i] (.bytes (apB i.natAbs).toArray) := by
  refine Fn.mk (o := o85d) (xs := [Str.ofString "num"]) (fun P => by kernel_rfl) (fun P => rfl) (fun P => ⟨84, o84d P, _, _, rfl, by kernel_rfl, rfl, rfl⟩) rfl rfl rfl rfl rfl ?_ (by decide +kernel) (by decide +kernel) (by decide +kernel) rfl ?_
  · exact all1 fun v => by kernel_rfl
  · generalize hn : i.natAbs = m at hz ⊢
    refine Exs.cons (Ex.assign Ev.bytes (by walk_at "st") (by intros; rfl)) ?_
    refine Exs.cons (Ex.assign Ev.bytes (by walk_at "st") (by intros; rfl)) ?_
    refine Exs.cons (Ex.assign (Ev.callT (by walk_at "g") (by walk_at "g") (by walk_at "g") (EvL.cons (Ev.callB (by walk_at "g") (by walk_at "g") (by walk_at "g") (EvL.cons (Ev.name (by walk_at "lk")) .nil) cl_abs) .nil) cl_intInt) (by walk_at "st") (by intros; rfl)) ?_
    have e0 : (if i < 0 then -i else i) = (m : Int) := by split <;> omega
    rw [e0]
    refine Exs.cons (ρ' := [(Str.ofString "val", .bytes (apB m).toArray)]) ?_ (Exs.last (Ex.ret (Ev.name (by walk_at "lk"))))
    refine Stm.sub (Ex.while (fun i => [(Str.ofString "num", .int ((m / 16 ^ i : Nat) : Int)), (Str.ofString "AP", .bytes apA), (Str.ofString "val", .bytes (lowB m i).toArray)]) (dc m) (by show Sub _ _; rw [show m / 16 ^ 0 = m by simp]; walk_at "sub") (fun i hi => ⟨?_, ?_⟩) ?_) (by show Sub _ _; unfold apB; walk_at "sub")
    · have h1 := dcF_pos m m i (Nat.le_refl _) hi
      have h2 : (((m / 16 ^ i : Nat) : Int) != 0) = true := by simp only [bne_iff_ne, ne_eq]; omega
      exact h2 ▸ Ts.int (Ev.name (by walk_at "lk"))
    · have q1 : ((m / 16 ^ i : Nat) : Int).fdiv 16 = ((m / 16 ^ (i + 1) : Nat) : Int) := by
        rw [Int.fdiv_eq_ediv_of_nonneg _ (by decide), Nat.pow_succ, ← Nat.div_div_eq_div_mul]; omega
      have q2 : ((m / 16 ^ i : Nat) : Int).fmod 16 = ((m / 16 ^ i % 16 : Nat) : Int) := by
        rw [Int.fmod_eq_emod_of_nonneg _ (by decide)]; omega
      have q3 := ap_pick ⟨m / 16 ^ i % 16, Nat.mod_lt _ (by decide)⟩
      dsimp only at q3
      refine Stm.sub (Exs.cons (Ex.assignT (Ev.callB (by walk_at "g") (by walk_at "g") (by walk_at "g") (EvL.cons (Ev.name (by walk_at "lk")) (EvL.cons Ev.int .nil)) (cl_divmod (by decide) (PyProof.noPylong_small (by decide)))) (As.pair (by walk_at "st") (by walk_at "st")))
        (Exs.cons (Ex.assign (Ev.binop (Ev.slice (Ev.name (by walk_at "lk")) (PartE.int (Ev.name (by walk_at "lk"))) (PartE.int (Ev.binop (Ev.name (by walk_at "lk")) Ev.int cl_add)) FB.slot_bytes_getitem.lookup (fun X s v r => by cases r; exact typeIs_bytes _ _ _) (getS_bytes (by decide +kernel))) (Ev.name (by walk_at "lk")) (cl_addBytes ?_)) (by walk_at "st") (by intros; rfl)) Exs.nil)) ?_
      · rw [q2, q3]; simp [lowB_length]; have : i < 1000000 := by omega
        omega
      · show Sub _ _
        rw [q1, q2, q3]
        refine Sub.cons (by walk_at "lk") (Sub.cons (by walk_at "lk") (Sub.cons ?_ .nil))
        have : (#[UInt8.ofNat (65 + m / 16 ^ i % 16)] ++ (lowB m i).toArray : Array UInt8) = (lowB m (i + 1)).toArray := by
          apply Array.toList_inj.mp; simp [lowB]
        rw [this]; walk_at "lk"
    · have h1 := dcF_end m m (Nat.le_refl _)
      have h2 : (((m / 16 ^ dc m : Nat) : Int) != 0) = false := by unfold dc; rw [h1]; rfl
      exact h2 ▸ Ts.int (Ev.name (by walk_at "lk"))
end
end
end Mine
set_option maxRecDepth 100000
set_option Elab.async false
set_option linter.unusedVariables false
namespace Mine
open PySem PySem.W PySem.Calls PyProof.Rows
noncomputable section
local macro_rules | `(tactic| walk_at "lk") => `(tactic| first | exact lk_hit (by decide +kernel) | (refine lk_miss (by decide +kernel) ?_; walk_at "lk"))
local macro_rules | `(tactic| walk_at "sub") => `(tactic| first | exact Sub.nil | (refine Sub.cons (by walk_at "lk") ?_; walk_at "sub"))
local macro_rules | `(tactic| walk_at "st") => `(tactic| first | exact Or.inl (by decide +kernel) | exact Or.inr (by decide +kernel))
local macro_rules | `(tactic| walk_at "g") => `(tactic| first | decide +kernel | (intro P; kernel_rfl))
section
variable {w : World} {n : Nat} {sc st : Scope} {ρ : Rho}
theorem Ev.and {e₁ e₂ : Expr} {r : List Expr} {pos : Pos} {d : D} (h : Ev w n sc ρ e₁ (.bool true)) (k : Ev w n sc ρ (.BoolOp .And (e₂ :: r) pos) d) : Ev w n sc ρ (.BoolOp .And (e₁ :: e₂ :: r) pos) d := fun A env X s he hA S =>
  BoolOp_and (wpAny_mono (h A env X s he hA S) (fun v s₁ h₁ => by
    obtain ⟨e, r⟩ := h₁
    cases r
    exact wpAny_truthy_bool (wpAny_mono (k A env X s₁ he hA (S.ext e)) (fun v s₂ h₂ => ⟨e.trans h₂.1, h₂.2⟩) fun _ _ x => x)) fun _ _ x => x)
theorem Ev.and1 {op : BoolOp} {e : Expr} {pos : Pos} {d : D} (h : Ev w n sc ρ e d) : Ev w n sc ρ (.BoolOp op [e] pos) d := fun A env X s he hA S => BoolOp_one (h A env X s he hA S)
theorem Ev.comp' {elt tgt iter : Expr} {ifs : List Expr} {gens : List Comprehension} {scope : Scope} {pos : Pos} {ds outs : List D} {ρ' : Rho} (hρ : inner scope ρ = ρ') (hi : Itr w n sc ρ tgt iter ds)
    (hc : Cq w n (relabS scope sc) scope (.ListComp elt (⟨tgt, iter, ifs, 0⟩ :: gens) scope pos) 0 tgt ρ' ds outs) (ok : compOk scope sc = true) (hz : outs.length ≤ sizeLine) (hs : ∀ env x, foldedSetIterable iter env x = pure x := by intros; rfl) :
    Ev w n sc ρ (.ListComp elt (⟨tgt, iter, ifs, 0⟩ :: gens) scope pos) (.lst outs) := Ev.comp ok hi (hρ ▸ hc) hz hs
/-- a comprehension of one clause, one name -/
theorem Cq.map {elt iter : Expr} {x : Str} {p : Pos} {ifs : List Expr} {scope : Scope} {pos : Pos} {ds outs : List D} (f : D → List D) (ho : ds.flatMap f = outs) (hx : Storable st x) (hsub : ∀ d, Sub ρ ((x, d) :: ρ))
    (h : ∀ d ∈ ds, ∃ b, Tq w n sc ((x, d) :: ρ) ifs b ∧ ((b = true ∧ ∃ y, f d = [y] ∧ Ev w n sc ((x, d) :: ρ) elt y) ∨ (b = false ∧ f d = []))) :
    Cq w n sc st (.ListComp elt [⟨.Name x p, iter, ifs, 0⟩] scope pos) 0 (.Name x p) ρ ds outs :=
  ho ▸ Cq.one (CT.of f fun d hd => by
    obtain ⟨b, ht, hb⟩ := h d hd
    refine ⟨_, b, As.name hx, hsub d, ht, ?_⟩
    rcases hb with ⟨hb, y, hf, hy⟩ | ⟨hb, hf⟩
    · exact .inl ⟨hb, hf ▸ Em.last hy⟩
    · exact .inr ⟨hb, hf⟩)
theorem flat1 {α β : Type} (f : α → β) : ∀ l : List α, l.flatMap (fun a => [f a]) = l.map f
  | [] => rfl
  | a :: l => by rw [List.flatMap_cons, flat1 f l]; rfl
noncomputable def unA (L : List UInt8) : List Int := L.map fun c => (c.toNat : Int) - 65
theorem fn_read {L : List UInt8} (h1 : ∀ c ∈ L, 65 ≤ c.toNat ∧ c.toNat ≤ 80) (h2 : L.take 1 ≠ [65]) (hz : L.length ≤ 1000000) : Fn w (n + 2) 112 [.bytes L.toArray] (.int (hexv (unA L))) := by
  refine Fn.mk (o := o112f) (xs := [Str.ofString "word"]) (fun P => by kernel_rfl) (fun P => rfl) (fun P => ⟨111, o111f P, _, _, rfl, by kernel_rfl, rfl, rfl⟩) rfl rfl rfl rfl rfl ?_ (by decide +kernel) (by decide +kernel) (by decide +kernel) rfl ?_
  · exact all1 fun v => by kernel_rfl
  · have e1 : ((KBy.picked L.toArray Option.none (some 1)).toList != [65].toArray.toList) = true := by
      rw [KBc.picked_eq]
      have : (L.toArray.toList.drop ((Option.none : Option Int).elim 0 (clipAt L.toArray.size))).take ((some (1 : Int)).elim L.toArray.size (clipAt L.toArray.size) - (Option.none : Option Int).elim 0 (clipAt L.toArray.size)) = L.take 1 := by
        show (L.drop 0).take (clipAt L.length ((1 : Nat) : Int) - 0) = _
        rw [clipAt_nat, List.drop_zero, Nat.sub_zero]
        cases L with
        | nil => rfl
        | cons a l => rw [List.length_cons, Nat.min_eq_left (by omega)]
      simp only [this]
      simpa using h2
    refine Exs.cons (ρ' := [(Str.ofString "good", .bool true), (Str.ofString "word", .bytes L.toArray)]) (Ex.assign (Ev.and (Ev.callB (by walk_at "g") (by walk_at "g") (by walk_at "g") (EvL.cons (Ev.name (by walk_at "lk")) (EvL.cons (Ev.btype (by walk_at "g") (by walk_at "g") (by walk_at "g")) .nil)) cl_isBytes)
      (Ev.and (e1 ▸ Ev.compare (Ev.slice (Ev.name (by walk_at "lk")) PartE.none (PartE.int Ev.int) FB.slot_bytes_getitem.lookup (fun X s v r => by cases r; exact typeIs_bytes _ _ _) (getS_bytes (by simp; omega))) Ev.bytes cl_neBytes)
      (Ev.and1 (Ev.compare (a := .lst []) (b := .lst []) ?_ (Ev.list .nil (by decide)) (cl_eqD (by decide) (by decide) (by decide) (by decide)))))) (by walk_at "st") (by intros; rfl)) (Exs.last (Ex.ret (Ev.ifT (Ts.value (Ev.name (by walk_at "lk")))
        (Ev.callF (by walk_at "g") (by walk_at "g") (fun P => ⟨o107d P, _, by kernel_rfl, rfl⟩) (EvL.cons (d := .lst ((unA L).map D.int)) ?_ .nil) fn_sum))))
    · refine Ev.comp' (ρ' := []) (by kernel_rfl) (Itr.of (Ev.name (by walk_at "lk")) Its.bytes) (Cq.map (fun _ => []) (by simp) (by walk_at "st") (fun d => Sub.nil) fun d hd => ?_) (by decide +kernel) (by decide)
      obtain ⟨c, hc, rfl⟩ := List.mem_map.mp hd
      have hc' := h1 c (by simpa using hc)
      refine ⟨false, Tq.one ?_, .inr ⟨rfl, rfl⟩⟩
      have q1 : decide ((c.toNat : Int) < 65) = false := by simp; omega
      have q2 : decide ((80 : Int) < (c.toNat : Int)) = false := by simp; omega
      exact Ts.or2 (a := false) (b := false) (q1 ▸ Ts.compare (Ev.name (by walk_at "lk")) Ev.int cl_lt) fun _ => q2 ▸ Ts.compare (Ev.name (by walk_at "lk")) Ev.int cl_gt
    · refine Ev.comp' (ρ' := []) (by kernel_rfl) (Itr.of (Ev.name (by walk_at "lk")) Its.bytes) (Cq.map (fun d => match d with | .int i => [.int (i - 65)] | _ => []) (by simp only [unA, List.flatMap_map, List.map_map]; exact flat1 (fun (c : UInt8) => D.int ((c.toNat : Int) - 65)) L) (by walk_at "st") (fun d => Sub.nil) fun d hd => ?_) (by decide +kernel) (by simp only [unA, List.length_map]; exact Nat.le_trans hz (by decide))
      obtain ⟨c, hc, rfl⟩ := List.mem_map.mp hd
      exact ⟨true, Tq.nil, .inl ⟨rfl, _, rfl, Ev.binop (Ev.name (by walk_at "lk")) Ev.int cl_sub⟩⟩
end
end
end Mine
set_option maxRecDepth 100000
set_option Elab.async false
set_option linter.unusedVariables false
namespace Mine
open PySem PySem.W PySem.Calls PyProof.Rows
noncomputable section
section
variable {w : World} {n : Nat}
noncomputable abbrev ik (w : World) := intKind pw w
inductive SKV : List (Int × Value) → List (Int × Str) → Prop
  | nil : SKV [] []
  | cons {k : Int} {x : Str} {t : Tok} {vs ps} : SKV vs ps → SKV ((k, .str x t) :: vs) ((k, x) :: ps)
theorem SKV.snoc {k : Int} {x : Str} {t : Tok} : ∀ {vs ps}, SKV vs ps → SKV (vs ++ [(k, .str x t)]) (ps ++ [(k, x)])
  | _, _, .nil => .cons .nil
  | _, _, .cons r => .cons (SKV.snoc r)
theorem SKV.keys : ∀ {vs ps}, SKV vs ps → vs.map (·.1) = ps.map (·.1)
  | _, _, .nil => rfl
  | _, _, .cons r => by simp [SKV.keys r]
theorem SKV.length {vs ps} (h : SKV vs ps) : vs.length = ps.length := by have := congrArg List.length h.keys; simpa using this
theorem stored_new {acc : List (Int × Value)} {k : Int} {v : Value} (h : k ∉ acc.map (·.1)) : stored acc k v = acc ++ [(k, v)] := by
  unfold stored
  rw [if_neg]
  rw [List.any_eq_true]
  rintro ⟨kv, hkv, e⟩
  exact h (List.mem_map.mpr ⟨kv, hkv, of_decide_eq_true e⟩)
/-- trees that give a number and a text -/
inductive KVs (w : World) (A : Around) : List (Sem Value × Sem Value) → List (Int × Str) → Prop
  | nil : KVs w A [] []
  | cons {kt vt : Sem Value} {i : Int} {x : Str} {r ps} : (∀ (Q : Value → Shared → Prop) (s : Shared), (∀ t k, Q (.int i t) { s with toks := k }) → wpAny (model pw w) A kt Q No s) → (∀ (Q : Value → Shared → Prop) (s : Shared), (∀ t k, Q (.str x t) { s with toks := k }) → wpAny (model pw w) A vt Q No s) →
      KVs w A r ps → KVs w A ((kt, vt) :: r) ((i, x) :: ps)
theorem KVs.length {A : Around} : ∀ {r ps}, KVs w A r ps → r.length = ps.length
  | _, _, .nil => rfl
  | _, _, .cons _ _ r => by simp [KVs.length r]
theorem KVs.append {A : Around} : ∀ {r ps r' ps'}, KVs w A r ps → KVs w A r' ps' → KVs w A (r ++ r') (ps ++ ps')
  | _, _, _, _, .nil, k => k
  | _, _, _, _, .cons a b r, k => .cons a b (KVs.append r k)
noncomputable def DAt (w : World) (s : Shared) (d : Addr) (ps : List (Int × Str)) : Prop := ∃ kvs, SKV kvs ps ∧ s.heap.DictOf (ik w) d kvs
theorem wp_evalPairs {A : Around} : ∀ {r ps} {s : Shared} {Q : List (Value × Value) → Shared → Prop}, KVs w A r ps → (∀ vs kvs k, SKV kvs ps → Carries (ik w) vs kvs → Q vs { s with toks := k }) → wpAny (model pw w) A (evalPairs r) Q No s
  | _, _, s, Q, .nil, h => evalPairs_nil (h [] [] s.toks .nil trivial)
  | _, _, s, Q, .cons a b r, h => evalPairs_cons (a _ _ fun t k => b _ _ fun u k' => wp_evalPairs r fun vs kvs k'' sk c => h _ _ k'' (.cons sk) ⟨intKind_is _ _ _ _, rfl, c⟩)
theorem merged_new : ∀ {more acc : List (Int × Value)}, ((acc ++ more).map (·.1)).Nodup → merged acc more = acc ++ more
  | [], acc, _ => by simp [merged]
  | (k, v) :: more, acc, h => by
    have h1 : k ∉ acc.map (·.1) := fun q => by
      rw [List.map_append, List.map_cons, List.nodup_append] at h
      exact h.2.2 k q k List.mem_cons_self rfl
    show merged (stored acc k v) more = _
    rw [stored_new h1, merged_new (by simpa using h)]
    simp
/-- the short or long making of one part -/
theorem wp_subDict {A : Around} {r : List (Sem Value × Sem Value)} {ps : List (Int × Str)} {s : Shared} {Q : Addr → Shared → Prop} (hk : KVs w A r ps) (hz : ps.length ≤ 1000) (nd : (ps.map (·.1)).Nodup)
    (hQ : ∀ s', Ext s s' → DAt w s' s.heap.objs.size ps → Q s.heap.objs.size s') : wpAny (model pw w) A (subDict r) Q No s := by
  unfold subDict
  refine wpAny_bind (wpAny_alloc (wpAny_bind (wpAny_holding ?_)))
  have hnew : (s.heap.push { cls := .type "dict", data := .dict #[] }).DictOf (ik w) s.heap.objs.size [] := Heap.DictOf.new _
  have fin : ∀ kvs h' tk, SKV kvs ps → h'.DictOf (ik w) s.heap.objs.size kvs → (∀ b o, s.heap.get? b = some o → h'.get? b = some o) → Q s.heap.objs.size { s with heap := h', toks := tk } := fun kvs h' tk sk hd kp => hQ _ ⟨⟨_, _, rfl⟩, kp⟩ ⟨kvs, sk, hd⟩
  have old : ∀ h', Heap.SameBut s.heap.objs.size (s.heap.push { cls := .type "dict", data := .dict #[] }) h' → ∀ b o, s.heap.get? b = some o → h'.get? b = some o := fun h' hs b o e => hs.extBut b o (Nat.ne_of_lt (Heap.lt_size e)) (Heap.get?_push_of_some _ e)
  by_cases hl : r.length ≤ 15
  · rw [if_pos hl]
    refine wpAny_bind (wp_evalPairs hk fun vs kvs k sk c => wpAny_holding ?_)
    have hkl := sk.length
    refine wpAny_bind (wpAny_storeAll (knd := ik w) vs kvs [] _ _ c hnew (by rw [sizeLine_eq, List.length_nil]; omega) fun h' hm' hs' => wpAny_pure (wpAny_pure (fin kvs h' _ sk ?_ (old h' hs'))))
    rwa [merged_new (by rw [List.nil_append, sk.keys]; exact nd), List.nil_append] at hm'
  · rw [if_neg hl]
    refine wpAny_bind (wpAny_rule ?_)
    refine wpAny_bind (wpAny_forIn_list _ (fun rest _ s' => ∃ done kvs psr h' tk, s' = { s with heap := h', toks := tk } ∧ KVs w A rest psr ∧ ps = done ++ psr ∧ SKV kvs done ∧ h'.DictOf (ik w) s.heap.objs.size kvs ∧ ∀ b o, s.heap.get? b = some o → h'.get? b = some o) _ ?_ ?_ r _
      ⟨[], [], ps, _, s.toks, rfl, hk, rfl, .nil, hnew, fun b o e => Heap.get?_push_of_some _ e⟩)
    · rintro ⟨kt, vt⟩ rest _ s' ⟨done, kvs, psr, h', tk, rfl, hk', rfl, sk, hd, kp⟩
      cases hk' with
      | @cons _ _ i x _ ps' a b r' =>
      refine wpAny_bind (a _ _ fun t k => wpAny_bind (wpAny_holding (b _ _ fun u k' => ?_)))
      have hn : i ∉ kvs.map (·.1) := fun q => by
        rw [sk.keys] at q
        rw [List.map_append, List.map_cons, List.nodup_append] at nd
        exact nd.2.2 i q i List.mem_cons_self rfl
      refine wpAny_bind (wpAny_holding (wpAny_dictSet_pairs (knd := ik w) (k := i) (intKind_is _ _ _ _) hd (fun h'' hm'' hs'' => wpAny_pure ?_) (by have := sk.length; simp at hz; rw [sizeLine_eq]; omega)))
      rw [stored_new hn] at hm''
      refine ⟨done ++ [(i, x)], _, ps', h'', _, rfl, r', by simp, sk.snoc, hm'', fun b o e => hs''.extBut b o (Nat.ne_of_lt (Heap.lt_size e)) (kp b o e)⟩
    · rintro _ s' ⟨done, kvs, psr, h', tk, rfl, hk', e, sk, hd, kp⟩
      cases hk'
      rw [List.append_nil] at e
      subst e
      exact wpAny_pure (wpAny_pure (fin kvs h' tk sk hd kp))
theorem wp_dictPut {A : Around} {d : Addr} {kvs : List (Int × Value)} {k : Int} {key v : Value} {s : Shared} {Q : Unit → Shared → Prop} (hkey : (ik w).is k key = true) (hm : s.heap.DictOf (ik w) d kvs) (hnot : k ∉ kvs.map (·.1))
    (hQ : ∀ h', h'.DictOf (ik w) d (kvs ++ [(k, v)]) → Heap.SameBut d s.heap h' → Q () { s with heap := h' }) (hsz : kvs.length ≤ sizeLine) : wpAny (model pw w) A (dictPut d ((ik w).hash k) key v) Q No s := by
  obtain ⟨o, es, ep, ho, hc, hd, hk, hp, hn⟩ := hm
  have hes : es.size ≤ sizeLine := by have e1 := hp.length; have e2 : es.toList.length = es.size := by simp
                                      omega
  unfold dictPut
  refine wpAny_bind (wpAny_dictFind_of hkey ho hd hk ?_)
  have hidx : (es.findIdx? fun e => (ik w).is k e.key) = kvs.findIdx? fun kv => decide (kv.1 = k) := by
    rw [← hp.findIdx k]; obtain ⟨l⟩ := es; simp
  have hnone : (es.findIdx? fun e => (ik w).is k e.key) = Option.none := by
    rw [hidx, List.findIdx?_eq_none_iff]
    intro kv hkv
    exact decide_eq_false fun e => hnot (List.mem_map.mpr ⟨kv, hkv, e⟩)
  rw [hnone]
  refine wpAny_updateDictKeys (hz := hes) ho hd (hQ _ ⟨_, _, ep + 1, Heap.get?_update_self _ ho (Obj.isFreed_of_dict (Obj.data_mapDictKeys hd _)),
      hc.mapDictKeys _, Obj.data_mapDictKeys hd _, hk.push hkey _, ?_, ?_⟩ (Heap.SameBut.update ..))
  · have := hp.append hkey ((ik w).hash k) v
    obtain ⟨l⟩ := es
    simpa using this
  · rw [List.map_append, List.nodup_append]
    refine ⟨hn, by simp, ?_⟩
    intro a ha b hb
    simp only [List.map_cons, List.map_nil, List.mem_singleton] at hb
    subst hb
    exact fun e => hnot (e ▸ ha)
theorem pairs_at {es : List DictEntry} {kvs : List (Int × Value)} (h : Pairs (ik w) es kvs) : ∀ {i : Nat} {e : DictEntry}, es[i]? = some e → ∃ k v, kvs[i]? = some (k, v) ∧ (ik w).is k e.key = true ∧ e.val = v := by
  induction h with
  | nil => intro i e q; simp at q
  | @cons e0 kv es kvs a b r ih =>
    intro i e q
    cases i with
    | zero => simp only [List.getElem?_cons_zero, Option.some.injEq] at q; subst q; exact ⟨kv.1, kv.2, rfl, a, b⟩
    | succ i => exact ih (by simpa using q)
theorem wp_merge {A : Around} {d a : Addr} {kvs more : List (Int × Value)} {s : Shared} {Q : Unit → Shared → Prop} (hd : s.heap.DictOf (ik w) d kvs) (ha : s.heap.DictOf (ik w) a more) (hne : kvs ≠ []) (hda : d ≠ a) (hsys : (a == sysModules) = false)
    (nd : ((kvs ++ more).map (·.1)).Nodup) (hz : kvs.length + more.length ≤ 1000) (hQ : ∀ h' tk, h'.DictOf (ik w) d (kvs ++ more) → (∀ b o, b ≠ d → s.heap.get? b = some o → h'.get? b = some o) → Q () { s with heap := h', toks := tk }) :
    wpAny (model pw w) A (mergeMapping d (.ref a) false) Q No s := by
  unfold mergeMapping
  refine wpAny_bind (m := isInstance (.ref a) (.type "dict")) (wpAny_isInstance ha.typeIs isSubtype_dict_dict ?_)
  dsimp only
  rw [if_pos rfl]
  refine wpAny_bind (m := specialOf (.ref a) _) (wpAny_specialOf ha.typeIs F.slot_dict_iter.lookup (wpAny_bind (wpAny_pure ?_)))
  rw [show ((some (Value.builtin "dict.__iter__") : Option Value) == some (.builtin "dict.__iter__")) = true from by decide]
  dsimp only
  rw [hsys]
  rw [if_neg (by decide)]
  obtain ⟨od, esd, epd, hod, hcd, hdd, hkd, hpd, hnd⟩ := id hd
  obtain ⟨oa, esa, epa, hoa, hca, hda', hka, hpa, hna⟩ := id ha
  refine wpAny_bind (wpAny_dictEntries hod hdd ?_)
  have hemp : esd.isEmpty = false := by
    cases he : esd.isEmpty with
    | false => rfl
    | true =>
      exfalso
      have e1 := hpd.length
      have : esd.toList = [] := by simpa using he
      rw [this] at e1
      exact hne (List.length_eq_zero_iff.mp e1.symm)
  rw [hemp, if_neg (by decide)]
  refine wpAny_bind (wpAny_dictEntries hoa hda' ?_)
  refine wpAny_bind (wpAny_dictEpoch hoa hda' ?_)
  have hsize : esa.size = more.length := by have := hpa.length; simpa using this
  rw [hsize]
  refine wpAny_bind (wpAny_forIn_list _ (fun rest _ s' => ∃ i h' tk, s' = { s with heap := h', toks := tk } ∧ rest = (List.range more.length).drop i ∧ i ≤ more.length ∧ h'.DictOf (ik w) d (kvs ++ more.take i) ∧ ∀ b o, b ≠ d → s.heap.get? b = some o → h'.get? b = some o) _ ?_ ?_ _ _
    ⟨0, s.heap, s.toks, rfl, by simp, Nat.zero_le _, by simpa using hd, fun _ _ _ e => e⟩)
  · rintro x rest _ s' ⟨i, h', tk, rfl, hr, hi, hd', kp⟩
    have hlt : i < more.length := by
      rcases Nat.lt_or_ge i more.length with q | q
      · exact q
      · rw [List.drop_of_length_le (by simpa using q)] at hr; cases hr
    rw [List.drop_eq_getElem_cons (by simpa using hlt), List.cons.injEq] at hr
    obtain ⟨hx, hrest⟩ := hr
    have hx : x = i := by simpa using hx
    subst hx
    have hoa' := kp a oa (Ne.symm hda) hoa
    have hes : esa[x]? = some (esa[x]'(by omega)) := by simp [hsize, hlt]
    obtain ⟨k, v, hk, hkey, hv⟩ := pairs_at hpa (i := x) (e := esa[x]'(by omega)) (by simpa using hes)
    obtain ⟨k', hkey', hhash⟩ := hka (esa[x]'(by omega)) (Array.getElem_mem _)
    have : k' = k := (ik w).inj _ _ _ hkey' hkey
    subst this
    refine wpAny_bind (wpAny_dictEntries hoa' hda' ?_)
    rw [hes]
    dsimp only
    rw [hhash, hv]
    have hn : k' ∉ (kvs ++ more.take x).map (·.1) := fun q => by
      have e : kvs ++ more = (kvs ++ more.take x) ++ (k', v) :: more.drop (x + 1) := by
        have hk2 : more[x] = (k', v) := by have := List.getElem?_eq_getElem hlt; rw [hk] at this; exact (Option.some.inj this).symm
        rw [List.append_assoc, ← hk2, ← List.drop_eq_getElem_cons hlt, List.take_append_drop]
      rw [e, List.map_append, List.map_cons, List.nodup_append] at nd
      exact nd.2.2 k' q k' List.mem_cons_self rfl
    refine wpAny_bind (wpAny_holding ?_)
    refine wp_dictPut hkey hd' hn (fun h'' hm'' hs'' => ?_) (by rw [sizeLine_eq, List.length_append, List.length_take]; omega)
    have hoa'' := hs''.extBut a oa (Ne.symm hda) hoa'
    refine wpAny_bind (wpAny_dictEpoch hoa'' hda' ?_)
    rw [if_neg (by simp)]
    refine wpAny_bind (wpAny_pure (wpAny_pure ⟨x + 1, h'', tk, rfl, hrest, hlt, ?_, fun b o q e => hs''.extBut b o q (kp b o q e)⟩))
    rw [List.take_add_one, hk, ← List.append_assoc]
    exact hm''
  · rintro _ s' ⟨i, h', tk, rfl, hr, hi, hd', kp⟩
    have : i = more.length := by
      rcases Nat.lt_or_ge i more.length with q | q
      · rw [List.drop_eq_getElem_cons (by simpa using q)] at hr; cases hr
      · omega
    subst this
    rw [List.take_length] at hd'
    exact wpAny_pure (hQ h' tk hd' kp)
theorem KVs.split {A : Around} {pr : List (Sem Value × Sem Value)} {ps : List (Int × Str)} (h : KVs w A pr ps) : ∀ k, KVs w A (pr.take k) (ps.take k) ∧ KVs w A (pr.drop k) (ps.drop k) := by
  induction h with
  | nil => intro k; simp; exact .nil
  | cons a b r ih =>
    intro k
    cases k with
    | zero => exact ⟨.nil, .cons a b r⟩
    | succ k => exact ⟨.cons a b (ih k).1, (ih k).2⟩
/-- the state of a display in the making: c are in, the rest of the run waits -/
noncomputable def MSt (w : World) (s s' : Shared) (main : Option Addr) (ps : List (Int × Str)) : Prop :=
  match main with
  | Option.none => s' = s ∧ ps = []
  | some d => Ext s s' ∧ s.heap.get? d = Option.none ∧ (d == sysModules) = false ∧ ps ≠ [] ∧ DAt w s' d ps
theorem size_sys {h : Heap} (B : Base w h) : (h.objs.size == sysModules) = false := by
  have e : ∃ o, (HF w.params).get? 156 = some o := ⟨o156f w.params, by kernel_rfl⟩
  obtain ⟨o, e⟩ := e
  have := Heap.lt_size (B _ _ e)
  have hs : sysModules = 1 := rfl
  rw [hs, beq_eq_false_iff_ne]
  intro q
  rw [q] at this
  exact absurd this (by decide)
theorem wp_flush {A : Around} {s s' : Shared} {main : Option Addr} {r : List (Sem Value × Sem Value)} {ps0 ps1 : List (Int × Str)} (B : Base w s.heap) (hM : MSt w s s' main ps0) (hk : KVs w A r ps1) (h0 : ps1 ≠ []) (nd : ((ps0 ++ ps1).map (·.1)).Nodup) (hz : ps0.length + ps1.length ≤ 1000)
    {Q : Option Addr → Shared → Prop} (hQ : ∀ d s'', MSt w s s'' (some d) (ps0 ++ ps1) → Q (some d) s'') :
    wpAny (model pw w) A (do
      if r.isEmpty then return main
      match main with
      | Option.none => return some (← subDict r)
      | some d =>
        let sub ← holding [.ref d] (subDict r)
        (holding [.ref d, .ref sub] (mergeMapping d (.ref sub) false)).onRaise fun x => do let _ ← holding [.ref d, x] (runValue (.builtin "proto.let_go" {}))
        return some d) Q No s' := by
  have hr : r.isEmpty = false := by
    cases r with
    | nil => have := hk.length; exact absurd (List.length_eq_zero_iff.mp this.symm) h0
    | cons => rfl
  rw [hr, if_neg (by decide)]
  have nd' := nd
  rw [List.map_append, List.nodup_append] at nd'
  cases main with
  | none =>
    obtain ⟨rfl, rfl⟩ := hM
    dsimp only
    refine wpAny_bind (wp_subDict hk (by simpa using hz) nd'.2.1 fun s2 e2 hd => wpAny_pure (hQ _ _ ⟨e2, get?_size _, size_sys B, by simpa using h0, by simpa using hd⟩))
  | some d =>
    obtain ⟨e1, fr, hs, hne, kvs, sk, hd⟩ := hM
    dsimp only
    refine wpAny_bind (wpAny_holding (wp_subDict hk (by omega) nd'.2.1 fun s2 e2 hd2 => ?_))
    obtain ⟨kvs2, sk2, hd2⟩ := hd2
    have hd' : s2.heap.DictOf (ik w) d kvs := DictOf_at hd fun o e => e2.kp _ o e
    have hda : d ≠ s'.heap.objs.size := by
      obtain ⟨o, es, ep, g, _⟩ := hd; exact Nat.ne_of_lt (Heap.lt_size g)
    have hl1 := sk.length
    have hl2 := sk2.length
    refine wpAny_bind (wpAny_onRaise (wpAny_mono (wpAny_holding (wp_merge (Q := fun _ s3 => MSt w s s3 (some d) (ps0 ++ ps1)) hd' hd2 (fun e => hne (by subst e; exact List.length_eq_zero_iff.mp hl1.symm)) hda (size_sys (B.kp' e1.kp)) (by rw [List.map_append, sk.keys, sk2.keys, ← List.map_append]; exact nd) (by omega) fun h' tk hd3 kp => ?_)) (fun _ s3 h3 => wpAny_pure (hQ d s3 h3)) fun _ _ (x : False) => x.elim))
    refine ⟨?_, fr, hs, by simp [hne], kvs ++ kvs2, ?_, hd3⟩
    · have e12 := e1.trans e2
      obtain ⟨h2, t2, rfl⟩ := e12.eq
      exact ⟨⟨_, _, rfl⟩, fun b o e => kp b o (fun q => by rw [q, fr] at e; cases e) (e12.kp b o e)⟩
    · clear hQ
      have : ∀ {a b c d}, SKV a b → SKV c d → SKV (a ++ c) (b ++ d) := by
        intro a b c d h k
        induction h with
        | nil => exact k
        | cons r ih => exact .cons ih
      exact this sk sk2
theorem wp_display {A : Around} {s : Shared} {pr : List (Sem Value × Sem Value)} {ps : List (Int × Str)} (B : Base w s.heap) (hk : KVs w A pr ps) (h0 : ps ≠ []) (nd : (ps.map (·.1)).Nodup) (hz : ps.length ≤ 1000)
    {Q : Value → Shared → Prop} (hQ : ∀ d s', MSt w s s' (some d) ps → Q (.ref d) s') : wpAny (model pw w) A (dictDisplay (pr.map fun p => (some p.1, p.2))) Q No s := by
  have hlen := hk.length
  unfold dictDisplay
  dsimp only
  refine wpAny_bind (wpAny_forIn_list _ (fun rest st s' => ∃ i c, c ≤ i ∧ i < c + 17 ∧ i ≤ pr.length ∧ rest = (pr.drop i).map (fun p => (some p.1, p.2)) ∧ st.2 = (pr.take i).drop c ∧ MSt w s s' st.1 (ps.take c)) _ ?_ ?_ _ _
    ⟨0, 0, Nat.le_refl _, by omega, Nat.zero_le _, by simp, by simp, (show MSt w s s Option.none (ps.take 0) from ⟨rfl, by simp⟩)⟩)
  · rintro x rest ⟨main, run⟩ s' ⟨i, c, hci, hic, hil, hrest, hrun, hM⟩
    dsimp only at hrun hM
    have hlt : i < pr.length := by
      rcases Nat.lt_or_ge i pr.length with q | q
      · exact q
      · rw [List.drop_of_length_le q] at hrest; cases hrest
    rw [List.drop_eq_getElem_cons hlt, List.map_cons, List.cons.injEq] at hrest
    obtain ⟨rfl, hrest⟩ := hrest
    dsimp only
    have hrun' : run ++ [(pr[i].1, pr[i].2)] = (pr.take (i + 1)).drop c := by
      rw [hrun, List.take_add_one, List.getElem?_eq_getElem hlt]
      show _ ++ [pr[i]] = _
      rw [List.drop_append_of_le_length (by rw [List.length_take]; omega)]; rfl
    rw [hrun']
    have hl : ((pr.take (i + 1)).drop c).length = i + 1 - c := by rw [List.length_drop, List.length_take]; omega
    by_cases h17 : i + 1 - c = 17
    · rw [hl, h17]
      rw [if_pos (by rfl)]
      have kk : KVs w A ((pr.take (i + 1)).drop c) ((ps.take (i + 1)).drop c) := ((hk.split (i + 1)).1.split c).2
      have hsplit : ps.take c ++ (ps.take (i + 1)).drop c = ps.take (i + 1) := by
        have : ps.take c = (ps.take (i + 1)).take c := by rw [List.take_take, Nat.min_eq_left (by omega)]
        rw [this, List.take_append_drop]
      refine wpAny_bind (wp_flush B hM kk (fun e => ?_) (by rw [hsplit]; exact nd.sublist ((List.take_sublist _ _).map _)) (by rw [List.length_drop, List.length_take, List.length_take]; omega) fun d s'' hM' => wpAny_pure ?_)
      · have := congrArg List.length e
        rw [List.length_drop, List.length_take, List.length_nil] at this; omega
      · rw [hsplit] at hM'
        exact ⟨i + 1, i + 1, Nat.le_refl _, by omega, hlt, hrest, by simp, hM'⟩
    · rw [hl]
      rw [if_neg (by simpa using h17)]
      exact wpAny_pure ⟨i + 1, c, by omega, by omega, hlt, hrest, rfl, hM⟩
  · rintro ⟨main, run⟩ s' ⟨i, c, hci, hic, hil, hrest, hrun, hM⟩
    dsimp only at hrun hM ⊢
    have hi : i = pr.length := by
      rcases Nat.lt_or_ge i pr.length with q | q
      · rw [List.drop_eq_getElem_cons q] at hrest; cases hrest
      · omega
    subst hi
    rw [List.take_length] at hrun
    subst hrun
    by_cases hc : c = pr.length
    · subst hc
      rw [List.drop_length]
      rw [hlen, List.take_length] at hM
      simp only [List.isEmpty_nil, if_true]
      refine wpAny_bind (wpAny_pure ?_)
      cases main with
      | none => exact absurd hM.2 h0
      | some d => exact wpAny_pure (hQ d s' hM)
    · have hsplit : ps.take c ++ ps.drop c = ps := List.take_append_drop _ _
      refine wpAny_bind (wp_flush B hM (hk.split c).2 (fun e => ?_) (by rw [hsplit]; exact nd) (by rw [List.length_drop, List.length_take]; omega) fun d s'' hM' => ?_)
      · have := congrArg List.length e
        rw [List.length_drop, List.length_nil] at this; omega
      · rw [hsplit] at hM'
        exact wpAny_pure (hQ d s'' hM')
end
end
end Mine
set_option maxRecDepth 100000
set_option Elab.async false
set_option linter.unusedVariables false
namespace Mine
open PySem PySem.W PySem.Calls PyProof.Rows
noncomputable section
local macro_rules | `(tactic| walk_at "lk") => `(tactic| first | exact lk_hit (by decide +kernel) | (refine lk_miss (by decide +kernel) ?_; walk_at "lk"))
local macro_rules | `(tactic| walk_at "sub") => `(tactic| first | exact Sub.nil | (refine Sub.cons (by walk_at "lk") ?_; walk_at "sub"))
local macro_rules | `(tactic| walk_at "st") => `(tactic| first | exact Or.inl (by decide +kernel) | exact Or.inr (by decide +kernel))
local macro_rules | `(tactic| walk_at "g") => `(tactic| first | decide +kernel | (intro P; kernel_rfl))
section
variable {w : World} {n : Nat} {sc st : Scope} {ρ : Rho}
noncomputable def cI : Option Expr → Option Int
  | some (.Constant (.int i) _ _) => some i
  | _ => none
noncomputable def cS : Expr → Option Str
  | .Constant (.str x) _ _ => some x
  | _ => none
theorem cI_is {k : Option Expr} {i : Int} (h : cI k = some i) : ∃ a p, k = some (.Constant (.int i) a p) := by
  unfold cI at h
  split at h
  · cases h; exact ⟨_, _, rfl⟩
  · cases h
theorem cS_is {k : Expr} {x : Str} (h : cS k = some x) : ∃ a p, k = .Constant (.str x) a p := by
  unfold cS at h
  split at h
  · cases h; exact ⟨_, _, rfl⟩
  · cases h
noncomputable def spellOf : List (Option Expr) → List Expr → List (Int × Str)
  | k :: ks, v :: vs => ((cI k).getD 0, (cS v).getD .empty) :: spellOf ks vs
  | _, _ => []
noncomputable def allConst : List (Option Expr) → List Expr → Bool
  | k :: ks, v :: vs => (cI k).isSome && ((cS v).isSome && allConst ks vs)
  | [], [] => true
  | _, _ => false
noncomputable def spKeys : List (Option Expr) := match fdBody (stm 8) with
  | [.Return (some (.Dict ks _ _)) _] => ks
  | _ => []
noncomputable def spVals : List Expr := match fdBody (stm 8) with
  | [.Return (some (.Dict _ vs _)) _] => vs
  | _ => []
noncomputable def spellL : List (Int × Str) := spellOf spKeys spVals
noncomputable def prOf (env : Env) (pos : Pos) : List (Option Expr) → List Expr → List (Sem Value × Sem Value)
  | some k :: ks, v :: vs => (eval k env, do let x ← eval v env; standAt pos; pure x) :: prOf env pos ks vs
  | _, _ => []
theorem display_pairs {A : Around} {env : Env} {pos : Pos} : ∀ {ks vs}, allConst ks vs = true → (evalEachOpt ks env).zip ((evalEach vs env).map fun v => do let x ← v; standAt pos; pure x) = (prOf env pos ks vs).map (fun p => (some p.1, p.2)) ∧ KVs w A (prOf env pos ks vs) (spellOf ks vs)
  | [], [], _ => ⟨rfl, .nil⟩
  | [], _ :: _, h => by cases h
  | _ :: _, [], h => by cases h
  | k :: ks, v :: vs, h => by
    rw [allConst, Bool.and_eq_true, Bool.and_eq_true, Option.isSome_iff_exists, Option.isSome_iff_exists] at h
    obtain ⟨⟨i, hi⟩, ⟨x, hx⟩, h⟩ := h
    obtain ⟨a, p, rfl⟩ := cI_is hi
    obtain ⟨b, q, rfl⟩ := cS_is hx
    obtain ⟨h1, h2⟩ := display_pairs (A := A) (env := env) (pos := pos) (ks := ks) (vs := vs) h
    refine ⟨?_, .cons (fun Q s hQ => wpAny_Constant_int (hQ _ _)) (fun Q s hQ => wpAny_bind (Constant_str (wpAny_bind (wpAny_standAt (wpAny_pure (hQ _ _)))))) h2⟩
    show (some (eval (.Constant (.int i) a p) env), _) :: _ = _
    exact congrArg (List.cons _) h1
theorem SKV.reps {X : Addr → Prop} {h : Heap} : ∀ {vs ps}, SKV vs ps → Reps w X h (vs.map (·.2)) (ps.map fun p => D.str p.2)
  | _, _, .nil => .nil
  | _, _, .cons r => .cons (.str _ _) (SKV.reps r)
theorem Ev.dict {ks : List (Option Expr)} {vs : List Expr} {pos : Pos} (h : allConst ks vs = true) (h0 : spellOf ks vs ≠ []) (nd : ((spellOf ks vs).map (·.1)).Nodup) (hz : (spellOf ks vs).length ≤ 1000) : Ev w n sc ρ (.Dict ks vs pos) (.idt ((spellOf ks vs).map fun p => (p.1, D.str p.2))) := fun A env X s he hA S => by
  show wpAny _ _ (eval _ env) _ _ _
  rw [arm_eval_Dict]
  obtain ⟨h1, h2⟩ := display_pairs (w := w) (A := A) (env := env) (pos := pos) h
  rw [h1]
  refine wpAny_bind (wpAny_standAt (wp_display S.base h2 h0 nd hz fun d s' hM => ?_))
  obtain ⟨e, fr, hs, _, kvs, sk, hd⟩ := hM
  refine ⟨e, .idt hs (fun q => by obtain ⟨o, e⟩ := (S.xok _ q).2; rw [fr] at e; cases e) hd ?_ ?_⟩
  · rw [sk.keys, List.map_map]; rfl
  · rw [List.map_map]; exact sk.reps
noncomputable def spellD : List (Int × D) := spellL.map fun p => (p.1, D.str p.2)
noncomputable def spPos : Pos × Pos := match fdBody (stm 8) with
  | [.Return (some (.Dict _ _ p)) q] => (p, q)
  | _ => (⟨0, 0, 0, 0⟩, ⟨0, 0, 0, 0⟩)
theorem spBody : fdBody (stm 8) = [.Return (some (.Dict spKeys spVals spPos.1)) spPos.2] := by kernel_rfl
theorem sp1 : allConst spKeys spVals = true := by decide +kernel
theorem sp2 : spellOf spKeys spVals ≠ [] := by decide +kernel
theorem sp3 : ((spellOf spKeys spVals).map (·.1)).Nodup := by decide +kernel
theorem sp4 : (spellOf spKeys spVals).length ≤ 1000 := by decide +kernel
theorem sp_gen {ks : List (Option Expr)} {vs : List Expr} {p q : Pos} {body : List Stmt} {d : D} (hb : body = [.Return (some (.Dict ks vs p)) q]) (hd : d = .idt ((spellOf ks vs).map fun p => (p.1, D.str p.2))) (h : allConst ks vs = true) (h0 : spellOf ks vs ≠ []) (nd : ((spellOf ks vs).map (·.1)).Nodup) (hz : (spellOf ks vs).length ≤ 1000) : Exs w n sc st ρ body (.rt d) := by
  subst hb hd
  exact Exs.last (Ex.ret (Ev.dict h h0 nd hz))
theorem spellD_eq : D.idt spellD = .idt ((spellOf spKeys spVals).map fun p => (p.1, D.str p.2)) := by unfold spellD spellL; rfl
theorem sp_ex : Exs w n (fdScope (stm 8)) (fdScope (stm 8)) (([] : List Str).zip ([] : List D)) (fdBody (stm 8)) (.rt (.idt spellD)) :=
  @sp_gen w n (fdScope (stm 8)) (fdScope (stm 8)) (([] : List Str).zip ([] : List D)) spKeys spVals spPos.1 spPos.2 (fdBody (stm 8)) (.idt spellD) spBody spellD_eq sp1 sp2 sp3 sp4
theorem fn_spell : Fn w (n + 1) 92 [] (.idt spellD) := by
  have q := @sp_ex w n
  generalize D.idt spellD = z at q ⊢
  refine Fn.mk (o := o92d) (xs := []) (body := fdBody (stm 8)) (sc := fdScope (stm 8)) (ds := []) (d := z) (fun P => by kernel_rfl) (fun P => rfl) (fun P => ⟨91, o91d P, _, _, rfl, by kernel_rfl, rfl, rfl⟩) rfl rfl rfl rfl rfl ?_ (by decide +kernel) (by decide +kernel) (by decide +kernel) rfl ?_
  · exact all0 (by kernel_rfl)
  · skip
    with_reducible exact q
end
end
end Mine
set_option maxRecDepth 100000
set_option Elab.async false
set_option maxHeartbeats 400000
set_option linter.unusedVariables false
namespace Mine
open PySem PySem.W PySem.Calls PyProof.Rows
noncomputable section
local macro_rules | `(tactic| walk_at "lk") => `(tactic| first | exact lk_hit (by decide +kernel) | (refine lk_miss (by decide +kernel) ?_; walk_at "lk"))
local macro_rules | `(tactic| walk_at "sub") => `(tactic| first | exact Sub.nil | (refine Sub.cons (by walk_at "lk") ?_; walk_at "sub"))
local macro_rules | `(tactic| walk_at "st") => `(tactic| first | exact Or.inl (by decide +kernel) | exact Or.inr (by decide +kernel))
local macro_rules | `(tactic| walk_at "g") => `(tactic| first | decide +kernel | (intro P; kernel_rfl))
section
variable {w : World} {n : Nat} {sc st : Scope} {ρ : Rho}
theorem Reps.of {X : Addr → Prop} {h : Heap} : ∀ {vs : List Value} {ds : List D}, vs.length = ds.length → (∀ (i : Nat) (v : Value), vs[i]? = some v → ∃ d, ds[i]? = some d ∧ Rep w X h v d) → Reps w X h vs ds
  | [], [], _, _ => .nil
  | [], _ :: _, e, _ => nomatch e
  | _ :: _, [], e, _ => nomatch e
  | v :: vs, d :: ds, e, k => by
    obtain ⟨d', e', r⟩ := k 0 v rfl
    cases e'
    exact .cons r (Reps.of (by simpa using e) fun i u q => by simpa using k (i + 1) u (by simpa using q))
theorem get_lst {ds : List D} {i : Int} {d : D} (h0 : 0 ≤ i) (hhi : i < 2 ^ 63) (hy : ds[i.toNat]? = some d) : Cl w n GetI [.lst ds, .int i] d := fun A X s vs _ _ _ r => by
  obtain ⟨v, u, rfl, a, b⟩ := r.two
  cases b
  obtain ⟨l, us, k, rfl, hX, hg, rs⟩ := list_of_rep a
  obtain ⟨y, hy', ry⟩ := rs.get hy
  exact wpAny_getItem_list (isList_of hg) h0 hhi (by simpa using hy') ⟨.refl, ry⟩
theorem cl_listIdt {kvs : List (Int × D)} (hz : kvs.length ≤ 1000) : Cl w n (fun vs => call (.type "list") vs) [.idt kvs] (.lst (kvs.map fun p => .int p.1)) := fun A X s vs hA _ ok r => by
  obtain ⟨v, rfl, a⟩ := r.one
  cases a with
  | @idt d us _ hS hX hd e rs =>
    obtain ⟨ep, hat⟩ := hd.dictAt
    have hl : us.length = kvs.length := by have := congrArg List.length e; simpa using this
    refine kdl_call (kdl_dict (knd := intKind pw w) (kvs := us) (ep := ep) hS) hA.hd hat (by rw [hl, sizeLine_eq]; omega) fun h' tk acc' c' kp hg it => ?_
    refine ⟨⟨⟨_, _, rfl⟩, kp⟩, .lst (vs := acc'.toList) (n := c') (fresh_off ok) (by simpa using hg) ?_⟩
    refine Reps.of (by simpa [hl] using it.1) fun i v hv => ?_
    obtain ⟨k, x, e1, e2⟩ := it.2 i v (by simpa using hv)
    obtain ⟨t, rfl⟩ := Value.isInt_shape e2
    have e3 : (us.map (·.1))[i]? = some k := by rw [List.getElem?_map, e1]; rfl
    rw [e, List.getElem?_map] at e3
    cases hk : kvs[i]? with
    | none => rw [hk] at e3; cases e3
    | some p =>
      rw [hk] at e3
      have : p.1 = k := by simpa using e3
      subst this
      exact ⟨_, by rw [List.getElem?_map, hk]; rfl, .int _ _⟩
/-- the signs that may be told -/
noncomputable def startsL : List Nat := [97, 65, 119808, 119860, 119912, 120016, 120172, 120224, 120276, 120328, 120380, 120432]
noncomputable def signs : List (Nat × Str) := (startsL.flatMap fun b => (List.range 16).map fun j => (b + j, (⟨#[97 + j]⟩ : Str))) ++ spellL.map fun p => (p.1.toNat, p.2)
noncomputable def seenD (p : Nat × Str) : D := .tup [.str ⟨#[p.1]⟩, .str p.2]
theorem seqIndex_nat {i : Int} {k : Nat} (h0 : 0 ≤ i) (h1 : i < k) : seqIndex? i k = some i.toNat := seqIndex_of h0 h1
noncomputable def startsI : List Int := [97, 65, 119808, 119860, 119912, 120016, 120172, 120224, 120276, 120328, 120380, 120432]
theorem starts_get : ∀ i : Fin 12, startsI[i.val]? = (startsL[i.val]?).map fun x => (x : Int) := by decide
theorem starts_lt : ∀ b ∈ startsL, b < 200000 := by decide
theorem spell_ok : ∀ p ∈ spellL, 0 ≤ p.1 ∧ p.1 < 200000 := by decide +kernel
theorem spell_len : spellL.length = 42 := by decide +kernel
theorem spell_nd : (spellL.map (·.1)).Nodup := sp3
theorem lookup_of_nodup {ps : List (Int × Str)} (nd : (ps.map (·.1)).Nodup) : ∀ {k : Nat} {c : Int} {t : Str}, ps[k]? = some (c, t) → (ps.map fun p => (p.1, D.str p.2)).lookup c = some (.str t) := by
  induction ps with
  | nil => intro k c t h; simp at h
  | cons p ps ih =>
    intro k c t h
    rw [List.map_cons, List.nodup_cons] at nd
    rw [List.map_cons, List.lookup_cons]
    cases k with
    | zero => simp only [List.getElem?_cons_zero, Option.some.injEq] at h; subst h; simp
    | succ k =>
      have h' : ps[k]? = some (c, t) := by simpa using h
      have hm : c ∈ ps.map (·.1) := List.mem_map.mpr ⟨_, List.mem_of_getElem? h', rfl⟩
      have hne : (c == p.1) = false := by
        rw [beq_eq_false_iff_ne]; intro e; exact nd.1 (e ▸ hm)
      rw [hne]
      exact ih nd.2 h'
noncomputable def constIs : List Expr → List Int → Bool
  | e :: es, x :: xs => decide (cI (some e) = some x) && constIs es xs
  | [], [] => true
  | _, _ => false
theorem EvL.ints : ∀ {es : List Expr} {xs : List Int}, constIs es xs = true → EvL w n sc ρ es (xs.map D.int)
  | [], [], _ => .nil
  | [], _ :: _, h => by cases h
  | _ :: _, [], h => by cases h
  | e :: es, x :: xs, h => by
    rw [constIs, Bool.and_eq_true, decide_eq_true_eq] at h
    obtain ⟨a, p, q⟩ := cI_is h.1
    cases q
    exact .cons Ev.int (EvL.ints h.2)
theorem se_consts : ∀ {es : List Expr} {xs : List Int}, constIs es xs = true → ∀ (pos : Pos) (env : Env), backTo pos (starEach es env) = es.map fun e => (false, eval e env)
  | [], [], _, _, _ => rfl
  | [], _ :: _, h, _, _ => by cases h
  | _ :: _, [], h, _, _ => by cases h
  | e :: es, x :: xs, h, pos, env => by
    rw [constIs, Bool.and_eq_true, decide_eq_true_eq] at h
    obtain ⟨a, p, q⟩ := cI_is h.1
    cases q
    have ih := se_consts h.2 pos env
    show (false, _) :: backTo pos (starEach es env) = (false, _) :: _
    rw [ih]; rfl
theorem Ev.tupleInts {es : List Expr} {xs : List Int} {k : Nat} {pos : Pos} (h : constIs es xs = true) (hz : xs.length ≤ sizeLine) : Ev w n sc ρ (.Tuple es k pos) (.tup (xs.map D.int)) := Ev.tuple (EvL.ints h) (by simpa using hz) (se_consts h pos)
theorem starts_len : startsI.length ≤ sizeLine := by decide +kernel
noncomputable def seS : Stmt := match fdBody (stm 10) with
  | [_, _, s, _] => s
  | _ => .Pass ⟨0, 0, 0, 0⟩
noncomputable def seEs : List Expr := match seS with | .Assign _ (.Tuple es _ _) _ => es | _ => []
noncomputable def seK : Nat := match seS with | .Assign _ (.Tuple _ k _) _ => k | _ => 0
noncomputable def seP : Pos := match seS with | .Assign _ (.Tuple _ _ p) _ => p | _ => ⟨0, 0, 0, 0⟩
noncomputable def seN : Pos := match seS with | .Assign [.Name _ p] _ _ => p | _ => ⟨0, 0, 0, 0⟩
noncomputable def seQ : Pos := match seS with | .Assign _ _ p => p | _ => ⟨0, 0, 0, 0⟩
theorem seS_eq : seS = .Assign [.Name (Str.ofString "starts") seN] (.Tuple seEs seK seP) seQ := by kernel_rfl
theorem se1 : constIs seEs startsI = true := by decide +kernel
theorem se_gen {es : List Expr} {k : Nat} {p pn q : Pos} {x : Str} {s : Stmt} (hs : s = .Assign [.Name x pn] (.Tuple es k p) q) (h : constIs es startsI = true) (hx : Storable st x) : Ex w n sc st ρ s (.nx ((x, .tup (startsI.map D.int)) :: ρ)) := by
  subst hs
  exact Ex.assign (Ev.tupleInts h starts_len) hx (by intros; rfl)
theorem se_ex : Ex w n (fdScope (stm 10)) (fdScope (stm 10)) ρ seS (.nx ((Str.ofString "starts", .tup (startsI.map D.int)) :: ρ)) := by
  have hx : Storable (fdScope (stm 10)) (Str.ofString "starts") := Or.inl (by decide +kernel)
  with_reducible exact @se_gen w n (fdScope (stm 10)) (fdScope (stm 10)) ρ seEs seK seP seN seQ (Str.ofString "starts") seS seS_eq se1 hx
noncomputable def seS0 : Stmt := match fdBody (stm 10) with
  | [s, _, _, _] => s
  | _ => .Pass ⟨0, 0, 0, 0⟩
noncomputable def seS1 : Stmt := match fdBody (stm 10) with
  | [_, s, _, _] => s
  | _ => .Pass ⟨0, 0, 0, 0⟩
noncomputable def seS3 : Stmt := match fdBody (stm 10) with
  | [_, _, _, s] => s
  | _ => .Pass ⟨0, 0, 0, 0⟩
theorem se_body : fdBody (stm 10) = [seS0, seS1, seS, seS3] := by kernel_rfl
theorem fn_seen (total : Int) : ∃ p ∈ signs, ∀ (w : World) (n : Nat), Fn w (n + 2) 100 [.int total] (seenD p) := by
  have hw : total.fdiv 4 = total / 4 := Int.fdiv_eq_ediv_of_nonneg _ (by decide)
  have hm : total.fmod 4 = total % 4 := Int.fmod_eq_emod_of_nonneg _ (by decide)
  by_cases h3 : total % 4 = 3
  · have q0 : (total / 4).fmod 42 = total / 4 % 42 := Int.fmod_eq_emod_of_nonneg _ (by decide)
    have hlt : (total / 4 % 42).toNat < spellL.length := by rw [spell_len]; omega
    have hget : spellL[(total / 4 % 42).toNat]? = some (spellL[(total / 4 % 42).toNat]) := List.getElem?_eq_getElem hlt
    generalize hp : spellL[(total / 4 % 42).toNat] = p at hget
    have hmem : p ∈ spellL := hp ▸ List.getElem_mem hlt
    have hok := spell_ok p hmem
    refine ⟨(p.1.toNat, p.2), List.mem_append_right _ (List.mem_map.mpr ⟨p, hmem, rfl⟩), fun w n => ?_⟩
    refine Fn.mk (o := o100d) (xs := [Str.ofString "total"]) (fun P => by kernel_rfl) (fun P => rfl) (fun P => ⟨99, o99d P, _, _, rfl, by kernel_rfl, rfl, rfl⟩) rfl rfl rfl rfl rfl ?_ (by decide +kernel) (by decide +kernel) (by decide +kernel) rfl ?_
    · intro vs h
      match vs, h with
      | [v], _ => kernel_rfl
    · refine Exs.cons (Ex.assign (Ev.binop (Ev.name (by walk_at "lk")) Ev.int (cl_floordiv (by decide) (PyProof.noPylong_small (by decide)))) (by walk_at "st") (by intros; rfl)) ?_
      rw [hw]
      have t3 : (total.fmod 4 == 3) = true := by rw [hm, h3]; rfl
      refine Exs.last (Ex.ifT (t3 ▸ Ts.compare (Ev.binop (Ev.name (by walk_at "lk")) Ev.int (cl_mod (by decide))) Ev.int cl_eq) ?_)
      refine Exs.cons (ρ' := (Str.ofString "code", .int p.1) :: [(Str.ofString "which", .int (total / 4)), (Str.ofString "total", .int total)]) (Ex.assign (Ev.item (T := "list") (Ev.callT (by walk_at "g") (by walk_at "g") (by walk_at "g") (EvL.cons (Ev.callF (by walk_at "g") (by walk_at "g") (fun P => ⟨o92d P, _, by kernel_rfl, rfl⟩) .nil fn_spell) .nil) (cl_listIdt ?_))
        (Ev.binop (Ev.name (by walk_at "lk")) Ev.int (cl_mod (by decide))) list_getitem_lookup ty_lst (get_lst ?_ ?_ ?_)) (by walk_at "st") (by intros; rfl)) ?_
      · unfold spellD; rw [List.length_map, spell_len]; decide
      · rw [q0]; omega
      · rw [q0]; omega
      · rw [q0]; unfold spellD; rw [List.getElem?_map, List.getElem?_map, hget]; rfl
      · refine Exs.last (Ex.ret (Ev.tuple (EvL.cons (Ev.callB (by walk_at "g") (by walk_at "g") (by walk_at "g") (EvL.cons (Ev.name (by walk_at "lk")) .nil) (cl_chr (by simp; omega))) (EvL.cons (Ev.item (T := "dict") (Ev.callF (by walk_at "g") (by walk_at "g") (fun P => ⟨o92d P, _, by kernel_rfl, rfl⟩) .nil fn_spell) (Ev.name (by walk_at "lk")) slot_dict_getitem.lookup ty_idt (get_idt ?_)) .nil)) (by show (2 : Nat) ≤ sizeLine; decide)))
        exact lookup_of_nodup spell_nd hget
  · have r1 : (total / 4).fdiv 16 = total / 4 / 16 := Int.fdiv_eq_ediv_of_nonneg _ (by decide)
    have r2 : (total / 4 / 16).fmod 12 = total / 4 / 16 % 12 := Int.fmod_eq_emod_of_nonneg _ (by decide)
    have r3 : (total / 4).fmod 16 = total / 4 % 16 := Int.fmod_eq_emod_of_nonneg _ (by decide)
    have hi : (total / 4 / 16 % 12).toNat < 12 := by omega
    have hs := starts_get ⟨_, hi⟩
    dsimp only at hs
    have hlt : (total / 4 / 16 % 12).toNat < startsL.length := hi
    rw [List.getElem?_eq_getElem hlt] at hs
    have hbm : startsL[(total / 4 / 16 % 12).toNat] ∈ startsL := List.getElem_mem hlt
    generalize startsL[(total / 4 / 16 % 12).toNat] = b at hs hbm
    have hb := starts_lt b hbm
    have hj : (total / 4 % 16).toNat < 16 := by omega
    refine ⟨(b + (total / 4 % 16).toNat, ⟨#[97 + (total / 4 % 16).toNat]⟩), List.mem_append_left _ (List.mem_flatMap.mpr ⟨b, hbm, List.mem_map.mpr ⟨_, List.mem_range.mpr hj, rfl⟩⟩), fun w n => ?_⟩
    refine Fn.mk (o := o100d) (xs := [Str.ofString "total"]) (fun P => by kernel_rfl) (fun P => rfl) (fun P => ⟨99, o99d P, _, _, rfl, by kernel_rfl, rfl, rfl⟩) rfl rfl rfl rfl rfl ?_ (by decide +kernel) (by decide +kernel) (by decide +kernel) rfl ?_
    · intro vs h
      match vs, h with
      | [v], _ => kernel_rfl
    · have s0 : Ex w (n + 1) (fdScope (stm 10)) (fdScope (stm 10)) [(Str.ofString "total", .int total)] seS0 (.nx [(Str.ofString "which", .int (total / 4)), (Str.ofString "total", .int total)]) :=
        hw ▸ Ex.assign (Ev.binop (Ev.name (by walk_at "lk")) Ev.int (cl_floordiv (by decide) (PyProof.noPylong_small (by decide)))) (by walk_at "st") (by intros; rfl)
      have t3 : (total.fmod 4 == 3) = false := by rw [hm]; simpa using h3
      have s1 : Ex w (n + 1) (fdScope (stm 10)) (fdScope (stm 10)) [(Str.ofString "which", .int (total / 4)), (Str.ofString "total", .int total)] seS1 (.nx [(Str.ofString "which", .int (total / 4)), (Str.ofString "total", .int total)]) :=
        Ex.ifF (t3 ▸ Ts.compare (Ev.binop (Ev.name (by walk_at "lk")) Ev.int (cl_mod (by decide))) Ev.int cl_eq) Exs.nil
      have e1 : ((b : Int) + total / 4 % 16).toNat = b + (total / 4 % 16).toNat := by omega
      have e2 : ((97 : Int) + total / 4 % 16).toNat = 97 + (total / 4 % 16).toNat := by omega
      have c1 := @cl_chr w (n + 1) ((b : Int) + total / 4 % 16) (by simp; omega)
      have c2 := @cl_chr w (n + 1) ((97 : Int) + total / 4 % 16) (by simp; omega)
      rw [e1] at c1
      rw [e2] at c2
      have s3 : Ex w (n + 1) (fdScope (stm 10)) (fdScope (stm 10)) ((Str.ofString "starts", .tup (startsI.map D.int)) :: [(Str.ofString "which", .int (total / 4)), (Str.ofString "total", .int total)]) seS3 (.rt (seenD (b + (total / 4 % 16).toNat, ⟨#[97 + (total / 4 % 16).toNat]⟩))) := by
        refine (Ex.ret (Ev.tuple (EvL.cons (Ev.callB (by walk_at "g") (by walk_at "g") (by walk_at "g") (EvL.cons (Ev.binop (Ev.item (T := "tuple") (Ev.name (by walk_at "lk")) (Ev.binop (Ev.binop (Ev.name (by walk_at "lk")) Ev.int (cl_floordiv (by decide) (PyProof.noPylong_small (by decide)))) Ev.int (cl_mod (by decide))) F.slot_tuple_getitem.lookup ty_tup (get_tup (k := (total / 4 / 16 % 12).toNat) (d := .int (b : Int)) ?_ ?_ ?_ ?_)) (r3 ▸ Ev.binop (Ev.name (by walk_at "lk")) Ev.int (cl_mod (by decide))) cl_add) .nil) c1)
        (EvL.cons (Ev.callB (by walk_at "g") (by walk_at "g") (by walk_at "g") (EvL.cons (Ev.binop Ev.int (r3 ▸ Ev.binop (Ev.name (by walk_at "lk")) Ev.int (cl_mod (by decide))) cl_add) .nil) c2) .nil)) (by show (2 : Nat) ≤ sizeLine; decide)))
        · rw [r1, r2]; omega
        · rw [r1, r2]; omega
        · rw [r1, r2]; exact seqIndex_nat (by omega) (by show _ < ((12 : Nat) : Int); omega)
        · have := congrArg (Option.map D.int) hs
          rw [← List.getElem?_map] at this
          exact this
      rw [se_body]
      show Exs w (n + 1) (fdScope (stm 10)) (fdScope (stm 10)) [(Str.ofString "total", .int total)] [seS0, seS1, seS, seS3] (.rt (seenD (b + (total / 4 % 16).toNat, ⟨#[97 + (total / 4 % 16).toNat]⟩)))
      have q := @se_ex w (n + 1) [(Str.ofString "which", .int (total / 4)), (Str.ofString "total", .int total)]
      with_reducible exact Exs.cons s0 (Exs.cons s1 (Exs.cons q (Exs.last s3)))
end
end
end Mine
set_option maxRecDepth 100000
set_option Elab.async false
set_option linter.unusedVariables false
namespace Mine
open PySem PySem.W PySem.Calls PyProof.Rows
noncomputable section
local macro_rules | `(tactic| walk_at "lk") => `(tactic| first | exact lk_hit (by decide +kernel) | (refine lk_miss (by decide +kernel) ?_; walk_at "lk"))
local macro_rules | `(tactic| walk_at "sub") => `(tactic| first | exact Sub.nil | (refine Sub.cons (by walk_at "lk") ?_; walk_at "sub"))
local macro_rules | `(tactic| walk_at "st") => `(tactic| first | exact Or.inl (by decide +kernel) | exact Or.inr (by decide +kernel))
local macro_rules | `(tactic| walk_at "g") => `(tactic| first | decide +kernel | (intro P; kernel_rfl))
section
variable {w : World} {n : Nat} {sc st : Scope} {ρ : Rho}
theorem fn_in_table {c : Nat} : Fn w (n + 1) 32 [.str ⟨#[c]⟩] (.bool (isB1 c)) := by
  refine Fn.mk (o := o32b) (xs := [Str.ofString "code"]) (fun P => by kernel_rfl) (fun P => rfl) (fun P => ⟨31, o31b P, _, _, rfl, by kernel_rfl, rfl, rfl⟩) rfl rfl rfl rfl rfl ?_ (by decide +kernel) (by decide +kernel) (by decide +kernel) rfl ?_
  · exact all1 fun v => by kernel_rfl
  · refine Exs.last (Ex.ret (Ev.compare (Ev.callB (b := "ord") (by walk_at "g") (by walk_at "g") (by walk_at "g") (EvL.cons (Ev.name (by walk_at "lk")) EvL.nil) cl_ord) (Ev.gname (a := 22) (by walk_at "g") (by walk_at "g") set_rep) cl_inset))
noncomputable def o33es (P : Params) : Array DictEntry := match (o33c P).data with
  | .dict es _ => es
  | _ => #[]
noncomputable def o33ep (P : Params) : Nat := match (o33c P).data with
  | .dict _ ep => ep
  | _ => 0
noncomputable def e33ok (e : DictEntry) : Bool := match e.key, e.val with
  | .int k _, .str _ _ => e.hash == hashInt k
  | _, _ => false
theorem e33_of {e : DictEntry} (h : e33ok e = true) : ∃ k t x u, e.key = .int k t ∧ e.val = .str x u ∧ e.hash = hashInt k := by
  obtain ⟨hh, key, val⟩ := e
  cases key with
  | int k t =>
    cases val with
    | str x u => exact ⟨k, t, x, u, rfl, rfl, by simpa [e33ok] using h⟩
    | _ => cases h
  | _ => cases h
theorem o33_all (P : Params) : (o33es P).toList.all e33ok = true := by kernel_rfl
theorem o33_get (P : Params) : (HF P).get? 33 = some (o33c P) := by kernel_rfl
theorem o33_data (P : Params) : (o33c P).data = .dict (o33es P) (o33ep P) := by kernel_rfl
noncomputable def b3g (P : Params) (k : Int) : Option Value := findBy Value.isInt (o33es P) k
noncomputable def strOfV : Option Value → Option Str
  | some (.str x _) => some x
  | _ => Option.none
noncomputable def b3f (P : Params) (k : Int) : Option Str := strOfV (b3g P k)
theorem findBy_mem {es : Array DictEntry} {k : Int} {v : Value} (h : findBy Value.isInt es k = some v) : ∃ e ∈ es, e.val = v := by
  unfold findBy at h
  rw [Option.map_eq_some_iff] at h
  obtain ⟨e, he, rfl⟩ := h
  exact ⟨e, Array.mem_of_find?_eq_some he, rfl⟩
theorem b3_rep (X : Addr → Prop) (h : Heap) (B : Base w h) (ok : XOk w X h) : Rep w X h (.ref 33) (.imap (b3f w.params)) := by
  have all : ∀ e ∈ o33es w.params, e33ok e = true := by
    have := o33_all w.params
    rw [List.all_eq_true] at this
    exact fun e he => this e (Array.mem_toList_iff.mpr he)
  have vals : ∀ k v, b3g w.params k = some v → ∃ x t, v = .str x t := fun k v e => by
    obtain ⟨en, hm, rfl⟩ := findBy_mem e
    obtain ⟨_, _, x, u, _, e2, _⟩ := e33_of (all en hm)
    exact ⟨x, u, e2⟩
  refine .imap (g := b3g w.params) (by decide) (off_hf ok (o33_get w.params)) ⟨o33c w.params, o33es w.params, o33ep w.params, B _ _ (o33_get w.params), ⟨rfl, rfl, rfl⟩, o33_data w.params, fun e he => ?_, fun k => rfl⟩ (fun k hk => ?_) fun k x hk => ?_
  · obtain ⟨k, t, _, _, e1, _, e3⟩ := e33_of (all e he)
    exact ⟨k, by rw [e1]; exact intKind_is _ _ _ _, e3⟩
  · cases hg : b3g w.params k with
    | none => rfl
    | some v =>
      obtain ⟨x, t, rfl⟩ := vals k v hg
      unfold b3f at hk; rw [hg] at hk; cases hk
  · cases hg : b3g w.params k with
    | none => unfold b3f at hk; rw [hg] at hk; cases hk
    | some v =>
      obtain ⟨y, t, rfl⟩ := vals k v hg
      unfold b3f at hk; rw [hg] at hk; cases hk
      exact ⟨t, rfl⟩
end
end
end Mine
set_option maxRecDepth 100000
set_option Elab.async false
set_option linter.unusedVariables false
namespace Mine
open PySem PySem.W PySem.Calls PyProof.Rows
noncomputable section
local macro_rules | `(tactic| walk_at "lk") => `(tactic| first | exact lk_hit (by decide +kernel) | (refine lk_miss (by decide +kernel) ?_; walk_at "lk"))
local macro_rules | `(tactic| walk_at "sub") => `(tactic| first | exact Sub.nil | (refine Sub.cons (by walk_at "lk") ?_; walk_at "sub"))
local macro_rules | `(tactic| walk_at "st") => `(tactic| first | exact Or.inl (by decide +kernel) | exact Or.inr (by decide +kernel))
local macro_rules | `(tactic| walk_at "g") => `(tactic| first | decide +kernel | (intro P; kernel_rfl))
section
variable {w : World} {n : Nat} {sc st : Scope} {ρ : Rho}
noncomputable def signOk (P : Params) (p : Nat × Str) : Bool := (match b3f P p.1 with | some x => x == p.2 | Option.none => Txt.lower ⟨#[p.1]⟩ == p.2) && !isB1 p.1 && decide (p.1 < 0x110000) && (p.2.cps.toList.all fun x => 97 ≤ x && x < 113) && decide (1 ≤ p.2.length) && decide (p.2.length ≤ 3)
noncomputable def b3l (P : Params) (k : Int) : Option Str := strOfV (((o33es P).toList.find? fun e => Value.isInt k e.key).map (·.val))
theorem b3l_eq (P : Params) (k : Int) : b3f P k = b3l P k := by
  unfold b3f b3l b3g findBy
  rw [Array.find?_toList]
noncomputable def signL (P : Params) (p : Nat × Str) : Bool := (match b3l P p.1 with | some x => x == p.2 | Option.none => Txt.lower ⟨#[p.1]⟩ == p.2) && !isB1 p.1 && decide (p.1 < 0x110000) && (p.2.cps.toList.all fun x => 97 ≤ x && x < 113) && decide (1 ≤ p.2.length) && decide (p.2.length ≤ 3)
theorem signL_eq (P : Params) (p : Nat × Str) : signOk P p = signL P p := by
  unfold signOk signL
  rw [b3l_eq]
theorem signs_ok1 (P : Params) : (signs.take 96).all (signL P) = true := by kernel_rfl
theorem signs_ok2 (P : Params) : (signs.drop 96).all (signL P) = true := by kernel_rfl
theorem signs_ok (P : Params) : signs.all (signOk P) = true := by
  have e : signOk P = signL P := funext (signL_eq P)
  rw [e, ← List.take_append_drop 96 signs, List.all_append, signs_ok1, signs_ok2]; rfl
theorem cl_isNotNoneStr {x : Str} : Cl w n (Cmp .IsNot) [.str x, .none] (.bool true) := fun A X s vs _ _ _ r => by
  obtain ⟨v, u, rfl, a, y⟩ := r.two
  cases y; cases a
  exact isNot_none ⟨.refl, .bool _⟩
theorem cl_isNotNoneNone : Cl w n (Cmp .IsNot) [.none, .none] (.bool false) := fun A X s vs _ _ _ r => by
  obtain ⟨v, u, rfl, a, y⟩ := r.two
  cases y; cases a
  exact isNot_none ⟨.refl, .bool _⟩
theorem fn_map {c : Nat} {t : Str} (h : (∃ P, P = w.params ∧ (b3f P c = some t ∨ (b3f P c = Option.none ∧ Txt.lower ⟨#[c]⟩ = t))) ) (ht : t.length ≤ 1000) : Fn w (n + 1) 78 [.str ⟨#[c]⟩] (.str t) := by
  obtain ⟨P, rfl, h⟩ := h
  refine Fn.mk (o := o78d) (xs := [Str.ofString "code"]) (fun P => by kernel_rfl) (fun P => rfl) (fun P => ⟨77, o77d P, _, _, rfl, by kernel_rfl, rfl, rfl⟩) rfl rfl rfl rfl rfl ?_ (by decide +kernel) (by decide +kernel) (by decide +kernel) rfl ?_
  · exact all1 fun v => by kernel_rfl
  · refine Exs.cons (Ex.assign (Ev.meth (T := "dict") (Ev.gname (a := 33) (by walk_at "g") (by walk_at "g") b3_rep) (by intros; rfl) (by decide) (by rfl) F.plainAttrs_dict F.slot_dict_get F.type_dict_get (fun X s v r => by
        cases r with
        | imap a b c d e => exact ⟨c.typeIs, c.noDict⟩) (EvL.cons (Ev.callB (b := "ord") (by walk_at "g") (by walk_at "g") (by walk_at "g") (EvL.cons (Ev.name (by walk_at "lk")) EvL.nil) cl_ord) .nil) cl_imapGet) (by walk_at "st") (by intros; rfl)) ?_
    rcases h with h | ⟨h, h'⟩
    · rw [h]
      exact Exs.last (Ex.ifT (Ts.compare (Ev.name (by walk_at "lk")) Ev.none cl_isNotNoneStr) (Exs.last (Ex.ret (Ev.name (by walk_at "lk")))))
    · rw [h]
      refine Exs.cons (Ex.ifF (Ts.compare (Ev.name (by walk_at "lk")) Ev.none cl_isNotNoneNone) Exs.nil) ?_
      rw [← h']
      exact Exs.last (Ex.ret (Ev.meth (T := "str") (Ev.name (by walk_at "lk")) (by intros; rfl) (by decide) (by rfl) F.plainAttrs_str F.slot_str_lower (by kernel_rfl) (fun X s v r => ⟨ty_str X s v r, fun a e => by cases r; cases e⟩) .nil (cl_lower (by rw [h']; exact decide_eq_false (by rw [sizeLine_eq]; omega)))))
end
end
end Mine
set_option maxRecDepth 100000
set_option Elab.async false
set_option linter.unusedVariables false
namespace Mine
open PySem PySem.W PySem.Calls PyProof.Rows
noncomputable section
local macro_rules | `(tactic| walk_at "lk") => `(tactic| first | exact lk_hit (by decide +kernel) | (refine lk_miss (by decide +kernel) ?_; walk_at "lk"))
local macro_rules | `(tactic| walk_at "sub") => `(tactic| first | exact Sub.nil | (refine Sub.cons (by walk_at "lk") ?_; walk_at "sub"))
local macro_rules | `(tactic| walk_at "st") => `(tactic| first | exact Or.inl (by decide +kernel) | exact Or.inr (by decide +kernel))
local macro_rules | `(tactic| walk_at "g") => `(tactic| first | decide +kernel | (intro P; kernel_rfl))
section
variable {w : World} {n : Nat} {sc st : Scope} {ρ : Rho}
theorem str_ext {a b : Str} (h : a.cps.toList = b.cps.toList) : a = b := by
  obtain ⟨⟨x⟩⟩ := a; obtain ⟨⟨y⟩⟩ := b; simp at h; subst h; rfl
theorem join_chars : ∀ l : List Nat, Txt.join (Str.ofString "") (l.map fun c => (⟨#[c]⟩ : Str)) = ⟨l.toArray⟩ := by
  intro l
  unfold Txt.join
  rw [StrLaws.glued_eq_join]
  have e0 : (Str.ofString "").cps.toList = [] := by decide +kernel
  induction l with
  | nil => rfl
  | cons c l ih =>
    cases l with
    | nil => rfl
    | cons d l =>
      show (⟨#[c]⟩ : Str) ++ Str.ofString "" ++ Str.join (Str.ofString "") ((d :: l).map fun c => (⟨#[c]⟩ : Str)) = _
      rw [ih]
      apply str_ext
      show ((#[c] ++ (Str.ofString "").cps) ++ (d :: l).toArray).toList = _
      simp [e0]
noncomputable def picksAt (row : List Int) (un : List Nat) (place : Nat) : List Nat := (List.range row.length).flatMap fun k => if row[k]? = some (place : Int) then (un[k]?).toList else []
noncomputable def textAt (row : List Int) (seen un : List Nat) (place : Nat) : List Nat := picksAt row un place ++ (seen.drop place).take 1
noncomputable def textL (row : List Int) (seen un : List Nat) (m : Nat) : List Nat := (List.range m).flatMap (textAt row seen un)
theorem textL_succ (row : List Int) (seen un : List Nat) (m : Nat) : textL row seen un (m + 1) = textL row seen un m ++ textAt row seen un m := by
  unfold textL; rw [List.range_succ, List.flatMap_append]; simp
theorem idx_clip (a b len : Nat) : Builtin.Str.strSliceIndices (some (a : Int)) (some (b : Int)) 1 len = Builtin.Str.strSliceIndices (some ((min a len : Nat) : Int)) (some ((min b len : Nat) : Int)) 1 len := by
  have h2 : (1 : Int) > 0 := by decide
  have a0 : ¬ ((a : Int) < 0) := by omega
  have b0 : ¬ ((b : Int) < 0) := by omega
  have a1 : ¬ (((min a len : Nat) : Int) < 0) := by omega
  have b1 : ¬ (((min b len : Nat) : Int) < 0) := by omega
  have ea : min (a : Int) (len : Int) = min ((min a len : Nat) : Int) (len : Int) := by omega
  have eb : min (b : Int) (len : Int) = min ((min b len : Nat) : Int) (len : Int) := by omega
  simp only [Builtin.Str.strSliceIndices, a0, b0, a1, b1, h2, if_false, if_true, ea, eb]
theorem slice_nat (x : Str) {a b : Nat} (hab : a ≤ b) : Txt.slice x (some (a : Int)) (some (b : Int)) = ⟨((x.cps.toList.drop a).take (b - a)).toArray⟩ := by
  have e : Txt.slice x (some (a : Int)) (some (b : Int)) = StrLaws.sliceText x (some ((min a x.length : Nat) : Int)) (some ((min b x.length : Nat) : Int)) := by
    unfold Txt.slice StrLaws.sliceText
    rw [idx_clip a b x.length]
  rw [e, StrLaws.sliceText_nat x (by omega) (by omega)]
  apply str_ext
  show (x.cps.toList.drop (min a x.length)).take (min b x.length - min a x.length) = (x.cps.toList.drop a).take (b - a)
  have hl : x.cps.toList.length = x.length := by simp [Str.length]
  by_cases h : a ≤ x.length
  · rw [Nat.min_eq_left h]
    by_cases h' : b ≤ x.length
    · rw [Nat.min_eq_left h']
    · rw [Nat.min_eq_right (by omega), List.take_of_length_le (by rw [List.length_drop]; omega), List.take_of_length_le (by rw [List.length_drop]; omega)]
  · rw [List.drop_of_length_le (l := x.cps.toList) (i := a) (by omega), Nat.min_eq_right (by omega), List.drop_of_length_le (by omega)]; simp
theorem flat_le {α β : Type} {f : α → List β} {B : Nat} (h : ∀ a, (f a).length ≤ B) : ∀ l : List α, (l.flatMap f).length ≤ l.length * B
  | [] => by simp
  | a :: l => by
    have h1 := h a
    have h2 := flat_le h l
    rw [List.flatMap_cons, List.length_append, List.length_cons, Nat.succ_mul]
    omega
theorem picks_le (row : List Int) (un : List Nat) (i : Nat) : (picksAt row un i).length ≤ row.length := by
  have := flat_le (B := 1) (f := fun k => if row[k]? = some (i : Int) then (un[k]?).toList else []) (fun k => by
    split
    · cases un[k]? <;> simp
    · simp) (List.range row.length)
  unfold picksAt
  rw [List.length_range, Nat.mul_one] at this
  exact this
theorem text_le (row : List Int) (seen un : List Nat) (m : Nat) : (textL row seen un m).length ≤ m * (row.length + 1) := by
  have := flat_le (B := row.length + 1) (f := textAt row seen un) (fun k => by
    unfold textAt
    have := picks_le row un k
    rw [List.length_append, List.length_take]
    omega) (List.range m)
  rw [List.length_range] at this
  exact this
noncomputable def chD (c : Nat) : D := .str ⟨#[c]⟩
theorem picks_map (row : List Int) (un : List Nat) (i : Nat) :
    (rangeD (row.length : Int)).flatMap (fun d => match d with | .int k => if row[k.toNat]? = some (i : Int) then ((un[k.toNat]?).toList.map chD) else [] | _ => []) = (picksAt row un i).map chD := by
  unfold picksAt rangeD
  rw [List.flatMap_map, List.map_flatMap]
  rw [show (row.length : Int).toNat = row.length from rfl]
  congr 1
  funext k
  show (if row[((k : Nat) : Int).toNat]? = some (i : Int) then _ else _) = _
  rw [show ((k : Nat) : Int).toNat = k from rfl]
  split <;> simp
theorem fn_text {row : List Int} {seen un : List Nat} (hl : row.length = un.length) (hz1 : row.length ≤ 100) (hz2 : seen.length ≤ 100) : Fn w (n + 1) 134 [.tup (row.map D.int), .str ⟨seen.toArray⟩, .str ⟨un.toArray⟩] (.str ⟨(textL row seen un (seen.length + 1)).toArray⟩) := by
  have hp : ∀ i, (picksAt row un i).length ≤ row.length := picks_le row un
  have ht : ∀ i, i ≤ 101 → (textL row seen un i).length ≤ 20000 := fun i hi => by
    have h1 := text_le row seen un i
    have h2 : i * (row.length + 1) ≤ 101 * 101 := Nat.mul_le_mul hi (by omega)
    omega
  refine Fn.mk (o := o134f) (xs := [Str.ofString "row", Str.ofString "seen", Str.ofString "unseen"]) (fun P => by kernel_rfl) (fun P => rfl) (fun P => ⟨133, o133f P, _, _, rfl, by kernel_rfl, rfl, rfl⟩) rfl rfl rfl rfl rfl ?_ (by decide +kernel) (by decide +kernel) (by decide +kernel) rfl ?_
  · exact all3 fun a b c => by kernel_rfl
  · refine Exs.cons (Ex.assign Ev.str (by walk_at "st") (by intros; rfl)) ?_
    have e0 : (Str.ofString "") = ⟨(textL row seen un 0).toArray⟩ := by
      apply str_ext; show (Str.ofString "").cps.toList = []; decide +kernel
    refine Exs.cons (ρ' := [(Str.ofString "text", .str ⟨(textL row seen un (seen.length + 1)).toArray⟩)]) (Stm.sub (Ex.for' (rangeD ((seen.length + 1 : Nat) : Int)) (fun i => [(Str.ofString "text", .str ⟨(textL row seen un i).toArray⟩), (Str.ofString "row", .tup (row.map D.int)), (Str.ofString "seen", .str ⟨seen.toArray⟩), (Str.ofString "unseen", .str ⟨un.toArray⟩)]) rfl
      (Itr.range (by walk_at "g") (by walk_at "g") (by walk_at "g") (Ev.binop (Ev.callB (by walk_at "g") (by walk_at "g") (by walk_at "g") (EvL.cons (Ev.name (by walk_at "lk")) .nil) (cl_lenStr (by show seen.toArray.size ≤ _; simp; omega))) Ev.int cl_add) (by show _ ≤ ((seen.length : Nat) : Int) + 1; omega) (by show ((seen.length : Nat) : Int) + 1 < _; omega)) (by rw [← e0]; walk_at "sub") (fun i d hd => ?_)) (by rw [rangeD_length]; walk_at "sub")) (Exs.last (Ex.ret (Ev.name (by walk_at "lk"))))
    obtain ⟨rfl, hi⟩ := rangeD_get hd
    have hi' : i < seen.length + 1 := hi
    refine ⟨_, As.name (by walk_at "st"), ?_⟩
    refine Stm.sub (ρ₁ := (Str.ofString "text", .str ⟨(textL row seen un (i + 1)).toArray⟩) :: (Str.ofString "place", .int (i : Int)) :: [(Str.ofString "text", .str ⟨(textL row seen un i).toArray⟩), (Str.ofString "row", .tup (row.map D.int)), (Str.ofString "seen", .str ⟨seen.toArray⟩), (Str.ofString "unseen", .str ⟨un.toArray⟩)]) (Exs.cons ?_ Exs.nil) (by walk_at "sub")
    have eT : (⟨(textL row seen un (i + 1)).toArray⟩ : Str) = ((⟨(textL row seen un i).toArray⟩ : Str) ++ (⟨(picksAt row un i).toArray⟩ : Str)) ++ Txt.slice ⟨seen.toArray⟩ (some (i : Int)) (some ((i : Int) + 1)) := by
      have := slice_nat ⟨seen.toArray⟩ (a := i) (b := i + 1) (by omega)
      rw [show ((i + 1 : Nat) : Int) = (i : Int) + 1 from rfl] at this
      rw [this]
      apply str_ext
      rw [textL_succ]
      show _ = (((textL row seen un i).toArray ++ (picksAt row un i).toArray) ++ ((seen.toArray.toList.drop i).take (i + 1 - i)).toArray).toList
      simp [textAt]
    rw [eT]
    have hA := ht i (by omega)
    have hB := hp i
    have hS := Txt.slice_le ⟨seen.toArray⟩ (some (i : Int)) (some ((i : Int) + 1))
    have hS' : (⟨seen.toArray⟩ : Str).length = seen.length := by simp [Str.length]
    refine Ex.assign (Ev.binop (Ev.binop (Ev.name (by walk_at "lk")) ?_ (cl_addStr ?_)) (Ev.slice (Ev.name (by walk_at "lk")) (PartE.int (Ev.name (by walk_at "lk"))) (PartE.int (Ev.binop (Ev.name (by walk_at "lk")) Ev.int cl_add)) F.slot_str_getitem.lookup ty_str (getS_str (by rw [hS']; omega))) (cl_addStr ?_)) (by walk_at "st") (by intros; rfl)
    · rw [← join_chars (picksAt row un i)]
      refine Ev.meth (T := "str") Ev.str (by intros; rfl) (by decide) (by rfl) F.plainAttrs_str F.slot_str_join (by kernel_rfl) (fun X s v r => ⟨ty_str X s v r, fun a e => by cases r; cases e⟩) (EvL.cons ?_ .nil) (cl_join ?_)
      · rw [List.map_map]
        refine Ev.comp' (ρ' := [(Str.ofString "place", .int (i : Int)), (Str.ofString "row", .tup (row.map D.int)), (Str.ofString "unseen", .str ⟨un.toArray⟩)]) (by kernel_rfl)
          (Itr.range (by walk_at "g") (by walk_at "g") (by walk_at "g") (Ev.callB (by walk_at "g") (by walk_at "g") (by walk_at "g") (EvL.cons (Ev.name (by walk_at "lk")) .nil) (cl_lenTup (by simp; omega))) (by first | (simp; done) | (simp; omega)) (by first | (simp; done) | (simp; omega)))
          (Cq.map _ (by rw [List.length_map]; exact picks_map row un i) (by walk_at "st") (fun d => by walk_at "sub") fun d hd => ?_) (by decide +kernel) (by rw [List.length_map]; exact Nat.le_trans hB (Nat.le_trans hz1 (by decide)))
        rw [List.length_map] at hd
        obtain ⟨k, hk, rfl⟩ := List.mem_map.mp hd
        have hk' : k < row.length := by simpa using hk
        have hr : row[k]? = some row[k] := List.getElem?_eq_getElem hk'
        have hu : un[k]? = some (un[k]'(by omega)) := List.getElem?_eq_getElem (by omega)
        refine ⟨row[k] == (i : Int), Tq.one (Ts.compare (Ev.item (T := "tuple") (Ev.name (by walk_at "lk")) (Ev.name (by walk_at "lk")) F.slot_tuple_getitem.lookup ty_tup (get_tup (k := k) (d := .int row[k]) (by omega) (by omega) (by rw [seqIndex_nat (by omega) (by simp; omega)]; rfl) (by rw [List.getElem?_map, hr]; rfl))) (Ev.name (by walk_at "lk")) cl_eq), ?_⟩
        by_cases hq : row[k] = (i : Int)
        · refine .inl ⟨by simp [hq], chD (un[k]'(by omega)), ?_, Ev.item (T := "str") (Ev.name (by walk_at "lk")) (Ev.name (by walk_at "lk")) F.slot_str_getitem.lookup ty_str (get_str (by simp; omega) ?_)⟩
          · show (if row[((k : Nat) : Int).toNat]? = some (i : Int) then ((un[((k : Nat) : Int).toNat]?).toList.map chD) else []) = _
            rw [show ((k : Nat) : Int).toNat = k from rfl, hr, hu, hq]; simp
          · rw [seqIndex_nat (by omega) (by simp [Str.length]; omega)]
            show un.toArray[((k : Nat) : Int).toNat]? = _
            rw [show ((k : Nat) : Int).toNat = k from rfl]; simpa using hu
        · refine .inr ⟨by simp [hq], ?_⟩
          show (if row[((k : Nat) : Int).toNat]? = some (i : Int) then ((un[((k : Nat) : Int).toNat]?).toList.map chD) else []) = _
          rw [show ((k : Nat) : Int).toNat = k from rfl, hr, if_neg]
          simpa using hq
      · have hj := StrLaws.joinFits (sep := Str.ofString "") (texts := (picksAt row un i).map fun c => (⟨#[c]⟩ : Str)) (B := 1) (fun y hy => by
          obtain ⟨c, _, rfl⟩ := List.mem_map.mp hy
          exact Nat.le_refl 1) (by
          rw [List.length_map, show (Str.ofString "").length = 0 from by decide +kernel]
          omega)
        unfold JoinOk
        rw [hj]; rfl
    · show (textL row seen un i).toArray.size + (picksAt row un i).toArray.size ≤ _
      simp; omega
    · show ((textL row seen un i).toArray ++ (picksAt row un i).toArray).size + _ ≤ _
      rw [hS'] at hS
      simp only [List.append_toArray, List.size_toArray, List.length_append]
      omega
end
end
end Mine
set_option maxRecDepth 100000
set_option Elab.async false
set_option linter.unusedVariables false
set_option maxHeartbeats 1000000
namespace Mine
open PySem PySem.W PySem.Calls PyProof.Rows
noncomputable section
local macro_rules | `(tactic| walk_at "lk") => `(tactic| first | exact lk_hit (by decide +kernel) | (refine lk_miss (by decide +kernel) ?_; walk_at "lk"))
local macro_rules | `(tactic| walk_at "sub") => `(tactic| first | exact Sub.nil | (refine Sub.cons (by walk_at "lk") ?_; walk_at "sub"))
local macro_rules | `(tactic| walk_at "st") => `(tactic| first | exact Or.inl (by decide +kernel) | exact Or.inr (by decide +kernel))
local macro_rules | `(tactic| walk_at "g") => `(tactic| first | decide +kernel | (intro P; kernel_rfl))
section
variable {w : World} {n : Nat} {sc st : Scope} {ρ : Rho}
noncomputable def rowD (r : List Nat) : D := .tup (r.map fun (k : Nat) => D.int (k : Int))
noncomputable def rowsStep (high : Nat) (rows : List (List Nat)) : List (List Nat) := rows.flatMap fun row => (List.range (high + 1)).flatMap fun a => if row = [] ∨ row.getLast?.getD 0 ≤ a then [row ++ [a]] else []
noncomputable def rowsP (high : Nat) : Nat → List (List Nat)
  | 0 => [[]]
  | k + 1 => rowsStep high (rowsP high k)
theorem Ex.assignComp' {x : Str} {p q : Pos} {elt tgt iter : Expr} {ifs : List Expr} {gens : List Comprehension} {scope : Scope} {pos : Pos} {ds outs : List D} {ρ' : Rho} (hρ : inner scope ρ = ρ') (hx : Storable st x) (hi : Itr w n sc ρ tgt iter ds)
    (hc : Cq w n (relabS scope sc) scope (.ListComp elt (⟨tgt, iter, ifs, 0⟩ :: gens) scope pos) 0 tgt ρ' ds outs) (ok : compOk scope sc = true) (hz : outs.length ≤ sizeLine)
    (hsw : (sc.kind == .function && sc.names.lookup x == some .local && p.line == pos.line && !(scope.names.any fun (n, k) => n == x && (k == .local || k == .cell))) = true)
    (hs : ∀ env x, foldedSetIterable iter env x = pure x := by intros; rfl) :
    Ex w n sc st ρ (.Assign [.Name x p] (.ListComp elt (⟨tgt, iter, ifs, 0⟩ :: gens) scope pos) q) (.nx ((x, .lst outs) :: ρ)) :=
  Ex.assignComp hx ok hi (hρ ▸ hc) hz (fun env he => by
    subst he
    show (pure (env.blockKind == .function && env.kindOf x == some .local && p.line == pos.line && !(scope.names.any fun (n, k) => n == x && (k == .local || k == .cell))) : Sem Bool) = pure true
    have e : (env.blockKind == .function) = (env.scope.kind == .function) := by
      simp only [Bool.and_eq_true] at hsw
      have := hsw.1.1.1
      have hk : env.scope.kind = .function := by simpa using this
      unfold Env.blockKind
      rw [hk]; rfl
    rw [e]
    exact congrArg pure hsw) hs
theorem cl_addTup0 {ys : List D} : Cl w n (Bin .Add) [.tup [], .tup ys] (.tup ys) := fun A X s vs _ _ ok r => by
  obtain ⟨v, u, rfl, a, b⟩ := r.two
  obtain ⟨l, us, k, rfl, hX, hg, rs⟩ := tuple_of_rep a
  obtain ⟨l', us', k', rfl, hX', hg', rs'⟩ := tuple_of_rep b
  have n1 : us = [] := List.length_eq_zero_iff.mp rs.length
  exact concat_meets ⟨_, hg, rfl⟩ ⟨_, hg', rfl⟩ PySem.noFill_tuple_add PySem.seq_tuple_add F.slot_tuple_add F.entry_tuple_add (F.args_tuple_add_2 _ _) (AutoSeq1.tuple___add___tuple_tuple_0 l us.toArray k l' us'.toArray k' (by rw [n1]; rfl)) ⟨hg, hg', .refl, .tup hX' hg' rs'⟩
theorem dPs_ints : ∀ r : List Nat, dPs (r.map fun (k : Nat) => D.int (k : Int)) = (r.map fun (k : Nat) => (k : Int)).map PyData.int
  | [] => by rw [List.map_nil, List.map_nil, List.map_nil, dPs]
  | k :: r => by rw [List.map_cons, List.map_cons, List.map_cons, dPs, dPs_ints r, dP]
theorem dOks_ints : ∀ r : List Nat, dOks (r.map fun (k : Nat) => D.int (k : Int)) = true
  | [] => by rw [List.map_nil, dOks]
  | k :: r => by rw [List.map_cons, dOks, dOks_ints r, dOk]; rfl
theorem row_ok (r : List Nat) : dOk (rowD r) = true := by unfold rowD; rw [dOk]; exact dOks_ints r
theorem row_shaped (r : List Nat) : SeqAt.shaped (dP (rowD r)) = true := by
  unfold rowD
  rw [dP, dPs_ints]
  unfold SeqAt.shaped
  rw [PyData.canLay0, ke_canLayAll0, PyData.depth, ke_depthAll]
  rfl
theorem row_eqv (r : List Nat) : PyData.eqv (dP (rowD r)) (dP (.tup [])) = decide (r = []) := by
  unfold rowD
  rw [dP, dP, dPs_ints, dPs, PyData.eqv]
  cases r with
  | nil => rfl
  | cons a r => rfl
theorem CT.map {β : Type} {step : D → List D → Prop} (ι : β → D) (f : β → List D) : ∀ {l : List β}, (∀ b ∈ l, step (ι b) (f b)) → CT step (l.map ι) (l.flatMap f)
  | [], _ => .nil
  | b :: l, h => by rw [List.map_cons, List.flatMap_cons]; exact .cons (h b List.mem_cons_self) (CT.map ι f fun c q => h c (List.mem_cons_of_mem _ q))
theorem rowD_snoc {row : List Nat} {a : Nat} (hz : row.length ≤ 100) : Cl w n (Bin .Add) [rowD row, .tup [.int (a : Int)]] (rowD (row ++ [a])) := by
  cases row with
  | nil => exact cl_addTup0
  | cons b r =>
    have : rowD (b :: r ++ [a]) = .tup (((b :: r).map fun (k : Nat) => D.int (k : Int)) ++ [.int (a : Int)]) := by unfold rowD; rw [List.map_append]; rfl
    rw [this]
    exact cl_addTup (by simp) (by simp) (by rw [List.length_map]; exact Nat.le_trans (m := 200) (by simp at hz ⊢; omega) (by decide))
theorem rowD_last {row : List Nat} (h : row ≠ []) (hz : row.length ≤ 100) : Cl w n GetI [rowD row, .int (-1)] (.int ((row.getLast?.getD 0 : Nat) : Int)) := by
  have hp : 0 < row.length := List.length_pos_iff.mpr h
  refine get_tup (k := row.length - 1) (by decide) (by decide) ?_ ?_
  · rw [List.length_map]
    unfold seqIndex?
    simp only []
    first
    | (split <;> split <;> simp at * <;> omega)
    | (simp; omega)
  · rw [List.getElem?_map, List.getLast?_eq_getElem?]
    have : row[row.length - 1]? = some (row[row.length - 1]'(by omega)) := List.getElem?_eq_getElem (by omega)
    rw [this]; rfl
theorem rows_outs {high : Nat} (rows : List (List Nat)) : (rowsStep high rows).map rowD = rows.flatMap fun row => (List.range (high + 1)).flatMap fun a => if row = [] ∨ row.getLast?.getD 0 ≤ a then [rowD (row ++ [a])] else [] := by
  unfold rowsStep
  rw [List.map_flatMap]
  congr 1; funext row
  rw [List.map_flatMap]
  congr 1; funext a
  split <;> rfl
theorem rows_len {high : Nat} : ∀ {k : Nat} {row : List Nat}, row ∈ rowsP high k → row.length = k
  | 0, row, h => by simp [rowsP] at h; rw [h]; rfl
  | k + 1, row, h => by
    simp only [rowsP, rowsStep, List.mem_flatMap] at h
    obtain ⟨r, hr, a, ha, q⟩ := h
    split at q
    · simp at q; rw [q, List.length_append, rows_len hr]; rfl
    · cases q
theorem fn_rows {high many : Nat} (hm : many ≤ 100) (hh : high ≤ 1000) (hb : ∀ i, i ≤ many → (rowsP high i).length ≤ 1000) : Fn w (n + 1) 129 [.int (high : Int), .int (many : Int)] (.lst ((rowsP high many).map rowD)) := by
  refine Fn.mk (o := o129f) (xs := [Str.ofString "high", Str.ofString "many"]) (fun P => by kernel_rfl) (fun P => rfl) (fun P => ⟨128, o128f P, _, _, rfl, by kernel_rfl, rfl, rfl⟩) rfl rfl rfl rfl rfl ?_ (by decide +kernel) (by decide +kernel) (by decide +kernel) rfl ?_
  · exact all2 fun a b => by kernel_rfl
  · refine Exs.cons (Ex.assign (Ev.list (ds := [rowD []]) (EvL.cons (Ev.tuple .nil (by decide)) .nil) (by decide)) (by walk_at "st") (by intros; rfl)) ?_
    refine Exs.cons (ρ' := [(Str.ofString "rows", .lst ((rowsP high many).map rowD))]) (Stm.sub (Ex.for' (rangeD (many : Int)) (fun i => [(Str.ofString "rows", .lst ((rowsP high i).map rowD)), (Str.ofString "high", .int (high : Int))]) rfl
      (Itr.range (by walk_at "g") (by walk_at "g") (by walk_at "g") (Ev.name (by walk_at "lk")) (by omega) (by omega)) (by walk_at "sub") (fun i d hd => ?_)) (by rw [rangeD_length]; walk_at "sub")) (Exs.last (Ex.ret (Ev.name (by walk_at "lk"))))
    obtain ⟨rfl, hi⟩ := rangeD_get hd
    have hi' : i < many := hi
    refine ⟨_, As.name (by walk_at "st"), ?_⟩
    refine Stm.sub (ρ₁ := (Str.ofString "rows", .lst ((rowsP high (i + 1)).map rowD)) :: (Str.ofString "turn", .int (i : Int)) :: [(Str.ofString "rows", .lst ((rowsP high i).map rowD)), (Str.ofString "high", .int (high : Int))]) (Exs.cons ?_ Exs.nil) (by walk_at "sub")
    refine Ex.assignComp' (ρ' := [(Str.ofString "high", .int (high : Int))]) (by kernel_rfl) (by walk_at "st") (Itr.of (Ev.name (by walk_at "lk")) (Its.list PlainT.name)) ?_ (by decide +kernel) (by rw [List.length_map]; exact Nat.le_trans (hb (i + 1) (by omega)) (by decide)) (by decide +kernel)
    show Cq _ _ _ _ _ _ _ _ _ ((rowsStep high (rowsP high i)).map rowD)
    rw [rows_outs]
    refine Cq.two0 (CT.map rowD _ fun row hrow => ⟨_, true, As.name (by walk_at "st"), by walk_at "sub", Tq.nil, .inl ⟨rfl, Em.next (Itr.range (N := ((high + 1 : Nat) : Int)) (by walk_at "g") (by walk_at "g") (by walk_at "g") (Ev.binop (Ev.name (by walk_at "lk")) Ev.int cl_add) (by omega) (by omega)) (Cq.two1 ?_)⟩⟩)
    have hl : row.length ≤ 100 := by rw [rows_len hrow]; omega
    refine CT.map (fun (i : Nat) => D.int (i : Int)) (fun a => if row = [] ∨ row.getLast?.getD 0 ≤ a then [rowD (row ++ [a])] else []) fun a ha => ⟨_, decide (row = []) || decide ((a : Int) ≥ ((row.getLast?.getD 0 : Nat) : Int)), As.name (by walk_at "st"), by walk_at "sub", Tq.one ?_, ?_⟩
    · exact Ts.or2 (row_eqv row ▸ Ts.compare (Ev.name (by walk_at "lk")) (Ev.tuple .nil (by decide)) (cl_eqD (row_ok row) (by decide) (row_shaped row) (by decide))) fun hne =>
        Ts.compare (Ev.name (by walk_at "lk")) (Ev.item (T := "tuple") (Ev.name (by walk_at "lk")) (Ev.unary Ev.int cl_neg) F.slot_tuple_getitem.lookup ty_tup (rowD_last (by simpa using hne) hl)) cl_ge
    · by_cases hq : row = [] ∨ row.getLast?.getD 0 ≤ a
      · refine .inl ⟨by rcases hq with hq | hq <;> simp [hq] <;> omega, ?_⟩
        rw [if_pos hq]
        exact Em.last (Ev.binop (Ev.name (by walk_at "lk")) (Ev.tuple (EvL.cons (Ev.name (by walk_at "lk")) .nil) (show 1 ≤ sizeLine by decide)) (rowD_snoc hl))
      · refine .inr ⟨?_, if_neg hq⟩
        simp only [not_or] at hq
        simp [hq.1]; omega
end
end
end Mine
set_option maxRecDepth 100000
set_option Elab.async false
set_option linter.unusedVariables false
set_option maxHeartbeats 1000000
namespace Mine
open PySem PySem.W PySem.Calls PyProof.Rows
noncomputable section
local macro_rules | `(tactic| walk_at "lk") => `(tactic| first | exact lk_hit (by decide +kernel) | (refine lk_miss (by decide +kernel) ?_; walk_at "lk"))
local macro_rules | `(tactic| walk_at "sub") => `(tactic| first | exact Sub.nil | (refine Sub.cons (by walk_at "lk") ?_; walk_at "sub"))
local macro_rules | `(tactic| walk_at "st") => `(tactic| first | exact Or.inl (by decide +kernel) | exact Or.inr (by decide +kernel))
local macro_rules | `(tactic| walk_at "g") => `(tactic| first | decide +kernel | (intro P; kernel_rfl))
section
variable {w : World} {n : Nat} {sc st : Scope} {ρ : Rho}
noncomputable def ordD (p : List Nat × Int) : D := .tup [.lst (p.1.map fun (k : Nat) => D.int (k : Int)), .int p.2]
noncomputable def ordOne (p : List Nat × Int) (k : Nat) : List (List Nat × Int) := if k ∈ p.1 then [] else [(p.1 ++ [k], p.2 * (-1) ^ (p.1.filter fun x => decide (k < x)).length)]
noncomputable def ordStep (many : Nat) (os : List (List Nat × Int)) : List (List Nat × Int) := os.flatMap fun p => (List.range many).flatMap (ordOne p)
noncomputable def ordersP (many : Nat) : Nat → List (List Nat × Int)
  | 0 => [([], 1)]
  | k + 1 => ordStep many (ordersP many k)
theorem ord_len {many : Nat} : ∀ {k : Nat} {p : List Nat × Int}, p ∈ ordersP many k → p.1.length = k
  | 0, p, h => by simp [ordersP] at h; rw [h]; rfl
  | k + 1, p, h => by
    simp only [ordersP, ordStep, List.mem_flatMap] at h
    obtain ⟨r, hr, a, ha, q⟩ := h
    unfold ordOne at q
    split at q
    · cases q
    · simp at q; rw [q, List.length_append, ord_len hr]; rfl
theorem ord_outs {many : Nat} (os : List (List Nat × Int)) : (ordStep many os).map ordD = os.flatMap fun p => (List.range many).flatMap fun k => (ordOne p k).map ordD := by
  unfold ordStep
  rw [List.map_flatMap]
  congr 1; funext p
  rw [List.map_flatMap]
theorem pow1 (n : Nat) : (-1 : Int) ^ n = 1 ∨ (-1 : Int) ^ n = -1 := by
  induction n with
  | zero => exact .inl rfl
  | succ n ih => rw [Int.pow_succ]; rcases ih with h | h <;> rw [h] <;> decide
theorem any_int (o : List Nat) (k : Nat) : ((dPs (o.map fun (k : Nat) => D.int (k : Int))).any fun y => PyData.eqv y (dP (.int (k : Int)))) = decide (k ∈ o) := by
  rw [dPs_ints, dP]
  induction o with
  | nil => rfl
  | cons a r ih =>
    rw [List.map_cons, List.map_cons, List.any_cons, ih]
    have : PyData.eqv (.int (a : Int)) (.int (k : Int)) = decide (a = k) := by
      rw [PyData.eqv]
      by_cases h : a = k
      · subst h; simp
      · have h' : (a : Int) ≠ (k : Int) := by omega
        simp [h, h']
    rw [this]
    by_cases h : a = k
    · subst h; simp
    · have h' : k ≠ a := fun q => h q.symm
      simp [h, h']
theorem cl_notInInts {o : List Nat} {k : Nat} : Cl w n (Cmp .NotIn) [.int (k : Int), .lst (o.map fun (k : Nat) => D.int (k : Int))] (.bool (!decide (k ∈ o))) := by
  rw [← any_int o k]
  refine cl_notInD (by rw [dOk]) (dOks_ints o) ?_ (by rfl) (by rw [dP, PyData.depth]; decide)
  rw [dPs_ints]; first | exact ke_canLayAll0 _ | (rw [ke_canLayAll0])
theorem fn_orders {many : Nat} (hm : many ≤ 10) (hb : ∀ i, i ≤ many → (ordersP many i).length ≤ 1000) : Fn w (n + 1) 146 [.int (many : Int)] (.lst ((ordersP many many).map ordD)) := by
  refine Fn.mk (o := o146f) (xs := [Str.ofString "many"]) (fun P => by kernel_rfl) (fun P => rfl) (fun P => ⟨145, o145f P, _, _, rfl, by kernel_rfl, rfl, rfl⟩) rfl rfl rfl rfl rfl ?_ (by decide +kernel) (by decide +kernel) (by decide +kernel) rfl ?_
  · exact all1 fun a => by kernel_rfl
  · refine Exs.cons (Ex.assign (Ev.list (ds := [ordD ([], 1)]) (EvL.cons (Ev.tuple (EvL.cons (Ev.list .nil (by decide)) (EvL.cons Ev.int .nil)) (by decide)) .nil) (by decide)) (by walk_at "st") (by intros; rfl)) ?_
    refine Exs.cons (ρ' := [(Str.ofString "orders", .lst ((ordersP many many).map ordD))]) (Stm.sub (Ex.for' (rangeD (many : Int)) (fun i => [(Str.ofString "orders", .lst ((ordersP many i).map ordD)), (Str.ofString "many", .int (many : Int))]) rfl
      (Itr.range (by walk_at "g") (by walk_at "g") (by walk_at "g") (Ev.name (by walk_at "lk")) (by omega) (by omega)) (by walk_at "sub") (fun i d hd => ?_)) (by rw [rangeD_length]; walk_at "sub")) (Exs.last (Ex.ret (Ev.name (by walk_at "lk"))))
    obtain ⟨rfl, hi⟩ := rangeD_get hd
    have hi' : i < many := hi
    refine ⟨_, As.name (by walk_at "st"), ?_⟩
    refine Stm.sub (ρ₁ := (Str.ofString "orders", .lst ((ordersP many (i + 1)).map ordD)) :: (Str.ofString "turn", .int (i : Int)) :: [(Str.ofString "orders", .lst ((ordersP many i).map ordD)), (Str.ofString "many", .int (many : Int))]) (Exs.cons ?_ Exs.nil) (by walk_at "sub")
    refine Ex.assignComp' (ρ' := [(Str.ofString "many", .int (many : Int))]) (by kernel_rfl) (by walk_at "st") (Itr.of (Ev.name (by walk_at "lk")) (Its.list PlainT.tuple)) ?_ (by decide +kernel) (by rw [List.length_map]; exact Nat.le_trans (hb (i + 1) (by omega)) (by decide)) (by decide +kernel)
    show Cq _ _ _ _ _ _ _ _ _ ((ordStep many (ordersP many i)).map ordD)
    rw [ord_outs]
    refine Cq.two0 (CT.map ordD _ fun p hp => ⟨_, true, As.pair (a := .lst (p.1.map fun (k : Nat) => D.int (k : Int))) (b := .int p.2) (by walk_at "st") (by walk_at "st"), by walk_at "sub", Tq.nil, .inl ⟨rfl, Em.next (Itr.range (N := (many : Int)) (by walk_at "g") (by walk_at "g") (by walk_at "g") (Ev.name (by walk_at "lk")) (by omega) (by omega)) (Cq.two1 ?_)⟩⟩)
    have hl : p.1.length ≤ 10 := by rw [ord_len hp]; omega
    refine CT.map (fun (i : Nat) => D.int (i : Int)) (fun k => (ordOne p k).map ordD) fun k hk => ⟨_, !decide (k ∈ p.1), As.name (by walk_at "st"), by walk_at "sub", Tq.one (Ts.compare (Ev.name (by walk_at "lk")) (Ev.name (by walk_at "lk")) cl_notInInts), ?_⟩
    by_cases hq : k ∈ p.1
    · exact .inr ⟨by simp [hq], by unfold ordOne; rw [if_pos hq]; rfl⟩
    · refine .inl ⟨by simp [hq], ?_⟩
      have e : (ordOne p k).map ordD = [.tup [.lst ((p.1.map fun (k : Nat) => D.int (k : Int)) ++ [.int (k : Int)]), .int (p.2 * (-1) ^ (((p.1.filter fun x => decide (k < x)).map fun (k : Nat) => D.int (k : Int)).length : Int).toNat)]] := by
        unfold ordOne
        rw [if_neg hq, List.map_cons, List.map_nil]
        unfold ordD
        simp
      have hf := List.length_filter_le (fun x => decide (k < x)) p.1
      rw [e]
      refine Em.last (Ev.tuple (EvL.cons (Ev.binop (Ev.name (by walk_at "lk")) (Ev.list (EvL.cons (Ev.name (by walk_at "lk")) .nil) (show 1 ≤ sizeLine by decide)) (cl_addLst ?_)) (EvL.cons (Ev.binop (Ev.name (by walk_at "lk"))
        (Ev.binop (Ev.unary Ev.int cl_neg) (Ev.callB (by walk_at "g") (by walk_at "g") (by walk_at "g") (EvL.cons (d := .lst ((p.1.filter fun x => decide (k < x)).map fun (k : Nat) => D.int (k : Int))) ?_ .nil) (cl_lenLst ?_)) (cl_pow (by omega) ?_ (by decide))) (cl_mul ?_)) .nil)) (show 2 ≤ sizeLine by decide))
      · rw [List.length_map]; exact Nat.le_trans (m := 20) (by simp; omega) (by decide)
      · refine Ev.comp' (ρ' := [(Str.ofString "k", .int (k : Int))]) (by kernel_rfl) (Itr.of (Ev.name (by walk_at "lk")) (Its.list PlainT.name))
          (Cq.map (fun d => match d with | .int x => if (k : Int) < x then [.int x] else [] | _ => []) ?_ (by walk_at "st") (fun d => by walk_at "sub") fun d hd => ?_) (by decide +kernel) (by rw [List.length_map]; exact Nat.le_trans (m := 20) (by omega) (by decide))
        · clear hp hl hq hf e hk
          induction p.1 with
          | nil => rfl
          | cons a r ih =>
            rw [List.map_cons, List.flatMap_cons, ih, List.filter_cons]
            by_cases h : k < a
            · have h' : (k : Int) < (a : Int) := by omega
              simp [h, h']
            · have h' : ¬ (k : Int) < (a : Int) := by omega
              simp [h, h']
        · obtain ⟨x, hx, rfl⟩ := List.mem_map.mp hd
          refine ⟨decide ((k : Int) < (x : Int)), Tq.one (Ts.compare (Ev.name (by walk_at "lk")) (Ev.name (by walk_at "lk")) cl_gt), ?_⟩
          by_cases h : (k : Int) < (x : Int)
          · exact .inl ⟨decide_eq_true h, _, if_pos h, Ev.name (by walk_at "lk")⟩
          · exact .inr ⟨decide_eq_false h, if_neg h⟩
      · rw [List.length_map]; omega
      · rw [List.length_map]; omega
      · refine IntMulOk.of_right ?_
        rcases pow1 (((p.1.filter fun x => decide (k < x)).map fun (k : Nat) => D.int (k : Int)).length : Int).toNat with h | h <;> rw [h] <;> decide +kernel
end
end
end Mine
set_option maxRecDepth 100000
set_option Elab.async false
set_option linter.unusedVariables false
set_option maxHeartbeats 1000000
namespace Mine
open PySem PySem.W PySem.Calls PyProof.Rows
noncomputable section
local macro_rules | `(tactic| walk_at "lk") => `(tactic| first | exact lk_hit (by decide +kernel) | (refine lk_miss (by decide +kernel) ?_; walk_at "lk"))
local macro_rules | `(tactic| walk_at "sub") => `(tactic| first | exact Sub.nil | (refine Sub.cons (by walk_at "lk") ?_; walk_at "sub"))
local macro_rules | `(tactic| walk_at "st") => `(tactic| first | exact Or.inl (by decide +kernel) | exact Or.inr (by decide +kernel))
local macro_rules | `(tactic| walk_at "g") => `(tactic| first | decide +kernel | (intro P; kernel_rfl))
section
variable {w : World} {n : Nat} {sc st : Scope} {ρ : Rho}
theorem ints_items {X : Addr → Prop} {h : Heap} : ∀ {vs : List Value} {ns : List Int}, Reps w X h vs (ns.map D.int) → ∃ xs : Array (Int × Tok), vs.toArray = intItems xs ∧ xs.toList.map (·.1) = ns
  | _, [], r => by cases r; exact ⟨#[], by simp [intItems], rfl⟩
  | _, a :: ns, r => by
    rw [List.map_cons] at r
    cases r with
    | cons x r =>
      cases x
      obtain ⟨xs, e1, e2⟩ := ints_items r
      refine ⟨#[(a, by assumption)] ++ xs, ?_, by simp [e2]⟩
      apply Array.toList_inj.mp
      have := congrArg Array.toList e1
      simp [intItems] at this ⊢
      exact this
theorem cl_sumLst {ns : List Int} : Cl w n (fun vs => call (.builtin "sum") vs) [.lst (ns.map D.int)] (.int ns.sum) := fun A X s vs hA _ _ r => by
  obtain ⟨v, rfl, a⟩ := r.one
  obtain ⟨l, us, k, rfl, hX, hg, rs⟩ := list_of_rep a
  obtain ⟨xs, e1, e2⟩ := ints_items rs
  refine sum_intListG hA.hd (e1 ▸ isList_of hg) fun h' tk t' hk => ⟨⟨⟨_, _, rfl⟩, hk⟩, ?_⟩
  have : preSum (numAt xs) xs.size = ns.sum := by rw [preSum_eq, List.take_of_length_le (by simp), e2]
  rw [this]; exact .int _ _
theorem cl_sumTup {ns : List Int} : Cl w n (fun vs => call (.builtin "sum") vs) [.tup (ns.map D.int)] (.int ns.sum) := fun A X s vs hA _ _ r => by
  obtain ⟨v, rfl, a⟩ := r.one
  obtain ⟨l, us, k, rfl, hX, hg, rs⟩ := tuple_of_rep a
  obtain ⟨xs, e1, e2⟩ := ints_items rs
  have hne : l ≠ s.heap.objs.size := Nat.ne_of_lt (Heap.lt_size hg)
  refine call_sum_walkG (wpAny_pyIter_tuple (isTuple_of hg) ?_)
  refine ⟨_, _, _, _, _, _, numAt xs, rfl, Walks.tuple (A := A.in1) hA.hd _ l hne us.toArray, ⟨⟨_, Heap.get?_push_size _ rfl, rfl, rfl⟩, isTuple_of (Heap.get?_push_of_some _ hg)⟩, ?_, (fun i v hv => intItems_at (by rw [← e1]; exact hv)), fun h' tk t' hk => ⟨⟨⟨_, _, rfl⟩, fun b o e => hk b o ?_ (Heap.get?_push_of_some _ e)⟩, ?_⟩⟩
  · intro b hb
    have hl : l < s.heap.objs.size := Heap.lt_size hg
    rw [size_push']
    rcases List.mem_cons.mp hb with rfl | hb
    · exact Nat.lt_succ_self _
    · rw [List.mem_singleton.mp hb]; exact Nat.lt_succ_of_lt hl
  · simp; exact Nat.ne_of_lt (Heap.lt_size e)
  · have h2 : us.toArray.size = xs.size := by rw [e1]; simp [intItems]
    have : preSum (numAt xs) us.toArray.size = ns.sum := by rw [h2, preSum_eq, List.take_of_length_le (by simp), e2]
    rw [this]; exact .int _ _
theorem cl_minLst {ns : List Int} {m : Int} (hne : 0 < ns.length) (hm : m ∈ ns) (hmin : ∀ a ∈ ns, m ≤ a) : Cl w n (fun vs => call (.builtin "min") vs) [.lst (ns.map D.int)] (.int m) := fun A X s vs hA _ _ r => by
  obtain ⟨v, rfl, a⟩ := r.one
  obtain ⟨l, us, k, rfl, hX, hg, rs⟩ := list_of_rep a
  obtain ⟨xs, e1, e2⟩ := ints_items rs
  have hsz : xs.size = ns.length := by rw [← e2]; simp
  refine min_intList hA.hd (e1 ▸ isList_of hg) (by omega) fun v h' tk hv hk => ?_
  obtain ⟨t, rfl⟩ := intItems_at hv
  obtain ⟨h1, h2⟩ := argBest_lt (numAt xs) (xs.size - 1)
  have hmem : numAt xs (argBest (fun i j => decide (numAt xs i < numAt xs j)) (xs.size - 1)) ∈ ns := by
    rw [← e2, numAt_eq]; exact getD_mem (by rw [List.length_map, Array.length_toList]; omega)
  have hle : numAt xs (argBest (fun i j => decide (numAt xs i < numAt xs j)) (xs.size - 1)) ≤ m := by
    rw [← e2] at hm
    obtain ⟨j, hj, rfl⟩ := mem_getD hm
    rw [List.length_map, Array.length_toList] at hj
    rw [← numAt_eq]; exact h2 j (by omega)
  have : numAt xs (argBest (fun i j => decide (numAt xs i < numAt xs j)) (xs.size - 1)) = m := Int.le_antisymm hle (hmin _ hmem)
  rw [this]
  exact ⟨⟨⟨_, _, rfl⟩, hk⟩, .int _ _⟩
theorem min_ex : ∀ (ns : List Int), 0 < ns.length → ∃ m, m ∈ ns ∧ ∀ a ∈ ns, m ≤ a
  | [a], _ => ⟨a, by simp, by simp⟩
  | a :: b :: r, _ => by
    obtain ⟨m, h1, h2⟩ := min_ex (b :: r) (by simp)
    by_cases h : a ≤ m
    · exact ⟨a, by simp, fun c hc => (List.mem_cons.mp hc).elim (fun e => by omega) fun q => by have := h2 c q; omega⟩
    · exact ⟨m, List.mem_cons_of_mem _ h1, fun c hc => (List.mem_cons.mp hc).elim (fun e => by omega) fun q => h2 c q⟩
noncomputable def stepsW (b e o : List Nat) : List Int := (List.range b.length).map fun k => ((e.getD k 0 : Nat) : Int) + (k : Int) - ((b.getD (o.getD k 0) 0 : Nat) : Int) - ((o.getD k 0 : Nat) : Int)
noncomputable def divs (a : Int) (x : Int) : Int := a.fdiv (fact x.toNat)
noncomputable def aloneW (st : List Int) : Int := st.foldl divs (fact st.sum.toNat)
noncomputable def wayStep (b e : List Nat) (a : Int) (p : List Nat × Int) : Int := if (stepsW b e p.1).all (fun x => decide (0 ≤ x)) then a + p.2 * aloneW (stepsW b e p.1) else a
noncomputable def waysW (b e : List Nat) (os : List (List Nat × Int)) : Int := os.foldl (wayStep b e) 0
noncomputable def foldOk : List Int → Int → Bool
  | [], _ => true
  | x :: r, a => decide (0 ≤ x) && decide (x < 1000) && decide (fact x.toNat ≠ 0) && decide ((fact x.toNat).natAbs < 1073741824) && foldOk r (divs a x)
theorem foldOk_at : ∀ (l : List Int) (a : Int) (i : Nat) (x : Int), foldOk l a = true → l[i]? = some x → 0 ≤ x ∧ x < 1000 ∧ fact x.toNat ≠ 0 ∧ (fact x.toNat).natAbs < 1073741824
  | [], _, _, _, _, h => by simp at h
  | y :: r, a, 0, x, h, e => by
    simp only [foldOk, Bool.and_eq_true, decide_eq_true_eq] at h
    have : y = x := by simpa using e
    subst this
    exact ⟨h.1.1.1.1, h.1.1.1.2, h.1.1.2, h.1.2⟩
  | y :: r, a, i + 1, x, h, e => by
    simp only [foldOk, Bool.and_eq_true, decide_eq_true_eq] at h
    have := foldOk_at r (divs a y) i x h.2 (by simpa using e)
    simpa using this
noncomputable def wayOk (b e : List Nat) (p : List Nat × Int) : Bool := p.1.length == b.length && p.1.all (fun k => decide (k < b.length)) && (p.2 == 1 || p.2 == -1) &&
  (!(stepsW b e p.1).all (fun x => decide (0 ≤ x)) || (decide (0 ≤ (stepsW b e p.1).sum) && decide ((stepsW b e p.1).sum < 1000) && foldOk (stepsW b e p.1) (fact (stepsW b e p.1).sum.toNat)))
noncomputable def waysOk (b e : List Nat) (os : List (List Nat × Int)) : Bool := e.length == b.length && decide (0 < b.length) && decide (b.length ≤ 100) && os.all (wayOk b e)
theorem get_row {r : List Nat} {k : Nat} (h : k < r.length) (hz : r.length ≤ 100) : Cl w n GetI [rowD r, .int (k : Int)] (.int ((r.getD k 0 : Nat) : Int)) := by
  refine get_tup (k := k) (by omega) (by omega) (by rw [seqIndex_nat (by omega) (by rw [List.length_map]; omega)]; rfl) ?_
  rw [List.getElem?_map, List.getElem?_eq_getElem h, List.getD_eq_getElem?_getD, List.getElem?_eq_getElem h]; rfl
theorem get_ord {r : List Nat} {k : Nat} (h : k < r.length) (hz : r.length ≤ 100) : Cl w n GetI [.lst (r.map fun (k : Nat) => D.int (k : Int)), .int (k : Int)] (.int ((r.getD k 0 : Nat) : Int)) := by
  refine get_lst (by omega) (by omega) ?_
  rw [Int.toNat_natCast, List.getElem?_map, List.getElem?_eq_getElem h, List.getD_eq_getElem?_getD, List.getElem?_eq_getElem h]; rfl
theorem foldl_take {α β : Type} (f : β → α → β) (a : β) (l : List α) (i : Nat) (x : α) (h : l[i]? = some x) : (l.take (i + 1)).foldl f a = f ((l.take i).foldl f a) x := by
  rw [List.take_add_one, h, List.foldl_append]; rfl
theorem fn_ways {b e : List Nat} {os : List (List Nat × Int)} (ok : waysOk b e os = true) : Fn w (n + 2) 151 [rowD b, rowD e, .lst (os.map ordD)] (.int (waysW b e os)) := by
  simp only [waysOk, Bool.and_eq_true, beq_iff_eq, decide_eq_true_eq, List.all_eq_true] at ok
  obtain ⟨⟨⟨hel, hb0⟩, hb1⟩, hall⟩ := ok
  refine Fn.mk (o := o151f) (xs := [Str.ofString "begin", Str.ofString "end", Str.ofString "orders"]) (fun P => by kernel_rfl) (fun P => rfl) (fun P => ⟨150, o150f P, _, _, rfl, by kernel_rfl, rfl, rfl⟩) rfl rfl rfl rfl rfl ?_ (by decide +kernel) (by decide +kernel) (by decide +kernel) rfl ?_
  · exact all3 fun a b c => by kernel_rfl
  · refine Exs.cons (Ex.assign Ev.int (by walk_at "st") (by intros; rfl)) ?_
    refine Exs.cons (ρ' := [(Str.ofString "ways", .int (waysW b e os))]) (Stm.sub (Ex.for' (os.map ordD) (fun i => [(Str.ofString "ways", .int ((os.take i).foldl (wayStep b e) 0)), (Str.ofString "begin", rowD b), (Str.ofString "end", rowD e)]) rfl
      (Itr.of (Ev.name (by walk_at "lk")) (Its.list PlainT.tuple)) (by walk_at "sub") (fun i d hd => ?_)) (by rw [List.length_map, List.take_length]; walk_at "sub")) (Exs.last (Ex.ret (Ev.name (by walk_at "lk"))))
    rw [List.getElem?_map] at hd
    cases hx : os[i]? with
    | none => rw [hx] at hd; cases hd
    | some p =>
      rw [hx] at hd; cases hd
      have hp := hall p (List.mem_of_getElem? hx)
      simp only [wayOk, Bool.and_eq_true, Bool.or_eq_true, beq_iff_eq, decide_eq_true_eq, List.all_eq_true, Bool.not_eq_true'] at hp
      obtain ⟨⟨⟨hpl, hpk⟩, hps⟩, hpf⟩ := hp
      rw [foldl_take (wayStep b e) 0 os i p hx]
      generalize (os.take i).foldl (wayStep b e) 0 = acc
      refine ⟨_, As.pair (a := .lst (p.1.map fun (k : Nat) => D.int (k : Int))) (b := .int p.2) (by walk_at "st") (by walk_at "st"), ?_⟩
      refine Exs.cons (ρ' := [(Str.ofString "steps", .lst ((stepsW b e p.1).map D.int)), (Str.ofString "sign", .int p.2), (Str.ofString "ways", .int acc), (Str.ofString "begin", rowD b), (Str.ofString "end", rowD e)])
        (Stm.sub (ρ₁ := (Str.ofString "steps", .lst ((stepsW b e p.1).map D.int)) :: (Str.ofString "sign", .int p.2) :: (Str.ofString "order", .lst (p.1.map fun (k : Nat) => D.int (k : Int))) :: [(Str.ofString "ways", .int acc), (Str.ofString "begin", rowD b), (Str.ofString "end", rowD e)])
        (Ex.assignComp' (ρ' := [(Str.ofString "order", .lst (p.1.map fun (k : Nat) => D.int (k : Int))), (Str.ofString "begin", rowD b), (Str.ofString "end", rowD e)]) (by kernel_rfl) (by walk_at "st")
          (Itr.range (N := (b.length : Int)) (by walk_at "g") (by walk_at "g") (by walk_at "g") ?_ (by omega) (by omega)) ?_ (by decide +kernel) ?_ (by decide +kernel)) (by walk_at "sub")) ?_
      · have := @cl_lenTup w (n + 1) (b.map fun (k : Nat) => D.int (k : Int)) (by rw [List.length_map]; omega)
        rw [List.length_map] at this
        exact Ev.callB (by walk_at "g") (by walk_at "g") (by walk_at "g") (EvL.cons (Ev.name (by walk_at "lk")) .nil) this
      · refine Cq.map (fun d => match d with | .int k => [D.int (((e.getD k.toNat 0 : Nat) : Int) + k - ((b.getD (p.1.getD k.toNat 0) 0 : Nat) : Int) - ((p.1.getD k.toNat 0 : Nat) : Int))] | _ => []) ?_ (by walk_at "st") (fun d => by walk_at "sub") fun d hd => ?_
        · unfold rangeD stepsW
          rw [List.flatMap_map, List.map_map, Int.toNat_natCast]
          exact flat1 (fun (k : Nat) => D.int (((e.getD k 0 : Nat) : Int) + (k : Int) - ((b.getD (p.1.getD k 0) 0 : Nat) : Int) - ((p.1.getD k 0 : Nat) : Int))) _
        · obtain ⟨k, hk, rfl⟩ := List.mem_map.mp hd
          have hk' : k < b.length := by simpa using hk
          have hok : p.1.getD k 0 < b.length := hpk _ (by rw [List.getD_eq_getElem?_getD, List.getElem?_eq_getElem (by omega)]; exact List.getElem_mem _)
          refine ⟨true, Tq.nil, .inl ⟨rfl, _, rfl, ?_⟩⟩
          rw [Int.toNat_natCast]
          exact Ev.binop (Ev.binop (Ev.binop (Ev.item (T := "tuple") (Ev.name (by walk_at "lk")) (Ev.name (by walk_at "lk")) F.slot_tuple_getitem.lookup ty_tup (get_row (by omega) (by omega))) (Ev.name (by walk_at "lk")) cl_add)
            (Ev.item (T := "tuple") (Ev.name (by walk_at "lk")) (Ev.item (T := "list") (Ev.name (by walk_at "lk")) (Ev.name (by walk_at "lk")) F.slot_list_getitem.lookup ty_lst (get_ord (by omega) (by omega))) F.slot_tuple_getitem.lookup ty_tup (get_row hok (by omega))) cl_sub)
            (Ev.item (T := "list") (Ev.name (by walk_at "lk")) (Ev.name (by walk_at "lk")) F.slot_list_getitem.lookup ty_lst (get_ord (by omega) (by omega))) cl_sub
      · unfold stepsW; rw [List.length_map, List.length_map, List.length_range]; exact Nat.le_trans hb1 (by decide)
      · have hsl : 0 < (stepsW b e p.1).length := by unfold stepsW; rw [List.length_map, List.length_range]; exact hb0
        unfold wayStep
        obtain ⟨m, hm, hmin⟩ := min_ex _ hsl
        generalize hst : stepsW b e p.1 = st at *
        by_cases hz : 0 ≤ m
        · have hall' : (st.all fun x => decide (0 ≤ x)) = true := List.all_eq_true.mpr fun x hx => decide_eq_true (Int.le_trans hz (hmin x hx))
          rw [if_pos hall']
          rw [hall'] at hpf
          obtain ⟨⟨hs0, hs1⟩, hfo⟩ := hpf.resolve_left (by simp)
          obtain ⟨N, hN⟩ := Int.eq_ofNat_of_zero_le hs0
          have ea : aloneW st = st.foldl divs (fact N) := by unfold aloneW; rw [hN]; rfl
          rw [hN] at hfo
          have hfo : foldOk st (fact N) = true := hfo
          rw [ea]
          refine Exs.cons (Ex.ifT (decide_eq_true hz ▸ Ts.compare (b := .int 0) (Ev.callB (d := .int m) (by walk_at "g") (by walk_at "g") (by walk_at "g") (EvL.cons (Ev.name (by walk_at "lk")) .nil) (cl_minLst hsl hm hmin)) Ev.int cl_ge)
            (Stm.sub (ρ₁ := (Str.ofString "ways", .int (acc + p.2 * st.foldl divs (fact N))) :: [(Str.ofString "alone", .int (st.foldl divs (fact N))), (Str.ofString "steps", .lst (st.map D.int)), (Str.ofString "sign", .int p.2), (Str.ofString "ways", .int acc), (Str.ofString "begin", rowD b), (Str.ofString "end", rowD e)])
              (Exs.cons (Ex.assign (d := .int (fact N)) (Ev.callF (by walk_at "g") (by walk_at "g") (fun P => ⟨o141f P, _, by kernel_rfl, rfl⟩) (EvL.cons (d := .int ((N : Nat) : Int)) ?_ .nil) (fn_product (by omega))) (by walk_at "st") (by intros; rfl))
              (Exs.cons (Stm.sub (Ex.for' (st.map D.int) (fun i => [(Str.ofString "alone", .int ((st.take i).foldl divs (fact N))), (Str.ofString "steps", .lst (st.map D.int)), (Str.ofString "sign", .int p.2), (Str.ofString "ways", .int acc), (Str.ofString "begin", rowD b), (Str.ofString "end", rowD e)]) rfl
                (Itr.of (Ev.name (by walk_at "lk")) (Its.list PlainT.name)) (by walk_at "sub") (fun i d hd => ?_)) (by rw [List.length_map, List.take_length]; walk_at "sub"))
              (Exs.cons (Ex.assign (Ev.binop (Ev.name (by walk_at "lk")) (Ev.binop (Ev.name (by walk_at "lk")) (Ev.name (by walk_at "lk")) (cl_mul (IntMulOk.of_left ?_))) cl_add) (by walk_at "st") (by intros; rfl)) Exs.nil))) (by walk_at "sub"))) Exs.nil
          · have h := @cl_sumLst w (n + 1) st
            rw [hN] at h
            exact Ev.callB (by walk_at "g") (by walk_at "g") (by walk_at "g") (EvL.cons (Ev.name (by walk_at "lk")) .nil) h
          · rw [List.getElem?_map] at hd
            cases hy : st[i]? with
            | none => rw [hy] at hd; cases hd
            | some x =>
              rw [hy] at hd; cases hd
              obtain ⟨x0, x1, x2, x3⟩ := foldOk_at st _ i x hfo hy
              rw [foldl_take divs _ st i x hy]
              generalize (st.take i).foldl divs (fact N) = al at *
              obtain ⟨K, rfl⟩ := Int.eq_ofNat_of_zero_le x0
              refine ⟨_, As.name (by walk_at "st"), ?_⟩
              exact Stm.sub (ρ₁ := (Str.ofString "alone", .int (al.fdiv (fact K))) :: (Str.ofString "one", .int (K : Int)) :: [(Str.ofString "alone", .int al), (Str.ofString "steps", .lst (st.map D.int)), (Str.ofString "sign", .int p.2), (Str.ofString "ways", .int acc), (Str.ofString "begin", rowD b), (Str.ofString "end", rowD e)])
                (Exs.cons (Ex.assign (Ev.binop (Ev.name (by walk_at "lk")) (Ev.callF (by walk_at "g") (by walk_at "g") (fun P => ⟨o141f P, _, by kernel_rfl, rfl⟩) (EvL.cons (Ev.name (by walk_at "lk")) .nil) (fn_product (by omega))) (cl_floordiv x2 (PyProof.noPylong_small x3))) (by walk_at "st") (by intros; rfl)) Exs.nil) (by walk_at "sub")
          · rcases hps with h | h <;> rw [h] <;> decide +kernel
        · have hall' : (st.all fun x => decide (0 ≤ x)) = false := by
            cases h : (st.all fun x => decide (0 ≤ x)) with
            | false => rfl
            | true => exact absurd (of_decide_eq_true (List.all_eq_true.mp h m hm)) hz
          rw [if_neg (by rw [hall']; simp)]
          exact Stm.sub (ρ₁ := [(Str.ofString "steps", .lst (st.map D.int)), (Str.ofString "sign", .int p.2), (Str.ofString "ways", .int acc), (Str.ofString "begin", rowD b), (Str.ofString "end", rowD e)]) (Exs.cons (Ex.ifF (decide_eq_false hz ▸ Ts.compare (b := .int 0) (Ev.callB (d := .int m) (by walk_at "g") (by walk_at "g") (by walk_at "g") (EvL.cons (Ev.name (by walk_at "lk")) .nil) (cl_minLst hsl hm hmin)) Ev.int cl_ge) Exs.nil) Exs.nil) (by walk_at "sub")
end
end
end Mine
set_option maxRecDepth 100000
set_option Elab.async false
set_option linter.unusedVariables false
set_option maxHeartbeats 1000000
namespace Mine
open PySem PySem.W PySem.Calls PyProof.Rows
noncomputable section
local macro_rules | `(tactic| walk_at "lk") => `(tactic| first | exact lk_hit (by decide +kernel) | (refine lk_miss (by decide +kernel) ?_; walk_at "lk"))
local macro_rules | `(tactic| walk_at "sub") => `(tactic| first | exact Sub.nil | (refine Sub.cons (by walk_at "lk") ?_; walk_at "sub"))
local macro_rules | `(tactic| walk_at "st") => `(tactic| first | exact Or.inl (by decide +kernel) | exact Or.inr (by decide +kernel))
local macro_rules | `(tactic| walk_at "g") => `(tactic| first | decide +kernel | (intro P; kernel_rfl))
section
variable {w : World} {n : Nat} {sc st : Scope} {ρ : Rho}
theorem Ex.assignCompN {x : Str} {p q : Pos} {elt tgt iter : Expr} {ifs : List Expr} {gens : List Comprehension} {scope : Scope} {pos : Pos} {ds outs : List D} {ρ' : Rho} (hρ : inner scope ρ = ρ') (hx : Storable st x) (hi : Itr w n sc ρ tgt iter ds)
    (hc : Cq w n (relabS scope sc) scope (.ListComp elt (⟨tgt, iter, ifs, 0⟩ :: gens) scope pos) 0 tgt ρ' ds outs) (ok : compOk scope sc = true) (hz : outs.length ≤ sizeLine)
    (hsw : (sc.kind == .function && sc.names.lookup x == some .local && p.line == pos.line && !(scope.names.any fun (n, k) => n == x && (k == .local || k == .cell))) = false) (hk : (sc.kind == .function) = true)
    (hs : ∀ env x, foldedSetIterable iter env x = pure x := by intros; rfl) :
    Ex w n sc st ρ (.Assign [.Name x p] (.ListComp elt (⟨tgt, iter, ifs, 0⟩ :: gens) scope pos) q) (.nx ((x, .lst outs) :: ρ)) :=
  Ex.assign (Ev.comp' hρ hi hc ok hz hs) hx (fun env he => by
    subst he
    show (pure (env.blockKind == .function && env.kindOf x == some .local && p.line == pos.line && !(scope.names.any fun (n, k) => n == x && (k == .local || k == .cell))) : Sem Bool) = pure false
    have e : (env.blockKind == .function) = (env.scope.kind == .function) := by
      have hk : env.scope.kind = .function := by simpa using hk
      unfold Env.blockKind
      rw [hk]; rfl
    rw [e]
    exact congrArg pure hsw)
theorem cl_isNotB {a b : Bool} : Cl w n (Cmp .IsNot) [.bool a, .bool b] (.bool (!(a == b))) := fun A X s vs _ _ _ r => by
  obtain ⟨v, u, rfl, x, y⟩ := r.two
  cases x; cases y
  refine wpAny_isNot_plain (by cases a <;> cases b <;> rfl) ⟨.refl, ?_⟩
  have : ((Value.bool a == Value.bool b) : Bool) = (a == b) := by cases a <;> cases b <;> rfl
  rw [this]
  exact .bool _
theorem Ts.chain {l r1 r2 : Expr} {op1 op2 : CmpOp} {pos : Pos} {a b c : D} {x y : Bool} (hl : Ev w n sc ρ l a) (h1 : Ev w n sc ρ r1 b) (o1 : Cl w n (Cmp op1) [a, b] (.bool x)) (h2 : Ev w n sc ρ r2 c) (o2 : Cl w n (Cmp op2) [b, c] (.bool y))
    (hm : lastMarks [op1, op2] [r1, r2] = false := by with_unfolding_all rfl) : Ts w n sc ρ (.Compare l [op1, op2] [r1, r2] pos) (x && y) := fun A env X s he hA S => by
  refine isTrue_chain (wpAny_mono (hl A env X s he hA S) (fun v s₁ h₁ => test_link (wpAny_mono (h1 A env X s₁ he hA (S.ext h₁.1)) (fun u s₂ h₂ => ?_) fun _ _ x => x)) fun _ _ x => x) hm
  have S2 := (S.ext h₁.1).ext h₂.1
  refine wpAny_mono (o1 A X s₂ [v, u] hA S2.base S2.xok (.cons (h₁.2.ext h₂.1) (.cons h₂.2 .nil))) (fun z s₃ h₃ => ?_) fun _ _ x => x
  obtain ⟨e3, r3⟩ := h₃
  cases r3
  have E3 := (h₁.1.trans h₂.1).trans e3
  cases x with
  | false => exact wpAny_truthy_bool ⟨E3, rfl⟩
  | true =>
    refine wpAny_truthy_bool ?_
    show wpAny _ _ (testChain pos u [op2] [eval r2 env]) _ _ _
    refine test_last (wpAny_mono (h2 A env X s₃ he hA (S.ext E3)) (fun z2 s₄ h₄ => ?_) fun _ _ x => x)
    have S4 := (S.ext E3).ext h₄.1
    refine wpAny_mono (o2 A X s₄ [u, z2] hA S4.base S4.xok (.cons ((h₂.2.ext e3).ext h₄.1) (.cons h₄.2 .nil))) (fun z3 s₅ h₅ => ?_) fun _ _ x => x
    obtain ⟨e5, r5⟩ := h₅
    cases r5
    exact wpAny_truthy_bool ⟨(E3.trans h₄.1).trans e5, rfl⟩
theorem join_lists : ∀ l : List (List Nat), Txt.join (Str.ofString "") (l.map fun c => (⟨c.toArray⟩ : Str)) = ⟨l.flatten.toArray⟩ := by
  intro l
  unfold Txt.join
  rw [StrLaws.glued_eq_join]
  have e0 : (Str.ofString "").cps.toList = [] := by decide +kernel
  induction l with
  | nil => rfl
  | cons c l ih =>
    cases l with
    | nil =>
      apply str_ext
      show c.toArray.toList = _
      simp
    | cons d l =>
      show (⟨c.toArray⟩ : Str) ++ Str.ofString "" ++ Str.join (Str.ofString "") ((d :: l).map fun c => (⟨c.toArray⟩ : Str)) = _
      rw [ih]
      apply str_ext
      show ((c.toArray ++ (Str.ofString "").cps) ++ ((d :: l).flatten).toArray).toList = _
      simp [e0]
theorem join_ok {l : List (List Nat)} {B : Nat} (h : ∀ c ∈ l, c.length ≤ B) (hz : l.length * B ≤ 100000) : JoinOk (Str.ofString "") (l.map fun c => (⟨c.toArray⟩ : Str)) = true := by
  have hj := StrLaws.joinFits (sep := Str.ofString "") (texts := l.map fun c => (⟨c.toArray⟩ : Str)) (B := B) (fun y hy => by
    obtain ⟨c, hc, rfl⟩ := List.mem_map.mp hy
    have := h c hc
    show c.toArray.size ≤ B
    simpa using this) (by
    rw [List.length_map, show (Str.ofString "").length = 0 from by decide +kernel]
    omega)
  unfold JoinOk
  rw [hj]; rfl
theorem range_flat {α β : Type} (g : α → List β) (a0 : α) : ∀ l : List α, (List.range l.length).flatMap (fun i => g (l.getD i a0)) = l.flatMap g := by
  intro l
  have e : (List.range l.length).map (fun i => l.getD i a0) = l := by
    apply List.ext_getElem
    · simp
    · intro i h1 h2; simp [List.getElem?_eq_getElem h2]
  conv => rhs; rw [← e]
  rw [List.flatMap_map]
theorem get_chr {l : List Nat} {i : Nat} (h : i < l.length) (hz : l.length ≤ 100000) : Cl w n GetI [.str ⟨l.toArray⟩, .int (i : Int)] (.str ⟨#[l.getD i 0]⟩) := by
  refine get_str (by simp; omega) ?_
  rw [seqIndex_nat (by omega) (by simp [Str.length]; omega)]
  show l.toArray[((i : Nat) : Int).toNat]? = _
  rw [show ((i : Nat) : Int).toNat = i from rfl, List.getD_eq_getElem?_getD, List.getElem?_eq_getElem h]
  simp [h]
noncomputable def lettersT (m : Nat → List Nat) (text : List Nat) : List Nat := text.flatMap fun (c : Nat) => if isB1 c then [] else m c
noncomputable def codesT (text : List Nat) : List Nat := text.filter fun (c : Nat) => isB1 c
noncomputable def toldD (m : Nat → List Nat) (text : List Nat) : D := .tup [.lst ((lettersT m text).map fun (c : Nat) => D.int ((c : Int) - 97)), .lst (((codesT text).filter fun c => decide (65024 ≤ c) && decide (c < 65040)).map fun (c : Nat) => D.int ((c : Int) - 65024))]
theorem fn_told {text : List Nat} {m : Nat → List Nat} (hl : text.length ≤ 100) (hm : ∀ c ∈ text, isB1 c = false → (m c).length ≤ 100 ∧ Fn w (n + 1) 78 [.str ⟨#[c]⟩] (.str ⟨(m c).toArray⟩)) : Fn w (n + 2) 117 [.str ⟨text.toArray⟩] (toldD m text) := by
  refine Fn.mk (o := o117f) (xs := [Str.ofString "text"]) (fun P => by kernel_rfl) (fun P => rfl) (fun P => ⟨116, o116f P, _, _, rfl, by kernel_rfl, rfl, rfl⟩) rfl rfl rfl rfl rfl ?_ (by decide +kernel) (by decide +kernel) (by decide +kernel) rfl ?_
  · exact all1 fun a => by kernel_rfl
  · have hlen : (⟨text.toArray⟩ : Str).length = text.length := by simp [Str.length]
    have hEv : ∀ (sc : Scope) (ρ : Rho), ρ.lookup (Str.ofString "text") = some (.str ⟨text.toArray⟩) → sc.names.lookup (Str.ofString "len") = some .globalImplicit → sc.names.lookup (Str.ofString "range") = some .globalImplicit → ∀ {x p q r u v z}, Itr w (n + 1) sc ρ (.Name x p) (.Call (.Name (Str.ofString "range") q) [.Call (.Name (Str.ofString "len") r) [.Name (Str.ofString "text") u] [] v] [] z) (rangeD (text.length : Int)) := by
      intro sc ρ h1 h2 h3 x p q r u v z
      refine Itr.range h3 (by walk_at "g") (by walk_at "g") (Ev.callB (b := "len") h2 (by walk_at "g") (by walk_at "g") (EvL.cons (Ev.name h1) .nil) ?_) (by omega) (by omega)
      rw [← hlen]; exact cl_lenStr (by omega)
    refine Exs.cons (ρ' := [(Str.ofString "veiled", .lst (text.map fun (c : Nat) => D.bool (isB1 c))), (Str.ofString "text", .str ⟨text.toArray⟩)]) (Ex.assignCompN (ρ' := []) (by kernel_rfl) (by walk_at "st") (Itr.of (Ev.name (by walk_at "lk")) Its.str)
      (Cq.map (fun d => match d with | .str x => [D.bool (isB1 (x.cps.getD 0 0))] | _ => []) (by rw [List.flatMap_map]; exact flat1 (fun (c : Nat) => D.bool (isB1 c)) text) (by walk_at "st") (fun d => Sub.nil) fun d hd => ?_) (by decide +kernel) (by rw [List.length_map]; exact Nat.le_trans hl (by decide)) (by decide +kernel) (by decide +kernel)) ?_
    · obtain ⟨c, hc, rfl⟩ := List.mem_map.mp hd
      exact ⟨true, Tq.nil, .inl ⟨rfl, _, rfl, Ev.callF (by walk_at "g") (by walk_at "g") (fun P => ⟨o32b P, _, by kernel_rfl, rfl⟩) (EvL.cons (Ev.name (by walk_at "lk")) .nil) fn_in_table⟩⟩
    refine Exs.cons (Ex.ifF (Ts.compare (a := .lst []) (b := .lst []) ?_ (Ev.list .nil (by decide)) (cl_neD (by decide) (by decide) (by decide) (by decide))) Exs.nil) ?_
    · refine Ev.comp' (ρ' := []) (by kernel_rfl) (Itr.of (Ev.name (by walk_at "lk")) (Its.list PlainT.name)) (Cq.map (fun _ => []) (by simp) (by walk_at "st") (fun d => Sub.nil) fun d hd => ?_) (by decide +kernel) (by decide)
      obtain ⟨c, hc, rfl⟩ := List.mem_map.mp hd
      refine ⟨(!(isB1 c == true)) && (!(isB1 c == false)), Tq.one ?_, .inr ⟨by cases isB1 c <;> rfl, rfl⟩⟩
      exact Ts.and2 (Ts.compare (Ev.name (by walk_at "lk")) Ev.bool cl_isNotB) fun _ => Ts.compare (Ev.name (by walk_at "lk")) Ev.bool cl_isNotB
    have hget : ∀ (sc : Scope) (ρ : Rho) (i : Nat), ρ.lookup (Str.ofString "text") = some (.str ⟨text.toArray⟩) → ρ.lookup (Str.ofString "place") = some (.int (i : Int)) → i < text.length → ∀ {p q r}, Ev w (n + 1) sc ρ (.Subscript (.Name (Str.ofString "text") p) (.Name (Str.ofString "place") q) r) (.str ⟨#[text.getD i 0]⟩) := by
      intro sc ρ i h1 h2 hi p q r
      exact Ev.item (T := "str") (Ev.name h1) (Ev.name h2) F.slot_str_getitem.lookup ty_str (get_chr hi (by omega))
    have hgetv : ∀ (sc : Scope) (ρ : Rho) (i : Nat), ρ.lookup (Str.ofString "veiled") = some (.lst (text.map fun (c : Nat) => D.bool (isB1 c))) → ρ.lookup (Str.ofString "place") = some (.int (i : Int)) → i < text.length → ∀ {p q r}, Ev w (n + 1) sc ρ (.Subscript (.Name (Str.ofString "veiled") p) (.Name (Str.ofString "place") q) r) (.bool (isB1 (text.getD i 0))) := by
      intro sc ρ i h1 h2 hi p q r
      refine Ev.item (T := "list") (Ev.name h1) (Ev.name h2) F.slot_list_getitem.lookup ty_lst (get_lst (by omega) (by omega) ?_)
      rw [show ((i : Nat) : Int).toNat = i from rfl, List.getElem?_map, List.getElem?_eq_getElem hi, List.getD_eq_getElem?_getD, List.getElem?_eq_getElem hi]; rfl
    have hf1 : (text.map fun (c : Nat) => if isB1 c then ([] : List Nat) else m c).length ≤ 100 := by rw [List.length_map]; exact hl
    let segs : List (List Nat) := text.flatMap fun (c : Nat) => if isB1 c then [] else [m c]
    have hsegs : segs.flatten = lettersT m text := by
      show (text.flatMap _).flatten = text.flatMap _
      rw [List.flatMap_def, List.flatMap_def, List.flatten_flatten, List.map_map]
      congr 1
      apply List.map_congr_left
      intro c _
      show (if isB1 c then ([] : List (List Nat)) else [m c]).flatten = _
      split <;> simp
    have hsl : segs.length ≤ 100 := Nat.le_trans (flat_le (B := 1) (fun c => by split <;> simp) text) (by omega)
    have hsm : ∀ y ∈ segs, y.length ≤ 100 := fun y hy => by
      obtain ⟨c, hc, q⟩ := List.mem_flatMap.mp hy
      split at q
      · cases q
      · rw [List.mem_singleton.mp q]; exact (hm c hc (by simpa using ‹¬ isB1 c = true›)).1
    refine Exs.cons (ρ' := [(Str.ofString "letters", .str ⟨(lettersT m text).toArray⟩), (Str.ofString "veiled", .lst (text.map fun (c : Nat) => D.bool (isB1 c))), (Str.ofString "text", .str ⟨text.toArray⟩)]) (Ex.assign ?_ (by walk_at "st") (by intros; rfl)) ?_
    · rw [← hsegs, ← join_lists]
      refine Ev.meth (T := "str") Ev.str (by intros; rfl) (by decide) (by rfl) F.plainAttrs_str F.slot_str_join (by kernel_rfl) (fun X s v r => ⟨ty_str X s v r, fun a e => by cases r; cases e⟩) (EvL.cons ?_ .nil) (cl_join (join_ok hsm (by omega)))
      refine Ev.comp' (ρ' := [(Str.ofString "veiled", .lst (text.map fun (c : Nat) => D.bool (isB1 c))), (Str.ofString "text", .str ⟨text.toArray⟩)]) (by kernel_rfl) (hEv _ _ (by walk_at "lk") (by decide +kernel) (by decide +kernel))
        (Cq.map (fun d => match d with | .int i => (fun (c : Nat) => if isB1 c then ([] : List D) else [.str ⟨(m c).toArray⟩]) (text.getD i.toNat 0) | _ => []) ?_ (by walk_at "st") (fun d => by walk_at "sub") fun d hd => ?_) (by decide +kernel) (by rw [List.length_map, List.length_map]; exact Nat.le_trans hsl (by decide))
      · unfold rangeD
        rw [List.flatMap_map, Int.toNat_natCast]
        refine (range_flat (fun (c : Nat) => if isB1 c then ([] : List D) else [.str ⟨(m c).toArray⟩]) 0 text).trans ?_
        show _ = ((text.flatMap _).map _).map _
        rw [List.map_map, List.map_flatMap]
        congr 1; funext c; split <;> rfl
      · obtain ⟨i, hi, rfl⟩ := List.mem_map.mp hd
        have hi' : i < text.length := by simpa using hi
        have hmem : text.getD i 0 ∈ text := by rw [List.getD_eq_getElem?_getD, List.getElem?_eq_getElem hi']; exact List.getElem_mem _
        refine ⟨!isB1 (text.getD i 0), Tq.one (Ts.not (Ts.value (hgetv _ _ i (by walk_at "lk") (by walk_at "lk") hi'))), ?_⟩
        show _ ∨ (_ ∧ (if isB1 (text.getD ((i : Nat) : Int).toNat 0) then ([] : List D) else [.str ⟨(m (text.getD ((i : Nat) : Int).toNat 0)).toArray⟩]) = [])
        rw [show ((i : Nat) : Int).toNat = i from rfl]
        generalize hcc : text.getD i 0 = c at *
        cases hb : isB1 c with
        | true => exact .inr ⟨rfl, rfl⟩
        | false =>
          refine .inl ⟨rfl, .str ⟨(m c).toArray⟩, ?_, ?_⟩
          · show (if isB1 (text.getD ((i : Nat) : Int).toNat 0) then ([] : List D) else [.str ⟨(m (text.getD ((i : Nat) : Int).toNat 0)).toArray⟩]) = _
            rw [show ((i : Nat) : Int).toNat = i from rfl, hcc, hb]; rfl
          · exact Ev.callF (by walk_at "g") (by walk_at "g") (fun P => ⟨o78d P, _, by kernel_rfl, rfl⟩) (EvL.cons (hcc ▸ hget _ _ i (by walk_at "lk") (by walk_at "lk") hi') .nil) (hm c hmem hb).2
    have hcl : (codesT text).length ≤ text.length := List.length_filter_le _ _
    refine Exs.cons (ρ' := [(Str.ofString "codes", .lst ((codesT text).map fun (c : Nat) => D.int (c : Int))), (Str.ofString "letters", .str ⟨(lettersT m text).toArray⟩), (Str.ofString "veiled", .lst (text.map fun (c : Nat) => D.bool (isB1 c))), (Str.ofString "text", .str ⟨text.toArray⟩)])
      (Ex.assignComp' (ρ' := [(Str.ofString "veiled", .lst (text.map fun (c : Nat) => D.bool (isB1 c))), (Str.ofString "text", .str ⟨text.toArray⟩)]) (by kernel_rfl) (by walk_at "st") (hEv _ _ (by walk_at "lk") (by decide +kernel) (by decide +kernel))
        (Cq.map (fun d => match d with | .int i => (fun (c : Nat) => if isB1 c then [D.int (c : Int)] else []) (text.getD i.toNat 0) | _ => []) ?_ (by walk_at "st") (fun d => by walk_at "sub") fun d hd => ?_) (by decide +kernel) (by rw [List.length_map]; exact Nat.le_trans (Nat.le_trans hcl hl) (by decide)) (by decide +kernel)) ?_
    · unfold rangeD
      rw [List.flatMap_map, Int.toNat_natCast]
      refine (range_flat (fun (c : Nat) => if isB1 c then [D.int (c : Int)] else []) 0 text).trans ?_
      unfold codesT
      clear hl hm hlen hEv hget hgetv hf1 hsegs hsl hsm hcl segs
      induction text with
      | nil => rfl
      | cons c r ih =>
        rw [List.flatMap_cons, ih, List.filter_cons]
        cases isB1 c <;> rfl
    · obtain ⟨i, hi, rfl⟩ := List.mem_map.mp hd
      have hi' : i < text.length := by simpa using hi
      refine ⟨isB1 (text.getD i 0), Tq.one (Ts.value (hgetv _ _ i (by walk_at "lk") (by walk_at "lk") hi')), ?_⟩
      have ef : ∀ (c : Nat), text.getD i 0 = c → ((fun (d : D) => match d with | .int i => (fun (c : Nat) => if isB1 c then [D.int (c : Int)] else []) (text.getD i.toNat 0) | _ => []) (D.int (i : Int))) = if isB1 c then [D.int (c : Int)] else [] := fun c h => by
        show (if isB1 (text.getD ((i : Nat) : Int).toNat 0) then [D.int ((text.getD ((i : Nat) : Int).toNat 0 : Nat) : Int)] else []) = _
        rw [show ((i : Nat) : Int).toNat = i from rfl, h]
      generalize hcc : text.getD i 0 = c at *
      cases hb : isB1 c with
      | false => exact .inr ⟨rfl, (ef c rfl).trans (by rw [hb]; rfl)⟩
      | true => exact .inl ⟨rfl, .int (c : Int), (ef c rfl).trans (by rw [hb]; rfl), Ev.callB (by walk_at "g") (by walk_at "g") (by walk_at "g") (EvL.cons (hcc ▸ hget _ _ i (by walk_at "lk") (by walk_at "lk") hi') .nil) cl_ord⟩
    have hll : (lettersT m text).length ≤ 10000 := Nat.le_trans (by rw [← hsegs, List.length_flatten]; exact (show (segs.map List.length).sum ≤ segs.length * 100 from by
        clear hsegs hsl
        generalize segs = l at *
        induction l with
        | nil => simp
        | cons a r ih =>
          have h1 := hsm a (by simp)
          have h2 := ih fun y hy => hsm y (by simp [hy])
          simp only [List.map_cons, List.sum_cons, List.length_cons]
          omega)) (by omega)
    refine Exs.last (Ex.ret (Ev.tuple (EvL.cons ?_ (EvL.cons ?_ .nil)) (by show (2 : Nat) ≤ sizeLine; decide)))
    · refine Ev.comp' (ρ' := []) (by kernel_rfl) (Itr.of (Ev.name (by walk_at "lk")) Its.str) (Cq.map (fun d => match d with | .str x => [D.int (((x.cps.getD 0 0 : Nat) : Int) - 97)] | _ => []) (by rw [List.flatMap_map]; exact flat1 (fun (c : Nat) => D.int ((c : Int) - 97)) (lettersT m text)) (by walk_at "st") (fun d => Sub.nil) fun d hd => ?_) (by decide +kernel) (by rw [List.length_map]; exact Nat.le_trans hll (by decide))
      obtain ⟨c, hc, rfl⟩ := List.mem_map.mp hd
      exact ⟨true, Tq.nil, .inl ⟨rfl, _, rfl, Ev.binop (Ev.callB (by walk_at "g") (by walk_at "g") (by walk_at "g") (EvL.cons (Ev.name (by walk_at "lk")) .nil) cl_ord) Ev.int cl_sub⟩⟩
    · refine Ev.comp' (ρ' := []) (by kernel_rfl) (Itr.of (Ev.name (by walk_at "lk")) (Its.list PlainT.name)) (Cq.map (fun d => match d with | .int c => if (decide (65024 ≤ c) && decide (c < 65040)) = true then [D.int (c - 65024)] else [] | _ => []) ?_ (by walk_at "st") (fun d => Sub.nil) fun d hd => ?_) (by decide +kernel) (by rw [List.length_map]; exact Nat.le_trans (Nat.le_trans (List.length_filter_le _ _) (Nat.le_trans hcl hl)) (by decide))
      · generalize codesT text = l
        induction l with
        | nil => rfl
        | cons c r ih =>
          rw [List.map_cons, List.flatMap_cons, ih, List.filter_cons]
          by_cases h : 65024 ≤ c ∧ c < 65040
          · have h' : 65024 ≤ (c : Int) ∧ (c : Int) < 65040 := by omega
            simp [h.1, h.2, h'.1, h'.2]
          · have h' : ¬ (65024 ≤ (c : Int) ∧ (c : Int) < 65040) := by omega
            have e1 : (decide (65024 ≤ c) && decide (c < 65040)) = false := by simpa using h
            have e2 : (decide (65024 ≤ (c : Int)) && decide ((c : Int) < 65040)) = false := by simpa using h'
            simp only [e1, e2]; rfl
      · obtain ⟨c, hc, rfl⟩ := List.mem_map.mp hd
        refine ⟨decide (65024 ≤ (c : Int)) && decide ((c : Int) < 65040), Tq.one (Ts.chain Ev.int (Ev.name (by walk_at "lk")) cl_le Ev.int cl_lt), ?_⟩
        cases h : (decide (65024 ≤ (c : Int)) && decide ((c : Int) < 65040)) with
        | true => exact .inl ⟨rfl, _, if_pos h, Ev.binop (Ev.name (by walk_at "lk")) Ev.int cl_sub⟩
        | false => exact .inr ⟨rfl, if_neg (by rw [h]; simp)⟩
end
end
end Mine
set_option maxRecDepth 100000
set_option Elab.async false
set_option linter.unusedVariables false
set_option maxHeartbeats 1000000
namespace Mine
open PySem PySem.W PySem.Calls PyProof.Rows
noncomputable section
local macro_rules | `(tactic| walk_at "lk") => `(tactic| first | exact lk_hit (by decide +kernel) | (refine lk_miss (by decide +kernel) ?_; walk_at "lk"))
local macro_rules | `(tactic| walk_at "sub") => `(tactic| first | exact Sub.nil | (refine Sub.cons (by walk_at "lk") ?_; walk_at "sub"))
local macro_rules | `(tactic| walk_at "st") => `(tactic| first | exact Or.inl (by decide +kernel) | exact Or.inr (by decide +kernel))
local macro_rules | `(tactic| walk_at "g") => `(tactic| first | decide +kernel | (intro P; kernel_rfl))
section
variable {w : World} {n : Nat} {sc st : Scope} {ρ : Rho}
noncomputable abbrev Lv := List (List Nat × Nat)
noncomputable def bD (L : Lv) : List (Str × D) := L.map fun p => (⟨p.1.toArray⟩, .bytes (apB p.2).toArray)
/-- the dict's pairs are the level's -/
inductive Byt : List (Str × Value) → Lv → Prop
  | nil : Byt [] []
  | cons {us : List (Str × Value)} {L : Lv} (t : List Nat) (c : Nat) (tk : Tok) : Byt us L → Byt ((⟨t.toArray⟩, .bytes (apB c).toArray tk) :: us) ((t, c) :: L)
theorem Byt.keys : ∀ {us : List (Str × Value)} {L : Lv}, Byt us L → us.map (·.1) = (bD L).map (·.1)
  | _, _, .nil => rfl
  | _, _, .cons t c tk r => by unfold bD; rw [List.map_cons, List.map_cons, List.map_cons, Byt.keys r]; rfl
theorem Byt.reps {X : Addr → Prop} {h : Heap} : ∀ {us : List (Str × Value)} {L : Lv}, Byt us L → Reps w X h (us.map (·.2)) ((bD L).map (·.2))
  | _, _, .nil => .nil
  | _, _, .cons t c tk r => .cons (.bytes _ _) (Byt.reps r)
theorem Byt.length : ∀ {us : List (Str × Value)} {L : Lv}, Byt us L → us.length = L.length
  | _, _, .nil => rfl
  | _, _, .cons t c tk r => by rw [List.length_cons, List.length_cons, Byt.length r]
theorem str_inj {a b : List Nat} : ((⟨a.toArray⟩ : Str) = ⟨b.toArray⟩) ↔ a = b := by
  constructor
  · intro h
    have := congrArg (fun x : Str => x.cps.toList) h
    simpa using this
  · rintro rfl; rfl
noncomputable def storeL (L : Lv) (t : List Nat) (c : Nat) : Lv := if L.any (fun p => decide (p.1 = t)) then L.map (fun p => if p.1 = t then (p.1, c) else p) else L ++ [(t, c)]
theorem Byt.any {t : List Nat} : ∀ {us : List (Str × Value)} {L : Lv}, Byt us L → us.any (fun kv => decide (kv.1 = ⟨t.toArray⟩)) = L.any (fun p => decide (p.1 = t))
  | _, _, .nil => rfl
  | _, _, .cons u c tk r => by
    rw [List.any_cons, List.any_cons, Byt.any r]
    simp only [str_inj]
theorem Byt.repl {t : List Nat} {c : Nat} {tk : Tok} : ∀ {us : List (Str × Value)} {L : Lv}, Byt us L → Byt (us.map fun kv => if kv.1 = ⟨t.toArray⟩ then (kv.1, .bytes (apB c).toArray tk) else kv) (L.map fun p => if p.1 = t then (p.1, c) else p)
  | _, _, .nil => .nil
  | _, _, .cons u d tk' r => by
    rw [List.map_cons, List.map_cons]
    by_cases h : u = t
    · rw [if_pos (str_inj.mpr h), if_pos h]; exact .cons _ _ _ (Byt.repl r)
    · rw [if_neg (fun q => h (str_inj.mp q)), if_neg h]; exact .cons _ _ _ (Byt.repl r)
theorem Byt.snoc {t : List Nat} {c : Nat} {tk : Tok} : ∀ {us : List (Str × Value)} {L : Lv}, Byt us L → Byt (us ++ [(⟨t.toArray⟩, .bytes (apB c).toArray tk)]) (L ++ [(t, c)])
  | _, _, .nil => .cons _ _ _ .nil
  | _, _, .cons u d tk' r => .cons _ _ _ (Byt.snoc r)
theorem Byt.stored {t : List Nat} {c : Nat} {tk : Tok} {us : List (Str × Value)} {L : Lv} (b : Byt us L) : Byt (PySem.stored us ⟨t.toArray⟩ (.bytes (apB c).toArray tk)) (storeL L t c) := by
  unfold PySem.stored storeL
  rw [b.any]
  split
  · exact b.repl
  · exact b.snoc
theorem lookup_bD {t : List Nat} : ∀ (L : Lv), (bD L).lookup ⟨t.toArray⟩ = (L.lookup t).map fun c => D.bytes (apB c).toArray
  | [] => rfl
  | (u, c) :: L => by
    unfold bD
    rw [List.map_cons, List.lookup_cons, List.lookup_cons]
    have e : ((⟨t.toArray⟩ : Str) == ⟨u.toArray⟩) = (t == u) := by
      by_cases h : t = u
      · subst h; simp
      · have h' : ¬ ((⟨t.toArray⟩ : Str) = ⟨u.toArray⟩) := fun q => h (str_inj.mp q)
        rw [beq_eq_false_iff_ne.mpr h', beq_eq_false_iff_ne.mpr h]
    show (match (⟨t.toArray⟩ : Str) == ⟨u.toArray⟩ with | true => _ | false => _) = _
    rw [e]
    cases t == u with
    | true => rfl
    | false => exact lookup_bD L
/-- a frame at work on a dict of its own at a -/
structure Sd (w : World) (env : Env) (X : Addr → Prop) (h : Heap) (ρ : Rho) (a : Addr) (L : Lv) : Prop where
  sees : Sees w env X h ρ
  hx : X a
  sys : (a == sysModules) = false
  dict : ∃ us, h.DictOf (PySem.strKind pw w) a us ∧ Byt us L
  nc : ∀ x c, env.cells.lookup x = some c → c ≠ a
theorem dict_at {h h' : Heap} {a : Addr} {L : Lv} (k : ∀ o, h.get? a = some o → h'.get? a = some o) (d : ∃ us, h.DictOf (PySem.strKind pw w) a us ∧ Byt us L) : ∃ us, h'.DictOf (PySem.strKind pw w) a us ∧ Byt us L :=
  let ⟨us, x, y⟩ := d; ⟨us, DictOf_at x k, y⟩
noncomputable def StmD (w : World) (n : Nat) (sc st : Scope) (a : Addr) (ρ : Rho) (L : Lv) (t : Env → Sem Flow) (ρ' : Rho) (L' : Lv) : Prop :=
  ∀ A env O X s, env.scope = sc → AOk n A → Sd w env X s.heap ρ a L → Fra env st O X → ¬ O a → wpAny (model pw w) A (t env) (fun f s' => ExtB (fun b => O b ∨ b = a) s s' ∧ f = .next ∧ Sd w env X s'.heap ρ' a L') No s
variable {a : Addr} {L L' L'' : Lv} {ρ' ρ'' : Rho}
noncomputable abbrev ExD (w : World) (n : Nat) (sc st : Scope) (a : Addr) (ρ : Rho) (L : Lv) (t : Stmt) (ρ' : Rho) (L' : Lv) : Prop := StmD w n sc st a ρ L (fun env => exec t env) ρ' L'
noncomputable abbrev ExsD (w : World) (n : Nat) (sc st : Scope) (a : Addr) (ρ : Rho) (L : Lv) (t : List Stmt) (ρ' : Rho) (L' : Lv) : Prop := StmD w n sc st a ρ L (fun env => execs t env) ρ' L'
theorem StmD.of {t : Env → Sem Flow} (h : Stm w n sc st ρ t (.nx ρ')) : StmD w n sc st a ρ L t ρ' L := fun A env O X s he hA S F hO =>
  wpAny_mono (h A env O X s he hA S.sees F) (fun f s' h' => by
    obtain ⟨e, rfl, S'⟩ := h'
    exact ⟨e.mono fun b q => .inl q, rfl, S', S.hx, S.sys, dict_at (fun o q => e.kp _ o hO q) S.dict, S.nc⟩) fun _ _ x => x
theorem StmD.sub {t : Env → Sem Flow} (h : StmD w n sc st a ρ L t ρ' L') (k : Sub ρ'' ρ') : StmD w n sc st a ρ L t ρ'' L' := fun A env O X s he hA S F hO =>
  wpAny_mono (h A env O X s he hA S F hO) (fun f s' h' => ⟨h'.1, h'.2.1, h'.2.2.sees.sub k, h'.2.2.hx, h'.2.2.sys, h'.2.2.dict, h'.2.2.nc⟩) fun _ _ x => x
theorem ExsD.nil : ExsD w n sc st a ρ L [] ρ L := fun A env O X s _ _ S F hO => wpAny_execs_nil ⟨.refl, rfl, S⟩
theorem ExsD.cons {t : Stmt} {rest : List Stmt} (h : ExD w n sc st a ρ L t ρ' L') (k : ExsD w n sc st a ρ' L' rest ρ'' L'') : ExsD w n sc st a ρ L (t :: rest) ρ'' L'' := fun A env O X s he hA S F hO => by
  refine wpAny_execs_cons (wpAny_mono (h A env O X s he hA S F hO) (fun f s' hf => ?_) fun _ _ x => x)
  obtain ⟨e, rfl, S'⟩ := hf
  exact wpAny_mono (k A env O X s' he hA S' F hO) (fun f s'' h'' => ⟨e.trans h''.1, h''.2⟩) fun _ _ x => x
theorem Sd.ext {env : Env} {X : Addr → Prop} {s s' : Shared} (S : Sd w env X s.heap ρ a L) (e : Ext s s') : Sd w env X s'.heap ρ a L :=
  ⟨S.sees.ext e, S.hx, S.sys, dict_at (fun o q => e.kp _ o q) S.dict, S.nc⟩
theorem ExD.ifT {t : Expr} {body orelse : List Stmt} {p : Pos} (h : Ts w n sc ρ t true) (k : ExsD w n sc st a ρ L body ρ' L') : ExD w n sc st a ρ L (.If t body orelse p) ρ' L' := fun A env O X s he hA S F hO =>
  wpAny_If (wpAny_mono (h A env X s he hA S.sees) (fun c s₁ h₁ => by
    obtain ⟨e, rfl⟩ := h₁
    exact wpAny_mono (k A env O X s₁ he hA (S.ext e) F hO) (fun f s' h' => ⟨e.b.trans h'.1, h'.2⟩) fun _ _ x => x) fun _ _ x => x)
theorem ExD.ifF {t : Expr} {body orelse : List Stmt} {p : Pos} (h : Ts w n sc ρ t false) (k : ExsD w n sc st a ρ L orelse ρ' L') : ExD w n sc st a ρ L (.If t body orelse p) ρ' L' := fun A env O X s he hA S F hO =>
  wpAny_If (wpAny_mono (h A env X s he hA S.sees) (fun c s₁ h₁ => by
    obtain ⟨e, rfl⟩ := h₁
    exact wpAny_mono (k A env O X s₁ he hA (S.ext e) F hO) (fun f s' h' => ⟨e.b.trans h'.1, h'.2⟩) fun _ _ x => x) fun _ _ x => x)
theorem ExD.for {tgt iter : Expr} {body : List Stmt} {p : Pos} (ds : List D) (inv : Nat → Rho) (kv : Nat → Lv) (hf : inv ds.length = ρ') (hL : kv ds.length = L') (hi : Itr w n sc ρ tgt iter ds) (h0 : Sub (inv 0) ρ) (hk0 : kv 0 = L)
    (turn : ∀ i d, ds[i]? = some d → ∃ ρ₁, As w n sc st (inv i) tgt d ρ₁ ∧ ExsD w n sc st a ρ₁ (kv i) body (inv (i + 1)) (kv (i + 1))) (hs : ∀ env x, foldedSetIterable iter env x = pure x := by intros; rfl) :
    ExD w n sc st a ρ L (.For tgt iter body [] p) ρ' L' := fun A env O X s he hA SD F hO => by
  subst hf hL hk0
  have S := SD.sees
  refine wpAny_For (wpAny_mono (hi A env X s he hA S) (fun x s₁ h₁ => wpAny_mono h₁ (fun it s₂ h₂ => ?_) fun _ _ x => x) fun _ _ x => x) (hs env)
  obtain ⟨e2, wr, fr, St, Lw, st2⟩ := h₂
  obtain ⟨hl, hc, hx⟩ := off_wr S fr
  have F' : Fra env st O (fun b => X b ∨ wr b) := F.mono fun b q => .inl q
  have ha : ¬ wr a := hx a SD.hx
  refine codeAny_forLoop_any (fun k s' => ∃ i, k = ds.length + 1 - i ∧ i ≤ ds.length ∧ ExtB (fun b => O b ∨ b = a) s s' ∧ Sd w env (fun b => X b ∨ wr b) s'.heap (inv i) a (kv i) ∧ St (fun b => X b ∨ wr b) (ds.drop i) s'.heap) ?_ (ds.length + 1)
    ⟨0, rfl, Nat.zero_le _, e2.b, ⟨(S.sub h0).more e2.kp fun b q => q.elim .inl fun q => .inr ⟨fr b q, Lw.live _ _ _ st2 b q⟩, .inl SD.hx, SD.sys, dict_at (fun o q => e2.kp _ o q) SD.dict, SD.nc⟩, by simpa using st2⟩
  rintro k s' ⟨i, rfl, hi, e', SD', st'⟩
  have S' := SD'.sees
  by_cases hlt : i < ds.length
  · have hd : ds.drop i = ds[i] :: ds.drop (i + 1) := List.drop_eq_getElem_cons hlt
    rw [hd] at st'
    refine wpAny_mono (Lw.next _ _ _ s' st' fun b q => (S'.xok b q).2) (fun r s₃ h₃ => ?_) fun _ _ x => x.elim
    obtain ⟨v, rfl, h₃⟩ := h₃
    refine wpAny_mono h₃ (fun _ s₄ h₄ => ?_) fun _ _ x => x.elim
    obtain ⟨e4, r4, st4⟩ := h₄
    have S4 := S'.turn hl hc (fun b q => .inr q) e4
    obtain ⟨ρ₁, hta, hb⟩ := turn i ds[i] (by simp [hlt])
    refine wpAny_mono (hta A env O _ s₄ v he hA S4 F' r4) (fun _ s₅ h₅ => ?_) fun _ _ x => x.elim
    obtain ⟨e5, S5⟩ := h₅
    have D5 : Sd w env (fun b => X b ∨ wr b) s₅.heap ρ₁ a (kv i) := ⟨S5, SD'.hx, SD'.sys, dict_at (fun o q => e5.kp _ o hO (e4.kp _ o ha q)) SD'.dict, SD.nc⟩
    refine wpAny_mono (hb A env O _ s₅ he hA D5 F' hO) (fun f s₆ h₆ => ?_) fun _ _ x => x.elim
    obtain ⟨e6, rfl, S6⟩ := h₆
    have e46 := (e5.mono (M := fun b => O b ∨ b = a) fun b q => .inl q).trans e6
    refine ⟨ds.length + 1 - (i + 1), by omega, i + 1, rfl, hlt, (e'.since e4 fun d q => .inr (fr d q)).trans e46, S6, Lw.frame _ _ _ _ st4 fun b o q e => e46.kp b o (fun z => ?_) e⟩
    have zx : X b := z.elim (F.ox _) fun q => q ▸ SD.hx
    exact q.elim (fun q => q (.inl zx)) fun q => hx b zx q
  · have hi' : i = ds.length := by omega
    subst hi'
    rw [List.drop_length] at st'
    refine wpAny_mono (Lw.done _ s' st') (fun r s₃ h₃ => ?_) fun _ _ x => x.elim
    obtain ⟨rfl, ⟨h', tk, rfl⟩, k3⟩ := h₃
    refine wpAny_execs_nil ?_
    refine ⟨?_, rfl, S'.leave hl hc (fun b q => .inr q) (fun b q => ⟨.inl q, hx b q⟩) k3, SD.hx, SD.sys, dict_at (fun o q => k3 _ o ha q) SD'.dict, SD.nc⟩
    obtain ⟨⟨h1, t1, rfl⟩, k1, z1⟩ := e'
    exact ⟨⟨_, _, rfl⟩, fun b o q e => k3 b o (fun z => by rw [fr b z] at e; cases e) (k1 b o q e), fun b l => let ⟨o, e⟩ := z1 b l; ⟨o, k3 b o (fun z => by obtain ⟨o', e'⟩ := l; rw [fr b z] at e'; cases e') e⟩⟩
/-- the dict read as a datum -/
theorem Sd.read {env : Env} {X : Addr → Prop} {h : Heap} {x : Str} (S : Sd w env X h ρ a L) (hx : ρ.lookup x = some (.own a)) : Sees w env (fun b => X b ∧ b ≠ a) h ((x, .sd (bD L)) :: ρ) :=
  let T := S.sees.off (Y := fun b => X b ∧ b ≠ a) fun b q => q.1
  { T with
    val := fun y d e => by
      rw [List.lookup_cons] at e
      cases hy : y == x with
      | true =>
        rw [hy] at e; cases e
        have : y = x := eq_of_beq hy
        subst this
        obtain ⟨v, r, b⟩ := S.sees.val y _ hx
        cases r
        obtain ⟨us, hd, hb⟩ := S.dict
        exact ⟨.ref a, .sd S.sys (fun q => q.2 rfl) hd hb.keys hb.reps, b⟩
      | false => rw [hy] at e; exact T.val y d e }
theorem ExD.store {xf xo : Str} {p q r pos : Pos} {value : Expr} {t : List Nat} {c : Nat} (hxf : ρ.lookup xf = some (.own a)) (hxo : ρ.lookup xo = some (.str ⟨t.toArray⟩)) (hv : Ev w n sc ((xf, .sd (bD L)) :: ρ) value (.bytes (apB c).toArray)) (hz : L.length ≤ sizeLine)
    (hs : ∀ env, swapsWith value (some (.Subscript (.Name xf p) (.Name xo q) r)) pos.line env = pure false := by intros; rfl)
    (hd : (xf == ("__debug__" : Str)) = false := by decide +kernel) (hc : (xf == ("__classdict__" : Str)) = false := by decide +kernel) (hd' : (xo == ("__debug__" : Str)) = false := by decide +kernel) (hc' : (xo == ("__classdict__" : Str)) = false := by decide +kernel) :
    ExD w n sc st a ρ L (.Assign [.Subscript (.Name xf p) (.Name xo q) r] value pos) ρ (storeL L t c) := fun A env O X s he hA S F hO => by
  refine wpAny_Assign_Subscript (wpAny_mono (hv A env _ s he hA (S.read hxf)) (fun v s₁ h₁ => ?_) fun _ _ x => x) (hs env)
  obtain ⟨e1, r1⟩ := h₁
  cases r1 with
  | bytes _ tk =>
    have S1 := S.ext e1
    refine wpAny_mono (Ev.name (p := p) hxf hd hc A env X s₁ he hA S1.sees) (fun vf s₂ h₂ => ?_) fun _ _ x => x
    obtain ⟨e2, r2⟩ := h₂
    cases r2
    have S2 := S1.ext e2
    refine wpAny_mono (Ev.name (p := q) hxo hd' hc' A env X s₂ he hA S2.sees) (fun vo s₃ h₃ => ?_) fun _ _ x => x
    obtain ⟨e3, r3⟩ := h₃
    cases r3 with
    | str _ tk' =>
      have S3 := S2.ext e3
      have E3 := (e1.trans e2).trans e3
      obtain ⟨us, hdict, hb⟩ := S3.dict
      refine wpAny_setItem_pairs (strKind_is _ _ _ tk') hdict (fun h' hd'' hs' => ?_) (by rw [hb.length]; exact hz)
      have la : Live h' a := let ⟨o, _, _, g, _⟩ := hd''; ⟨o, g⟩
      obtain ⟨⟨h3, tk3, rfl⟩, k3⟩ := E3
      have eB : ExtB (fun b => O b ∨ b = a) s { s with heap := h', toks := tk3 + 1 } :=
        ⟨⟨_, _, rfl⟩, fun b o qn g => hs'.extBut b o (fun z => qn (.inr z)) (k3 b o g), fun b l => lv hs' la b (l.kp k3)⟩
      have hnl : env.locals ≠ a := fun z => hO (z ▸ F.ol)
      refine ⟨eB, rfl, S3.sees.step (fun b o qn g => hs'.extBut b o (fun z => qn (z ▸ S.hx)) g) (fun o g => hs'.extBut _ o hnl g) (fun y cc o e g => hs'.extBut _ o (S.nc y cc e) g) (fun b _ l => lv hs' la b l), S.hx, S.sys, ⟨_, hd'', hb.stored⟩, S.nc⟩
end
end
end Mine
set_option maxRecDepth 100000
set_option Elab.async false
set_option linter.unusedVariables false
set_option maxHeartbeats 1000000
namespace Mine
open PySem PySem.W PySem.Calls PyProof.Rows
noncomputable section
local macro_rules | `(tactic| walk_at "lk") => `(tactic| first | exact lk_hit (by decide +kernel) | (refine lk_miss (by decide +kernel) ?_; walk_at "lk"))
local macro_rules | `(tactic| walk_at "sub") => `(tactic| first | exact Sub.nil | (refine Sub.cons (by walk_at "lk") ?_; walk_at "sub"))
local macro_rules | `(tactic| walk_at "st") => `(tactic| first | exact Or.inl (by decide +kernel) | exact Or.inr (by decide +kernel))
local macro_rules | `(tactic| walk_at "g") => `(tactic| first | decide +kernel | (intro P; kernel_rfl))
section
variable {w : World} {n : Nat} {sc st : Scope} {ρ : Rho}
theorem hex_foldl : ∀ (xs : List Int) (a : Int), xs.foldl (fun a f => a * 16 + f) a = a * 16 ^ xs.length + xs.foldl (fun a f => a * 16 + f) 0
  | [], a => by simp
  | x :: xs, a => by
    rw [List.foldl_cons, hex_foldl xs, List.foldl_cons, hex_foldl xs (0 * 16 + x), List.length_cons, Int.pow_succ]
    rw [Int.add_mul, Int.zero_mul, Int.zero_add, Int.mul_assoc, Int.mul_comm 16, Int.add_assoc]
theorem hexv_cons (x : Int) (xs : List Int) : hexv (x :: xs) = x * 16 ^ xs.length + hexv xs := by
  unfold hexv
  rw [List.foldl_cons, hex_foldl xs]
  simp
theorem digit_nat {k : Nat} (h : k < 16) : (UInt8.ofNat (65 + k)).toNat = 65 + k := by
  rw [UInt8.toNat_ofNat']; omega
theorem un_low (m : Nat) : ∀ i, hexv (unA (lowB m i)) = ((m % 16 ^ i : Nat) : Int)
  | 0 => by simp [lowB, unA, hexv, Nat.mod_one]
  | i + 1 => by
    have h16 : m / 16 ^ i % 16 < 16 := Nat.mod_lt _ (by decide)
    have e : unA (lowB m (i + 1)) = ((m / 16 ^ i % 16 : Nat) : Int) :: unA (lowB m i) := by
      unfold unA
      rw [lowB, List.map_cons, digit_nat h16]
      congr 1; omega
    rw [e, hexv_cons, un_low m i]
    have hl : (unA (lowB m i)).length = i := by unfold unA; rw [List.length_map, lowB_length]
    rw [hl, Nat.mod_pow_succ, Nat.mul_comm]
    simp only [Int.natCast_add, Int.natCast_mul, Int.natCast_pow]
    rw [show ((16 : Nat) : Int) = 16 from rfl]
    omega
theorem low_digits (m : Nat) : ∀ i, ∀ c ∈ lowB m i, 65 ≤ c.toNat ∧ c.toNat ≤ 80
  | 0, c, h => by simp [lowB] at h
  | i + 1, c, h => by
    rw [lowB] at h
    rcases List.mem_cons.mp h with h | h
    · have h16 : m / 16 ^ i % 16 < 16 := Nat.mod_lt _ (by decide)
      rw [h, digit_nat h16]; omega
    · exact low_digits m i c h
theorem dcF_le : ∀ (f k : Nat), dcF f k ≤ f
  | 0, k => by simp [dcF]
  | f + 1, k => by
    unfold dcF
    split
    · omega
    · have := dcF_le f (k / 16); omega
theorem dc_le (m : Nat) : dc m ≤ m := dcF_le m m
theorem ap_head (m : Nat) : (apB m).take 1 ≠ [65] := by
  unfold apB
  cases h : dc m with
  | zero => simp [lowB]
  | succ i =>
    have h1 : m / 16 ^ i ≠ 0 := dcF_pos m m i (Nat.le_refl m) (by show i < dc m; omega)
    have h2 : m / 16 ^ (i + 1) = 0 := by have := dcF_end m m (Nat.le_refl m); rwa [show dcF m m = i + 1 from h] at this
    rw [Nat.pow_succ, ← Nat.div_div_eq_div_mul] at h2
    have h3 : m / 16 ^ i < 16 := by omega
    rw [lowB]
    intro q
    have q' : UInt8.ofNat (65 + m / 16 ^ i % 16) = 65 := by simpa using q
    have := congrArg UInt8.toNat q'
    rw [digit_nat (Nat.mod_lt _ (by decide))] at this
    have h65 : (65 : UInt8).toNat = 65 := rfl
    rw [h65, Nat.mod_eq_of_lt h3] at this
    omega
theorem ap_value (m : Nat) : hexv (unA (apB m)) = (m : Int) := by
  unfold apB
  rw [un_low]
  have h2 : m / 16 ^ dc m = 0 := dcF_end m m (Nat.le_refl m)
  have h3 : m < 16 ^ dc m := by
    rcases Nat.div_eq_zero_iff.mp h2 with h | h
    · exact absurd h (by have := Nat.pow_pos (n := dc m) (show 0 < 16 by decide); omega)
    · exact h
  rw [Nat.mod_eq_of_lt h3]
theorem ap_length (m : Nat) : (apB m).length = dc m := lowB_length _ _
theorem fn_readAp {c : Nat} (hc : c ≤ 1000000) : Fn w (n + 2) 112 [.bytes (apB c).toArray] (.int (c : Int)) := by
  have := @fn_read w n (apB c) (low_digits _ _) (ap_head c) (by rw [ap_length]; have := dc_le c; omega)
  rwa [ap_value] at this
theorem fn_apN {c : Nat} (hc : c ≤ 1000000) : Fn w (n + 1) 85 [.int (c : Int)] (.bytes (apB c).toArray) := by
  have := @fn_ap w n (c : Int) (by rw [Int.natAbs_natCast]; have := dc_le c; omega)
  rwa [Int.natAbs_natCast] at this
noncomputable def swapAt (t : List Nat) (i : Nat) : List Nat := t.take i ++ [t.getD (i + 1) 0] ++ [t.getD i 0] ++ t.drop (i + 2)
noncomputable def stepPlace (vb : Nat → Bool) (c : Nat) (t : List Nat) (F : Lv) (i : Nat) : Lv := if vb (t.getD i 0) && !vb (t.getD (i + 1) 0) then storeL F (swapAt t i) ((F.lookup (swapAt t i)).getD 0 + c) else F
noncomputable def stepText (vb : Nat → Bool) (L F : Lv) (t : List Nat) : Lv := (List.range (t.length - 1)).foldl (stepPlace vb ((L.lookup t).getD 0) t) F
noncomputable def stepT (vb : Nat → Bool) (L : Lv) : Lv := (L.map (·.1)).foldl (stepText vb L) []
/-- a level within bounds -/
noncomputable def Bd (F : Lv) (k b : Nat) : Prop := F.length ≤ k ∧ ∀ p ∈ F, p.2 ≤ b
theorem lookup_memL {t : List Nat} {c : Nat} : ∀ {F : Lv}, F.lookup t = some c → (t, c) ∈ F
  | [], h => nomatch h
  | (u, d) :: F, h => by
    rw [List.lookup_cons] at h
    cases hb : t == u with
    | true => rw [hb] at h; cases h; rw [eq_of_beq hb]; exact List.mem_cons_self
    | false => rw [hb] at h; exact List.mem_cons_of_mem _ (lookup_memL h)
theorem Bd.look {F : Lv} {k b : Nat} (h : Bd F k b) (t : List Nat) : (F.lookup t).getD 0 ≤ b := by
  cases e : F.lookup t with
  | none => exact Nat.zero_le _
  | some c => exact h.2 _ (lookup_memL e)
theorem Bd.place {F : Lv} {k b : Nat} (h : Bd F k b) (vb : Nat → Bool) (c : Nat) (t : List Nat) (i : Nat) : Bd (stepPlace vb c t F i) (k + 1) (b + c) := by
  have hk := h.look (swapAt t i)
  unfold stepPlace
  split
  · unfold storeL
    split
    · refine ⟨by rw [List.length_map]; exact Nat.le_succ_of_le h.1, fun p hp => ?_⟩
      obtain ⟨q, hq, rfl⟩ := List.mem_map.mp hp
      have := h.2 q hq
      split
      · show (F.lookup (swapAt t i)).getD 0 + c ≤ b + c; omega
      · omega
    · refine ⟨by rw [List.length_append]; exact Nat.succ_le_succ h.1, fun p hp => ?_⟩
      rcases List.mem_append.mp hp with q | q
      · have := h.2 p q; omega
      · rw [List.mem_singleton.mp q]; show (F.lookup (swapAt t i)).getD 0 + c ≤ b + c; omega
  · exact ⟨Nat.le_succ_of_le h.1, fun p hp => Nat.le_trans (h.2 p hp) (Nat.le_add_right _ _)⟩
theorem Bd.places {F : Lv} {k b : Nat} (h : Bd F k b) (vb : Nat → Bool) (c : Nat) (t : List Nat) : ∀ i, Bd ((List.range i).foldl (stepPlace vb c t) F) (k + i) (b + i * c)
  | 0 => by simpa using h
  | i + 1 => by
    rw [List.range_succ, List.foldl_append]
    have := (Bd.places h vb c t i).place vb c t i
    rw [show k + (i + 1) = k + i + 1 by omega, show b + (i + 1) * c = b + i * c + c by rw [Nat.succ_mul]; omega]
    exact this
theorem Bd.mono {F : Lv} {k b k' b' : Nat} (h : Bd F k b) (hk : k ≤ k') (hb : b ≤ b') : Bd F k' b' := ⟨Nat.le_trans h.1 hk, fun p q => Nat.le_trans (h.2 p q) hb⟩
theorem Bd.texts {L : Lv} (hp : ∀ p ∈ L, p.1.length ≤ 10 ∧ p.2 ≤ 100) (vb : Nat → Bool) : ∀ (ts : List (List Nat)) (F : Lv) (k b : Nat), (∀ t ∈ ts, t.length ≤ 10) → Bd F k b → Bd (ts.foldl (stepText vb L) F) (k + ts.length * 10) (b + ts.length * 1000)
  | [], F, k, b, _, h => by simpa using h
  | t :: ts, F, k, b, ht, h => by
    rw [List.foldl_cons]
    have h1 := ht t List.mem_cons_self
    have hc : (L.lookup t).getD 0 ≤ 100 := Bd.look (k := L.length) ⟨Nat.le_refl _, fun p q => (hp p q).2⟩ t
    have h2 : (t.length - 1) * (L.lookup t).getD 0 ≤ 10 * 100 := Nat.mul_le_mul (by omega) hc
    have h3 : Bd (stepText vb L F t) (k + 10) (b + 1000) := (Bd.places h vb _ t (t.length - 1)).mono (by omega) (by omega)
    refine (Bd.texts hp vb ts _ _ _ (fun u q => ht u (List.mem_cons_of_mem _ q)) h3).mono ?_ ?_ <;> rw [List.length_cons] <;> omega
theorem slice_to (l : List Nat) {i : Nat} (h : i ≤ l.length) : Txt.slice ⟨l.toArray⟩ none (some (i : Int)) = ⟨(l.take i).toArray⟩ := by
  have e : Txt.slice ⟨l.toArray⟩ none (some (i : Int)) = Txt.slice ⟨l.toArray⟩ (some ((0 : Nat) : Int)) (some (i : Int)) := by
    unfold Txt.slice; rw [StrLaws.sliceIdx_none_lo]; rfl
  rw [e, slice_nat _ (Nat.zero_le i)]
  apply str_ext
  simp
theorem slice_from (l : List Nat) {i : Nat} (h : i ≤ l.length) : Txt.slice ⟨l.toArray⟩ (some (i : Int)) none = ⟨(l.drop i).toArray⟩ := by
  have hl : (⟨l.toArray⟩ : Str).length = l.length := by simp [Str.length]
  have e : Txt.slice ⟨l.toArray⟩ (some (i : Int)) none = Txt.slice ⟨l.toArray⟩ (some (i : Int)) (some ((l.length : Nat) : Int)) := by
    unfold Txt.slice; rw [StrLaws.sliceIdx_none_hi, hl]
  rw [e, slice_nat _ h]
  apply str_ext
  show (l.toArray.toList.drop i).take (l.length - i) = l.drop i
  rw [List.take_of_length_le (by simp)]
theorem foldl_range {β : Type} (f : β → Nat → β) (a : β) (i : Nat) : (List.range (i + 1)).foldl f a = f ((List.range i).foldl f a) i := by
  rw [List.range_succ, List.foldl_append]; rfl
theorem get_bD {G : Lv} {t : List Nat} : ((bD G).lookup ⟨t.toArray⟩).getD (.bytes ([] : List UInt8).toArray) = .bytes (apB ((G.lookup t).getD 0)).toArray := by
  rw [lookup_bD]
  cases G.lookup t with
  | none => rfl
  | some c => rfl
theorem look_some {L : Lv} {t : List Nat} : t ∈ L.map (·.1) → ∃ c, L.lookup t = some c := by
  induction L with
  | nil => intro h; cases h
  | cons p L ih =>
    obtain ⟨u, c⟩ := p
    intro h
    rw [List.lookup_cons]
    cases hb : t == u with
    | true => exact ⟨c, rfl⟩
    | false =>
      rw [List.map_cons] at h
      rcases List.mem_cons.mp h with h | h
      · exact absurd h (by simpa using hb)
      · exact ih h
theorem Ts.to {e : Expr} {b c : Bool} (h : Ts w n sc ρ e b) (q : b = c) : Ts w n sc ρ e c := q ▸ h
theorem Ev.to {e : Expr} {b c : D} (h : Ev w n sc ρ e b) (q : b = c) : Ev w n sc ρ e c := q ▸ h
theorem fn_step {L : Lv} (hL : L.length ≤ 10) (hp : ∀ p ∈ L, p.1.length ≤ 10 ∧ p.2 ≤ 100) : Fn w (n + 3) 124 [.sd (bD L)] (.sd (bD (stepT (fun c => isB1 c) L))) := by
  refine Fn.mk (n := n + 2) (o := o124f) (xs := [Str.ofString "level"]) (fun P => by kernel_rfl) (fun P => rfl) (fun P => ⟨123, o123f P, _, _, rfl, by kernel_rfl, rfl, rfl⟩) rfl rfl rfl rfl rfl ?_ (by decide +kernel) (by decide +kernel) (by decide +kernel) rfl ?_
  · exact all1 fun a => by kernel_rfl
  · intro A env O X s he hA S Fa
    refine wpAny_execs_cons (wpAny_Assign_Name (wpAny_Dict_empty ?_) (by rfl))
    have hnew : s.heap.get? s.heap.objs.size = none := get?_size _
    have hlive : Live (s.heap.push { cls := .type "dict", data := .dict #[] }) s.heap.objs.size := ⟨_, Heap.get?_push_size _ rfl⟩
    generalize haa : s.heap.objs.size = a at *
    have S1 : Sees w env (fun b => X b ∨ b = a) (s.heap.push { cls := .type "dict", data := .dict #[] }) [(Str.ofString "level", .sd (bD L))] :=
      S.more (Kp.push _) fun b q => q.elim .inl fun q => .inr ⟨q ▸ hnew, q ▸ hlive⟩
    have F1 : Fra env _ O (fun b => X b ∨ b = a) := Fa.mono fun b q => .inl q
    have hXa : ¬ X a := fun q => let ⟨o, e⟩ := (S.xok a q).2; by rw [hnew] at e; cases e
    have hOa : ¬ O a := fun q => hXa (Fa.ox a q)
    have hsys : (a == sysModules) = false := haa ▸ size_sys S.base
    refine store_sees (s := { s with heap := s.heap.push { cls := .type "dict", data := .dict #[] } }) (x := Str.ofString "further") (d := .own a) (by walk_at "st") S1 F1 (.own a) fun s2 e2 S2 => ?_
    have D2 : Sd w env (fun b => X b ∨ b = a) s2.heap [(Str.ofString "further", .own a), (Str.ofString "level", .sd (bD L))] a [] :=
      ⟨S2, .inr rfl, hsys, dict_at (fun o q => e2.kp _ o hOa q) ⟨[], haa ▸ Heap.DictOf.new (knd := PySem.strKind pw w) s.heap, .nil⟩, fun x c e q => by
        obtain ⟨⟨v, i⟩, _⟩ := S.cl x c e
        obtain ⟨o, e'⟩ := Cell_live i
        rw [q, hnew] at e'; cases e'⟩
    refine wpAny_execs_cons (wpAny_mono (Q := fun f s' => ExtB (fun b => O b ∨ b = a) s2 s' ∧ f = .next ∧ Sd w env (fun b => X b ∨ b = a) s'.heap [(Str.ofString "level", .sd (bD L)), (Str.ofString "further", .own a)] a (stepT (fun c => isB1 c) L)) ?main (fun f s3 h3 => ?_) fun _ _ x => x)
    case main =>
      refine (show ExD w (n + 2) _ _ a [(Str.ofString "further", .own a), (Str.ofString "level", .sd (bD L))] [] _ [(Str.ofString "level", .sd (bD L)), (Str.ofString "further", .own a)] (stepT (fun c => isB1 c) L) from ?_) A env O _ s2 he hA D2 F1 hOa
      refine ExD.for ((bD L).map fun kv => .str kv.1) (fun _ => [(Str.ofString "level", .sd (bD L)), (Str.ofString "further", .own a)])
        (fun i => ((L.map (·.1)).take i).foldl (stepText (fun c => isB1 c) L) []) rfl ?_ (Itr.of (Ev.name (by walk_at "lk")) Its.keys) (by walk_at "sub") (by rfl) ?_
      · have : ((bD L).map fun kv => D.str kv.1).length = (L.map (·.1)).length := by simp [bD]
        rw [this, List.take_length]; rfl
      · intro i d hd
        have e : (bD L).map (fun kv => D.str kv.1) = (L.map (·.1)).map (fun t => D.str ⟨t.toArray⟩) := by simp [bD]
        rw [e, List.getElem?_map] at hd
        cases hx : (L.map (·.1))[i]? with
        | none => rw [hx] at hd; cases hd
        | some t =>
          rw [hx] at hd; cases hd
          have hmem : t ∈ L.map (·.1) := List.mem_of_getElem? hx
          have hil : i < (L.map (·.1)).length := by
            rcases Nat.lt_or_ge i (L.map (·.1)).length with h | h
            · exact h
            · rw [List.getElem?_eq_none h] at hx; cases hx
          rw [List.length_map] at hil
          have hall : ∀ u ∈ L.map (·.1), u.length ≤ 10 := fun u hu => by
            obtain ⟨q, hq, rfl⟩ := List.mem_map.mp hu
            exact (hp q hq).1
          have htl := hall t hmem
          have hF : Bd (((L.map (·.1)).take i).foldl (stepText (fun c => isB1 c) L) []) 100 10000 := (Bd.texts hp (fun c => isB1 c) ((L.map (·.1)).take i) [] 0 0 (fun u hu => hall u (List.mem_of_mem_take hu)) ⟨Nat.le_refl _, fun p q => nomatch q⟩).mono (by rw [List.length_take]; omega) (by rw [List.length_take]; omega)
          show ∃ ρ₁, _ ∧ ExsD _ _ _ _ _ _ _ _ _ (((L.map (·.1)).take (i + 1)).foldl (stepText (fun c => isB1 c) L) [])
          rw [foldl_take (stepText (fun c => isB1 c) L) [] _ i t hx]
          generalize ((L.map (·.1)).take i).foldl (stepText (fun c => isB1 c) L) [] = G0 at *
          obtain ⟨c, hc⟩ := look_some hmem
          have hcz : c ≤ 100 := (hp _ (lookup_memL hc)).2
          have est : stepText (fun c => isB1 c) L G0 t = (List.range (t.length - 1)).foldl (stepPlace (fun c => isB1 c) c t) G0 := by unfold stepText; rw [hc]; rfl
          rw [est]
          have hlen : (⟨t.toArray⟩ : Str).length = t.length := by simp [Str.length]
          refine ⟨_, As.name (by walk_at "st"), ?_⟩
          refine StmD.sub (ρ' := [(Str.ofString "text", .str ⟨t.toArray⟩), (Str.ofString "level", .sd (bD L)), (Str.ofString "further", .own a)]) (ExsD.cons (ExD.for (rangeD ((t.length : Int) - 1)) (fun _ => [(Str.ofString "text", .str ⟨t.toArray⟩), (Str.ofString "level", .sd (bD L)), (Str.ofString "further", .own a)])
            (fun j => (List.range j).foldl (stepPlace (fun c => isB1 c) c t) G0) rfl (by rw [rangeD_length, show ((t.length : Int) - 1).toNat = t.length - 1 by omega]) (Itr.range (by walk_at "g") (by walk_at "g") (by walk_at "g") (Ev.binop (Ev.callB (b := "len") (d := .int (t.length : Int)) (by walk_at "g") (by walk_at "g") (by walk_at "g") (EvL.cons (Ev.name (by walk_at "lk")) .nil) (by rw [← hlen]; exact cl_lenStr (by omega))) Ev.int cl_sub) (by omega) (by omega)) (by walk_at "sub") (by rfl) ?_) ExsD.nil) (by walk_at "sub")
          intro j d hd
          obtain ⟨rfl, hj⟩ := rangeD_get hd
          have hj' : j + 1 < t.length := by omega
          have hG : Bd ((List.range j).foldl (stepPlace (fun c => isB1 c) c t) G0) 1000 100000 := (Bd.places hF (fun c => isB1 c) c t j).mono (by omega) (by
            have : j * c ≤ 10 * 100 := Nat.mul_le_mul (by omega) hcz
            omega)
          show ∃ ρ₁, _ ∧ ExsD _ _ _ _ _ _ _ _ _ ((List.range (j + 1)).foldl (stepPlace (fun c => isB1 c) c t) G0)
          rw [foldl_range (stepPlace (fun c => isB1 c) c t) G0 j]
          generalize (List.range j).foldl (stepPlace (fun c => isB1 c) c t) G0 = G at *
          refine ⟨_, As.name (by walk_at "st"), ?_⟩
          have hg0 : ∀ (ρ : Rho), ρ.lookup (Str.ofString "text") = some (.str ⟨t.toArray⟩) → ρ.lookup (Str.ofString "place") = some (.int (j : Int)) → ∀ {sc p q r}, Ev w (n + 2) sc ρ (.Subscript (.Name (Str.ofString "text") p) (.Name (Str.ofString "place") q) r) (.str ⟨#[t.getD j 0]⟩) := by
            intro ρ h1 h2 sc p q r
            exact Ev.item (T := "str") (Ev.name h1) (Ev.name h2) F.slot_str_getitem.lookup ty_str (get_chr (by omega) (by omega))
          have hg1 : ∀ (ρ : Rho), ρ.lookup (Str.ofString "text") = some (.str ⟨t.toArray⟩) → ρ.lookup (Str.ofString "place") = some (.int (j : Int)) → ∀ {sc p q r k u v}, Ev w (n + 2) sc ρ (.Subscript (.Name (Str.ofString "text") p) (.BinOp (.Name (Str.ofString "place") q) .Add (.Constant (.int 1) k u) v) r) (.str ⟨#[t.getD (j + 1) 0]⟩) := by
            intro ρ h1 h2 sc p q r k u v
            exact Ev.item (T := "str") (Ev.name h1) (Ev.binop (d := .int ((j + 1 : Nat) : Int)) (Ev.name h2) Ev.int cl_add) F.slot_str_getitem.lookup ty_str (get_chr (by omega) (by omega))
          have hs1 := slice_to t (i := j) (by omega)
          have hs2 := slice_from t (i := j + 2) (by omega)
          cases hb : (isB1 (t.getD j 0) && !isB1 (t.getD (j + 1) 0)) with
          | false =>
            have est : stepPlace (fun c => isB1 c) c t G j = G := by unfold stepPlace; rw [if_neg (by rw [hb]; simp)]
            rw [est]
            refine StmD.sub (ExsD.cons (ExD.ifF (Ts.to (Ts.and2 (Ts.value (Ev.callF (by walk_at "g") (by walk_at "g") (fun P => ⟨o32b P, _, by kernel_rfl, rfl⟩) (EvL.cons (hg0 _ (by walk_at "lk") (by walk_at "lk")) .nil) fn_in_table)) fun _ => Ts.not (Ts.value (Ev.callF (by walk_at "g") (by walk_at "g") (fun P => ⟨o32b P, _, by kernel_rfl, rfl⟩) (EvL.cons (hg1 _ (by walk_at "lk") (by walk_at "lk")) .nil) fn_in_table))) hb) ExsD.nil) ExsD.nil) (by walk_at "sub")
          | true =>
            have est : stepPlace (fun c => isB1 c) c t G j = storeL G (swapAt t j) ((G.lookup (swapAt t j)).getD 0 + c) := by unfold stepPlace; rw [if_pos hb]
            rw [est]
            have hgl := hG.look (swapAt t j)
            generalize hx0 : (G.lookup (swapAt t j)).getD 0 = x0 at *
            refine StmD.sub (ρ' := (Str.ofString "other", .str ⟨(swapAt t j).toArray⟩) :: [(Str.ofString "place", .int (j : Int)), (Str.ofString "text", .str ⟨t.toArray⟩), (Str.ofString "level", .sd (bD L)), (Str.ofString "further", .own a)]) (ExsD.cons (ExD.ifT (Ts.to (Ts.and2 (Ts.value (Ev.callF (by walk_at "g") (by walk_at "g") (fun P => ⟨o32b P, _, by kernel_rfl, rfl⟩) (EvL.cons (hg0 _ (by walk_at "lk") (by walk_at "lk")) .nil) fn_in_table)) fun _ => Ts.not (Ts.value (Ev.callF (by walk_at "g") (by walk_at "g") (fun P => ⟨o32b P, _, by kernel_rfl, rfl⟩) (EvL.cons (hg1 _ (by walk_at "lk") (by walk_at "lk")) .nil) fn_in_table))) hb)
              (ExsD.cons (StmD.of (Ex.assign (d := .str ⟨(swapAt t j).toArray⟩) (Ev.to (Ev.binop (Ev.binop (Ev.binop (Ev.to (Ev.slice (Ev.name (by walk_at "lk")) PartE.none (PartE.int (Ev.name (by walk_at "lk"))) F.slot_str_getitem.lookup ty_str (getS_str (by rw [hlen]; omega))) (congrArg D.str hs1)) (hg1 _ (by walk_at "lk") (by walk_at "lk")) (cl_addStr ?a1))
                (hg0 _ (by walk_at "lk") (by walk_at "lk")) (cl_addStr ?a2)) (Ev.to (Ev.slice (Ev.name (by walk_at "lk")) (PartE.int (i := ((j + 2 : Nat) : Int)) (Ev.binop (Ev.name (by walk_at "lk")) Ev.int cl_add)) PartE.none F.slot_str_getitem.lookup ty_str (getS_str (by rw [hlen]; omega))) (congrArg D.str hs2)) (cl_addStr ?a3)) ?a4) (by walk_at "st") (by intros; rfl)))
              (ExsD.cons (ExD.store (t := swapAt t j) (c := x0 + c) (by walk_at "lk") (by walk_at "lk") (Ev.callF (by walk_at "g") (by walk_at "g") (fun P => ⟨o85d P, _, by kernel_rfl, rfl⟩) (EvL.cons (d := .int ((x0 + c : Nat) : Int)) (Ev.binop (Ev.callF (by walk_at "g") (by walk_at "g") (fun P => ⟨o112f P, _, by kernel_rfl, rfl⟩) (EvL.cons (d := .bytes (apB x0).toArray) (Ev.to (Ev.meth (T := "dict") (Ev.name (by walk_at "lk")) (by intros; rfl) (by decide) (by rfl) F.plainAttrs_dict F.slot_dict_get F.type_dict_get (fun X s v r => by
                cases r with
                | sd hs hx hd e rs => exact ⟨hd.typeIs, hd.mapOf.noDict⟩) (EvL.cons (Ev.name (by walk_at "lk")) (EvL.cons Ev.bytes .nil)) cl_sdGet) (get_bD.trans (by rw [hx0]))) .nil) (fn_readAp (by omega)))
                (Ev.callF (by walk_at "g") (by walk_at "g") (fun P => ⟨o112f P, _, by kernel_rfl, rfl⟩) (EvL.cons (d := .bytes (apB c).toArray) (Ev.item (T := "dict") (Ev.name (by walk_at "lk")) (Ev.name (by walk_at "lk")) F.slot_dict_getitem.lookup ty_sd (get_sd (by rw [lookup_bD, hc]; rfl))) .nil) (fn_readAp (by omega))) cl_add) .nil) (fn_apN (by omega))) (Nat.le_trans hG.1 (by decide))) ExsD.nil))) ExsD.nil) (by walk_at "sub")
            case a1 => show (t.take j).toArray.size + 1 ≤ _; simp; omega
            case a2 => show ((t.take j).toArray ++ #[t.getD (j + 1) 0]).size + 1 ≤ _; simp; omega
            case a3 => show ((t.take j).toArray ++ #[t.getD (j + 1) 0] ++ #[t.getD j 0]).size + (t.drop (j + 2)).toArray.size ≤ _; simp; omega
            case a4 =>
              congr 1
              apply str_ext
              show ((((t.take j).toArray ++ #[t.getD (j + 1) 0]) ++ #[t.getD j 0]) ++ (t.drop (j + 2)).toArray).toList = swapAt t j
              simp [swapAt]
    · obtain ⟨e3, rfl, D3⟩ := h3
      refine wpAny_execs_cons (wpAny_mono (Ex.ret (d := .own a) (Ev.name (by walk_at "lk")) A env O _ s3 he hA D3.sees F1) (fun f s4 h4 => ?_) fun _ _ x => x)
      obtain ⟨e4, v, rfl, r4⟩ := h4
      cases r4
      have e14 : ExtB O s s4 := (((Ext.push (s := s)).b.trans e2).since e3 fun d q => q.elim .inl fun q => .inr (q ▸ hnew)).trans e4
      obtain ⟨us, hd, hb⟩ := dict_at (fun o q => e4.kp _ o hOa q) D3.dict
      exact ⟨e14, .ref a, rfl, .sd hsys hXa hd hb.keys hb.reps⟩
end
end
end Mine
set_option maxRecDepth 100000
set_option Elab.async false
set_option linter.unusedVariables false
set_option maxHeartbeats 1000000
namespace Mine
open PySem PySem.W PySem.Calls PyProof.Rows
noncomputable section
local macro_rules | `(tactic| walk_at "lk") => `(tactic| first | exact lk_hit (by decide +kernel) | (refine lk_miss (by decide +kernel) ?_; walk_at "lk"))
local macro_rules | `(tactic| walk_at "sub") => `(tactic| first | exact Sub.nil | (refine Sub.cons (by walk_at "lk") ?_; walk_at "sub"))
local macro_rules | `(tactic| walk_at "st") => `(tactic| first | exact Or.inl (by decide +kernel) | exact Or.inr (by decide +kernel))
local macro_rules | `(tactic| walk_at "g") => `(tactic| first | decide +kernel | (intro P; kernel_rfl))
section
variable {w : World} {n : Nat} {A : Around} {E : Value → Shared → Prop} {s : Shared}
theorem wp_sorted {l : Addr} {vs out : List Value} {Q : Value → Shared → Prop} (hl : s.heap.IsList l vs.toArray) (h64 : vs.length < 64)
    (h : ∀ h', Kp s.heap h' → (vs.length < 2 ∧ out = vs) ∨ (2 ≤ vs.length ∧ wpAny (model pw w) A.in1.in1 (keyKind' vs.toArray) (fun κ s' => s' = { s with heap := h' } ∧ (kas_sort vs.length).kasWp (kas_ask pw w A.in1.in1 κ vs) (fun p s'' => s'' = { s with heap := h' } ∧ (p.toList.map fun i => vs.getD i Value.none) = out) { s with heap := h' }) (fun _ _ => False) { s with heap := h' }))
    (hQ : ∀ D h' c, Kp s.heap h' → s.heap.get? D = none → h'.get? D = some (seqObj "list" out.toArray c) → Q (.ref D) { s with heap := h' }) :
    wpAny (model pw w) A (call (.builtin "sorted") [.ref l]) Q E s := by
  refine Calls.call_function_entry kind_sorted plain_sorted entry_sorted (args_sorted1 _) ?_
  unfold Builtin.«sorted»
  refine wpAny_bind (m := checkCount "sorted" 1 1 _) (wpAny_pure ?_)
  refine wpAny_bind (collect_list hl ?_ (by rw [sizeLine_eq]; omega))
  refine wpAny_bind (wpAny_newList ?_ (by rw [sizeLine_eq]; omega))
  have hsz : ((s.heap.push (seqObj "list" #[] 0)).update s.heap.objs.size (Obj.mapSeq (· ++ vs.toArray))).objs.size = s.heap.objs.size + 1 := by
    rw [Heap.size_update, size_push']
  have hoL : (((s.heap.push (seqObj "list" #[] 0)).update s.heap.objs.size (Obj.mapSeq (· ++ vs.toArray))).push (seqObj "list" vs.toArray 0)).get? (s.heap.objs.size + 1) = some (seqObj "list" vs.toArray 0) := by
    rw [← hsz]; exact Heap.get?_push_size _ rfl
  have keep : ∀ b o, s.heap.get? b = some o → (((s.heap.push (seqObj "list" #[] 0)).update s.heap.objs.size (Obj.mapSeq (· ++ vs.toArray))).push (seqObj "list" vs.toArray 0)).get? b = some o := fun b o q => by
    have hlt : b < s.heap.objs.size := Heap.lt_size q
    rw [Heap.get?_push_ne _ _ _ (by rw [hsz]; exact Nat.ne_of_lt (Nat.lt_succ_of_lt hlt)), Heap.get?_update_ne _ _ _ _ (Nat.ne_of_lt hlt), Heap.get?_push_ne _ _ _ (Nat.ne_of_lt hlt)]
    exact q
  show wpAny _ _ _ _ _ { s with heap := ((s.heap.push (seqObj "list" #[] 0)).update s.heap.objs.size (Obj.mapSeq (· ++ vs.toArray))).push (seqObj "list" vs.toArray 0) }
  rw [hsz]
  generalize ((s.heap.push (seqObj "list" #[] 0)).update s.heap.objs.size (Obj.mapSeq (· ++ vs.toArray))).push (seqObj "list" vs.toArray 0) = H1 at *
  have ha0 : s.heap.get? (s.heap.objs.size + 1) = none := by
    cases e : s.heap.get? (s.heap.objs.size + 1) with
    | none => rfl
    | some o => exact absurd (Heap.lt_size e) (Nat.not_lt.mpr (Nat.le_succ _))
  generalize s.heap.objs.size + 1 = a at *
  have fresh : ∀ b o, s.heap.get? b = some o → b ≠ a := fun b o e q => by rw [q, ha0] at e; cases e
  refine wpAny_bind (wpAny_holding (wpAny_call_entry slot_list_sort ⟨_, hoL, rfl⟩ entry_list_sort ?body (args_list_sort _)))
  case body =>
    rw [list_sort_plain]
    have ha : a < H1.objs.size := Heap.lt_size hoL
    have s1 := Heap.SameBut.update H1 a (Obj.mapSeq fun _ => (#[] : Array Value))
    obtain ⟨e1, ho1⟩ : ∃ e1, (H1.update a (Obj.mapSeq fun _ => (#[] : Array Value))).get? a = some (seqObj "list" #[] e1) := ⟨_, get?_update_seq hoL fun _ => #[]⟩
    refine wpAny_bind (listItems_at (s := { s with heap := H1 }) hoL rfl ?_)
    refine wpAny_bind (listUpdate_at (s := { s with heap := H1 }) hoL rfl ?_ (by rw [List.size_toArray, sizeLine_eq]; omega) (Nat.zero_le _))
    refine wpAny_bind (seqEpoch_at (s := { s with heap := H1.update a (Obj.mapSeq fun _ => (#[] : Array Value)) }) ho1 rfl ?_)
    refine wpAny_bind (wpAny_newTuple ?_ (by show vs.length ≤ _; rw [sizeLine_eq]; omega))
    refine wpAny_bind (wpAny_newList ?_ (Nat.zero_le _))
    refine wpAny_holding ?_
    have kH : Kp s.heap (((H1.update a (Obj.mapSeq fun _ => (#[] : Array Value))).push (seqObj "tuple" vs.toArray 0)).push (seqObj "list" #[] 0)) := fun b o e =>
      Heap.get?_push_of_some _ (Heap.get?_push_of_some _ (s1.extBut b o (fresh b o e) (keep b o e)))
    have ho3 : (((H1.update a (Obj.mapSeq fun _ => (#[] : Array Value))).push (seqObj "tuple" vs.toArray 0)).push (seqObj "list" #[] 0)).get? a = some (seqObj "list" #[] e1) := Heap.get?_push_of_some _ (Heap.get?_push_of_some _ ho1)
    show wpAny (model pw w) _ _ _ _ { s with heap := ((H1.update a (Obj.mapSeq fun _ => (#[] : Array Value))).push (seqObj "tuple" vs.toArray 0)).push (seqObj "list" #[] 0) }
    generalize ((H1.update a (Obj.mapSeq fun _ => (#[] : Array Value))).push (seqObj "tuple" vs.toArray 0)).push (seqObj "list" #[] 0) = H3 at *
    have fin : ∀ c2, (H3.update a (Obj.mapSeq fun _ => List.toArray out)).get? a = some (seqObj "list" out.toArray c2) → Q (.ref a) { s with heap := H3.update a (Obj.mapSeq fun _ => List.toArray out) } := fun c2 hc2 =>
      hQ a _ c2 (fun b o e => (Heap.SameBut.update H3 a (Obj.mapSeq fun _ => List.toArray out)).extBut b o (fresh b o e) (kH b o e)) ha0 hc2
    obtain ⟨c2, hc2⟩ : ∃ c2, (H3.update a (Obj.mapSeq fun _ => List.toArray out)).get? a = some (seqObj "list" out.toArray c2) := ⟨_, get?_update_seq ho3 fun _ => List.toArray out⟩
    dsimp only
    rcases h H3 kH with ⟨h2, ho⟩ | ⟨h2, ask⟩
    · have hn2 : vs.toArray.size < 2 := by rw [List.size_toArray]; omega
      rw [if_pos hn2, if_pos hn2]
      refine wpAny_bind (wpAny_pure ?_)
      refine wpAny_bind (m := pure ((), SortSt.mk' general' (vs.toArray.zip vs.toArray) #[] 7 none)) (wpAny_pure ?_)
      dsimp only
      have hout : (arrOf (SortSt.mk' general' (vs.toArray.zip vs.toArray) #[] 7 none)).map (·.2) = out.toArray := by
        rw [ho]
        show (vs.toArray.zip vs.toArray).map (·.2) = vs.toArray
        have z : ∀ l : List Value, (l.zip l).map (·.2) = l := fun l => by
          induction l with
          | nil => rfl
          | cons a r ih => rw [List.zip_cons_cons, List.map_cons, ih]
        apply Array.toList_inj.mp
        simpa using z vs
      rw [hout]
      refine wpAny_bind (seqEpoch_at (s := { s with heap := H3 }) ho3 rfl ?_)
      refine wpAny_bind (listUpdate_at (s := { s with heap := H3 }) ho3 rfl ?_ (Nat.zero_le _) (by rw [ho, List.size_toArray, sizeLine_eq]; omega))
      simp only [bne_self_eq_false, Bool.false_eq_true, if_false]
      exact wpAny_pure ⟨_, rfl, wpAny_pure ⟨_, rfl, fin c2 hc2⟩⟩
    · have hn2 : ¬ vs.toArray.size < 2 := by rw [List.size_toArray]; omega
      rw [if_neg hn2, if_neg hn2]
      refine wpAny_bind (wpAny_mono ask (fun κ s0 hk => ?_) fun _ _ x => x.elim)
      obtain ⟨rfl, hk⟩ := hk
      refine wpAny_bind (wpAny_mono (kat_run (Q := fun st' s' => ∃ p : Array Nat, p.size = vs.length ∧ arrOf st' = p.map (kas_item (vs.toArray.zip vs.toArray)) ∧ failedOf st' = none ∧ s' = { s with heap := H3 } ∧ (p.toList.map fun i => vs.getD i Value.none) = out)
        rfl h2 h64 (fun p' st' s' a1 a2 a3 a4 => ⟨p', a1, a2, a3, a4⟩) hk) ?_ fun _ _ e => e)
      rintro ⟨⟨⟩, st'⟩ s' ⟨p, hp, har, hf, rfl, ho⟩
      dsimp only
      have hout : (arrOf st').map (·.2) = out.toArray := by rw [kat_snds rfl har, ho]
      have hlo : out.length = vs.length := by rw [← ho, List.length_map, Array.length_toList, hp]
      rw [hout]
      refine wpAny_bind (seqEpoch_at (s := { s with heap := H3 }) ho3 rfl ?_)
      refine wpAny_bind (listUpdate_at (s := { s with heap := H3 }) ho3 rfl ?_ (Nat.zero_le _) (by rw [List.size_toArray, sizeLine_eq]; omega))
      rw [hf]
      simp only [bne_self_eq_false, Bool.false_eq_true, if_false]
      exact wpAny_pure ⟨_, rfl, wpAny_pure ⟨_, rfl, fin c2 hc2⟩⟩
end
end
end Mine
set_option maxRecDepth 100000
set_option Elab.async false
set_option linter.unusedVariables false
set_option maxHeartbeats 1000000
namespace Mine
open PySem PySem.W PySem.Calls PyProof.Rows
noncomputable section
local macro_rules | `(tactic| walk_at "lk") => `(tactic| first | exact lk_hit (by decide +kernel) | (refine lk_miss (by decide +kernel) ?_; walk_at "lk"))
local macro_rules | `(tactic| walk_at "sub") => `(tactic| first | exact Sub.nil | (refine Sub.cons (by walk_at "lk") ?_; walk_at "sub"))
local macro_rules | `(tactic| walk_at "st") => `(tactic| first | exact Or.inl (by decide +kernel) | exact Or.inr (by decide +kernel))
local macro_rules | `(tactic| walk_at "g") => `(tactic| first | decide +kernel | (intro P; kernel_rfl))
section
variable {w : World} {n : Nat} {A : Around} {E : Value → Shared → Prop} {s : Shared}
noncomputable def kasRun {α : Type} : KasT α → (Nat → Nat → Bool) → α
  | .ret a, _ => a
  | .ask i j k, lt => kasRun (k (lt i j)) lt
noncomputable def kasIn {α : Type} (n : Nat) : KasT α → (Nat → Nat → Bool) → Bool
  | .ret _, _ => true
  | .ask i j k, lt => decide (i < n) && decide (j < n) && decide (i ≠ j) && kasIn n (k (lt i j)) lt
theorem kas_det {α : Type} {cmp : Nat → Nat → (Bool → Shared → Prop) → Shared → Prop} {lt : Nat → Nat → Bool} {n : Nat} {s0 : Shared} (hc : ∀ i j (C : Bool → Shared → Prop), i < n → j < n → i ≠ j → C (lt i j) s0 → cmp i j C s0) {Q : α → Shared → Prop} :
    ∀ t : KasT α, kasIn n t lt = true → Q (kasRun t lt) s0 → t.kasWp cmp Q s0
  | .ret a, _, h => h
  | .ask i j k, hi, h => by
    simp only [kasIn, Bool.and_eq_true, decide_eq_true_eq] at hi
    exact hc i j _ hi.1.1.1 hi.1.1.2 hi.1.2 (kas_det hc (k (lt i j)) hi.2 h)
theorem kas_agree {α : Type} {lt lt' : Nat → Nat → Bool} {n : Nat} (h : ∀ i j, i < n → j < n → i ≠ j → lt i j = lt' i j) : ∀ t : KasT α, kasIn n t lt' = true → kasIn n t lt = true ∧ kasRun t lt = kasRun t lt'
  | .ret a, _ => ⟨rfl, rfl⟩
  | .ask i j k, hi => by
    simp only [kasIn, Bool.and_eq_true, decide_eq_true_eq] at hi
    have := kas_agree h (k (lt' i j)) hi.2
    have e := h i j hi.1.1.1 hi.1.1.2 hi.1.2
    simp only [kasIn, kasRun, e, Bool.and_eq_true, decide_eq_true_eq]
    exact ⟨⟨hi.1, this.1⟩, this.2⟩
noncomputable def tab (a b c : Bool) (i j : Nat) : Bool := match i, j with
  | 0, 1 => a
  | 1, 0 => !a
  | 0, 2 => b
  | 2, 0 => !b
  | 1, 2 => c
  | 2, 1 => !c
  | _, _ => false
theorem tab3_in (a b c : Bool) : kasIn 3 (kas_sort 3) (tab a b c) = true := by cases a <;> cases b <;> cases c <;> decide +kernel
theorem tab2_in (a b c : Bool) : kasIn 2 (kas_sort 2) (tab a b c) = true := by cases a <;> cases b <;> cases c <;> decide +kernel
noncomputable def runT (a b c : Bool) : List Nat := (kasRun (kas_sort 3) (tab a b c)).toList
noncomputable def runU (a b c : Bool) : List Nat := (kasRun (kas_sort 2) (tab a b c)).toList
theorem runT_lt (a b c : Bool) : ∀ i ∈ runT a b c, i < 3 := by cases a <;> cases b <;> cases c <;> decide +kernel
theorem runU_lt (a b c : Bool) : ∀ i ∈ runU a b c, i < 2 := by cases a <;> cases b <;> cases c <;> decide +kernel
noncomputable abbrev En := List Nat × Int
noncomputable def endD (p : En) : D := .tup [.str ⟨p.1.toArray⟩, .int p.2]
noncomputable def ltE (x y : En) : Bool := decide (x.1 < y.1)
noncomputable def atE (l : List En) (i : Nat) : En := l.getD i ([], 0)
noncomputable def ltL (l : List En) (i j : Nat) : Bool := ltE (atE l i) (atE l j)
/-- what sorted makes of at most three ends -/
noncomputable def idxE (l : List En) : List Nat := if l.length < 2 then List.range l.length else if l.length = 2 then runU (ltL l 0 1) (ltL l 0 2) (ltL l 1 2) else runT (ltL l 0 1) (ltL l 0 2) (ltL l 1 2)
noncomputable def srt (l : List En) : List En := (idxE l).map (atE l)
theorem ltE_flip {x y : En} (h : x.1 ≠ y.1) : ltE y x = !ltE x y := by
  unfold ltE
  by_cases h1 : x.1 < y.1
  · have h2 : ¬ y.1 < x.1 := List.lt_asymm h1
    simp [h1, h2]
  · have h2 : y.1 < x.1 := by
      apply Decidable.byContradiction
      intro h3
      exact h (List.le_antisymm (List.not_lt.mp h3) (List.not_lt.mp h1))
    simp [h1, h2]
theorem atE_ne {l : List En} (hd : (l.map (·.1)).Nodup) {i j : Nat} (hi : i < l.length) (hj : j < l.length) (hij : i ≠ j) : (atE l i).1 ≠ (atE l j).1 := by
  intro e
  unfold atE at e
  rw [List.getD_eq_getElem?_getD, List.getD_eq_getElem?_getD, List.getElem?_eq_getElem hi, List.getElem?_eq_getElem hj] at e
  have := (List.getElem_inj (xs := l.map (·.1)) (i := i) (j := j) (h₀ := by simpa using hi) (h₁ := by simpa using hj) hd).mp (by simpa using e)
  exact hij this
theorem ltL_tab {l : List En} (hd : (l.map (·.1)).Nodup) (h3 : l.length ≤ 3) : ∀ i j, i < l.length → j < l.length → i ≠ j → ltL l i j = tab (ltL l 0 1) (ltL l 0 2) (ltL l 1 2) i j := by
  intro i j hi hj hij
  have fl : ∀ i j, i < l.length → j < l.length → i ≠ j → ltL l j i = !ltL l i j := fun i j hi hj hij => ltE_flip (atE_ne hd hi hj hij)
  match i, j with
  | 0, 1 => rfl
  | 1, 0 => exact fl 0 1 hj hi (by decide)
  | 0, 2 => rfl
  | 2, 0 => exact fl 0 2 hj hi (by decide)
  | 1, 2 => rfl
  | 2, 1 => exact fl 1 2 hj hi (by decide)
  | 0, 0 => exact absurd rfl hij
  | 1, 1 => exact absurd rfl hij
  | 2, 2 => exact absurd rfl hij
  | k + 3, _ => omega
  | _, k + 3 => omega
theorem idxE_lt {l : List En} (h3 : l.length ≤ 3) : ∀ i ∈ idxE l, i < l.length := by
  intro i hi
  unfold idxE at hi
  split at hi
  · simpa using hi
  · split at hi
    · have := runU_lt _ _ _ i hi; omega
    · have := runT_lt _ _ _ i hi; omega
theorem idxE_run {l : List En} (hd : (l.map (·.1)).Nodup) (h2 : 2 ≤ l.length) (h3 : l.length ≤ 3) : kasIn l.length (kas_sort l.length) (ltL l) = true ∧ (kasRun (kas_sort l.length) (ltL l)).toList = idxE l := by
  have ht := ltL_tab hd h3
  unfold idxE
  rw [if_neg (by omega)]
  by_cases h : l.length = 2
  · rw [if_pos h]
    rw [h] at ht ⊢
    have := kas_agree ht (kas_sort 2) (tab2_in _ _ _)
    exact ⟨this.1, by rw [this.2]; rfl⟩
  · rw [if_neg h]
    have h' : l.length = 3 := by omega
    rw [h'] at ht ⊢
    have := kas_agree ht (kas_sort 3) (tab3_in _ _ _)
    exact ⟨this.1, by rw [this.2]; rfl⟩
theorem tups_of {X : Addr → Prop} {h : Heap} : ∀ {l : List En} {us : List Value}, Reps w X h us (l.map endD) → ∃ fs, KatTups h us fs ∧ fs.length = l.length ∧ ∀ v ∈ fs, ∃ x t, v = Value.str x t
  | [], us, r => by cases r; exact ⟨[], .nil, rfl, by simp⟩
  | p :: l, us, r => by
    rw [List.map_cons] at r
    cases r with
    | cons a r =>
      obtain ⟨fs, h1, h2, h3⟩ := tups_of r
      obtain ⟨b, vs, k, rfl, hX, hg, rs⟩ := tuple_of_rep (ds := [.str ⟨p.1.toArray⟩, .int p.2]) a
      obtain ⟨v, u, rfl, r1, r2⟩ := rs.two
      cases r1 with
      | str _ t => exact ⟨.str _ t :: fs, KatTups.cons hg rfl rfl rfl h1, by simp [h2], fun v hv => (List.mem_cons.mp hv).elim (fun e => ⟨_, _, e⟩) (h3 v)⟩
theorem reps_at {X : Addr → Prop} {h : Heap} {l : List En} {us : List Value} (r : Reps w X h us (l.map endD)) {i : Nat} (hi : i < l.length) : Rep w X h (us.getD i .none) (endD (atE l i)) := by
  have e : (l.map endD)[i]? = some (endD (atE l i)) := by
    unfold atE
    rw [List.getElem?_map, List.getD_eq_getElem?_getD, List.getElem?_eq_getElem hi]; rfl
  obtain ⟨v, hv, rv⟩ := r.get e
  rw [List.getD_eq_getElem?_getD, hv]; exact rv
theorem reps_pick {X : Addr → Prop} {h : Heap} {l : List En} {us : List Value} (r : Reps w X h us (l.map endD)) : ∀ {is : List Nat}, (∀ i ∈ is, i < l.length) → Reps w X h (is.map fun i => us.getD i .none) ((is.map (atE l)).map endD)
  | [], _ => .nil
  | i :: is, hi => .cons (reps_at r (hi i List.mem_cons_self)) (reps_pick r fun j q => hi j (List.mem_cons_of_mem _ q))
theorem range_getD (us : List Value) : (List.range us.length).map (fun i => us.getD i .none) = us := by
  apply List.ext_getElem
  · simp
  · intro i h1 h2; simp [List.getElem?_eq_getElem h2]
theorem cl_sorted {l : List En} (hd : (l.map (·.1)).Nodup) (h3 : l.length ≤ 3) : Cl w n (fun vs => call (.builtin "sorted") vs) [.lst (l.map endD)] (.lst ((srt l).map endD)) := fun A X s vs hA B ok r => by
  obtain ⟨v, rfl, a⟩ := r.one
  obtain ⟨la, us, k, rfl, hX, hg, rs⟩ := list_of_rep a
  have hlen : us.length = l.length := by have := rs.length; simpa using this
  have rout := reps_pick rs (idxE_lt h3)
  refine wp_sorted (out := (idxE l).map fun i => us.getD i .none) (isList_of hg) (by omega) (fun h' kp => ?_) (fun D h' c kp fr hD => ⟨⟨⟨_, _, rfl⟩, kp⟩, .lst (fun q => ?_) hD (rout.kp kp.but)⟩)
  · by_cases h2 : l.length < 2
    · refine .inl ⟨by omega, ?_⟩
      unfold idxE
      rw [if_pos h2, ← hlen]
      exact range_getD us
    · refine .inr ⟨by omega, ?_⟩
      have rs' := rs.kp (X := X) (h' := h') kp.but
      obtain ⟨fs, t1, t2, t3⟩ := tups_of rs'
      refine kat_kind (s := { s with heap := h' }) (T := .type "str") t1 (by omega) (fun v hv => ?_) (by decide) ⟨rfl, ?_⟩
      · obtain ⟨x, t, rfl⟩ := t3 v hv
        exact Looks.of_pure rfl
      · rw [hlen]
        have hrun := idxE_run hd (by omega) h3
        refine kas_det (lt := ltL l) (n := l.length) (fun i j C hi hj hij hC => ?_) _ hrun.1 ⟨rfl, by rw [hrun.2]⟩
        show wpAny _ _ (keyLt' _ (us.getD i .none) (us.getD j .none)) _ _ _
        obtain ⟨bi, vi, ki, ei, hXi, hgi, ri⟩ := tuple_of_rep (ds := [.str ⟨(atE l i).1.toArray⟩, .int (atE l i).2]) (reps_at rs' hi)
        obtain ⟨bj, vj, kj, ej, hXj, hgj, rj⟩ := tuple_of_rep (ds := [.str ⟨(atE l j).1.toArray⟩, .int (atE l j).2]) (reps_at rs' hj)
        obtain ⟨xi, yi, rfl, ri1, ri2⟩ := ri.two
        obtain ⟨xj, yj, rfl, rj1, rj2⟩ := rj.two
        rw [ei, ej]
        cases ri1 with
        | str _ ti =>
          cases rj1 with
          | str _ tj =>
            refine kat_lt hgi rfl hgj rfl (kat_cons (wpAny_eqBool_str ?_))
            have hne : ¬ ((⟨(atE l i).1.toArray⟩ : Str) = ⟨(atE l j).1.toArray⟩) := fun q => atE_ne hd hi hj hij (str_inj.mp q)
            rw [decide_eq_false hne]
            refine kat_no (oneLt_str ?_)
            exact hC
  · obtain ⟨o, e⟩ := (ok D q).2
    rw [fr] at e; cases e
end
end
end Mine
set_option maxRecDepth 100000
set_option Elab.async false
set_option linter.unusedVariables false
set_option maxHeartbeats 1000000
namespace Mine
open PySem PySem.W PySem.Calls PyProof.Rows
noncomputable section
local macro_rules | `(tactic| walk_at "lk") => `(tactic| first | exact lk_hit (by decide +kernel) | (refine lk_miss (by decide +kernel) ?_; walk_at "lk"))
local macro_rules | `(tactic| walk_at "sub") => `(tactic| first | exact Sub.nil | (refine Sub.cons (by walk_at "lk") ?_; walk_at "sub"))
local macro_rules | `(tactic| walk_at "st") => `(tactic| first | exact Or.inl (by decide +kernel) | exact Or.inr (by decide +kernel))
local macro_rules | `(tactic| walk_at "g") => `(tactic| first | decide +kernel | (intro P; kernel_rfl))
section
variable {w : World} {n : Nat} {sc st : Scope} {ρ : Rho}
noncomputable def enumD (ds : List D) : List D := (List.range ds.length).map fun (i : Nat) => D.tup [.int (i : Int), ds.getD i .none]
theorem enumD_length (ds : List D) : (enumD ds).length = ds.length := by simp [enumD]
theorem enumD_drop {ds : List D} {i : Nat} (h : i < ds.length) : (enumD ds).drop i = .tup [.int (i : Int), ds.getD i .none] :: (enumD ds).drop (i + 1) := by
  rw [List.drop_eq_getElem_cons (by rw [enumD_length]; exact h)]
  congr 1
  simp [enumD]
noncomputable def EnSt (w : World) (e it l : Addr) (vs : List Value) (k : Nat) (ds : List D) : (Addr → Prop) → List D → Heap → Prop := fun Y rest h =>
  ∃ i, rest = (enumD ds).drop i ∧ i ≤ ds.length ∧ (∃ old, IsEnum h e it (i : Int) old) ∧ h.IsListIter it l i ∧ h.get? l = some (seqObj "list" vs.toArray k) ∧ ¬ Y l ∧ Reps w Y h vs ds ∧ Y e ∧ Y it
theorem enumL {A : Around} {es : List Expr} {kk : Nat} {p : Pos} {e it l : Addr} {vs : List Value} {k : Nat} {ds : List D} (hh : A.handled = none) (hei : e ≠ it) (hle : l ≠ e) (hli : l ≠ it) :
    ItL w A (.Tuple es kk p) (.ref e) (fun b => b = e ∨ b = it) (EnSt w e it l vs k ds) where
  grow := fun Y Y' rest h ⟨i, a, b, c, d, f, g, r, y1, y2⟩ hY hw => ⟨i, a, b, c, d, f, (fun q => (hY l q).elim g fun z => (by rw [f] at z; cases z)), r.off fun x o ee q => (hY x q).elim id fun z => (by rw [z] at ee; cases ee), hw e (.inl rfl), hw it (.inr rfl)⟩
  frame := fun Y rest h h' ⟨i, a, b, ⟨old, c⟩, d, f, g, r, y1, y2⟩ hk => ⟨i, a, b, ⟨old, hk e _ (.inr (.inl rfl)) c⟩, d.at fun o x => hk it o (.inr (.inr rfl)) x, hk l _ (.inl g) f, g, r.kp fun x o q ee => hk x o (.inl q) ee, y1, y2⟩
  live := fun Y rest h ⟨i, a, b, ⟨old, c⟩, ⟨o, d, _⟩, _⟩ x hx => by
    rcases hx with rfl | rfl
    · exact ⟨_, c⟩
    · exact ⟨_, d⟩
  next := fun Y d rest s ⟨i, a, b, ⟨old, c⟩, dd, f, g, r, y1, y2⟩ hl => by
    have hi : i < ds.length := by
      rcases Nat.lt_or_ge i ds.length with h | h
      · exact h
      · rw [List.drop_of_length_le (by rw [enumD_length]; exact h)] at a; cases a
    rw [enumD_drop hi] at a
    obtain ⟨rfl, rfl⟩ := List.cons.inj a
    have hgd : ds[i]? = some (ds.getD i .none) := by rw [List.getD_eq_getElem?_getD, List.getElem?_eq_getElem hi]; rfl
    obtain ⟨v, hv, rv⟩ := r.get hgd
    have helt : e < s.heap.objs.size := Heap.lt_size c
    have hilt : it < s.heap.objs.size := by obtain ⟨_, x, _⟩ := dd; exact Heap.lt_size x
    have hllt : l < s.heap.objs.size := Heap.lt_size f
    refine wpAny_pyNext_enum_item (x := v) c dd (isList_of f) (by simpa using hv) hei fun h' ho hit' hT hsz hk => ?_
    refine ⟨_, rfl, wpAny_letOwnedTupleGo_enum ho fun h'' he'' hs'' => ?_⟩
    have kk' : ∀ x o, x ≠ e → x ≠ it → s.heap.get? x = some o → h''.get? x = some o := fun x o q1 q2 ee => (hs''.2 x q1).trans (hk x o q1 q2 ee)
    have kY : KpB Y s.heap h'' := fun x o q ee => kk' x o (fun z => q (z ▸ y1)) (fun z => q (z ▸ y2)) ee
    have hTY : ¬ Y s.heap.objs.size := fun q => by
      obtain ⟨o, ee⟩ := hl _ q
      rw [get?_size] at ee; cases ee
    refine ⟨⟨⟨_, _, rfl⟩, fun x o q ee => kk' x o (fun z => q (.inl z)) (fun z => q (.inr z)) ee, fun x lx => ?_⟩, ?_, i + 1, rfl, hi, ⟨_, by have := he''; rwa [show ((i : Int) + 1) = ((i + 1 : Nat) : Int) from rfl] at this⟩, hit'.at fun o x => (hs''.2 it hei.symm).trans x, kk' l _ hle hli f, g, r.kp kY, y1, y2⟩
    · by_cases q1 : x = e
      · subst q1; exact ⟨_, he''⟩
      · by_cases q2 : x = it
        · subst q2; obtain ⟨o, x', _⟩ := hit'; exact ⟨o, (hs''.2 _ q1).trans x'⟩
        · obtain ⟨o, ee⟩ := lx; exact ⟨o, kk' x o q1 q2 ee⟩
    · have hT' : h''.get? s.heap.objs.size = some (seqObj "tuple" (List.toArray [.int (i : Int) s.toks, v]) 0) := (hs''.2 _ (Nat.ne_of_gt helt)).trans hT
      exact .tup hTY hT' (.cons (.int _ _) (.cons (rv.kp kY) .nil))
  done := fun Y s ⟨i, a, b, ⟨old, c⟩, dd, f, g, r, y1, y2⟩ => by
    have hi : ds.length ≤ i := by
      rcases Nat.lt_or_ge i ds.length with h | h
      · rw [enumD_drop h] at a; cases a
      · exact h
    have hlen := r.length
    refine wpAny_pyNext_enum_end hh c dd (isList_of f) (by simp; omega) fun h' hx => ⟨rfl, ⟨_, _, rfl⟩, fun b o q ee => hx b o (fun z => q (.inr z)) ee⟩
  self := fun Y rest s ⟨i, a, b, ⟨old, c⟩, _⟩ => wpAny_pyIter_enum c ⟨rfl, rfl⟩
theorem Itr.enum {es : List Expr} {kk : Nat} {q p pos : Pos} {id : Str} {e : Expr} {ds : List D} (hk : sc.names.lookup id = some .globalImplicit) (hid : ∀ P, nsFind (o3es P) id = Option.none) (hb : ∀ P, nsFind (o0es P) id = some (.type "enumerate"))
    (h : Ev w n sc ρ e (.lst ds)) (hse : ∀ env, backTo pos (starEach [e] env) = [(false, eval e env)] := by intros; rfl) (hd : (id == ("__debug__" : Str)) = false := by decide +kernel) :
    Itr w n sc ρ (.Tuple es kk q) (.Call (.Name id p) [e] [] pos) (enumD ds) := fun A env X s he hA S => by
  subst he
  refine wpAny_Call_NameR (Name_function_global S.kind hk ?_ hd)
  refine loadGlobal_builtin (mg := nsFind (o3es w.params)) (mb := nsFind (o0es w.params)) (by rw [S.glob]; exact ns3_of S.base) (hid w.params) (by rw [S.blt]; exact ns0_of S.base) (hb w.params) ?_
  rw [hse]
  refine PySem.callWith_type rfl (Calls.evalArgs_plain (Calls.spliced_cons (wpAny_mono (h A env X s rfl hA S) (fun nv s₁ h₁ => Calls.spliced_nil ?_) fun _ _ x => x)))
  obtain ⟨e1, r1⟩ := h₁
  obtain ⟨l, vs, k, rfl, hX, hg, rs⟩ := list_of_rep r1
  have hllt : l < s₁.heap.objs.size := Heap.lt_size hg
  have n0 : s₁.heap.get? s₁.heap.objs.size = none := get?_size _
  have n1 : s₁.heap.get? (s₁.heap.objs.size + 1) = none := by
    cases e : s₁.heap.get? (s₁.heap.objs.size + 1) with
    | none => rfl
    | some o => exact absurd (Heap.lt_size e) (Nat.not_lt.mpr (Nat.le_succ _))
  refine call_enumerate_list (isList_of hg) fun h' hE hI hsz hk' => wpAny_pyIter_enum hE ?_
  have hwr : ∀ b, b = s₁.heap.objs.size + 1 ∨ b = s₁.heap.objs.size → s₁.heap.get? b = none := fun b q => by rcases q with rfl | rfl; exact n1; exact n0
  have e2 : Ext s₁ { s₁ with heap := h' } := ⟨⟨_, _, rfl⟩, hk'⟩
  refine ⟨e1.trans e2, fun b => b = s₁.heap.objs.size + 1 ∨ b = s₁.heap.objs.size, fun b q => none_back e1.kp (hwr b q), EnSt w (s₁.heap.objs.size + 1) s₁.heap.objs.size l vs k ds, ?_, ?_⟩
  · exact enumL hA.hd (Nat.succ_ne_self _) (Nat.ne_of_lt (Nat.lt_succ_of_lt hllt)) (Nat.ne_of_lt hllt)
  · refine ⟨0, rfl, Nat.zero_le _, ⟨_, hE⟩, hI, hk' _ _ hg, fun q => q.elim hX fun q => ?_, (rs.off fun b o x q => q.elim (fun z => z) fun q => ?_).kp (fun b o _ x => hk' b o x), .inr (.inl rfl), .inr (.inr rfl)⟩
    · rw [hwr _ q] at hg; cases hg
    · rw [hwr _ q] at x; cases x
theorem repl_flat {v : Value} : ∀ k : Nat, (List.foldl (fun x1 x2 => x1 ++ x2) (#[] : Array Value) (List.replicate k #[v])) = (List.replicate k v).toArray := by
  have go : ∀ (k : Nat) (a : Array Value), List.foldl (fun x1 x2 => x1 ++ x2) a (List.replicate k #[v]) = a ++ (List.replicate k v).toArray := fun k => by
    induction k with
    | zero => intro a; simp
    | succ k ih => intro a; rw [List.replicate_succ, List.foldl_cons, ih, List.replicate_succ]; apply Array.toList_inj.mp; simp
  intro k; rw [go]; simp
theorem wp_mulList {A : Around} {E : Value → Shared → Prop} {s : Shared} {l : Addr} {items : Array Value} {k : Nat} {x : Int} {u : Tok} {Q : Value → Shared → Prop}
    (hl : s.heap.get? l = some { cls := .type "list", dict := none, data := .seq items k, slots := #[] })
    (hlo : -(2 ^ 63 : Int) ≤ x) (hhi : x < 2 ^ 63) (hsz : items.size * x.toNat ≤ 2 ^ 24)
    (h : Q (.ref s.heap.objs.size) { s with heap := s.heap.push { cls := .type "list", data := .seq (List.foldl (fun x1 x2 => x1 ++ x2) #[] (List.replicate (if items.isEmpty = true then 0 else x.toNat) items)) } }) :
    wpAny (model pw w) A (binaryOp .Mult (.ref l) (.int x u)) Q E s :=
  wpAny_binaryOp_repeat_ref (T := "list") (U := "int") (by decide) ⟨_, hl, rfl⟩ (fun s' => typeIs_int s' x u) noFill_list_mul F.fills_int_mul F.slot_int_rmul repeat_list F.slot_int_index.lookup
    (call_meets F.slot_int_rmul (typeIs_int s x u) F.entry_int_rmul (F.args_int_rmul_2 _ _) (int___rmul___int_list x u l items k)
      ⟨hl, rfl, ⟨_, hl, rfl⟩, call_meets F.slot_list_mul ⟨_, hl, rfl⟩ F.entry_list_mul (F.args_list_mul_2 _ _)
        (AutoListH.list___mul___list_int_3 l items k x u (by simp [Builtin.List.listFitsIndex]; omega) (by omega) (by simp [Builtin.List.listTooLong, sizeLine]; omega))
        ⟨hl, h⟩⟩)
theorem cl_mulLst {d : D} {k : Nat} (hk : k ≤ 100000) : Cl w n (Bin .Mult) [.lst [d], .int (k : Int)] (.lst (List.replicate k d)) := fun A X s vs hA B ok r => by
  obtain ⟨v, u, rfl, a, b⟩ := r.two
  cases b with
  | int _ t =>
    obtain ⟨l, us, kk, rfl, hX, hg, rs⟩ := list_of_rep a
    obtain ⟨v, rfl, rv⟩ := rs.one
    have hs : ([v].toArray.size * ((k : Nat) : Int).toNat) ≤ 2 ^ 24 := by rw [Int.toNat_natCast]; show 1 * k ≤ 2 ^ 24; omega
    refine wp_mulList hg (by omega) (by omega) hs ?_
    refine ⟨.push, ?_⟩
    have e : (List.foldl (fun x1 x2 => x1 ++ x2) (#[] : Array Value) (List.replicate (if ([v].toArray).isEmpty = true then 0 else (k : Int).toNat) [v].toArray)) = (List.replicate k v).toArray := by
      rw [if_neg (by simp), Int.toNat_natCast]; exact repl_flat k
    rw [e]
    refine (Rep.newList ok ?_).kp KpB.refl
    clear e hk hs r
    induction k with
    | zero => exact .nil
    | succ k ih => exact .cons rv ih
theorem Ev.dict0 {pos : Pos} : Ev w n sc ρ (.Dict [] [] pos) (.sd []) := fun A env X s he hA S => by
  refine wpAny_Dict_empty ⟨.push, .sd (size_sys S.base) (fresh_off S.xok) (Heap.DictOf.new (knd := PySem.strKind pw w) s.heap) rfl .nil⟩
theorem Ev.dict1 {ke ve : Expr} {pos : Pos} {x : Str} {b : Array UInt8} (hk : Ev w n sc ρ ke (.str x)) (hv : Ev w n sc ρ ve (.bytes b)) : Ev w n sc ρ (.Dict [some ke] [ve] pos) (.sd [(x, .bytes b)]) := fun A env X s he hA S => by
  refine wpAny_Dict_walk (knd := PySem.strKind pw w) (by rfl) (by rfl) (by simp) (by show (1 : Nat) ≤ 15; decide) ?_
  have eP : Ext s { s with heap := s.heap.push { cls := .type "dict", data := .dict #[] } } := .push
  refine pairTrees_cons_walk (wpAny_mono (hk A env X _ he hA (S.ext eP)) (fun kv s₁ h₁ => wpAny_mono (hv A env X s₁ he hA ((S.ext eP).ext h₁.1)) (fun vv s₂ h₂ => pairTrees_nil_walk ?_) fun _ _ x => x) fun _ _ x => x)
  obtain ⟨e1, r1⟩ := h₁
  obtain ⟨e2, r2⟩ := h₂
  have E := (eP.trans e1).trans e2
  cases r1 with
  | str _ t =>
    cases r2 with
    | bytes _ t2 =>
      refine ⟨[(x, .bytes b t2)], ⟨strKind_is _ _ _ t, rfl, trivial⟩, DictOf_at (Heap.DictOf.new (knd := PySem.strKind pw w) s.heap) fun o q => (e1.trans e2).kp _ o q, fun h' hd hs => ⟨⟨by obtain ⟨h1, t1, rfl⟩ := E.eq; exact ⟨_, _, rfl⟩, fun b o q => hs.extBut b o (fun z => ?_) (E.kp b o q)⟩, .sd (size_sys S.base) (fresh_off S.xok) hd rfl (.cons (.bytes _ _) .nil)⟩⟩
      rw [z, get?_size] at q; cases q
noncomputable def veilsL : List Nat := [65024, 65025, 65026, 65027, 65028, 65029, 65030, 65031, 65032, 65033, 65034, 65035, 65036, 65037, 65038, 65039, 173, 847, 6150, 6155, 6156, 6157, 8203, 8204, 8205, 8288, 65279]
noncomputable def o93vs (P : Params) : List Value := match (o93d P).data with
  | .seq xs _ => xs.toList
  | _ => []
theorem o93_get (P : Params) : (HF P).get? 93 = some (o93d P) := by kernel_rfl
theorem o93_obj (P : Params) : o93d P = seqObj "tuple" (o93vs P).toArray 0 := by kernel_rfl
theorem o93_int (P : Params) : (o93vs P).map (fun v => match v with | .int k _ => some k | _ => none) = veilsL.map fun (k : Nat) => some (k : Int) := by kernel_rfl
theorem reps_ints {X : Addr → Prop} {h : Heap} : ∀ {vs : List Value} {ks : List Nat}, vs.map (fun v => match v with | .int k _ => some k | _ => none) = ks.map (fun (k : Nat) => some (k : Int)) → Reps w X h vs (ks.map fun (k : Nat) => D.int (k : Int))
  | [], [], _ => .nil
  | [], _ :: _, e => by simp at e
  | _ :: _, [], e => by simp at e
  | v :: vs, k :: ks, e => by
    rw [List.map_cons, List.map_cons] at e
    obtain ⟨e1, e2⟩ := List.cons.inj e
    cases v with
    | int j t =>
      have : j = (k : Int) := by simpa using e1
      subst this
      exact .cons (.int _ t) (reps_ints e2)
    | _ => simp at e1
theorem veils_rep (X : Addr → Prop) (h : Heap) (B : Base w h) (ok : XOk w X h) : Rep w X h (.ref 93) (.tup (veilsL.map fun (k : Nat) => D.int (k : Int))) := by
  have g := o93_get w.params
  refine .tup (off_hf ok g) (B _ _ (g.trans (congrArg some (o93_obj w.params)))) (reps_ints (o93_int w.params))
end
end
end Mine
set_option maxRecDepth 100000
set_option Elab.async false
set_option linter.unusedVariables false
set_option maxHeartbeats 1000000
namespace Mine
open PySem PySem.W PySem.Calls PyProof.Rows
noncomputable section
local macro_rules | `(tactic| walk_at "lk") => `(tactic| first | exact lk_hit (by decide +kernel) | (refine lk_miss (by decide +kernel) ?_; walk_at "lk"))
local macro_rules | `(tactic| walk_at "sub") => `(tactic| first | exact Sub.nil | (refine Sub.cons (by walk_at "lk") ?_; walk_at "sub"))
local macro_rules | `(tactic| walk_at "st") => `(tactic| first | exact Or.inl (by decide +kernel) | exact Or.inr (by decide +kernel))
local macro_rules | `(tactic| walk_at "g") => `(tactic| first | decide +kernel | (intro P; kernel_rfl))
section
variable {w : World} {n : Nat} {sc st : Scope} {ρ : Rho}
theorem eqvAll_ints : ∀ l : List Int, PyData.eqvAll (l.map PyData.int) (l.map PyData.int) = true
  | [] => by rw [List.map_nil, PyData.eqvAll]
  | a :: l => by rw [List.map_cons, PyData.eqvAll, eqvAll_ints l, PyData.eqv]; simp
noncomputable def enP (p : En) : PyData := .tuple [.str ⟨p.1.toArray⟩, .int p.2]
theorem dPs_ens : ∀ l : List En, dPs (l.map endD) = l.map enP
  | [] => by rw [List.map_nil, List.map_nil, dPs]
  | p :: l => by rw [List.map_cons, List.map_cons, dPs, dPs_ens l]; unfold endD enP; rw [dP, dPs, dPs, dPs, dP, dP]
theorem dOks_ens : ∀ l : List En, dOks (l.map endD) = true
  | [] => by rw [List.map_nil, dOks]
  | p :: l => by rw [List.map_cons, dOks, dOks_ens l]; unfold endD; rw [dOk, dOks, dOks, dOks, dOk, dOk]; rfl
theorem eqvAll_ens : ∀ l : List En, PyData.eqvAll (l.map enP) (l.map enP) = true
  | [] => by rw [List.map_nil, PyData.eqvAll]
  | p :: l => by rw [List.map_cons, PyData.eqvAll, eqvAll_ens l]; unfold enP; rw [PyData.eqv, PyData.eqvAll, PyData.eqvAll, PyData.eqvAll, PyData.eqv, PyData.eqv]; simp
theorem lay_ens : ∀ {l : List En}, (∀ p ∈ l, ∀ c ∈ p.1, c < 0x110000) → PyData.canLayAll0 (l.map enP) = true
  | [], _ => by rw [List.map_nil, PyData.canLayAll0]
  | p :: l, h => by
    rw [List.map_cons, PyData.canLayAll0, lay_ens fun q hq => h q (List.mem_cons_of_mem _ hq)]
    unfold enP
    rw [PyData.canLay0, PyData.canLayAll0, PyData.canLayAll0, PyData.canLayAll0, PyData.canLay0, PyData.canLay0]
    have : PyData.strOk ⟨p.1.toArray⟩ = true := by
      unfold PyData.strOk
      simp only [List.all_toArray, List.all_eq_true, decide_eq_true_eq]
      exact h p List.mem_cons_self
    rw [this]; rfl
theorem depth_ens : ∀ l : List En, PyData.depthAll (l.map enP) ≤ 1
  | [] => by rw [List.map_nil, PyData.depthAll]; decide
  | p :: l => by
    rw [List.map_cons, PyData.depthAll]
    have := depth_ens l
    have e : PyData.depth (enP p) = 1 := by
      unfold enP
      rw [PyData.depth, PyData.depthAll, PyData.depthAll, PyData.depthAll, PyData.depth, PyData.depth]; rfl
    rw [e]; exact Nat.max_le.mpr ⟨Nat.le_refl _, this⟩
theorem cl_neEns {l : List En} (h : ∀ p ∈ l, ∀ c ∈ p.1, c < 0x110000) : Cl w n (Cmp .NotEq) [.lst (l.map endD), .lst (l.map endD)] (.bool false) := by
  have e : dP (.lst (l.map endD)) = .list (l.map enP) := by rw [dP, dPs_ens]
  have hs : SeqAt.shaped (dP (.lst (l.map endD))) = true := by
    rw [e]
    unfold SeqAt.shaped
    rw [PyData.canLay0, lay_ens h, PyData.depth]
    have := depth_ens l
    simp; omega
  have hok : dOk (.lst (l.map endD)) = true := by rw [dOk]; exact dOks_ens l
  have := @cl_neD w n _ _ hok hok hs hs
  rw [e, PyData.eqv, eqvAll_ens] at this
  exact this
noncomputable def rI (r : List Nat) : List Int := r.map fun (k : Nat) => (k : Int)
theorem rowD_rI (r : List Nat) : rowD r = .tup ((rI r).map D.int) := by unfold rowD rI; rw [List.map_map]; rfl
theorem sum_rI : ∀ r : List Nat, (rI r).sum = (r.sum : Int)
  | [] => rfl
  | a :: r => by have := sum_rI r; unfold rI at this ⊢; rw [List.map_cons, List.sum_cons, this, List.sum_cons]; simp
theorem cl_sumRow {r : List Nat} : Cl w n (fun vs => call (.builtin "sum") vs) [rowD r] (.int (r.sum : Int)) := by
  rw [rowD_rI, ← sum_rI]; exact cl_sumTup
noncomputable def textR (seen un r : List Nat) : List Nat := textL (rI r) seen un (seen.length + 1)
theorem fn_textR {seen un r : List Nat} (hl : r.length = un.length) (h1 : un.length ≤ 100) (h2 : seen.length ≤ 100) : Fn w (n + 1) 134 [rowD r, .str ⟨seen.toArray⟩, .str ⟨un.toArray⟩] (.str ⟨(textR seen un r).toArray⟩) := by
  rw [rowD_rI]
  exact fn_text (by unfold rI; rw [List.length_map]; exact hl) (by unfold rI; rw [List.length_map]; omega) h2
noncomputable def lvAt (seen un b : List Nat) : Nat → Lv
  | 0 => [(textR seen un b, 1)]
  | i + 1 => stepT (fun c => isB1 c) (lvAt seen un b i)
noncomputable def lvB (seen un b : List Nat) : Nat → Lv
  | 0 => []
  | i + 1 => lvAt seen un b i
noncomputable def endsAt (seen un b : List Nat) (rows : List (List Nat)) (os : List (List Nat × Int)) (i : Nat) : List En := (rows.filter fun r => decide ((r.sum : Int) - (b.sum : Int) = (i : Int))).map fun r => (textR seen un r, waysW b r os)
noncomputable def posE (l : List En) : List En := l.filter fun p => decide (0 < p.2)
noncomputable def lvE (L : Lv) : List En := L.map fun p => (p.1, (p.2 : Int))
structure LoopOk (seen un b : List Nat) (rows : List (List Nat)) (os : List (List Nat × Int)) (N : Nat) : Prop where
  hs : seen.length ≤ 10
  hu : un.length ≤ 10
  hr : ∀ r ∈ rows, r.length = un.length
  hz : rows.length ≤ 1000
  hb : b ∈ rows
  hN : b.sum + N = seen.length * un.length
  lv : ∀ i, i ≤ N → (lvAt seen un b i).length ≤ 3 ∧ (∀ p ∈ lvAt seen un b i, p.1.length ≤ 10 ∧ p.2 ≤ 100 ∧ ∀ c ∈ p.1, c < 0x110000) ∧ ((lvAt seen un b i).map (·.1)).Nodup
  ways : ∀ r ∈ rows, ∀ i, i ≤ N → (r.sum : Int) - (b.sum : Int) = (i : Int) → waysOk b r os = true
  pos : ∀ i, i ≤ N → ((posE (endsAt seen un b rows os i)).map (·.1)).Nodup ∧ (posE (endsAt seen un b rows os i)).length ≤ 3 ∧ srt (lvE (lvAt seen un b i)) = srt (posE (endsAt seen un b rows os i))
theorem srt_mem {l : List En} (h3 : l.length ≤ 3) {p : En} (h : p ∈ srt l) : p ∈ l := by
  unfold srt at h
  obtain ⟨i, hi, rfl⟩ := List.mem_map.mp h
  have := idxE_lt h3 i hi
  unfold atE
  rw [List.getD_eq_getElem?_getD, List.getElem?_eq_getElem this]; exact List.getElem_mem _
theorem look_nodup {t : List Nat} {c : Nat} : ∀ {L : Lv}, (L.map (·.1)).Nodup → (t, c) ∈ L → L.lookup t = some c
  | [], _, h => nomatch h
  | (u, d) :: L, hn, h => by
    rw [List.map_cons, List.nodup_cons] at hn
    rw [List.lookup_cons]
    rcases List.mem_cons.mp h with e | h
    · cases e; simp
    · have hne : t ≠ u := fun q => hn.1 (q ▸ List.mem_map.mpr ⟨_, h, rfl⟩)
      rw [beq_eq_false_iff_ne.mpr hne]
      exact look_nodup hn.2 h
end
end
end Mine
set_option maxRecDepth 100000
set_option Elab.async false
set_option linter.unusedVariables false
set_option maxHeartbeats 1000000
namespace Mine
open PySem PySem.W PySem.Calls PyProof.Rows
noncomputable section
local macro_rules | `(tactic| walk_at "lk") => `(tactic| first | exact lk_hit (by decide +kernel) | (refine lk_miss (by decide +kernel) ?_; walk_at "lk"))
local macro_rules | `(tactic| walk_at "sub") => `(tactic| first | exact Sub.nil | (refine Sub.cons (by walk_at "lk") ?_; walk_at "sub"))
local macro_rules | `(tactic| walk_at "st") => `(tactic| first | exact Or.inl (by decide +kernel) | exact Or.inr (by decide +kernel))
local macro_rules | `(tactic| walk_at "g") => `(tactic| first | decide +kernel | (intro P; kernel_rfl))
section
variable {w : World} {n : Nat}
theorem law_tail {seen un b t : List Nat} {rows : List (List Nat)} {os : List (List Nat × Int)} {N : Nat} {due : D} (ok : LoopOk seen un b rows os N) (hlast : (lvAt seen un b N).map (·.1) = [t]) (htold : Fn w (n + 3) 117 [.str ⟨t.toArray⟩] due)
    (hdue : Cl w (n + 3) (Cmp .Eq) [.lst [due], .lst [due]] (.bool true)) :
    Exs w (n + 3) (fdScope (stm 20)) (fdScope (stm 20)) [(Str.ofString "begin", rowD b), (Str.ofString "orders", .lst (os.map ordD)), (Str.ofString "rows", .lst (rows.map rowD)), (Str.ofString "due", due), (Str.ofString "unseen", .str ⟨un.toArray⟩), (Str.ofString "seen", .str ⟨seen.toArray⟩)] ((fdBody (stm 20)).drop 12) (.rt (.bool true)) := by
  have hs := ok.hs
  have hu := ok.hu
  have hls : (⟨seen.toArray⟩ : Str).length = seen.length := by simp [Str.length]
  have hlu : (⟨un.toArray⟩ : Str).length = un.length := by simp [Str.length]
  have ls : Cl w (n + 3) (fun vs => call (.builtin "len") vs) [.str ⟨seen.toArray⟩] (.int (seen.length : Int)) := by rw [← hls]; exact cl_lenStr (by omega)
  have lu : Cl w (n + 3) (fun vs => call (.builtin "len") vs) [.str ⟨un.toArray⟩] (.int (un.length : Int)) := by rw [← hlu]; exact cl_lenStr (by omega)
  have hN := ok.hN
  have hNb : seen.length * un.length ≤ 100 := Nat.mul_le_mul hs hu
  have eN : (seen.length : Int) * (un.length : Int) - (b.sum : Int) + 1 = ((N + 1 : Nat) : Int) := by
    have : ((b.sum + N : Nat) : Int) = ((seen.length * un.length : Nat) : Int) := by rw [hN]
    rw [Int.natCast_mul, Int.natCast_add] at this
    rw [← this]; simp; omega
  refine Exs.cons (Ex.assign Ev.dict0 (by walk_at "st") (by intros; rfl)) ?_
  refine Exs.cons (ρ' := [(Str.ofString "level", .sd (bD (lvAt seen un b N))), (Str.ofString "due", due)])
    (Stm.sub (Ex.for' (rangeD ((N + 1 : Nat) : Int)) (fun i => [(Str.ofString "level", .sd (bD (lvB seen un b i))), (Str.ofString "begin", rowD b), (Str.ofString "orders", .lst (os.map ordD)), (Str.ofString "rows", .lst (rows.map rowD)), (Str.ofString "due", due), (Str.ofString "unseen", .str ⟨un.toArray⟩), (Str.ofString "seen", .str ⟨seen.toArray⟩)]) rfl
      (Itr.range (by walk_at "g") (by walk_at "g") (by walk_at "g") (Ev.to (Ev.binop (Ev.binop (Ev.binop (Ev.callB (by walk_at "g") (by walk_at "g") (by walk_at "g") (EvL.cons (Ev.name (by walk_at "lk")) .nil) ls) (Ev.callB (by walk_at "g") (by walk_at "g") (by walk_at "g") (EvL.cons (Ev.name (by walk_at "lk")) .nil) lu) (cl_mul (IntMulOk.of_right (intBits_le_64 (by omega) (by omega)))))
        (Ev.callB (by walk_at "g") (by walk_at "g") (by walk_at "g") (EvL.cons (Ev.name (by walk_at "lk")) .nil) cl_sumRow) cl_sub) Ev.int cl_add) (congrArg D.int eN)) (by omega) (by omega)) (by walk_at "sub") (fun i d hd => ?_)) (by rw [rangeD_length]; walk_at "sub")) ?_
  · obtain ⟨rfl, hi⟩ := rangeD_get hd
    have hi' : i ≤ N := by omega
    obtain ⟨l1, l2, l3⟩ := ok.lv i hi'
    refine ⟨_, As.name (by walk_at "st"), ?_⟩
    refine Stm.sub (ρ₁ := [(Str.ofString "ends", .lst ((endsAt seen un b rows os i).map endD)), (Str.ofString "level", .sd (bD (lvAt seen un b i))), (Str.ofString "steps", .int (i : Int)), (Str.ofString "begin", rowD b), (Str.ofString "orders", .lst (os.map ordD)), (Str.ofString "rows", .lst (rows.map rowD)), (Str.ofString "due", due), (Str.ofString "unseen", .str ⟨un.toArray⟩), (Str.ofString "seen", .str ⟨seen.toArray⟩)]) ?_ (by walk_at "sub")
    refine Exs.cons (ρ' := [(Str.ofString "level", .sd (bD (lvAt seen un b i))), (Str.ofString "steps", .int (i : Int)), (Str.ofString "begin", rowD b), (Str.ofString "orders", .lst (os.map ordD)), (Str.ofString "rows", .lst (rows.map rowD)), (Str.ofString "due", due), (Str.ofString "unseen", .str ⟨un.toArray⟩), (Str.ofString "seen", .str ⟨seen.toArray⟩)]) (Stm.sub (Ex.assign (d := .sd (bD (lvAt seen un b i))) ?lev (by walk_at "st") (by intros; rfl)) (by walk_at "sub")) ?_
    case lev =>
      cases i with
      | zero =>
        exact Ev.ifF (Ts.to (Ts.compare (Ev.name (by walk_at "lk")) Ev.int cl_gt) (by decide)) (Ev.dict1 (x := ⟨(textR seen un b).toArray⟩) (b := (apB 1).toArray) (Ev.callF (by walk_at "g") (by walk_at "g") (fun P => ⟨o134f P, _, by kernel_rfl, rfl⟩) (EvL.cons (Ev.name (by walk_at "lk")) (EvL.cons (Ev.name (by walk_at "lk")) (EvL.cons (Ev.name (by walk_at "lk")) .nil))) (fn_textR (ok.hr b ok.hb) (by omega) (by omega)))
          (Ev.callF (by walk_at "g") (by walk_at "g") (fun P => ⟨o85d P, _, by kernel_rfl, rfl⟩) (EvL.cons (d := .int ((1 : Nat) : Int)) Ev.int .nil) (fn_apN (by decide))))
      | succ j =>
        obtain ⟨m1, m2, m3⟩ := ok.lv j (by omega)
        exact Ev.ifT (Ts.to (Ts.compare (Ev.name (by walk_at "lk")) Ev.int cl_gt) (decide_eq_true (by omega))) (Ev.callF (by walk_at "g") (by walk_at "g") (fun P => ⟨o124f P, _, by kernel_rfl, rfl⟩) (EvL.cons (Ev.name (by walk_at "lk")) .nil) (fn_step (by omega) fun p hp => ⟨(m2 p hp).1, (m2 p hp).2.1⟩))
    have hel : (endsAt seen un b rows os i).length ≤ 1000 := by unfold endsAt; rw [List.length_map]; exact Nat.le_trans (List.length_filter_le _ _) ok.hz
    refine Exs.cons (Ex.assignComp' (outs := (endsAt seen un b rows os i).map endD) (ρ' := [(Str.ofString "steps", .int (i : Int)), (Str.ofString "begin", rowD b), (Str.ofString "orders", .lst (os.map ordD)), (Str.ofString "unseen", .str ⟨un.toArray⟩), (Str.ofString "seen", .str ⟨seen.toArray⟩)]) (by kernel_rfl) (by walk_at "st") (Itr.of (Ev.name (by walk_at "lk")) (Its.list PlainT.name)) ?ends (by decide +kernel) (by rw [List.length_map]; exact Nat.le_trans hel (by decide)) (by decide +kernel)) ?_
    case ends =>
      have e : (endsAt seen un b rows os i).map endD = rows.flatMap fun r => if (r.sum : Int) - (b.sum : Int) = (i : Int) then [endD (textR seen un r, waysW b r os)] else [] := by
        unfold endsAt
        generalize rows = rs
        induction rs with
        | nil => rfl
        | cons r rs ih =>
          rw [List.flatMap_cons, ← ih, List.filter_cons]
          by_cases h : (r.sum : Int) - (b.sum : Int) = (i : Int)
          · simp [h]
          · simp [h]
      rw [e]
      refine Cq.one (CT.map rowD _ fun r hr => ⟨_, decide ((r.sum : Int) - (b.sum : Int) = (i : Int)), As.name (by walk_at "st"), by walk_at "sub", Tq.one (Ts.to (Ts.compare (Ev.binop (Ev.callB (by walk_at "g") (by walk_at "g") (by walk_at "g") (EvL.cons (Ev.name (by walk_at "lk")) .nil) cl_sumRow) (Ev.callB (by walk_at "g") (by walk_at "g") (by walk_at "g") (EvL.cons (Ev.name (by walk_at "lk")) .nil) cl_sumRow) cl_sub) (Ev.name (by walk_at "lk")) cl_eq) ?_), ?_⟩)
      · by_cases h : (r.sum : Int) - (b.sum : Int) = (i : Int)
        · rw [decide_eq_true h, h]; simp
        · rw [decide_eq_false h]; exact beq_eq_false_iff_ne.mpr h
      · by_cases h : (r.sum : Int) - (b.sum : Int) = (i : Int)
        · refine .inl ⟨decide_eq_true h, ?_⟩
          rw [if_pos h]
          exact Em.last (Ev.tuple (EvL.cons (Ev.callF (by walk_at "g") (by walk_at "g") (fun P => ⟨o134f P, _, by kernel_rfl, rfl⟩) (EvL.cons (Ev.name (by walk_at "lk")) (EvL.cons (Ev.name (by walk_at "lk")) (EvL.cons (Ev.name (by walk_at "lk")) .nil))) (fn_textR (ok.hr r hr) (by omega) (by omega)))
            (EvL.cons (Ev.callF (by walk_at "g") (by walk_at "g") (fun P => ⟨o151f P, _, by kernel_rfl, rfl⟩) (EvL.cons (Ev.name (by walk_at "lk")) (EvL.cons (Ev.name (by walk_at "lk")) (EvL.cons (Ev.name (by walk_at "lk")) .nil))) (fn_ways (ok.ways r hr i hi' h))) .nil)) (show (2 : Nat) ≤ sizeLine by decide))
        · exact .inr ⟨decide_eq_false h, if_neg h⟩
    obtain ⟨p1, p2, p3⟩ := ok.pos i hi'
    have hlE : ((lvE (lvAt seen un b i)).map (·.1)).Nodup := by unfold lvE; rw [List.map_map]; exact l3
    have hlL : (lvE (lvAt seen un b i)).length ≤ 3 := by unfold lvE; rw [List.length_map]; exact l1
    have hch : ∀ p ∈ srt (posE (endsAt seen un b rows os i)), ∀ c ∈ p.1, c < 0x110000 := fun p hp => by
      rw [← p3] at hp
      have := srt_mem hlL hp
      unfold lvE at this
      obtain ⟨q, hq, rfl⟩ := List.mem_map.mp this
      exact (l2 q hq).2.2
    have hsorted : Cl w (n + 3) (fun vs => call (.builtin "sorted") vs) [.lst ((lvE (lvAt seen un b i)).map endD)] (.lst ((srt (posE (endsAt seen un b rows os i))).map endD)) := by rw [← p3]; exact cl_sorted hlE hlL
    refine Exs.cons (Ex.ifF (Ts.compare (Ev.callB (by walk_at "g") (by walk_at "g") (by walk_at "g") (EvL.cons (d := .lst ((lvE (lvAt seen un b i)).map endD)) ?c1 .nil) hsorted) (Ev.callB (by walk_at "g") (by walk_at "g") (by walk_at "g") (EvL.cons (d := .lst ((posE (endsAt seen un b rows os i)).map endD)) ?c2 .nil) (cl_sorted p1 p2)) (cl_neEns hch)) Exs.nil) Exs.nil
    case c1 =>
      refine Ev.comp' (ρ' := [(Str.ofString "level", .sd (bD (lvAt seen un b i)))]) (by kernel_rfl) (Itr.of (Ev.name (by walk_at "lk")) Its.keys) ?_ (by decide +kernel) (by rw [List.length_map]; exact Nat.le_trans hlL (by decide))
      have e : (bD (lvAt seen un b i)).map (fun kv => D.str kv.1) = (lvAt seen un b i).map fun p => .str ⟨p.1.toArray⟩ := by simp [bD]
      have e' : (lvE (lvAt seen un b i)).map endD = (lvAt seen un b i).flatMap fun p => [endD (p.1, (p.2 : Int))] := by rw [flat1]; unfold lvE; rw [List.map_map]; rfl
      rw [e, e']
      refine Cq.one (CT.map (fun (p : List Nat × Nat) => D.str ⟨p.1.toArray⟩) _ fun p hp => ⟨_, true, As.name (by walk_at "st"), by walk_at "sub", Tq.nil, .inl ⟨rfl, Em.last (Ev.tuple (EvL.cons (Ev.name (by walk_at "lk")) (EvL.cons (Ev.callF (by walk_at "g") (by walk_at "g") (fun P => ⟨o112f P, _, by kernel_rfl, rfl⟩)
        (EvL.cons (d := .bytes (apB p.2).toArray) (Ev.item (T := "dict") (Ev.name (by walk_at "lk")) (Ev.name (by walk_at "lk")) F.slot_dict_getitem.lookup ty_sd (get_sd (by rw [lookup_bD, look_nodup l3 (show (p.1, p.2) ∈ _ from hp)]; rfl))) .nil) (fn_readAp (by have := (l2 p hp).2.1; omega))) .nil)) (show (2 : Nat) ≤ sizeLine by decide))⟩⟩)
    case c2 =>
      refine Ev.comp' (ρ' := []) (by kernel_rfl) (Itr.of (Ev.name (by walk_at "lk")) (Its.list PlainT.name)) ?_ (by decide +kernel) (by rw [List.length_map]; exact Nat.le_trans p2 (by decide))
      have e : (posE (endsAt seen un b rows os i)).map endD = (endsAt seen un b rows os i).flatMap fun p => if 0 < p.2 then [endD p] else [] := by
        unfold posE
        generalize endsAt seen un b rows os i = l
        induction l with
        | nil => rfl
        | cons p l ih =>
          rw [List.flatMap_cons, ← ih, List.filter_cons]
          by_cases h : 0 < p.2
          · simp [h]
          · simp [h]
      rw [e]
      refine Cq.one (CT.map endD _ fun p hp => ⟨_, decide (0 < p.2), As.name (by walk_at "st"), by walk_at "sub", Tq.one (Ts.compare (Ev.item (T := "tuple") (d := .int p.2) (Ev.name (d := .tup [.str ⟨p.1.toArray⟩, .int p.2]) (by walk_at "lk")) Ev.int F.slot_tuple_getitem.lookup ty_tup (get_tup (k := 1) (by decide) (by decide) (by rfl) (by rfl))) Ev.int cl_gt), ?_⟩)
      by_cases h : 0 < p.2
      · refine .inl ⟨decide_eq_true h, ?_⟩
        rw [if_pos h]
        exact Em.last (Ev.name (by walk_at "lk"))
      · exact .inr ⟨decide_eq_false h, if_neg h⟩
  · refine Exs.last (Ex.ret (Ev.compare (a := .lst [due]) ?_ (Ev.list (EvL.cons (Ev.name (by walk_at "lk")) .nil) (show (1 : Nat) ≤ sizeLine by decide)) hdue))
    refine Ev.comp' (ρ' := []) (by kernel_rfl) (Itr.of (Ev.name (by walk_at "lk")) Its.keys) ?_ (by decide +kernel) (show (1 : Nat) ≤ sizeLine by decide)
    have e : (bD (lvAt seen un b N)).map (fun kv => D.str kv.1) = [.str ⟨t.toArray⟩] := by
      have : (bD (lvAt seen un b N)).map (fun kv => D.str kv.1) = ((lvAt seen un b N).map (·.1)).map fun t => D.str ⟨t.toArray⟩ := by simp [bD]
      rw [this, hlast]; rfl
    rw [e]
    refine Cq.one (CT.cons (os := [due]) (outs := []) ⟨_, true, As.name (by walk_at "st"), by walk_at "sub", Tq.nil, .inl ⟨rfl, Em.last (Ev.callF (by walk_at "g") (by walk_at "g") (fun P => ⟨o117f P, _, by kernel_rfl, rfl⟩) (EvL.cons (Ev.name (by walk_at "lk")) .nil) htold)⟩⟩ .nil)
end
end
end Mine
set_option maxRecDepth 100000
set_option Elab.async false
set_option linter.unusedVariables false
set_option maxHeartbeats 1000000
namespace Mine
open PySem PySem.W PySem.Calls PyProof.Rows
noncomputable section
local macro_rules | `(tactic| walk_at "lk") => `(tactic| first | exact lk_hit (by decide +kernel) | (refine lk_miss (by decide +kernel) ?_; walk_at "lk"))
local macro_rules | `(tactic| walk_at "sub") => `(tactic| first | exact Sub.nil | (refine Sub.cons (by walk_at "lk") ?_; walk_at "sub"))
local macro_rules | `(tactic| walk_at "st") => `(tactic| first | exact Or.inl (by decide +kernel) | exact Or.inr (by decide +kernel))
local macro_rules | `(tactic| walk_at "g") => `(tactic| first | decide +kernel | (intro P; kernel_rfl))
section
/-- digits -/
noncomputable def Dig (xs : List Int) : Prop := ∀ x ∈ xs, 0 ≤ x ∧ x < 16
theorem hexv_range : ∀ {xs : List Int}, Dig xs → 0 ≤ hexv xs ∧ hexv xs < 16 ^ xs.length
  | [], _ => by simp [hexv]
  | x :: xs, h => by
    have h1 := h x List.mem_cons_self
    have h2 := hexv_range (xs := xs) fun y hy => h y (List.mem_cons_of_mem _ hy)
    rw [hexv_cons, List.length_cons, Int.pow_succ]
    generalize hg : (16 : Int) ^ xs.length = P at *
    have hP : 0 < P := by omega
    have a1 : 0 ≤ x * P := Int.mul_nonneg h1.1 (by omega)
    have a2 : x * P ≤ 15 * P := Int.mul_le_mul_of_nonneg_right (by omega) (by omega)
    omega
theorem hex_inj : ∀ {xs ys : List Int}, Dig xs → Dig ys → xs.length = ys.length → hexv xs = hexv ys → xs = ys
  | [], [], _, _, _, _ => rfl
  | [], _ :: _, _, _, h, _ => by simp at h
  | _ :: _, [], _, _, h, _ => by simp at h
  | x :: xs, y :: ys, hx, hy, hl, he => by
    have hl' : xs.length = ys.length := by simpa using hl
    have x1 := hx x List.mem_cons_self
    have y1 := hy y List.mem_cons_self
    have dx : Dig xs := fun z hz => hx z (List.mem_cons_of_mem _ hz)
    have dy : Dig ys := fun z hz => hy z (List.mem_cons_of_mem _ hz)
    have r1 := hexv_range dx
    have r2 := hexv_range dy
    rw [hexv_cons, hexv_cons, hl'] at he
    rw [hl'] at r1
    generalize hg : (16 : Int) ^ ys.length = P at *
    have hP : 0 < P := by omega
    have e1 : x = y := by
      have h3 : (x - y) * P = hexv ys - hexv xs := by rw [Int.sub_mul]; omega
      rcases Int.lt_trichotomy x y with h | h | h
      · have : (x - y) * P ≤ (-1) * P := Int.mul_le_mul_of_nonneg_right (by omega) (by omega)
        omega
      · exact h
      · have : 1 * P ≤ (x - y) * P := Int.mul_le_mul_of_nonneg_right (by omega) (by omega)
        omega
    subst e1
    rw [hex_inj dx dy hl' (by omega)]
theorem dcF_lt : ∀ (f m k : Nat), m < 16 ^ k → dcF f m ≤ k
  | 0, m, k, _ => by simp [dcF]
  | f + 1, m, k, h => by
    unfold dcF
    split
    · omega
    · cases k with
      | zero => simp at h; omega
      | succ k =>
        have := dcF_lt f (m / 16) k (by rw [Nat.pow_succ] at h; omega)
        omega
theorem hexv_zeros (xs : List Int) : ∀ k, hexv (List.replicate k 0 ++ xs) = hexv xs
  | 0 => by simp
  | k + 1 => by
    rw [List.replicate_succ, List.cons_append, hexv_cons, hexv_zeros xs k]
    simp
theorem un_dig (m i : Nat) : Dig (unA (lowB m i)) := fun x hx => by
  unfold unA at hx
  obtain ⟨c, hc, rfl⟩ := List.mem_map.mp hx
  have := low_digits' m i c hc
  omega
where low_digits' (m : Nat) : ∀ i, ∀ c ∈ lowB m i, 65 ≤ c.toNat ∧ c.toNat < 81
  | 0, c, h => by simp [lowB] at h
  | i + 1, c, h => by
    rw [lowB] at h
    rcases List.mem_cons.mp h with h | h
    · have h16 : m / 16 ^ i % 16 < 16 := Nat.mod_lt _ (by decide)
      rw [h, digit_nat h16]; omega
    · exact low_digits' m i c h
/-- the word padded is the figures -/
theorem pad {xs : List Int} (h : Dig xs) : dc (hexv xs).natAbs ≤ xs.length ∧ (unA (apB (hexv xs).natAbs)).length = dc (hexv xs).natAbs ∧ List.replicate (xs.length - dc (hexv xs).natAbs) 0 ++ unA (apB (hexv xs).natAbs) = xs := by
  have hr := hexv_range h
  obtain ⟨N, hN⟩ := Int.eq_ofNat_of_zero_le hr.1
  have hNa : (hexv xs).natAbs = N := by rw [hN]; rfl
  rw [hNa]
  have hlt : N < 16 ^ xs.length := by
    have := hr.2
    rw [hN] at this
    have h2 : ((16 ^ xs.length : Nat) : Int) = (16 : Int) ^ xs.length := by rw [Int.natCast_pow]; rfl
    rw [← h2] at this
    exact Int.ofNat_lt.mp this
  have hdc : dc N ≤ xs.length := dcF_lt N N _ hlt
  have hlen : (unA (apB N)).length = dc N := by unfold unA; rw [List.length_map, ap_length]
  refine ⟨hdc, hlen, ?_⟩
  refine hex_inj ?_ h (by rw [List.length_append, List.length_replicate, hlen]; omega) (by rw [hexv_zeros, ap_value, hN])
  intro x hx
  rcases List.mem_append.mp hx with q | q
  · rw [List.eq_of_mem_replicate q]; decide
  · exact un_dig _ _ x q
theorem pick_map {α β : Type} (f : α → β) (l : List α) (lo hi st : Option Int) : pick (l.map f) lo hi st = (pick l lo hi st).map f := by
  unfold pick
  rw [List.length_map, List.map_filterMap]
  congr 1; funext i
  rw [List.getElem?_map]
/-- a sign's letters by the tables -/
noncomputable def mP (P : Params) (c : Nat) : List Nat := (match b3f P c with | some x => x | none => Txt.lower ⟨#[c]⟩).cps.toList
structure SignP (P : Params) (p : Nat × Str) : Prop where
  m : (⟨(mP P p.1).toArray⟩ : Str) = p.2
  b1 : isB1 p.1 = false
  u : p.1 < 0x110000
  lt : ∀ x ∈ p.2.cps.toList, 97 ≤ x ∧ x < 113
  l1 : 1 ≤ p.2.length
  l3 : p.2.length ≤ 3
theorem sign_ok {P : Params} {p : Nat × Str} (hp : p ∈ signs) : SignP P p := by
  have h := List.all_eq_true.mp (signs_ok P) p hp
  simp only [signOk, Bool.and_eq_true, decide_eq_true_eq, Bool.not_eq_true', List.all_eq_true] at h
  obtain ⟨⟨⟨⟨⟨a, b⟩, c⟩, d⟩, e⟩, f⟩ := h
  refine ⟨?_, b, c, d, e, f⟩
  unfold mP
  cases hq : b3f P p.1 with
  | some x =>
    rw [hq] at a
    have : x = p.2 := eq_of_beq a
    rw [← this]
  | none =>
    rw [hq] at a
    have : Txt.lower ⟨#[p.1]⟩ = p.2 := eq_of_beq a
    rw [← this]
theorem fn_mapP {w : World} {n c : Nat} (h : (mP w.params c).length ≤ 1000) : Fn w (n + 1) 78 [.str ⟨#[c]⟩] (.str ⟨(mP w.params c).toArray⟩) := by
  refine fn_map ⟨w.params, rfl, ?_⟩ (by simpa [Str.length] using h)
  unfold mP
  cases hq : b3f w.params c with
  | some x => exact .inl rfl
  | none => exact .inr ⟨rfl, rfl⟩
noncomputable def veilOf (t : Int) : Nat := veilsL.getD (t.fmod 27).toNat 0
theorem veil_facts : ∀ r : Fin 27, isB1 (veilsL.getD r.val 0 : Nat) = true ∧ veilsL.getD r.val 0 < 0x110000 ∧ (decide (65024 ≤ veilsL.getD r.val 0) && decide (veilsL.getD r.val 0 < 65040)) = decide (r.val < 16) ∧ (r.val < 16 → veilsL.getD r.val 0 = 65024 + r.val) := by decide +kernel
theorem fmod27 (t : Int) : 0 ≤ t.fmod 27 ∧ t.fmod 27 < 27 := ⟨Int.fmod_nonneg_of_pos _ (by decide), Int.fmod_lt_of_pos _ (by decide)⟩
noncomputable def frontI (S : List (Nat × Str)) : List Int := S.flatMap fun p => p.2.cps.toList.map fun (c : Nat) => (c : Int) - 97
noncomputable def backI (ts : List Int) : List Int := (ts.map fun t => t.fmod 27).filter fun r => decide (r < 16)
theorem told_front {P : Params} {S : List (Nat × Str)} (hS : ∀ p ∈ S, p ∈ signs) (ts : List Int) : (lettersT (mP P) (S.map (·.1) ++ ts.map veilOf)).map (fun (c : Nat) => D.int ((c : Int) - 97)) = (frontI S).map D.int := by
  unfold lettersT
  rw [List.flatMap_append]
  have e2 : (ts.map veilOf).flatMap (fun (c : Nat) => if isB1 c then [] else mP P c) = [] := by
    rw [List.flatMap_eq_nil_iff]
    intro c hc
    obtain ⟨t, _, rfl⟩ := List.mem_map.mp hc
    have h := fmod27 t
    have hv := (veil_facts ⟨(t.fmod 27).toNat, by omega⟩).1
    have : isB1 (veilOf t) = true := hv
    rw [if_pos this]
  rw [e2, List.append_nil]
  unfold frontI
  rw [List.map_flatMap]
  induction S with
  | nil => rfl
  | cons p S ih =>
    have ok := sign_ok (P := P) (hS p List.mem_cons_self)
    rw [List.map_cons, List.flatMap_cons, ih fun q hq => hS q (List.mem_cons_of_mem _ hq), List.flatMap_cons, List.map_append, ok.b1, if_neg (by simp)]
    congr 1
    have e : mP P p.1 = p.2.cps.toList := by rw [← ok.m]
    rw [e, List.map_map]; rfl
theorem told_back {S : List (Nat × Str)} (P : Params) (hS : ∀ p ∈ S, p ∈ signs) : ∀ (ts : List Int), ((codesT (S.map (·.1) ++ ts.map veilOf)).filter fun c => decide (65024 ≤ c) && decide (c < 65040)).map (fun (c : Nat) => D.int ((c : Int) - 65024)) = (backI ts).map D.int := by
  intro ts
  unfold codesT
  rw [List.filter_append]
  have e1 : (S.map (·.1)).filter (fun (c : Nat) => isB1 c) = [] := by
    rw [List.filter_eq_nil_iff]
    intro c hc
    obtain ⟨p, hp, rfl⟩ := List.mem_map.mp hc
    rw [(sign_ok (P := P) (hS p hp)).b1]; simp
  rw [e1, List.nil_append]
  unfold backI
  induction ts with
  | nil => rfl
  | cons t ts ih =>
    have h := fmod27 t
    obtain ⟨R, hR⟩ := Int.eq_ofNat_of_zero_le h.1
    have hR27 : R < 27 := by omega
    have hv := veil_facts ⟨R, hR27⟩
    have ev : veilOf t = veilsL.getD R 0 := by unfold veilOf; rw [hR]; rfl
    rw [List.map_cons, List.map_cons, List.filter_cons, ev, if_pos hv.1, List.filter_cons, hv.2.2.1, List.filter_cons, hR]
    by_cases q : R < 16
    · have q' : (R : Int) < 16 := by omega
      rw [if_pos (decide_eq_true q), if_pos (by exact decide_eq_true q'), List.map_cons, List.map_cons, ih]
      congr 1
      rw [hv.2.2.2 q]
      congr 1; show ((65024 + R : Nat) : Int) - 65024 = (R : Int); omega
    · have q' : ¬ (R : Int) < 16 := by omega
      rw [if_neg (by simpa using q), if_neg (by simpa using q'), ih]
theorem front_dig {P : Params} {S : List (Nat × Str)} (hS : ∀ p ∈ S, p ∈ signs) : Dig (frontI S) := fun x hx => by
  unfold frontI at hx
  obtain ⟨p, hp, hx⟩ := List.mem_flatMap.mp hx
  obtain ⟨c, hc, rfl⟩ := List.mem_map.mp hx
  have := (sign_ok (P := P) (hS p hp)).lt c hc
  omega
theorem back_dig (ts : List Int) : Dig (backI ts) := fun x hx => by
  unfold backI at hx
  obtain ⟨h1, h2⟩ := List.mem_filter.mp hx
  obtain ⟨t, _, rfl⟩ := List.mem_map.mp h1
  have := fmod27 t
  have h3 : t.fmod 27 < 16 := by simpa using h2
  omega
theorem front_len {P : Params} : ∀ {S : List (Nat × Str)}, (∀ p ∈ S, p ∈ signs) → (frontI S).length ≤ 3 * S.length
  | [], _ => by simp [frontI]
  | p :: S, h => by
    have h1 := (sign_ok (P := P) (h p List.mem_cons_self)).l3
    have h2 := front_len (P := P) (S := S) fun q hq => h q (List.mem_cons_of_mem _ hq)
    unfold frontI at h2 ⊢
    rw [List.flatMap_cons, List.length_append, List.length_map, List.length_cons]
    have : p.2.cps.toList.length = p.2.length := by simp [Str.length]
    omega
theorem fn_told_end {w : World} {n : Nat} {S : List (Nat × Str)} {ts : List Int} (hS : ∀ p ∈ S, p ∈ signs) (hl : S.length + ts.length ≤ 100) :
    Fn w (n + 2) 117 [.str ⟨(S.map (·.1) ++ ts.map veilOf).toArray⟩] (.tup [.lst ((frontI S).map D.int), .lst ((backI ts).map D.int)]) := by
  have h := @fn_told w n (S.map (·.1) ++ ts.map veilOf) (mP w.params) (by rw [List.length_append, List.length_map, List.length_map]; exact hl) (fun c hc hb => by
    rcases List.mem_append.mp hc with q | q
    · obtain ⟨p, hp, rfl⟩ := List.mem_map.mp q
      have ok := sign_ok (P := w.params) (hS p hp)
      have hlen : (mP w.params p.1).length ≤ 3 := by
        have e : mP w.params p.1 = p.2.cps.toList := by rw [← ok.m]
        rw [e]; have := ok.l3; simpa [Str.length] using this
      exact ⟨by omega, fn_mapP (by omega)⟩
    · obtain ⟨t, _, rfl⟩ := List.mem_map.mp q
      have h := fmod27 t
      have hv := (veil_facts ⟨(t.fmod 27).toNat, by omega⟩).1
      have : isB1 (veilOf t) = true := hv
      rw [this] at hb; cases hb)
  unfold toldD at h
  rwa [told_front hS ts, told_back w.params hS ts] at h
theorem cl_eqDue {w : World} {n : Nat} (a b : List Int) : Cl w n (Cmp .Eq) [.lst [.tup [.lst (a.map D.int), .lst (b.map D.int)]], .lst [.tup [.lst (a.map D.int), .lst (b.map D.int)]]] (.bool true) := by
  have i1 : ∀ a : List Int, dPs (a.map D.int) = a.map PyData.int := fun a => by
    induction a with
    | nil => rw [List.map_nil, List.map_nil, dPs]
    | cons x a ih => rw [List.map_cons, List.map_cons, dPs, ih, dP]
  have i2 : ∀ a : List Int, dOks (a.map D.int) = true := fun a => by
    induction a with
    | nil => rw [List.map_nil, dOks]
    | cons x a ih => rw [List.map_cons, dOks, ih, dOk]; rfl
  have e : dP (.lst [.tup [.lst (a.map D.int), .lst (b.map D.int)]]) = .list [.tuple [.list (a.map PyData.int), .list (b.map PyData.int)]] := by
    rw [dP, dPs, dPs, dP, dPs, dPs, dPs, dP, dP, i1, i1]
  have hok : dOk (.lst [.tup [.lst (a.map D.int), .lst (b.map D.int)]]) = true := by
    rw [dOk, dOks, dOks, dOk, dOks, dOks, dOks, dOk, dOk, i2, i2]; rfl
  have hs : SeqAt.shaped (dP (.lst [.tup [.lst (a.map D.int), .lst (b.map D.int)]])) = true := by
    rw [e]
    unfold SeqAt.shaped
    rw [PyData.canLay0, PyData.canLayAll0, PyData.canLayAll0, PyData.canLay0, PyData.canLayAll0, PyData.canLayAll0, PyData.canLayAll0, PyData.canLay0, PyData.canLay0, ke_canLayAll0, ke_canLayAll0,
      PyData.depth, PyData.depthAll, PyData.depthAll, PyData.depth, PyData.depthAll, PyData.depthAll, PyData.depthAll, PyData.depth, PyData.depth, ke_depthAll, ke_depthAll]
    rfl
  have := @cl_eqD w n _ _ hok hok hs hs
  rw [e, PyData.eqv, PyData.eqvAll, PyData.eqvAll, PyData.eqv, PyData.eqvAll, PyData.eqvAll, PyData.eqvAll, PyData.eqv, PyData.eqv, eqvAll_ints, eqvAll_ints] at this
  exact this
end
end
end Mine
set_option maxRecDepth 100000
set_option Elab.async false
set_option linter.unusedVariables false
set_option maxHeartbeats 1000000
namespace Mine
open PySem PySem.W PySem.Calls PyProof.Rows
noncomputable section
local macro_rules | `(tactic| walk_at "lk") => `(tactic| first | exact lk_hit (by decide +kernel) | (refine lk_miss (by decide +kernel) ?_; walk_at "lk"))
local macro_rules | `(tactic| walk_at "sub") => `(tactic| first | exact Sub.nil | (refine Sub.cons (by walk_at "lk") ?_; walk_at "sub"))
local macro_rules | `(tactic| walk_at "st") => `(tactic| first | exact Or.inl (by decide +kernel) | exact Or.inr (by decide +kernel))
local macro_rules | `(tactic| walk_at "g") => `(tactic| first | decide +kernel | (intro P; kernel_rfl))
section
variable {w : World} {n : Nat}
theorem rows_bd : ∀ h m : Fin 4, (rowsP h.val m.val).length ≤ 1000 := by decide +kernel
theorem orders_bd : ∀ h m : Fin 4, (ordersP h.val m.val).length ≤ 1000 := by decide +kernel
theorem rows_pos : ∀ h m : Fin 4, 0 < (rowsP h.val m.val).length := by decide +kernel
theorem fn_rows3 {h m : Nat} (hh : h ≤ 3) (hm : m ≤ 3) : Fn w (n + 1) 129 [.int (h : Int), .int (m : Int)] (.lst ((rowsP h m).map rowD)) :=
  fn_rows (by omega) (by omega) fun i hi => rows_bd ⟨h, by omega⟩ ⟨i, by omega⟩
theorem fn_orders3 {m : Nat} (hm : m ≤ 3) : Fn w (n + 1) 146 [.int (m : Int)] (.lst ((ordersP m m).map ordD)) :=
  fn_orders (by omega) fun i hi => orders_bd ⟨m, by omega⟩ ⟨i, by omega⟩
theorem law_mid {S : List (Nat × Str)} {ts T : List Int} {size : Int} (hS : ∀ p ∈ S, p ∈ signs) (hS3 : S.length ≤ 3) (ht3 : ts.length ≤ 3) (hT : T.length ≤ 100)
    (hpick : pick (T.map D.int) (some 3) (some (5 + (size.fdiv 2).fmod 2)) none = ts.map D.int)
    (hloop : ∀ b ∈ rowsP S.length ts.length, LoopOk (S.map (·.1)) (ts.map veilOf) b (rowsP S.length ts.length) (ordersP ts.length ts.length) (S.length * ts.length - b.sum) ∧ (lvAt (S.map (·.1)) (ts.map veilOf) b (S.length * ts.length - b.sum)).map (·.1) = [S.map (·.1) ++ ts.map veilOf]) :
    Exs w (n + 3) (fdScope (stm 20)) (fdScope (stm 20)) [(Str.ofString "unseen", .str ⟨(ts.map veilOf).toArray⟩), (Str.ofString "seen", .str ⟨(S.map (·.1)).toArray⟩), (Str.ofString "signs", .lst (S.map seenD)), (Str.ofString "size", .int size), (Str.ofString "totals", .lst (T.map D.int))] ((fdBody (stm 20)).drop 5) (.rt (.bool true)) := by
  have hfl := front_len (P := w.params) hS
  have hfd := front_dig (P := w.params) hS
  have hbd := back_dig ts
  have hbl : (backI ts).length ≤ 3 := Nat.le_trans (List.length_filter_le _ _) (by rw [List.length_map]; exact ht3)
  obtain ⟨pf1, pf2, pf3⟩ := pad hfd
  obtain ⟨pb1, pb2, pb3⟩ := pad hbd
  have hls : (⟨(S.map (·.1)).toArray⟩ : Str).length = S.length := by simp [Str.length]
  have hlu : (⟨(ts.map veilOf).toArray⟩ : Str).length = ts.length := by simp [Str.length]
  have ls : Cl w (n + 3) (fun vs => call (.builtin "len") vs) [.str ⟨(S.map (·.1)).toArray⟩] (.int (S.length : Int)) := by rw [← hls]; exact cl_lenStr (by omega)
  have lu : Cl w (n + 3) (fun vs => call (.builtin "len") vs) [.str ⟨(ts.map veilOf).toArray⟩] (.int (ts.length : Int)) := by rw [← hlu]; exact cl_lenStr (by omega)
  -- front
  refine Exs.cons (Ex.assignComp' (outs := (frontI S).map D.int) (ρ' := []) (by kernel_rfl) (by walk_at "st") (Itr.of (Ev.name (by walk_at "lk")) (Its.list PlainT.name)) ?front (by decide +kernel) (by rw [List.length_map]; exact Nat.le_trans (m := 9) (by omega) (by decide)) (by decide +kernel)) ?_
  case front =>
    have e : (frontI S).map D.int = S.flatMap fun p => p.2.cps.toList.flatMap fun (c : Nat) => [D.int ((c : Int) - 97)] := by
      unfold frontI
      rw [List.map_flatMap]
      congr 1; funext p
      rw [flat1, List.map_map]; rfl
    rw [e]
    refine Cq.two0 (CT.map seenD _ fun p hp => ⟨_, true, As.name (by walk_at "st"), by walk_at "sub", Tq.nil, .inl ⟨rfl, Em.next (Itr.of (d := .str p.2) (Ev.item (T := "tuple") (Ev.name (d := .tup [.str ⟨#[p.1]⟩, .str p.2]) (by walk_at "lk")) Ev.int F.slot_tuple_getitem.lookup ty_tup (get_tup (k := 1) (by decide) (by decide) (by rfl) (by rfl))) Its.str) (Cq.two1 ?_)⟩⟩)
    exact CT.map (fun (c : Nat) => D.str ⟨#[c]⟩) _ fun c hc => ⟨_, true, As.name (by walk_at "st"), by walk_at "sub", Tq.nil, .inl ⟨rfl, Em.last (Ev.binop (Ev.callB (by walk_at "g") (by walk_at "g") (by walk_at "g") (EvL.cons (Ev.name (by walk_at "lk")) .nil) cl_ord) Ev.int cl_sub)⟩⟩
  -- back
  refine Exs.cons (Ex.assignComp' (outs := (backI ts).map D.int) (ρ' := []) (by kernel_rfl) (by walk_at "st") (Itr.of (d := .lst (ts.map D.int)) (Ev.slice (Ev.name (by walk_at "lk")) (PartE.int Ev.int) (PartE.int (i := 5 + (size.fdiv 2).fmod 2) (Ev.binop Ev.int (Ev.binop (Ev.binop (Ev.name (by walk_at "lk")) Ev.int (cl_floordiv (by decide) (PyProof.noPylong_small (by decide)))) Ev.int (cl_mod (by decide))) cl_add)) F.slot_list_getitem.lookup ty_lst
    (hpick ▸ getS_lst (by simp) (by rw [List.length_map]; exact Nat.le_trans hT (by decide)))) (Its.list PlainT.name)) ?back (by decide +kernel) (by rw [List.length_map]; exact Nat.le_trans hbl (by decide)) (by decide +kernel)) ?_
  case back =>
    have e : (backI ts).map D.int = ts.flatMap fun t => if t.fmod 27 < 16 then [D.int (t.fmod 27)] else [] := by
      unfold backI
      generalize ts = l
      induction l with
      | nil => rfl
      | cons t l ih =>
        rw [List.flatMap_cons, ← ih, List.map_cons, List.filter_cons]
        by_cases h : t.fmod 27 < 16
        · simp [h]
        · simp [h]
    rw [e]
    refine Cq.one (CT.map D.int _ fun t ht => ⟨_, decide (t.fmod 27 < 16), As.name (by walk_at "st"), by walk_at "sub", Tq.one (Ts.compare (Ev.binop (Ev.name (by walk_at "lk")) Ev.int (cl_mod (by decide))) Ev.int cl_lt), ?_⟩)
    by_cases h : t.fmod 27 < 16
    · refine .inl ⟨decide_eq_true h, ?_⟩
      rw [if_pos h]
      exact Em.last (Ev.binop (Ev.name (by walk_at "lk")) Ev.int (cl_mod (by decide)))
    · exact .inr ⟨decide_eq_false h, if_neg h⟩
  -- words
  have hword : ∀ {sc : Scope} {ρ : Rho} {iter : Expr} {scope : Scope} {pos x1 x2 x3 x4 : Pos} {k : Nat} {N : Nat} {j : Nat}, inner scope ρ = [] → compOk scope sc = true → (scope.names.lookup (Str.ofString "x") = some .local) → dc N ≤ 100 → Ev w (n + 3) sc ρ iter (.bytes (apB N).toArray) →
      (∀ env x, foldedSetIterable iter env x = pure x) → Ev w (n + 3) sc ρ (.ListComp (.BinOp (.Name (Str.ofString "x") x1) .Sub (.Constant (.int 65) k x2) x3) [⟨.Name (Str.ofString "x") x4, iter, [], 0⟩] scope pos) (.lst ((unA (apB N)).map D.int)) := by
    intro sc ρ iter scope pos x1 x2 x3 x4 k N j h1 h2 h3 hN h4 h5
    refine Ev.comp' (ρ' := []) h1 (Itr.of h4 Its.bytes) (Cq.map (fun d => match d with | .int i => [.int (i - 65)] | _ => []) (by simp only [unA, List.flatMap_map, List.map_map]; exact flat1 (fun (c : UInt8) => D.int ((c.toNat : Int) - 65)) (apB N)) (.inl h3) (fun d => Sub.nil) fun d hd => ?_) h2 (by rw [List.length_map]; unfold unA; rw [List.length_map, ap_length]; exact Nat.le_trans hN (by decide)) h5
    obtain ⟨c, hc, rfl⟩ := List.mem_map.mp hd
    exact ⟨true, Tq.nil, .inl ⟨rfl, _, rfl, Ev.binop (Ev.name (by walk_at "lk")) Ev.int cl_sub⟩⟩
  refine Exs.cons (Ex.assign (d := .lst [.lst ((unA (apB (hexv (frontI S)).natAbs)).map D.int), .lst ((unA (apB (hexv (backI ts)).natAbs)).map D.int)]) (Ev.list (EvL.cons (hword (j := 0) (by kernel_rfl) (by decide +kernel) (by decide +kernel) (by omega) ?w0 (by intros; rfl)) (EvL.cons (hword (j := 0) (by kernel_rfl) (by decide +kernel) (by decide +kernel) (by omega) ?w1 (by intros; rfl)) .nil)) (show (2 : Nat) ≤ sizeLine by decide)) (by walk_at "st") (by intros; rfl)) ?_
  case w0 =>
    exact Ev.callF (by walk_at "g") (by walk_at "g") (fun P => ⟨o85d P, _, by kernel_rfl, rfl⟩) (EvL.cons (Ev.callF (by walk_at "g") (by walk_at "g") (fun P => ⟨o107d P, _, by kernel_rfl, rfl⟩) (EvL.cons (Ev.name (by walk_at "lk")) .nil) fn_sum) .nil) (fn_ap (by omega))
  case w1 =>
    have h := @fn_ap w (n + 2) (-hexv (backI ts)) (by rw [Int.natAbs_neg]; omega)
    rw [Int.natAbs_neg] at h
    exact Ev.callF (by walk_at "g") (by walk_at "g") (fun P => ⟨o85d P, _, by kernel_rfl, rfl⟩) (EvL.cons (Ev.unary (Ev.callF (by walk_at "g") (by walk_at "g") (fun P => ⟨o107d P, _, by kernel_rfl, rfl⟩) (EvL.cons (Ev.name (by walk_at "lk")) .nil) fn_sum) cl_neg) .nil) h
  -- due
  generalize hw0 : unA (apB (hexv (frontI S)).natAbs) = W0 at *
  generalize hw1 : unA (apB (hexv (backI ts)).natAbs) = W1 at *
  have hpadl : ∀ (xs W : List Int), xs.length ≤ 100 → W.length ≤ xs.length → List.replicate (xs.length - W.length) 0 ++ W = xs → List.replicate (xs.length - W.length) (D.int 0) ++ W.map D.int = xs.map D.int := fun xs W _ _ h => by
    conv => rhs; rw [← h]
    rw [List.map_append, List.map_replicate]
  have hlen : ∀ {sc : Scope} {ρ : Rho} {xs : List Int} {e : Expr} {p q : Pos}, sc.names.lookup (Str.ofString "len") = some .globalImplicit → xs.length ≤ 100 → Ev w (n + 3) sc ρ e (.lst (xs.map D.int)) → (∀ env, backTo q (starEach [e] env) = [(false, eval e env)]) → Ev w (n + 3) sc ρ (.Call (.Name (Str.ofString "len") p) [e] [] q) (.int (xs.length : Int)) := by
    intro sc ρ xs e p q h1 h2 h3 h4
    have h := @cl_lenLst w (n + 3) (xs.map D.int) (by rw [List.length_map]; omega)
    rw [List.length_map] at h
    exact Ev.callB (b := "len") h1 (by walk_at "g") (by walk_at "g") (EvL.cons h3 .nil) h h4
  have hz0 : W0.length ≤ (frontI S).length := by rw [pf2]; exact pf1
  have hz1 : W1.length ≤ (backI ts).length := by rw [pb2]; exact pb1
  rw [← pf2] at pf3
  rw [← pb2] at pb3
  refine Exs.cons (Ex.assign (d := .tup [.lst ((frontI S).map D.int), .lst ((backI ts).map D.int)]) (Ev.tuple (EvL.cons (Ev.to (Ev.binop (Ev.binop (Ev.list (EvL.cons Ev.int .nil) (show (1 : Nat) ≤ sizeLine by decide)) (Ev.to (Ev.binop (hlen (by walk_at "g") (by omega) (Ev.name (by walk_at "lk")) (by intros; rfl)) (hlen (xs := W0) (by walk_at "g") (by omega) (Ev.item (T := "list") (Ev.name (by walk_at "lk")) Ev.int F.slot_list_getitem.lookup ty_lst (get_lst (by decide) (by decide) (by rfl))) (by intros; rfl)) cl_sub)
      (congrArg D.int (show ((frontI S).length : Int) - (W0.length : Int) = (((frontI S).length - W0.length : Nat) : Int) by omega))) (cl_mulLst (by omega))) (Ev.item (T := "list") (d := .lst (W0.map D.int)) (Ev.name (by walk_at "lk")) Ev.int F.slot_list_getitem.lookup ty_lst (get_lst (by decide) (by decide) (by rfl))) (cl_addLst ?z0)) (congrArg D.lst (hpadl _ _ (by omega) hz0 pf3)))
    (EvL.cons (Ev.to (Ev.binop (Ev.binop (Ev.list (EvL.cons Ev.int .nil) (show (1 : Nat) ≤ sizeLine by decide)) (Ev.to (Ev.binop (hlen (by walk_at "g") (by omega) (Ev.name (by walk_at "lk")) (by intros; rfl)) (hlen (xs := W1) (by walk_at "g") (by omega) (Ev.item (T := "list") (Ev.name (by walk_at "lk")) Ev.int F.slot_list_getitem.lookup ty_lst (get_lst (by decide) (by decide) (by rfl))) (by intros; rfl)) cl_sub)
      (congrArg D.int (show ((backI ts).length : Int) - (W1.length : Int) = (((backI ts).length - W1.length : Nat) : Int) by omega))) (cl_mulLst (by omega))) (Ev.item (T := "list") (d := .lst (W1.map D.int)) (Ev.name (by walk_at "lk")) Ev.int F.slot_list_getitem.lookup ty_lst (get_lst (by decide) (by decide) (by rfl))) (cl_addLst ?z1)) (congrArg D.lst (hpadl _ _ (by omega) hz1 pb3))) .nil)) (show (2 : Nat) ≤ sizeLine by decide)) (by walk_at "st") (by intros; rfl)) ?_
  case z0 => rw [List.length_replicate, List.length_map]; exact Nat.le_trans (m := 100) (by omega) (by decide)
  case z1 => rw [List.length_replicate, List.length_map]; exact Nat.le_trans (m := 100) (by omega) (by decide)
  -- rows, orders
  refine Exs.cons (Ex.assign (Ev.callF (by walk_at "g") (by walk_at "g") (fun P => ⟨o129f P, _, by kernel_rfl, rfl⟩) (EvL.cons (Ev.callB (by walk_at "g") (by walk_at "g") (by walk_at "g") (EvL.cons (Ev.name (by walk_at "lk")) .nil) ls) (EvL.cons (Ev.callB (by walk_at "g") (by walk_at "g") (by walk_at "g") (EvL.cons (Ev.name (by walk_at "lk")) .nil) lu) .nil)) (fn_rows3 hS3 ht3)) (by walk_at "st") (by intros; rfl)) ?_
  refine Exs.cons (Ex.assign (Ev.callF (by walk_at "g") (by walk_at "g") (fun P => ⟨o146f P, _, by kernel_rfl, rfl⟩) (EvL.cons (Ev.callB (by walk_at "g") (by walk_at "g") (by walk_at "g") (EvL.cons (Ev.name (by walk_at "lk")) .nil) lu) .nil) (fn_orders3 ht3)) (by walk_at "st") (by intros; rfl)) ?_
  -- begin
  have hrp := rows_pos ⟨S.length, by omega⟩ ⟨ts.length, by omega⟩
  have hrb := rows_bd ⟨S.length, by omega⟩ ⟨ts.length, by omega⟩
  dsimp only at hrp hrb
  generalize hR : rowsP S.length ts.length = R at *
  have hj0 : 0 ≤ (size.fdiv 4).fmod (R.length : Int) := Int.fmod_nonneg_of_pos _ (by omega)
  have hj1 : (size.fdiv 4).fmod (R.length : Int) < (R.length : Int) := Int.fmod_lt_of_pos _ (by omega)
  obtain ⟨J, hJ⟩ := Int.eq_ofNat_of_zero_le hj0
  have hJl : J < R.length := by omega
  have hlR : Cl w (n + 3) (fun vs => call (.builtin "len") vs) [.lst (R.map rowD)] (.int (R.length : Int)) := by
    have h := @cl_lenLst w (n + 3) (R.map rowD) (by rw [List.length_map]; omega)
    rwa [List.length_map] at h
  refine Exs.cons (Ex.assign (d := rowD R[J]) (Ev.item (T := "list") (Ev.name (by walk_at "lk")) (Ev.binop (Ev.binop (Ev.name (by walk_at "lk")) Ev.int (cl_floordiv (by decide) (PyProof.noPylong_small (by decide)))) (Ev.callB (by walk_at "g") (by walk_at "g") (by walk_at "g") (EvL.cons (Ev.name (by walk_at "lk")) .nil) hlR) (cl_mod (by omega))) F.slot_list_getitem.lookup ty_lst
    (get_lst hj0 (by omega) (by rw [hJ, Int.toNat_natCast, List.getElem?_map, List.getElem?_eq_getElem hJl]; rfl))) (by walk_at "st") (by intros; rfl)) ?_
  obtain ⟨k1, k2⟩ := hloop R[J] (List.getElem_mem hJl)
  exact Stm.pre (law_tail k1 k2 (fn_told_end (n := n + 1) hS (by omega)) (cl_eqDue _ _)) (by walk_at "sub")
end
end
end Mine
set_option maxRecDepth 100000
set_option Elab.async false
set_option linter.unusedVariables false
set_option maxHeartbeats 1000000
namespace Mine
open PySem PySem.W PySem.Calls PyProof.Rows
noncomputable section
local macro_rules | `(tactic| walk_at "lk") => `(tactic| first | exact lk_hit (by decide +kernel) | (refine lk_miss (by decide +kernel) ?_; walk_at "lk"))
local macro_rules | `(tactic| walk_at "sub") => `(tactic| first | exact Sub.nil | (refine Sub.cons (by walk_at "lk") ?_; walk_at "sub"))
local macro_rules | `(tactic| walk_at "st") => `(tactic| first | exact Or.inl (by decide +kernel) | exact Or.inr (by decide +kernel))
local macro_rules | `(tactic| walk_at "g") => `(tactic| first | decide +kernel | (intro P; kernel_rfl))
section
variable {w : World} {n : Nat}
noncomputable def sg (t : Int) : Nat × Str := Classical.choose (fn_seen t)
theorem sg_mem (t : Int) : sg t ∈ signs := (Classical.choose_spec (fn_seen t)).1
theorem sg_fn (t : Int) {w : World} {n : Nat} : Fn w (n + 2) 100 [.int t] (seenD (sg t)) := (Classical.choose_spec (fn_seen t)).2 w n
noncomputable def LoopAll : Prop := ∀ (S : List (Nat × Str)) (ts : List Int), (∀ p ∈ S, p ∈ signs) → (S.length = 2 ∨ S.length = 3) → (ts.length = 2 ∨ ts.length = 3) → ∀ b ∈ rowsP S.length ts.length,
  LoopOk (S.map (·.1)) (ts.map veilOf) b (rowsP S.length ts.length) (ordersP ts.length ts.length) (S.length * ts.length - b.sum) ∧ (lvAt (S.map (·.1)) (ts.map veilOf) b (S.length * ts.length - b.sum)).map (·.1) = [S.map (·.1) ++ ts.map veilOf]
noncomputable def fixedL : List Int := [7, 300, 35, 15, 3, 20]
noncomputable def totOf (ns : List Int) (k : Nat) : Int := fixedL.getD k 0 + (pick ns (some (k : Int)) (some 60) (some 6)).sum
noncomputable def totalsOf (ns : List Int) : List Int := (List.range 6).map (totOf ns)
theorem ty_wl {x : List D} (X : Addr → Prop) (s : Shared) (v : Value) (r : Rep w X s.heap v (.wl x)) : s.TypeIs v "list" := by cases r with | wl hX hg hc hd rs => exact ⟨_, hg, hc⟩
theorem fmod2 (x : Int) : x.fmod 2 = 0 ∨ x.fmod 2 = 1 := by
  have h1 : 0 ≤ x.fmod 2 := Int.fmod_nonneg_of_pos _ (by decide)
  have h2 : x.fmod 2 < 2 := Int.fmod_lt_of_pos _ (by decide)
  omega
theorem pick_len1 (a b c d e f : Int) : (pick [a, b, c, d, e, f] none (some 2) none).length = 2 := by rfl
theorem pick_len2 (a b c d e f : Int) : (pick [a, b, c, d, e, f] none (some 3) none).length = 3 := by rfl
theorem pick_len3 (a b c d e f : Int) : (pick [a, b, c, d, e, f] (some 3) (some 5) none).length = 2 := by rfl
theorem pick_len4 (a b c d e f : Int) : (pick [a, b, c, d, e, f] (some 3) (some 6) none).length = 3 := by rfl
theorem enum_six : enumD [.int 7, .int 300, .int 35, .int 15, .int 3, .int 20] = (List.range 6).map fun (k : Nat) => D.tup [.int (k : Int), .int (fixedL.getD k 0)] := by rfl
theorem join_ok1 {l : List Nat} (hz : l.length ≤ 100) : JoinOk (Str.ofString "") (l.map fun c => (⟨#[c]⟩ : Str)) = true := by
  have h := join_ok (l := l.map fun c => [c]) (B := 1) (fun y hy => by obtain ⟨c, _, rfl⟩ := List.mem_map.mp hy; exact Nat.le_refl 1) (by rw [List.length_map]; omega)
  rw [List.map_map] at h
  exact h
theorem fn_law (HL : LoopAll) {ns : List Int} (hl : ns.length ≤ 63) : Fn w (n + 4) 156 [.wl (ns.map D.int)] (.bool true) := by
  refine Fn.mk (n := n + 3) (o := o156f) (xs := [Str.ofString "script"]) (fun P => by kernel_rfl) (fun P => rfl) (fun P => ⟨155, o155f P, _, _, rfl, by kernel_rfl, rfl, rfl⟩) rfl rfl rfl rfl rfl ?_ (by decide +kernel) (by decide +kernel) (by decide +kernel) rfl ?_
  · exact all1 fun a => by kernel_rfl
  · have hz : (ns.map D.int).length ≤ sizeLine := by rw [List.length_map]; exact Nat.le_trans hl (by decide)
    -- totals
    refine Exs.cons (ρ' := [(Str.ofString "totals", .lst ((totalsOf ns).map D.int)), (Str.ofString "script", .wl (ns.map D.int))]) (Ex.assignComp' (outs := (totalsOf ns).map D.int) (ρ' := [(Str.ofString "script", .wl (ns.map D.int))]) (by kernel_rfl) (by walk_at "st")
      (Itr.enum (by walk_at "g") (by walk_at "g") (by walk_at "g") (Ev.list (EvL.cons Ev.int (EvL.cons Ev.int (EvL.cons Ev.int (EvL.cons Ev.int (EvL.cons Ev.int (EvL.cons Ev.int .nil)))))) (show (6 : Nat) ≤ sizeLine by decide))) ?tot (by decide +kernel) (show (6 : Nat) ≤ sizeLine by decide) (by decide +kernel)) ?_
    case tot =>
      have e : (totalsOf ns).map D.int = (List.range 6).flatMap fun k => [.int (totOf ns k)] := by rw [flat1]; unfold totalsOf; rw [List.map_map]; rfl
      rw [e, enum_six]
      refine Cq.one (CT.map (fun (k : Nat) => D.tup [.int (k : Int), .int (fixedL.getD k 0)]) _ fun k hk => ⟨_, true, As.pair (a := .int (k : Int)) (b := .int (fixedL.getD k 0)) (by walk_at "st") (by walk_at "st"), by walk_at "sub", Tq.nil, .inl ⟨rfl, Em.last (Ev.binop (Ev.name (by walk_at "lk"))
        (Ev.callB (by walk_at "g") (by walk_at "g") (by walk_at "g") (EvL.cons (Ev.to (Ev.slice3 (Ev.name (by walk_at "lk")) (PartE.int (Ev.name (by walk_at "lk"))) (PartE.int Ev.int) (PartE.int Ev.int) F.slot_list_getitem.lookup ty_wl (getS_wl (by decide) hz)) (congrArg D.lst (pick_map D.int ns _ _ _))) .nil) cl_sumLst) cl_add)⟩⟩)
    -- size
    refine Exs.cons (Ex.assign (d := .int ((pick ns none (some 60) none).sum + 1)) (Ev.binop (Ev.callB (by walk_at "g") (by walk_at "g") (by walk_at "g") (EvL.cons (Ev.to (Ev.slice (Ev.name (by walk_at "lk")) PartE.none (PartE.int Ev.int) F.slot_list_getitem.lookup ty_wl (getS_wl (by simp) hz)) (congrArg D.lst (pick_map D.int ns _ _ _))) .nil) cl_sumLst) Ev.int cl_add) (by walk_at "st") (by intros; rfl)) ?_
    generalize (pick ns none (some 60) none).sum + 1 = size
    have hT6 : ∃ a b c d e f, totalsOf ns = [a, b, c, d, e, f] := ⟨_, _, _, _, _, _, rfl⟩
    have hTl : (totalsOf ns).length = 6 := rfl
    generalize totalsOf ns = T at *
    have hzT : (T.map D.int).length ≤ sizeLine := by rw [List.length_map, hTl]; decide
    have hT1 : (pick T none (some (2 + size.fmod 2)) none).length = 2 ∨ (pick T none (some (2 + size.fmod 2)) none).length = 3 := by
      obtain ⟨a, b, c, d, e, f, rfl⟩ := hT6
      rcases fmod2 size with h | h <;> rw [h]
      · exact .inl (pick_len1 a b c d e f)
      · exact .inr (pick_len2 a b c d e f)
    have hT2 : (pick T (some 3) (some (5 + (size.fdiv 2).fmod 2)) none).length = 2 ∨ (pick T (some 3) (some (5 + (size.fdiv 2).fmod 2)) none).length = 3 := by
      obtain ⟨a, b, c, d, e, f, rfl⟩ := hT6
      rcases fmod2 (size.fdiv 2) with h | h <;> rw [h]
      · exact .inl (pick_len3 a b c d e f)
      · exact .inr (pick_len4 a b c d e f)
    have hp1 := pick_map D.int T none (some (2 + size.fmod 2)) none
    have hp2 := pick_map D.int T (some 3) (some (5 + (size.fdiv 2).fmod 2)) none
    generalize pick T none (some (2 + size.fmod 2)) none = T1 at *
    generalize pick T (some 3) (some (5 + (size.fdiv 2).fmod 2)) none = ts at *
    -- signs
    have hS : ∀ p ∈ T1.map sg, p ∈ signs := fun p hp => by obtain ⟨t, _, rfl⟩ := List.mem_map.mp hp; exact sg_mem t
    have hSl : (T1.map sg).length = 2 ∨ (T1.map sg).length = 3 := by rw [List.length_map]; exact hT1
    have eS : (T1.map sg).map seenD = T1.flatMap fun t => [seenD (sg t)] := by rw [flat1, List.map_map]; rfl
    refine Exs.cons (Ex.assignComp' (outs := (T1.map sg).map seenD) (ρ' := []) (by kernel_rfl) (by walk_at "st") (Itr.of (d := .lst (T1.map D.int)) (Ev.slice (Ev.name (by walk_at "lk")) PartE.none (PartE.int (i := 2 + size.fmod 2) (Ev.binop Ev.int (Ev.binop (Ev.name (by walk_at "lk")) Ev.int (cl_mod (by decide))) cl_add)) F.slot_list_getitem.lookup ty_lst
      (hp1 ▸ getS_lst (by simp) hzT)) (Its.list PlainT.name)) ?signs (by decide +kernel) (by rw [List.length_map]; exact Nat.le_trans (m := 3) (by omega) (by decide)) (by decide +kernel)) ?_
    case signs =>
      rw [eS]
      refine Cq.one (CT.map D.int _ fun t ht => ⟨_, true, As.name (by walk_at "st"), by walk_at "sub", Tq.nil, .inl ⟨rfl, Em.last (Ev.callF (by walk_at "g") (by walk_at "g") (fun P => ⟨o100d P, _, by kernel_rfl, rfl⟩) (EvL.cons (Ev.name (by walk_at "lk")) .nil) (sg_fn t (n := n + 1)))⟩⟩)
    generalize T1.map sg = S at *
    -- seen
    refine Exs.cons (Ex.assign (d := .str ⟨(S.map (·.1)).toArray⟩) ?seen (by walk_at "st") (by intros; rfl)) ?_
    case seen =>
      rw [← join_chars (S.map (·.1))]
      refine Ev.meth (T := "str") Ev.str (by intros; rfl) (by decide) (by rfl) F.plainAttrs_str F.slot_str_join (by kernel_rfl) (fun X s v r => ⟨ty_str X s v r, fun a e => by cases r; cases e⟩) (EvL.cons ?_ .nil) (cl_join (join_ok1 (l := S.map (·.1)) (by rw [List.length_map]; omega)))
      have e : ((S.map (·.1)).map fun c => (⟨#[c]⟩ : Str)).map D.str = S.flatMap fun p => [.str ⟨#[p.1]⟩] := by rw [flat1, List.map_map, List.map_map]; rfl
      rw [e]
      refine Ev.comp' (ρ' := []) (by kernel_rfl) (Itr.of (Ev.name (by walk_at "lk")) (Its.list PlainT.name)) ?_ (by decide +kernel) (by rw [flat1, List.length_map]; exact Nat.le_trans (m := 3) (by omega) (by decide))
      exact Cq.one (CT.map seenD _ fun p hp => ⟨_, true, As.name (by walk_at "st"), by walk_at "sub", Tq.nil, .inl ⟨rfl, Em.last (Ev.item (T := "tuple") (Ev.name (d := .tup [.str ⟨#[p.1]⟩, .str p.2]) (by walk_at "lk")) Ev.int F.slot_tuple_getitem.lookup ty_tup (get_tup (k := 0) (by decide) (by decide) (by rfl) (by rfl)))⟩⟩)
    -- unseen
    refine Exs.cons (Ex.assign (d := .str ⟨(ts.map veilOf).toArray⟩) ?unseen (by walk_at "st") (by intros; rfl)) ?_
    case unseen =>
      rw [← join_chars (ts.map veilOf)]
      refine Ev.meth (T := "str") Ev.str (by intros; rfl) (by decide) (by rfl) F.plainAttrs_str F.slot_str_join (by kernel_rfl) (fun X s v r => ⟨ty_str X s v r, fun a e => by cases r; cases e⟩) (EvL.cons ?_ .nil) (cl_join (join_ok1 (l := ts.map veilOf) (by rw [List.length_map]; omega)))
      have e : ((ts.map veilOf).map fun c => (⟨#[c]⟩ : Str)).map D.str = ts.flatMap fun t => [.str ⟨#[veilOf t]⟩] := by rw [flat1, List.map_map, List.map_map]; rfl
      rw [e]
      refine Ev.comp' (ρ' := []) (by kernel_rfl) (Itr.of (d := .lst (ts.map D.int)) (Ev.slice (Ev.name (by walk_at "lk")) (PartE.int Ev.int) (PartE.int (i := 5 + (size.fdiv 2).fmod 2) (Ev.binop Ev.int (Ev.binop (Ev.binop (Ev.name (by walk_at "lk")) Ev.int (cl_floordiv (by decide) (PyProof.noPylong_small (by decide)))) Ev.int (cl_mod (by decide))) cl_add)) F.slot_list_getitem.lookup ty_lst
        (hp2 ▸ getS_lst (by simp) hzT)) (Its.list PlainT.name)) ?_ (by decide +kernel) (by rw [flat1, List.length_map]; exact Nat.le_trans (m := 3) (by omega) (by decide))
      refine Cq.one (CT.map D.int _ fun t ht => ⟨_, true, As.name (by walk_at "st"), by walk_at "sub", Tq.nil, .inl ⟨rfl, Em.last ?_⟩⟩)
      have h27 := fmod27 t
      obtain ⟨R, hR⟩ := Int.eq_ofNat_of_zero_le h27.1
      have hR27 : R < 27 := by omega
      have hv := veil_facts ⟨R, hR27⟩
      have ev : veilOf t = veilsL.getD R 0 := by unfold veilOf; rw [hR]; rfl
      rw [ev]
      exact Ev.callB (by walk_at "g") (by walk_at "g") (by walk_at "g") (EvL.cons (d := .int ((veilsL.getD R 0 : Nat) : Int)) (Ev.item (T := "tuple") (Ev.gname (a := 93) (by walk_at "g") (by walk_at "g") veils_rep) (Ev.binop (Ev.name (by walk_at "lk")) Ev.int (cl_mod (by decide))) F.slot_tuple_getitem.lookup ty_tup
        (get_tup (k := R) (by omega) (by omega) (by rw [hR, seqIndex_nat (by omega) (by show (R : Int) < 27; omega)]; rfl) (by
          have hl27 : R < veilsL.length := hR27
          rw [List.getElem?_map, List.getElem?_eq_getElem hl27, List.getD_eq_getElem?_getD, List.getElem?_eq_getElem hl27]; rfl))) .nil) (cl_chr (by
        have hvb : veilsL.getD R 0 < 0x110000 := hv.2.1
        rw [Bool.or_eq_false_iff, decide_eq_false_iff_not, decide_eq_false_iff_not]; omega))
    -- the rest
    have hlen : S.length ≤ 3 := by omega
    refine Stm.pre (law_mid (S := S) (ts := ts) (T := T) (size := size) hS hlen (by omega) (by omega) hp2 (HL S ts hS hSl hT2)) (by walk_at "sub")
end
end
end Mine
set_option maxRecDepth 100000
set_option Elab.async false
set_option linter.unusedVariables false
set_option maxHeartbeats 1000000
namespace Mine
open PySem PySem.W PySem.Calls PyProof.Rows
noncomputable section
local macro_rules | `(tactic| walk_at "lk") => `(tactic| first | exact lk_hit (by decide +kernel) | (refine lk_miss (by decide +kernel) ?_; walk_at "lk"))
local macro_rules | `(tactic| walk_at "sub") => `(tactic| first | exact Sub.nil | (refine Sub.cons (by walk_at "lk") ?_; walk_at "sub"))
local macro_rules | `(tactic| walk_at "st") => `(tactic| first | exact Or.inl (by decide +kernel) | exact Or.inr (by decide +kernel))
local macro_rules | `(tactic| walk_at "g") => `(tactic| first | decide +kernel | (intro P; kernel_rfl))
section
theorem runU_eq (a b c : Bool) : runU a b c = if a then [0, 1] else [1, 0] := by cases a <;> cases b <;> cases c <;> decide +kernel
theorem runT_1 : runT true true true = [0, 1, 2] := by decide +kernel
theorem runT_2 : runT true true false = [0, 2, 1] := by decide +kernel
theorem runT_3 : runT true false false = [2, 0, 1] := by decide +kernel
theorem runT_4 : runT false true true = [1, 0, 2] := by decide +kernel
theorem runT_5 : runT false false true = [1, 2, 0] := by decide +kernel
theorem runT_6 : runT false false false = [2, 1, 0] := by decide +kernel
theorem ltE_trans {x y z : En} (h1 : ltE x y = true) (h2 : ltE y z = true) : ltE x z = true := by
  unfold ltE at *
  exact decide_eq_true (List.lt_trans (of_decide_eq_true h1) (of_decide_eq_true h2))
theorem srt2 (p q : En) : srt [p, q] = (runU (ltE p q) (ltE p ([], 0)) (ltE q ([], 0))).map (atE [p, q]) := rfl
theorem srt3 (p q r : En) : srt [p, q, r] = (runT (ltE p q) (ltE p r) (ltE q r)).map (atE [p, q, r]) := rfl
theorem srt_perm {l l' : List En} (hp : l'.Perm l) (hd : (l.map (·.1)).Nodup) (h3 : l.length ≤ 3) : srt l' = srt l := by
  match l, h3 with
  | [], _ => rw [List.Perm.eq_nil hp]
  | [x], _ => rw [List.perm_singleton.mp hp]
  | [x, y], _ =>
    have hxy : x.1 ≠ y.1 := by
      intro e; simp [e] at hd
    have f := ltE_flip hxy
    rcases ksk_perm2 hp with rfl | rfl
    · rfl
    · rw [srt2, srt2, runU_eq, runU_eq, f]
      cases ltE x y <;> rfl
  | [x, y, z], _ =>
    have hxy : x.1 ≠ y.1 := by intro e; simp [e] at hd
    have hxz : x.1 ≠ z.1 := by intro e; simp [e] at hd
    have hyz : y.1 ≠ z.1 := by intro e; simp [e] at hd
    have f1 := ltE_flip hxy
    have f2 := ltE_flip hxz
    have f3 := ltE_flip hyz
    have t1 : ltE x y = true → ltE y z = true → ltE x z = true := ltE_trans
    have t2 : ltE x z = true → ltE z y = true → ltE x y = true := ltE_trans
    rw [f3] at t2
    rcases ksk_perm3 hp with rfl | rfl | rfl | rfl | rfl | rfl <;> (try rfl) <;> (rw [srt3, srt3]; simp only [f1, f2, f3]; cases hab : ltE x y <;> cases hac : ltE x z <;> cases hbc : ltE y z <;> simp only [hab, hac, hbc] at t1 t2 <;> first
      | (simp only [Bool.not_true, Bool.not_false, runT_1, runT_2, runT_3, runT_4, runT_5, runT_6]; rfl)
      | (exfalso; revert t1; decide)
      | (exfalso; revert t2; decide))
end
end
end Mine
set_option maxRecDepth 100000
set_option Elab.async false
set_option linter.unusedVariables false
set_option maxHeartbeats 1000000
namespace Mine
open PySem PySem.W PySem.Calls PyProof.Rows
noncomputable section
local macro_rules | `(tactic| walk_at "lk") => `(tactic| first | exact lk_hit (by decide +kernel) | (refine lk_miss (by decide +kernel) ?_; walk_at "lk"))
local macro_rules | `(tactic| walk_at "sub") => `(tactic| first | exact Sub.nil | (refine Sub.cons (by walk_at "lk") ?_; walk_at "sub"))
local macro_rules | `(tactic| walk_at "st") => `(tactic| first | exact Or.inl (by decide +kernel) | exact Or.inr (by decide +kernel))
local macro_rules | `(tactic| walk_at "g") => `(tactic| first | decide +kernel | (intro P; kernel_rfl))
section
/-- tokens: a seen sign below 100, an unseen one from 100 -/
noncomputable def veilT (k : Nat) : Bool := decide (100 ≤ k)
noncomputable def seenT (h : Nat) : List Nat := List.range h
noncomputable def unT (m : Nat) : List Nat := (List.range m).map (100 + ·)
noncomputable abbrev Good (h m : Nat) (t : List Nat) : Prop := t.filter veilT = unT m ∧ t.filter (fun k => !veilT k) = seenT h
noncomputable def mapL (f : Nat → Nat) (L : Lv) : Lv := L.map fun p => (p.1.map f, p.2)
/-- how tokens stand for signs -/
structure Fit (h m : Nat) (f : Nat → Nat) : Prop where
  b1 : ∀ k, k < h ∨ (100 ≤ k ∧ k < 100 + m) → isB1 (f k) = veilT k
variable {h m : Nat} {f : Nat → Nat}
theorem Good.tok {t : List Nat} (g : Good h m t) {k : Nat} (hk : k ∈ t) : k < h ∨ (100 ≤ k ∧ k < 100 + m) := by
  by_cases q : 100 ≤ k
  · right
    have : k ∈ t.filter veilT := List.mem_filter.mpr ⟨hk, by simpa [veilT] using q⟩
    rw [g.1] at this
    unfold unT at this
    obtain ⟨j, hj, rfl⟩ := List.mem_map.mp this
    have := List.mem_range.mp hj
    omega
  · left
    have : k ∈ t.filter (fun k => !veilT k) := List.mem_filter.mpr ⟨hk, by simpa [veilT] using q⟩
    rw [g.2] at this
    exact List.mem_range.mp this
theorem same_of {v : Nat → Bool} : ∀ {a b : List Nat}, a.filter v = b.filter v → a.filter (fun k => !v k) = b.filter (fun k => !v k) → a.map v = b.map v → a = b
  | [], [], _, _, _ => rfl
  | [], _ :: _, _, _, h => by simp at h
  | _ :: _, [], _, _, h => by simp at h
  | x :: a, y :: b, h1, h2, h3 => by
    simp only [List.map_cons, List.cons.injEq] at h3
    rw [List.filter_cons, List.filter_cons] at h1 h2
    rw [← h3.1] at h1 h2
    cases hv : v x with
    | true =>
      rw [hv] at h1 h2
      simp at h1 h2
      rw [h1.1, same_of h1.2 (by simpa using h2) h3.2]
    | false =>
      rw [hv] at h1 h2
      simp at h1 h2
      rw [h2.1, same_of h1 (by simpa using h2.2) h3.2]
theorem Good.inj (F : Fit h m f) {a b : List Nat} (ga : Good h m a) (gb : Good h m b) (e : a.map f = b.map f) : a = b := by
  have hm : ∀ {t : List Nat}, Good h m t → (t.map f).map (fun (k : Nat) => isB1 k) = t.map veilT := fun {t} g => by
    rw [List.map_map]
    exact List.map_congr_left fun k hk => F.b1 k (g.tok hk)
  refine same_of (v := veilT) (ga.1.trans gb.1.symm) (ga.2.trans gb.2.symm) ?_
  rw [← hm ga, ← hm gb, e]
theorem getD_map {t : List Nat} {i : Nat} (hi : i < t.length) : (t.map f).getD i 0 = f (t.getD i 0) := by
  rw [List.getD_eq_getElem?_getD, List.getD_eq_getElem?_getD, List.getElem?_map, List.getElem?_eq_getElem hi]; rfl
theorem swap_map {t : List Nat} {i : Nat} (hi : i + 1 < t.length) : swapAt (t.map f) i = (swapAt t i).map f := by
  unfold swapAt
  rw [getD_map hi, getD_map (by omega), List.map_append, List.map_append, List.map_append, List.map_take, List.map_drop]
  rfl
theorem split_at {t : List Nat} {i : Nat} (hi : i + 1 < t.length) : t = t.take i ++ [t.getD i 0] ++ [t.getD (i + 1) 0] ++ t.drop (i + 2) := by
  have e1 : t.getD i 0 = t[i] := by rw [List.getD_eq_getElem?_getD, List.getElem?_eq_getElem (by omega)]; rfl
  have e2 : t.getD (i + 1) 0 = t[i + 1] := by rw [List.getD_eq_getElem?_getD, List.getElem?_eq_getElem hi]; rfl
  rw [e1, e2]
  conv => lhs; rw [← List.take_append_drop i t, List.drop_eq_getElem_cons (by omega), List.drop_eq_getElem_cons hi]
  simp
theorem Good.swap {t : List Nat} (g : Good h m t) {i : Nat} (hi : i + 1 < t.length) (hv : veilT (t.getD i 0) = true) (hw : veilT (t.getD (i + 1) 0) = false) : Good h m (swapAt t i) := by
  have e := split_at hi
  obtain ⟨g1, g2⟩ := g
  rw [e] at g1 g2
  unfold swapAt
  generalize t.getD i 0 = x at *
  generalize t.getD (i + 1) 0 = y at *
  constructor
  · rw [← g1]; simp [hv, hw]
  · rw [← g2]; simp [hv, hw]
theorem look_map (F : Fit h m f) {t : List Nat} (g : Good h m t) : ∀ {L : Lv}, (∀ p ∈ L, Good h m p.1) → (mapL f L).lookup (t.map f) = L.lookup t
  | [], _ => rfl
  | (u, c) :: L, hL => by
    have ih := look_map F g (L := L) fun p hp => hL p (List.mem_cons_of_mem _ hp)
    have gu := hL (u, c) List.mem_cons_self
    unfold mapL at ih ⊢
    rw [List.map_cons, List.lookup_cons, List.lookup_cons, ih]
    have e : (t.map f == u.map f) = (t == u) := by
      by_cases q : t = u
      · subst q; simp
      · have q' : t.map f ≠ u.map f := fun z => q (g.inj F gu z)
        rw [beq_eq_false_iff_ne.mpr q, beq_eq_false_iff_ne.mpr q']
    rw [e]
theorem store_map (F : Fit h m f) {t : List Nat} {c : Nat} (g : Good h m t) {L : Lv} (hL : ∀ p ∈ L, Good h m p.1) : storeL (mapL f L) (t.map f) c = mapL f (storeL L t c) := by
  have hq : ∀ p ∈ L, (p.1.map f = t.map f) ↔ p.1 = t := fun p hp => ⟨fun z => (hL p hp).inj F g z, fun z => z ▸ rfl⟩
  have ha : (mapL f L).any (fun p => decide (p.1 = t.map f)) = L.any fun p => decide (p.1 = t) := by
    unfold mapL
    rw [List.any_map]
    rw [Bool.eq_iff_iff, List.any_eq_true, List.any_eq_true]
    constructor
    · rintro ⟨p, hp, e⟩; exact ⟨p, hp, by simpa [hq p hp] using e⟩
    · rintro ⟨p, hp, e⟩; exact ⟨p, hp, by simpa [hq p hp] using e⟩
  unfold storeL
  rw [ha]
  split
  · unfold mapL
    rw [List.map_map, List.map_map]
    apply List.map_congr_left
    intro p hp
    show (if p.1.map f = t.map f then (p.1.map f, c) else (p.1.map f, p.2)) = _
    by_cases q : p.1 = t
    · rw [if_pos ((hq p hp).mpr q)]
      show _ = ((if p.1 = t then (p.1, c) else p).1.map f, (if p.1 = t then (p.1, c) else p).2)
      rw [if_pos q]
    · rw [if_neg fun z => q ((hq p hp).mp z)]
      show _ = ((if p.1 = t then (p.1, c) else p).1.map f, (if p.1 = t then (p.1, c) else p).2)
      rw [if_neg q]
  · unfold mapL
    rw [List.map_append]; rfl
theorem Good.store {t : List Nat} {c : Nat} (g : Good h m t) {L : Lv} (hL : ∀ p ∈ L, Good h m p.1) : ∀ p ∈ storeL L t c, Good h m p.1 := by
  unfold storeL
  split
  · intro p hp
    obtain ⟨q, hq, rfl⟩ := List.mem_map.mp hp
    split <;> exact hL q hq
  · intro p hp
    rcases List.mem_append.mp hp with q | q
    · exact hL p q
    · rw [List.mem_singleton.mp q]; exact g
theorem place_map (F : Fit h m f) {t : List Nat} {c i : Nat} (g : Good h m t) (hi : i + 1 < t.length) {L : Lv} (hL : ∀ p ∈ L, Good h m p.1) :
    stepPlace (fun c => isB1 c) c (t.map f) (mapL f L) i = mapL f (stepPlace veilT c t L i) ∧ ∀ p ∈ stepPlace veilT c t L i, Good h m p.1 := by
  have m1 : t.getD i 0 ∈ t := by rw [List.getD_eq_getElem?_getD, List.getElem?_eq_getElem (by omega)]; exact List.getElem_mem _
  have m2 : t.getD (i + 1) 0 ∈ t := by rw [List.getD_eq_getElem?_getD, List.getElem?_eq_getElem hi]; exact List.getElem_mem _
  unfold stepPlace
  rw [getD_map hi, getD_map (by omega)]
  have c1 := F.b1 _ (g.tok m1)
  have c2 := F.b1 _ (g.tok m2)
  by_cases q : (veilT (t.getD i 0) && !veilT (t.getD (i + 1) 0)) = true
  · have q' : ((fun (c : Nat) => isB1 c) (f (t.getD i 0)) && !(fun (c : Nat) => isB1 c) (f (t.getD (i + 1) 0))) = true := by
      show (isB1 (f (t.getD i 0)) && !isB1 (f (t.getD (i + 1) 0))) = true
      rw [c1, c2]; exact q
    rw [if_pos q', if_pos q]
    simp only [Bool.and_eq_true, Bool.not_eq_true'] at q
    have gs := g.swap hi q.1 q.2
    rw [swap_map hi, look_map F gs hL]
    exact ⟨store_map F gs hL, gs.store hL⟩
  · have q' : ¬ ((fun (c : Nat) => isB1 c) (f (t.getD i 0)) && !(fun (c : Nat) => isB1 c) (f (t.getD (i + 1) 0))) = true := by
      show ¬ (isB1 (f (t.getD i 0)) && !isB1 (f (t.getD (i + 1) 0))) = true
      rw [c1, c2]; exact q
    rw [if_neg q', if_neg q]
    exact ⟨rfl, hL⟩
theorem text_map (F : Fit h m f) {t : List Nat} {c : Nat} (g : Good h m t) : ∀ (i : Nat) {L : Lv}, i + 1 ≤ t.length → (∀ p ∈ L, Good h m p.1) →
    (List.range i).foldl (stepPlace (fun c => isB1 c) c (t.map f)) (mapL f L) = mapL f ((List.range i).foldl (stepPlace veilT c t) L) ∧ ∀ p ∈ (List.range i).foldl (stepPlace veilT c t) L, Good h m p.1
  | 0, L, _, hL => ⟨rfl, hL⟩
  | i + 1, L, hi, hL => by
    obtain ⟨a, b⟩ := text_map F g i (L := L) (by omega) hL
    rw [foldl_range, foldl_range, a]
    exact place_map F g (by omega) b
theorem texts_map (F : Fit h m f) {L : Lv} (hL : ∀ p ∈ L, Good h m p.1) : ∀ (ts : List (List Nat)) {K : Lv}, (∀ t ∈ ts, Good h m t ∧ 0 < t.length) → (∀ p ∈ K, Good h m p.1) →
    (ts.map fun t => t.map f).foldl (stepText (fun c => isB1 c) (mapL f L)) (mapL f K) = mapL f (ts.foldl (stepText veilT L) K) ∧ ∀ p ∈ ts.foldl (stepText veilT L) K, Good h m p.1
  | [], K, _, hK => ⟨rfl, hK⟩
  | t :: ts, K, ht, hK => by
    obtain ⟨g, hp⟩ := ht t List.mem_cons_self
    rw [List.map_cons, List.foldl_cons, List.foldl_cons]
    have e : stepText (fun c => isB1 c) (mapL f L) (mapL f K) (t.map f) = mapL f (stepText veilT L K t) ∧ ∀ p ∈ stepText veilT L K t, Good h m p.1 := by
      unfold stepText
      rw [List.length_map, look_map F g hL]
      exact text_map F g _ (by omega) hK
    rw [e.1]
    exact texts_map F hL ts (fun u hu => ht u (List.mem_cons_of_mem _ hu)) e.2
theorem step_map (F : Fit h m f) {L : Lv} (hL : ∀ p ∈ L, Good h m p.1 ∧ 0 < p.1.length) : stepT (fun c => isB1 c) (mapL f L) = mapL f (stepT veilT L) ∧ ∀ p ∈ stepT veilT L, Good h m p.1 := by
  unfold stepT
  have e : (mapL f L).map (·.1) = (L.map (·.1)).map fun t => t.map f := by unfold mapL; rw [List.map_map, List.map_map]; rfl
  rw [e]
  exact texts_map F (fun p hp => (hL p hp).1) (L.map (·.1)) (K := []) (fun t ht => by obtain ⟨p, hp, rfl⟩ := List.mem_map.mp ht; exact hL p hp) fun p hp => nomatch hp
theorem text_of_map (r : List Nat) (seen un : List Nat) : textR (seen.map f) (un.map f) r = (textR seen un r).map f := by
  unfold textR
  rw [List.length_map]
  unfold textL
  rw [List.map_flatMap]
  congr 1; funext place
  unfold textAt
  rw [List.map_append]
  congr 1
  · unfold picksAt
    rw [List.map_flatMap]
    congr 1; funext k
    split
    · rw [List.getElem?_map]
      cases un[k]? <;> rfl
    · rfl
  · rw [List.map_take, List.map_drop]
noncomputable def lvTok (h m : Nat) (b : List Nat) : Nat → Lv
  | 0 => [(textR (seenT h) (unT m) b, 1)]
  | i + 1 => stepT veilT (lvTok h m b i)
noncomputable def okL (h m : Nat) (L : Lv) : Bool := decide (L.length ≤ 3) && L.all (fun p => decide (p.1.length ≤ 10) && decide (p.2 ≤ 100) && decide (0 < p.1.length)) && decide ((L.map (·.1)).Nodup)
noncomputable def ckStep (h m : Nat) (b : List Nat) (i : Nat) (L : Lv) : Bool := okL h m L && (posE (endsAt (seenT h) (unT m) b (rowsP h m) (ordersP m m) i)).isPerm (lvE L)
noncomputable def ckAll (h m : Nat) (b : List Nat) : Bool := decide (Good h m (textR (seenT h) (unT m) b)) && decide (b.sum ≤ h * m) && (List.range (h * m - b.sum + 1)).all (fun i => ckStep h m b i (lvTok h m b i)) && (rowsP h m).all (fun r => decide (r.sum < b.sum) || waysOk b r (ordersP m m))
  && decide ((lvTok h m b (h * m - b.sum)).map (·.1) = [seenT h ++ unT m])
theorem ck22 : (rowsP 2 2).all (ckAll 2 2) = true := by decide +kernel
theorem ck23 : (rowsP 2 3).all (ckAll 2 3) = true := by decide +kernel
theorem ck32 : (rowsP 3 2).all (ckAll 3 2) = true := by decide +kernel
theorem ck33 : (rowsP 3 3).all (ckAll 3 3) = true := by decide +kernel
end
end
end Mine
set_option maxRecDepth 100000
set_option Elab.async false
set_option linter.unusedVariables false
set_option maxHeartbeats 1000000
namespace Mine
open PySem PySem.W PySem.Calls PyProof.Rows
noncomputable section
local macro_rules | `(tactic| walk_at "lk") => `(tactic| first | exact lk_hit (by decide +kernel) | (refine lk_miss (by decide +kernel) ?_; walk_at "lk"))
local macro_rules | `(tactic| walk_at "sub") => `(tactic| first | exact Sub.nil | (refine Sub.cons (by walk_at "lk") ?_; walk_at "sub"))
local macro_rules | `(tactic| walk_at "st") => `(tactic| first | exact Or.inl (by decide +kernel) | exact Or.inr (by decide +kernel))
local macro_rules | `(tactic| walk_at "g") => `(tactic| first | decide +kernel | (intro P; kernel_rfl))
section
variable {h m : Nat} {f : Nat → Nat}
theorem nodup_mapL (F : Fit h m f) : ∀ {L : Lv}, (∀ p ∈ L, Good h m p.1) → (L.map (·.1)).Nodup → ((mapL f L).map (·.1)).Nodup
  | [], _, _ => List.nodup_nil
  | p :: L, g, hn => by
    rw [List.map_cons, List.nodup_cons] at hn
    unfold mapL
    rw [List.map_cons, List.map_cons, List.nodup_cons]
    refine ⟨fun q => ?_, nodup_mapL F (fun p hp => g p (List.mem_cons_of_mem _ hp)) hn.2⟩
    obtain ⟨x, hx, e⟩ := List.mem_map.mp q
    obtain ⟨y, hy, rfl⟩ := List.mem_map.mp hx
    have : y.1 = p.1 := (g y (List.mem_cons_of_mem _ hy)).inj F (g p List.mem_cons_self) e
    exact hn.1 (this ▸ List.mem_map.mpr ⟨y, hy, rfl⟩)
noncomputable def mapE (f : Nat → Nat) (l : List En) : List En := l.map fun p => (p.1.map f, p.2)
theorem ends_map (seen un b : List Nat) (rows : List (List Nat)) (os : List (List Nat × Int)) (i : Nat) : endsAt (seen.map f) (un.map f) b rows os i = mapE f (endsAt seen un b rows os i) := by
  unfold endsAt mapE
  rw [List.map_map]
  apply List.map_congr_left
  intro r _
  rw [text_of_map]; rfl
theorem posE_map (l : List En) : posE (mapE f l) = mapE f (posE l) := by
  unfold posE mapE
  rw [List.filter_map]; rfl
theorem lvE_map (L : Lv) : lvE (mapL f L) = mapE f (lvE L) := by
  unfold lvE mapL mapE
  rw [List.map_map, List.map_map]; rfl
theorem lv_map (F : Fit h m f) {b : List Nat} {N : Nat} (hg : Good h m (textR (seenT h) (unT m) b)) (hok : ∀ i, i ≤ N → okL h m (lvTok h m b i) = true) : ∀ i, i ≤ N → lvAt ((seenT h).map f) ((unT m).map f) b i = mapL f (lvTok h m b i) ∧ ∀ p ∈ lvTok h m b i, Good h m p.1
  | 0, _ => by
    refine ⟨?_, fun p hp => ?_⟩
    · show [(textR _ _ _, 1)] = _
      rw [text_of_map]; rfl
    · rw [List.mem_singleton.mp hp]; exact hg
  | i + 1, hi => by
    obtain ⟨a, g⟩ := lv_map F hg hok i (by omega)
    have ok := hok i (by omega)
    simp only [okL, Bool.and_eq_true, decide_eq_true_eq, List.all_eq_true] at ok
    have := step_map F (L := lvTok h m b i) fun p hp => ⟨g p hp, (ok.1.2 p hp).2⟩
    exact ⟨by show stepT _ (lvAt _ _ b i) = _; rw [a]; exact this.1, this.2⟩
theorem loop_of {S : List (Nat × Str)} {ts : List Int} (P : Params) (hS : ∀ p ∈ S, p ∈ signs) (hh : S.length = h) (hm : ts.length = m) (h3 : h ≤ 3) (m3 : m ≤ 3) (ck : (rowsP h m).all (ckAll h m) = true) : ∀ b ∈ rowsP S.length ts.length,
    LoopOk (S.map (·.1)) (ts.map veilOf) b (rowsP S.length ts.length) (ordersP ts.length ts.length) (S.length * ts.length - b.sum) ∧ (lvAt (S.map (·.1)) (ts.map veilOf) b (S.length * ts.length - b.sum)).map (·.1) = [S.map (·.1) ++ ts.map veilOf] := by
  rw [hh, hm]
  intro b hb
  have c := List.all_eq_true.mp ck b hb
  simp only [ckAll, Bool.and_eq_true, decide_eq_true_eq, List.all_eq_true, Bool.or_eq_true] at c
  obtain ⟨⟨⟨⟨hg, hsum⟩, hst⟩, hw⟩, hlast⟩ := c
  let f : Nat → Nat := fun k => if k < 100 then (S.map (·.1)).getD k 0 else (ts.map veilOf).getD (k - 100) 0
  have f1 : ∀ k, k < h → f k ∈ S.map (·.1) := fun k hk => by
    show (if k < 100 then _ else _) ∈ _
    rw [if_pos (by omega), List.getD_eq_getElem?_getD, List.getElem?_eq_getElem (by rw [List.length_map]; omega)]
    exact List.getElem_mem _
  have f2 : ∀ k, k < m → f (100 + k) ∈ ts.map veilOf := fun k hk => by
    show (if 100 + k < 100 then _ else _) ∈ _
    rw [if_neg (by omega), show 100 + k - 100 = k by omega, List.getD_eq_getElem?_getD, List.getElem?_eq_getElem (by rw [List.length_map]; omega)]
    exact List.getElem_mem _
  have es : S.map (·.1) = (seenT h).map f := by
    apply List.ext_getElem
    · simp [seenT, hh]
    · intro i h1 h2
      rw [List.length_map] at h1
      have : (seenT h)[i]'(by simpa using h2) = i := by simp [seenT]
      rw [List.getElem_map, List.getElem_map, this]
      show _ = (if i < 100 then (S.map (·.1)).getD i 0 else (ts.map veilOf).getD (i - 100) 0)
      rw [if_pos (by omega), List.getD_eq_getElem?_getD, List.getElem?_map, List.getElem?_eq_getElem h1]; rfl
  have eu : ts.map veilOf = (unT m).map f := by
    apply List.ext_getElem
    · simp [unT, hm]
    · intro i h1 h2
      rw [List.length_map] at h1
      have : (unT m)[i]'(by simpa using h2) = 100 + i := by simp [unT]
      rw [List.getElem_map, List.getElem_map, this]
      show _ = (if 100 + i < 100 then (S.map (·.1)).getD (100 + i) 0 else (ts.map veilOf).getD (100 + i - 100) 0)
      rw [if_neg (by omega), show 100 + i - 100 = i by omega, List.getD_eq_getElem?_getD, List.getElem?_map, List.getElem?_eq_getElem h1]; rfl
  have sgn : ∀ (c : Nat), c ∈ S.map (·.1) → isB1 c = false ∧ c < 0x110000 := fun c hc => by
    obtain ⟨p, hp, rfl⟩ := List.mem_map.mp hc
    have ok := sign_ok (P := P) (hS p hp)
    exact ⟨ok.b1, ok.u⟩
  have vls : ∀ (c : Nat), c ∈ ts.map veilOf → isB1 c = true ∧ c < 0x110000 := fun c hc => by
    obtain ⟨t, _, rfl⟩ := List.mem_map.mp hc
    have h27 := fmod27 t
    have hv := veil_facts ⟨(t.fmod 27).toNat, by omega⟩
    exact ⟨hv.1, hv.2.1⟩
  have F : Fit h m f := ⟨fun k hk => by
    rcases hk with hk | ⟨hk, hk'⟩
    · rw [(sgn _ (f1 k hk)).1]
      have : veilT k = false := by unfold veilT; exact decide_eq_false (by omega)
      rw [this]
    · have e : k = 100 + (k - 100) := by omega
      have : veilT k = true := by unfold veilT; exact decide_eq_true hk
      rw [this, e, (vls _ (f2 (k - 100) (by omega))).1]⟩
  have fu : ∀ k, k < h ∨ (100 ≤ k ∧ k < 100 + m) → f k < 0x110000 := fun k hk => by
    rcases hk with hk | ⟨hk, hk'⟩
    · exact (sgn _ (f1 k hk)).2
    · have e : k = 100 + (k - 100) := by omega
      rw [e]; exact (vls _ (f2 (k - 100) (by omega))).2
  have hstep : ∀ i, i ≤ h * m - b.sum → ckStep h m b i (lvTok h m b i) = true := fun i hi => hst i (List.mem_range.mpr (by omega))
  have hok : ∀ i, i ≤ h * m - b.sum → okL h m (lvTok h m b i) = true := fun i hi => by
    have := hstep i hi
    simp only [ckStep, Bool.and_eq_true] at this
    exact this.1
  have LM := lv_map F hg hok
  rw [es, eu]
  refine ⟨⟨by simp [seenT]; omega, by simp [unT]; omega, fun r hr => by rw [rows_len hr]; simp [unT], by exact rows_bd ⟨h, by omega⟩ ⟨m, by omega⟩, hb, by simp [seenT, unT]; omega, fun i hi => ?_, fun r hr i hi e => ?_, fun i hi => ?_⟩, ?_⟩
  · obtain ⟨a, g⟩ := LM i hi
    have ok := hok i hi
    simp only [okL, Bool.and_eq_true, decide_eq_true_eq, List.all_eq_true] at ok
    obtain ⟨⟨o1, o2⟩, o3⟩ := ok
    rw [a]
    refine ⟨by unfold mapL; rw [List.length_map]; exact o1, fun p hp => ?_, nodup_mapL F g o3⟩
    unfold mapL at hp
    obtain ⟨q, hq, rfl⟩ := List.mem_map.mp hp
    have := o2 q hq
    refine ⟨by rw [List.length_map]; exact this.1.1, this.1.2, fun c hc => ?_⟩
    obtain ⟨k, hk, rfl⟩ := List.mem_map.mp hc
    exact fu k ((g q hq).tok hk)
  · rcases hw r hr with q | q
    · omega
    · exact q
  · obtain ⟨a, g⟩ := LM i hi
    have ok := hok i hi
    simp only [okL, Bool.and_eq_true, decide_eq_true_eq, List.all_eq_true] at ok
    have st := hstep i hi
    simp only [ckStep, Bool.and_eq_true] at st
    have perm := List.isPerm_iff.mp st.2
    have nd : ((lvE (mapL f (lvTok h m b i))).map (·.1)).Nodup := by
      have := nodup_mapL F g ok.2
      unfold lvE
      rw [List.map_map]; exact this
    have pm : (posE (endsAt ((seenT h).map f) ((unT m).map f) b (rowsP h m) (ordersP m m) i)).Perm (lvE (mapL f (lvTok h m b i))) := by
      rw [ends_map, posE_map, lvE_map]
      exact perm.map _
    have hl : (lvE (mapL f (lvTok h m b i))).length ≤ 3 := by unfold lvE mapL; rw [List.length_map, List.length_map]; exact ok.1.1
    rw [a]
    exact ⟨(pm.map (·.1)).nodup_iff.mpr nd, by rw [pm.length_eq]; exact hl, (srt_perm pm nd hl).symm⟩
  · obtain ⟨a, g⟩ := LM _ (Nat.le_refl _)
    rw [a]
    have : (mapL f (lvTok h m b (h * m - b.sum))).map (·.1) = ((lvTok h m b (h * m - b.sum)).map (·.1)).map fun t => t.map f := by unfold mapL; rw [List.map_map, List.map_map]; rfl
    rw [this, hlast]
    simp
theorem loopAll (P : Params) : LoopAll := fun S ts hS h1 h2 => by
  rcases h1 with h1 | h1 <;> rcases h2 with h2 | h2
  · exact loop_of P hS h1 h2 (by decide) (by decide) ck22
  · exact loop_of P hS h1 h2 (by decide) (by decide) ck23
  · exact loop_of P hS h1 h2 (by decide) (by decide) ck32
  · exact loop_of P hS h1 h2 (by decide) (by decide) ck33
theorem ints_reps {w : World} {X : Addr → Prop} {hp : Heap} : ∀ {vs : List Value} {ns : List Int}, IntsAre vs ns → Reps w X hp vs (ns.map D.int)
  | _, _, .nil => .nil
  | _, _, .cons k t r => .cons (.int k t) (ints_reps r)
theorem lawTrue : LawTrue := fun w s L vs ns hbase hgens hl hi hlen hbits => by
  obtain ⟨o, hg, hc, k, hd⟩ := hl
  have F := fn_law (w := w) (n := 0) (loopAll w.params) hlen
  refine wpAny_mono (F callerA (fun _ => False) s [.ref L] ⟨rfl, by decide, by decide⟩ hbase (fun b q => q.elim) (.cons (.wl (fun q => q) hg hc hd (ints_reps hi)) .nil)) (fun v s' h => ?_) fun _ _ x => x
  obtain ⟨e, r⟩ := h
  cases r
  obtain ⟨⟨h', tk, rfl⟩, kp⟩ := e
  exact ⟨rfl, h', tk, rfl, kp⟩
end
end
end Mine
theorem PySem.Challenge.cw_kl0164_01_holds : PySem.Challenge.rw_kl0164_01.Holds :=
  Mine.holds Mine.lawTrue
