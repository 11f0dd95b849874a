import PyProof.Rows.All
import Wide.All
import OpenK.AllK
import Wide.FinOn
import PySem.Challenge.RW_wn0001_01
set_option Elab.async false
set_option maxRecDepth 100000
section
open PySem PySem.W PyProof.Rows PySem.Calls
namespace Mine
/-- the text's statement at a place -/
def stmtAt (i : Nat) : Stmt := PySem.Challenge.pw_wn0001_01.main.body.getD i (.Pass ⟨0, 0, 0, 0⟩)
def fName : Stmt → Str
  | .FunctionDef n _ _ _ _ _ _ _ _ _ => n
  | _ => Str.empty
def fParams : Stmt → Arguments
  | .FunctionDef _ a _ _ _ _ _ _ _ _ => a
  | _ => ⟨[], [], none, [], [], none, []⟩
def fBody : Stmt → List Stmt
  | .FunctionDef _ _ b _ _ _ _ _ _ _ => b
  | _ => []
def fScope : Stmt → Scope
  | .FunctionDef _ _ _ _ _ _ s _ _ _ => s
  | _ => default
/-- the object that a plain def of the text makes -/
def fnO (i : Nat) (pm : Value) (c : Addr) : Obj :=
  ⟨.type "function", none, .func (fnOf (fName (stmtAt i)) (fName (stmtAt i)) (fParams (stmtAt i)) (fBody (stmtAt i)) (fScope (stmtAt i)) .none .none .none pm none (.ref c) .none), #[]⟩
@[reducible] def fn32 : Obj := (fun (x : Obj) (_ : fnO 2 (.str (Str.ofString "cpy313.stringprep") 187) 31 = x) => x) ?x (by
  simp only [fnO, stmtAt, fName, fParams, fBody, fScope, PySem.Challenge.pw_wn0001_01, List.getD_cons_succ, List.getD_cons_zero]
  exact rfl)
@[reducible] def fn39 : Obj := (fun (x : Obj) (_ : fnO 3 (.str (Str.ofString "cpy313.stringprep") 187) 38 = x) => x) ?x (by
  simp only [fnO, stmtAt, fName, fParams, fBody, fScope, PySem.Challenge.pw_wn0001_01, List.getD_cons_succ, List.getD_cons_zero]
  exact rfl)
@[reducible] def fn46 : Obj := (fun (x : Obj) (_ : fnO 5 (.str (Str.ofString "cpy313.operator") 264) 45 = x) => x) ?x (by
  simp only [fnO, stmtAt, fName, fParams, fBody, fScope, PySem.Challenge.pw_wn0001_01, List.getD_cons_succ, List.getD_cons_zero]
  exact rfl)
@[reducible] def fn53 : Obj := (fun (x : Obj) (_ : fnO 6 (.str (Str.ofString "cpy313.operator") 264) 52 = x) => x) ?x (by
  simp only [fnO, stmtAt, fName, fParams, fBody, fScope, PySem.Challenge.pw_wn0001_01, List.getD_cons_succ, List.getD_cons_zero]
  exact rfl)
@[reducible] def fn60 : Obj := (fun (x : Obj) (_ : fnO 7 (.str (Str.ofString "cpy313.operator") 264) 59 = x) => x) ?x (by
  simp only [fnO, stmtAt, fName, fParams, fBody, fScope, PySem.Challenge.pw_wn0001_01, List.getD_cons_succ, List.getD_cons_zero]
  exact rfl)
@[reducible] def fn67 : Obj := (fun (x : Obj) (_ : fnO 9 (.str (Str.ofString "law_wn0001_01") 289) 66 = x) => x) ?x (by
  simp only [fnO, stmtAt, fName, fParams, fBody, fScope, PySem.Challenge.pw_wn0001_01, List.getD_cons_succ, List.getD_cons_zero]
  exact rfl)
@[reducible] def fn74 : Obj := (fun (x : Obj) (_ : fnO 10 (.str (Str.ofString "law_wn0001_01") 289) 73 = x) => x) ?x (by
  simp only [fnO, stmtAt, fName, fParams, fBody, fScope, PySem.Challenge.pw_wn0001_01, List.getD_cons_succ, List.getD_cons_zero]
  exact rfl)
@[reducible] def fn81 : Obj := (fun (x : Obj) (_ : fnO 11 (.str (Str.ofString "law_wn0001_01") 289) 80 = x) => x) ?x (by
  simp only [fnO, stmtAt, fName, fParams, fBody, fScope, PySem.Challenge.pw_wn0001_01, List.getD_cons_succ, List.getD_cons_zero]
  exact rfl)
@[reducible] def fn88 : Obj := (fun (x : Obj) (_ : fnO 12 (.str (Str.ofString "law_wn0001_01") 289) 87 = x) => x) ?x (by
  simp only [fnO, stmtAt, fName, fParams, fBody, fScope, PySem.Challenge.pw_wn0001_01, List.getD_cons_succ, List.getD_cons_zero]
  exact rfl)
@[reducible] def fn93 : Obj := (fun (x : Obj) (_ : fnO 13 (.str (Str.ofString "law_wn0001_01") 289) 92 = x) => x) ?x (by
  simp only [fnO, stmtAt, fName, fParams, fBody, fScope, PySem.Challenge.pw_wn0001_01, List.getD_cons_succ, List.getD_cons_zero]
  exact rfl)
/-- the part of the state behind the top that the walk knows whole -/
def heapK : Params → Frag := fun P =>
  (nat_lit 2, ⟨.none, none, .dict #[] 0, #[]⟩) ::
  (nat_lit 3, ⟨.type "dict", none, .dict #[⟨PyData.keyHash P (Str.ofString "__name__"), .str (Str.ofString "__name__") 165, .str (Str.ofString "law_wn0001_01") 289⟩, ⟨PyData.keyHash P (Str.ofString "__doc__"), .str (Str.ofString "__doc__") 166, .none⟩, ⟨PyData.keyHash P (Str.ofString "__package__"), .str (Str.ofString "__package__") 167, .none⟩, ⟨PyData.keyHash P (Str.ofString "__loader__"), .str (Str.ofString "__loader__") 168, .builtin "__main__.__loader__#opaque"⟩, ⟨PyData.keyHash P (Str.ofString "__spec__"), .str (Str.ofString "__spec__") 169, .none⟩, ⟨PyData.keyHash P (Str.ofString "__annotations__"), .str (Str.ofString "__annotations__") 170, .ref 6⟩, ⟨PyData.keyHash P (Str.ofString "__builtins__"), .str (Str.ofString "__builtins__") 171, .ref 4⟩, ⟨PyData.keyHash P (Str.ofString "__file__"), .str (Str.ofString "__file__") 173, .str (Str.ofString "/claim/cut.py") 172⟩, ⟨PyData.keyHash P (Str.ofString "__cached__"), .str (Str.ofString "__cached__") 174, .none⟩, ⟨PyData.keyHash P (Str.ofString "b1_set"), .str (Str.ofString "b1_set") 248, .ref 22⟩, ⟨PyData.keyHash P (Str.ofString "in_table_b1"), .str (Str.ofString "in_table_b1") 255, .ref 32⟩, ⟨PyData.keyHash P (Str.ofString "in_table_c4"), .str (Str.ofString "in_table_c4") 263, .ref 39⟩, ⟨PyData.keyHash P (Str.ofString "not_"), .str (Str.ofString "not_") 272, .ref 46⟩, ⟨PyData.keyHash P (Str.ofString "contains"), .str (Str.ofString "contains") 280, .ref 53⟩, ⟨PyData.keyHash P (Str.ofString "ior"), .str (Str.ofString "ior") 288, .ref 60⟩, ⟨PyData.keyHash P (Str.ofString "_law_sign"), .str (Str.ofString "_law_sign") 299, .ref 67⟩, ⟨PyData.keyHash P (Str.ofString "_law_settled"), .str (Str.ofString "_law_settled") 311, .ref 74⟩, ⟨PyData.keyHash P (Str.ofString "_law_told"), .str (Str.ofString "_law_told") 327, .ref 81⟩, ⟨PyData.keyHash P (Str.ofString "_law_exchanged"), .str (Str.ofString "_law_exchanged") 342, .ref 88⟩, ⟨PyData.keyHash P (Str.ofString "law"), .str (Str.ofString "law") 348, .ref 93⟩] 20, #[]⟩) ::
  (nat_lit 6, ⟨.type "dict", none, .dict #[] 0, #[]⟩) ::
  (nat_lit 22, ⟨.type "set", none, .set #[(65024, .int 65024 205), (65025, .int 65025 206), (65026, .int 65026 207), (65027, .int 65027 208), (65028, .int 65028 209), (65029, .int 65029 210), (6150, .int 6150 191), (65030, .int 65030 211), (65031, .int 65031 212), (65032, .int 65032 213), (65033, .int 65033 214), (6155, .int 6155 192), (6156, .int 6156 193), (6157, .int 6157 194), (8203, .int 8203 195), (8204, .int 8204 196), (8205, .int 8205 197), (65034, .int 65034 215), (65035, .int 65035 216), (65036, .int 65036 217), (65037, .int 65037 218), (65038, .int 65038 219), (65039, .int 65039 220), (173, .int 173 189), (847, .int 847 190), (8288, .int 8288 198), (65279, .int 65279 199)] 29 (SetTable.mk 127 #[0, 1, 2, 3, 4, 5, 6, 7, 8, 9, 10, 11, 12, 13, 14, 15, 16, 17, 18, 19, 20, 21, 22, 45, 79, 96, 127] #[] 0 (!P.followText "set-order") 2 true), #[]⟩) ::
  (nat_lit 26, ⟨.type "tuple", none, .seq #[] 0, #[]⟩) ::
  (nat_lit 28, ⟨.type "tuple", none, .seq #[.str (Str.ofString "code") 252] 0, #[]⟩) ::
  (nat_lit 29, ⟨.type "tuple", none, .seq #[] 0, #[]⟩) ::
  (nat_lit 31, ⟨.type "code", none, .fields #[.str (Str.ofString "in_table_b1") 249, .str (Str.ofString "in_table_b1") 250, .str (Str.ofString "/claim/cut.py") 251, .int 3 0, .int 1 0, .int 0 0, .int 0 0, .int 3 0, .ref 26, .bool true, .int 181 0, .ref 27, .none, .ref 28, .ref 29, .ref 30, .int 253 0, .int 3 0, .str (Str.ofString "/claim/cut.py") 254], #[]⟩) ::
  (nat_lit 32, fn32) ::
  (nat_lit 33, ⟨.type "tuple", none, .seq #[] 0, #[]⟩) ::
  (nat_lit 35, ⟨.type "tuple", none, .seq #[.str (Str.ofString "code") 259, .str (Str.ofString "c") 260] 0, #[]⟩) ::
  (nat_lit 36, ⟨.type "tuple", none, .seq #[] 0, #[]⟩) ::
  (nat_lit 38, ⟨.type "code", none, .fields #[.str (Str.ofString "in_table_c4") 256, .str (Str.ofString "in_table_c4") 257, .str (Str.ofString "/claim/cut.py") 258, .int 5 0, .int 1 0, .int 0 0, .int 0 0, .int 3 0, .ref 33, .bool true, .int 181 0, .ref 34, .none, .ref 35, .ref 36, .ref 37, .int 261 0, .int 5 0, .str (Str.ofString "/claim/cut.py") 262], #[]⟩) ::
  (nat_lit 39, fn39) ::
  (nat_lit 40, ⟨.type "tuple", none, .seq #[] 0, #[]⟩) ::
  (nat_lit 42, ⟨.type "tuple", none, .seq #[.str (Str.ofString "a") 269] 0, #[]⟩) ::
  (nat_lit 43, ⟨.type "tuple", none, .seq #[] 0, #[]⟩) ::
  (nat_lit 45, ⟨.type "code", none, .fields #[.str (Str.ofString "not_") 266, .str (Str.ofString "not_") 267, .str (Str.ofString "/claim/cut.py") 268, .int 13 0, .int 1 0, .int 0 0, .int 0 0, .int 3 0, .ref 40, .bool true, .int 181 0, .ref 41, .none, .ref 42, .ref 43, .ref 44, .int 270 0, .int 13 0, .str (Str.ofString "/claim/cut.py") 271], #[]⟩) ::
  (nat_lit 46, fn46) ::
  (nat_lit 47, ⟨.type "tuple", none, .seq #[] 0, #[]⟩) ::
  (nat_lit 49, ⟨.type "tuple", none, .seq #[.str (Str.ofString "a") 276, .str (Str.ofString "b") 277] 0, #[]⟩) ::
  (nat_lit 50, ⟨.type "tuple", none, .seq #[] 0, #[]⟩) ::
  (nat_lit 52, ⟨.type "code", none, .fields #[.str (Str.ofString "contains") 273, .str (Str.ofString "contains") 274, .str (Str.ofString "/claim/cut.py") 275, .int 15 0, .int 2 0, .int 0 0, .int 0 0, .int 3 0, .ref 47, .bool true, .int 181 0, .ref 48, .none, .ref 49, .ref 50, .ref 51, .int 278 0, .int 15 0, .str (Str.ofString "/claim/cut.py") 279], #[]⟩) ::
  (nat_lit 53, fn53) ::
  (nat_lit 54, ⟨.type "tuple", none, .seq #[] 0, #[]⟩) ::
  (nat_lit 56, ⟨.type "tuple", none, .seq #[.str (Str.ofString "a") 284, .str (Str.ofString "b") 285] 0, #[]⟩) ::
  (nat_lit 57, ⟨.type "tuple", none, .seq #[] 0, #[]⟩) ::
  (nat_lit 59, ⟨.type "code", none, .fields #[.str (Str.ofString "ior") 281, .str (Str.ofString "ior") 282, .str (Str.ofString "/claim/cut.py") 283, .int 17 0, .int 2 0, .int 0 0, .int 0 0, .int 3 0, .ref 54, .bool true, .int 181 0, .ref 55, .none, .ref 56, .ref 57, .ref 58, .int 286 0, .int 17 0, .str (Str.ofString "/claim/cut.py") 287], #[]⟩) ::
  (nat_lit 60, fn60) ::
  (nat_lit 61, ⟨.type "tuple", none, .seq #[] 0, #[]⟩) ::
  (nat_lit 63, ⟨.type "tuple", none, .seq #[.str (Str.ofString "number") 294, .str (Str.ofString "which") 295, .str (Str.ofString "place") 296] 0, #[]⟩) ::
  (nat_lit 64, ⟨.type "tuple", none, .seq #[] 0, #[]⟩) ::
  (nat_lit 66, ⟨.type "code", none, .fields #[.str (Str.ofString "_law_sign") 291, .str (Str.ofString "_law_sign") 292, .str (Str.ofString "/claim/cut.py") 293, .int 21 0, .int 1 0, .int 0 0, .int 0 0, .int 3 0, .ref 61, .bool true, .int 181 0, .ref 62, .none, .ref 63, .ref 64, .ref 65, .int 297 0, .int 21 0, .str (Str.ofString "/claim/cut.py") 298], #[]⟩) ::
  (nat_lit 67, fn67) ::
  (nat_lit 68, ⟨.type "tuple", none, .seq #[] 0, #[]⟩) ::
  (nat_lit 70, ⟨.type "tuple", none, .seq #[.str (Str.ofString "numbers") 303, .str (Str.ofString "text") 304, .str (Str.ofString "early") 305, .str (Str.ofString "late") 306, .str (Str.ofString "number") 307, .str (Str.ofString "sign") 308] 0, #[]⟩) ::
  (nat_lit 71, ⟨.type "tuple", none, .seq #[] 0, #[]⟩) ::
  (nat_lit 73, ⟨.type "code", none, .fields #[.str (Str.ofString "_law_settled") 300, .str (Str.ofString "_law_settled") 301, .str (Str.ofString "/claim/cut.py") 302, .int 34 0, .int 1 0, .int 0 0, .int 0 0, .int 3 0, .ref 68, .bool true, .int 181 0, .ref 69, .none, .ref 70, .ref 71, .ref 72, .int 309 0, .int 34 0, .str (Str.ofString "/claim/cut.py") 310], #[]⟩) ::
  (nat_lit 74, fn74) ::
  (nat_lit 75, ⟨.type "tuple", none, .seq #[] 0, #[]⟩) ::
  (nat_lit 77, ⟨.type "tuple", none, .seq #[.str (Str.ofString "numbers") 315, .str (Str.ofString "begin") 316, .str (Str.ofString "pairs") 317, .str (Str.ofString "ranks") 318, .str (Str.ofString "under") 319, .str (Str.ofString "j") 320, .str (Str.ofString "ahead") 321, .str (Str.ofString "i") 322, .str (Str.ofString "over") 323, .str (Str.ofString "k") 324] 0, #[]⟩) ::
  (nat_lit 78, ⟨.type "tuple", none, .seq #[] 0, #[]⟩) ::
  (nat_lit 80, ⟨.type "code", none, .fields #[.str (Str.ofString "_law_told") 312, .str (Str.ofString "_law_told") 313, .str (Str.ofString "/claim/cut.py") 314, .int 45 0, .int 1 0, .int 0 0, .int 0 0, .int 3 0, .ref 75, .bool true, .int 181 0, .ref 76, .none, .ref 77, .ref 78, .ref 79, .int 325 0, .int 45 0, .str (Str.ofString "/claim/cut.py") 326], #[]⟩) ::
  (nat_lit 81, fn81) ::
  (nat_lit 82, ⟨.type "tuple", none, .seq #[] 0, #[]⟩) ::
  (nat_lit 84, ⟨.type "tuple", none, .seq #[.str (Str.ofString "text") 331, .str (Str.ofString "ways") 332, .str (Str.ofString "done") 333, .str (Str.ofString "far") 334, .str (Str.ofString "later") 335, .str (Str.ofString "row") 336, .str (Str.ofString "sums") 337, .str (Str.ofString "k") 338, .str (Str.ofString "other") 339] 0, #[]⟩) ::
  (nat_lit 85, ⟨.type "tuple", none, .seq #[] 0, #[]⟩) ::
  (nat_lit 87, ⟨.type "code", none, .fields #[.str (Str.ofString "_law_exchanged") 328, .str (Str.ofString "_law_exchanged") 329, .str (Str.ofString "/claim/cut.py") 330, .int 62 0, .int 1 0, .int 0 0, .int 0 0, .int 3 0, .ref 82, .bool true, .int 181 0, .ref 83, .none, .ref 84, .ref 85, .ref 86, .int 340 0, .int 62 0, .str (Str.ofString "/claim/cut.py") 341], #[]⟩) ::
  (nat_lit 88, fn88) ::
  (nat_lit 89, ⟨.type "tuple", none, .seq #[] 0, #[]⟩) ::
  (nat_lit 92, ⟨.type "code", none, .fields #[.str (Str.ofString "law") 343, .str (Str.ofString "law") 344, .str (Str.ofString "/claim/cut.py") 345, .int 78 0, .int 1 0, .int 0 0, .int 0 0, .int 3 0, .ref 89, .bool true, .int 181 0, .ref 90, .none, .none, .none, .ref 91, .int 346 0, .int 78 0, .str (Str.ofString "/claim/cut.py") 347], #[]⟩) ::
  (nat_lit 93, fn93) :: []
end Mine
end
section
open PySem PySem.W PyProof.Rows PySem.Calls
namespace Mine
abbrev prg : Program := PySem.Challenge.rw_wn0001_01.row.prog
/-- the part of the text whose facts the walk uses -/
def q0 : Program := { PySem.Challenge.pw_wn0001_01 with main := { PySem.Challenge.pw_wn0001_01.main with body := [stmtAt 1, stmtAt 2, stmtAt 3, stmtAt 5, stmtAt 6, stmtAt 7, stmtAt 9, stmtAt 10, stmtAt 11, stmtAt 12, stmtAt 13] } }
def heapAs : List Addr := [2, 3, 6, 22, 26, 28, 29, 31, 32, 33, 35, 36, 38, 39, 40, 42, 43, 45, 46, 47, 49, 50, 52, 53, 54, 56, 57, 59, 60, 61, 63, 64, 66, 67, 68, 70, 71, 73, 74, 75, 77, 78, 80, 81, 82, 84, 85, 87, 88, 89, 92, 93]
theorem heapAs_eq (P : Params) : heapAs = (heapK P).map (·.1) := by kernel_rfl
def hook : Hook := kHook heapK heapAs heapAs_eq
def XtM (s : Shared) : Bool := xlAt q0 [] s && recOk PySem.Challenge.rw_wn0001_01.row.records s
/-- openEnds, the library's functions taken by the library's own fast twins -/
noncomputable abbrev topQ (w : World) : Option Shared :=
  ((Fast.tw10274390034422433532 Fast.tw14364793385576792824 (opening prg) w 3000 (start (opening prg)).1 (start (opening prg)).2).bind (Fast.tw14289696077712309145 prg)).bind (fun s₀ =>
    match s₀.heap.isNs mainGlobals && s₀.gens.size == 0 with
    | true => (Fast.tw14082659384304107361 Fast.tw14364793385576792824 prg w s₀.heap.objs.size (s₀.heap.nsMap mainGlobals "__annotations__") 3000 s₀ (topStub prg)).bind fun s₁ =>
      match staticsOk (importedModules prg.main.body) s₀.heap s₁.heap && namesBound prg s₁.heap && gensDone s₁ && laidKept s₀.heap s₁.heap with
      | true => some s₁
      | false => none
    | false => none)
theorem topQ_eq (w : World) : openEnds treeTable prg w 3000 = topQ w := by
  unfold openEnds fencedOpening topFrom
  rw [Fast.te10274390034422433532, Fast.te14364793385576792824, Fast.te14289696077712309145, Fast.te14082659384304107361]
  rfl
abbrev LeftAt (w : World) : Prop :=
  (topQ w).map (fun s => (Fast.tw4187177175401517315 q0 [Str.ofString "b1_set"] (importedModules prg.main.body) XtM true s, hook.obs s)) = some (openGood q0 [Str.ofString "b1_set"], hook.val w)
abbrev wAt (w : World) (a b : Bool) : World := (w.withFollow "set-order" a).withFollow "special-get-raises" b
theorem left_ff (w : World) : LeftAt (wAt w false false) := by kernel_rfl
theorem left_ft (w : World) : LeftAt (wAt w false true) := by kernel_rfl
theorem left_tf (w : World) : LeftAt (wAt w true false) := by kernel_rfl
theorem left_tt (w : World) : LeftAt (wAt w true true) := by kernel_rfl
theorem left_all (w : World) : LeftAt w := by
  have h : ∀ a b, LeftAt (wAt w a b) := fun a b => by
    cases a <;> cases b
    · exact left_ff w
    · exact left_ft w
    · exact left_tf w
    · exact left_tt w
  have e := h (w.params.followText "set-order") (w.params.followText "special-get-raises")
  unfold wAt at e
  rw [World.withFollow_self, World.withFollow_self] at e
  exact e
theorem left_ok : LeftO prg q0 [Str.ofString "b1_set"] XtM hook.obs hook.val 3000 := fun w => by
  rw [topQ_eq, Fast.te4187177175401517315]
  exact left_all w
end Mine
end
section
open PySem PySem.W PyProof.Rows PySem.Calls
namespace Mine
abbrev looseM : List Str := looseW q0 [Str.ofString "b1_set"]
/-- the ints of b1_set, in the set's own order, with the marks they bear -/
def b1L : List (Int × Nat) := [(65024, 205), (65025, 206), (65026, 207), (65027, 208), (65028, 209), (65029, 210), (6150, 191), (65030, 211), (65031, 212), (65032, 213), (65033, 214), (6155, 192), (6156, 193), (6157, 194), (8203, 195), (8204, 196), (8205, 197), (65034, 215), (65035, 216), (65036, 217), (65037, 218), (65038, 219), (65039, 220), (173, 189), (847, 190), (8288, 198), (65279, 199)]
def b1S : List Int := b1L.map (·.1)
def isB1 (c : Nat) : Bool := b1S.contains (c : Int)
def isC4 (c : Nat) : Bool := decide (64976 ≤ c ∧ c < 65008) || (decide (65008 ≤ c) && (c % 65536 == 65534 || c % 65536 == 65535))
theorem b1_set {prog : Program} {w : World} {h : Heap} (X : (heapK w.params).In h) : h.SetOf (PySem.intKind prog w) 22 (fun k => b1S.contains k) 27 := by
  refine ⟨_, _, _, _, X 22 _ rfl, ⟨rfl, rfl, rfl⟩, rfl, ?_, ?_, ?_, rfl, rfl⟩
  · show ElemsOf _ (b1L.map fun p => (p.1, Value.int p.1 p.2))
    intro e he
    obtain ⟨p, hp, rfl⟩ := List.mem_map.mp he
    have hh : ∀ p ∈ b1L, p.1 = hashInt p.1 := by decide +kernel
    exact ⟨⟨p.1, PySem.intKind_is _ _ _ _, hh p hp⟩, rfl⟩
  · intro k
    show b1S.contains k = true ↔ ∃ e ∈ (b1L.map fun p => (p.1, Value.int p.1 p.2)), _
    rw [List.contains_iff_mem]
    constructor
    · intro hk
      obtain ⟨p, hp, rfl⟩ := List.mem_map.mp hk
      exact ⟨_, List.mem_map.mpr ⟨p, hp, rfl⟩, PySem.intKind_is _ _ _ _⟩
    · rintro ⟨e, he, hk⟩
      obtain ⟨p, hp, rfl⟩ := List.mem_map.mp he
      have : k = p.1 := (PySem.intKind prog w).inj _ _ _ hk (PySem.intKind_is _ _ _ _)
      exact List.mem_map.mpr ⟨p, hp, this.symm⟩
  · decide
def strangers : List Int := [64975, 65008, 65533, 65536, 131069, 131072, 1048573, 1048576, 1114109, 172, 174, 846, 848, 6149, 6151, 6154, 6158, 8202, 8206, 8287, 8289, 65023, 65040, 65278, 65280, 97]
def b1Rest : List Int := [173, 847, 6150, 6155, 6156, 6157, 8203, 8204, 8205, 8288, 65279]
/-- the sign's code -/
def signZ (n : Int) : Int :=
  if n.fmod 8 = 7 then strangers.getD ((n.fdiv 8).fmod 26).toNat 0
  else if n.fmod 2 = 1 then
    if (n.fdiv 8).fmod 27 < 16 then 65024 + (n.fdiv 8).fmod 27 else b1Rest.getD ((n.fdiv 8).fmod 27 - 16).toNat 0
  else if (n.fdiv 8).fmod 66 < 32 then 64976 + (n.fdiv 8).fmod 66
  else ((n.fdiv 8).fmod 66 - 32).fdiv 2 * 65536 + 65534 + ((n.fdiv 8).fmod 66).fmod 2
def signCp (n : Int) : Nat := (signZ n).toNat
def one (c : Nat) : Str := ⟨#[c]⟩
def signS (n : Int) : Str := one (signCp n)
theorem in_b1 {prog : Program} {w : World} {A : Around} {E : Value → Shared → Prop} {s : Shared} {k : Int} {t : Tok} {Q : Value → Shared → Prop} (X : (heapK w.params).In s.heap)
    (h : Q (.bool (b1S.contains k)) { s with toks := s.toks + 1 }) : wpAny (model prog w) A (compareOp .In (.int k t) (.ref 22)) Q E s :=
  wpAny_inSet_of (knd := PySem.intKind prog w) (PySem.intKind_is _ _ _ _) rfl (b1_set X) h
local macro_rules | `(tactic| walk_at "call builtin:chr") => `(tactic| (k_here; refine chr_of_range (kmn_any (lo := 0) (hi := 1114111) (by decide)).1 (kmn_any (lo := 0) (hi := 1114111) (by decide)).2 ?_))
local macro_rules | `(tactic| walk_at "compareOp In int ref") => `(tactic| (k_here; refine in_b1 (by k_in) ?_))
set_option maxHeartbeats 8000000 in
theorem c4_call (w : World) (mean : ExcName → Option Value) (mg mb : Str → Option Value) (news : CbLed) (c : Nat) (tk : Tok) :
    CbClaim PySem.Challenge.rw_wn0001_01.row.prog w (heapK w.params) q0 looseM mean mg mb 39 news [] (c < 1114112) [.str (one c) tk] (fun _ => .bool (isC4 c)) := by
  k_with_none
  k_fill
  dsimp only [CbClaim, CbLists, CbRet, one]
  intros
  rename_i hret
  refine wpAny_call ?_
  k_dflt cell_enter
  k_steps
  all_goals (refine cb_retB hret ?_ (by k_asm) (by first | k_asm | (refine cb_drop (by assumption) ?_; kcj_all)))
  · unfold isC4; simp; omega
  · unfold isC4; simp; omega
  · rw [bitAnd_m16]; unfold isC4
    rw [Bool.eq_iff_iff]
    simp only [List.any_cons, List.any_nil, Bool.or_false, Bool.or_eq_true, Bool.and_eq_true, beq_iff_eq, decide_eq_true_eq]
    omega
set_option maxHeartbeats 8000000 in
theorem b1_call (w : World) (mean : ExcName → Option Value) (mg mb : Str → Option Value) (news : CbLed) (c : Nat) (tk : Tok) :
    CbClaim PySem.Challenge.rw_wn0001_01.row.prog w (heapK w.params) q0 looseM mean mg mb 32 news [] (c < 1114112) [.str (one c) tk] (fun _ => .bool (isB1 c)) := by
  k_with_none
  k_fill
  dsimp only [CbClaim, CbLists, CbRet, one]
  intros
  rename_i hret
  refine wpAny_call ?_
  k_dflt cell_enter
  k_steps
  all_goals (refine cb_retB hret ?_ (by k_asm) (by first | k_asm | (refine cb_drop (by assumption) ?_; kcj_all)))
  all_goals rfl
set_option maxHeartbeats 8000000 in
theorem sign_call (w : World) (mean : ExcName → Option Value) (mg mb : Str → Option Value) (news : CbLed) (n : Int) (tk : Tok) :
    CbClaim PySem.Challenge.rw_wn0001_01.row.prog w (heapK w.params) q0 looseM mean mg mb 67 news [] (0 ≤ n ∧ n < 1000000) [.int n tk] (fun t => .str (signS n) t) := by
  k_with_none
  k_fill
  dsimp only [CbClaim, CbLists, CbRet, signS, one]
  intros
  rename_i hret
  refine wpAny_call ?_
  k_dflt cell_enter
  k_steps
  all_goals (refine cb_retS hret ?_ (by k_asm) (by first | k_asm | (refine cb_drop (by assumption) ?_; kcj_all)))
  all_goals (unfold signCp signZ; simp only [strangers, b1Rest]; simp_all)
  all_goals rw [if_neg (by omega)]
end Mine
end
section
open PySem PySem.W PyProof.Rows PySem.Calls
namespace Mine
abbrev prgM : Program := PySem.Challenge.rw_wn0001_01.row.prog
section
variable {w : World} {mean : ExcName → Option Value} {mg mb : Str → Option Value} {news : CbLed} {dp un : Nat} {gd : Option (List Code)} {cn : Str} {cs : Scope} {a : Addr} {ccd : Value} {cl : List (Str × Addr)} {outer : List Env} {A₀ : Around}
  {base h₀ : Heap} {L : Addr} {m : Str → Option Value} {s : Shared} {Q E : Value → Shared → Prop}
theorem sign_use {n : Int} {tk : Tok} (B : Below A₀ base outer h₀) (F : Fr h₀ L s.heap m) (X : (heapK w.params).In h₀) (N : News h₀ L s.heap news) (T : Top q0 looseM mean mg mb h₀) (hk : cs.kind = .function) (hp : 0 ≤ n ∧ n < 1000000)
    (hd : dp + 1 < recursionLimit) (hu : un + 8 < cLine) (hr : ∀ (t : Tok) (h' : Heap) (tk' : Nat), Fr h₀ L h' m → News h₀ L h' news → (signS n).length = 1 → Q (.str (signS n) t) { s with heap := h', toks := tk' }) :
    wpAny (model PySem.Challenge.rw_wn0001_01.row.prog w) (ktrTop dp un gd cn cs L a ccd cl outer) (call (.ref 67) [.int n tk]) Q E s :=
  sign_call w mean mg mb news n tk dp un gd cn cs a ccd cl outer A₀ base h₀ L m s Q E B F X N T hk hp hd hu fun t h' tk' F' N' => hr t h' tk' F' N' rfl
theorem c4_use {c : Nat} {tk : Tok} (B : Below A₀ base outer h₀) (F : Fr h₀ L s.heap m) (X : (heapK w.params).In h₀) (N : News h₀ L s.heap news) (T : Top q0 looseM mean mg mb h₀) (hk : cs.kind = .function) (hp : c < 1114112)
    (hd : dp + 1 < recursionLimit) (hu : un + 8 < cLine) (hr : ∀ (t : Tok) (h' : Heap) (tk' : Nat), Fr h₀ L h' m → News h₀ L h' news → Q (.bool (isC4 c)) { s with heap := h', toks := tk' }) :
    wpAny (model PySem.Challenge.rw_wn0001_01.row.prog w) (ktrTop dp un gd cn cs L a ccd cl outer) (call (.ref 39) [.str (one c) tk]) Q E s :=
  c4_call w mean mg mb news c tk dp un gd cn cs a ccd cl outer A₀ base h₀ L m s Q E B F X N T hk hp hd hu hr
theorem b1_use {c : Nat} {tk : Tok} (B : Below A₀ base outer h₀) (F : Fr h₀ L s.heap m) (X : (heapK w.params).In h₀) (N : News h₀ L s.heap news) (T : Top q0 looseM mean mg mb h₀) (hk : cs.kind = .function) (hp : c < 1114112)
    (hd : dp + 1 < recursionLimit) (hu : un + 8 < cLine) (hr : ∀ (t : Tok) (h' : Heap) (tk' : Nat), Fr h₀ L h' m → News h₀ L h' news → Q (.bool (isB1 c)) { s with heap := h', toks := tk' }) :
    wpAny (model PySem.Challenge.rw_wn0001_01.row.prog w) (ktrTop dp un gd cn cs L a ccd cl outer) (call (.ref 32) [.str (one c) tk]) Q E s :=
  b1_call w mean mg mb news c tk dp un gd cn cs a ccd cl outer A₀ base h₀ L m s Q E B F X N T hk hp hd hu hr
end
/-- a call by its contract's name: every contract below has these premises -/
local macro_rules | `(tactic| walk_at "call ref") => `(tactic| (k_here; (with_reducible show wpAny _ _ (call (Value.ref 67) [Value.int _ _]) _ _ _); k_dflt (refine' sign_use ?k1 ?k2 ?k3 ?k4 ?k5 ?k6 ?k7 ?k8 ?k9 ?_; (case k1 => k_asm); (case k2 => k_asm); (case k3 => k_asm); (case k4 => k_asm); (case k5 => k_asm); (case k6 => first | exact rfl | assumption); (case k7 => first | assumption | k_extra "sgn" | (constructor <;> omega)); (case k8 => ktr_room); (case k9 => ktr_units)); intro t9 h9 tk9 F9 N9 hl9; (try dsimp only)))
/-- a contract: the def at f, called upon vs under the ledger, with room for k frames, goes on as C says -/
abbrev Claim (k : Nat) (w : World) (mean : ExcName → Option Value) (mg mb : Str → Option Value) (f : Addr) (news : CbLed) (vs : List Value) (C : Heap → Addr → (Str → Option Value) → Shared → (Value → Shared → Prop) → Prop) : Prop :=
  ∀ (dp un : Nat) (gd : Option (List Code)) (cn : Str) (cs : Scope) (a : Addr) (ccd : Value) (cl : List (Str × Addr)) (outer : List Env) (A₀ : Around) (base h₀ : Heap) (L : Addr) (m : Str → Option Value) (s : Shared) (Q E : Value → Shared → Prop),
    Below A₀ base outer h₀ → Fr h₀ L s.heap m → (heapK w.params).In h₀ → News h₀ L s.heap news → Top q0 looseM mean mg mb h₀ → cs.kind = .function → dp + k < recursionLimit → un + 8 * k < cLine → C h₀ L m s Q →
      wpAny (model PySem.Challenge.rw_wn0001_01.row.prog w) (ktrTop dp un gd cn cs L a ccd cl outer) (call (.ref f) vs) Q E s
/-- a turn of _law_settled's loop -/
def setTurn (p : Str × Str × Str) (n : Int) : Str × Str × Str :=
  if n.fmod 8 = 7 then (p.1 ++ p.2.1 ++ p.2.2 ++ signS n, Str.ofString "", Str.ofString "")
  else if n.fmod 2 = 1 then (p.1, p.2.1 ++ signS n, p.2.2) else (p.1, p.2.1, p.2.2 ++ signS n)
/-- where the loop of _law_settled stands behind some numbers -/
def setSt (ns : List Int) : Str × Str × Str := ns.foldl setTurn (Str.ofString "", Str.ofString "", Str.ofString "")
def settledS (ns : List Int) : Str := (setSt ns).1 ++ (setSt ns).2.1 ++ (setSt ns).2.2
theorem setSt_snoc (pre : List Int) (n : Int) : setSt (pre ++ [n]) = setTurn (setSt pre) n := by unfold setSt; rw [List.foldl_append]; rfl
theorem len_app (a b : Str) : (a ++ b).length = a.length + b.length := by
  show (a.cps ++ b.cps).size = _
  rw [Array.size_append]; rfl
theorem len_signS (n : Int) : (signS n).length = 1 := rfl
theorem len_nil : (Str.ofString "").length = 0 := rfl
theorem settled_end {a b c : Str} {ns : List Int} (h : (a, b, c) = setSt ns) : a ++ b ++ c = settledS ns := by unfold settledS; rw [← h]
theorem set_start : (Str.ofString "", Str.ofString "", Str.ofString "") = setSt [] ∧ (Str.ofString "").length + (Str.ofString "").length + (Str.ofString "").length = ([] : List Int).length := ⟨rfl, rfl⟩
section
variable {a b c : Str} {pre : List Int} {n : Int}
theorem set_turn7 (h : (a, b, c) = setSt pre) (hl : a.length + b.length + c.length = pre.length) (h7 : n.fmod 8 = 7) :
    (a ++ b ++ c ++ signS n, Str.ofString "", Str.ofString "") = setSt (pre ++ [n]) ∧ (a ++ b ++ c ++ signS n).length + (Str.ofString "").length + (Str.ofString "").length = (pre ++ [n]).length := by
  refine ⟨?_, ?_⟩
  · rw [setSt_snoc, ← h]; unfold setTurn; rw [if_pos h7]
  · simp only [len_app, len_signS, len_nil, List.length_append, List.length_cons, List.length_nil]; omega
theorem set_turnE (h : (a, b, c) = setSt pre) (hl : a.length + b.length + c.length = pre.length) (h7 : ¬ n.fmod 8 = 7) (h1 : n.fmod 2 = 1) :
    (a, b ++ signS n, c) = setSt (pre ++ [n]) ∧ a.length + (b ++ signS n).length + c.length = (pre ++ [n]).length := by
  refine ⟨?_, ?_⟩
  · rw [setSt_snoc, ← h]; unfold setTurn; rw [if_neg h7, if_pos h1]
  · simp only [len_app, len_signS, List.length_append, List.length_cons, List.length_nil]; omega
theorem set_turnL (h : (a, b, c) = setSt pre) (hl : a.length + b.length + c.length = pre.length) (h7 : ¬ n.fmod 8 = 7) (h1 : ¬ n.fmod 2 = 1) :
    (a, b, c ++ signS n) = setSt (pre ++ [n]) ∧ a.length + b.length + (c ++ signS n).length = (pre ++ [n]).length := by
  refine ⟨?_, ?_⟩
  · rw [setSt_snoc, ← h]; unfold setTurn; rw [if_neg h7, if_neg h1]
  · simp only [len_app, len_signS, List.length_append, List.length_cons, List.length_nil]; omega
end
set_option maxHeartbeats 8000000 in
theorem settled_call (w : World) (mean : ExcName → Option Value) (mg mb : Str → Option Value) (l : Addr) (lg : CbLed) (vs : List Value) (c : Nat) (ns : List Int) (hi : IntsAre vs ns) (hn : ∀ n ∈ ns, 0 ≤ n ∧ n < 1000000) (hl : ns.length = 7) :
    Claim 2 w mean mg mb 74 ((l, listOf vs.toArray c) :: lg) [.ref l] (fun h₀ L m s Q => ∀ (t : Tok) (h' : Heap) (tk' : Nat), Fr h₀ L h' m → News h₀ L h' ((l, listOf vs.toArray c) :: lg) → Q (.str (settledS ns) t) { s with heap := h', toks := tk' }) := by
  unfold Claim
  k_with_none
  k_fill
  intros
  rename_i hret
  refine wpAny_call ?_
  k_dflt cell_enter
  k_with "pyIter ref" => k_state (fun pre a b c => (a, b, c) = setSt pre ∧ (a.length + b.length + c.length = pre.length)) "text" "early" "late"
  k_with "sgn" => exact hn _ (by rw [kEq]; simp)
  k_with "state" => first | exact set_start | exact set_turn7 (by assumption) (by assumption) (by assumption) | exact set_turnE (by assumption) (by assumption) (by assumption) (by assumption) | exact set_turnL (by assumption) (by assumption) (by assumption) (by assumption)
  k_steps
  all_goals refine cb_retS hret (settled_end (by assumption)) (by k_asm) (by first | k_asm | (refine cb_drop (by assumption) ?_; kcj_all))
end Mine
end
section
open PySem PySem.W PyProof.Rows PySem.Calls
namespace Mine
/-- a turn of _law_told's inner loop; of the outer one; of the last one -/
def tIn (ns : List Int) (j : Int) (p : Int × Int × Int × Int) (i : Int) : Int × Int × Int × Int :=
  if (ns.getD i.toNat 0).fmod 2 = 0 then (p.1 + 1, p.2.1 + p.2.2.1, p.2.2.1 + 1, p.2.2.2 * (4096 ^ (j - i).toNat - 1)) else p
def tOut (ns : List Int) (p : Int × Int × Int × Int) (j : Int) : Int × Int × Int × Int :=
  if (ns.getD j.toNat 0).fmod 8 = 7 then (j + 1, p.2.1, p.2.2.1, p.2.2.2)
  else if (ns.getD j.toNat 0).fmod 2 = 1 then
    let q := (rangeKs p.1 (j - p.1).toNat).foldl (tIn ns j) (p.2.1, p.2.2.1, 0, p.2.2.2)
    (p.1, q.1, q.2.1, q.2.2.2)
  else p
def tAll (ns : List Int) (js : List Int) : Int × Int × Int × Int := js.foldl (tOut ns) (0, 0, 0, 1)
def overs (r : Int) (ks : List Int) : Int := ks.foldl (fun o k => o * (4096 ^ k.toNat - 1)) (4096 ^ r.toNat)
theorem tAll_snoc (ns pre : List Int) (k : Int) : tAll ns (pre ++ [k]) = tOut ns (tAll ns pre) k := by unfold tAll; rw [List.foldl_append]; rfl
theorem overs_snoc (r : Int) (pre : List Int) (k : Int) : overs r (pre ++ [k]) = overs r pre * (4096 ^ k.toNat - 1) := by unfold overs; rw [List.foldl_append]; rfl
theorem pw_pos (n : Nat) : (1 : Int) ≤ 4096 ^ n := by
  have : (0 : Int) < 4096 ^ n := Int.pow_pos (by decide)
  omega
theorem pw_le {m n : Nat} (h : m ≤ n) : (4096 : Int) ^ m ≤ 4096 ^ n := by
  obtain ⟨k, rfl⟩ := Nat.exists_eq_add_of_le h
  rw [Int.pow_add]
  have h1 := pw_pos m
  have h2 := pw_pos k
  calc (4096 : Int) ^ m = 4096 ^ m * 1 := by rw [Int.mul_one]
    _ ≤ 4096 ^ m * 4096 ^ k := Int.mul_le_mul_of_nonneg_left h2 (by omega)
theorem pw_mul {a b : Int} {m n : Nat} (ha : 0 ≤ a) (ha' : a ≤ 4096 ^ m) (hb : 0 ≤ b) (hb' : b ≤ 4096 ^ n) : 0 ≤ a * b ∧ a * b ≤ 4096 ^ (m + n) := by
  refine ⟨Int.mul_nonneg ha hb, ?_⟩
  rw [Int.pow_add]
  exact Int.mul_le_mul ha' hb' hb (by have := pw_pos m; omega)
theorem bits_pw {a : Int} {n : Nat} (h0 : 0 ≤ a) (h : a ≤ 4096 ^ n) (hn : n ≤ 80000) : Builtin.Int.intBits a ≤ 2 ^ 20 := by
  have h1 : a.natAbs < 2 ^ (12 * n + 1) := by
    have h2 : a.natAbs ≤ 4096 ^ n := by
      have : (a.natAbs : Int) ≤ 4096 ^ n := by rw [Int.natAbs_of_nonneg h0]; exact h
      have e : ((4096 ^ n : Nat) : Int) = 4096 ^ n := by simp
      rw [← e] at this
      exact Int.ofNat_le.mp this
    have h3 : (4096 : Nat) ^ n = 2 ^ (12 * n) := by rw [Nat.pow_mul]
    have h4 : (2 : Nat) ^ (12 * n) < 2 ^ (12 * n + 1) := Nat.pow_lt_pow_right (by decide) (by omega)
    omega
  have h5 := intBits_le h1
  omega
theorem mul_ok {a b : Int} {m n : Nat} (ha : 0 ≤ a) (ha' : a ≤ 4096 ^ m) (hb : 0 ≤ b) (hb' : b ≤ 4096 ^ n) (hm : m ≤ 80000) (hn : n ≤ 80000) : IntMulOk a b :=
  IntMulOk.of_bits (bits_pw ha ha' hm) (bits_pw hb hb' hn)
theorem pw1 {e : Int} {n : Nat} (h : e ≤ n) : (0 : Int) ≤ 4096 ^ e.toNat - 1 ∧ (4096 : Int) ^ e.toNat - 1 ≤ 4096 ^ n := by
  have h1 := pw_pos e.toNat
  have h2 : (4096 : Int) ^ e.toNat ≤ 4096 ^ n := pw_le (by omega)
  omega
abbrev TP (ns pre : List Int) (b p r u : Int) : Prop := (b, p, r, u) = tAll ns pre ∧ 0 ≤ b ∧ b ≤ pre.length ∧ 0 ≤ p ∧ p ≤ 7 * pre.length ∧ 0 ≤ r ∧ r ≤ 49 * pre.length ∧ 0 ≤ u ∧ u ≤ 4096 ^ (7 * p.toNat)
abbrev TI (ns : List Int) (j p₀ r₀ u₀ : Int) (pre : List Int) (p r a u : Int) : Prop := (p, r, a, u) = pre.foldl (tIn ns j) (p₀, r₀, 0, u₀) ∧ 0 ≤ a ∧ a ≤ pre.length ∧ p₀ ≤ p ∧ p ≤ p₀ + pre.length ∧ r₀ ≤ r ∧ r ≤ r₀ + 7 * pre.length ∧ 0 ≤ u ∧ u ≤ 4096 ^ (7 * p.toNat)
abbrev TO (r : Int) (pre : List Int) (o : Int) : Prop := o = overs r pre ∧ 0 ≤ o ∧ o ≤ 4096 ^ (r.toNat + 50 * pre.length)
section
variable {ns pre : List Int} {b p r u k j i a p₀ r₀ u₀ o : Int}
theorem t_start : TP ns [] 0 0 0 1 := ⟨rfl, by decide, by decide, by decide, by decide, by decide, by decide, by decide, by decide⟩
theorem t_turn7 (hk : k = 0 + (pre.length : Int)) (h : (b, p, r, u) = tAll ns pre) (h1 : 0 ≤ b) (h2 : b ≤ pre.length) (h3 : 0 ≤ p) (h4 : p ≤ 7 * pre.length) (h5 : 0 ≤ r) (h6 : r ≤ 49 * pre.length) (h7 : 0 ≤ u) (h8 : u ≤ 4096 ^ (7 * p.toNat))
    (e : (ns.getD k.toNat 0).fmod 8 = 7) : TP ns (pre ++ [k]) (k + 1) p r u := by
  refine ⟨?_, ?_, ?_, h3, ?_, h5, ?_, h7, h8⟩
  · rw [tAll_snoc, ← h]; unfold tOut; rw [if_pos e]
  all_goals ((try simp only [List.length_append, List.length_cons, List.length_nil]); omega)
theorem t_turnL (hk : k = 0 + (pre.length : Int)) (h : (b, p, r, u) = tAll ns pre) (h1 : 0 ≤ b) (h2 : b ≤ pre.length) (h3 : 0 ≤ p) (h4 : p ≤ 7 * pre.length) (h5 : 0 ≤ r) (h6 : r ≤ 49 * pre.length) (h7 : 0 ≤ u) (h8 : u ≤ 4096 ^ (7 * p.toNat))
    (e : (ns.getD k.toNat 0).fmod 8 ≠ 7) (e1 : (ns.getD k.toNat 0).fmod 2 ≠ 1) : TP ns (pre ++ [k]) b p r u := by
  refine ⟨?_, h1, ?_, h3, ?_, h5, ?_, h7, h8⟩
  · rw [tAll_snoc, ← h]; unfold tOut; rw [if_neg e, if_neg e1]
  all_goals (simp only [List.length_append, List.length_cons, List.length_nil]; omega)
theorem t_turnE {p' r' a' u' : Int} {n : Nat} (hk : k = 0 + (pre.length : Int)) (hn : n = (k - b).toNat) (hk7 : pre.length < 7) (h : (b, p, r, u) = tAll ns pre) (h1 : 0 ≤ b) (h2 : b ≤ pre.length) (h3 : 0 ≤ p) (h4 : p ≤ 7 * pre.length) (h5 : 0 ≤ r) (h6 : r ≤ 49 * pre.length)
    (e : (ns.getD k.toNat 0).fmod 8 ≠ 7) (e1 : (ns.getD k.toNat 0).fmod 2 = 1) (H : TI ns k p r u (rangeKs b n) p' r' a' u') : TP ns (pre ++ [k]) b p' r' u' := by
  obtain ⟨q1, q2, q3, q4, q5, q6, q7, q8, q9⟩ := H
  rw [rangeKs_length] at q3 q5 q7
  refine ⟨?_, h1, ?_, by omega, ?_, by omega, ?_, q8, q9⟩
  · rw [tAll_snoc, ← h]; unfold tOut; rw [if_neg e, if_pos e1]
    show _ = (b, (List.foldl (tIn ns k) (p, r, 0, u) (rangeKs b (k - b).toNat)).1, (List.foldl (tIn ns k) (p, r, 0, u) (rangeKs b (k - b).toNat)).2.1, (List.foldl (tIn ns k) (p, r, 0, u) (rangeKs b (k - b).toNat)).2.2.2)
    rw [← hn, ← q1]
  all_goals (simp only [List.length_append, List.length_cons, List.length_nil]; omega)
theorem ti_start (h7 : 0 ≤ u) (h8 : u ≤ 4096 ^ (7 * p.toNat)) : TI ns j p r u [] p r 0 u := ⟨rfl, by decide, by decide, by omega, by simp, by omega, by simp, h7, h8⟩
theorem ti_turn (hi : i = b + (pre.length : Int)) (h0 : 0 ≤ b) (hj : pre.length < (j - b).toNat) (hj6 : j ≤ 6) (hp : 0 ≤ p₀) (q1 : (p, r, a, u) = pre.foldl (tIn ns j) (p₀, r₀, 0, u₀)) (q2 : 0 ≤ a) (q3 : a ≤ pre.length) (q4 : p₀ ≤ p) (q5 : p ≤ p₀ + pre.length)
    (q6 : r₀ ≤ r) (q7 : r ≤ r₀ + 7 * pre.length) (q8 : 0 ≤ u) (q9 : u ≤ 4096 ^ (7 * p.toNat)) (e : (ns.getD i.toNat 0).fmod 2 = 0) :
    TI ns j p₀ r₀ u₀ (pre ++ [i]) (p + 1) (r + a) (a + 1) (u * (4096 ^ (j - i).toNat - 1)) := by
  have hb := pw1 (e := j - i) (n := 7) (by omega)
  have hm := pw_mul q8 q9 hb.1 hb.2
  refine ⟨?_, ?_, ?_, ?_, ?_, ?_, ?_, hm.1, ?_⟩
  · rw [List.foldl_append, ← q1]; show _ = tIn ns j (p, r, a, u) i; unfold tIn; rw [if_pos e]
  all_goals first
    | (have e1 : 7 * (p + 1).toNat = 7 * p.toNat + 7 := by omega
       rw [e1]; exact hm.2)
    | ((try simp only [List.length_append, List.length_cons, List.length_nil]); omega)
theorem ti_pass (q1 : (p, r, a, u) = pre.foldl (tIn ns j) (p₀, r₀, 0, u₀)) (q2 : 0 ≤ a) (q3 : a ≤ pre.length) (q4 : p₀ ≤ p) (q5 : p ≤ p₀ + pre.length)
    (q6 : r₀ ≤ r) (q7 : r ≤ r₀ + 7 * pre.length) (q8 : 0 ≤ u) (q9 : u ≤ 4096 ^ (7 * p.toNat)) (e : (ns.getD i.toNat 0).fmod 2 ≠ 0) :
    TI ns j p₀ r₀ u₀ (pre ++ [i]) p r a u := by
  refine ⟨?_, q2, ?_, q4, ?_, q6, ?_, q8, q9⟩
  · rw [List.foldl_append, ← q1]; show _ = tIn ns j (p, r, a, u) i; unfold tIn; rw [if_neg e]
  all_goals (simp only [List.length_append, List.length_cons, List.length_nil]; omega)
theorem ti_mul (hi : i = b + (pre.length : Int)) (hj : pre.length < (j - b).toNat) (q8 : 0 ≤ u) (q9 : u ≤ 4096 ^ (7 * p.toNat)) (h0 : 0 ≤ b) (hj6 : j ≤ 6) (hp : p ≤ 100) : IntMulOk u (4096 ^ (j - i).toNat - 1) :=
  mul_ok q8 q9 (pw1 (n := 7) (by omega)).1 (pw1 (n := 7) (by omega)).2 (by omega) (by omega)
theorem to_start : TO r [] (4096 ^ r.toNat) := ⟨rfl, by have := pw_pos r.toNat; omega, by simp⟩
theorem to_turn (hk : k ≤ 50) (q1 : o = overs r pre) (q2 : 0 ≤ o) (q3 : o ≤ 4096 ^ (r.toNat + 50 * pre.length)) : TO r (pre ++ [k]) (o * (4096 ^ k.toNat - 1)) := by
  have hb := pw1 (e := k) (n := 50) (by omega)
  have hm := pw_mul q2 q3 hb.1 hb.2
  refine ⟨by rw [overs_snoc, q1], hm.1, ?_⟩
  have e1 : r.toNat + 50 * (pre ++ [k]).length = r.toNat + 50 * pre.length + 50 := by simp only [List.length_append, List.length_cons, List.length_nil]; omega
  rw [e1]; exact hm.2
theorem to_mul (q3 : o ≤ 4096 ^ (r.toNat + 50 * pre.length)) (q2 : 0 ≤ o) (hk : k ≤ 50) (hr : r ≤ 1000) (hp : pre.length ≤ 50) : IntMulOk o (4096 ^ k.toNat - 1) :=
  mul_ok q2 q3 (pw1 (n := 50) (by omega)).1 (pw1 (n := 50) (by omega)).2 (by omega) (by omega)
end
end Mine
end
section
open PySem PySem.W PyProof.Rows PySem.Calls
namespace Mine
/-- the walk, but it stops ahead of every loop -/
local macro_rules | `(tactic| k_steps) => `(tactic| repeat' (first | (k_unfold; (try dsimp only)) | ((fail_if_success (with_reducible show wpAny _ _ (pyIter _) _ _ _)); first | walk1 | (dsimp only; walk1) | (leave1; try dsimp only))))
local macro_rules | `(tactic| walk_at "InvEndN") => `(tactic| kst_close)
local macro_rules | `(tactic| walk_at "ite") => `(tactic| (k_here; first | with_reducible refine ite_tt ?_ | with_reducible refine ite_ff ?_ | (with_reducible refine split_ieq ?_ ?_ <;> intro _) | (with_reducible refine split_ine ?_ ?_ <;> intro _) | (refine split_dec ?_ ?_ <;> intro _)))
local macro_rules | `(tactic| walk_at "binaryOp Pow int int") => `(tactic| (k_here; refine pow_int_small (by omega) (by omega) (by decide) ?_; (try dsimp only)))
local macro_rules | `(tactic| walk_at "binaryOp Mult int int") => `(tactic| (k_here; refine PyProof.Rows.mul_int ?_ (by k_extra "mul"); (try dsimp only)))
/-- over, under of _law_told -/
def toldO (ns : List Int) : Int := overs (tAll ns (rangeKs 0 7)).2.2.1 (rangeKs 1 (tAll ns (rangeKs 0 7)).2.1.toNat)
def toldU (ns : List Int) : Int := (tAll ns (rangeKs 0 7)).2.2.2
theorem told_end {ns : List Int} {b p r u o : Int} (h : (b, p, r, u) = tAll ns (rangeKs 0 (7 - 0 : Int).toNat)) (ho : o = overs r (rangeKs 1 (p + 1 - 1).toNat)) : o = toldO ns ∧ u = toldU ns := by
  have e : p + 1 - 1 = p := by omega
  rw [e] at ho
  have h7 : (7 - 0 : Int).toNat = 7 := rfl
  rw [h7] at h
  unfold toldO toldU
  rw [← h]
  exact ⟨ho, rfl⟩
set_option maxHeartbeats 8000000 in
theorem told_call (w : World) (mean : ExcName → Option Value) (mg mb : Str → Option Value) (l : Addr) (lg : CbLed) (vs : List Value) (c : Nat) (ns : List Int) (hi : IntsAre vs ns) (hl : ns.length = 7) :
    Claim 2 w mean mg mb 81 ((l, listOf vs.toArray c) :: lg) [.ref l] (fun h₀ L m s Q => ∀ (D : Addr) (t u : Tok) (h' : Heap) (tk' : Nat), Fr h₀ L h' m → News h₀ L h' ((D, { cls := .type "tuple", data := .seq #[.int (toldO ns) t, .int (toldU ns) u] }) :: (l, listOf vs.toArray c) :: lg) → Q (.ref D) { s with heap := h', toks := tk' }) := by
  unfold Claim
  k_with_none
  k_fill
  intros
  rename_i hret
  refine wpAny_call ?_
  k_dflt cell_enter
  k_with_none
  k_with "state" => exact t_start
  k_steps
  k_state_short (fun pre b p r u => TP ns pre b p r u) "begin" "pairs" "ranks" "under"
  · k_with_none
    k_with "state" => first | exact t_turn7 kEq (by assumption) (by assumption) (by assumption) (by assumption) (by assumption) (by assumption) (by assumption) (by assumption) (by assumption) (by assumption) | exact t_turnL kEq (by assumption) (by assumption) (by assumption) (by assumption) (by assumption) (by assumption) (by assumption) (by assumption) (by assumption) (by assumption) (by assumption)
    k_steps
    k_with_none
    k_with "state" => exact ti_start (by assumption) (by assumption)
    k_state_given ["j", "begin", "pairs!", "ranks!", "under!"] (fun j b p₀ r₀ u₀ pre p r a u => TI ns j p₀ r₀ u₀ pre p r a u) "pairs" "ranks" "ahead" "under"
    · k_with_none
      k_with "mul" => exact ti_mul kEq kLt (by assumption) (by assumption) (by omega) (by omega) (by omega)
      k_with "state" => first | exact ti_turn kEq (by assumption) kLt (by omega) (by assumption) (by assumption) (by assumption) (by assumption) (by assumption) (by assumption) (by assumption) (by assumption) (by assumption) (by assumption) (by assumption) | exact ti_pass (by assumption) (by assumption) (by assumption) (by assumption) (by assumption) (by assumption) (by assumption) (by assumption) (by assumption) (by assumption)
      k_steps
    · k_with_none
      k_with "state" => exact t_turnE kEq rfl (by omega) (by assumption) (by assumption) (by assumption) (by assumption) (by assumption) (by assumption) (by assumption) (by assumption) (by assumption) ⟨by assumption, by assumption, by assumption, by assumption, by assumption, by assumption, by assumption, by assumption, by assumption⟩
      k_steps
  · have hrk : (rangeKs 0 (7 - 0 : Int).toNat).length = 7 := by rw [rangeKs_length]; rfl
    k_with_none
    k_with "state" => exact to_start
    k_steps
    k_state_given ["pairs", "ranks"] (fun p r pre o => TO r pre o) "over"
    · k_with_none
      k_with "mul" => exact to_mul (by assumption) (by assumption) (by omega) (by omega) (by omega)
      k_with "state" => exact to_turn (by omega) (by assumption) (by assumption) (by assumption)
      k_steps
    · k_with_none
      k_steps
      obtain ⟨e1, e2⟩ := told_end (by assumption) (by assumption)
      subst e1 e2
      exact hret _ _ _ _ _ (by k_asm) (by first | k_asm | (refine cb_drop (by assumption) ?_; kcj_all))
end Mine
end
section
open PySem PySem.W PyProof.Rows PySem.Calls
namespace Mine
/-- the body of _law_exchanged, and of its loops -/
def forBody : Stmt → List Stmt
  | .For _ _ b _ _ => b
  | _ => []
def ifBody : Stmt → List Stmt
  | .If _ b _ _ => b
  | _ => []
@[reducible] def exBody : List Stmt := (fun (x : List Stmt) (_ : fBody (stmtAt 12) = x) => x) ?x (by
  simp only [stmtAt, fBody, PySem.Challenge.pw_wn0001_01, List.getD_cons_succ, List.getD_cons_zero]
  exact rfl)
@[reducible] def bodyD : List Stmt := (fun (x : List Stmt) (_ : forBody (exBody.getD 1 (.Pass ⟨0, 0, 0, 0⟩)) = x) => x) ?x (by
  simp only [exBody, forBody, List.getD_cons_succ, List.getD_cons_zero]
  exact rfl)
@[reducible] def bodyR : List Stmt := (fun (x : List Stmt) (_ : forBody (bodyD.getD 2 (.Pass ⟨0, 0, 0, 0⟩)) = x) => x) ?x (by
  simp only [bodyD, forBody, List.getD_cons_succ, List.getD_cons_zero]
  exact rfl)
@[reducible] def bodyK : List Stmt := (fun (x : List Stmt) (_ : forBody (bodyR.getD 0 (.Pass ⟨0, 0, 0, 0⟩)) = x) => x) ?x (by
  simp only [bodyR, forBody, List.getD_cons_succ, List.getD_cons_zero]
  exact rfl)
@[reducible] def bodyI : List Stmt := (fun (x : List Stmt) (_ : ifBody (bodyK.getD 0 (.Pass ⟨0, 0, 0, 0⟩)) = x) => x) ?x (by
  simp only [bodyK, ifBody, List.getD_cons_succ, List.getD_cons_zero]
  exact rfl)
@[reducible] def exScope : Scope := (fun (x : Scope) (_ : fScope (stmtAt 12) = x) => x) ?x (by
  simp only [stmtAt, fScope, PySem.Challenge.pw_wn0001_01, List.getD_cons_succ, List.getD_cons_zero]
  exact rfl)
/-- the frame of _law_exchanged -/
abbrev exM (text ways done far later row sums k other : Option Value) : Str → Option Value := fun z =>
  if z = Str.ofString "other" then other else if z = Str.ofString "k" then k else if z = Str.ofString "sums" then sums else if z = Str.ofString "row" then row
  else if z = Str.ofString "later" then later else if z = Str.ofString "far" then far else if z = Str.ofString "done" then done else if z = Str.ofString "ways" then ways
  else if z = Str.ofString "text" then text else none
abbrev exEnv (L : Addr) : Env := envOf (Str.ofString "_law_exchanged") exScope L 88 (.ref 87)
end Mine
end
section
open PySem PySem.W PyProof.Rows PySem.Calls PyProof.V
namespace Mine
section
variable {prog : Program} {w : World} {A : Around} {E : Value → Shared → Prop} {s : Shared} {K : Type} [DecidableEq K] {knd : KeyKind prog w K} {d o : Addr} {kvs more : List (K × Value)}
theorem ior_call_dict {Q : Value → Shared → Prop} (hdo : d ≠ o) (hoS : (o == sysModules) = false) (hd : s.heap.DictOf knd d kvs) (ho : s.heap.DictOf knd o more) (hsz : kvs.length + more.length ≤ sizeLine)
    (h : ∀ h', h'.DictOf knd d (merged kvs more) → Heap.SameBut d s.heap h' → Q (.ref d) { s with heap := h' }) :
    wpAny (model prog w) A (call (.builtin "dict.__ior__") [.ref d, .ref o]) Q E s := by
  refine wpAny_call_entry PySem.F.slot_dict_ior hd.typeIs PySem.F.entry_dict_ior ?_ (PySem.F.args_dict_ior_2 _ _)
  unfold Builtin.«dict.__ior__»
  refine wpAny_bind ?_
  unfold Builtin.Dict.dictSlotArgs
  refine wpAny_bind (wpAny_notOrdered_dict hd.typeIs ?_)
  show wpAny _ _ (pure (Value.ref d, Value.ref o)) _ _ s
  refine wpAny_pure ?_
  show wpAny _ _ (Builtin.Dict.updateFrom "dict.__ior__" d (.ref o) [] (.ref d)) _ _ s
  unfold Builtin.Dict.updateFrom
  refine wpAny_bind (wpAny_typeOf ho.typeIs ?_)
  rw [if_neg (by decide)]
  refine wpAny_bind ?_
  unfold Builtin.Dict.merge
  refine wpAny_bind ?_
  unfold Builtin.Dict.readDirectly
  refine wpAny_bind (wpAny_isInstance ho.typeIs isSubtype_dict_dict ?_)
  simp only [Bool.not_true, Bool.false_eq_true, if_false]
  refine wpAny_bind (wpAny_specialOf ho.typeIs PySem.F.slot_dict_iter.lookup (wpAny_pure ?_))
  simp only [beq_self_eq_true, if_true]
  refine wpAny_bind (wpAny_pure ?_)
  refine wpAny_mergeDict (hsz := hsz) hdo hoS hd ho fun h' hd' ho' hs' => ?_
  show wpAny _ _ (Builtin.Dict.addKeywords d [] >>= _) _ _ _
  exact wpAny_bind (wpAny_pure (wpAny_pure ⟨_, rfl, h h' hd' hs'⟩))
theorem ior_dict {Q : Value → Shared → Prop} (hdo : d ≠ o) (hoS : (o == sysModules) = false) (hd : s.heap.DictOf knd d kvs) (ho : s.heap.DictOf knd o more) (hsz : kvs.length + more.length ≤ sizeLine)
    (h : ∀ h', h'.DictOf knd d (merged kvs more) → Heap.SameBut d s.heap h' → Q (.ref d) { s with heap := h' }) :
    wpAny (model prog w) A (inplaceOp .BitOr (.ref d) (.ref o)) Q E s := by
  unfold inplaceOp
  refine wpAny_holding ?_
  have hfi : fillsInplaceSlot (.type "dict") "or" (Operator.BitOr == .Add) = pure true := by
    unfold fillsInplaceSlot
    show (typeLookup (.type "dict") (dunderI "or") >>= fun fi => pure (fi.isSome && !isSeqSlot fi)) = pure true
    rw [PySem.F.slot_dict_ior.lookup]; rfl
  refine wpAny_bind (wpAny_typeOf hd.typeIs (wpAny_bind (wpAny_of_eq hfi ?_)))
  show wpAny _ A (if true = true then _ else _) Q E s
  rw [if_pos rfl]
  refine wpAny_bind (wpAny_tryMethod_slot hd.typeIs PySem.F.slot_dict_ior (ior_call_dict hdo hoS hd ho hsz fun h' hd' hs' => ⟨(by intro e; cases e), ?_⟩))
  exact wpAny_bind (wpAny_rule (wpAny_pure (h h' hd' hs')))
end
end Mine
end
section
open PySem PySem.W PyProof.Rows PySem.Calls PyProof.V
namespace Mine
abbrev sK (w : World) : KeyKind prgM w Str := PySem.strKind prgM w
/-- a ledger in which the object at an address is another one -/
def upd (lg : CbLed) (V : Addr) (o : Obj) : CbLed := (V, o) :: lg.filter fun p => !(p.1 == V)
theorem mem_upd {lg : CbLed} {V : Addr} {o : Obj} {p : Addr × Obj} (hp : p ∈ lg) (h : p.1 ≠ V) : p ∈ upd lg V o := List.mem_cons_of_mem _ (List.mem_filter.mpr ⟨hp, by simpa using h⟩)
theorem upd_self {lg : CbLed} {V : Addr} {o : Obj} : (V, o) ∈ upd lg V o := List.mem_cons_self ..
theorem news_upd' {h₀ h h' : Heap} {L V : Addr} {m : Str → Option Value} {lg : CbLed} {o o' : Obj} (F : Fr h₀ L h m) (N : News h₀ L h lg) (hV : (V, o) ∈ lg) (hs : Heap.SameBut V h h') (ho : h'.get? V = some o') : Fr h₀ L h' m ∧ News h₀ L h' (upd lg V o') := by
  have hv := N _ hV
  refine ⟨F.change hs hv.2.1 hv.2.2, fun p hp => ?_⟩
  rcases List.mem_cons.mp hp with rfl | hp
  · exact ⟨ho, hv.2.1, hv.2.2⟩
  · obtain ⟨h1, h2⟩ := List.mem_filter.mp hp
    have h3 : p.1 ≠ V := by simpa using h2
    exact ⟨(hs.2 _ h3).trans (N p h1).1, (N p h1).2⟩
set_option maxHeartbeats 8000000 in
theorem contains_call (w : World) (mean : ExcName → Option Value) (mg mb : Str → Option Value) (V : Addr) (o : Obj) (kvs : List (Str × Value)) (x : Str) (t : Tok) (lg : CbLed) (hV : (V, o) ∈ lg) (ho : o.IsDictOf (sK w) kvs) (hm : (V == sysModules) = false) :
    Claim 1 w mean mg mb 53 lg [.ref V, .str x t] (fun h₀ L m s Q => ∀ (h' : Heap) (tk' : Nat), Fr h₀ L h' m → News h₀ L h' lg → Q (.bool (valueAt kvs x).isSome) { s with heap := h', toks := tk' }) := by
  unfold Claim
  k_with_none
  k_fill
  intros
  rename_i hret
  refine wpAny_call ?_
  k_dflt cell_enter
  k_with "compareOp In str ref" => (k_here; refine kda_in (knd := sK w) (by k_asm) hV ho hm (strKind_is _ _ _ _) _ rfl ?_)
  k_steps
  exact hret _ _ (by k_asm) (by k_asm)
set_option maxHeartbeats 8000000 in
theorem not_bool_call (w : World) (mean : ExcName → Option Value) (mg mb : Str → Option Value) (b : Bool) (lg : CbLed) :
    Claim 1 w mean mg mb 46 lg [.bool b] (fun h₀ L m s Q => ∀ (h' : Heap) (tk' : Nat), Fr h₀ L h' m → News h₀ L h' lg → Q (.bool (!b)) { s with heap := h', toks := tk' }) := by
  unfold Claim
  k_with_none
  k_fill
  intros
  rename_i hret
  refine wpAny_call ?_
  k_dflt cell_enter
  k_steps
  exact hret _ _ (by k_asm) (by k_asm)
set_option maxHeartbeats 8000000 in
theorem not_dict_call (w : World) (mean : ExcName → Option Value) (mg mb : Str → Option Value) (V : Addr) (o : Obj) (kvs : List (Str × Value)) (lg : CbLed) (hV : (V, o) ∈ lg) (ho : o.IsDictOf (sK w) kvs) (hm : (V == sysModules) = false) (hl : kvs.length ≤ 16777216) :
    Claim 1 w mean mg mb 46 lg [.ref V] (fun h₀ L m s Q => ∀ (h' : Heap) (tk' : Nat), Fr h₀ L h' m → News h₀ L h' lg → Q (.bool kvs.isEmpty) { s with heap := h', toks := tk' }) := by
  unfold Claim
  k_with_none
  k_fill
  intros
  rename_i hret
  refine wpAny_call ?_
  k_dflt cell_enter
  k_with "truthy ref" => (k_here; refine wpAny_truthy_dict (knd := sK w) hm (kda_dict (by k_asm) hV ho) (by omega) ?_)
  k_steps
  rw [Bool.not_not]
  exact hret _ _ (by k_asm) (by k_asm)
set_option maxHeartbeats 8000000 in
theorem ior_call (w : World) (mean : ExcName → Option Value) (mg mb : Str → Option Value) (V b : Addr) (o ob : Obj) (kvs more : List (Str × Value)) (lg : CbLed) (hV : (V, o) ∈ lg) (ho : o.IsDictOf (sK w) kvs)
    (hb : (b, ob) ∈ lg) (hob : ob.IsDictOf (sK w) more) (hm : (b == sysModules) = false) (hne : V ≠ b) (hl : kvs.length + more.length ≤ 16777216) :
    Claim 1 w mean mg mb 60 lg [.ref V, .ref b] (fun h₀ L m s Q => ∀ (o' : Obj) (h' : Heap) (tk' : Nat), o'.IsDictOf (sK w) (merged kvs more) → Fr h₀ L h' m → News h₀ L h' (upd lg V o') → Q (.ref V) { s with heap := h', toks := tk' }) := by
  unfold Claim
  k_with_none
  k_fill
  intros
  rename_i hret
  refine wpAny_call ?_
  k_dflt cell_enter
  k_with "inplaceOp BitOr ref ref" => (k_here; (with_reducible rename Fr _ _ _ _ => kF9); (with_reducible rename News _ _ _ _ => kN9); refine ior_dict (knd := sK w) hne hm (kda_dict kN9 hV ho) (kda_dict kN9 hb hob) (by rw [sizeLine_eq]; exact hl) ?_; intro h9 hd9 hs9; obtain ⟨o9, ho9, hd9⟩ := Heap.dictOf_iff.mp hd9; obtain ⟨F9, N9⟩ := news_upd' kF9 kN9 hV hs9 ho9; (try dsimp only))
  k_steps
  exact hret _ _ _ (by assumption) (by k_asm) (by k_asm)
end Mine
end
section
open PySem PySem.W PyProof.Rows PySem.Calls PyProof.V
namespace Mine
/-- a text by its codes -/
def tx (l : List Nat) : Str := ⟨l.toArray⟩
def cpA (x : Str) (k : Int) : Nat := (Txt.charAt x k).getD 0
theorem item_cpA (x : Str) (k : Int) : Txt.item x k = one (cpA x k) := rfl
def swapAt (l : List Nat) (k : Nat) : List Nat := l.take k ++ [l.getD (k + 1) 0, l.getD k 0] ++ l.drop (k + 2)
theorem list7 {l : List Nat} (h : l.length = 7) : ∃ a b c d e f g, l = [a, b, c, d, e, f, g] := by
  match l, h with
  | [a, b, c, d, e, f, g], _ => exact ⟨a, b, c, d, e, f, g, rfl⟩
theorem int6 {k : Int} (h : 0 ≤ k ∧ k < 6) : k = 0 ∨ k = 1 ∨ k = 2 ∨ k = 3 ∨ k = 4 ∨ k = 5 := by omega
theorem tx_inj {a b : List Nat} (h : tx a = tx b) : a = b := by
  have := congrArg (fun s : Str => s.cps.toList) h
  simpa [tx] using this
theorem cp_tx {l : List Nat} {k : Int} (hl : l.length = 7) (hk : 0 ≤ k ∧ k < 7) : cpA (tx l) k = l.getD k.toNat 0 := by
  obtain ⟨a, b, c, d, e, f, g, rfl⟩ := list7 hl
  have : k = 0 ∨ k = 1 ∨ k = 2 ∨ k = 3 ∨ k = 4 ∨ k = 5 ∨ k = 6 := by omega
  rcases this with rfl | rfl | rfl | rfl | rfl | rfl | rfl <;> rfl
theorem swap_tx {l : List Nat} {k : Int} (hl : l.length = 7) (hk : 0 ≤ k ∧ k < 6) : Txt.slice (tx l) none (some k) ++ Txt.item (tx l) (k + 1) ++ Txt.item (tx l) k ++ Txt.slice (tx l) (some (k + 2)) none = tx (swapAt l k.toNat) := by
  obtain ⟨a, b, c, d, e, f, g, rfl⟩ := list7 hl
  rcases int6 hk with rfl | rfl | rfl | rfl | rfl | rfl <;> kernel_rfl
theorem len_swap {l : List Nat} {k : Nat} (hl : l.length = 7) (hk : k < 6) : (swapAt l k).length = 7 := by
  unfold swapAt
  simp only [List.length_append, List.length_take, List.length_drop, List.length_cons, List.length_nil]
  omega
end Mine
end
section
open PySem PySem.W PyProof.Rows PySem.Calls PyProof.V
namespace Mine
abbrev Rows := List (List Nat × Addr × List Int)
def keyed (R : Rows) : List (Str × Value) := R.map fun r => (tx r.1, Value.ref r.2.1)
def ListIn (lg : CbLed) (a : Addr) (ns : List Int) : Prop := ∃ vs c, (a, listOf vs.toArray c) ∈ lg ∧ IntsAre vs ns
def adrs (R : Rows) : List Addr := R.map (·.2.1)
structure TabIn (w : World) (lg : CbLed) (V : Addr) (R : Rows) : Prop where
  dict : ∃ o, (V, o) ∈ lg ∧ o.IsDictOf (sK w) (keyed R)
  rows : ∀ r ∈ R, ListIn lg r.2.1 r.2.2
  notMod : (V == sysModules) = false
  off : V ∉ adrs R
  nodup : (adrs R).Nodup
-- lines of a theorem's own, ahead of the library's
local macro_rules | `(tactic| walk_at "setItem ref int") => `(tactic| k_extra "my setItem")
local macro_rules | `(tactic| walk_at "subscriptTail") => `(tactic| k_extra "my subscript")
local macro_rules | `(tactic| walk_at "subscriptTail Name Slice ref ref") => `(tactic| k_extra "my slice")
local macro_rules | `(tactic| walk_at "call builtin:sum") => `(tactic| k_extra "my sum")
local macro_rules | `(tactic| walk_at "binaryOp Mult int int") => `(tactic| k_extra "my mult")
theorem set_row {prog : Program} {w : World} {A : Around} {E : Value → Shared → Prop} {s : Shared} {h₀ : Heap} {L D : Addr} {m : Str → Option Value} {news : CbLed} {vs : List Value} {ns : List Int} {n : Nat} {k x : Int} {t u : Tok} {Q : Unit → Shared → Prop}
    (F : Fr h₀ L s.heap m) (N : News h₀ L s.heap news) (hm : (D, listOf vs.toArray n) ∈ news) (hi : IntsAre vs ns) (h0 : 0 ≤ k) (h1 : k < ns.length) (hfit : k < 2 ^ 63)
    (h : ∀ h', Fr h₀ L h' m → News h₀ L h' (upd news D (listOf (vs.set k.toNat (.int x u)).toArray n)) → IntsAre (vs.set k.toNat (.int x u)) (ns.set k.toNat x) → Q () { s with heap := h' }) :
    wpAny (model prog w) A (setItem (.ref D) (.int k t) (.int x u)) Q E s := by
  have z := N _ hm
  have hl : vs.length = ns.length := hi.length
  have hs : vs.toArray.size = ns.length := by rw [List.size_toArray]; exact hl
  have q := PySem.IsL.update z.1 (·.setIfInBounds k.toNat (.int x u))
  have e1 : vs.toArray.setIfInBounds k.toNat (.int x u) = (vs.set k.toNat (.int x u)).toArray := Array.toList_inj.mp (by simp)
  have e2 : (if (vs.toArray.setIfInBounds k.toNat (.int x u)).size == vs.toArray.size then n else n + 1) = n := by simp
  rw [e2, e1] at q
  obtain ⟨F', N'⟩ := news_upd' F N hm (Heap.SameBut.update ..) q
  exact ki_setAt z.1 h0 hfit (by omega) (h _ F' N' (ints_set hi _))
@[reducible] def stA : List Stmt := (fun (x : List Stmt) (_ : bodyI.drop 2 = x) => x) ?x (by
  simp only [bodyI, List.drop]
  exact rfl)
section
variable {w : World} {mean : ExcName → Option Value} {mg mb : Str → Option Value} {dp un : Nat} {gd : Option (List Code)} {cn : Str} {cs : Scope} {a : Addr} {ccd : Value} {cl : List (Str × Addr)} {outer : List Env}
  {base g : Heap} {L0 L : Addr} {s : Shared} {Post : Flow → Shared → Prop} {E : Value → Shared → Prop}
set_option maxHeartbeats 4000000 in
theorem augK (B : Below (ktrTop dp un gd cn cs L0 a ccd cl outer) base (envX cn cs L0 a ccd cl :: outer) g) (X : (heapK w.params).In g) (T : Top q0 looseM mean mg mb g) (hck : cs.kind = ScopeKind.function) (hd : dp + 2 < recursionLimit) (hu : un + 8 * 2 < cLine)
    {lg : CbLed} {V b r : Addr} {oV : Obj} {kvs : List (Str × Value)} {vs us : List Value} {c cc : Nat} {ns ss : List Int} {text ways done row : Option Value} {x : Str} {to tk tf : Tok} {k far : Int} (hk : 0 ≤ k ∧ k < 6)
    (hV : (V, oV) ∈ lg) (hoV : oV.IsDictOf (sK w) kvs) (hx : valueAt kvs x = some (.ref r)) (hr : (r, listOf vs.toArray c) ∈ lg) (hi : IntsAre vs ns) (hn : ns.length = 6) (hb : (b, listOf us.toArray cc) ∈ lg) (hj : IntsAre us ss) (hs : ss.length = 6) (hmul : IntMulOk far (ss.drop (k + 1).toNat).sum)
    (F : Fr g L s.heap (exM text ways done (some (.int far tf)) (some (.ref V)) row (some (.ref b)) (some (.int k tk)) (some (.str x to)))) (N : News g L s.heap lg)
    (hpost : ∀ (h' : Heap) (tk' : Nat) (lg' : CbLed), Fr g L h' (exM text ways done (some (.int far tf)) (some (.ref V)) row (some (.ref b)) (some (.int k tk)) (some (.str x to))) → News g L h' lg' → (∀ p ∈ lg, p.1 ≠ r → p ∈ lg') →
      ListIn lg' r (ns.set k.toNat (ns.getD k.toNat 0 + ((ss.take (k + 1).toNat).sum + far * (ss.drop (k + 1).toNat).sum))) → (∀ p ∈ lg, ∃ o, (p.1, o) ∈ lg') → Post .next { s with heap := h', toks := tk' }) :
    wpAny (model PySem.Challenge.rw_wn0001_01.row.prog w) ((ktrTop dp un gd cn cs L0 a ccd cl outer).deeper (exEnv L)) (execs stA (exEnv L)) Post E s := by
  revert X
  k_with_none
  k_fill
  intro X
  unfold exEnv
  k_with "my subscript" => (k_here; (with_reducible show wpAny _ _ (subscriptTail _ _ (Value.ref _) (Value.str _ _)) _ _ _); k_dflt (refine kda_item (knd := sK w) (by k_asm) hV hoV (strKind_is _ _ _ _) hx ?_); (try dsimp only))
  k_with "my slice" => (k_here; (with_reducible show wpAny _ _ (subscriptTail _ (PySem.Expr.Slice none (some _) none _) (Value.ref _) (Value.ref _)) _ _ _); k_dflt (refine kmk_slice_ints (by k_asm) (by k_asm) (News.isList (by k_asm) (by first | exact hb | exact .tail _ hb | exact .tail _ (.tail _ hb) | exact .tail _ (.tail _ (.tail _ hb)))) IsPart.none (IsPart.int _ _) hj (kmk_upto hj (by omega)) (List.length_take ..) ?_ (by with_unfolding_all rfl) (by kmk_pure) (kmk_sz hj (by rw [sizeLine_eq]; omega))); intro D' ws' h' F' N' l1 hI' hC' hL'; (try dsimp only))
  k_with "my slice" => (k_here; (with_reducible show wpAny _ _ (subscriptTail _ (PySem.Expr.Slice (some _) none none _) (Value.ref _) (Value.ref _)) _ _ _); k_dflt (refine kmk_slice_ints (by k_asm) (by k_asm) (News.isList (by k_asm) (by first | exact hb | exact .tail _ hb | exact .tail _ (.tail _ hb) | exact .tail _ (.tail _ (.tail _ hb)))) (IsPart.int _ _) IsPart.none hj (kmk_from hj (by omega)) (List.length_drop ..) ?_ (by with_unfolding_all rfl) (by kmk_pure) (kmk_sz hj (by rw [sizeLine_eq]; omega))); intro D' ws' h' F' N' l1 hI' hC' hL'; (try dsimp only))
  k_with "my mult" => (k_here; refine PyProof.Rows.mul_int ?_ hmul; (try dsimp only))
  k_with "my setItem" => (k_here; k_dflt (refine set_row (by k_asm) (by k_asm) (.tail _ (.tail _ hr)) hi (by omega) (by omega) (by omega) ?_); intro h9 F9 N9 hi9; (try dsimp only))
  k_with "my sum" => (k_here; k_dflt (refine sumK (by with_unfolding_all rfl) (by k_asm) (by k_asm) (News.isList (by k_asm) (.head _)) (by with_reducible assumption) ?_); intro h' tk' t' F' N'; (try dsimp only))
  k_steps
  refine hpost _ _ _ F9 N9 (fun p hp hpr => mem_upd (.tail _ (.tail _ hp)) hpr) ⟨_, _, upd_self, hi9⟩ fun p hp => ?_
  by_cases e : p.1 = r
  · exact ⟨_, by rw [e]; exact upd_self⟩
  · exact ⟨p.2, mem_upd (.tail _ (.tail _ hp)) e⟩
end
end Mine
end
section
open PySem PySem.W PyProof.Rows PySem.Calls PyProof.V
namespace Mine
/-- the plain law: a table of texts (by their codes), each with six sums -/
abbrev Tab := List (List Nat × List Int)
def zeros6 : List Int := [0, 0, 0, 0, 0, 0]
def bump (s : List Int) (k : Nat) (v : Int) : List Int := s.set k (s.getD k 0 + v)
def tHas (U : Tab) (x : List Nat) : Bool := U.any fun r => r.1 == x
def tAdd (U : Tab) (x : List Nat) (k : Nat) (v : Int) : Tab := U.map fun r => if r.1 == x then (r.1, bump r.2 k v) else r
def tPut (U : Tab) (x : List Nat) (k : Nat) (v : Int) : Tab := tAdd (if tHas U x = true then U else U ++ [(x, zeros6)]) x k v
def gain (far : Int) (ss : List Int) (k : Nat) : Int := (ss.take (k + 1)).sum + far * (ss.drop (k + 1)).sum
def turnP (far : Int) (l : List Nat) (ss : List Int) (U : Tab) (k : Nat) : Tab :=
  if (isC4 (l.getD k 0) && isB1 (l.getD (k + 1) 0)) = true then tPut U (swapAt l k) k (gain far ss k) else U
def rowP (far : Int) (U : Tab) (r : List Nat × List Int) : Tab := (List.range 6).foldl (turnP far r.1 r.2) U
def stepP (far : Int) (T : Tab) : Tab := T.foldl (rowP far) []
def plain (R : Rows) : Tab := R.map fun r => (r.1, r.2.2)
def rAdd (R : Rows) (x : List Nat) (k : Nat) (v : Int) : Rows := R.map fun r => if r.1 == x then (r.1, r.2.1, bump r.2.2 k v) else r
theorem plain_rAdd (R : Rows) (x : List Nat) (k : Nat) (v : Int) : plain (rAdd R x k v) = tAdd (plain R) x k v := by
  unfold plain rAdd tAdd
  rw [List.map_map, List.map_map]
  refine List.map_congr_left fun r _ => ?_
  show ((if r.1 == x then (r.1, r.2.1, bump r.2.2 k v) else r).1, (if r.1 == x then (r.1, r.2.1, bump r.2.2 k v) else r).2.2) = if r.1 == x then (r.1, bump r.2.2 k v) else (r.1, r.2.2)
  cases r.1 == x <;> rfl
theorem keyed_rAdd (R : Rows) (x : List Nat) (k : Nat) (v : Int) : keyed (rAdd R x k v) = keyed R := by
  unfold keyed rAdd
  rw [List.map_map]
  refine List.map_congr_left fun r _ => ?_
  show (tx (if r.1 == x then (r.1, r.2.1, bump r.2.2 k v) else r).1, Value.ref (if r.1 == x then (r.1, r.2.1, bump r.2.2 k v) else r).2.1) = (tx r.1, Value.ref r.2.1)
  cases r.1 == x <;> rfl
theorem adrs_rAdd (R : Rows) (x : List Nat) (k : Nat) (v : Int) : adrs (rAdd R x k v) = adrs R := by
  unfold adrs rAdd
  rw [List.map_map]
  refine List.map_congr_left fun r _ => ?_
  show (if r.1 == x then (r.1, r.2.1, bump r.2.2 k v) else r).2.1 = r.2.1
  cases r.1 == x <;> rfl
theorem valueAt_keyed (R : Rows) (x : List Nat) : valueAt (keyed R) (tx x) = (R.find? fun r => r.1 == x).map fun r => Value.ref r.2.1 := by
  unfold valueAt keyed
  induction R with
  | nil => rfl
  | cons r t ih =>
    rw [List.map_cons, List.find?_cons, List.find?_cons]
    by_cases e : r.1 = x
    · have h1 : decide ((tx r.1, Value.ref r.2.1).1 = tx x) = true := by rw [e]; simp
      have h2 : (r.1 == x) = true := by rw [e]; exact beq_self_eq_true _
      rw [h1, h2]; rfl
    · have h1 : decide ((tx r.1, Value.ref r.2.1).1 = tx x) = false := by
        refine decide_eq_false fun h => e (tx_inj h)
      have h2 : (r.1 == x) = false := by simpa using e
      rw [h1, h2]; exact ih
theorem tHas_plain (R : Rows) (x : List Nat) : tHas (plain R) x = (R.find? fun r => r.1 == x).isSome := by
  unfold tHas plain
  rw [List.any_map, Bool.eq_iff_iff, List.find?_isSome, List.any_eq_true]
  exact Iff.rfl
theorem plain_append (R : Rows) (r : List Nat × Addr × List Int) : plain (R ++ [r]) = plain R ++ [(r.1, r.2.2)] := by unfold plain; simp
theorem keyed_append (R : Rows) (r : List Nat × Addr × List Int) : keyed (R ++ [r]) = keyed R ++ [(tx r.1, Value.ref r.2.1)] := by unfold keyed; simp
theorem adrs_append (R : Rows) (r : List Nat × Addr × List Int) : adrs (R ++ [r]) = adrs R ++ [r.2.1] := by unfold adrs; simp
theorem len_bump (s : List Int) (k : Nat) (v : Int) : (bump s k v).length = s.length := by unfold bump; simp
/-- what a turn does to the ledger: the table at V with lists at as goes on as one with lists at as' -/
def Grew (lg lg' : CbLed) (V : Addr) (as as' : List Addr) : Prop :=
  (∀ p ∈ lg, p.1 ≠ V → p.1 ∉ as → p ∈ lg') ∧ (∀ a ∈ as', a ∈ as ∨ ∀ p ∈ lg, p.1 ≠ a) ∧ (∀ p ∈ lg, ∃ o, (p.1, o) ∈ lg')
theorem Grew.refl {lg : CbLed} {V : Addr} {as : List Addr} : Grew lg lg V as as := ⟨fun _ h _ _ => h, fun _ h => .inl h, fun p h => ⟨p.2, h⟩⟩
theorem Grew.trans {lg lg' lg'' : CbLed} {V : Addr} {as as' as'' : List Addr} (g : Grew lg lg' V as as') (g' : Grew lg' lg'' V as' as'') : Grew lg lg'' V as as'' := by
  refine ⟨fun p hp h1 h2 => g'.1 p (g.1 p hp h1 h2) h1 fun h3 => ?_, fun a ha => ?_, fun p hp => ?_⟩
  · rcases g.2.1 _ h3 with h4 | h4
    · exact h2 h4
    · exact h4 p hp rfl
  · rcases g'.2.1 a ha with h | h
    · exact g.2.1 a h
    · refine .inr fun p hp => ?_
      obtain ⟨o, ho⟩ := g.2.2 p hp
      exact h (p.1, o) ho
  · obtain ⟨o, ho⟩ := g.2.2 p hp
    exact g'.2.2 (p.1, o) ho
theorem Grew.off {lg lg' : CbLed} {V : Addr} {as as' : List Addr} (g : Grew lg lg' V as as') {p : Addr × Obj} (hp : p ∈ lg) (h : p.1 ∉ as) : p.1 ∉ as' := fun h' => (g.2.1 _ h').elim h fun h'' => h'' p hp rfl
/-- the table, its lists of six -/
structure TabSix (w : World) (lg : CbLed) (V : Addr) (R : Rows) : Prop where
  tab : TabIn w lg V R
  six : ∀ r ∈ R, r.2.2.length = 6
theorem TabSix.keys {w : World} {lg : CbLed} {V : Addr} {R : Rows} (t : TabSix w lg V R) : (R.map (·.1)).Nodup := by
  obtain ⟨o, _, es, ep, _, _, _, _, hn⟩ := t.tab.dict
  have e : (keyed R).map (·.1) = (R.map (·.1)).map tx := by unfold keyed; rw [List.map_map, List.map_map]; rfl
  rw [e] at hn
  unfold List.Nodup at hn ⊢
  rw [List.pairwise_map] at hn
  exact hn.imp fun h e => h (congrArg tx e)
theorem nodup_row {R : Rows} (hn : (R.map (·.1)).Nodup) {r r' : List Nat × Addr × List Int} (h : r ∈ R) (h' : r' ∈ R) (e : r.1 = r'.1) : r = r' := by
  induction R with
  | nil => cases h
  | cons a t ih =>
    rw [List.map_cons, List.nodup_cons] at hn
    rcases List.mem_cons.mp h with rfl | h1 <;> rcases List.mem_cons.mp h' with rfl | h1'
    · rfl
    · exact absurd (List.mem_map.mpr ⟨r', h1', e.symm⟩) hn.1
    · exact absurd (List.mem_map.mpr ⟨r, h1, e⟩) hn.1
    · exact ih hn.2 h1 h1'
theorem nodup_adr {R : Rows} (hn : (adrs R).Nodup) {r r' : List Nat × Addr × List Int} (h : r ∈ R) (h' : r' ∈ R) (e : r.2.1 = r'.2.1) : r = r' := by
  induction R with
  | nil => cases h
  | cons a t ih =>
    unfold adrs at hn ih
    rw [List.map_cons, List.nodup_cons] at hn
    rcases List.mem_cons.mp h with rfl | h1 <;> rcases List.mem_cons.mp h' with rfl | h1'
    · rfl
    · exact absurd (List.mem_map.mpr ⟨r', h1', e.symm⟩) hn.1
    · exact absurd (List.mem_map.mpr ⟨r, h1, e⟩) hn.1
    · exact ih hn.2 h1 h1'
/-- one row's list raised -/
theorem TabSix.raise {w : World} {lg lg' : CbLed} {V : Addr} {R : Rows} (t : TabSix w lg V R) {x : List Nat} {r : Addr} {ns : List Int} (hr : (x, r, ns) ∈ R) {k : Nat} {v : Int} (hk : ∀ p ∈ lg, p.1 ≠ r → p ∈ lg') (hl : ListIn lg' r (bump ns k v)) :
    TabSix w lg' V (rAdd R x k v) := by
  have hVr : V ≠ r := fun e => t.tab.off (e ▸ List.mem_map.mpr ⟨_, hr, rfl⟩)
  refine ⟨⟨?_, ?_, t.tab.notMod, by rw [adrs_rAdd]; exact t.tab.off, by rw [adrs_rAdd]; exact t.tab.nodup⟩, ?_⟩
  · obtain ⟨o, ho, hd⟩ := t.tab.dict
    exact ⟨o, hk _ ho hVr, by rw [keyed_rAdd]; exact hd⟩
  · intro q hq
    obtain ⟨q', hq', rfl⟩ := List.mem_map.mp hq
    by_cases e : q'.1 = x
    · have e2 := nodup_row t.keys hq' hr e
      subst e2
      simp only [beq_self_eq_true, if_true]
      exact hl
    · have e1 : (q'.1 == x) = false := by simpa using e
      simp only [e1, Bool.false_eq_true, if_false]
      obtain ⟨vs, c, hm, hi⟩ := t.tab.rows q' hq'
      refine ⟨vs, c, hk _ hm fun e3 => ?_, hi⟩
      exact e (by rw [nodup_adr t.tab.nodup hq' hr e3])
  · intro q hq
    obtain ⟨q', hq', rfl⟩ := List.mem_map.mp hq
    have h6 := t.six q' hq'
    show (if q'.1 == x then (q'.1, q'.2.1, bump q'.2.2 k v) else q').2.2.length = 6
    cases q'.1 == x
    · exact h6
    · show (bump q'.2.2 k v).length = 6
      rw [len_bump]; exact h6
theorem merged_one {kvs : List (Str × Value)} {x : Str} {v : Value} (h : valueAt kvs x = none) : merged kvs [(x, v)] = kvs ++ [(x, v)] := by
  show stored kvs x v = _
  unfold stored
  rw [if_neg]
  intro ha
  obtain ⟨p, hp, hx⟩ := List.any_eq_true.mp ha
  unfold valueAt at h
  rw [Option.map_eq_none_iff, List.find?_eq_none] at h
  exact h p hp hx
end Mine
end
section
open PySem PySem.W PyProof.Rows PySem.Calls PyProof.V
namespace Mine
theorem use_claim {k : Nat} {w : World} {mean : ExcName → Option Value} {mg mb : Str → Option Value} {f : Addr} {news : CbLed} {vs : List Value} {C : Heap → Addr → (Str → Option Value) → Shared → (Value → Shared → Prop) → Prop} (c : Claim k w mean mg mb f news vs C)
    {dp un : Nat} {gd : Option (List Code)} {cn : Str} {cs : Scope} {a : Addr} {ccd : Value} {cl : List (Str × Addr)} {outer : List Env} {A₀ : Around} {base h₀ : Heap} {L : Addr} {m : Str → Option Value} {s : Shared} {Q E : Value → Shared → Prop}
    (B : Below A₀ base outer h₀) (F : Fr h₀ L s.heap m) (X : (heapK w.params).In h₀) (N : News h₀ L s.heap news) (T : Top q0 looseM mean mg mb h₀) (hk : cs.kind = .function) (hd : dp + k < recursionLimit) (hu : un + 8 * k < cLine) (h : C h₀ L m s Q) :
    wpAny (model PySem.Challenge.rw_wn0001_01.row.prog w) (ktrTop dp un gd cn cs L a ccd cl outer) (call (.ref f) vs) Q E s := c dp un gd cn cs a ccd cl outer A₀ base h₀ L m s Q E B F X N T hk hd hu h
theorem disp_end {w : World} {h₀ h : Heap} {L a0 : Addr} {m : Str → Option Value} {lg : CbLed} {x : Str} {t : Tok} {v : Value} {P : Heap → Prop} (F : Fr h₀ L h m) (N : News h₀ L h lg) (ha : (a0, { cls := .type "dict", data := .dict #[] }) ∈ lg)
    (k : ∀ h' o, Fr h₀ L h' m → News h₀ L h' (upd lg a0 o) → o.IsDictOf (sK w) [(x, v)] → P h') :
    ∃ kvs, Carries (sK w) [(.str x t, v)] kvs ∧ h.DictOf (sK w) a0 [] ∧ ∀ h', h'.DictOf (sK w) a0 (merged [] kvs) → Heap.SameBut a0 h h' → P h' := by
  refine ⟨_, carries_strPairs _ _ _ rfl, ⟨_, #[], 0, (N _ ha).1, ⟨rfl, rfl, rfl⟩, rfl, fun _ he => by simp at he, .nil, .nil⟩, fun h' hd hs => ?_⟩
  obtain ⟨o, ho, hd'⟩ := Heap.dictOf_iff.mp hd
  obtain ⟨F', N'⟩ := news_upd' F N ha hs ho
  refine k h' o F' N' ?_
  rwa [merged_nil_of_nodup _ (by simp [strPairs])] at hd'
local macro_rules | `(tactic| walk_at "call ref") => `(tactic| k_extra "my call")
local macro_rules | `(tactic| walk_at "Exists") => `(tactic| k_extra "my exists")
local macro_rules | `(tactic| walk_at "eval Dict") => `(tactic| k_extra "my dict")
local macro_rules | `(tactic| walk_at "execs cons") => `(tactic| k_extra "my stop")
theorem allLt_mem {d : Nat} : ∀ {l : List (Addr × Obj)}, AllLt d l → ∀ p ∈ l, p.1 < d
  | [], _, _, h => nomatch h
  | _ :: _, h, q, hq => by
    rcases List.mem_cons.mp hq with rfl | hq
    · exact h.1
    · exact allLt_mem h.2 q hq
theorem getD_cp {l : List Nat} {k : Int} (hl : l.length = 7) (hk : 0 ≤ k ∧ k < 7) {b : Bool} (f : Nat → Bool) (h : (f (cpA (tx l) k) == true) = b) : f (l.getD k.toNat 0) = b := by
  rw [← cp_tx hl hk]
  cases hf : f (cpA (tx l) k) <;> rw [hf] at h <;> exact h
theorem succ_nat {k : Int} (hk : 0 ≤ k ∧ k < 6) : (k + 1).toNat = k.toNat + 1 := by omega
theorem TabSix.grow {w : World} {lg : CbLed} {V a0 l' : Addr} {R : Rows} (t : TabSix w lg V R) {x : List Nat} {vs : List Value} {c : Nat} {oE o9 o8 : Obj} (h0 : ∀ p ∈ lg, p.1 < a0) (h1 : a0 < l') (h2 : ∀ p ∈ lg, p.1 < l') (hi : IntsAre vs zeros6)
    (hx : valueAt (keyed R) (tx x) = none) (hd : o8.IsDictOf (sK w) (merged (keyed R) [(tx x, Value.ref l')])) :
    TabSix w (upd (upd ((l', listOf vs.toArray c) :: (a0, oE) :: lg) a0 o9) V o8) V (R ++ [(x, l', zeros6)]) ∧ Grew lg (upd (upd ((l', listOf vs.toArray c) :: (a0, oE) :: lg) a0 o9) V o8) V (adrs R) (adrs (R ++ [(x, l', zeros6)])) := by
  obtain ⟨oV, hV, _⟩ := t.tab.dict
  have hVl : V ≠ l' := Nat.ne_of_lt (h2 _ hV)
  have hin : ∀ r ∈ R, r.2.1 < l' := fun r hr => by
    obtain ⟨vs, c, hm, _⟩ := t.tab.rows r hr
    exact h2 _ hm
  have keep : ∀ p ∈ lg, p.1 ≠ V → p ∈ upd (upd ((l', listOf vs.toArray c) :: (a0, oE) :: lg) a0 o9) V o8 := fun p hp hv => mem_upd (mem_upd (.tail _ (.tail _ hp)) (Nat.ne_of_lt (h0 _ hp))) hv
  refine ⟨⟨⟨⟨o8, upd_self, ?_⟩, ?_, t.tab.notMod, ?_, ?_⟩, ?_⟩, ⟨fun p hp h _ => keep p hp h, fun a ha => ?_, fun p hp => ?_⟩⟩
  · rw [keyed_append, ← merged_one hx]; exact hd
  · intro r hr
    rcases List.mem_append.mp hr with hr | hr
    · obtain ⟨us, c', hm, hj⟩ := t.tab.rows r hr
      exact ⟨us, c', keep _ hm fun e => t.tab.off (e ▸ List.mem_map.mpr ⟨_, hr, rfl⟩), hj⟩
    · rw [List.mem_singleton.mp hr]
      exact ⟨vs, c, mem_upd (mem_upd (.head _) (Nat.ne_of_gt h1)) (Ne.symm hVl), hi⟩
  · rw [adrs_append]
    intro h
    rcases List.mem_append.mp h with h | h
    · exact t.tab.off h
    · exact hVl (List.mem_singleton.mp h)
  · rw [adrs_append, List.nodup_append]
    refine ⟨t.tab.nodup, by simp, ?_⟩
    intro a ha b hb e
    obtain ⟨r, hr, rfl⟩ := List.mem_map.mp ha
    have := hin r hr
    rw [List.mem_singleton.mp hb] at e
    exact absurd e (Nat.ne_of_lt this)
  · intro r hr
    rcases List.mem_append.mp hr with hr | hr
    · exact t.six r hr
    · rw [List.mem_singleton.mp hr]; rfl
  · rw [adrs_append] at ha
    rcases List.mem_append.mp ha with h | h
    · exact .inl h
    · exact .inr fun p hp => by rw [List.mem_singleton.mp h]; exact Nat.ne_of_lt (h2 p hp)
  · by_cases e : p.1 = V
    · exact ⟨o8, by rw [e]; exact upd_self⟩
    · exact ⟨p.2, keep p hp e⟩
theorem TabSix.grow' {w : World} {lg : CbLed} {V a0 l' : Addr} {R : Rows} (t : TabSix w lg V R) {x : List Nat} {vs : List Value} {c : Nat} {oE o9 o8 : Obj} (h0 : ∀ p ∈ lg, p.1 < a0) (h1 : a0 < l') (h2 : ∀ p ∈ lg, p.1 < l') (hi : IntsAre vs zeros6)
    (hx : valueAt (keyed R) (tx x) = none) (hd : o8.IsDictOf (sK w) (merged (keyed R) [(tx x, Value.ref l')])) :
    ∃ r, TabSix w (upd (upd ((l', listOf vs.toArray c) :: (a0, oE) :: lg) a0 o9) V o8) V (R ++ [(x, r, zeros6)]) ∧ Grew lg (upd (upd ((l', listOf vs.toArray c) :: (a0, oE) :: lg) a0 o9) V o8) V (adrs R) (adrs (R ++ [(x, r, zeros6)])) := ⟨l', t.grow h0 h1 h2 hi hx hd⟩
def Halt (P : Prop) : Prop := P
theorem Halt.of {P : Prop} (h : Halt P) : P := h
theorem exM_other (t w d f la r s k o v : Option Value) : (fun y => if y = Str.ofString "other" then v else exM t w d f la r s k o y) = exM t w d f la r s k v := by
  funext y
  unfold exM
  by_cases h : y = Str.ofString "other"
  · rw [if_pos h, if_pos h]
  · rw [if_neg h, if_neg h, if_neg h]
theorem bump_is {ns ss : List Int} {k far : Int} (hk : 0 ≤ k ∧ k < 6) : ns.set k.toNat (ns.getD k.toNat 0 + ((ss.take (k + 1).toNat).sum + far * (ss.drop (k + 1).toNat).sum)) = bump ns k.toNat (gain far ss k.toNat) := by
  have e : (k + 1).toNat = k.toNat + 1 := by omega
  unfold bump gain
  rw [e]
theorem turnP_no4 {far : Int} {l : List Nat} {ss : List Int} {U : Tab} {k : Nat} (h : isC4 (l.getD k 0) = false) : turnP far l ss U k = U := by
  unfold turnP
  rw [h]; rfl
theorem turnP_no1 {far : Int} {l : List Nat} {ss : List Int} {U : Tab} {k : Nat} (h : isB1 (l.getD (k + 1) 0) = false) : turnP far l ss U k = U := by
  unfold turnP
  rw [h, Bool.and_false]; rfl
theorem turnP_old {far : Int} {l : List Nat} {ss : List Int} {U : Tab} {k : Nat} (h4 : isC4 (l.getD k 0) = true) (h1 : isB1 (l.getD (k + 1) 0) = true) (h : tHas U (swapAt l k) = true) : turnP far l ss U k = tAdd U (swapAt l k) k (gain far ss k) := by
  unfold turnP tPut
  rw [h4, h1, h]; rfl
theorem turnP_new {far : Int} {l : List Nat} {ss : List Int} {U : Tab} {k : Nat} (h4 : isC4 (l.getD k 0) = true) (h1 : isB1 (l.getD (k + 1) 0) = true) (h : tHas U (swapAt l k) = false) : turnP far l ss U k = tAdd (U ++ [(swapAt l k, zeros6)]) (swapAt l k) k (gain far ss k) := by
  unfold turnP tPut
  rw [h4, h1, h]; rfl
section
variable {w : World} {mean : ExcName → Option Value} {mg mb : Str → Option Value} {dp un : Nat} {gd : Option (List Code)} {cn : Str} {cs : Scope} {a : Addr} {ccd : Value} {cl : List (Str × Addr)} {outer : List Env}
  {base g : Heap} {L0 L : Addr} {s : Shared} {Post : Flow → Shared → Prop} {E : Value → Shared → Prop}
set_option maxHeartbeats 4000000 in
theorem turnK (B : Below (ktrTop dp un gd cn cs L0 a ccd cl outer) base (envX cn cs L0 a ccd cl :: outer) g) (X : (heapK w.params).In g) (T : Top q0 looseM mean mg mb g) (hck : cs.kind = ScopeKind.function) (hd : dp + 2 < recursionLimit) (hu : un + 8 * 2 < cLine)
    {lg : CbLed} {V b : Addr} {R : Rows} {ss : List Int} {text ways done other : Option Value} {l : List Nat} {tr tk tf : Tok} {k far : Int} (hk : 0 ≤ k ∧ k < 6) (hl : l.length = 7) (hcp : ∀ c ∈ l, c < 1114112)
    (hR : TabSix w lg V R) (hRl : R.length ≤ 1000) (hb : ListIn lg b ss) (hbV : b ≠ V) (hbR : b ∉ adrs R) (hs : ss.length = 6) (hmul : IntMulOk far (ss.drop (k + 1).toNat).sum)
    (F : Fr g L s.heap (exM text ways done (some (.int far tf)) (some (.ref V)) (some (.str (tx l) tr)) (some (.ref b)) (some (.int k tk)) other)) (N : News g L s.heap lg) 
    (hpost : ∀ (h' : Heap) (tk' : Nat) (lg' : CbLed) (R' : Rows) (other' : Option Value), Fr g L h' (exM text ways done (some (.int far tf)) (some (.ref V)) (some (.str (tx l) tr)) (some (.ref b)) (some (.int k tk)) other') → News g L h' lg' →
      TabSix w lg' V R' → plain R' = turnP far l ss (plain R) k.toNat → Grew lg lg' V (adrs R) (adrs R') → Post .next { s with heap := h', toks := tk' }) :
    wpAny (model PySem.Challenge.rw_wn0001_01.row.prog w) ((ktrTop dp un gd cn cs L0 a ccd cl outer).deeper (exEnv L)) (execs bodyK (exEnv L)) Post E s := by
  revert X
  k_with_none
  k_fill
  intro X
  unfold exEnv
  have hc : ∀ i : Int, 0 ≤ i → i < 7 → cpA (tx l) i < 1114112 := fun i h0 h1 => by
    rw [cp_tx hl ⟨h0, h1⟩]
    have h2 : i.toNat < l.length := by omega
    rw [List.getD_eq_getElem?_getD, List.getElem?_eq_getElem h2]
    exact hcp _ (List.getElem_mem h2)
  have hlx : (tx l).length = 7 := by show l.toArray.size = 7; simpa using hl
  obtain ⟨oV, hV, hoV⟩ := hR.tab.dict
  k_with "my call" => (k_here; (with_reducible show wpAny _ _ (call (Value.ref 39) [Value.str _ _]) _ _ _); (rw [item_cpA]); k_dflt (refine' c4_use ?k1 ?k2 ?k3 ?k4 ?k5 ?k6 ?k7 ?k8 ?k9 ?_; (case k1 => k_asm); (case k2 => k_asm); (case k3 => k_asm); (case k4 => k_asm); (case k5 => k_asm); (case k6 => first | exact rfl | assumption); (case k7 => exact hc _ (by omega) (by omega)); (case k8 => ktr_room); (case k9 => ktr_units)); intro t9 h9 tk9 F9 N9; (try dsimp only))
  k_with "my call" => (k_here; (with_reducible show wpAny _ _ (call (Value.ref 32) [Value.str _ _]) _ _ _); (rw [item_cpA]); k_dflt (refine' b1_use ?k1 ?k2 ?k3 ?k4 ?k5 ?k6 ?k7 ?k8 ?k9 ?_; (case k1 => k_asm); (case k2 => k_asm); (case k3 => k_asm); (case k4 => k_asm); (case k5 => k_asm); (case k6 => first | exact rfl | assumption); (case k7 => exact hc _ (by omega) (by omega)); (case k8 => ktr_room); (case k9 => ktr_units)); intro t9 h9 tk9 F9 N9; (try dsimp only))
  k_with "my call" => (k_here; (with_reducible show wpAny _ _ (call (Value.ref 46) [Value.bool _]) _ _ _); k_dflt (refine' use_claim (not_bool_call _ _ _ _ _ _) ?k1 ?k2 ?k3 ?k4 ?k5 ?k6 ?k8 ?k9 ?_; (case k1 => k_asm); (case k2 => k_asm); (case k3 => k_asm); (case k4 => k_asm); (case k5 => k_asm); (case k6 => first | exact rfl | assumption); (case k8 => ktr_room); (case k9 => ktr_units)); intro h9 tk9 F9 N9; (try dsimp only))
  k_with "my call" => (k_here; (with_reducible show wpAny _ _ (call (Value.ref 53) _) _ _ _); simp only [swap_tx hl hk] at *; k_dflt (refine' use_claim (contains_call _ _ _ _ _ _ _ _ _ _ hV hoV hR.tab.notMod) ?k1 ?k2 ?k3 ?k4 ?k5 ?k6 ?k8 ?k9 ?_; (case k1 => k_asm); (case k2 => k_asm); (case k3 => k_asm); (case k4 => k_asm); (case k5 => k_asm); (case k6 => first | exact rfl | assumption); (case k8 => ktr_room); (case k9 => ktr_units)); intro h9 tk9 F9 N9; (try dsimp only))
  k_with "my stop" => (k_here; (with_reducible show wpAny _ _ (execs [Stmt.AugAssign _ _ _ _] _) _ _ _); refine Halt.of ?_)
  k_with "my dict" => (k_here; (with_reducible rename Fr _ _ _ _ => kF9); (with_reducible rename News _ _ _ _ => kN9); (have hfr9 := fun p hp => Heap.lt_size (kN9 p hp).1); (have kN8 := News.push kF9 kN9 { cls := .type "dict", data := .dict #[] }); (have hlo9 := Fr.notModules kF9 (modules_low (Top.nolimit T))); refine Dict_made (knd := sK w) kF9 rfl rfl (List.cons_ne_nil _ _) (by decide) ?_; intro kF8; (try dsimp only))
  k_with "my exists" => (k_here; refine disp_end (by k_asm) (by k_asm) (.tail _ (.head _)) ?_; intro h9 o9 F9 N9 hd9; (try dsimp only))
  k_with "my call" => (k_here; (with_reducible show wpAny _ _ (call (Value.ref 60) _) _ _ _); k_dflt (refine' use_claim (ior_call _ _ _ _ V _ oV _ (keyed R) _ _ (mem_upd (.tail _ (.tail _ hV)) (Nat.ne_of_lt (hfr9 _ hV))) hoV upd_self hd9 hlo9 (Nat.ne_of_lt (hfr9 _ hV)) (by unfold keyed; simp; omega)) ?k1 ?k2 ?k3 ?k4 ?k5 ?k6 ?k8 ?k9 ?_; (case k1 => k_asm); (case k2 => k_asm); (case k3 => k_asm); (case k4 => k_asm); (case k5 => k_asm); (case k6 => first | exact rfl | assumption); (case k8 => ktr_room); (case k9 => ktr_units)); intro o8 h8 tk8 hd8 F8 N8; (try dsimp only))
  k_steps
  all_goals (try simp only [exM_other] at *)
  · have hv1 := valueAt_keyed R (swapAt l k.toNat)
    have hh : tHas (plain R) (swapAt l k.toNat) = true := by
      rw [tHas_plain, ← Option.isSome_map (f := fun r : List Nat × Addr × List Int => Value.ref r.2.1), ← hv1]
      assumption
    cases hf : R.find? fun r => r.1 == swapAt l k.toNat with
    | none => rw [tHas_plain, hf] at hh; cases hh
    | some row =>
      obtain ⟨x', r, ns⟩ := row
      have hx' : x' = swapAt l k.toNat := by simpa using List.find?_some hf
      subst hx'
      have hm := List.mem_of_find?_eq_some hf
      obtain ⟨vs, c, hv, hi⟩ := hR.tab.rows _ hm
      obtain ⟨us, cc, hub, hju⟩ := hb
      refine augK B X T hck hd hu hk hV hoV (by rw [hv1, hf]; rfl) hv hi (hR.six _ hm) hub hju hs hmul F9 N9 fun h' tk' lg' F' N' hkeep hnew hadr => wpAny_execs_nil ?_
      refine hpost h' tk' lg' (rAdd R (swapAt l k.toNat) k.toNat (gain far ss k.toNat)) _ F' N' (hR.raise hm hkeep (by rw [← bump_is hk]; exact hnew)) ?_ ⟨fun p hp h1 h2 => hkeep p hp fun e => h2 (e ▸ List.mem_map.mpr ⟨_, hm, rfl⟩), fun a ha => .inl (by rw [adrs_rAdd] at ha; exact ha), hadr⟩
      rw [plain_rAdd]
      refine (turnP_old (getD_cp hl ⟨hk.1, by omega⟩ isC4 (by assumption)) ?_ hh).symm
      rw [← succ_nat hk]
      exact getD_cp hl ⟨by omega, by omega⟩ isB1 (by assumption)
  · have hv1 := valueAt_keyed R (swapAt l k.toNat)
    have hx : valueAt (keyed R) (tx (swapAt l k.toNat)) = none := Option.not_isSome_iff_eq_none.mp (by rw [Bool.not_eq_true]; assumption)
    have hh : tHas (plain R) (swapAt l k.toNat) = false := by
      rw [tHas_plain, ← Option.isSome_map (f := fun r : List Nat × Addr × List Int => Value.ref r.2.1), ← hv1]
      assumption
    obtain ⟨hal, hall⟩ := ‹_ ∧ AllLt _ lg›
    obtain ⟨r, t1, g1⟩ := hR.grow' (vs := [_, _, _, _, _, _]) (c := 0) (oE := { cls := .type "dict", data := .dict #[] }) (o9 := o9) hfr9 hal (allLt_mem hall) (.cons 0 tk9 (.cons 0 (tk9 + 1) (.cons 0 (tk9 + 1 + 1) (.cons 0 (tk9 + 1 + 1 + 1) (.cons 0 (tk9 + 1 + 1 + 1 + 1) (.cons 0 (tk9 + 1 + 1 + 1 + 1 + 1) .nil)))))) hx hd8
    have hv2 := valueAt_keyed (R ++ [(swapAt l k.toNat, r, zeros6)]) (swapAt l k.toNat)
    have hf2 : (R ++ [(swapAt l k.toNat, r, zeros6)]).find? (fun r => r.1 == swapAt l k.toNat) = some (swapAt l k.toNat, r, zeros6) := by
      have h3 : R.find? (fun r => r.1 == swapAt l k.toNat) = none := by
        rw [hv1] at hx
        exact Option.map_eq_none_iff.mp hx
      rw [List.find?_append, h3]
      simp
    have hm := List.mem_of_find?_eq_some hf2
    obtain ⟨vs, c, hv, hi⟩ := t1.tab.rows _ hm
    obtain ⟨us, cc, hub, hju⟩ := hb
    obtain ⟨oW, hW, hoW⟩ := t1.tab.dict
    refine augK B X T hck hd hu hk hW hoW (by rw [hv2, hf2]; rfl) hv hi (t1.six _ hm) (g1.1 _ hub hbV hbR) hju hs hmul F8 N8 fun h' tk' lg' F' N' hkeep hnew hadr => wpAny_execs_nil ?_
    refine hpost h' tk' lg' (rAdd (R ++ [(swapAt l k.toNat, r, zeros6)]) (swapAt l k.toNat) k.toNat (gain far ss k.toNat)) _ F' N' (t1.raise hm hkeep (by rw [← bump_is hk]; exact hnew)) ?_
      (g1.trans ⟨fun p hp h1 h2 => hkeep p hp fun e => h2 (e ▸ List.mem_map.mpr ⟨_, hm, rfl⟩), fun a ha => .inl (by rw [adrs_rAdd] at ha; exact ha), hadr⟩)
    rw [plain_rAdd, plain_append]
    refine (turnP_new (getD_cp hl ⟨hk.1, by omega⟩ isC4 (by assumption)) ?_ hh).symm
    rw [← succ_nat hk]
    exact getD_cp hl ⟨by omega, by omega⟩ isB1 (by assumption)
  · refine hpost _ _ _ R _ (by k_asm) (by k_asm) hR ?_ Grew.refl
    refine (turnP_no1 ?_).symm
    rw [← succ_nat hk]
    exact getD_cp hl ⟨by omega, by omega⟩ isB1 (by assumption)
  · refine hpost _ _ _ R _ (by k_asm) (by k_asm) hR ?_ Grew.refl
    exact (turnP_no4 (getD_cp hl ⟨hk.1, by omega⟩ isC4 (by assumption))).symm
end
end Mine
end
section
open PySem PySem.W PyProof.Rows PySem.Calls PyProof.V
namespace Mine
theorem fr_ext {h₀ h h' : Heap} {L : Addr} {m : Str → Option Value} {lg : CbLed} (F : Fr h₀ L h m) (N : News h₀ L h lg) (hx : Heap.ExtBut h.objs.size h h') : Fr h₀ L h' m ∧ News h₀ L h' lg :=
  ⟨⟨F.ns.at fun o e => hx L o (Nat.ne_of_lt F.ns.lt) e, fun b o e => hx b o (Nat.ne_of_lt (Heap.lt_size (F.keep b o e))) (F.keep b o e), F.above⟩, fun p hp => ⟨hx _ _ (Nat.ne_of_lt (Heap.lt_size (N p hp).1)) (N p hp).1, (N p hp).2⟩⟩
/-- how a turn of a loop ends: it leaves, or its word holds behind it -/
def TurnEnd (h₀ : Heap) (L I : Addr) (own : CbLed) (s : Shared) (J : (Str → Option Value) → CbLed → Prop) (Q : Flow → Shared → Prop) (f : Flow) (s₂ : Shared) : Prop :=
  match f with
  | .ret v => Q (.ret v) s₂
  | .brk => Q .next s₂
  | _ => ∃ h' tk' m' lg', s₂ = { s with heap := h', toks := tk' } ∧ Fr h₀ L h' m' ∧ News h₀ L h' (own ++ lg') ∧ (∀ p ∈ lg', p.1 ≠ I) ∧ J m' lg'
section
variable {prog : Program} {w : World} {A : Around} {E : Value → Shared → Prop} {s : Shared} {env : Env} {h₀ : Heap} {x : Str} {body : List Stmt} {Q : Flow → Shared → Prop} {m₀ : Str → Option Value} {lg₀ : CbLed}
theorem turnEnd_step {I : Addr} {own : CbLed} {s₁ : Shared} {J : (Str → Option Value) → CbLed → Prop} {f : Flow} {s₂ : Shared} {L : Addr} (p : TurnEnd h₀ L I own s₁ J Q f s₂) :
    LoopStepV h₀ L [I] own J s₁ (fun v s' => Q (.ret v) s') (fun s' => Q .next s') f s₂ := by
  have fin : (∃ h' tk' m' lg', s₂ = { s₁ with heap := h', toks := tk' } ∧ Fr h₀ L h' m' ∧ News h₀ L h' (own ++ lg') ∧ (∀ p ∈ lg', p.1 ≠ I) ∧ J m' lg') → LoopStepU h₀ L [I] own J s₁ .next s₂ := by
    rintro ⟨h', tk', m', lg', rfl, F', N', hoff, hJ⟩
    exact LoopStepU.intro F' N' (fun p hp hq => hoff p hp (List.mem_singleton.mp hq)) hJ
  cases f with
  | ret v => exact .ret p
  | brk => exact .brk p
  | next => exact .next (fin p)
  | cont => exact .cont (fin p)
theorem range_rule {r : Addr} {b₀ : Int} {t₀ u₀ v₀ : Tok} {n : Nat} (J : Nat → (Str → Option Value) → CbLed → Prop)
    (hh : A.handled = none) (hr : IsRange s.heap r 0 b₀ 1 t₀ u₀ v₀) (hsmall : Builtin.Range.small 0 b₀ 1 = true) (hn : Builtin.Range.rangeSize 0 b₀ 1 = (n : Int)) (F : Fr h₀ env.locals s.heap m₀) (N : News h₀ env.locals s.heap lg₀) (h0 : J 0 m₀ lg₀)
    (turn : ∀ (i : Nat) m₁ lg own I oI h tk t, i < n → J i m₁ lg → (∀ p ∈ lg, p.1 ≠ I) → (I, oI) ∈ own → (∀ p ∈ own, p.1 = I) → Fr h₀ env.locals h (fun y => if y = x then some (.int (i : Int) t) else m₁ y) → News h₀ env.locals h (own ++ lg) →
      wpAny (model prog w) A (execs body env) (TurnEnd h₀ env.locals I own { s with heap := h, toks := tk } (J (i + 1)) Q) E { s with heap := h, toks := tk })
    (done : ∀ m₁ lg h tk, J n m₁ lg → Fr h₀ env.locals h m₁ → News h₀ env.locals h lg → Q .next { s with heap := h, toks := tk }) :
    wpAny (model prog w) A (pyIter (.ref r)) (fun it s₂ => LoopAtV prog w A h₀ env x body Q E it s₂) E s := by
  refine wpAny_pyIter_range hr hsmall ?_
  have W : Walks prog w A s.heap.objs.size [s.heap.objs.size] [s.heap.objs.size] n (fun i v => i < n ∧ ∃ t, v = .int (0 + i * 1) t)
      (fun i h => IsRangeIter h s.heap.objs.size (0 + (i : Nat) * 1) ((n : Int) - (i : Nat)) 1) := (Walks.range hh _ 0 1 n).bound
  refine ⟨_, _, _, n, _, _, m₀, lg₀, J, rfl, W, ?_, ?_, ?_, (by show IsRangeIter _ _ _ _ _; rw [hn]; simpa using Heap.get?_push_size _ rfl), F.push _, (fun p hp => ⟨Heap.get?_push_of_some _ (N p hp).1, (N p hp).2⟩), h0, ?_, ?_⟩
  · intro hm
    exact absurd F.ns.lt ((List.mem_singleton.mp hm) ▸ Nat.lt_irrefl _)
  · intro b hb
    rw [List.mem_singleton.mp hb]
    exact next_is_new F
  · intro p hp hI
    exact absurd (Heap.lt_size (N p hp).1) ((List.mem_singleton.mp hI) ▸ Nat.lt_irrefl _)
  · rintro i v m₁ lg s₁ own ⟨hh', tk', rfl⟩ hi ⟨_, t, rfl⟩ hJ hoff hown _ hall hst F₁ N₁
    have e1 : (0 : Int) + (i : Int) * 1 = (i : Int) := by omega
    rw [e1] at F₁
    refine wpAny_mono (turn i m₁ lg own s.heap.objs.size _ hh' tk' t hi hJ (fun p hp e => hoff p hp (List.mem_singleton.mpr e)) (hall _ (List.mem_singleton.mpr rfl) (next_is_new F) _ hst) (fun p hp => List.mem_singleton.mp (hown p hp)) F₁ N₁) (fun f s₂ p => turnEnd_step p) fun _ _ e => e
  · intro h' tk m' lg' F' N' _ hJ
    exact done m' lg' h' tk hJ F' N'
theorem items_rule {K : Type} [DecidableEq K] {knd : KeyKind prog w K} {kvs : List (K × Value)} {xk xv : Str} {pk pv pt : Pos} {x1 : Nat} {d vw : Addr} {od : Obj} (J : Nat → (Str → Option Value) → CbLed → Prop)
    (hh : A.handled = none) (hxk : env.kindOf xk = some .local) (hxv : env.kindOf xv = some .local) (hp : (env.scope.kind == .class || (env.scope.kind == .module && env.locals != env.globals)) = false)
    (F : Fr h₀ env.locals s.heap m₀) (N : News h₀ env.locals s.heap lg₀) (hvw : ∃ ov, s.heap.get? vw = some ov ∧ ov.cls = .type "dict_items" ∧ ov.data = .fields #[.ref d]) (hm : (d, od) ∈ lg₀) (hd : od.IsDictOf knd kvs) (h0 : J 0 m₀ lg₀)
    (turn : ∀ (i : Nat) k v key m₁ lg own I oI h tk, kvs[i]? = some (k, v) → knd.is k key = true → J i m₁ lg → (∀ p ∈ lg, p.1 ≠ I) → (I, oI) ∈ own → (∀ p ∈ own, p.1 = I ∨ p.1 = d) → (∀ p ∈ lg₀, p.1 ≠ I) →
      Fr h₀ env.locals h (fun y => if y = xv then some v else if y = xk then some key else m₁ y) → News h₀ env.locals h (own ++ lg) →
      wpAny (model prog w) A (execs body env) (TurnEnd h₀ env.locals I own { s with heap := h, toks := tk } (J (i + 1)) Q) E { s with heap := h, toks := tk })
    (done : ∀ m₁ lg h tk, J kvs.length m₁ lg → Fr h₀ env.locals h m₁ → News h₀ env.locals h lg → Q .next { s with heap := h, toks := tk }) :
    wpAny (model prog w) A (pyIter (.ref vw)) (fun it s₂ => TurnsAt prog w A h₀ env (.Tuple [.Name xk pk, .Name xv pv] x1 pt) body Q E it s₂) E s := by
  have hax := N _ hm
  obtain ⟨ep, hat⟩ := (kda_dict N hm hd).dictAt
  have hne : d ≠ s.heap.objs.size := Nat.ne_of_lt hat.lt_size
  refine wpAny_pyIter_items hvw hat ?_
  refine ⟨_, _, _, kvs.length, _, _, _, m₀, lg₀, J, rfl, kti_itemsTurns (knd := knd) hh s.heap.objs.size d hne kvs ep, ?_, ?_, ?_, ⟨⟨.none, .none, Heap.get?_push_size _ rfl⟩, hat.push _⟩, F.push _, (fun p hp => ⟨Heap.get?_push_of_some _ (N p hp).1, (N p hp).2⟩), h0, ?_, ?_⟩
  · intro hI
    have hb' : env.locals = s.heap.objs.size ∨ env.locals = d := by simpa using hI
    rcases hb' with e | e
    · exact absurd F.ns.lt (e ▸ Nat.lt_irrefl _)
    · exact hax.2.1 e.symm
  · intro b hb
    rw [List.mem_singleton.mp hb]
    exact next_is_new F
  · intro p hp hI
    exact absurd (Heap.lt_size (N p hp).1) ((List.mem_singleton.mp hI) ▸ Nat.lt_irrefl _)
  · rintro i v m₁ lg h tk own hi ⟨T, key, k, y, rfl, hx, hkey, hT⟩ hJ hoff hown hget hall ⟨⟨ok, ov, hst⟩, hda⟩ F₁ N₁
    refine wpAny_assign_Tuple hh hT rfl rfl fun h₃ hx₃ => ?_
    obtain ⟨F₃, N₃⟩ := fr_ext F₁ N₁ hx₃
    show wpAny _ _ (do holding [y] (assign (.Name xk pk) env key); do holding [] (assign (.Name xv pv) env y); pure ()) _ _ _
    refine wpAny_bind (wpAny_holding (wpAny_assign_Name (wpAny_storeName_local hxk F₃.ns (fun h₄ hn₄ hs₄ => ?_) hp)))
    have F₄ := F₃.set hn₄ hs₄
    have N₄ := N₃.set hs₄
    refine wpAny_bind (wpAny_holding (wpAny_assign_Name (wpAny_storeName_local hxv F₄.ns (fun h₅ hn₅ hs₅ => wpAny_pure ?_) hp)))
    have F₅ := F₄.set hn₅ hs₅
    have N₅ := N₄.set hs₅
    refine wpAny_mono (turn i k y key m₁ lg own s.heap.objs.size _ h₅ _ hx hkey hJ (fun p hp e => hoff p hp (List.mem_singleton.mpr e)) (hall _ (by simp) (next_is_new F) _ hst) (fun p hp => by simpa using hown p hp) (fun p hp => Nat.ne_of_lt (Heap.lt_size (N p hp).1)) F₅ N₅) (fun f s₂ p => turnEnd_step p) fun _ _ e => e
  · intro h' tk m' lg' F' N' _ hJ
    exact done m' lg' h' tk hJ F' N'
end
end Mine
end
section
open PySem PySem.W PyProof.Rows PySem.Calls PyProof.V
namespace Mine
theorem exM_k (t w d f la r s k o v : Option Value) : (fun y => if y = Str.ofString "k" then v else exM t w d f la r s k o y) = exM t w d f la r s v o := by
  funext y
  unfold exM
  by_cases h1 : y = Str.ofString "other"
  · subst h1; rfl
  · by_cases h : y = Str.ofString "k"
    · rw [if_pos h, if_neg h1, if_pos h]
    · rw [if_neg h, if_neg h1, if_neg h, if_neg h1, if_neg h]
theorem foldl_range_succ {α : Type} (f : α → Nat → α) (a : α) (i : Nat) : (List.range (i + 1)).foldl f a = f ((List.range i).foldl f a) i := by
  rw [List.range_succ, List.foldl_append]; rfl
theorem len_turnP (far : Int) (l : List Nat) (ss : List Int) (U : Tab) (k : Nat) : U.length ≤ (turnP far l ss U k).length := by
  unfold turnP tPut tAdd
  split
  · rw [List.length_map]
    split
    · exact Nat.le_refl _
    · simp
  · exact Nat.le_refl _
theorem len_foldl {α : Type} (f : Tab → α → Tab) (h : ∀ U a, U.length ≤ (f U a).length) : ∀ (xs : List α) (U : Tab), U.length ≤ (xs.foldl f U).length
  | [], _ => Nat.le_refl _
  | a :: r, U => Nat.le_trans (h U a) (len_foldl f h r (f U a))
theorem len_rowP (far : Int) (U : Tab) (r : List Nat × List Int) : U.length ≤ (rowP far U r).length := len_foldl _ (fun U k => len_turnP far r.1 r.2 U k) _ U
theorem range_cut {n i : Nat} (h : i ≤ n) : ∃ xs, List.range n = List.range i ++ xs := by
  obtain ⟨m, rfl⟩ := Nat.exists_eq_add_of_le h
  exact ⟨(List.range m).map (i + ·), List.range_add⟩
/-- the numbers of a row are small enough for the products -/
def MulOk (far : Int) (ss : List Int) : Prop := ∀ j : Nat, IntMulOk far (ss.drop j).sum
theorem TabSix.filter {w : World} {lg : CbLed} {V I : Addr} {R : Rows} (t : TabSix w lg V R) (hV : V ≠ I) (hI : I ∉ adrs R) : TabSix w (lg.filter fun p => !(p.1 == I)) V R := by
  have keep : ∀ p ∈ lg, p.1 ≠ I → p ∈ lg.filter fun p => !(p.1 == I) := fun p hp h => List.mem_filter.mpr ⟨hp, by simpa using h⟩
  refine ⟨⟨?_, ?_, t.tab.notMod, t.tab.off, t.tab.nodup⟩, t.six⟩
  · obtain ⟨o, ho, hd⟩ := t.tab.dict
    exact ⟨o, keep _ ho hV, hd⟩
  · intro r hr
    obtain ⟨vs, c, hm, hi⟩ := t.tab.rows r hr
    exact ⟨vs, c, keep _ hm fun e => hI (e ▸ List.mem_map.mpr ⟨r, hr, rfl⟩), hi⟩
theorem TabSix.mono {w : World} {lg lg' : CbLed} {V : Addr} {R : Rows} (t : TabSix w lg V R) (h : ∀ p ∈ lg, p ∈ lg') : TabSix w lg' V R := by
  refine ⟨⟨?_, ?_, t.tab.notMod, t.tab.off, t.tab.nodup⟩, t.six⟩
  · obtain ⟨o, ho, hd⟩ := t.tab.dict
    exact ⟨o, h _ ho, hd⟩
  · intro r hr
    obtain ⟨vs, c, hm, hi⟩ := t.tab.rows r hr
    exact ⟨vs, c, h _ hm, hi⟩
/-- the end of a turn whose ledger held the loop's own objects: they are left out again -/
theorem turn_close {w : World} {h₀ h : Heap} {L V I : Addr} {own lg lg₀ lg' : CbLed} {oI : Obj} {as₀ : List Addr} {R R' : Rows} (N : News h₀ L h lg') (hIo : (I, oI) ∈ own) (hoff : ∀ p ∈ lg, p.1 ≠ I) (t : TabSix w lg V R) (t' : TabSix w lg' V R') (g0 : Grew lg₀ lg V as₀ (adrs R)) (h0 : ∀ p ∈ lg₀, p.1 ≠ I)
    (hown : ∀ p ∈ own, p.1 ≠ V ∧ p.1 ∉ adrs R) (g : Grew (own ++ lg) lg' V (adrs R) (adrs R')) :
    ∃ lg2, News h₀ L h (own ++ lg2) ∧ (∀ p ∈ lg2, p.1 ≠ I) ∧ TabSix w lg2 V R' ∧ Grew lg₀ lg2 V as₀ (adrs R') := by
  obtain ⟨oV, hV, _⟩ := t.tab.dict
  have hVI : V ≠ I := hoff _ hV
  have hI' : I ∉ adrs R' := fun h => by
    rcases g.2.1 _ h with h | h
    · exact (hown _ hIo).2 h
    · exact h _ (List.mem_append_left _ hIo) rfl
  have g1 : Grew lg lg' V (adrs R) (adrs R') := ⟨fun p hp => g.1 p (List.mem_append_right _ hp), fun a ha => (g.2.1 a ha).imp id fun h p hp => h p (List.mem_append_right _ hp), fun p hp => g.2.2 p (List.mem_append_right _ hp)⟩
  have g2 := g0.trans g1
  refine ⟨lg'.filter fun p => !(p.1 == I), fun p hp => ?_, fun p hp => by simpa using (List.mem_filter.mp hp).2, t'.filter hVI hI', ⟨fun p hp h1 h2 => List.mem_filter.mpr ⟨g2.1 p hp h1 h2, by simpa using h0 p hp⟩, g2.2.1, fun p hp => ?_⟩⟩
  · rcases List.mem_append.mp hp with hp | hp
    · exact N p (g.1 p (List.mem_append_left _ hp) (hown p hp).1 (hown p hp).2)
    · exact N p (List.mem_filter.mp hp).1
  · obtain ⟨o, ho⟩ := g2.2.2 p hp
    exact ⟨o, List.mem_filter.mpr ⟨ho, by simpa using h0 p hp⟩⟩
local macro_rules | `(tactic| walk_at "exec For Name Call cons nil") => `(tactic| k_extra "my for")
local macro_rules | `(tactic| walk_at "pyIter ref") => `(tactic| k_extra "my iter")
section
variable {w : World} {mean : ExcName → Option Value} {mg mb : Str → Option Value} {dp un : Nat} {gd : Option (List Code)} {cn : Str} {cs : Scope} {a : Addr} {ccd : Value} {cl : List (Str × Addr)} {outer : List Env}
  {base g : Heap} {L0 L : Addr} {s : Shared} {Post : Flow → Shared → Prop}
set_option maxHeartbeats 4000000 in
theorem turnR (B : Below (ktrTop dp un gd cn cs L0 a ccd cl outer) base (envX cn cs L0 a ccd cl :: outer) g) (X : (heapK w.params).In g) (T : Top q0 looseM mean mg mb g) (hck : cs.kind = ScopeKind.function) (hd : dp + 2 < recursionLimit) (hu : un + 8 * 2 < cLine)
    {lg : CbLed} {V b : Addr} {R : Rows} {ss : List Int} {text ways done kk other : Option Value} {l : List Nat} {tr tf : Tok} {far : Int} (hl : l.length = 7) (hcp : ∀ c ∈ l, c < 1114112)
    (hR : TabSix w lg V R) (hRl : (rowP far (plain R) (l, ss)).length ≤ 1000) (hb : ListIn lg b ss) (hbV : b ≠ V) (hbR : b ∉ adrs R) (hs : ss.length = 6) (hmul : MulOk far ss)
    (F : Fr g L s.heap (exM text ways done (some (.int far tf)) (some (.ref V)) (some (.str (tx l) tr)) (some (.ref b)) kk other)) (N : News g L s.heap lg)
    (hpost : ∀ (h' : Heap) (tk' : Nat) (lg' : CbLed) (R' : Rows) (k' other' : Option Value), Fr g L h' (exM text ways done (some (.int far tf)) (some (.ref V)) (some (.str (tx l) tr)) (some (.ref b)) k' other') → News g L h' lg' →
      TabSix w lg' V R' → plain R' = rowP far (plain R) (l, ss) → Grew lg lg' V (adrs R) (adrs R') → Post .next { s with heap := h', toks := tk' }) :
    wpAny (model PySem.Challenge.rw_wn0001_01.row.prog w) ((ktrTop dp un gd cn cs L0 a ccd cl outer).deeper (exEnv L)) (execs bodyR (exEnv L)) Post (fun _ _ => False) s := by
  revert X
  k_with_none
  k_fill
  intro X
  unfold exEnv
  k_with "my for" => (k_here; (with_unfolding_all refine For_invV g (by exact rfl) (by exact rfl) ?_ (by intro _; exact rfl) PassesOwn.never))
  k_with "my iter" => (k_here; refine Halt.of ?_)
  k_steps
  rename_i hrg hF hN _
  refine range_rule (n := 6) (m₀ := exM text ways done (some (.int far tf)) (some (.ref V)) (some (.str (tx l) tr)) (some (.ref b)) kk other) (lg₀ := lg)
    (fun i m lg' => ∃ R' k' o', m = exM text ways done (some (.int far tf)) (some (.ref V)) (some (.str (tx l) tr)) (some (.ref b)) k' o' ∧ TabSix w lg' V R' ∧ plain R' = (List.range i).foldl (turnP far l ss) (plain R) ∧ Grew lg lg' V (adrs R) (adrs R'))
    rfl hrg (by decide) (by decide) hF hN ⟨R, kk, other, rfl, hR, rfl, Grew.refl⟩ ?_ ?_
  · rintro i m₁ lg₁ own I oI h tk t hi ⟨R', k', o', rfl, hR', hpl, hG⟩ hoff hIo hown F₁ N₁
    rw [exM_k] at F₁
    have hIown : ∀ p ∈ own, p.1 ≠ V ∧ p.1 ∉ adrs R' := fun p hp => by
      rw [hown p hp]
      obtain ⟨oV, hV, _⟩ := hR'.tab.dict
      refine ⟨fun e => hoff _ hV e.symm, fun h' => ?_⟩
      obtain ⟨r, hr, e⟩ := List.mem_map.mp h'
      obtain ⟨vs, c, hm, _⟩ := hR'.tab.rows r hr
      exact hoff _ hm e
    have hbl : ListIn (own ++ lg₁) b ss := by
      obtain ⟨us, c, hm, hj⟩ := hb
      exact ⟨us, c, List.mem_append_right _ (hG.1 _ hm hbV hbR), hj⟩
    have hbR' : b ∉ adrs R' := by
      obtain ⟨us, c, hm, hj⟩ := hb
      exact hG.off hm hbR
    have hlen : R'.length ≤ 1000 := by
      have h1 : (plain R').length ≤ (rowP far (plain R) (l, ss)).length := by
        rw [hpl]
        obtain ⟨xs, hxs⟩ := range_cut (n := 6) (i := i) (by omega)
        unfold rowP
        rw [hxs, List.foldl_append]
        exact len_foldl _ (fun U k => len_turnP far l ss U k) _ _
      have h2 : (plain R').length = R'.length := by unfold plain; rw [List.length_map]
      omega
    have hoff0 : ∀ p ∈ lg, p.1 ≠ I := fun p hp => by
      obtain ⟨o, ho⟩ := hG.2.2 p hp
      exact hoff (p.1, o) ho
    have hmI : IntMulOk far (ss.drop ((i : Int) + 1).toNat).sum := hmul _
    refine turnK B X T hck hd hu (k := (i : Int)) ⟨by omega, by omega⟩ hl hcp (hR'.mono fun p hp => List.mem_append_right _ hp) hlen hbl hbV hbR' hs hmI F₁ N₁ fun h' tk' lg' R2 o2 F2 N2 hR2 hpl2 hG2 => ?_
    obtain ⟨lg2, N3, hoff3, hR3, hG3⟩ := turn_close N2 hIo hoff hR' hR2 hG hoff0 hIown hG2
    refine ⟨h', tk', _, lg2, rfl, F2, N3, hoff3, R2, _, o2, rfl, hR3, ?_, hG3⟩
    rw [hpl2, hpl, foldl_range_succ, Int.toNat_natCast]
  · rintro m₁ lg₁ h tk ⟨R', k', o', rfl, hR', hpl, hG⟩ F₁ N₁
    show wpAny _ _ (execs [] _) _ _ _
    refine wpAny_execs_nil ?_
    exact hpost h tk lg₁ R' k' o' F₁ N₁ hR' hpl hG
end
end Mine
end
section
open PySem PySem.W PyProof.Rows PySem.Calls PyProof.V
namespace Mine
theorem exM_far (t w d f la r s k o v : Option Value) : (fun y => if y = Str.ofString "far" then v else exM t w d f la r s k o y) = exM t w d v la r s k o := by
  funext y
  by_cases h : y = Str.ofString "far"
  · subst h; rfl
  · simp only [exM, if_neg h]
theorem exM_later (t w d f la r s k o v : Option Value) : (fun y => if y = Str.ofString "later" then v else exM t w d f la r s k o y) = exM t w d f v r s k o := by
  funext y
  by_cases h : y = Str.ofString "later"
  · subst h; rfl
  · simp only [exM, if_neg h]
theorem exM_ways (t w d f la r s k o v : Option Value) : (fun y => if y = Str.ofString "ways" then v else exM t w d f la r s k o y) = exM t v d f la r s k o := by
  funext y
  by_cases h : y = Str.ofString "ways"
  · subst h; rfl
  · simp only [exM, if_neg h]
theorem exM_done (t w d f la r s k o v : Option Value) : (fun y => if y = Str.ofString "done" then v else exM t w d f la r s k o y) = exM t w v f la r s k o := by
  funext y
  by_cases h : y = Str.ofString "done"
  · subst h; rfl
  · simp only [exM, if_neg h]
theorem exM_lf (t w d f la r s k o u v : Option Value) : (fun y => if y = Str.ofString "later" then v else if y = Str.ofString "far" then u else exM t w d f la r s k o y) = exM t w d u v r s k o := by
  funext y
  by_cases h : y = Str.ofString "later"
  · subst h; rfl
  · by_cases h2 : y = Str.ofString "far"
    · subst h2; rfl
    · simp only [exM, if_neg h, if_neg h2]
theorem exM_rs (t w d f la r s k o u v : Option Value) : (fun y => if y = Str.ofString "sums" then v else if y = Str.ofString "row" then u else exM t w d f la r s k o y) = exM t w d f la u v k o := by
  funext y
  by_cases h : y = Str.ofString "sums"
  · subst h; rfl
  · by_cases h2 : y = Str.ofString "row"
    · subst h2; rfl
    · simp only [exM, if_neg h, if_neg h2]
theorem TabSix.empty {w : World} {lg : CbLed} {V : Addr} {o : Obj} (h : (V, o) ∈ lg) (hd : o.IsDictOf (sK w) []) (hm : (V == sysModules) = false) : TabSix w lg V [] :=
  ⟨⟨⟨o, h, hd⟩, (fun _ h => nomatch h), hm, (fun h => nomatch h), .nil⟩, fun _ h => nomatch h⟩
theorem foldl_take {α β : Type} (f : β → α → β) (b : β) (xs : List α) {i : Nat} {a : α} (h : xs[i]? = some a) : (xs.take (i + 1)).foldl f b = f ((xs.take i).foldl f b) a := by
  rw [List.take_add_one, h, List.foldl_append]; rfl
@[reducible] def bodyD2 : List Stmt := (fun (x : List Stmt) (_ : bodyD.drop 2 = x) => x) ?x (by
  simp only [bodyD, List.drop]
  exact rfl)
/-- what is asked of a table ahead of a step -/
structure TabOk (far : Int) (T : Tab) : Prop where
  len : ∀ r ∈ T, r.1.length = 7
  cps : ∀ r ∈ T, ∀ c ∈ r.1, c < 1114112
  mul : ∀ r ∈ T, MulOk far r.2
  out : (stepP far T).length ≤ 1000
local macro_rules | `(tactic| walk_at "exec For Tuple Call cons nil") => `(tactic| k_extra "my for")
local macro_rules | `(tactic| walk_at "pyIter ref") => `(tactic| k_extra "my iter")
local macro_rules | `(tactic| walk_at "eval Dict nil nil") => `(tactic| k_extra "my empty")
local macro_rules | `(tactic| walk_at "call ref") => `(tactic| k_extra "my call")
local macro_rules | `(tactic| walk_at "execs cons") => `(tactic| k_extra "my stop")
section
variable {w : World} {mean : ExcName → Option Value} {mg mb : Str → Option Value} {dp un : Nat} {gd : Option (List Code)} {cn : Str} {cs : Scope} {a : Addr} {ccd : Value} {cl : List (Str × Addr)} {outer : List Env}
  {base g : Heap} {L0 L : Addr} {s : Shared} {Post : Flow → Shared → Prop}
set_option maxHeartbeats 4000000 in
theorem turnD2 (B : Below (ktrTop dp un gd cn cs L0 a ccd cl outer) base (envX cn cs L0 a ccd cl :: outer) g) (X : (heapK w.params).In g) (T : Top q0 looseM mean mg mb g) (hck : cs.kind = ScopeKind.function) (hd : dp + 2 < recursionLimit) (hu : un + 8 * 2 < cLine)
    {lg : CbLed} {W V : Addr} {oV : Obj} {R : Rows} {text row sums kk other : Option Value} {n : Nat} {td tf : Tok} {far : Int} (hR : TabSix w lg W R) (hok : TabOk far (plain R)) (hV : ∀ p ∈ lg, p.1 ≠ V) (hoV : oV.IsDictOf (sK w) []) (hVm : (V == sysModules) = false)
    (F : Fr g L s.heap (exM text (some (.ref W)) (some (.int n td)) (some (.int far tf)) (some (.ref V)) row sums kk other)) (N : News g L s.heap ((V, oV) :: lg))
    (hstop : ∀ (h' : Heap) (tk' : Nat) (lg' : CbLed) (m' : Str → Option Value), stepP far (plain R) = [] → Fr g L h' m' → News g L h' lg' → (∀ p ∈ lg, p ∈ lg') → Post (.ret (.ref W)) { s with heap := h', toks := tk' })
    (hpost : ∀ (h' : Heap) (tk' : Nat) (lg' : CbLed) (V : Addr) (R' : Rows) (far' later' row' sums' k' other' : Option Value), Fr g L h' (exM text (some (.ref V)) (some (.int n td)) far' later' row' sums' k' other') → News g L h' lg' →
      TabSix w lg' V R' → plain R' = stepP far (plain R) → plain R' ≠ [] → (∀ p ∈ lg, p ∈ lg') → (∀ p ∈ lg, p.1 ≠ V ∧ p.1 ∉ adrs R') → Post .next { s with heap := h', toks := tk' }) :
    wpAny (model PySem.Challenge.rw_wn0001_01.row.prog w) ((ktrTop dp un gd cn cs L0 a ccd cl outer).deeper (exEnv L)) (execs bodyD2 (exEnv L)) Post (fun _ _ => False) s := by
  revert X
  k_with_none
  k_fill
  intro X
  unfold exEnv
  obtain ⟨oW, hW, hoW⟩ := hR.tab.dict
  have hWV : W ≠ V := hV _ hW
  have hW1 : (W, oW) ∈ (V, oV) :: lg := .tail _ hW
  k_with "my for" => (k_here; (with_reducible rename Fr _ _ _ _ => lF9); (with_reducible rename News _ _ _ _ => lN9); with_unfolding_all ((refine For_turns (h₀ := g) lF9 ?_ (by intro _; exact rfl) PassesOwn.never); (refine MethodCall_ ?_); (refine ld lF9 (by rfl) ?_); (refine kdl_method (knd := sK w) PySem.F.slot_dict_items PySem.F.type_dict_items lN9 hW1 hoW ?_); (refine callWith_method0 ?_); (refine kta_callItems (knd := sK w) lF9 lN9 hW1 hoW hR.tab.notMod ?_); intro h9 hv9 F9 N9; refine Halt.of ?_))
  k_steps
  refine items_rule (knd := sK w) (kvs := keyed R) (m₀ := exM text (some (.ref W)) (some (.int n td)) (some (.int far tf)) (some (.ref V)) row sums kk other) (lg₀ := (V, oV) :: lg)
    (fun i m lg' => ∃ R' r' s' k' o', m = exM text (some (.ref W)) (some (.int n td)) (some (.int far tf)) (some (.ref V)) r' s' k' o' ∧ TabSix w lg' V R' ∧ plain R' = ((plain R).take i).foldl (rowP far) [] ∧ Grew ((V, oV) :: lg) lg' V [] (adrs R'))
    rfl rfl rfl rfl F9 N9 hv9 hW1 hoW ⟨[], row, sums, kk, other, rfl, TabSix.empty (.head _) hoV hVm, rfl, Grew.refl⟩ ?_ ?_
  · rintro i k v key m₁ lg₁ own I oI h tk hkv hkey ⟨R', r', s', k', o', rfl, hR', hpl, hG⟩ hoff hIo hown hoff0 F₁ N₁
    unfold keyed at hkv
    rw [List.getElem?_map, Option.map_eq_some_iff] at hkv
    obtain ⟨r, hri, he⟩ := hkv
    obtain ⟨rfl, rfl⟩ := Prod.mk.inj he
    obtain ⟨t, rfl⟩ := Value.isStrOf_shape hkey
    have hrm : r ∈ R := List.mem_of_getElem? hri
    have hrp : (r.1, r.2.2) ∈ plain R := List.mem_map.mpr ⟨r, hrm, rfl⟩
    have hpi : (plain R)[i]? = some (r.1, r.2.2) := by unfold plain; rw [List.getElem?_map, hri]; rfl
    rw [exM_rs] at F₁
    have hIown : ∀ p ∈ own, p.1 ≠ V ∧ p.1 ∉ adrs R' := fun p hp => by
      rcases hown p hp with e | e
      · rw [e]
        obtain ⟨oV', hV', _⟩ := hR'.tab.dict
        refine ⟨fun e => hoff _ hV' e.symm, fun h' => ?_⟩
        obtain ⟨r, hr, e⟩ := List.mem_map.mp h'
        obtain ⟨vs, c, hm, _⟩ := hR'.tab.rows r hr
        exact hoff _ hm e
      · rw [e]
        exact ⟨hWV, hG.off hW1 (fun h => nomatch h)⟩
    obtain ⟨us, c, hbm, hbi⟩ := hR.tab.rows r hrm
    have hbV : r.2.1 ≠ V := hV _ hbm
    have hlen : (rowP far (plain R') (r.1, r.2.2)).length ≤ 1000 := by
      refine Nat.le_trans ?_ hok.out
      rw [hpl, ← foldl_take (rowP far) [] (plain R) hpi]
      unfold stepP
      conv => rhs; rw [← List.take_append_drop (i + 1) (plain R), List.foldl_append]
      exact len_foldl _ (fun U a => len_rowP far U a) _ _
    refine turnR B X T hck hd hu (hok.len _ hrp) (hok.cps _ hrp) (hR'.mono fun p hp => List.mem_append_right _ hp) hlen ⟨us, c, List.mem_append_right _ (hG.1 _ (.tail _ hbm) hbV (fun h => nomatch h)), hbi⟩ hbV (hG.off (.tail _ hbm) (fun h => nomatch h)) (hR.six r hrm) (hok.mul _ hrp) F₁ N₁ fun h' tk' lg' R2 k2 o2 F2 N2 hR2 hpl2 hG2 => ?_
    obtain ⟨lg2, N3, hoff3, hR3, hG3⟩ := turn_close N2 hIo hoff hR' hR2 hG hoff0 hIown hG2
    exact ⟨h', tk', _, lg2, rfl, F2, N3, hoff3, R2, _, _, k2, o2, rfl, hR3, by rw [hpl2, hpl, foldl_take _ _ _ hpi], hG3⟩
  · rintro m₁ lg₁ h tk ⟨R', r', s', k', o', rfl, hR', hpl, hG⟩ F₁ N₁
    have hpl' : plain R' = stepP far (plain R) := by
      rw [hpl]
      have e : (keyed R).length = (plain R).length := by unfold keyed plain; rw [List.length_map, List.length_map]
      rw [e, List.take_length]; rfl
    have hlen : (keyed R').length ≤ 16777216 := by
      have e : (keyed R').length = (plain R').length := by unfold keyed plain; rw [List.length_map, List.length_map]
      have := hok.out
      rw [e, hpl']; omega
    have hkeep : ∀ p ∈ lg, p ∈ lg₁ := fun p hp => hG.1 p (.tail _ hp) (hV p hp) fun h => nomatch h
    obtain ⟨oV', hV', hoV'⟩ := hR'.tab.dict
    k_with "my call" => (k_here; (with_reducible show wpAny _ _ (call (Value.ref 46) [Value.ref _]) _ _ _); k_dflt (refine' use_claim (not_dict_call _ _ _ _ _ _ _ _ hV' hoV' hR'.tab.notMod hlen) ?k1 ?k2 ?k3 ?k4 ?k5 ?k6 ?k8 ?k9 ?_; (case k1 => k_asm); (case k2 => k_asm); (case k3 => k_asm); (case k4 => k_asm); (case k5 => k_asm); (case k6 => first | exact rfl | assumption); (case k8 => ktr_room); (case k9 => ktr_units)); intro h9 tk9 F9 N9; (try dsimp only))
    show wpAny _ _ (execs _ _) _ _ _
    k_steps
    · have e : stepP far (plain R) = [] := by
        rw [← hpl']
        have h1 : keyed R' = [] := List.isEmpty_iff.mp ‹_›
        unfold keyed at h1
        unfold plain
        rw [List.map_eq_nil_iff] at h1 ⊢
        exact h1
      exact hstop _ _ _ _ e F9 N9 hkeep
    · simp only [exM_ways] at *
      have e : plain R' ≠ [] := by
        intro h1
        have h2 : (keyed R').isEmpty = false := ‹_›
        unfold plain at h1
        rw [List.map_eq_nil_iff] at h1
        rw [h1] at h2
        cases h2
      exact hpost _ _ _ V R' _ _ _ _ _ _ (by k_asm) (by k_asm) hR' hpl' e hkeep fun p hp => ⟨hV p hp, hG.off (.tail _ hp) fun h => nomatch h⟩
set_option maxHeartbeats 4000000 in
theorem turnD (B : Below (ktrTop dp un gd cn cs L0 a ccd cl outer) base (envX cn cs L0 a ccd cl :: outer) g) (X : (heapK w.params).In g) (T : Top q0 looseM mean mg mb g) (hck : cs.kind = ScopeKind.function) (hd : dp + 2 < recursionLimit) (hu : un + 8 * 2 < cLine)
    {lg : CbLed} {W : Addr} {R : Rows} {text far later row sums kk other : Option Value} {n : Nat} {td : Tok} (hn : n < 13) (hR : TabSix w lg W R) (hok : TabOk (4096 ^ n) (plain R))
    (F : Fr g L s.heap (exM text (some (.ref W)) (some (.int n td)) far later row sums kk other)) (N : News g L s.heap lg)
    (hstop : ∀ (h' : Heap) (tk' : Nat) (lg' : CbLed) (m' : Str → Option Value), stepP (4096 ^ n) (plain R) = [] → Fr g L h' m' → News g L h' lg' → (∀ p ∈ lg, p ∈ lg') → Post (.ret (.ref W)) { s with heap := h', toks := tk' })
    (hpost : ∀ (h' : Heap) (tk' : Nat) (lg' : CbLed) (V : Addr) (R' : Rows) (far' later' row' sums' k' other' : Option Value), Fr g L h' (exM text (some (.ref V)) (some (.int n td)) far' later' row' sums' k' other') → News g L h' lg' →
      TabSix w lg' V R' → plain R' = stepP (4096 ^ n) (plain R) → plain R' ≠ [] → (∀ p ∈ lg, p ∈ lg') → (∀ p ∈ lg, p.1 ≠ V ∧ p.1 ∉ adrs R') → Post .next { s with heap := h', toks := tk' }) :
    wpAny (model PySem.Challenge.rw_wn0001_01.row.prog w) ((ktrTop dp un gd cn cs L0 a ccd cl outer).deeper (exEnv L)) (execs bodyD (exEnv L)) Post (fun _ _ => False) s := by
  revert X
  k_with_none
  k_fill
  intro X
  unfold exEnv
  obtain ⟨oW, hW, hoW⟩ := hR.tab.dict
  k_with "my empty" => (k_here; k_dflt (refine Dict_empty_made2 (by k_asm) (by k_asm) (modules_low (Top.nolimit T)) ?_); intro h9 oV F9 N9 lo9 hd9 _ _ _ hne9; (try dsimp only))
  k_with "my stop" => (k_here; (with_reducible show wpAny _ _ (execs (Stmt.For (Expr.Tuple _ _ _) _ _ _ _ :: _) _) _ _ _); refine Halt.of ?_)
  k_steps
  rename Fr _ _ _ _ => F5
  rw [exM_lf, Int.toNat_natCast] at F5
  exact turnD2 B X T hck hd hu hR hok hne9 hd9 lo9 F5 (by k_asm) hstop hpost
end
end Mine
end
section
open PySem PySem.W PyProof.Rows PySem.Calls PyProof.V
namespace Mine
/-- _law_exchanged, plain -/
def runP : Nat → Nat → Tab → Tab
  | 0, _, T => T
  | f + 1, d, T => if stepP (4096 ^ d) T = [] then T else runP f (d + 1) (stepP (4096 ^ d) T)
/-- the sizes are in bounds all along -/
def RunOk : Nat → Nat → Tab → Prop
  | 0, _, _ => True
  | f + 1, d, T => TabOk (4096 ^ d) T ∧ (stepP (4096 ^ d) T ≠ [] → RunOk f (d + 1) (stepP (4096 ^ d) T))
def one6 : List Int := [1, 0, 0, 0, 0, 0]
theorem runP_stop {f d : Nat} {T : Tab} (h : stepP (4096 ^ d) T = []) : runP (f + 1) d T = T := by
  unfold runP; rw [if_pos h]
theorem runP_go {f d : Nat} {T : Tab} (h : stepP (4096 ^ d) T ≠ []) : runP (f + 1) d T = runP f (d + 1) (stepP (4096 ^ d) T) := by
  conv => lhs; unfold runP
  rw [if_neg h]
theorem exM_entry (v u : Option Value) (x : Value) (h : v = some x) : (fun y => if y = Str.ofString "ways" then u else List.lookup y [(Str.ofString "text", x)]) = exM v u none none none none none none none := by
  funext y
  by_cases h1 : y = Str.ofString "ways"
  · subst h1; rfl
  · by_cases h2 : y = Str.ofString "text"
    · subst h2; rw [h]; rfl
    · have e : (y == Str.ofString "text") = false := by simpa using h2
      simp only [exM, if_neg h1, if_neg h2, List.lookup_cons, e, List.lookup_nil]
      repeat' split
      all_goals rfl
theorem fr_eq {h₀ h : Heap} {L : Addr} {m m' : Str → Option Value} (F : Fr h₀ L h m) (e : m = m') : Fr h₀ L h m' := e ▸ F
theorem TabSix.first {w : World} {lg : CbLed} {a0 l' : Addr} {vs : List Value} {c : Nat} {oE o9 : Obj} {l : List Nat} {h₀ h : Heap} {L : Addr} (_ : News h₀ L h (upd ((l', listOf vs.toArray c) :: (a0, oE) :: lg) a0 o9)) (h1 : a0 < l') (hi : IntsAre vs one6) (hd : o9.IsDictOf (sK w) [(tx l, Value.ref l')]) (hm : (a0 == sysModules) = false) :
    TabSix w (upd ((l', listOf vs.toArray c) :: (a0, oE) :: lg) a0 o9) a0 [(l, l', one6)] := by
  refine ⟨⟨⟨o9, upd_self, hd⟩, ?_, hm, ?_, ?_⟩, ?_⟩
  · intro r hr
    rw [List.mem_singleton.mp hr]
    exact ⟨vs, c, mem_upd (.head _) (Nat.ne_of_gt h1), hi⟩
  · intro h
    exact absurd (List.mem_singleton.mp h) (Nat.ne_of_lt h1)
  · simp [adrs]
  · intro r hr
    rw [List.mem_singleton.mp hr]; rfl
local macro_rules | `(tactic| walk_at "exec For Name Call cons nil") => `(tactic| k_extra "my for")
local macro_rules | `(tactic| walk_at "pyIter ref") => `(tactic| k_extra "my iter")
local macro_rules | `(tactic| walk_at "Exists") => `(tactic| k_extra "my exists")
local macro_rules | `(tactic| walk_at "eval Dict") => `(tactic| k_extra "my dict")
set_option maxHeartbeats 4000000 in
theorem exchanged_call (w : World) (mean : ExcName → Option Value) (mg mb : Str → Option Value) (l : List Nat) (tkx : Tok) (lg : CbLed) (hrun : RunOk 13 0 [(l, one6)]) :
    Claim 2 w mean mg mb 88 lg [.str (tx l) tkx] (fun h₀ L m s Q => ∀ (W : Addr) (R : Rows) (lg' : CbLed) (h' : Heap) (tk' : Nat), TabSix w lg' W R → plain R = runP 13 0 [(l, one6)] → (∀ p ∈ lg, p ∈ lg') → Fr h₀ L h' m → News h₀ L h' lg' → Q (.ref W) { s with heap := h', toks := tk' }) := by
  unfold Claim
  k_with_none
  k_fill
  intros
  rename_i hret
  refine wpAny_call ?_
  k_dflt cell_enter
  k_with "my dict" => (k_here; (with_reducible rename Fr _ _ _ _ => kF9); (with_reducible rename News _ _ _ _ => kN9); (have hfr9 := fun p hp => Heap.lt_size (kN9 p hp).1); (have kN8 := News.push kF9 kN9 { cls := .type "dict", data := .dict #[] }); (have hlo9 := Fr.notModules kF9 (modules_low (Top.nolimit (by k_asm)))); refine Dict_made (knd := sK w) kF9 rfl rfl (List.cons_ne_nil _ _) (by decide) ?_; intro kF8; (try dsimp only))
  k_with "my exists" => (k_here; refine disp_end (by k_asm) (by k_asm) (.tail _ (.head _)) ?_; intro h9 o9 F9 N9 hd9; (try dsimp only))
  k_with "my for" => (k_here; (refine wpAny_mono (?_ : wpAny _ _ _ _ (fun _ _ => False) _) (fun _ _ x => x) (fun _ _ x => x.elim)); (with_reducible rename Fr _ _ _ _ => lF9); (with_unfolding_all refine For_invVF lF9 (by exact rfl) (by exact rfl) ?_ (by intro _; exact rfl) PassesOwn.never))
  k_with "my iter" => (k_here; refine Halt.of ?_)
  k_steps
  (with_reducible rename IsRange _ _ _ _ _ _ _ _ => hrg)
  (with_reducible rename News _ _ _ _ => N5)
  (with_reducible rename Fr _ _ _ _ => F5)
  obtain ⟨hal, hall⟩ := ‹_ ∧ AllLt _ lg›
  have t0 := TabSix.first (w := w) (lg := lg) (vs := [_, _, _, _, _, _]) (c := 0) (oE := { cls := .type "dict", data := .dict #[] }) (l := l) N5 hal (.cons 1 _ (.cons 0 _ (.cons 0 _ (.cons 0 _ (.cons 0 _ (.cons 0 _ .nil)))))) hd9 hlo9
  have F6 := fr_eq F5 (exM_entry (some (.str (tx l) tkx)) _ _ rfl)
  refine range_rule (n := 13) (lg₀ := _)
    (fun i m lg' => ∃ W R dn fa la ro su ko oo, m = exM (some (.str (tx l) tkx)) (some (.ref W)) dn fa la ro su ko oo ∧ TabSix w lg' W R ∧ runP (13 - i) i (plain R) = runP 13 0 [(l, one6)] ∧ RunOk (13 - i) i (plain R) ∧ ∀ p ∈ lg, p ∈ lg')
    rfl hrg (by decide) (by decide) F6 N5 ⟨_, _, none, none, none, none, none, none, none, rfl, t0, rfl, hrun, fun p hp => mem_upd (.tail _ (.tail _ hp)) (Nat.ne_of_lt (hfr9 _ hp))⟩ ?_ ?_
  · rintro i m₁ lg₁ own I oI h tk t hi ⟨W, R, dn, fa, la, ro, su, ko, oo, rfl, hR, hrp, hok, hlg⟩ hoff hIo hown F₁ N₁
    rw [exM_done] at F₁
    have e13 : 13 - i = (13 - (i + 1)) + 1 := by omega
    rw [e13] at hrp hok
    refine turnD (by assumption) (by assumption) (by assumption) (by assumption) (by assumption) (by assumption) hi (hR.mono fun p hp => List.mem_append_right _ hp) hok.1 F₁ N₁ ?_ ?_
    · intro h' tk' lg' m' hst F2 N2 hk2
      dsimp only [TurnEnd]
      k_steps
      have e : plain R = runP 13 0 [(l, one6)] := by rw [← hrp, runP_stop hst]
      exact hret W R lg' h' tk' (hR.mono fun p hp => hk2 p (List.mem_append_right _ hp)) e (fun p hp => hk2 p (List.mem_append_right _ (hlg p hp))) (by k_asm) (by k_asm)
    · intro h' tk' lg' V R' fa' la' ro' su' ko' oo' F2 N2 hR2 hpl2 hne2 hk2 hfr2
      have hst : stepP (4096 ^ i) (plain R) ≠ [] := by rw [← hpl2]; exact hne2
      have hI2 := hfr2 _ (List.mem_append_left lg₁ hIo)
      refine ⟨h', tk', _, lg'.filter fun p => !(p.1 == I), rfl, F2, fun p hp => ?_, fun p hp => by simpa using (List.mem_filter.mp hp).2, V, R', _, fa', la', ro', su', ko', oo', rfl, hR2.filter (Ne.symm hI2.1) hI2.2, ?_, ?_, fun p hp => List.mem_filter.mpr ⟨hk2 p (List.mem_append_right _ (hlg p hp)), by simpa using hoff p (hlg p hp)⟩⟩
      · rcases List.mem_append.mp hp with hp | hp
        · exact N2 p (hk2 p (List.mem_append_left _ hp))
        · exact N2 p (List.mem_filter.mp hp).1
      · rw [hpl2, ← hrp, runP_go hst]
      · rw [hpl2]; exact hok.2 hst
  · rintro m₁ lg₁ h tk ⟨W, R, dn, fa, la, ro, su, ko, oo, rfl, hR, hrp, hok, hlg⟩ F₁ N₁
    show wpAny _ _ (execs _ _) _ _ _
    k_steps
    exact hret W R lg₁ h tk hR hrp hlg (by k_asm) (by k_asm)
end Mine
end
section
namespace Mine
/-- tables upon kinds (0: a sign of C.4, 1: one of B.1, 2: a stranger), for the kernel to reckon with -/
abbrev NTab := List (List Nat × List Nat)
def nth : List Nat → Nat → Nat
  | [], _ => 0
  | a :: _, 0 => a
  | _ :: l, k + 1 => nth l k
def swapN : List Nat → Nat → List Nat
  | a :: b :: l, 0 => b :: a :: l
  | a :: l, k + 1 => a :: swapN l k
  | l, _ => l
def eqL : List Nat → List Nat → Bool
  | [], [] => true
  | a :: l, b :: m => Nat.beq a b && eqL l m
  | _, _ => false
def bumpN : List Nat → Nat → Nat → List Nat
  | [], _, _ => []
  | a :: l, 0, v => Nat.add a v :: l
  | a :: l, k + 1, v => a :: bumpN l k v
def sumN : List Nat → Nat
  | [] => 0
  | a :: l => Nat.add a (sumN l)
def gainN (far : Nat) : List Nat → Nat → Nat
  | [], _ => 0
  | a :: l, 0 => Nat.add a (Nat.mul far (sumN l))
  | a :: l, k + 1 => Nat.add a (gainN far l k)
def hasN : NTab → List Nat → Bool
  | [], _ => false
  | r :: U, x => eqL r.1 x || hasN U x
def addN : NTab → List Nat → Nat → Nat → NTab
  | [], _, _, _ => []
  | r :: U, x, k, v => (bif eqL r.1 x then (r.1, bumpN r.2 k v) else r) :: addN U x k v
def putN (U : NTab) (x : List Nat) (k v : Nat) : NTab := bif hasN U x then addN U x k v else addN (U ++ [(x, [0, 0, 0, 0, 0, 0])]) x k v
def turnN (far : Nat) (l ss : List Nat) (U : NTab) (k : Nat) : NTab :=
  bif Nat.beq (nth l k) 0 && Nat.beq (nth l (k + 1)) 1 then putN U (swapN l k) k (gainN far ss k) else U
def rowN (far : Nat) (U : NTab) (r : List Nat × List Nat) : NTab :=
  turnN far r.1 r.2 (turnN far r.1 r.2 (turnN far r.1 r.2 (turnN far r.1 r.2 (turnN far r.1 r.2 (turnN far r.1 r.2 U 0) 1) 2) 3) 4) 5
def stepN (far : Nat) : NTab → NTab → NTab
  | [], U => U
  | r :: T, U => stepN far T (rowN far U r)
def leL : List Nat → Bool
  | [] => true
  | a :: l => Nat.ble a (Nat.pow 2 700) && leL l
def okN : NTab → Bool
  | [] => true
  | r :: T => leL r.2 && okN T
def endN (x : List Nat) (u o : Nat) : NTab → Bool
  | [r] => eqL r.1 x && (Nat.beq (Nat.mul (sumN r.2) u) o && (leL r.2 && Nat.ble u (Nat.pow 2 1000)))
  | _ => false
/-- the run: fuel, 4096 ^ done, the table -/
def runN (x : List Nat) (u o : Nat) : Nat → Nat → NTab → Bool
  | 0, _, T => endN x u o T
  | f + 1, far, T => okN T && match stepN far T [] with
    | [] => endN x u o T
    | r :: U => Nat.ble U.length 900 && runN x u o f (Nat.mul far 4096) (r :: U)
/-- the numbers a, a + 1, .., as many as n -/
def upN : Nat → Nat → List Nat
  | 0, _ => []
  | n + 1, a => a :: upN n (Nat.add a 1)
def inN (w : List Nat) (j p r a u : Nat) (k : Nat → Nat → Nat → Nat → Bool) : List Nat → Bool
  | [] => k p r a u
  | i :: is => bif Nat.beq (nth w i) 0 then inN w j (Nat.add p 1) (Nat.add r a) (Nat.add a 1) (Nat.mul u (Nat.sub (Nat.pow 4096 (Nat.sub j i)) 1)) k is else inN w j p r a u k is
def outN (w : List Nat) (b p r u : Nat) (k : Nat → Nat → Nat → Bool) : List Nat → Bool
  | [] => k p r u
  | j :: js => bif Nat.beq (nth w j) 2 then outN w (Nat.add j 1) p r u k js
      else bif Nat.beq (nth w j) 1 then inN w j p r 0 u (fun p r _ u => outN w b p r u k js) (upN (Nat.sub j b) b) else outN w b p r u k js
def ovN : Nat → List Nat → Nat
  | o, [] => o
  | o, k :: ks => ovN (Nat.mul o (Nat.sub (Nat.pow 4096 k) 1)) ks
def toldN (w : List Nat) (k : Nat → Nat → Bool) : Bool := outN w 0 0 0 1 (fun p r u => k (ovN (Nat.pow 4096 r) (upN p 1)) u) (upN 7 0)
/-- the settled word; early and late behind it -/
def settN : List Nat → List Nat → List Nat → List Nat
  | [], e, l => e ++ l
  | c :: w, e, l => bif Nat.beq c 2 then (e ++ l) ++ c :: settN w [] [] else bif Nat.beq c 1 then settN w (e ++ [c]) l else settN w e (l ++ [c])
def chkN (w : List Nat) : Bool := toldN w fun o u => runN (settN w [] []) u o 13 1 [(w, [1, 0, 0, 0, 0, 0])]
def wordsN : Nat → List (List Nat)
  | 0 => [[]]
  | n + 1 => (wordsN n).flatMap fun r => [0 :: r, 1 :: r, 2 :: r]
end Mine
end
section
namespace Mine
theorem chk000 : ((wordsN 4).all fun r => chkN (0 :: 0 :: 0 :: r)) = true := by decide +kernel
theorem chk001 : ((wordsN 4).all fun r => chkN (0 :: 0 :: 1 :: r)) = true := by decide +kernel
theorem chk002 : ((wordsN 4).all fun r => chkN (0 :: 0 :: 2 :: r)) = true := by decide +kernel
theorem chk010 : ((wordsN 4).all fun r => chkN (0 :: 1 :: 0 :: r)) = true := by decide +kernel
theorem chk011 : ((wordsN 4).all fun r => chkN (0 :: 1 :: 1 :: r)) = true := by decide +kernel
theorem chk012 : ((wordsN 4).all fun r => chkN (0 :: 1 :: 2 :: r)) = true := by decide +kernel
theorem chk020 : ((wordsN 4).all fun r => chkN (0 :: 2 :: 0 :: r)) = true := by decide +kernel
theorem chk021 : ((wordsN 4).all fun r => chkN (0 :: 2 :: 1 :: r)) = true := by decide +kernel
theorem chk022 : ((wordsN 4).all fun r => chkN (0 :: 2 :: 2 :: r)) = true := by decide +kernel
theorem chk100 : ((wordsN 4).all fun r => chkN (1 :: 0 :: 0 :: r)) = true := by decide +kernel
theorem chk101 : ((wordsN 4).all fun r => chkN (1 :: 0 :: 1 :: r)) = true := by decide +kernel
theorem chk102 : ((wordsN 4).all fun r => chkN (1 :: 0 :: 2 :: r)) = true := by decide +kernel
theorem chk110 : ((wordsN 4).all fun r => chkN (1 :: 1 :: 0 :: r)) = true := by decide +kernel
theorem chk111 : ((wordsN 4).all fun r => chkN (1 :: 1 :: 1 :: r)) = true := by decide +kernel
theorem chk112 : ((wordsN 4).all fun r => chkN (1 :: 1 :: 2 :: r)) = true := by decide +kernel
theorem chk120 : ((wordsN 4).all fun r => chkN (1 :: 2 :: 0 :: r)) = true := by decide +kernel
theorem chk121 : ((wordsN 4).all fun r => chkN (1 :: 2 :: 1 :: r)) = true := by decide +kernel
theorem chk122 : ((wordsN 4).all fun r => chkN (1 :: 2 :: 2 :: r)) = true := by decide +kernel
theorem chk200 : ((wordsN 4).all fun r => chkN (2 :: 0 :: 0 :: r)) = true := by decide +kernel
theorem chk201 : ((wordsN 4).all fun r => chkN (2 :: 0 :: 1 :: r)) = true := by decide +kernel
theorem chk202 : ((wordsN 4).all fun r => chkN (2 :: 0 :: 2 :: r)) = true := by decide +kernel
theorem chk210 : ((wordsN 4).all fun r => chkN (2 :: 1 :: 0 :: r)) = true := by decide +kernel
theorem chk211 : ((wordsN 4).all fun r => chkN (2 :: 1 :: 1 :: r)) = true := by decide +kernel
theorem chk212 : ((wordsN 4).all fun r => chkN (2 :: 1 :: 2 :: r)) = true := by decide +kernel
theorem chk220 : ((wordsN 4).all fun r => chkN (2 :: 2 :: 0 :: r)) = true := by decide +kernel
theorem chk221 : ((wordsN 4).all fun r => chkN (2 :: 2 :: 1 :: r)) = true := by decide +kernel
theorem chk222 : ((wordsN 4).all fun r => chkN (2 :: 2 :: 2 :: r)) = true := by decide +kernel
end Mine
end
section
open PySem PySem.W PyProof.Rows PySem.Calls PyProof.V
namespace Mine
def kind (c : Nat) : Nat := if isC4 c = true then 0 else if isB1 c = true then 1 else 2
theorem b1_not4 : ∀ z ∈ b1S, isC4 z.toNat = false := by decide +kernel
theorem not4_of_b1 {c : Nat} (h : isB1 c = true) : isC4 c = false := by
  have := b1_not4 (c : Int) (List.contains_iff_mem.mp h)
  simpa using this
theorem kind0 (c : Nat) : Nat.beq (kind c) 0 = isC4 c := by
  unfold kind
  cases h4 : isC4 c
  · cases h1 : isB1 c <;> rfl
  · rfl
theorem kind1 (c : Nat) : Nat.beq (kind c) 1 = isB1 c := by
  unfold kind
  cases h1 : isB1 c
  · cases h4 : isC4 c <;> rfl
  · rw [not4_of_b1 h1]; rfl
theorem eqL_iff : ∀ {a b : List Nat}, eqL a b = true ↔ a = b
  | [], [] => by simp [eqL]
  | [], _ :: _ => by simp [eqL]
  | _ :: _, [] => by simp [eqL]
  | x :: a, y :: b => by
    rw [eqL, Bool.and_eq_true, eqL_iff, Nat.beq_eq, List.cons.injEq]
theorem kinds_inj : ∀ {x y : List Nat}, x.map kind = y.map kind → (∀ i, x.filter (fun c => kind c == i) = y.filter fun c => kind c == i) → x = y
  | [], [], _, _ => rfl
  | [], _ :: _, h, _ => by cases h
  | _ :: _, [], h, _ => by cases h
  | a :: x, b :: y, h, hf => by
    rw [List.map_cons, List.map_cons, List.cons.injEq] at h
    have h1 := hf (kind a)
    rw [List.filter_cons_of_pos (by simp), List.filter_cons_of_pos (by simp [h.1]), List.cons.injEq] at h1
    rw [h1.1, kinds_inj h.2 fun i => ?_]
    by_cases e : kind a = i
    · rw [← e]; exact h1.2
    · have h2 := hf i
      rwa [List.filter_cons_of_neg (by simpa using e), List.filter_cons_of_neg (by rw [← h.1]; simpa using e)] at h2
structure Reach (l0 x : List Nat) : Prop where
  len : x.length = 7
  cps : ∀ c ∈ x, c < 1114112
  same : ∀ i, x.filter (fun c => kind c == i) = l0.filter fun c => kind c == i
theorem Reach.inj {l0 x y : List Nat} (hx : Reach l0 x) (hy : Reach l0 y) (h : x.map kind = y.map kind) : x = y := kinds_inj h fun i => (hx.same i).trans (hy.same i).symm
theorem Reach.eqL {l0 x y : List Nat} (hx : Reach l0 x) (hy : Reach l0 y) : eqL (x.map kind) (y.map kind) = (x == y) := by
  rw [Bool.eq_iff_iff, eqL_iff, beq_iff_eq]
  exact ⟨fun h => hx.inj hy h, fun h => by rw [h]⟩
theorem nth_map : ∀ {l : List Nat} {k : Nat}, k < l.length → nth (l.map kind) k = kind (l.getD k 0)
  | [], _, h => absurd h (Nat.not_lt_zero _)
  | a :: _, 0, _ => rfl
  | a :: l, k + 1, h => by
    show nth (l.map kind) k = kind (l.getD k 0)
    exact nth_map (Nat.lt_of_succ_lt_succ h)
theorem swapAt_zero (a b : Nat) (l : List Nat) : swapAt (a :: b :: l) 0 = b :: a :: l := rfl
theorem swapAt_succ (a : Nat) (l : List Nat) (k : Nat) : swapAt (a :: l) (k + 1) = a :: swapAt l k := rfl
theorem swap_map : ∀ {l : List Nat} {k : Nat}, k + 1 < l.length → swapN (l.map kind) k = (swapAt l k).map kind
  | [], _, h => absurd h (Nat.not_lt_zero _)
  | [_], _, h => absurd h (by simp)
  | a :: b :: l, 0, _ => rfl
  | a :: b :: l, k + 1, h => by
    show kind a :: swapN ((b :: l).map kind) k = kind a :: (swapAt (b :: l) k).map kind
    rw [swap_map (Nat.lt_of_succ_lt_succ h)]
theorem swap_filter {q : Nat → Bool} : ∀ {l : List Nat} {k : Nat}, k + 1 < l.length → (q (l.getD k 0) = false ∨ q (l.getD (k + 1) 0) = false) → (swapAt l k).filter q = l.filter q
  | [], _, h, _ => absurd h (Nat.not_lt_zero _)
  | [_], _, h, _ => absurd h (by simp)
  | a :: b :: l, 0, _, hq => by
    rw [swapAt_zero]
    have hq' : q a = false ∨ q b = false := hq
    rcases hq' with h | h
    · rw [List.filter_cons (x := b), List.filter_cons_of_neg (a := a) (by rw [h]; decide), List.filter_cons_of_neg (a := a) (by rw [h]; decide), List.filter_cons (x := b)]
    · rw [List.filter_cons_of_neg (a := b) (by rw [h]; decide), List.filter_cons (x := a), List.filter_cons (x := a), List.filter_cons_of_neg (a := b) (by rw [h]; decide)]
  | a :: b :: l, k + 1, h, hq => by
    rw [swapAt_succ, List.filter_cons, List.filter_cons (x := a), swap_filter (Nat.lt_of_succ_lt_succ h) hq]
theorem mem_swap {l : List Nat} {k c : Nat} (hk : k + 1 < l.length) (h : c ∈ swapAt l k) : c ∈ l := by
  unfold swapAt at h
  rcases List.mem_append.mp h with h | h
  · rcases List.mem_append.mp h with h | h
    · exact List.mem_of_mem_take h
    · rw [List.mem_cons, List.mem_singleton] at h
      rcases h with h | h
      · rw [h, List.getD_eq_getElem?_getD, List.getElem?_eq_getElem hk]; exact List.getElem_mem hk
      · have hk' : k < l.length := by omega
        rw [h, List.getD_eq_getElem?_getD, List.getElem?_eq_getElem hk']; exact List.getElem_mem hk'
  · exact List.mem_of_mem_drop h
theorem Reach.swap {l0 l : List Nat} {k : Nat} (h : Reach l0 l) (hk : k < 6) (h4 : isC4 (l.getD k 0) = true) (h1 : isB1 (l.getD (k + 1) 0) = true) : Reach l0 (swapAt l k) := by
  have hl : k + 1 < l.length := by rw [h.len]; omega
  refine ⟨len_swap h.len hk, fun c hc => h.cps c (mem_swap hl hc), fun i => ?_⟩
  rw [swap_filter hl, h.same i]
  have e4 : kind (l.getD k 0) = 0 := by unfold kind; rw [if_pos h4]
  have e1 : kind (l.getD (k + 1) 0) = 1 := by unfold kind; rw [if_neg (by rw [not4_of_b1 h1]; decide), if_pos h1]
  rw [e4, e1]
  by_cases e : i = 0
  · right; subst e; rfl
  · left; simpa using fun h => e h.symm
def F (r : List Nat × List Int) : List Nat × List Nat := (r.1.map kind, r.2.map Int.toNat)
def Pos (s : List Int) : Prop := ∀ v ∈ s, 0 ≤ v
theorem toNat_add {a b : Int} (ha : 0 ≤ a) (hb : 0 ≤ b) : (a + b).toNat = Nat.add a.toNat b.toNat := by
  show _ = a.toNat + b.toNat
  omega
theorem toNat_mul {a b : Int} (ha : 0 ≤ a) (hb : 0 ≤ b) : (a * b).toNat = Nat.mul a.toNat b.toNat := by
  obtain ⟨m, rfl⟩ := Int.eq_ofNat_of_zero_le ha
  obtain ⟨n, rfl⟩ := Int.eq_ofNat_of_zero_le hb
  rw [← Int.natCast_mul]
  rfl
theorem Pos.head {a : Int} {l : List Int} (h : Pos (a :: l)) : 0 ≤ a := h a (.head _)
theorem Pos.tail {a : Int} {l : List Int} (h : Pos (a :: l)) : Pos l := fun v hv => h v (.tail _ hv)
theorem Pos.sum : ∀ {l : List Int}, Pos l → 0 ≤ l.sum
  | [], _ => by simp
  | a :: l, h => by rw [List.sum_cons]; have := h.head; have := h.tail.sum; omega
theorem sum_toNat : ∀ {l : List Int}, Pos l → sumN (l.map Int.toNat) = l.sum.toNat
  | [], _ => rfl
  | a :: l, h => by rw [List.sum_cons, toNat_add h.head h.tail.sum, ← sum_toNat h.tail]; rfl
theorem bump_nil (k : Nat) (v : Int) : bump [] k v = [] := rfl
theorem bump_zero (a : Int) (l : List Int) (v : Int) : bump (a :: l) 0 v = (a + v) :: l := rfl
theorem bump_succ (a : Int) (l : List Int) (k : Nat) (v : Int) : bump (a :: l) (k + 1) v = a :: bump l k v := rfl
theorem bump_toNat {v : Int} (hv : 0 ≤ v) : ∀ {l : List Int} {k : Nat}, Pos l → bumpN (l.map Int.toNat) k v.toNat = (bump l k v).map Int.toNat
  | [], _, _ => rfl
  | a :: l, 0, h => by
    show Nat.add a.toNat v.toNat :: l.map Int.toNat = (a + v).toNat :: l.map Int.toNat
    rw [toNat_add h.head hv]
  | a :: l, k + 1, h => by
    show a.toNat :: bumpN (l.map Int.toNat) k v.toNat = a.toNat :: (bump l k v).map Int.toNat
    rw [bump_toNat hv h.tail]
theorem bump_pos {v : Int} (hv : 0 ≤ v) : ∀ {l : List Int} {k : Nat}, Pos l → Pos (bump l k v)
  | [], _, h => h
  | a :: l, 0, h => by
    rw [bump_zero]
    intro x hx
    rcases List.mem_cons.mp hx with rfl | hx
    · have := h.head; omega
    · exact h.tail x hx
  | a :: l, k + 1, h => by
    rw [bump_succ]
    intro x hx
    rcases List.mem_cons.mp hx with rfl | hx
    · exact h.head
    · exact bump_pos hv h.tail x hx
theorem gain_nil (far : Int) (k : Nat) : gain far [] k = 0 := by unfold gain; simp
theorem gain_zero (far a : Int) (l : List Int) : gain far (a :: l) 0 = a + far * l.sum := by unfold gain; simp
theorem gain_succ (far a : Int) (l : List Int) (k : Nat) : gain far (a :: l) (k + 1) = a + gain far l k := by
  unfold gain
  rw [List.take_succ_cons, List.drop_succ_cons, List.sum_cons, Int.add_assoc]
theorem gain_pos {far : Int} (hf : 0 ≤ far) : ∀ {l : List Int} {k : Nat}, Pos l → 0 ≤ gain far l k
  | [], k, _ => by rw [gain_nil]; decide
  | a :: l, 0, h => by
    rw [gain_zero]
    have := h.head
    have := Int.mul_nonneg hf h.tail.sum
    omega
  | a :: l, k + 1, h => by
    rw [gain_succ]
    have := h.head
    have := gain_pos hf (k := k) h.tail
    omega
theorem gain_toNat {far : Int} (hf : 0 ≤ far) : ∀ {l : List Int} {k : Nat}, Pos l → gainN far.toNat (l.map Int.toNat) k = (gain far l k).toNat
  | [], k, _ => by rw [gain_nil]; rfl
  | a :: l, 0, h => by rw [gain_zero, toNat_add h.head (Int.mul_nonneg hf h.tail.sum), toNat_mul hf h.tail.sum, ← sum_toNat h.tail]; rfl
  | a :: l, k + 1, h => by rw [gain_succ, toNat_add h.head (gain_pos hf h.tail), ← gain_toNat hf h.tail]; rfl
/-- a table within reach -/
structure Fine (l0 : List Nat) (r : List Nat × List Int) : Prop where
  reach : Reach l0 r.1
  pos : Pos r.2
  six : r.2.length = 6
def Good (l0 : List Nat) (U : Tab) : Prop := ∀ r ∈ U, Fine l0 r
section
variable {l0 x : List Nat} {U : Tab} {k : Nat} {v far : Int}
theorem Good.head {r : List Nat × List Int} (h : Good l0 (r :: U)) : Fine l0 r := h r (.head _)
theorem Good.tail {r : List Nat × List Int} (h : Good l0 (r :: U)) : Good l0 U := fun q hq => h q (.tail _ hq)
theorem has_map (hx : Reach l0 x) : ∀ {U : Tab}, Good l0 U → hasN (U.map F) (x.map kind) = tHas U x
  | [], _ => rfl
  | r :: U, h => by
    have e := h.head.reach.eqL hx
    show (eqL (r.1.map kind) (x.map kind) || hasN (U.map F) (x.map kind)) = ((r.1 == x) || tHas U x)
    rw [e, has_map hx h.tail]
theorem add_map (hx : Reach l0 x) (hv : 0 ≤ v) : ∀ {U : Tab}, Good l0 U → addN (U.map F) (x.map kind) k v.toNat = (tAdd U x k v).map F
  | [], _ => rfl
  | r :: U, h => by
    have e := h.head.reach.eqL hx
    show (bif eqL (r.1.map kind) (x.map kind) then (r.1.map kind, bumpN (r.2.map Int.toNat) k v.toNat) else F r) :: addN (U.map F) (x.map kind) k v.toNat = F (if r.1 == x then (r.1, bump r.2 k v) else r) :: (tAdd U x k v).map F
    rw [e, add_map hx hv h.tail, bump_toNat hv h.head.pos]
    cases r.1 == x <;> rfl
theorem add_good (hv : 0 ≤ v) (h : Good l0 U) : Good l0 (tAdd U x k v) := by
  intro r hr
  obtain ⟨q, hq, rfl⟩ := List.mem_map.mp hr
  have f := h q hq
  show Fine l0 (if q.1 == x then (q.1, bump q.2 k v) else q)
  cases q.1 == x
  · exact f
  · exact ⟨f.reach, bump_pos hv f.pos, (len_bump _ _ _).trans f.six⟩
theorem zeros_fine (hx : Reach l0 x) : Fine l0 (x, zeros6) := ⟨hx, by unfold zeros6 Pos; simp, rfl⟩
theorem snoc_good (hx : Reach l0 x) (h : Good l0 U) : Good l0 (U ++ [(x, zeros6)]) := by
  intro r hr
  rcases List.mem_append.mp hr with hr | hr
  · exact h r hr
  · rw [List.mem_singleton.mp hr]; exact zeros_fine hx
theorem put_map (hx : Reach l0 x) (hv : 0 ≤ v) (h : Good l0 U) : putN (U.map F) (x.map kind) k v.toNat = (tPut U x k v).map F ∧ Good l0 (tPut U x k v) := by
  unfold putN tPut
  rw [has_map hx h]
  cases tHas U x
  · refine ⟨?_, add_good hv (snoc_good hx h)⟩
    simp only [cond_false, Bool.false_eq_true, if_false]
    rw [← add_map hx hv (snoc_good hx h), List.map_append]
    rfl
  · exact ⟨add_map hx hv h, add_good hv h⟩
theorem turn_map {l : List Nat} {ss : List Int} (hl : Reach l0 l) (hs : Pos ss) (hf : 0 ≤ far) (hk : k < 6) (h : Good l0 U) : turnN far.toNat (l.map kind) (ss.map Int.toNat) (U.map F) k = (turnP far l ss U k).map F ∧ Good l0 (turnP far l ss U k) := by
  have h1 : k < l.length := by rw [hl.len]; omega
  have h2 : k + 1 < l.length := by rw [hl.len]; omega
  unfold turnN turnP
  rw [nth_map h1, nth_map h2, kind0, kind1]
  cases e4 : isC4 (l.getD k 0)
  · exact ⟨rfl, h⟩
  · cases e1 : isB1 (l.getD (k + 1) 0)
    · exact ⟨rfl, h⟩
    · have p := put_map (k := k) (hl.swap hk e4 e1) (gain_pos hf (k := k) hs) h
      refine ⟨?_, p.2⟩
      show putN (U.map F) (swapN (l.map kind) k) k (gainN far.toNat (ss.map Int.toNat) k) = (tPut U (swapAt l k) k (gain far ss k)).map F
      rw [swap_map h2, gain_toNat hf hs]
      exact p.1
theorem row_map {r : List Nat × List Int} (hr : Fine l0 r) (hf : 0 ≤ far) (h : Good l0 U) : rowN far.toNat (U.map F) (F r) = (rowP far U r).map F ∧ Good l0 (rowP far U r) := by
  have t0 := turn_map (k := 0) hr.reach hr.pos hf (by decide) h
  have t1 := turn_map (k := 1) hr.reach hr.pos hf (by decide) t0.2
  have t2 := turn_map (k := 2) hr.reach hr.pos hf (by decide) t1.2
  have t3 := turn_map (k := 3) hr.reach hr.pos hf (by decide) t2.2
  have t4 := turn_map (k := 4) hr.reach hr.pos hf (by decide) t3.2
  have t5 := turn_map (k := 5) hr.reach hr.pos hf (by decide) t4.2
  refine ⟨?_, t5.2⟩
  show (turnN far.toNat (r.1.map kind) (r.2.map Int.toNat) (turnN far.toNat (r.1.map kind) (r.2.map Int.toNat) (turnN far.toNat (r.1.map kind) (r.2.map Int.toNat) (turnN far.toNat (r.1.map kind) (r.2.map Int.toNat) (turnN far.toNat (r.1.map kind) (r.2.map Int.toNat) (turnN far.toNat (r.1.map kind) (r.2.map Int.toNat) (U.map F) 0) 1) 2) 3) 4) 5) = _
  rw [t0.1, t1.1, t2.1, t3.1, t4.1, t5.1]
  rfl
theorem step_map (hf : 0 ≤ far) : ∀ {T U : Tab}, Good l0 T → Good l0 U → stepN far.toNat (T.map F) (U.map F) = (T.foldl (rowP far) U).map F ∧ Good l0 (T.foldl (rowP far) U)
  | [], U, _, h => ⟨rfl, h⟩
  | r :: T, U, ht, h => by
    have p := row_map ht.head hf h
    have q := step_map hf ht.tail p.2
    refine ⟨?_, q.2⟩
    show stepN far.toNat (T.map F) (rowN far.toNat (U.map F) (F r)) = _
    rw [p.1, q.1]
    rfl
end
end Mine
end
section
open PySem PySem.W PyProof.Rows PySem.Calls PyProof.V
namespace Mine
section
variable {l0 x : List Nat} {u o : Nat}
theorem pow_nat (d : Nat) : ((4096 : Int) ^ d).toNat = 4096 ^ d := by
  have e : (4096 : Int) ^ d = ((4096 ^ d : Nat) : Int) := by simp
  rw [e, Int.toNat_natCast]
theorem pow_nonneg (d : Nat) : (0 : Int) ≤ 4096 ^ d := by have := pw_pos d; omega
theorem leL_le : ∀ {s : List Int}, leL (s.map Int.toNat) = true → Pos s → ∀ v ∈ s, v ≤ 2 ^ 700
  | [], _, _, _, h => nomatch h
  | a :: l, h, hp, v, hv => by
    have h' : (Nat.ble a.toNat (Nat.pow 2 700) && leL (l.map Int.toNat)) = true := h
    rw [Bool.and_eq_true] at h'
    rcases List.mem_cons.mp hv with rfl | hv
    · have h1 : v.toNat ≤ 2 ^ 700 := Nat.le_of_ble_eq_true h'.1
      have h2 : ((2 ^ 700 : Nat) : Int) = 2 ^ 700 := by simp
      have := hp.head
      omega
    · exact leL_le h'.2 hp.tail v hv
theorem sum_le {B : Int} (hB : 0 ≤ B) : ∀ {s : List Int}, (∀ v ∈ s, v ≤ B) → s.sum ≤ s.length * B
  | [], _ => by simp
  | a :: l, h => by
    have h1 := sum_le hB (s := l) fun v hv => h v (.tail _ hv)
    have h2 := h a (.head _)
    have h3 : ((a :: l).length : Int) * B = l.length * B + B := by rw [List.length_cons, Int.natCast_add, Int.add_mul]; simp
    rw [List.sum_cons, h3]
    omega
theorem big_le : (6 : Int) * 2 ^ 700 ≤ 4096 ^ 60 := by decide +kernel
theorem two_pos : (0 : Int) ≤ 2 ^ 700 := by decide +kernel
theorem mul_fine {d : Nat} (hd : d ≤ 13) {s : List Int} (hp : Pos s) (h6 : s.length = 6) (hl : ∀ v ∈ s, v ≤ 2 ^ 700) : MulOk (4096 ^ d) s := by
  intro j
  have hp' : Pos (s.drop j) := fun v hv => hp v (List.mem_of_mem_drop hv)
  have h1 := sum_le two_pos (s := s.drop j) fun v hv => hl v (List.mem_of_mem_drop hv)
  have h2 : ((s.drop j).length : Int) * 2 ^ 700 ≤ 6 * 2 ^ 700 := by
    refine Int.mul_le_mul_of_nonneg_right ?_ two_pos
    rw [List.length_drop, h6]
    omega
  exact mul_ok (pow_nonneg d) (Int.le_refl _) hp'.sum (Int.le_trans h1 (Int.le_trans h2 big_le)) (by omega) (by omega)
theorem okN_mem : ∀ {T : Tab}, okN (T.map F) = true → ∀ r ∈ T, leL (r.2.map Int.toNat) = true
  | [], _, _, h => nomatch h
  | q :: T, h, r, hr => by
    have h' : (leL (q.2.map Int.toNat) && okN (T.map F)) = true := h
    rw [Bool.and_eq_true] at h'
    rcases List.mem_cons.mp hr with rfl | hr
    · exact h'.1
    · exact okN_mem h'.2 r hr
/-- what the last table is -/
structure EndOk (l0 x : List Nat) (u o : Nat) (T : Tab) (y : List Nat) (s : List Int) : Prop where
  is : T = [(y, s)]
  reach : Reach l0 y
  kinds : y.map kind = x
  eq : s.sum * (u : Int) = o
  mul : IntMulOk s.sum u
theorem u_le {u : Nat} (h : u ≤ 2 ^ 1000) : (u : Int) ≤ 4096 ^ 100 := by
  have h1 : (4096 : Nat) ^ 100 = 2 ^ 1200 := by rw [show (4096 : Nat) = 2 ^ 12 from rfl, ← Nat.pow_mul]
  have h2 : (2 : Nat) ^ 1000 ≤ 2 ^ 1200 := Nat.pow_le_pow_right (by decide) (by decide)
  have h3 : ((4096 ^ 100 : Nat) : Int) = 4096 ^ 100 := by simp
  have h4 : u ≤ 4096 ^ 100 := by rw [h1]; exact Nat.le_trans h h2
  rw [← h3]
  exact Int.ofNat_le.mpr h4
theorem end_ok {T : Tab} (g : Good l0 T) (h : endN x u o (T.map F) = true) : ∃ y s, EndOk l0 x u o T y s := by
  match T, g, h with
  | [], _, h => cases h
  | [(y, s)], g, h =>
    have h' : (eqL (y.map kind) x && (Nat.beq (Nat.mul (sumN (s.map Int.toNat)) u) o && (leL (s.map Int.toNat) && Nat.ble u (Nat.pow 2 1000)))) = true := h
    rw [Bool.and_eq_true, Bool.and_eq_true, Bool.and_eq_true, eqL_iff, Nat.beq_eq, sum_toNat g.head.pos] at h'
    have h2 : (s.sum.toNat : Int) = s.sum := Int.toNat_of_nonneg g.head.pos.sum
    refine ⟨y, s, rfl, g.head.reach, h'.1, ?_, ?_⟩
    · rw [← h'.2.1, ← h2]
      simp
    · have h3 := sum_le two_pos (leL_le h'.2.2.1 g.head.pos)
      have h6 : s.length = 6 := g.head.six
      rw [h6] at h3
      exact mul_ok g.head.pos.sum (Int.le_trans h3 big_le) (Int.natCast_nonneg u) (u_le (Nat.le_of_ble_eq_true h'.2.2.2)) (by decide) (by decide)
  | _ :: _ :: _, _, h => cases h
theorem run_ok : ∀ {f d : Nat} {T : Tab}, d + f = 13 → Good l0 T → runN x u o f (4096 ^ d) (T.map F) = true → RunOk f d T ∧ ∃ y s, EndOk l0 x u o (runP f d T) y s
  | 0, d, T, _, g, h => ⟨trivial, end_ok g h⟩
  | f + 1, d, T, hd, g, h => by
    have st := step_map (pow_nonneg d) g (fun _ h => nomatch h : Good l0 [])
    rw [pow_nat] at st
    have h' : (okN (T.map F) && match stepN (4096 ^ d) (T.map F) ([] : NTab) with
      | [] => endN x u o (T.map F)
      | r :: U => Nat.ble U.length 900 && runN x u o f (Nat.mul (4096 ^ d) 4096) (r :: U)) = true := h
    rw [Bool.and_eq_true] at h'
    obtain ⟨hok, hst⟩ := h'
    have st1 : stepN (4096 ^ d) (T.map F) [] = (stepP (4096 ^ d) T).map F := st.1
    have st2 : Good l0 (stepP (4096 ^ d) T) := st.2
    rw [st1] at hst
    have tab : (stepP (4096 ^ d) T).length ≤ 1000 → TabOk (4096 ^ d) T := fun hl => ⟨fun r hr => (g r hr).reach.len, fun r hr => (g r hr).reach.cps, fun r hr => mul_fine (by omega) (g r hr).pos (g r hr).six (leL_le (okN_mem hok r hr) (g r hr).pos), hl⟩
    cases hU : stepP (4096 ^ d) T with
    | nil =>
      rw [hU] at hst tab
      refine ⟨⟨tab (Nat.zero_le _), fun h => absurd hU h⟩, ?_⟩
      rw [runP_stop hU]
      exact end_ok g hst
    | cons r U =>
      rw [hU] at hst tab st2
      have hst' : (Nat.ble (U.map F).length 900 && runN x u o f (Nat.mul (4096 ^ d) 4096) ((r :: U).map F)) = true := hst
      rw [Bool.and_eq_true] at hst'
      have hlen : (r :: U).length ≤ 1000 := by
        have h1 := Nat.le_of_ble_eq_true hst'.1
        rw [List.length_map] at h1
        rw [List.length_cons]; omega
      have hne : stepP (4096 ^ d) T ≠ [] := by rw [hU]; exact List.cons_ne_nil _ _
      have ih := run_ok (f := f) (d := d + 1) (by omega) st2 (by have := hst'.2; rwa [show Nat.mul (4096 ^ d) 4096 = 4096 ^ (d + 1) from (Nat.pow_succ ..).symm] at this)
      refine ⟨⟨tab hlen, fun _ => by rw [hU]; exact ih.1⟩, ?_⟩
      rw [runP_go hne, hU]
      exact ih.2
end
/-- a number's kind -/
def kindI (n : Int) : Nat := if n.fmod 8 = 7 then 2 else if n.fmod 2 = 1 then 1 else 0
theorem fm8 (n : Int) : n.fmod 8 = n % 8 := Int.fmod_eq_emod_of_nonneg _ (by decide)
theorem fm2 (n : Int) : n.fmod 2 = n % 2 := Int.fmod_eq_emod_of_nonneg _ (by decide)
theorem kindI0 (n : Int) : Nat.beq (kindI n) 0 = decide (n.fmod 2 = 0) := by
  unfold kindI
  rw [fm8, fm2]
  by_cases h8 : n % 8 = 7
  · rw [if_pos h8, decide_eq_false (by omega)]; rfl
  · rw [if_neg h8]
    by_cases h2 : n % 2 = 1
    · rw [if_pos h2, decide_eq_false (by omega)]; rfl
    · rw [if_neg h2, decide_eq_true (by omega)]; rfl
theorem kindI2 (n : Int) : Nat.beq (kindI n) 2 = decide (n.fmod 8 = 7) := by
  unfold kindI
  by_cases h8 : n.fmod 8 = 7
  · rw [if_pos h8, decide_eq_true h8]; rfl
  · rw [if_neg h8, decide_eq_false h8]
    split <;> rfl
theorem kindI1 {n : Int} (h : ¬ n.fmod 8 = 7) : Nat.beq (kindI n) 1 = decide (n.fmod 2 = 1) := by
  unfold kindI
  rw [if_neg h]
  by_cases h2 : n.fmod 2 = 1
  · rw [if_pos h2, decide_eq_true h2]; rfl
  · rw [if_neg h2, decide_eq_false h2]; rfl
theorem nthI : ∀ (ns : List Int) (i : Nat), nth (ns.map kindI) i = kindI (ns.getD i 0)
  | [], i => by cases i <;> rfl
  | a :: l, 0 => rfl
  | a :: l, i + 1 => nthI l i
def up (l : List Nat) : List Int := l.map fun i : Nat => (i : Int)
theorem pow_sub (n : Nat) : ((Nat.sub (Nat.pow 4096 n) 1 : Nat) : Int) = 4096 ^ n - 1 := by
  have h : 1 ≤ 4096 ^ n := Nat.one_le_pow _ _ (by decide)
  show ((4096 ^ n - 1 : Nat) : Int) = _
  rw [Int.natCast_sub h]
  simp
theorem in_eq (ns : List Int) (j : Nat) (k : Nat → Nat → Nat → Nat → Bool) : ∀ (is : List Nat) (p r a u : Nat), ∃ P R A U : Nat, (up is).foldl (tIn ns j) ((p : Int), (r : Int), (a : Int), (u : Int)) = ((P : Int), (R : Int), (A : Int), (U : Int)) ∧ inN (ns.map kindI) j p r a u k is = k P R A U
  | [], p, r, a, u => ⟨p, r, a, u, rfl, rfl⟩
  | i :: is, p, r, a, u => by
    have e0 : ((i : Int)).toNat = i := Int.toNat_natCast i
    have e1 : ((j : Int) - (i : Int)).toNat = Nat.sub j i := by show _ = j - i; omega
    show ∃ P R A U : Nat, (up is).foldl (tIn ns j) (tIn ns j ((p : Int), (r : Int), (a : Int), (u : Int)) (i : Int)) = _ ∧ (bif Nat.beq (nth (ns.map kindI) i) 0 then inN (ns.map kindI) j (Nat.add p 1) (Nat.add r a) (Nat.add a 1) (Nat.mul u (Nat.sub (Nat.pow 4096 (Nat.sub j i)) 1)) k is else inN (ns.map kindI) j p r a u k is) = _
    rw [nthI, kindI0]
    unfold tIn
    rw [e0, e1]
    by_cases h : (ns.getD i 0).fmod 2 = 0
    · obtain ⟨P, R, A, U, h1, h2⟩ := in_eq ns j k is (Nat.add p 1) (Nat.add r a) (Nat.add a 1) (Nat.mul u (Nat.sub (Nat.pow 4096 (Nat.sub j i)) 1))
      refine ⟨P, R, A, U, ?_, ?_⟩
      · rw [if_pos h, ← h1]
        have ea : ((Nat.add p 1 : Nat) : Int) = (p : Int) + 1 := rfl
        have eb : ((Nat.add r a : Nat) : Int) = (r : Int) + a := rfl
        have ec : ((Nat.add a 1 : Nat) : Int) = (a : Int) + 1 := rfl
        have ed : ((Nat.mul u (Nat.sub (Nat.pow 4096 (Nat.sub j i)) 1) : Nat) : Int) = (u : Int) * (4096 ^ (Nat.sub j i) - 1) := by rw [← pow_sub]; exact Int.natCast_mul _ _
        rw [ea, eb, ec, ed]
        rfl
      · rw [decide_eq_true h]; exact h2
    · obtain ⟨P, R, A, U, h1, h2⟩ := in_eq ns j k is p r a u
      refine ⟨P, R, A, U, ?_, ?_⟩
      · rw [if_neg h]; exact h1
      · rw [decide_eq_false h]; exact h2
theorem upN_range : ∀ (n a : Nat), rangeKs (a : Int) n = up (upN n a)
  | 0, _ => rfl
  | n + 1, a => by
    show rangeKs (a : Int) (n + 1) = (a : Int) :: up (upN n (Nat.add a 1))
    rw [← upN_range n (Nat.add a 1)]
    unfold rangeKs
    rw [List.range_succ_eq_map, List.map_cons, List.map_map]
    refine congr (congrArg _ (by simp)) (List.map_congr_left fun i _ => ?_)
    show (a : Int) + ((i + 1 : Nat) : Int) = ((a + 1 : Nat) : Int) + (i : Int)
    omega
theorem out_eq (ns : List Int) (k : Nat → Nat → Nat → Bool) : ∀ (js : List Nat) (b p r u : Nat), ∃ B P R U : Nat, (up js).foldl (tOut ns) ((b : Int), (p : Int), (r : Int), (u : Int)) = ((B : Int), (P : Int), (R : Int), (U : Int)) ∧ outN (ns.map kindI) b p r u k js = k P R U
  | [], b, p, r, u => ⟨b, p, r, u, rfl, rfl⟩
  | j :: js, b, p, r, u => by
    have e0 : ((j : Int)).toNat = j := Int.toNat_natCast j
    have e1 : ((j : Int) - (b : Int)).toNat = Nat.sub j b := by show _ = j - b; omega
    show ∃ B P R U : Nat, (up js).foldl (tOut ns) (tOut ns ((b : Int), (p : Int), (r : Int), (u : Int)) (j : Int)) = _ ∧ (bif Nat.beq (nth (ns.map kindI) j) 2 then outN (ns.map kindI) (Nat.add j 1) p r u k js
      else bif Nat.beq (nth (ns.map kindI) j) 1 then inN (ns.map kindI) j p r 0 u (fun p r _ u => outN (ns.map kindI) b p r u k js) (upN (Nat.sub j b) b) else outN (ns.map kindI) b p r u k js) = _
    rw [nthI, kindI2]
    unfold tOut
    rw [e0, e1]
    by_cases h7 : (ns.getD j 0).fmod 8 = 7
    · obtain ⟨B, P, R, U, h1, h2⟩ := out_eq ns k js (Nat.add j 1) p r u
      refine ⟨B, P, R, U, ?_, ?_⟩
      · rw [if_pos h7]; exact h1
      · rw [decide_eq_true h7]; exact h2
    · rw [if_neg h7, decide_eq_false h7, kindI1 h7]
      by_cases h1 : (ns.getD j 0).fmod 2 = 1
      · rw [if_pos h1, decide_eq_true h1]
        obtain ⟨P', R', A', U', g1, g2⟩ := in_eq ns j (fun p r _ u => outN (ns.map kindI) b p r u k js) (upN (Nat.sub j b) b) p r 0 u
        obtain ⟨B, P, R, U, h3, h4⟩ := out_eq ns k js b P' R' U'
        refine ⟨B, P, R, U, ?_, g2.trans h4⟩
        rw [← upN_range] at g1
        have g1' : List.foldl (tIn ns (j : Int)) ((p : Int), (r : Int), 0, (u : Int)) (rangeKs (b : Int) (Nat.sub j b)) = ((P' : Int), (R' : Int), (A' : Int), (U' : Int)) := g1
        dsimp only
        rw [g1']
        exact h3
      · rw [if_neg h1, decide_eq_false h1]
        exact out_eq ns k js b p r u
theorem ov_eq : ∀ (ks : List Nat) (o : Nat), ((ovN o ks : Nat) : Int) = (up ks).foldl (fun o k => o * (4096 ^ k.toNat - 1)) (o : Int)
  | [], _ => rfl
  | k :: ks, o => by
    show ((ovN (Nat.mul o (Nat.sub (Nat.pow 4096 k) 1)) ks : Nat) : Int) = (up ks).foldl (fun o k => o * (4096 ^ k.toNat - 1)) ((o : Int) * (4096 ^ ((k : Int)).toNat - 1))
    rw [ov_eq ks, Int.toNat_natCast, ← pow_sub]
    rfl
theorem told_eq (ns : List Int) (k : Nat → Nat → Bool) : ∃ O U : Nat, (O : Int) = toldO ns ∧ (U : Int) = toldU ns ∧ toldN (ns.map kindI) k = k O U := by
  obtain ⟨B, P, R, U, h1, h2⟩ := out_eq ns (fun p r u => k (ovN (Nat.pow 4096 r) (upN p 1)) u) (upN 7 0) 0 0 0 1
  have ha : tAll ns (rangeKs 0 7) = ((B : Int), (P : Int), (R : Int), (U : Int)) := by
    unfold tAll
    have := upN_range 7 0
    rw [show ((0 : Nat) : Int) = 0 from rfl] at this
    rw [this]; exact h1
  refine ⟨ovN (Nat.pow 4096 R) (upN P 1), U, ?_, ?_, h2⟩
  · unfold toldO overs
    rw [ha, ov_eq]
    have e1 : rangeKs 1 ((P : Int)).toNat = up (upN P 1) := by rw [Int.toNat_natCast]; exact upN_range P 1
    dsimp only
    rw [e1, Int.toNat_natCast]
    have e2 : ((Nat.pow 4096 R : Nat) : Int) = 4096 ^ R := by
      show ((4096 ^ R : Nat) : Int) = _
      simp
    rw [e2]
  · unfold toldU
    rw [ha]
end Mine
end
section
open PySem PySem.W PyProof.Rows PySem.Calls PyProof.V
namespace Mine
/-- the settled text's codes; early and late behind it -/
def settC : List Int → List Nat → List Nat → List Nat
  | [], e, l => e ++ l
  | n :: ns, e, l => if n.fmod 8 = 7 then (e ++ l) ++ signCp n :: settC ns [] [] else if n.fmod 2 = 1 then settC ns (e ++ [signCp n]) l else settC ns e (l ++ [signCp n])
theorem tx_append (a b : List Nat) : tx a ++ tx b = tx (a ++ b) := by
  show (⟨a.toArray ++ b.toArray⟩ : Str) = ⟨(a ++ b).toArray⟩
  rw [List.append_toArray]
theorem tx_one (n : Int) : signS n = tx [signCp n] := rfl
theorem tx_nil : Str.ofString "" = tx [] := by decide +kernel
theorem sett_fold : ∀ (ns : List Int) (t e l : List Nat), ∃ a b c : List Nat, ns.foldl setTurn (tx t, tx e, tx l) = (tx a, tx b, tx c) ∧ a ++ b ++ c = t ++ settC ns e l
  | [], t, e, l => ⟨t, e, l, rfl, by simp [settC]⟩
  | n :: ns, t, e, l => by
    rw [List.foldl_cons]
    unfold setTurn settC
    dsimp only
    by_cases h7 : n.fmod 8 = 7
    · rw [if_pos h7, if_pos h7, tx_one, tx_append, tx_append, tx_append, tx_nil]
      obtain ⟨a, b, c, h1, h2⟩ := sett_fold ns (t ++ e ++ l ++ [signCp n]) [] []
      exact ⟨a, b, c, h1, by rw [h2]; simp⟩
    · rw [if_neg h7, if_neg h7]
      by_cases h1 : n.fmod 2 = 1
      · rw [if_pos h1, if_pos h1, tx_one, tx_append]
        obtain ⟨a, b, c, h1, h2⟩ := sett_fold ns t (e ++ [signCp n]) l
        exact ⟨a, b, c, h1, h2⟩
      · rw [if_neg h1, if_neg h1, tx_one, tx_append]
        obtain ⟨a, b, c, h1, h2⟩ := sett_fold ns t e (l ++ [signCp n])
        exact ⟨a, b, c, h1, h2⟩
theorem settled_tx (ns : List Int) : settledS ns = tx (settC ns [] []) := by
  obtain ⟨a, b, c, h1, h2⟩ := sett_fold ns [] [] []
  have h3 : setSt ns = (tx a, tx b, tx c) := by unfold setSt; rw [tx_nil]; exact h1
  unfold settledS
  rw [h3]
  dsimp only
  rw [tx_append, tx_append, h2]
  rfl
theorem sign7 : ∀ i : Nat, i < 26 → kind (strangers.getD i 0).toNat = 2 ∧ (strangers.getD i 0).toNat < 1114112 := by decide +kernel
theorem sign1 : ∀ i : Nat, i < 27 → kind (if (i : Int) < 16 then 65024 + (i : Int) else b1Rest.getD ((i : Int) - 16).toNat 0).toNat = 1 ∧ (if (i : Int) < 16 then 65024 + (i : Int) else b1Rest.getD ((i : Int) - 16).toNat 0).toNat < 1114112 := by decide +kernel
theorem sign0 : ∀ i : Nat, i < 66 → kind (if (i : Int) < 32 then 64976 + (i : Int) else ((i : Int) - 32).fdiv 2 * 65536 + 65534 + ((i : Int)).fmod 2).toNat = 0 ∧ (if (i : Int) < 32 then 64976 + (i : Int) else ((i : Int) - 32).fdiv 2 * 65536 + 65534 + ((i : Int)).fmod 2).toNat < 1114112 := by decide +kernel
theorem fmod_nat (n : Int) {m : Int} (hm : 0 < m) : ∃ i : Nat, n.fmod m = (i : Int) ∧ (i : Int) < m := by
  have h0 : 0 ≤ n.fmod m := Int.fmod_nonneg_of_pos n hm
  have h1 : n.fmod m < m := Int.fmod_lt_of_pos n hm
  obtain ⟨i, hi⟩ := Int.eq_ofNat_of_zero_le h0
  exact ⟨i, hi, by rw [← hi]; exact h1⟩
theorem sign_kind (n : Int) : kind (signCp n) = kindI n ∧ signCp n < 1114112 := by
  unfold signCp signZ kindI
  by_cases h7 : n.fmod 8 = 7
  · rw [if_pos h7, if_pos h7]
    obtain ⟨i, hi, hl⟩ := fmod_nat (n.fdiv 8) (m := 26) (by decide)
    rw [hi, Int.toNat_natCast]
    exact sign7 i (by omega)
  · rw [if_neg h7, if_neg h7]
    by_cases h1 : n.fmod 2 = 1
    · rw [if_pos h1, if_pos h1]
      obtain ⟨i, hi, hl⟩ := fmod_nat (n.fdiv 8) (m := 27) (by decide)
      rw [hi]
      exact sign1 i (by omega)
    · rw [if_neg h1, if_neg h1]
      obtain ⟨i, hi, hl⟩ := fmod_nat (n.fdiv 8) (m := 66) (by decide)
      rw [hi]
      exact sign0 i (by omega)
def codes (ns : List Int) : List Nat := ns.map signCp
theorem kinds_codes (ns : List Int) : (codes ns).map kind = ns.map kindI := by
  unfold codes
  rw [List.map_map]
  exact List.map_congr_left fun n _ => (sign_kind n).1
theorem settN_nil (e l : List Nat) : settN [] e l = e ++ l := rfl
theorem settN_cons (c : Nat) (w e l : List Nat) : settN (c :: w) e l = bif Nat.beq c 2 then (e ++ l) ++ c :: settN w [] [] else bif Nat.beq c 1 then settN w (e ++ [c]) l else settN w e (l ++ [c]) := rfl
theorem settC_kinds : ∀ (ns : List Int) (e l : List Nat), (settC ns e l).map kind = settN (ns.map kindI) (e.map kind) (l.map kind)
  | [], e, l => by rw [List.map_nil, settN_nil]; unfold settC; rw [List.map_append]
  | n :: ns, e, l => by
    rw [List.map_cons, settN_cons, kindI2]
    unfold settC
    by_cases h7 : n.fmod 8 = 7
    · rw [if_pos h7, decide_eq_true h7, List.map_append, List.map_append, List.map_cons, settC_kinds ns [] [], (sign_kind n).1]
      rfl
    · rw [if_neg h7, decide_eq_false h7, kindI1 h7]
      by_cases h1 : n.fmod 2 = 1
      · rw [if_pos h1, decide_eq_true h1, settC_kinds ns _ _, List.map_append, List.map_cons, (sign_kind n).1]
        rfl
      · rw [if_neg h1, decide_eq_false h1, settC_kinds ns _ _, List.map_append, List.map_cons, (sign_kind n).1]
        rfl
theorem settC_filter {q : Nat → Bool} (hq : (∀ c, kind c = 0 → q c = false) ∨ (∀ c, kind c = 1 → q c = false)) : ∀ (ns : List Int) (e l : List Nat), (∀ c ∈ e, kind c = 1) → (∀ c ∈ l, kind c = 0) →
    (settC ns e l).filter q = e.filter q ++ l.filter q ++ (codes ns).filter q
  | [], e, l, _, _ => by unfold settC codes; simp
  | n :: ns, e, l, he, hl => by
    have hc : codes (n :: ns) = [signCp n] ++ codes ns := rfl
    have hk := (sign_kind n).1
    unfold kindI at hk
    unfold settC
    rw [hc, List.filter_append]
    by_cases h7 : n.fmod 8 = 7
    · rw [if_pos h7, List.filter_append, List.filter_append, List.filter_cons, settC_filter hq ns [] [] (fun _ h => nomatch h) (fun _ h => nomatch h), List.filter_cons]
      cases q (signCp n) <;> simp
    · rw [if_neg h7] at hk ⊢
      by_cases h1 : n.fmod 2 = 1
      · rw [if_pos h1] at hk ⊢
        rw [settC_filter hq ns (e ++ [signCp n]) l (fun c hc => by rcases List.mem_append.mp hc with h | h; exact he c h; rw [List.mem_singleton.mp h]; exact hk) hl, List.filter_append]
        have e1 : [signCp n].filter q ++ l.filter q = l.filter q ++ [signCp n].filter q := by
          rcases hq with hq | hq
          · have e0 : l.filter q = [] := List.filter_eq_nil_iff.mpr fun c hc => by rw [hq c (hl c hc)]; decide
            rw [e0]; simp
          · have e0 : [signCp n].filter q = [] := List.filter_eq_nil_iff.mpr fun c hc => by rw [List.mem_singleton.mp hc, hq _ hk]; decide
            rw [e0]; simp
        rw [List.append_assoc (e.filter q), e1]
        simp [List.append_assoc]
      · rw [if_neg h1] at hk ⊢
        rw [settC_filter hq ns e (l ++ [signCp n]) he (fun c hc => by rcases List.mem_append.mp hc with h | h; exact hl c h; rw [List.mem_singleton.mp h]; exact hk), List.filter_append]
        simp [List.append_assoc]
theorem settC_filter0 {q : Nat → Bool} (hq : (∀ c, kind c = 0 → q c = false) ∨ (∀ c, kind c = 1 → q c = false)) (ns : List Int) : (settC ns [] []).filter q = (codes ns).filter q := by
  rw [settC_filter hq ns [] [] (fun _ h => nomatch h) (fun _ h => nomatch h)]; rfl
theorem settC_len : ∀ (ns : List Int) (e l : List Nat), (settC ns e l).length = e.length + l.length + ns.length
  | [], e, l => by unfold settC; simp
  | n :: ns, e, l => by
    unfold settC
    split
    · rw [List.length_append, List.length_append, List.length_cons, settC_len ns [] [], List.length_cons]; simp
    · split
      · rw [settC_len ns _ _, List.length_append, List.length_cons]; simp; omega
      · rw [settC_len ns _ _, List.length_append, List.length_cons]; simp; omega
theorem settC_mem {c : Nat} : ∀ (ns : List Int) (e l : List Nat), c ∈ settC ns e l → c ∈ e ∨ c ∈ l ∨ ∃ n ∈ ns, c = signCp n
  | [], e, l, h => by
    unfold settC at h
    rcases List.mem_append.mp h with h | h
    · exact .inl h
    · exact .inr (.inl h)
  | n :: ns, e, l, h => by
    unfold settC at h
    split at h
    · rcases List.mem_append.mp h with h | h
      · rcases List.mem_append.mp h with h | h
        · exact .inl h
        · exact .inr (.inl h)
      · rcases List.mem_cons.mp h with h | h
        · exact .inr (.inr ⟨n, .head _, h⟩)
        · rcases settC_mem ns [] [] h with h | h | ⟨m, hm, h⟩
          · cases h
          · cases h
          · exact .inr (.inr ⟨m, .tail _ hm, h⟩)
    · split at h
      · rcases settC_mem ns _ _ h with h | h | ⟨m, hm, h⟩
        · rcases List.mem_append.mp h with h | h
          · exact .inl h
          · exact .inr (.inr ⟨n, .head _, List.mem_singleton.mp h⟩)
        · exact .inr (.inl h)
        · exact .inr (.inr ⟨m, .tail _ hm, h⟩)
      · rcases settC_mem ns _ _ h with h | h | ⟨m, hm, h⟩
        · exact .inl h
        · rcases List.mem_append.mp h with h | h
          · exact .inr (.inl h)
          · exact .inr (.inr ⟨n, .head _, List.mem_singleton.mp h⟩)
        · exact .inr (.inr ⟨m, .tail _ hm, h⟩)
theorem reach_codes {ns : List Int} (h : ns.length = 7) : Reach (codes ns) (codes ns) := by
  refine ⟨by unfold codes; rw [List.length_map, h], fun c hc => ?_, fun _ => rfl⟩
  obtain ⟨n, _, rfl⟩ := List.mem_map.mp hc
  exact (sign_kind n).2
theorem reach_settled {ns : List Int} (h : ns.length = 7) : Reach (codes ns) (settC ns [] []) := by
  refine ⟨by rw [settC_len, h]; rfl, fun c hc => ?_, fun i => settC_filter0 ?_ ns⟩
  · rcases settC_mem ns [] [] hc with h | h | ⟨n, _, rfl⟩
    · cases h
    · cases h
    · exact (sign_kind n).2
  · by_cases e : i = 0
    · right; intro c hc; rw [hc, e]; rfl
    · left; intro c hc; rw [hc]; simpa using fun h => e h.symm
theorem mem_words : ∀ (r : List Nat), (∀ c ∈ r, c < 3) → r ∈ wordsN r.length
  | [], _ => by simp [wordsN]
  | c :: r, h => by
    show c :: r ∈ (wordsN r.length).flatMap fun r => [0 :: r, 1 :: r, 2 :: r]
    refine List.mem_flatMap.mpr ⟨r, mem_words r fun d hd => h d (.tail _ hd), ?_⟩
    have := h c (.head _)
    have h3 : c = 0 ∨ c = 1 ∨ c = 2 := by omega
    rcases h3 with rfl | rfl | rfl <;> simp
theorem chk_all {a b c : Nat} {r : List Nat} (ha : a < 3) (hb : b < 3) (hc : c < 3) (hr : r ∈ wordsN 4) : chkN (a :: b :: c :: r) = true := by
  have h1 : a = 0 ∨ a = 1 ∨ a = 2 := by omega
  have h2 : b = 0 ∨ b = 1 ∨ b = 2 := by omega
  have h3 : c = 0 ∨ c = 1 ∨ c = 2 := by omega
  rcases h1 with rfl | rfl | rfl <;> rcases h2 with rfl | rfl | rfl <;> rcases h3 with rfl | rfl | rfl
  · exact List.all_eq_true.mp chk000 r hr
  · exact List.all_eq_true.mp chk001 r hr
  · exact List.all_eq_true.mp chk002 r hr
  · exact List.all_eq_true.mp chk010 r hr
  · exact List.all_eq_true.mp chk011 r hr
  · exact List.all_eq_true.mp chk012 r hr
  · exact List.all_eq_true.mp chk020 r hr
  · exact List.all_eq_true.mp chk021 r hr
  · exact List.all_eq_true.mp chk022 r hr
  · exact List.all_eq_true.mp chk100 r hr
  · exact List.all_eq_true.mp chk101 r hr
  · exact List.all_eq_true.mp chk102 r hr
  · exact List.all_eq_true.mp chk110 r hr
  · exact List.all_eq_true.mp chk111 r hr
  · exact List.all_eq_true.mp chk112 r hr
  · exact List.all_eq_true.mp chk120 r hr
  · exact List.all_eq_true.mp chk121 r hr
  · exact List.all_eq_true.mp chk122 r hr
  · exact List.all_eq_true.mp chk200 r hr
  · exact List.all_eq_true.mp chk201 r hr
  · exact List.all_eq_true.mp chk202 r hr
  · exact List.all_eq_true.mp chk210 r hr
  · exact List.all_eq_true.mp chk211 r hr
  · exact List.all_eq_true.mp chk212 r hr
  · exact List.all_eq_true.mp chk220 r hr
  · exact List.all_eq_true.mp chk221 r hr
  · exact List.all_eq_true.mp chk222 r hr
theorem kindI_lt (n : Int) : kindI n < 3 := by
  unfold kindI
  split
  · decide
  · split <;> decide
theorem chk_ns {ns : List Int} (h : ns.length = 7) : chkN (ns.map kindI) = true := by
  match ns, h with
  | a :: b :: c :: r, h =>
    have hr : r.length = 4 := by simpa using h
    have hm := mem_words (r.map kindI) fun d hd => by
      obtain ⟨n, _, rfl⟩ := List.mem_map.mp hd
      exact kindI_lt n
    rw [List.length_map, hr] at hm
    exact chk_all (kindI_lt a) (kindI_lt b) (kindI_lt c) hm
/-- the plain law -/
theorem plain_law {ns : List Int} (h : ns.length = 7) : RunOk 13 0 [(codes ns, one6)] ∧ ∃ s, runP 13 0 [(codes ns, one6)] = [(settC ns [] [], s)] ∧ s.sum * toldU ns = toldO ns ∧ IntMulOk s.sum (toldU ns) := by
  obtain ⟨O, U, hO, hU, ht⟩ := told_eq ns fun o u => runN (settN (ns.map kindI) [] []) u o 13 1 [(ns.map kindI, [1, 0, 0, 0, 0, 0])]
  have hc : runN (settN (ns.map kindI) [] []) U O 13 1 [(ns.map kindI, [1, 0, 0, 0, 0, 0])] = true := ht.symm.trans (chk_ns h)
  have g : Good (codes ns) [(codes ns, one6)] := fun r hr => by
    rw [List.mem_singleton.mp hr]
    exact ⟨reach_codes h, by unfold one6 Pos; simp, rfl⟩
  have e : ([(codes ns, one6)] : Tab).map F = [(ns.map kindI, [1, 0, 0, 0, 0, 0])] := by
    show [((codes ns).map kind, _)] = _
    rw [kinds_codes]; rfl
  rw [← e] at hc
  obtain ⟨h1, y, s, h2⟩ := run_ok (f := 13) (d := 0) rfl g hc
  refine ⟨h1, s, ?_, ?_, ?_⟩
  · rw [h2.is, h2.reach.inj (reach_settled h) (h2.kinds.trans (settC_kinds ns [] []).symm)]
  · rw [← hU, ← hO]; exact h2.eq
  · rw [← hU]; exact h2.mul
end Mine
end
section
open PySem PySem.W PyProof.Rows PySem.Calls PyProof.V
namespace Mine
open LCg LCt
section
variable {prog : Program} {w : World} {A : Around} {E : Value → Shared → Prop} {s : Shared} {h₀ : Heap} {L : Addr} {m : Str → Option Value} {env : Env}
theorem str_st {ty : String} {I : Addr} {x : Str} {t : Tok} : ∀ i (h h' : Heap) (o : Obj) (nw : List (Addr × Obj)), h.IsStrIter I ty x t i → h.get? I = some o → h'.get? I = some o → (∀ b o, h₀.get? b = some o → h'.get? b = some o) → News h₀ L h' nw → True → h'.IsStrIter I ty x t i :=
  fun i h h' o nw st e e' _ _ _ => by
    obtain ⟨o', q, r⟩ := st
    rw [e] at q; cases q
    exact ⟨o, e', r⟩
/-- a list made from a text's signs, by a test that may call -/
theorem ListComp_S {ct elt iter : Expr} {x : Str} {px : PySem.Pos} {scope : Scope} {cl : List (Str × Addr)} {pos : PySem.Pos} {Q : Value → Shared → Prop}
    (hclos : closureFor scope env = pure cl) (hcell : ∀ y ∈ scope.names, y.2 ≠ .cell) (hkind : scope.kind = .function)
    (hnames : ∀ y ∈ scope.names, y.2 = .local → scope.names.lookup y.1 = some .local) (hx : scope.names.lookup x = some .local)
    (h : wpAny (model prog w) A (eval iter env) (fun xv s₁ => ∃ y t news, xv = .str y t ∧ A.handled = none ∧ Fr h₀ L s₁.heap m ∧ News h₀ L s₁.heap news ∧ y.cps.size ≤ sizeLine ∧
      ∀ s₂ : Shared, (∃ h, s₂ = { s₁ with heap := h }) → CompRestT prog w A h₀ L m env ct elt x scope cl s₂ (fun _ => True) (SignAt y) (FinE h₀ L m s₂ Q) y.cps.size 0 [] news) E s)
    (hs : ∀ x, foldedSetIterable iter env x = pure x := by intro _; rfl) :
    wpAny (model prog w) A (eval (.ListComp elt [⟨.Name x px, iter, [ct], 0⟩] scope pos) env) Q E s := by
  rw [eval_ListComp]
  refine wpAny_comprehension_free (use := none) rfl hs hclos hkind hnames (wpAny_mono h (fun xv s₁ h₁ => ?_) fun _ _ e => e)
  obtain ⟨y, t, news, rfl, hh, F, N, hsz, R⟩ := h₁
  cases ha : y.cps.all (· < 128)
  · refine wpAny_pyIter_wide ha ?_
    have up : ∀ b o, s₁.heap.get? b = some o → (s₁.heap.push { cls := .type "str_iterator", data := .fields #[.str y t, .int 0 0] }).get? b = some o := fun b o e => Heap.get?_push_of_some _ e
    refine block_T (Walks.strWide hh s₁.heap.objs.size y t) hsz (fun i h st => by obtain ⟨o, e, _⟩ := st; exact ⟨o, e⟩) str_st hcell hkind hx ⟨_, Heap.get?_push_size _ rfl, rfl, rfl⟩ (fun b hb => ?_)
      (F.keeps up) (N.grown up) (Nat.ne_of_lt F.ns.lt) (next_is_new F) (fun p hp => Nat.ne_of_lt (Heap.lt_size (N p hp).1)) trivial (R _ ⟨_, rfl⟩) ?_
    · rw [List.mem_singleton.mp hb]
      show s₁.heap.objs.size < (s₁.heap.push _).objs.size
      rw [Heap.size_push]; exact Nat.lt_succ_self _
    · intro D C h tk m' ys news' F' N' o1 hn hC₀ hD₀ hCL hDL hCD offC fin
      refine ⟨m', hn, fun h'' hs'' => fin D h'' tk (F'.change hs'' hCL hC₀) (fun p hp => ?_) o1⟩
      refine ⟨hs''.extBut _ _ ?_ (N' p hp).1, (N' p hp).2⟩
      rcases List.mem_cons.mp hp with rfl | hp
      · exact Ne.symm hCD
      · exact offC p hp
  · refine wpAny_pyIter_ascii ha ?_
    have up : ∀ b o, s₁.heap.get? b = some o → (s₁.heap.push { cls := .type "str_ascii_iterator", data := .fields #[.str y t, .int 0 0] }).get? b = some o := fun b o e => Heap.get?_push_of_some _ e
    refine block_T (Walks.strAscii hh s₁.heap.objs.size y t) hsz (fun i h st => by obtain ⟨o, e, _⟩ := st; exact ⟨o, e⟩) str_st hcell hkind hx ⟨_, Heap.get?_push_size _ rfl, rfl, rfl⟩ (fun b hb => ?_)
      (F.keeps up) (N.grown up) (Nat.ne_of_lt F.ns.lt) (next_is_new F) (fun p hp => Nat.ne_of_lt (Heap.lt_size (N p hp).1)) trivial (R _ ⟨_, rfl⟩) ?_
    · rw [List.mem_singleton.mp hb]
      show s₁.heap.objs.size < (s₁.heap.push _).objs.size
      rw [Heap.size_push]; exact Nat.lt_succ_self _
    · intro D C h tk m' ys news' F' N' o1 hn hC₀ hD₀ hCL hDL hCD offC fin
      refine ⟨m', hn, fun h'' hs'' => fin D h'' tk (F'.change hs'' hCL hC₀) (fun p hp => ?_) o1⟩
      refine ⟨hs''.extBut _ _ ?_ (N' p hp).1, (N' p hp).2⟩
      rcases List.mem_cons.mp hp with rfl | hp
      · exact Ne.symm hCD
      · exact offC p hp
variable {ct elt : Expr} {x : Str} {scope : Scope} {cl : List (Str × Addr)} {S : List (Addr × Obj) → Prop} {P : Nat → Value → Prop} {Fin : List Value → List (Addr × Obj) → Prop} {news : List (Addr × Obj)} {α : Type}
/-- such a list is the texts of the items that pass -/
theorem rest_T {n : Nat} {as : List α} (val : α → Tok → Value) (q : α → Bool) (g : α → Str) (hks : as.length = n) (hP : ∀ i v, i < n → P i v → ∃ a t, as[i]? = some a ∧ v = val a t)
    (turn : ∀ a t I oI C oC D m₂ ys h tk (E' : Value → Shared → Prop), a ∈ as → NsObj oC m₂ → m₂ x = some (val a t) → Fr h₀ L h m → News h₀ L h ((I, oI) :: (C, oC) :: (D, lst ys) :: news) → Off3 I C D news → ((@Ne Nat I C) ∧ (@Ne Nat I D) ∧ (@Ne Nat C D)) → S news →
      wpAny (model prog w) A (isTrue ct (compEnvC scope cl C env) (eval ct (compEnvC scope cl C env))) (fun ok s' => if ok = true then
        wpAny (model prog w) A (eval elt (compEnvC scope cl C env)) (CompEnd h₀ L m { s with heap := h, toks := tk } I oI C oC D (lst ys) S (fun y news' => q a = true ∧ KCtEl news (g a) y news')) E' s'
        else CompEnd h₀ L m { s with heap := h, toks := tk } I oI C oC D (lst ys) S (fun _ news' => q a = false ∧ news' = news) Value.none s') E' { s with heap := h, toks := tk })
    (hS : S news) (fin : ∀ ys, StrsAre ys ((as.filter q).map g) → Fin ys news) : CompRestT prog w A h₀ L m env ct elt x scope cl s S P Fin n 0 [] news := by
  have key : ∀ (j i : Nat) (ys : List Value), i + j = n → StrsAre ys (((as.take i).filter q).map g) → CompRestT prog w A h₀ L m env ct elt x scope cl s S P Fin j i ys news := by
    intro j
    induction j with
    | zero =>
      intro i ys hi hy
      have e : i = as.length := by omega
      subst e
      rw [List.take_length] at hy
      exact CompRestT.zero (fin ys hy)
    | succ j ih =>
      intro i ys hi hy
      refine CompRestT.succ ?_
      intro v I oI C oC D m₂ h tk E' hv hC hx F N off ne
      obtain ⟨a, t, ha, hv'⟩ := hP i v (by omega) hv
      rw [hv'] at hx
      have hnx : as.take (i + 1) = as.take i ++ [a] := by rw [List.take_add_one, ha]; rfl
      refine wpAny_mono (turn a t I oI C oC D m₂ ys h tk E' (List.mem_of_getElem? ha) hC hx F N off ne hS) (fun ok s₂ hq => ?_) fun _ _ e => e
      cases ok with
      | true =>
        simp only [if_true] at hq ⊢
        refine wpAny_mono hq (fun y s₃ hq => ?_) fun _ _ e => e
        obtain ⟨h', tk', nw, e, F', N', off', hS', hqa, hn, t', hy'⟩ := hq
        rw [hn] at N' off' hS'
        refine ⟨h', tk', news, e, F', N', off', hS', ?_⟩
        rw [hy']
        refine ih (i + 1) _ (by omega) ?_
        rw [hnx, List.filter_append, List.filter_cons_of_pos hqa, List.filter_nil, List.map_append]
        exact kct_snoc hy
      | false =>
        simp only [Bool.false_eq_true, if_false] at hq ⊢
        obtain ⟨h', tk', nw, e, F', N', off', hS', hqa, hn⟩ := hq
        rw [hn] at N' off' hS'
        refine ⟨h', tk', news, e, F', N', off', hS', ?_⟩
        refine ih (i + 1) _ (by omega) ?_
        rw [hnx, List.filter_append, List.filter_cons_of_neg (by rw [hqa]; decide), List.filter_nil, List.append_nil]
        exact hy
  exact key n 0 [] (by omega) (by simp only [List.take_zero, List.filter_nil, List.map_nil]; exact .nil)
end
section
variable {prog : Program} {w : World} {A : Around} {E : Value → Shared → Prop} {s : Shared} {a b : Addr} {xs ys : List Value} {ns ms : List Str} {Q : Value → Shared → Prop}
theorem strs_canLay : ∀ {ns : List Str}, (∀ x ∈ ns, PyData.strOk x = true) → PyData.canLayAll0 (ns.map PyData.str) = true
  | [], _ => rfl
  | x :: r, h => by
    rw [List.map_cons, PyData.canLayAll0, PyData.canLay0, h x (.head _), strs_canLay fun y hy => h y (.tail _ hy)]; rfl
theorem strs_depth : ∀ ns : List Str, PyData.depthAll (ns.map PyData.str) = 0
  | [] => rfl
  | _ :: r => by simp [PyData.depthAll, PyData.depth, strs_depth r]
theorem strs_shaped {ns : List Str} (h : ∀ x ∈ ns, PyData.strOk x = true) : SeqAt.shaped (.list (ns.map PyData.str)) = true := by
  simp [SeqAt.shaped, PyData.canLay0, PyData.depth, strs_canLay h, strs_depth]
theorem strs_sameAll : ∀ ns ms : List Str, PySem.Spec.sameAll (ns.map PyData.str) (ms.map PyData.str) = decide (ns = ms)
  | [], [] => by simp [PySem.Spec.sameAll]
  | [], _ :: _ => by simp [PySem.Spec.sameAll]
  | _ :: _, [] => by simp [PySem.Spec.sameAll]
  | a :: r, b :: t => by
    simp only [List.map_cons, PySem.Spec.sameAll, PySem.Spec.same, strs_sameAll r t]
    by_cases h : a = b <;> by_cases h' : r = t <;> simp [h, h']
theorem ne_strs (ha : s.heap.IsList a xs.toArray) (hb : s.heap.IsList b ys.toArray) (hi : StrsAre xs ns) (hj : StrsAre ys ms) (hn : ∀ x ∈ ns, PyData.strOk x = true) (hm : ∀ x ∈ ms, PyData.strOk x = true) (hu : A.units + 64 < cLine) (h : Q (.bool (!decide (ns = ms))) s) :
    wpAny (model prog w) A (compareOp .NotEq (.ref a) (.ref b)) Q E s :=
  ne_dataH_same (reads_newData ha hi.carried) (reads_newData hb hj.carried) (strs_shaped hn) (strs_shaped hm) hu (SeqAt.noMix_of_shape (.list .str) rfl _ _ (list_map_has fun _ => rfl) (list_map_has fun _ => rfl))
    (by
      have e : PySem.Spec.same (.list (ns.map PyData.str)) (.list (ms.map PyData.str)) = decide (ns = ms) := by simp only [PySem.Spec.same]; exact strs_sameAll ns ms
      rw [e]; exact h)
end
end Mine
end
section
open PySem PySem.W PyProof.Rows PySem.Calls PyProof.V
namespace Mine
open LCg LCt
@[reducible] def lawBody : List Stmt := (fun (x : List Stmt) (_ : (fBody (stmtAt 13)).drop 2 = x) => x) ?x (by
  simp only [stmtAt, fBody, PySem.Challenge.pw_wn0001_01, List.getD_cons_succ, List.getD_cons_zero, List.drop]
  exact rfl)
@[reducible] def lawBody2 : List Stmt := (fun (x : List Stmt) (_ : lawBody.drop 3 = x) => x) ?x (by
  simp only [lawBody, List.drop]
  exact rfl)
@[reducible] def lawScope : Scope := (fun (x : Scope) (_ : fScope (stmtAt 13) = x) => x) ?x (by
  simp only [stmtAt, fScope, PySem.Challenge.pw_wn0001_01, List.getD_cons_succ, List.getD_cons_zero]
  exact rfl)
abbrev lawM (script drawn numbers ways settled over under : Option Value) : Str → Option Value := fun z =>
  if z = Str.ofString "under" then under else if z = Str.ofString "over" then over else if z = Str.ofString "settled" then settled else if z = Str.ofString "ways" then ways
  else if z = Str.ofString "numbers" then numbers else if z = Str.ofString "drawn" then drawn else if z = Str.ofString "script" then script else none
abbrev lawEnv (L fa cd : Addr) : Env := envOf (Str.ofString "law") lawScope L fa (.ref cd)
theorem join_fold : ∀ (r : List Int) (acc : List Nat), (r.map signS).foldl (fun acc p => acc ++ (Str.ofString "").cps ++ p.cps) acc.toArray = (acc ++ codes r).toArray
  | [], acc => by simp [codes]
  | n :: r, acc => by
    have e : acc.toArray ++ (Str.ofString "").cps ++ (signS n).cps = (acc ++ [signCp n]).toArray := by
      rw [show (Str.ofString "").cps = #[] from by decide +kernel]
      show acc.toArray ++ #[] ++ #[signCp n] = _
      simp
    rw [List.map_cons, List.foldl_cons, e, join_fold r]
    simp [codes]
theorem join_codes (ns : List Int) : Txt.join (Str.ofString "") (ns.map signS) = tx (codes ns) := by
  cases ns with
  | nil => rfl
  | cons n r =>
    show (⟨(r.map signS).foldl (fun acc p => acc ++ (Str.ofString "").cps ++ p.cps) [signCp n].toArray⟩ : Str) = tx (codes (n :: r))
    rw [join_fold]
    rfl
theorem news_dup {h₀ h : Heap} {L : Addr} {lg : CbLed} {p : Addr × Obj} (N : News h₀ L h lg) (hp : p ∈ lg) : News h₀ L h (p :: lg) := fun q hq => (List.mem_cons.mp hq).elim (fun e => e ▸ N p hp) (N q)
theorem strsOf : ∀ {ys : List Value} {ss : List Str}, CarriedAll ys (ss.map PyData.str) → StrsAre ys ss
  | [], [], _ => .nil
  | [], _ :: _, h => by cases h
  | _ :: _, [], h => by cases h
  | y :: ys, s :: ss, h => by
    cases h with
    | cons h1 h2 =>
      cases h1 with
      | str _ t => exact .cons s t (strsOf h2)
theorem join_sum : ∀ r : List Int, ((r.map signS).map (·.length)).sum = r.length
  | [] => rfl
  | n :: r => by
    rw [List.map_cons, List.map_cons, List.sum_cons, join_sum r, len_signS, List.length_cons]; omega
theorem join_fits {ns : List Int} (h : ns.length = 7) : ((ns.map signS).map (·.length)).sum + (ns.map signS).length * (Str.ofString "").length ≤ 16777216 := by
  rw [join_sum, h, show (Str.ofString "").length = 0 from by decide +kernel]
  omega
theorem plain_single {R : Rows} {y : List Nat} {fs : List Int} (h : plain R = [(y, fs)]) : ∃ r, R = [(y, r, fs)] := by
  match R, h with
  | [(y', r, fs')], h =>
    have e : (y', fs') = (y, fs) := by
      have : [(y', fs')] = [(y, fs)] := h
      exact List.head_eq_of_cons_eq this
    obtain ⟨rfl, rfl⟩ := Prod.mk.inj e
    exact ⟨r, rfl⟩
theorem sign_c4 (n : Int) : (!isC4 (signCp n)) = decide (n.fmod 2 = 1) := by
  rw [← kind0, (sign_kind n).1, kindI0, fm2, ← decide_not]
  exact decide_eq_decide.mpr (by omega)
theorem sign_b1 (n : Int) : (!isB1 (signCp n)) = (decide (n.fmod 8 = 7) || decide (n.fmod 2 = 0)) := by
  rw [← kind1, (sign_kind n).1]
  by_cases h7 : n.fmod 8 = 7
  · unfold kindI
    rw [if_pos h7, decide_eq_true h7]; rfl
  · rw [kindI1 h7, decide_eq_false h7, Bool.false_or, fm2, ← decide_not]
    exact decide_eq_decide.mpr (by omega)
theorem filter_codes (p : Nat → Bool) : ∀ ns : List Int, ((codes ns).filter p).map one = (ns.filter fun n => p (signCp n)).map signS
  | [] => rfl
  | n :: ns => by
    show ((signCp n :: codes ns).filter p).map one = _
    rw [List.filter_cons, List.filter_cons]
    cases p (signCp n)
    · exact filter_codes p ns
    · show one (signCp n) :: ((codes ns).filter p).map one = signS n :: (ns.filter fun n => p (signCp n)).map signS
      rw [filter_codes p ns]; rfl
theorem comp_c4 (ns : List Int) : ((settC ns [] []).filter fun c => !isC4 c).map one = (ns.filter fun n => decide (n.fmod 2 = 1)).map signS := by
  rw [settC_filter0 (.inl fun c hc => by rw [← kind0, hc]; rfl), filter_codes]
  refine congrArg _ (List.filter_congr fun n _ => sign_c4 n)
theorem comp_b1 (ns : List Int) : ((settC ns [] []).filter fun c => !isB1 c).map one = (ns.filter fun n => decide (n.fmod 8 = 7) || decide (n.fmod 2 = 0)).map signS := by
  rw [settC_filter0 (.inr fun c hc => by rw [← kind1, hc]; rfl), filter_codes]
  refine congrArg _ (List.filter_congr fun n _ => sign_b1 n)
theorem one_ok {c : Nat} (h : c < 1114112) : PyData.strOk (one c) = true := by
  show (#[c].all (· < 0x110000)) = true
  simp
  omega
theorem signs_ok (l : List Nat) (h : ∀ c ∈ l, c < 1114112) (p : Nat → Bool) : ∀ x ∈ (l.filter p).map one, PyData.strOk x = true := fun x hx => by
  obtain ⟨c, hc, rfl⟩ := List.mem_map.mp hx
  exact one_ok (h c (List.mem_filter.mp hc).1)
theorem tx_ok {l : List Nat} (h : ∀ c ∈ l, c < 1114112) : PyData.strOk (tx l) = true := by
  show l.toArray.all (· < 0x110000) = true
  rw [List.all_toArray, List.all_eq_true]
  intro c hc
  exact decide_eq_true (h c hc)
theorem sign_at {l : List Nat} (i : Nat) (v : Value) (_ : i < l.length) (h : SignAt (tx l) i v) : ∃ c t, l[i]? = some c ∧ v = .str (one c) t := by
  obtain ⟨c, u, h1, h2⟩ := h
  refine ⟨c, u, ?_, h2⟩
  have : l.toArray[i]? = some c := h1
  simpa using this
theorem int_at {vs : List Value} {ns : List Int} (hi : IntsAre vs ns) {i : Nat} {v : Value} (hv : vs.toArray[i]? = some v) : ∃ a t, ns[i]? = some a ∧ v = .int a t := by
  obtain ⟨k, t, e, hk⟩ := IntsAre.at hi i v (by simpa using hv)
  exact ⟨k, t, hk, e⟩
theorem nb1 {b : Bool} (h : (b == false) = true) : (!b) = true := by cases b <;> simp_all
theorem nb2 {b : Bool} (h : (b == false) = false) : (!b) = false := by cases b <;> simp_all
local macro_rules | `(tactic| walk_at "subscriptTail") => `(tactic| k_extra "my subscript")
local macro_rules | `(tactic| walk_at "call builtin:sum") => `(tactic| k_extra "my sum")
local macro_rules | `(tactic| walk_at "binaryOp Mult int int") => `(tactic| k_extra "my mult")
local macro_rules | `(tactic| walk_at "call ref") => `(tactic| k_extra "my call")
local macro_rules | `(tactic| walk_at "CompSrc") => `(tactic| k_extra "my src")
local macro_rules | `(tactic| walk_at "CompEnd") => `(tactic| k_extra "my end")
local macro_rules | `(tactic| walk_at "KPfDone") => `(tactic| k_extra "my done")
local macro_rules | `(tactic| walk_at "call builtin:str.join") => `(tactic| k_extra "my join")
local macro_rules | `(tactic| walk_at "call type:list") => `(tactic| k_extra "my list")
local macro_rules | `(tactic| walk_at "compareOp NotEq ref ref") => `(tactic| k_extra "my ne")
local macro_rules | `(tactic| walk_at "eval ListComp") => `(tactic| k_extra "my comp")
section
variable {w : World} {mean : ExcName → Option Value} {mg mb : Str → Option Value} {g : Heap} {L fa cd : Addr} {s : Shared} {Post : Flow → Shared → Prop} {E : Value → Shared → Prop}
set_option maxHeartbeats 8000000 in
theorem law_tail (B : Below callerA g [] g) (X : (heapK w.params).In g) (T : Top q0 looseM mean mg mb g)
    {lg : CbLed} {l W r9 : Addr} {vs : List Value} {c : Nat} {ns fs : List Int} {t0 : Tok} {script drawn : Option Value} (hi : IntsAre vs ns) (hn : ∀ n ∈ ns, 0 ≤ n ∧ n < 1000000) (hl : ns.length = 7)
    (heq : fs.sum * toldU ns = toldO ns) (hmul : IntMulOk fs.sum (toldU ns)) (hR : TabSix w lg W [(settC ns [] [], r9, fs)]) (hlm : (l, listOf vs.toArray c) ∈ lg)
    (F : Fr g L s.heap (lawM script drawn (some (.ref l)) (some (.ref W)) (some (.str (tx (settC ns [] [])) t0)) none none)) (N : News g L s.heap lg)
    (hpost : ∀ (h' : Heap) (tk' : Nat) (m' : Str → Option Value) (lg' : CbLed), Fr g L h' m' → News g L h' lg' → Post (.ret (.bool true)) { s with heap := h', toks := tk' }) :
    wpAny (model PySem.Challenge.rw_wn0001_01.row.prog w) (callerA.deeper (lawEnv L fa cd)) (execs lawBody2 (lawEnv L fa cd)) Post E s := by
  revert X
  k_with_none
  k_fill
  intro X
  unfold lawEnv
  obtain ⟨oW9, hW9, hoW9⟩ := hR.tab.dict
  obtain ⟨vs9, c9, hr9, hi9⟩ := hR.tab.rows _ (.head _)
  have hv9 : valueAt (keyed [(settC ns [] [], r9, fs)]) (tx (settC ns [] [])) = some (.ref r9) := by rw [valueAt_keyed]; simp
  have hlv9 : vs.length = ns.length := hi.length
  have hvl : vs.toArray.size ≤ sizeLine := by rw [List.size_toArray, hi.length, hl, sizeLine_eq]; decide
  have hsz9 : (tx (settC ns [] [])).cps.size ≤ sizeLine := by
    show (settC ns [] []).toArray.size ≤ sizeLine
    rw [List.size_toArray, (reach_settled hl).len, sizeLine_eq]; decide
  k_with "my comp" => (k_here; (with_reducible show wpAny _ _ (eval (Expr.ListComp _ [Comprehension.mk _ _ [Expr.Compare (Expr.Call (Expr.Name (Str.ofString "in_table_c4") _) _ _ _) _ _ _] _] _ _) _) _ _ _); (k_dflt (refine ListComp_S (m := lawM script drawn (some (.ref l)) (some (.ref W)) (some (.str (tx (settC ns [] [])) t0)) none none) (h₀ := g) (L := L) (by with_unfolding_all rfl) (by decide) (by rfl) (by decide) (by rfl) ?_ (by intro _; rfl)); k_dflt (refine ld (by k_asm) (by rfl) ?_); k_dflt (refine ⟨_, _, _, rfl, rfl, by k_asm, by k_asm, hsz9, fun s9 hs9 => ?_⟩); obtain ⟨g9, rfl⟩ := hs9; k_dflt (refine rest_T (as := settC ns [] []) (fun c t => .str (one c) t) (fun c => !isC4 c) one (by show _ = (settC ns [] []).toArray.size; simp) (fun i v hi9 hv9 => sign_at i v (by simpa [tx] using hi9) hv9) ?_ trivial ?_); rotate_left; (intro ys9 hy9; try dsimp only); rotate_left; (intro c9 t9 I9 oI9 C9 oC9 D9 m9 ys9 h9 tk9 E9 hc9 hC9 hx9 F9 N9 off9 ne9 S9; (try dsimp only at hx9 ⊢))))
  k_with "my comp" => (k_here; (with_reducible show wpAny _ _ (eval (Expr.ListComp _ [Comprehension.mk _ _ [Expr.Compare (Expr.Call (Expr.Name (Str.ofString "in_table_b1") _) _ _ _) _ _ _] _] _ _) _) _ _ _); (k_dflt (refine ListComp_S (m := lawM script drawn (some (.ref l)) (some (.ref W)) (some (.str (tx (settC ns [] [])) t0)) none none) (h₀ := g) (L := L) (by with_unfolding_all rfl) (by decide) (by rfl) (by decide) (by rfl) ?_ (by intro _; rfl)); k_dflt (refine ld (by k_asm) (by rfl) ?_); k_dflt (refine ⟨_, _, _, rfl, rfl, by k_asm, by k_asm, hsz9, fun s9 hs9 => ?_⟩); obtain ⟨g9, rfl⟩ := hs9; k_dflt (refine rest_T (as := settC ns [] []) (fun c t => .str (one c) t) (fun c => !isB1 c) one (by show _ = (settC ns [] []).toArray.size; simp) (fun i v hi9 hv9 => sign_at i v (by simpa [tx] using hi9) hv9) ?_ trivial ?_); rotate_left; (intro ys9 hy9; try dsimp only); rotate_left; (intro c9 t9 I9 oI9 C9 oC9 D9 m9 ys9 h9 tk9 E9 hc9 hC9 hx9 F9 N9 off9 ne9 S9; (try dsimp only at hx9 ⊢))))
  k_with "my comp" => (k_here; (with_reducible show wpAny _ _ (eval (Expr.ListComp _ [Comprehension.mk _ _ [Expr.Compare (Expr.BinOp _ _ _ _) _ _ _] _] _ _) _) _ _ _); (k_dflt (refine ListComp_T (h₀ := g) (F₀ := by k_asm) (by with_unfolding_all rfl) (by decide) (by rfl) (by decide) (by rfl) ?_ (by intro _; rfl)); k_dflt (refine ld (by k_asm) (by rfl) ?_); k_dflt (refine CompSrcT.ledger (by rfl) (by k_asm) (by k_asm) (by repeat (first | exact hlm | refine List.Mem.tail _ ?_)) hvl ?_); intro g9; k_dflt (refine rest_T (as := ns) (fun n t => .int n t) (fun n => decide (n.fmod 2 = 1)) signS (by rw [List.size_toArray]; exact hlv9.symm) (fun i v hi9 hv9 => int_at hi hv9) ?_ (.inr ⟨_, (by repeat (first | exact hlm | refine List.Mem.tail _ ?_)), rfl, _, rfl⟩) ?_); rotate_left; (intro ys9 hz9; try dsimp only); rotate_left; (intro c9 t9 I9 oI9 C9 oC9 D9 m9 ys9 h9 tk9 E9 hc9 hC9 hx9 F9 N9 off9 ne9 S9; (try dsimp only at hx9 ⊢))))
  k_with "my comp" => (k_here; (with_reducible show wpAny _ _ (eval (Expr.ListComp _ [Comprehension.mk _ _ [Expr.BoolOp _ _ _] _] _ _) _) _ _ _); (k_dflt (refine ListComp_T (h₀ := g) (F₀ := by k_asm) (by with_unfolding_all rfl) (by decide) (by rfl) (by decide) (by rfl) ?_ (by intro _; rfl)); k_dflt (refine ld (by k_asm) (by rfl) ?_); k_dflt (refine CompSrcT.ledger (by rfl) (by k_asm) (by k_asm) (by repeat (first | exact hlm | refine List.Mem.tail _ ?_)) hvl ?_); intro g9; k_dflt (refine rest_T (as := ns) (fun n t => .int n t) (fun n => decide (n.fmod 8 = 7) || decide (n.fmod 2 = 0)) signS (by rw [List.size_toArray]; exact hlv9.symm) (fun i v hi9 hv9 => int_at hi hv9) ?_ (.inr ⟨_, (by repeat (first | exact hlm | refine List.Mem.tail _ ?_)), rfl, _, rfl⟩) ?_); rotate_left; (intro ys9 hz9; try dsimp only); rotate_left; (intro c9 t9 I9 oI9 C9 oC9 D9 m9 ys9 h9 tk9 E9 hc9 hC9 hx9 F9 N9 off9 ne9 S9; (try dsimp only at hx9 ⊢))))
  k_with "my call" => (k_here; (with_reducible show wpAny _ _ (call (Value.ref 39) [Value.str _ _]) _ _ _); k_dflt (refine' c4_use ?k1 ?k2 ?k3 ?k4 ?k5 ?k6 ?k7 ?k8 ?k9 ?_; (case k1 => k_asm); (case k2 => k_asm); (case k3 => k_asm); (case k4 => k_asm); (case k5 => k_asm); (case k6 => first | exact rfl | assumption); (case k7 => exact (reach_settled hl).cps _ (by assumption)); (case k8 => ktr_room); (case k9 => ktr_units)); intro t9 h9 tk9 F9 N9; (try dsimp only))
  k_with "my call" => (k_here; (with_reducible show wpAny _ _ (call (Value.ref 32) [Value.str _ _]) _ _ _); k_dflt (refine' b1_use ?k1 ?k2 ?k3 ?k4 ?k5 ?k6 ?k7 ?k8 ?k9 ?_; (case k1 => k_asm); (case k2 => k_asm); (case k3 => k_asm); (case k4 => k_asm); (case k5 => k_asm); (case k6 => first | exact rfl | assumption); (case k7 => exact (reach_settled hl).cps _ (by assumption)); (case k8 => ktr_room); (case k9 => ktr_units)); intro t9 h9 tk9 F9 N9; (try dsimp only))
  k_with "my call" => (k_here; (with_reducible show wpAny _ _ (call (Value.ref 67) [Value.int _ _]) _ _ _); k_dflt (refine' sign_use ?k1 ?k2 ?k3 ?k4 ?k5 ?k6 ?k7 ?k8 ?k9 ?_; (case k1 => k_asm); (case k2 => k_asm); (case k3 => k_asm); (case k4 => k_asm); (case k5 => k_asm); (case k6 => first | exact rfl | assumption); (case k7 => exact hn _ (by assumption)); (case k8 => ktr_room); (case k9 => ktr_units)); intro t9 h9 tk9 F9 N9 hl9; (try dsimp only))
  k_with "my end" => (k_here; refine CompEnd.intro (by k_asm) (by k_asm) _ (fun _ h => h) off9 S9 ?_; first | exact ⟨by (first | exact nb1 (by assumption) | exact nb2 (by assumption) | exact decide_eq_true (by assumption) | exact decide_eq_false (by assumption) | (rw [Bool.or_eq_true, decide_eq_true_eq, decide_eq_true_eq]; first | exact .inl (by assumption) | exact .inr (by assumption)) | (rw [Bool.or_eq_false_iff, decide_eq_false_iff_not, decide_eq_false_iff_not]; exact ⟨by assumption, by assumption⟩)), rfl, _, rfl⟩ | exact ⟨by (first | exact nb1 (by assumption) | exact nb2 (by assumption) | exact decide_eq_true (by assumption) | exact decide_eq_false (by assumption) | (rw [Bool.or_eq_true, decide_eq_true_eq, decide_eq_true_eq]; first | exact .inl (by assumption) | exact .inr (by assumption)) | (rw [Bool.or_eq_false_iff, decide_eq_false_iff_not, decide_eq_false_iff_not]; exact ⟨by assumption, by assumption⟩)), rfl⟩)
  k_with "my ne" => (k_here; k_dflt (refine ne_strs (News.isList (by k_asm) (.tail _ (.head _))) (News.isList (by k_asm) (.head _)) hy9 hz9 (signs_ok _ (reach_settled hl).cps _) (by rw [← comp_c4]; exact signs_ok _ (reach_settled hl).cps _) (by units_room) ?_); (rw [decide_eq_true (comp_c4 ns)]))
  k_with "my ne" => (k_here; k_dflt (refine ne_strs (News.isList (by k_asm) (.tail _ (.head _))) (News.isList (by k_asm) (.head _)) hy9 hz9 (signs_ok _ (reach_settled hl).cps _) (by rw [← comp_b1]; exact signs_ok _ (reach_settled hl).cps _) (by units_room) ?_); (rw [decide_eq_true (comp_b1 ns)]))
  k_with "my call" => (k_here; (with_reducible show wpAny _ _ (call (Value.ref 81) _) _ _ _); (with_reducible rename News _ _ _ _ => kN9); k_dflt (have kN8 := news_dup (p := (l, listOf vs.toArray c)) kN9 (by repeat (first | exact hlm | refine List.Mem.tail _ ?_))); k_dflt (refine' use_claim (told_call _ _ _ _ l _ vs c ns hi hl) ?k1 ?k2 ?k3 ?k4 ?k5 ?k6 ?k8 ?k9 ?_; (case k1 => k_asm); (case k2 => k_asm); (case k3 => k_asm); (case k4 => exact kN8); (case k5 => k_asm); (case k6 => first | exact rfl | assumption); (case k8 => ktr_room); (case k9 => ktr_units)); intro D9 t9 u9 h9 tk9 F9 N9; (try dsimp only))
  k_with "my subscript" => (k_here; (with_reducible show wpAny _ _ (subscriptTail _ _ (Value.ref _) (Value.str _ _)) _ _ _); k_dflt (refine kda_item (knd := sK w) (by k_asm) (by repeat (first | exact hW9 | refine List.Mem.tail _ ?_)) hoW9 (strKind_is _ _ _ _) hv9 ?_); (try dsimp only))
  k_with "my sum" => (k_here; k_dflt (refine sumK (by with_unfolding_all rfl) (by k_asm) (by k_asm) (News.isList (by k_asm) (by repeat (first | exact hr9 | refine List.Mem.tail _ ?_))) hi9 ?_); intro h' tk' t' F' N'; (try dsimp only))
  k_with "my mult" => (k_here; refine PyProof.Rows.mul_int ?_ hmul; (try dsimp only))
  k_steps
  rw [show (fs.sum * toldU ns == toldO ns) = true from by rw [heq]; exact beq_self_eq_true _]
  exact hpost _ _ _ _ F' N'
end
end Mine
end
section
open PySem PySem.W PyProof.Rows PySem.Calls PyProof.V
namespace Mine
open LCg LCt
local macro_rules | `(tactic| walk_at "call ref") => `(tactic| k_extra "my call")
local macro_rules | `(tactic| walk_at "CompSrc") => `(tactic| k_extra "my src")
local macro_rules | `(tactic| walk_at "CompEnd") => `(tactic| k_extra "my end")
local macro_rules | `(tactic| walk_at "call builtin:str.join") => `(tactic| k_extra "my join")
local macro_rules | `(tactic| walk_at "call type:list") => `(tactic| k_extra "my list")
local macro_rules | `(tactic| walk_at "compareOp NotEq ref ref") => `(tactic| k_extra "my ne")
local macro_rules | `(tactic| walk_at "eval ListComp") => `(tactic| k_extra "my comp")
local macro_rules | `(tactic| walk_at "execs cons") => `(tactic| k_extra "my stop")
theorem lawM_ws (sc d n a b : Option Value) : (fun y => if y = Str.ofString "settled" then a else if y = Str.ofString "ways" then b else lawM sc d n none none none none y) = lawM sc d n b a none none := by
  funext y
  by_cases h : y = Str.ofString "settled"
  · subst h; rfl
  · by_cases h2 : y = Str.ofString "ways"
    · subst h2; rfl
    · simp only [lawM, if_neg h, if_neg h2]
section
variable {w : World} {mean : ExcName → Option Value} {mg mb : Str → Option Value} {g : Heap} {L fa cd : Addr} {s : Shared} {Post : Flow → Shared → Prop} {E : Value → Shared → Prop}
set_option maxHeartbeats 8000000 in
theorem law_rest (B : Below callerA g [] g) (X : (heapK w.params).In g) (T : Top q0 looseM mean mg mb g)
    {lg : CbLed} {l : Addr} {vs : List Value} {c : Nat} {ns : List Int} {script drawn : Option Value} (hi : IntsAre vs ns) (hn : ∀ n ∈ ns, 0 ≤ n ∧ n < 1000000) (hl : ns.length = 7)
    (F : Fr g L s.heap (lawM script drawn (some (.ref l)) none none none none)) (N : News g L s.heap ((l, listOf vs.toArray c) :: lg))
    (hpost : ∀ (h' : Heap) (tk' : Nat) (m' : Str → Option Value) (lg' : CbLed), Fr g L h' m' → News g L h' lg' → Post (.ret (.bool true)) { s with heap := h', toks := tk' }) :
    wpAny (model PySem.Challenge.rw_wn0001_01.row.prog w) (callerA.deeper (lawEnv L fa cd)) (execs lawBody (lawEnv L fa cd)) Post E s := by
  revert X
  k_with_none
  k_fill
  intro X
  unfold lawEnv
  obtain ⟨hrun, fs, hfin, heq, hmul⟩ := plain_law hl
  have hsz9 : (tx (settC ns [] [])).cps.size ≤ sizeLine := by
    show (settC ns [] []).toArray.size ≤ sizeLine
    rw [List.size_toArray, (reach_settled hl).len, sizeLine_eq]; decide
  have hlv9 : vs.length = ns.length := hi.length
  have hok9 : ∀ x ∈ [tx (settC ns [] [])], PyData.strOk x = true := fun x hx => by rw [List.mem_singleton.mp hx]; exact tx_ok (reach_settled hl).cps
  have hvl : vs.toArray.size ≤ sizeLine := by rw [List.size_toArray, hi.length, hl, sizeLine_eq]; decide
  k_with "my call" => (k_here; (with_reducible show wpAny _ _ (call (Value.ref 67) [Value.int _ _]) _ _ _); k_dflt (refine' sign_use ?k1 ?k2 ?k3 ?k4 ?k5 ?k6 ?k7 ?k8 ?k9 ?_; (case k1 => k_asm); (case k2 => k_asm); (case k3 => k_asm); (case k4 => k_asm); (case k5 => k_asm); (case k6 => first | exact rfl | assumption); (case k7 => exact hn _ (by assumption)); (case k8 => ktr_room); (case k9 => ktr_units)); intro t9 h9 tk9 F9 N9 hl9; (try dsimp only))
  k_with "my src" => (k_here; k_dflt (refine CompSrc.ledger (by rfl) (by k_asm) (by k_asm) (.head _) hvl ?_); intro g9; refine kct_list signS hi ?_ ?_; rotate_left; (try (intro k9 t9 I9 oI9 C9 oC9 D9 m9 ys9 h9 tk9 E9 hk9 hC9 hx9 F9 N9 off9 ne9 mark9)))
  k_with "my end" => (k_here; refine CompEnd.intro (by k_asm) (by k_asm) _ (fun _ h => h) (by assumption) (.inr ⟨_, .head _, rfl, _, rfl⟩) ⟨rfl, _, rfl⟩)
  k_with "my join" => (k_here; (with_reducible rename CarriedAll _ (List.map _ _) => hc9); have hs9 : StrsAre _ (ns.map signS) := strsOf (by rw [List.map_map]; exact hc9); k_dflt (refine join_list (News.isList (by k_asm) (.head _)) hs9 (join_fits hl) ?_); intro t9 k9; (try rw [join_codes]))
  k_with "my call" => (k_here; (with_reducible show wpAny _ _ (call (Value.ref 88) _) _ _ _); k_dflt (refine' use_claim (exchanged_call _ _ _ _ (codes ns) _ _ hrun) ?k1 ?k2 ?k3 ?k4 ?k5 ?k6 ?k8 ?k9 ?_; (case k1 => k_asm); (case k2 => k_asm); (case k3 => k_asm); (case k4 => k_asm); (case k5 => k_asm); (case k6 => first | exact rfl | assumption); (case k8 => ktr_room); (case k9 => ktr_units)); intro W9 R9 lg9 h9 tk9 hR9 hpl9 hk9 F9 N9; obtain ⟨r9, rfl⟩ := plain_single (hpl9.trans hfin); (try dsimp only))
  k_with "my call" => (k_here; (with_reducible show wpAny _ _ (call (Value.ref 74) _) _ _ _); (with_reducible rename News _ _ _ _ => kN9); k_dflt (have hlm9 : (l, listOf vs.toArray c) ∈ lg9 := hk9 _ (.tail _ (.head _))); have kN8 := news_dup kN9 hlm9; k_dflt (refine' use_claim (settled_call _ _ _ _ l _ vs c ns (by assumption) hn hl) ?k1 ?k2 ?k3 ?k4 ?k5 ?k6 ?k8 ?k9 ?_; (case k1 => k_asm); (case k2 => k_asm); (case k3 => k_asm); (case k4 => exact kN8); (case k5 => k_asm); (case k6 => first | exact rfl | assumption); (case k8 => ktr_room); (case k9 => ktr_units)); intro t9 h9 tk9 F9 N9; (try dsimp only); (try rw [settled_tx]))
  k_with "my list" => (k_here; k_dflt (obtain ⟨oW9, hW9, hoW9⟩ := hR9.tab.dict); k_dflt (refine kdl_list_keysS (by rfl) (by k_asm) (by k_asm) (.tail _ hW9) hoW9 hR9.tab.notMod (by show 1 ≤ 16777216; decide) (fun B9 c9 h9 tk9 t9 F9 N9 l9 => ?_)); (try dsimp only))
  k_with "my ne" => (k_here; k_dflt (refine ne_strs (News.isList (by k_asm) (.tail _ (.head _))) (News.isList (by k_asm) (.head _)) (.cons (tx (settC ns [] [])) _ .nil) (.cons (tx (settC ns [] [])) _ .nil) hok9 hok9 (by units_room) ?_); (rw [decide_eq_true rfl]))
  k_with "my stop" => (k_here; (with_reducible show wpAny _ _ (execs [Stmt.If (Expr.Compare (Expr.ListComp _ _ _ _) _ _ _) _ _ _, _, _, _] _) _ _ _); refine Halt.of ?_)
  k_steps
  rename Fr _ _ _ _ => F5
  rename News _ _ _ _ => N5
  exact law_tail B X T (by assumption) hn hl heq hmul (hR9.mono fun p hp => .tail _ (.tail _ (.tail _ hp))) (.tail _ (.tail _ (.head _))) (fr_eq F5 (lawM_ws _ _ _ _ _)) N5 hpost
end
end Mine
end
open PySem PySem.W PyProof.Rows PySem.Calls PyProof.V
namespace Mine
theorem lawM_entry (v : Value) (n d : Option Value) : (fun y => if y = Str.ofString "numbers" then n else if y = Str.ofString "drawn" then d else List.lookup y [(Str.ofString "script", v)]) = lawM (some v) d n none none none none := by
  funext y
  by_cases h : y = Str.ofString "numbers"
  · subst h; rfl
  · by_cases h2 : y = Str.ofString "drawn"
    · subst h2; rfl
    · by_cases h3 : y = Str.ofString "script"
      · subst h3; rfl
      · have e : (y == Str.ofString "script") = false := by simpa using h3
        simp only [lawM, if_neg h, if_neg h2, if_neg h3, List.lookup_cons, e, List.lookup_nil]
        repeat' split
        all_goals rfl
/-- the law's numbers -/
abbrev numbersOf (z : List Int) : List Int := List.map (fun k => k.fmod (10 ^ Int.toNat 6)) (List.take 7 z) ++ List.drop (((List.map (fun k => k.fmod (10 ^ 6)) (List.take 7 z)).length : Int)).toNat [248, 522, 209, 16, 131, 125, 1]
theorem numbers_len (z : List Int) : (numbersOf z).length = 7 := by
  unfold numbersOf
  rw [List.length_append, List.length_drop, List.length_map, List.length_map, List.length_take, Int.toNat_natCast]
  simp only [List.length_cons, List.length_nil]
  omega
theorem numbers_in (z : List Int) : ∀ n ∈ numbersOf z, 0 ≤ n ∧ n < 1000000 := by
  intro n hn
  rcases List.mem_append.mp hn with h | h
  · obtain ⟨k, _, rfl⟩ := List.mem_map.mp h
    have e : (10 : Int) ^ Int.toNat 6 = 1000000 := by decide
    rw [e]
    exact ⟨Int.fmod_nonneg_of_pos _ (by decide), Int.fmod_lt_of_pos _ (by decide)⟩
  · have h2 := List.mem_of_mem_drop h
    have : ∀ n ∈ ([248, 522, 209, 16, 131, 125, 1] : List Int), 0 ≤ n ∧ n < 1000000 := by decide
    exact this n h2
end Mine
local macro_rules | `(tactic| walk_at "execs cons") => `(tactic| k_extra "my stop")
set_option maxHeartbeats 8000000 in
theorem PySem.Challenge.cw_wn0001_01_holds : PySem.Challenge.rw_wn0001_01.Holds := by
  k_with_none
  w_on; o_law
  refine holds_open (q := Mine.q0) (loose := [Str.ofString "b1_set"]) (Xt := Mine.XtM) (XP := XL Mine.q0 []) (Yf := Mine.hook.obs) (Ya := Mine.hook.val) (YP := Mine.hook.says) (N := 3000) Mine.left_ok Mine.hook.of Mine.hook.keeps (fun s e => xl_of s (Bool.and_eq_true_iff.mp e).1) XL.keeps (by rfl) (by rfl) (by rfl) (fun s e => recFacts_of (Bool.and_eq_true_iff.mp e).2) (by rfl) (by assumption) (by decide +kernel) ⟨rfl, rfl, rfl, rfl, rfl, by decide +kernel⟩ ?hw ?hc
  (case hw => w_witness2)
  w_strict (k_go0; (all_goals try k_fold); (k_with "my stop" => (k_here; (with_reducible show wpAny _ _ (execs (Stmt.Assign [Expr.Name _ _] (Expr.Call (Expr.Name _ _) [Expr.Call _ _ _ _] _ _) _ :: _) _) _ _ _); refine Mine.Halt.of ?_)); k_steps; rename Fr _ _ _ _ => F5; rename News _ _ _ _ => N5; (refine Mine.law_rest (by assumption) (by assumption) (by assumption) (by assumption) (Mine.numbers_in _) (Mine.numbers_len _) (Mine.fr_eq F5 (Mine.lawM_entry _ _ _)) N5 (fun h' tk' m' lg' F' N' => ?_)); (try dsimp only); k_steps)
