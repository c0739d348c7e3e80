import PyProof.Rows.All
import Wide.All
import OpenK.AllK
import Wide.FinOn
import PySem.Challenge.RW_wa0010_01

section
open PySem PySem.W PyProof.Rows
set_option Elab.async false
set_option maxRecDepth 100000
set_option maxHeartbeats 8000000
namespace Mine

/-- a def of the text as the top leaves it: the i-th statement's own parts -/
def fnObj (i : Nat) (m : String) (mt c : Nat) : Obj := match PySem.Challenge.pw_wa0010_01.main.body[i]? with
  | some (.FunctionDef n ps b _ _ _ sc _ _ _) => { cls := .type "function", data := .func { name := n, qualname := n, params := ps, body := .stmts b, scope := sc, globals := 3, closure := [], defaults := .none, kwdefaults := .none, pyModule := .str (Str.ofString m) mt, code := .ref c } }
  | _ => default
def codeObj (n : String) (t line flags a b : Nat) (x y : Value) (z u : Nat) : Obj :=
  { cls := .type "code", data := .fields [.str (Str.ofString n) t, .str (Str.ofString n) (t + 1), .str (Str.ofString "/claim/cut.py") (t + 2), .int line 0, .int 1 0, .int 0 0, .int 0 0, .int flags 0, .ref a, .bool true, .int 181 0, .ref b, .none, x, y, .ref z,
    .int u 0, .int line 0, .str (Str.ofString "/claim/cut.py") (u + 1)].toArray }
def hd.heap_39 : Params → Frag := fun P => [(nat_lit 2, { cls := .none, data := .dict [{ hash := PyData.keyHash P (Str.ofString "type.__subclasses__.Exception.0"), key := .str (Str.ofString "type.__subclasses__.Exception.0") 205, val := .int 24 0 }, { hash := PyData.keyHash P (Str.ofString "type.__subclasses__.Exception.n"), key := .str (Str.ofString "type.__subclasses__.Exception.n") 206, val := .int 1 0 }].toArray 2 }),
  (nat_lit 3, { cls := .type "dict", data := .dict [{ hash := PyData.keyHash P (Str.ofString "__name__"), key := .str (Str.ofString "__name__") 165, val := .str (Str.ofString "law_wa0010_01") 281 },
    { hash := PyData.keyHash P (Str.ofString "__doc__"), key := .str (Str.ofString "__doc__") 166, val := .none },
    { hash := PyData.keyHash P (Str.ofString "__package__"), key := .str (Str.ofString "__package__") 167, val := .none },
    { hash := PyData.keyHash P (Str.ofString "__loader__"), key := .str (Str.ofString "__loader__") 168, val := .builtin "__main__.__loader__#opaque" },
    { hash := PyData.keyHash P (Str.ofString "__spec__"), key := .str (Str.ofString "__spec__") 169, val := .none },
    { hash := PyData.keyHash P (Str.ofString "__annotations__"), key := .str (Str.ofString "__annotations__") 170, val := .ref 6 },
    { hash := PyData.keyHash P (Str.ofString "__builtins__"), key := .str (Str.ofString "__builtins__") 171, val := .ref 4 },
    { hash := PyData.keyHash P (Str.ofString "__file__"), key := .str (Str.ofString "__file__") 173, val := .str (Str.ofString "/claim/cut.py") 172 },
    { hash := PyData.keyHash P (Str.ofString "__cached__"), key := .str (Str.ofString "__cached__") 174, val := .none },
    { hash := PyData.keyHash P (Str.ofString "Error"), key := .str (Str.ofString "Error") 208, val := .ref 24 },
    { hash := PyData.keyHash P (Str.ofString "error_reply"), key := .str (Str.ofString "error_reply") 224, val := .ref 37 },
    { hash := PyData.keyHash P (Str.ofString "parse257"), key := .str (Str.ofString "parse257") 235, val := .ref 46 },
    { hash := PyData.keyHash P (Str.ofString "_iter_escaped_chars"), key := .str (Str.ofString "_iter_escaped_chars") 247, val := .ref 53 },
    { hash := PyData.keyHash P (Str.ofString "_strip_quoted_realnames"), key := .str (Str.ofString "_strip_quoted_realnames") 259, val := .ref 60 },
    { hash := PyData.keyHash P (Str.ofString "_check_parenthesis"), key := .str (Str.ofString "_check_parenthesis") 269, val := .ref 67 },
    { hash := PyData.keyHash P (Str.ofString "ENDMARKER"), key := .str (Str.ofString "ENDMARKER") 273, val := .int 0 272 },
    { hash := PyData.keyHash P (Str.ofString "ISEOF"), key := .str (Str.ofString "ISEOF") 280, val := .ref 74 },
    { hash := PyData.keyHash P (Str.ofString "_law_text"), key := .str (Str.ofString "_law_text") 288, val := .ref 79 },
    { hash := PyData.keyHash P (Str.ofString "_law_depth"), key := .str (Str.ofString "_law_depth") 296, val := .ref 86 },
    { hash := PyData.keyHash P (Str.ofString "_law_points"), key := .str (Str.ofString "_law_points") 302, val := .ref 91 },
    { hash := PyData.keyHash P (Str.ofString "_law_lines"), key := .str (Str.ofString "_law_lines") 316, val := .ref 98 },
    { hash := PyData.keyHash P (Str.ofString "law"), key := .str (Str.ofString "law") 322, val := .ref 103 }].toArray 22 }),
  (nat_lit 6, { cls := .type "dict", data := .dict [].toArray }),
  (nat_lit 45, codeObj "parse257" 225 6 3 40 41 (.ref 42) (.ref 43) 44 233),
  (nat_lit 46, fnObj 3 "cpy313.ftplib" 187 45),
  (nat_lit 52, codeObj "_iter_escaped_chars" 238 24 35 47 48 (.ref 49) (.ref 50) 51 245),
  (nat_lit 53, fnObj 5 "cpy313.email.utils" 236 52),
  (nat_lit 59, codeObj "_strip_quoted_realnames" 248 37 3 54 55 (.ref 56) (.ref 57) 58 257),
  (nat_lit 60, fnObj 6 "cpy313.email.utils" 236 59),
  (nat_lit 66, codeObj "_check_parenthesis" 260 55 3 61 62 (.ref 63) (.ref 64) 65 267),
  (nat_lit 67, fnObj 7 "cpy313.email.utils" 236 66),
  (nat_lit 73, codeObj "ISEOF" 274 68 3 68 69 (.ref 70) (.ref 71) 72 278),
  (nat_lit 74, fnObj 10 "cpy313.token" 270 73),
  (nat_lit 78, codeObj "_law_text" 283 71 3 75 76 (.none) (.none) 77 286),
  (nat_lit 79, fnObj 12 "law_wa0010_01" 281 78),
  (nat_lit 85, codeObj "_law_depth" 289 76 3 80 81 (.ref 82) (.ref 83) 84 294),
  (nat_lit 86, fnObj 13 "law_wa0010_01" 281 85),
  (nat_lit 90, codeObj "_law_points" 297 81 3 87 88 (.none) (.none) 89 300),
  (nat_lit 91, fnObj 14 "law_wa0010_01" 281 90),
  (nat_lit 97, codeObj "_law_lines" 303 94 3 92 93 (.ref 94) (.ref 95) 96 314),
  (nat_lit 98, fnObj 15 "law_wa0010_01" 281 97),
  (nat_lit 102, codeObj "law" 317 110 3 99 100 (.none) (.none) 101 320),
  (nat_lit 103, fnObj 16 "law_wa0010_01" 281 102)]
def asL : List Addr := [2, 3, 6, 45, 46, 52, 53, 59, 60, 66, 67, 73, 74, 78, 79, 85, 86, 90, 91, 97, 98, 102, 103]
theorem asL_ok : ∀ P, asL = (hd.heap_39 P).map (·.1) := fun _ => rfl
abbrev Hk : Hook := kHook hd.heap_39 asL asL_ok
/-- what the top's names are read from: the text without its bare names of modules -/
def view : Program := { PySem.Challenge.pw_wa0010_01 with main := { PySem.Challenge.pw_wa0010_01.main with body := [1, 2, 3, 5, 6, 7, 9, 10, 12, 13, 14, 15, 16].filterMap fun i => PySem.Challenge.pw_wa0010_01.main.body[i]? } }
abbrev row0 : OpenRow := PySem.Challenge.rw_wa0010_01.row
theorem lo : LeftO (RowW.prog (OpenRow.toRowW row0)) view [] (fun s => xlAt view [] s && recOk (RowW.records (OpenRow.toRowW row0)) s) (Hook.obs Hk) (Hook.val Hk) 1642 := by
  intro w
  unfold openEnds topFrom fencedOpening
  -- the library's quick twins of topRun, importEnds, openSeen, fenceModules?, start, treeTable
  rw [PySem.W.Fast.te14082659384304107361, PySem.W.Fast.te10274390034422433532, PySem.W.Fast.te4187177175401517315, PySem.W.Fast.te14289696077712309145, PySem.W.Fast.te1435165496053646825, PySem.W.Fast.te14364793385576792824]
  kernel_rfl
theorem said : PySem.Challenge.rw_wa0010_01.wellSaid = true := by
  rw [PySem.W.Fast.te9446332074065402090] -- OpenLaw.wellSaid's quick twin
  kernel_rfl
end Mine
end

section
open PySem
namespace Mine
theorem abs_QE {M : Model} {A : Around} {α : Type} {t : Sem α} {Q : α → Shared → Prop} {E : Value → Shared → Prop} {s : Shared} (h : ∀ (Q' : α → Shared → Prop) (E' : Value → Shared → Prop), (∀ v s', Q v s' → Q' v s') → wpAny M A t Q' E' s) : wpAny M A t Q E s := h Q E fun _ _ x => x
theorem elE_1 {t1 : Sort _} {P : t1 → Prop} {R : Prop} (h : ∃ x1, P x1) (k : ∀ x1, P x1 → R) : R := by
  cases h with | intro x1 h => exact k x1 h
theorem inE_1 {t1 : Sort _} {P : t1 → Prop} (x1 : t1)  (h : P x1) : ∃ x1, P x1 := ⟨x1, h⟩
theorem elE_2 {t1 t2 : Sort _} {P : t1 → t2 → Prop} {R : Prop} (h : ∃ x1, ∃ x2, P x1 x2) (k : ∀ x1 x2, P x1 x2 → R) : R := by
  cases h with | intro x1 h => exact elE_1 h (k x1)
theorem inE_2 {t1 t2 : Sort _} {P : t1 → t2 → Prop} (x1 : t1) (x2 : t2) (h : P x1 x2) : ∃ x1, ∃ x2, P x1 x2 := ⟨x1, inE_1 x2 h⟩
theorem elE_3 {t1 t2 t3 : Sort _} {P : t1 → t2 → t3 → Prop} {R : Prop} (h : ∃ x1, ∃ x2, ∃ x3, P x1 x2 x3) (k : ∀ x1 x2 x3, P x1 x2 x3 → R) : R := by
  cases h with | intro x1 h => exact elE_2 h (k x1)
theorem inE_3 {t1 t2 t3 : Sort _} {P : t1 → t2 → t3 → Prop} (x1 : t1) (x2 : t2) (x3 : t3) (h : P x1 x2 x3) : ∃ x1, ∃ x2, ∃ x3, P x1 x2 x3 := ⟨x1, inE_2 x2 x3 h⟩
theorem elE_4 {t1 t2 t3 t4 : Sort _} {P : t1 → t2 → t3 → t4 → Prop} {R : Prop} (h : ∃ x1, ∃ x2, ∃ x3, ∃ x4, P x1 x2 x3 x4) (k : ∀ x1 x2 x3 x4, P x1 x2 x3 x4 → R) : R := by
  cases h with | intro x1 h => exact elE_3 h (k x1)
theorem inE_4 {t1 t2 t3 t4 : Sort _} {P : t1 → t2 → t3 → t4 → Prop} (x1 : t1) (x2 : t2) (x3 : t3) (x4 : t4) (h : P x1 x2 x3 x4) : ∃ x1, ∃ x2, ∃ x3, ∃ x4, P x1 x2 x3 x4 := ⟨x1, inE_3 x2 x3 x4 h⟩
theorem elE_5 {t1 t2 t3 t4 t5 : Sort _} {P : t1 → t2 → t3 → t4 → t5 → Prop} {R : Prop} (h : ∃ x1, ∃ x2, ∃ x3, ∃ x4, ∃ x5, P x1 x2 x3 x4 x5) (k : ∀ x1 x2 x3 x4 x5, P x1 x2 x3 x4 x5 → R) : R := by
  cases h with | intro x1 h => exact elE_4 h (k x1)
theorem inE_5 {t1 t2 t3 t4 t5 : Sort _} {P : t1 → t2 → t3 → t4 → t5 → Prop} (x1 : t1) (x2 : t2) (x3 : t3) (x4 : t4) (x5 : t5) (h : P x1 x2 x3 x4 x5) : ∃ x1, ∃ x2, ∃ x3, ∃ x4, ∃ x5, P x1 x2 x3 x4 x5 := ⟨x1, inE_4 x2 x3 x4 x5 h⟩
theorem elE_6 {t1 t2 t3 t4 t5 t6 : Sort _} {P : t1 → t2 → t3 → t4 → t5 → t6 → Prop} {R : Prop} (h : ∃ x1, ∃ x2, ∃ x3, ∃ x4, ∃ x5, ∃ x6, P x1 x2 x3 x4 x5 x6) (k : ∀ x1 x2 x3 x4 x5 x6, P x1 x2 x3 x4 x5 x6 → R) : R := by
  cases h with | intro x1 h => exact elE_5 h (k x1)
theorem inE_6 {t1 t2 t3 t4 t5 t6 : Sort _} {P : t1 → t2 → t3 → t4 → t5 → t6 → Prop} (x1 : t1) (x2 : t2) (x3 : t3) (x4 : t4) (x5 : t5) (x6 : t6) (h : P x1 x2 x3 x4 x5 x6) : ∃ x1, ∃ x2, ∃ x3, ∃ x4, ∃ x5, ∃ x6, P x1 x2 x3 x4 x5 x6 := ⟨x1, inE_5 x2 x3 x4 x5 x6 h⟩
theorem elE_7 {t1 t2 t3 t4 t5 t6 t7 : Sort _} {P : t1 → t2 → t3 → t4 → t5 → t6 → t7 → Prop} {R : Prop} (h : ∃ x1, ∃ x2, ∃ x3, ∃ x4, ∃ x5, ∃ x6, ∃ x7, P x1 x2 x3 x4 x5 x6 x7) (k : ∀ x1 x2 x3 x4 x5 x6 x7, P x1 x2 x3 x4 x5 x6 x7 → R) : R := by
  cases h with | intro x1 h => exact elE_6 h (k x1)
theorem inE_7 {t1 t2 t3 t4 t5 t6 t7 : Sort _} {P : t1 → t2 → t3 → t4 → t5 → t6 → t7 → Prop} (x1 : t1) (x2 : t2) (x3 : t3) (x4 : t4) (x5 : t5) (x6 : t6) (x7 : t7) (h : P x1 x2 x3 x4 x5 x6 x7) : ∃ x1, ∃ x2, ∃ x3, ∃ x4, ∃ x5, ∃ x6, ∃ x7, P x1 x2 x3 x4 x5 x6 x7 := ⟨x1, inE_6 x2 x3 x4 x5 x6 x7 h⟩
theorem elE_8 {t1 t2 t3 t4 t5 t6 t7 t8 : Sort _} {P : t1 → t2 → t3 → t4 → t5 → t6 → t7 → t8 → Prop} {R : Prop} (h : ∃ x1, ∃ x2, ∃ x3, ∃ x4, ∃ x5, ∃ x6, ∃ x7, ∃ x8, P x1 x2 x3 x4 x5 x6 x7 x8) (k : ∀ x1 x2 x3 x4 x5 x6 x7 x8, P x1 x2 x3 x4 x5 x6 x7 x8 → R) : R := by
  cases h with | intro x1 h => exact elE_7 h (k x1)
theorem inE_8 {t1 t2 t3 t4 t5 t6 t7 t8 : Sort _} {P : t1 → t2 → t3 → t4 → t5 → t6 → t7 → t8 → Prop} (x1 : t1) (x2 : t2) (x3 : t3) (x4 : t4) (x5 : t5) (x6 : t6) (x7 : t7) (x8 : t8) (h : P x1 x2 x3 x4 x5 x6 x7 x8) : ∃ x1, ∃ x2, ∃ x3, ∃ x4, ∃ x5, ∃ x6, ∃ x7, ∃ x8, P x1 x2 x3 x4 x5 x6 x7 x8 := ⟨x1, inE_7 x2 x3 x4 x5 x6 x7 x8 h⟩
theorem elE_9 {t1 t2 t3 t4 t5 t6 t7 t8 t9 : Sort _} {P : t1 → t2 → t3 → t4 → t5 → t6 → t7 → t8 → t9 → Prop} {R : Prop} (h : ∃ x1, ∃ x2, ∃ x3, ∃ x4, ∃ x5, ∃ x6, ∃ x7, ∃ x8, ∃ x9, P x1 x2 x3 x4 x5 x6 x7 x8 x9) (k : ∀ x1 x2 x3 x4 x5 x6 x7 x8 x9, P x1 x2 x3 x4 x5 x6 x7 x8 x9 → R) : R := by
  cases h with | intro x1 h => exact elE_8 h (k x1)
theorem inE_9 {t1 t2 t3 t4 t5 t6 t7 t8 t9 : Sort _} {P : t1 → t2 → t3 → t4 → t5 → t6 → t7 → t8 → t9 → Prop} (x1 : t1) (x2 : t2) (x3 : t3) (x4 : t4) (x5 : t5) (x6 : t6) (x7 : t7) (x8 : t8) (x9 : t9) (h : P x1 x2 x3 x4 x5 x6 x7 x8 x9) : ∃ x1, ∃ x2, ∃ x3, ∃ x4, ∃ x5, ∃ x6, ∃ x7, ∃ x8, ∃ x9, P x1 x2 x3 x4 x5 x6 x7 x8 x9 := ⟨x1, inE_8 x2 x3 x4 x5 x6 x7 x8 x9 h⟩
theorem elE_10 {t1 t2 t3 t4 t5 t6 t7 t8 t9 t10 : Sort _} {P : t1 → t2 → t3 → t4 → t5 → t6 → t7 → t8 → t9 → t10 → Prop} {R : Prop} (h : ∃ x1, ∃ x2, ∃ x3, ∃ x4, ∃ x5, ∃ x6, ∃ x7, ∃ x8, ∃ x9, ∃ x10, P x1 x2 x3 x4 x5 x6 x7 x8 x9 x10) (k : ∀ x1 x2 x3 x4 x5 x6 x7 x8 x9 x10, P x1 x2 x3 x4 x5 x6 x7 x8 x9 x10 → R) : R := by
  cases h with | intro x1 h => exact elE_9 h (k x1)
theorem inE_10 {t1 t2 t3 t4 t5 t6 t7 t8 t9 t10 : Sort _} {P : t1 → t2 → t3 → t4 → t5 → t6 → t7 → t8 → t9 → t10 → Prop} (x1 : t1) (x2 : t2) (x3 : t3) (x4 : t4) (x5 : t5) (x6 : t6) (x7 : t7) (x8 : t8) (x9 : t9) (x10 : t10) (h : P x1 x2 x3 x4 x5 x6 x7 x8 x9 x10) : ∃ x1, ∃ x2, ∃ x3, ∃ x4, ∃ x5, ∃ x6, ∃ x7, ∃ x8, ∃ x9, ∃ x10, P x1 x2 x3 x4 x5 x6 x7 x8 x9 x10 := ⟨x1, inE_9 x2 x3 x4 x5 x6 x7 x8 x9 x10 h⟩
theorem elE_11 {t1 t2 t3 t4 t5 t6 t7 t8 t9 t10 t11 : Sort _} {P : t1 → t2 → t3 → t4 → t5 → t6 → t7 → t8 → t9 → t10 → t11 → Prop} {R : Prop} (h : ∃ x1, ∃ x2, ∃ x3, ∃ x4, ∃ x5, ∃ x6, ∃ x7, ∃ x8, ∃ x9, ∃ x10, ∃ x11, P x1 x2 x3 x4 x5 x6 x7 x8 x9 x10 x11) (k : ∀ x1 x2 x3 x4 x5 x6 x7 x8 x9 x10 x11, P x1 x2 x3 x4 x5 x6 x7 x8 x9 x10 x11 → R) : R := by
  cases h with | intro x1 h => exact elE_10 h (k x1)
theorem inE_11 {t1 t2 t3 t4 t5 t6 t7 t8 t9 t10 t11 : Sort _} {P : t1 → t2 → t3 → t4 → t5 → t6 → t7 → t8 → t9 → t10 → t11 → Prop} (x1 : t1) (x2 : t2) (x3 : t3) (x4 : t4) (x5 : t5) (x6 : t6) (x7 : t7) (x8 : t8) (x9 : t9) (x10 : t10) (x11 : t11) (h : P x1 x2 x3 x4 x5 x6 x7 x8 x9 x10 x11) : ∃ x1, ∃ x2, ∃ x3, ∃ x4, ∃ x5, ∃ x6, ∃ x7, ∃ x8, ∃ x9, ∃ x10, ∃ x11, P x1 x2 x3 x4 x5 x6 x7 x8 x9 x10 x11 := ⟨x1, inE_10 x2 x3 x4 x5 x6 x7 x8 x9 x10 x11 h⟩
theorem elE_12 {t1 t2 t3 t4 t5 t6 t7 t8 t9 t10 t11 t12 : Sort _} {P : t1 → t2 → t3 → t4 → t5 → t6 → t7 → t8 → t9 → t10 → t11 → t12 → Prop} {R : Prop} (h : ∃ x1, ∃ x2, ∃ x3, ∃ x4, ∃ x5, ∃ x6, ∃ x7, ∃ x8, ∃ x9, ∃ x10, ∃ x11, ∃ x12, P x1 x2 x3 x4 x5 x6 x7 x8 x9 x10 x11 x12) (k : ∀ x1 x2 x3 x4 x5 x6 x7 x8 x9 x10 x11 x12, P x1 x2 x3 x4 x5 x6 x7 x8 x9 x10 x11 x12 → R) : R := by
  cases h with | intro x1 h => exact elE_11 h (k x1)
theorem inE_12 {t1 t2 t3 t4 t5 t6 t7 t8 t9 t10 t11 t12 : Sort _} {P : t1 → t2 → t3 → t4 → t5 → t6 → t7 → t8 → t9 → t10 → t11 → t12 → Prop} (x1 : t1) (x2 : t2) (x3 : t3) (x4 : t4) (x5 : t5) (x6 : t6) (x7 : t7) (x8 : t8) (x9 : t9) (x10 : t10) (x11 : t11) (x12 : t12) (h : P x1 x2 x3 x4 x5 x6 x7 x8 x9 x10 x11 x12) : ∃ x1, ∃ x2, ∃ x3, ∃ x4, ∃ x5, ∃ x6, ∃ x7, ∃ x8, ∃ x9, ∃ x10, ∃ x11, ∃ x12, P x1 x2 x3 x4 x5 x6 x7 x8 x9 x10 x11 x12 := ⟨x1, inE_11 x2 x3 x4 x5 x6 x7 x8 x9 x10 x11 x12 h⟩
theorem elA_2 {a1 a2 R : Prop} (k : a1 → a2 → R) : a1 ∧ a2 → R := fun h => k h.1 h.2
theorem inA_2 {a1 a2 : Prop} (h1 : a1) (h2 : a2) : a1 ∧ a2 := ⟨h1, h2⟩
theorem elA_3 {a1 a2 a3 R : Prop} (k : a1 → a2 → a3 → R) : a1 ∧ a2 ∧ a3 → R := fun h => elA_2 (k h.1) h.2
theorem inA_3 {a1 a2 a3 : Prop} (h1 : a1) (h2 : a2) (h3 : a3) : a1 ∧ a2 ∧ a3 := ⟨h1, inA_2 h2 h3⟩
theorem elA_4 {a1 a2 a3 a4 R : Prop} (k : a1 → a2 → a3 → a4 → R) : a1 ∧ a2 ∧ a3 ∧ a4 → R := fun h => elA_3 (k h.1) h.2
theorem inA_4 {a1 a2 a3 a4 : Prop} (h1 : a1) (h2 : a2) (h3 : a3) (h4 : a4) : a1 ∧ a2 ∧ a3 ∧ a4 := ⟨h1, inA_3 h2 h3 h4⟩
theorem elA_5 {a1 a2 a3 a4 a5 R : Prop} (k : a1 → a2 → a3 → a4 → a5 → R) : a1 ∧ a2 ∧ a3 ∧ a4 ∧ a5 → R := fun h => elA_4 (k h.1) h.2
theorem inA_5 {a1 a2 a3 a4 a5 : Prop} (h1 : a1) (h2 : a2) (h3 : a3) (h4 : a4) (h5 : a5) : a1 ∧ a2 ∧ a3 ∧ a4 ∧ a5 := ⟨h1, inA_4 h2 h3 h4 h5⟩
theorem elA_6 {a1 a2 a3 a4 a5 a6 R : Prop} (k : a1 → a2 → a3 → a4 → a5 → a6 → R) : a1 ∧ a2 ∧ a3 ∧ a4 ∧ a5 ∧ a6 → R := fun h => elA_5 (k h.1) h.2
theorem inA_6 {a1 a2 a3 a4 a5 a6 : Prop} (h1 : a1) (h2 : a2) (h3 : a3) (h4 : a4) (h5 : a5) (h6 : a6) : a1 ∧ a2 ∧ a3 ∧ a4 ∧ a5 ∧ a6 := ⟨h1, inA_5 h2 h3 h4 h5 h6⟩
theorem elA_7 {a1 a2 a3 a4 a5 a6 a7 R : Prop} (k : a1 → a2 → a3 → a4 → a5 → a6 → a7 → R) : a1 ∧ a2 ∧ a3 ∧ a4 ∧ a5 ∧ a6 ∧ a7 → R := fun h => elA_6 (k h.1) h.2
theorem inA_7 {a1 a2 a3 a4 a5 a6 a7 : Prop} (h1 : a1) (h2 : a2) (h3 : a3) (h4 : a4) (h5 : a5) (h6 : a6) (h7 : a7) : a1 ∧ a2 ∧ a3 ∧ a4 ∧ a5 ∧ a6 ∧ a7 := ⟨h1, inA_6 h2 h3 h4 h5 h6 h7⟩
theorem elA_8 {a1 a2 a3 a4 a5 a6 a7 a8 R : Prop} (k : a1 → a2 → a3 → a4 → a5 → a6 → a7 → a8 → R) : a1 ∧ a2 ∧ a3 ∧ a4 ∧ a5 ∧ a6 ∧ a7 ∧ a8 → R := fun h => elA_7 (k h.1) h.2
theorem inA_8 {a1 a2 a3 a4 a5 a6 a7 a8 : Prop} (h1 : a1) (h2 : a2) (h3 : a3) (h4 : a4) (h5 : a5) (h6 : a6) (h7 : a7) (h8 : a8) : a1 ∧ a2 ∧ a3 ∧ a4 ∧ a5 ∧ a6 ∧ a7 ∧ a8 := ⟨h1, inA_7 h2 h3 h4 h5 h6 h7 h8⟩
theorem elA_9 {a1 a2 a3 a4 a5 a6 a7 a8 a9 R : Prop} (k : a1 → a2 → a3 → a4 → a5 → a6 → a7 → a8 → a9 → R) : a1 ∧ a2 ∧ a3 ∧ a4 ∧ a5 ∧ a6 ∧ a7 ∧ a8 ∧ a9 → R := fun h => elA_8 (k h.1) h.2
theorem inA_9 {a1 a2 a3 a4 a5 a6 a7 a8 a9 : Prop} (h1 : a1) (h2 : a2) (h3 : a3) (h4 : a4) (h5 : a5) (h6 : a6) (h7 : a7) (h8 : a8) (h9 : a9) : a1 ∧ a2 ∧ a3 ∧ a4 ∧ a5 ∧ a6 ∧ a7 ∧ a8 ∧ a9 := ⟨h1, inA_8 h2 h3 h4 h5 h6 h7 h8 h9⟩
theorem elA_10 {a1 a2 a3 a4 a5 a6 a7 a8 a9 a10 R : Prop} (k : a1 → a2 → a3 → a4 → a5 → a6 → a7 → a8 → a9 → a10 → R) : a1 ∧ a2 ∧ a3 ∧ a4 ∧ a5 ∧ a6 ∧ a7 ∧ a8 ∧ a9 ∧ a10 → R := fun h => elA_9 (k h.1) h.2
theorem inA_10 {a1 a2 a3 a4 a5 a6 a7 a8 a9 a10 : Prop} (h1 : a1) (h2 : a2) (h3 : a3) (h4 : a4) (h5 : a5) (h6 : a6) (h7 : a7) (h8 : a8) (h9 : a9) (h10 : a10) : a1 ∧ a2 ∧ a3 ∧ a4 ∧ a5 ∧ a6 ∧ a7 ∧ a8 ∧ a9 ∧ a10 := ⟨h1, inA_9 h2 h3 h4 h5 h6 h7 h8 h9 h10⟩
theorem elA_11 {a1 a2 a3 a4 a5 a6 a7 a8 a9 a10 a11 R : Prop} (k : a1 → a2 → a3 → a4 → a5 → a6 → a7 → a8 → a9 → a10 → a11 → R) : a1 ∧ a2 ∧ a3 ∧ a4 ∧ a5 ∧ a6 ∧ a7 ∧ a8 ∧ a9 ∧ a10 ∧ a11 → R := fun h => elA_10 (k h.1) h.2
theorem inA_11 {a1 a2 a3 a4 a5 a6 a7 a8 a9 a10 a11 : Prop} (h1 : a1) (h2 : a2) (h3 : a3) (h4 : a4) (h5 : a5) (h6 : a6) (h7 : a7) (h8 : a8) (h9 : a9) (h10 : a10) (h11 : a11) : a1 ∧ a2 ∧ a3 ∧ a4 ∧ a5 ∧ a6 ∧ a7 ∧ a8 ∧ a9 ∧ a10 ∧ a11 := ⟨h1, inA_10 h2 h3 h4 h5 h6 h7 h8 h9 h10 h11⟩
theorem elA_12 {a1 a2 a3 a4 a5 a6 a7 a8 a9 a10 a11 a12 R : Prop} (k : a1 → a2 → a3 → a4 → a5 → a6 → a7 → a8 → a9 → a10 → a11 → a12 → R) : a1 ∧ a2 ∧ a3 ∧ a4 ∧ a5 ∧ a6 ∧ a7 ∧ a8 ∧ a9 ∧ a10 ∧ a11 ∧ a12 → R := fun h => elA_11 (k h.1) h.2
theorem inA_12 {a1 a2 a3 a4 a5 a6 a7 a8 a9 a10 a11 a12 : Prop} (h1 : a1) (h2 : a2) (h3 : a3) (h4 : a4) (h5 : a5) (h6 : a6) (h7 : a7) (h8 : a8) (h9 : a9) (h10 : a10) (h11 : a11) (h12 : a12) : a1 ∧ a2 ∧ a3 ∧ a4 ∧ a5 ∧ a6 ∧ a7 ∧ a8 ∧ a9 ∧ a10 ∧ a11 ∧ a12 := ⟨h1, inA_11 h2 h3 h4 h5 h6 h7 h8 h9 h10 h11 h12⟩
theorem elA_13 {a1 a2 a3 a4 a5 a6 a7 a8 a9 a10 a11 a12 a13 R : Prop} (k : a1 → a2 → a3 → a4 → a5 → a6 → a7 → a8 → a9 → a10 → a11 → a12 → a13 → R) : a1 ∧ a2 ∧ a3 ∧ a4 ∧ a5 ∧ a6 ∧ a7 ∧ a8 ∧ a9 ∧ a10 ∧ a11 ∧ a12 ∧ a13 → R := fun h => elA_12 (k h.1) h.2
theorem inA_13 {a1 a2 a3 a4 a5 a6 a7 a8 a9 a10 a11 a12 a13 : Prop} (h1 : a1) (h2 : a2) (h3 : a3) (h4 : a4) (h5 : a5) (h6 : a6) (h7 : a7) (h8 : a8) (h9 : a9) (h10 : a10) (h11 : a11) (h12 : a12) (h13 : a13) : a1 ∧ a2 ∧ a3 ∧ a4 ∧ a5 ∧ a6 ∧ a7 ∧ a8 ∧ a9 ∧ a10 ∧ a11 ∧ a12 ∧ a13 := ⟨h1, inA_12 h2 h3 h4 h5 h6 h7 h8 h9 h10 h11 h12 h13⟩
theorem elA_14 {a1 a2 a3 a4 a5 a6 a7 a8 a9 a10 a11 a12 a13 a14 R : Prop} (k : a1 → a2 → a3 → a4 → a5 → a6 → a7 → a8 → a9 → a10 → a11 → a12 → a13 → a14 → R) : a1 ∧ a2 ∧ a3 ∧ a4 ∧ a5 ∧ a6 ∧ a7 ∧ a8 ∧ a9 ∧ a10 ∧ a11 ∧ a12 ∧ a13 ∧ a14 → R := fun h => elA_13 (k h.1) h.2
theorem inA_14 {a1 a2 a3 a4 a5 a6 a7 a8 a9 a10 a11 a12 a13 a14 : Prop} (h1 : a1) (h2 : a2) (h3 : a3) (h4 : a4) (h5 : a5) (h6 : a6) (h7 : a7) (h8 : a8) (h9 : a9) (h10 : a10) (h11 : a11) (h12 : a12) (h13 : a13) (h14 : a14) : a1 ∧ a2 ∧ a3 ∧ a4 ∧ a5 ∧ a6 ∧ a7 ∧ a8 ∧ a9 ∧ a10 ∧ a11 ∧ a12 ∧ a13 ∧ a14 := ⟨h1, inA_13 h2 h3 h4 h5 h6 h7 h8 h9 h10 h11 h12 h13 h14⟩
end Mine
end

section
open PySem PySem.W PyProof.Rows PySem.Calls
set_option Elab.async false
set_option maxRecDepth 100000
set_option maxHeartbeats 2000000
namespace Mine

theorem sem_assoc {α β γ : Type} (m : Sem α) (f : α → Sem β) (g : β → Sem γ) : (m >>= f) >>= g = m >>= fun a => f a >>= g := by
  rw [Sem.bind_eq_wrap', Sem.bind_eq_wrap', Sem.wrap_wrap, Sem.bind_eq_wrap']
  have e : (fun a => (f a).wrap g Sem.raise id id) = fun a => f a >>= g := funext fun a => (Sem.bind_eq_wrap' _ _).symm
  rw [← e]
  rfl

/-- the generator between two turns: its frame Lg, its enumerate En, the text's iterator It -/
structure GInv (hb : Heap) (Lg En It : Addr) (a : Str) (t : Tok) (i : Nat) (h : Heap) : Prop where
  fr : ∃ mg, Fr hb Lg h mg ∧ mg (Str.ofString "addr") = some (.str a t) ∧ mg (Str.ofString "escape") = some (.bool false)
  en : ∃ old, IsEnum h En It i old
  it : h.IsStrIter It "str_ascii_iterator" a t i

theorem GInv.keeps {hb : Heap} {Lg En It : Addr} {a : Str} {t : Tok} {i : Nat} {h h' : Heap} (G : GInv hb Lg En It a t i h)
    (hk : ∀ b o, (b = Lg ∨ b = En ∨ b = It ∨ ∃ o', hb.get? b = some o') → h.get? b = some o → h'.get? b = some o) : GInv hb Lg En It a t i h' := by
  obtain ⟨⟨mg, F, h1, h2⟩, ⟨old, e1⟩, ⟨o, ho, r⟩⟩ := G
  refine elE_3 F.ns fun oL es ep => elA_2 ?_
  intro hL r2
  exact ⟨(inE_1 mg (inA_3 (⟨(inE_3 oL es ep (inA_2 (hk _ _ (.inl rfl) hL) r2)), fun b o e => hk b o (.inr (.inr (.inr ⟨o, e⟩))) (F.keep b o e), F.above⟩) h1 h2)),
    ⟨old, hk _ _ (.inr (.inl rfl)) e1⟩, ⟨o, hk _ _ (.inr (.inr (.inl rfl))) ho, r⟩⟩

def GSince (Lg En It : Addr) (s₀ s : Shared) : Prop :=
  ∃ h tk, s = { s₀ with heap := h, toks := tk } ∧ ∀ b o, b ≠ Lg → b ≠ En → b ≠ It → s₀.heap.get? b = some o → h.get? b = some o
theorem GSince.refl (Lg En It : Addr) (s : Shared) : GSince Lg En It s s := (inE_2 (s.heap) (s.toks) (inA_2 rfl (fun _ _ _ _ _ e => e)))
theorem GSince.step {Lg En It : Addr} {s₀ s : Shared} {h : Heap} {tk : Nat} (x : GSince Lg En It s₀ s) (hk : ∀ b o, b ≠ Lg → b ≠ En → b ≠ It → s.heap.get? b = some o → h.get? b = some o) :
    GSince Lg En It s₀ { s with heap := h, toks := tk } := by
  refine elE_2 x fun h1 tk1 => elA_2 ?_
  clear x
  intro e0__ hk1
  subst e0__
  exact (inE_2 h tk (inA_2 rfl (fun b o a1 a2 a3 e => hk b o a1 a2 a3 (hk1 b o a1 a2 a3 e))))

def GY (hb : Heap) (Lg En It : Addr) (a : Str) (t : Tok) (n : Nat) : Protocol := fun m s₀ v s kap =>
  ∃ i c T tk tk', i + 1 + m = n ∧ a.cps[i]? = some c ∧ v = .ref T ∧ s.heap.IsTuple T #[.int i tk, .str ⟨#[c]⟩ tk'] ∧ GSince Lg En It s₀ s ∧
    GInv hb Lg En It a t (i + 1) s.heap ∧ ∀ s'' : Shared, GInv hb Lg En It a t (i + 1) s''.heap → kap (.send .none) s''

abbrev GP (Lg En It : Addr) : Nat → Shared → Shared → Prop := fun n s₀ s₁ => n = 0 ∧ GSince Lg En It s₀ s₁

section
variable {prog : Program} {w : World} {A : Around}

theorem seg_loop {hb : Heap} {Lg En It f : Addr} {a : Str} {t : Tok} {n : Nat} {nm : Str} {sc : Scope} {cd : Value} {p1 p2 p3 q1 q2 q3 q4 q5 q6 q7 q8 q9 q10 q11 : Pos} {k1 k2 : Nat} {B1 B2 : List Stmt}
    {K : Result → Sem Fin} {l : List Value} {c₁ : Code} {pp : Pos} {kp : List Value}
    (hh : A.handled = none) (hn : a.cps.size = n) (hkd : sc.kind = .function) (hco : sc.isCoroutine = false) (hi : interactive (envOf nm sc Lg f cd) = false)
    (hl1 : (envOf nm sc Lg f cd).kindOf (Str.ofString "pos") = some .local) (hl2 : (envOf nm sc Lg f cd).kindOf (Str.ofString "ch") = some .local) (hl3 : (envOf nm sc Lg f cd).kindOf (Str.ofString "escape") = some .local)
    (hLE : Lg ≠ En) (hLI : Lg ≠ It) (hEI : En ≠ It) (hbE : hb.get? En = none) (hbI : hb.get? It = none) (hbs : ∀ c ∈ a.cps.toList, c ≠ 92)
    (hK : ∀ s₀ s, (∃ mg, Fr hb Lg s.heap mg ∧ mg (Str.ofString "escape") = some (.bool false)) → GSince Lg En It s₀ s → Seg (model prog w) A (fun n s₀ r s₁ => r = .ok (.ret .none) ∧ GP Lg En It n s₀ s₁) (GY hb Lg En It a t n) 0 s₀ c₁ (K (.ok .next)) [] s) :
    ∀ (k i : Nat) (s₀ s : Shared), n - i = k → i ≤ n → GInv hb Lg En It a t i s.heap → GSince Lg En It s₀ s →
      Seg (model prog w) A (fun n s₀ r s₁ => r = .ok (.ret .none) ∧ GP Lg En It n s₀ s₁) (GY hb Lg En It a t n) (n - i) s₀
        (.forLoop (.Tuple [.Name (Str.ofString "pos") p1, .Name (Str.ofString "ch") p2] 0 p3) (.ref En)
          [.If (.Name (Str.ofString "escape") q1) B1 [.If (.Compare (.Name (Str.ofString "ch") q2) [.Eq] [.Constant (.str (Str.ofString "\\")) k1 q3] q4) B2
            [.Expr (.Yield (some (.Tuple [.Name (Str.ofString "pos") q5, .Name (Str.ofString "ch") q6] k2 q7)) q8) q9] q10] q11] [] (envOf nm sc Lg f cd))
        ((model prog w).den (.forLoop (.Tuple [.Name (Str.ofString "pos") p1, .Name (Str.ofString "ch") p2] 0 p3) (.ref En)
          [.If (.Name (Str.ofString "escape") q1) B1 [.If (.Compare (.Name (Str.ofString "ch") q2) [.Eq] [.Constant (.str (Str.ofString "\\")) k1 q3] q4) B2
            [.Expr (.Yield (some (.Tuple [.Name (Str.ofString "pos") q5, .Name (Str.ofString "ch") q6] k2 q7)) q8) q9] q10] q11] [] (envOf nm sc Lg f cd)))
        [.ret K none false l c₁ pp kp] s := by
  generalize hbd : [Stmt.If (.Name (Str.ofString "escape") q1) B1 [.If (.Compare (.Name (Str.ofString "ch") q2) [.Eq] [.Constant (.str (Str.ofString "\\")) k1 q3] q4) B2
            [.Expr (.Yield (some (.Tuple [.Name (Str.ofString "pos") q5, .Name (Str.ofString "ch") q6] k2 q7)) q8) q9] q10] q11] = bd
  generalize henv : envOf nm sc Lg f cd = env at hl1 hl2 hl3 hi
  have hloc : env.locals = Lg := by rw [← henv]; rfl
  have hsk : env.scope.kind = .function := by rw [← henv]; exact hkd
  have hp : (env.scope.kind == .class || (env.scope.kind == .module && env.locals != env.globals)) = false := by rw [hsk]; rfl
  have hh' : (A.over (.forLoop (.Tuple [.Name (Str.ofString "pos") p1, .Name (Str.ofString "ch") p2] 0 p3) (.ref En) bd [] env) [.ret K none false l c₁ pp kp]).handled = none := by
    show (marksOver [Frame.ret K none false l c₁ pp kp] (A.handled, A.handled)).1 = none
    rw [hh]; rfl
  generalize hA : A.over (.forLoop (.Tuple [.Name (Str.ofString "pos") p1, .Name (Str.ofString "ch") p2] 0 p3) (.ref En) bd [] env) [.ret K none false l c₁ pp kp] = A' at hh'
  have D := Draws.strAscii (prog := prog) (w := w) (A := A'.in1) hh' It a t
  have W := WalksT.enumerateD (prog := prog) (w := w) (A := A') D En hEI (by simpa using hEI) (List.mem_singleton.mpr rfl)
  rw [hn] at W
  intro k
  induction k with
  | zero =>
    intro i s₀ s hk hi' G S
    obtain rfl : i = n := by omega
    show Seg _ A _ _ _ s₀ _ ((forTurn (.Tuple [.Name (Str.ofString "pos") p1, .Name (Str.ofString "ch") p2] 0 p3) (.ref En) bd [] env).onRaise (fun x => do noteFrame x env; theTreesLotGoes x)) _ s
    rw [Sem.onRaise_eq_wrap]
    simp only [forTurn]
    refine seg_bind_wrap (wpAny_standAt ?_)
    refine seg_bind_wrap (wpAny_onRaise ?_)
    rw [hA]
    refine W.done s _ _ ⟨G.en, G.it⟩ fun h' tk hk' => ?_
    rw [Nat.sub_self]
    refine seg_again rfl ?_
    refine seg_leaf (.ok .next) ?_
    refine hK _ _ ?_ (S.step fun b o x1 x2 x3 e => hk' b o (by simp [x2, x3]) e)
    refine elE_1 G.fr fun mg => elA_3 ?_
    intro F m1 m2
    refine elE_3 F.ns fun oL es ep => elA_2 ?_
    intro hL r2
    have hbk : ∀ b o, hb.get? b = some o → b ≠ En ∧ b ≠ It := fun b o e => ⟨fun q => by (rw [q, hbE] at e; exact nomatch e), fun q => by (rw [q, hbI] at e; exact nomatch e)⟩
    exact ⟨mg, ⟨(inE_3 oL es ep (inA_2 (hk' _ _ (by simp [hLE, hLI]) hL) r2)), fun b o e => hk' b o (by simp [(hbk b o e).1, (hbk b o e).2]) (F.keep b o e), F.above⟩, m2⟩
  | succ k ih =>
    intro i s₀ s hk hi' G S
    have hlt : i < n := by omega
    show Seg _ A _ _ _ s₀ _ ((forTurn (.Tuple [.Name (Str.ofString "pos") p1, .Name (Str.ofString "ch") p2] 0 p3) (.ref En) bd [] env).onRaise (fun x => do noteFrame x env; theTreesLotGoes x)) _ s
    rw [Sem.onRaise_eq_wrap]
    simp only [forTurn]
    refine seg_bind_wrap (wpAny_standAt ?_)
    refine seg_bind_wrap (wpAny_onRaise ?_)
    rw [hA]
    refine W.item i s _ _ hlt ⟨G.en, G.it⟩ fun T vals h₁ tk₁ hPt hTl hT hMid hk₁ => ?_
    refine elE_2 hPt fun ti x => elA_2 ?_
    clear hPt
    intro c0__ e1__
    obtain ⟨c, u, hc, rfl⟩ := c0__
    subst e1__
    dsimp only
    refine seg_bind_wrap ?_
    rw [hA]
    refine W.go _ 0 p3 i T _ _ _ hMid fun h₂ hst₂ hk₂ => ?_
    have ht₂ : h₂.IsTuple T #[.int i ti, .str ⟨#[c]⟩ u] := hT.at fun o e => hk₂ T o (W.apart i T h₁ hMid) e
    refine seg_bind_wrap ?_
    rw [hA]
    refine wpAny_assign_Tuple hh' ht₂ rfl rfl fun h₃ hx₃ => ?_
    replace hx₃ : Heap.ExtBut h₂.objs.size h₂ h₃ := hx₃
    have up₃ : ∀ b o, h₂.get? b = some o → h₃.get? b = some o := fun b o x => hx₃ b o (Nat.ne_of_lt (Heap.lt_size x)) x
    have hk₃ : ∀ b o, b ≠ En → b ≠ It → s.heap.get? b = some o → h₃.get? b = some o := fun b o x1 x2 e => up₃ b o (hk₂ b o (by simp [x1, x2]) (hk₁ b o (by simp [x1, x2]) e))
    refine elE_1 G.fr fun mg => elA_3 ?_
    intro F m1 m2
    have hbk : ∀ b o, hb.get? b = some o → b ≠ En ∧ b ≠ It := fun b o e => ⟨fun q => by (rw [q, hbE] at e; exact nomatch e), fun q => by (rw [q, hbI] at e; exact nomatch e)⟩
    have F₃ : Fr hb Lg h₃ mg := by
      refine elE_3 F.ns fun oL es ep => elA_2 ?_
      intro hL r2
      exact ⟨(inE_3 oL es ep (inA_2 (hk₃ _ _ hLE hLI hL) r2)), fun b o e => hk₃ b o (hbk b o e).1 (hbk b o e).2 (F.keep b o e), F.above⟩
    show wpAny _ A' (do holding [Value.str ⟨#[c]⟩ u] (assign (.Name (Str.ofString "pos") p1) env (.int i ti)); do holding [] (assign (.Name (Str.ofString "ch") p2) env (.str ⟨#[c]⟩ u)); pure ()) _ _ _
    refine wpAny_bind (wpAny_holding (wpAny_assign_Name (wpAny_storeName_local hl1 (by rw [hloc]; exact F₃.ns) (fun h₄ hn₄ hs₄ => ?_) hp)))
    rw [hloc] at hn₄ hs₄
    replace hs₄ : Heap.SameBut Lg h₃ h₄ := hs₄
    have F₄ := F₃.set hn₄ hs₄
    refine wpAny_bind (wpAny_holding (wpAny_assign_Name (wpAny_storeName_local hl2 (by rw [hloc]; exact F₄.ns) (fun h₅ hn₅ hs₅ => wpAny_pure ?_) hp)))
    rw [hloc] at hn₅ hs₅
    replace hs₅ : Heap.SameBut Lg h₄ h₅ := hs₅
    have F₅ := F₄.set hn₅ hs₅
    have hk₅ : ∀ b o, b ≠ Lg → h₃.get? b = some o → h₅.get? b = some o := fun b o x1 e => hs₅.extBut b o x1 (hs₄.extBut b o x1 e)
    clear hn₅ hn₄
    dsimp only
    have e0 : execs bd env = execs [Stmt.If (.Name (Str.ofString "escape") q1) B1 [.If (.Compare (.Name (Str.ofString "ch") q2) [.Eq] [.Constant (.str (Str.ofString "\\")) k1 q3] q4) B2
            [.Expr (.Yield (some (.Tuple [.Name (Str.ofString "pos") q5, .Name (Str.ofString "ch") q6] k2 q7)) q8) q9] q10] q11] env := by rw [hbd]
    rw [e0, arm_execs_cons, arm_exec_If]
    simp only [sem_assoc]
    refine seg_bind_wrap (wpAny_standAt ?_)
    refine seg_bind_wrap ?_
    rw [hA]
    refine isTrue_plain ?_
    have m3 : (if Str.ofString "escape" = Str.ofString "ch" then some (Value.str ⟨#[c]⟩ u) else if Str.ofString "escape" = Str.ofString "pos" then some (Value.int i ti) else mg (Str.ofString "escape")) = some (.bool false) := by
      rw [if_neg (by decide), if_neg (by decide)]; exact m2
    have m4 : (if Str.ofString "ch" = Str.ofString "ch" then some (Value.str ⟨#[c]⟩ u) else if Str.ofString "ch" = Str.ofString "pos" then some (Value.int i ti) else mg (Str.ofString "ch")) = some (.str ⟨#[c]⟩ u) := if_pos rfl
    have m5 : (if Str.ofString "pos" = Str.ofString "ch" then some (Value.str ⟨#[c]⟩ u) else if Str.ofString "pos" = Str.ofString "pos" then some (Value.int i ti) else mg (Str.ofString "pos")) = some (.int i ti) := by
      rw [if_neg (by decide), if_pos rfl]
    have m6 : (if Str.ofString "addr" = Str.ofString "ch" then some (Value.str ⟨#[c]⟩ u) else if Str.ofString "addr" = Str.ofString "pos" then some (Value.int i ti) else mg (Str.ofString "addr")) = some (.str a t) := by
      rw [if_neg (by decide), if_neg (by decide)]; exact m1
    have hc92 : c ≠ 92 := hbs c (by
      obtain ⟨hlt', e⟩ := Array.getElem?_eq_some_iff.mp hc
      rw [← e]; simp)
    subst henv
    refine ld F₅ m3 ?_ hkd hl3
    refine wpAny_truthy_bool ?_
    simp only [Bool.false_eq_true, if_false]
    rw [arm_execs_cons, arm_exec_If]
    simp only [sem_assoc]
    refine seg_bind_wrap (wpAny_standAt ?_)
    refine seg_bind_wrap ?_
    rw [hA]
    refine wpAny_isTrue_Compare1 ?_
    refine ld F₅ m4 ?_ hkd hl2
    refine wpAny_Constant_str ?_
    refine PyProof.Rows.eq_str ?_
    have e92 : ((⟨#[c]⟩ : Str) == Str.ofString "\\") = false := by
      rw [show Str.ofString "\\" = ⟨#[92]⟩ from by decide +kernel]
      simp [hc92]
    rw [e92]
    refine wpAny_truthy_bool ?_
    simp only [Bool.false_eq_true, if_false]
    rw [arm_execs_cons, arm_exec_Expr]
    simp only [hi, Bool.false_eq_true, if_false, sem_assoc]
    refine seg_bind_wrap (wpAny_standAt ?_)
    refine seg_bind_wrap (wpAny_pure ?_)
    simp only [Bool.false_eq_true, if_false, sem_assoc]
    rw [arm_eval_Yield]
    simp only [sem_assoc]
    refine seg_bind_wrap ?_
    rw [hA]
    show wpAny (model prog w) A' (eval (.Tuple [.Name (Str.ofString "pos") q5, .Name (Str.ofString "ch") q6] k2 q7) _) _ _ _
    refine wpAny_Tuple_spliced ?_
    refine PyProof.Rows.spliced_more ?_
    refine ld F₅ m5 ?_ hkd hl1
    refine PyProof.Rows.spliced_more ?_
    refine ld F₅ m4 ?_ hkd hl2
    refine PyProof.Rows.spliced_none ⟨by show 2 ≤ sizeLine; decide, ?_⟩
    dsimp only
    refine seg_bind_wrap (wpAny_standAt ?_)
    have hy : ∀ v, yieldOut (envOf nm sc Lg f cd) v = yieldValue v := fun v => by
      show (if sc.isCoroutine = true then _ else _) = _
      rw [hco]; rfl
    rw [hy]
    unfold yieldValue suspend
    rw [hk]
    have hT₅ : (h₅.push { cls := .type "tuple", data := .seq [Value.int i ti, Value.str ⟨#[c]⟩ u].toArray }).get? h₅.objs.size = some { cls := .type "tuple", data := .seq [Value.int i ti, Value.str ⟨#[c]⟩ u].toArray } := Heap.get?_push_size _ rfl
    have G' : GInv hb Lg En It a t (i + 1) (h₅.push { cls := .type "tuple", data := .seq [Value.int i ti, Value.str ⟨#[c]⟩ u].toArray }) := by
      obtain ⟨⟨old, e1⟩, ⟨o, ho, r⟩⟩ := hst₂
      exact ⟨(inE_1 _ (inA_3 (F₅.push _) m6 m3)), ⟨old, Heap.get?_push_of_some _ (hk₅ _ _ hLE.symm (up₃ _ _ e1))⟩, ⟨o, Heap.get?_push_of_some _ (hk₅ _ _ hLI.symm (up₃ _ _ ho)), r⟩⟩
    have S' : GSince Lg En It s₀ { s with heap := h₅.push { cls := .type "tuple", data := .seq [Value.int i ti, Value.str ⟨#[c]⟩ u].toArray }, toks := tk₁ + 1 + 1 + 1 } :=
      S.step fun b o x1 x2 x3 e => Heap.get?_push_of_some _ (hk₅ _ _ x1 (hk₃ _ _ x2 x3 e))
    refine seg_yield rfl rfl rfl (inE_5 i c (h₅.objs.size) ti u (inA_7 (by omega) hc rfl (inE_1 _ (inA_3 hT₅ rfl (inE_1 0 rfl))) S' G' (fun s'' G'' => ?_)))
    refine seg_again rfl ?_
    have := ih (i + 1) s'' s'' (by omega) (by omega) G'' (GSince.refl _ _ _ _)
    rw [show n - (i + 1) = k by omega] at this
    exact this
end
end Mine
end

section
open PySem PySem.W PyProof.Rows PySem.Calls
set_option Elab.async false
set_option maxRecDepth 100000
set_option maxHeartbeats 2000000
namespace Mine

theorem fill_ : (fun (_ : OpenLaw) (_ : Params → Frag) => True) PySem.Challenge.rw_wa0010_01 hd.heap_39 := by
  k_fill
  exact trivial

section
variable {prog : Program} {w : World} {A : Around}

theorem seg_n {M : Model} {A : Around} {R : GenEnd} {Y : Protocol} {n n' : Nat} {s₀ : Shared} {c : Code} {t : Sem Fin} {fs : List Frame} {s : Shared} (e : n' = n) (h : Seg M A R Y n' s₀ c t fs s) : Seg M A R Y n s₀ c t fs s := e ▸ h

theorem seg_start {p : Program} {loose : List Str} {mean : ExcName → Option Value} {mg0 mb : Str → Option Value} {hb : Heap} {Lg f : Addr} {a : Str} {t : Tok} {n : Nat} {cd : Value}
    {s : Shared} {mg : Str → Option Value} {p1 p2 p3 q1 q2 q3 q4 q5 q6 q7 q8 q9 q10 q11 a1 a2 a3 a4 a5 a6 a7 a8 a9 a10 a11 a12 : Pos} {k0 k1 k2 k3 : Nat} {B1 B2 B3 : List Stmt}
    (hh : A.handled = none) (hn : a.cps.size = n) (hascii : a.cps.all (· < 128) = true) (hbs : ∀ c ∈ a.cps.toList, c ≠ 92)
    (T : Top p loose mean mg0 mb hb) (X : Frag.In (hd.heap_39 w.params) hb)
    (F : Fr hb Lg s.heap mg) (hm : mg (Str.ofString "addr") = some (.str a t))
    (sc : Scope) (hsc : sc = { kind := ScopeKind.function, names := [("addr", NameKind.local), ("pos", NameKind.local), ("escape", NameKind.local), ("ch", NameKind.local), ("enumerate", NameKind.globalImplicit)], isGenerator := true, isCoroutine := false }) :
    Seg (model prog w) A (fun n s₀ r s₁ => r = .ok (.ret .none) ∧ GP Lg (s.heap.objs.size + 1) s.heap.objs.size n s₀ s₁) (GY hb Lg (s.heap.objs.size + 1) s.heap.objs.size a t n) n s
      (.func [.Assign [.Name (Str.ofString "pos") a1] (.Constant (.int 0) k0 a2) a3, .Assign [.Name (Str.ofString "escape") a4] (.Constant (.bool false) k1 a5) a6,
        .For (.Tuple [.Name (Str.ofString "pos") p1, .Name (Str.ofString "ch") p2] 0 p3) (.Call (.Name (Str.ofString "enumerate") a7) [.Name (Str.ofString "addr") a8] [] a9)
          [.If (.Name (Str.ofString "escape") q1) B1 [.If (.Compare (.Name (Str.ofString "ch") q2) [.Eq] [.Constant (.str (Str.ofString "\\")) k2 q3] q4) B2
            [.Expr (.Yield (some (.Tuple [.Name (Str.ofString "pos") q5, .Name (Str.ofString "ch") q6] k3 q7)) q8) q9] q10] q11] [] a10,
        .If (.Name (Str.ofString "escape") a11) B3 [] a12] (envOf "_iter_escaped_chars" sc Lg f cd))
      ((model prog w).den (.func [.Assign [.Name (Str.ofString "pos") a1] (.Constant (.int 0) k0 a2) a3, .Assign [.Name (Str.ofString "escape") a4] (.Constant (.bool false) k1 a5) a6,
        .For (.Tuple [.Name (Str.ofString "pos") p1, .Name (Str.ofString "ch") p2] 0 p3) (.Call (.Name (Str.ofString "enumerate") a7) [.Name (Str.ofString "addr") a8] [] a9)
          [.If (.Name (Str.ofString "escape") q1) B1 [.If (.Compare (.Name (Str.ofString "ch") q2) [.Eq] [.Constant (.str (Str.ofString "\\")) k2 q3] q4) B2
            [.Expr (.Yield (some (.Tuple [.Name (Str.ofString "pos") q5, .Name (Str.ofString "ch") q6] k3 q7)) q8) q9] q10] q11] [] a10,
        .If (.Name (Str.ofString "escape") a11) B3 [] a12] (envOf "_iter_escaped_chars" sc Lg f cd))) [] s := by
  generalize hbd : [Stmt.If (.Name (Str.ofString "escape") q1) B1 [.If (.Compare (.Name (Str.ofString "ch") q2) [.Eq] [.Constant (.str (Str.ofString "\\")) k2 q3] q4) B2
            [.Expr (.Yield (some (.Tuple [.Name (Str.ofString "pos") q5, .Name (Str.ofString "ch") q6] k3 q7)) q8) q9] q10] q11] = bd
  generalize hfb : [Stmt.Assign [.Name (Str.ofString "pos") a1] (.Constant (.int 0) k0 a2) a3, .Assign [.Name (Str.ofString "escape") a4] (.Constant (.bool false) k1 a5) a6,
        .For (.Tuple [.Name (Str.ofString "pos") p1, .Name (Str.ofString "ch") p2] 0 p3) (.Call (.Name (Str.ofString "enumerate") a7) [.Name (Str.ofString "addr") a8] [] a9)
          bd [] a10, .If (.Name (Str.ofString "escape") a11) B3 [] a12] = fb
  have hh' : (A.over (.func fb (envOf "_iter_escaped_chars" sc Lg f cd)) []).handled = none := hh
  generalize hA : A.over (.func fb (envOf "_iter_escaped_chars" sc Lg f cd)) [] = A' at hh'
  show Seg _ A _ _ _ s _ (do point; match ← (execs fb (envOf "_iter_escaped_chars" sc Lg f cd)).onRaise (leaving (envOf "_iter_escaped_chars" sc Lg f cd)) with | .ret v => ret v | _ => ret .none) [] s
  refine seg_bind (wpAny_point ?_)
  rw [Sem.onRaise_eq_wrap, Sem.bind_eq_wrap', Sem.wrap_wrap]
  have e0 : execs fb (envOf "_iter_escaped_chars" sc Lg f cd) = execs [Stmt.Assign [.Name (Str.ofString "pos") a1] (.Constant (.int 0) k0 a2) a3, .Assign [.Name (Str.ofString "escape") a4] (.Constant (.bool false) k1 a5) a6,
        .For (.Tuple [.Name (Str.ofString "pos") p1, .Name (Str.ofString "ch") p2] 0 p3) (.Call (.Name (Str.ofString "enumerate") a7) [.Name (Str.ofString "addr") a8] [] a9)
          bd [] a10, .If (.Name (Str.ofString "escape") a11) B3 [] a12] (envOf "_iter_escaped_chars" sc Lg f cd) := by rw [hfb]
  rw [e0, arm_execs_cons]
  refine seg_bind_wrap ?_
  rw [hA]
  subst hsc
  have hp : ∀ (x : Addr), ((ScopeKind.function == ScopeKind.class) || (ScopeKind.function == ScopeKind.module && Lg != x)) = false := fun _ => rfl
  refine wpAny_Assign_Name (wpAny_Constant_int (wpAny_storeName_local rfl F.ns (fun h₁ hn₁ hs₁ => ?_) (hp _)))
  replace hs₁ : Heap.SameBut Lg s.heap h₁ := hs₁
  have F₁ := F.set hn₁ hs₁
  clear hn₁
  dsimp only
  rw [arm_execs_cons]
  refine seg_bind_wrap ?_
  rw [hA]
  refine wpAny_Assign_Name (wpAny_Constant_bool (wpAny_storeName_local rfl F₁.ns (fun h₂ hn₂ hs₂ => ?_) (hp _)))
  replace hs₂ : Heap.SameBut Lg h₁ h₂ := hs₂
  have F₂ := F₁.set hn₂ hs₂
  clear hn₂
  dsimp only
  have hz₂ : h₂.objs.size = s.heap.objs.size := by rw [hs₂.1, hs₁.1]
  rw [arm_execs_cons, exec_For]
  simp only [sem_assoc]
  refine seg_bind_wrap (wpAny_standAt ?_)
  refine seg_bind_wrap ?_
  rw [hA]
  walk1
  walk1
  walk1
  walk1
  have m1 : (if Str.ofString "addr" = Str.ofString "escape" then some (Value.bool false) else if Str.ofString "addr" = Str.ofString "pos" then some (Value.int 0 s.toks) else mg (Str.ofString "addr")) = some (.str a t) := by
    rw [if_neg (by decide), if_neg (by decide)]; exact hm
  have m2 : (if Str.ofString "escape" = Str.ofString "escape" then some (Value.bool false) else if Str.ofString "escape" = Str.ofString "pos" then some (Value.int 0 s.toks) else mg (Str.ofString "escape")) = some (.bool false) := if_pos rfl
  refine ld F₂ m1 ?_
  walk1
  refine call_enumerate_str fun h₃ he hit hsz hk => ?_
  dsimp only at he hit hsz hk
  rw [hz₂] at he hit
  dsimp only
  rw [hz₂]
  have hty : strIterType a = "str_ascii_iterator" := by unfold strIterType; rw [if_pos hascii]
  rw [hty] at hit
  refine seg_bind_wrap (wpAny_of_eq (a := Value.ref (s.heap.objs.size + 1)) rfl ?_)
  refine seg_bind_wrap (wpAny_standAt ?_)
  refine seg_bind_wrap (wpAny_holding (wpAny_pyIter_enum he ?_))
  have hLs : Lg < s.heap.objs.size := by
    refine elE_3 F.ns fun oL es ep => elA_2 ?_
    intro hL r2
    exact Heap.lt_size hL
  have F₃ : Fr hb Lg h₃ _ := F₂.kept hk
  have hfresh : ∀ b, s.heap.objs.size ≤ b → hb.get? b = none := fun b hbs' => by
    cases q : hb.get? b with
    | none => rfl
    | some o => exact absurd (Heap.lt_size (F.keep b o q)) (Nat.not_lt.mpr hbs')
  have S₃ : GSince Lg (s.heap.objs.size + 1) s.heap.objs.size s { s with heap := h₃, toks := s.toks + 1 + 1 + 1 } :=
    (inE_2 h₃ _ (inA_2 rfl (fun b o x1 _ _ e => hk b o (hs₂.extBut b o x1 (hs₁.extBut b o x1 e)))))
  show Seg _ A _ _ _ s _ (Sem.call (.forLoop (.Tuple [.Name (Str.ofString "pos") p1, .Name (Str.ofString "ch") p2] 0 p3) (.ref (s.heap.objs.size + 1)) bd [] _) none false _ _) [] _
  refine seg_call fun pp => ?_
  subst hbd
  refine seg_n (Nat.sub_zero n) (seg_loop (prog := prog) (w := w) (A := A) (hb := hb) (Lg := Lg) (En := s.heap.objs.size + 1) (It := s.heap.objs.size) (f := f) (a := a) (t := t) (n := n) (nm := "_iter_escaped_chars")
    (sc := { kind := ScopeKind.function, names := [("addr", NameKind.local), ("pos", NameKind.local), ("escape", NameKind.local), ("ch", NameKind.local), ("enumerate", NameKind.globalImplicit)], isGenerator := true, isCoroutine := false })
    (cd := cd) hh hn rfl rfl rfl rfl rfl rfl (Nat.ne_of_lt (Nat.lt_succ_of_lt hLs)) (Nat.ne_of_lt hLs) (Nat.succ_ne_self _) (hfresh _ (Nat.le_succ _)) (hfresh _ (Nat.le_refl _)) hbs ?_ n 0 s _ (Nat.sub_zero _) (Nat.zero_le _) (GInv.mk (Exists.intro (fun x => if x = Str.ofString "escape" then some (Value.bool false) else if x = Str.ofString "pos" then some (Value.int 0 s.toks) else mg x) ⟨F₃, m1, m2⟩) ⟨_, he⟩ hit) S₃)
  · intro s₀ s' ⟨mg', F', m'⟩ S'
    change Seg _ _ _ _ _ _ _ (Sem.wrap _ _ _ _ (execs [Stmt.If (Expr.Name (Str.ofString "escape") a11) B3 [] a12] _)) [] _
    rw [arm_execs_cons, arm_exec_If]
    simp only [sem_assoc]
    refine seg_bind_wrap (wpAny_standAt ?_)
    refine seg_bind_wrap ?_
    rw [hA]
    refine isTrue_plain ?_
    refine ld F' m' ?_
    refine wpAny_truthy_bool ?_
    exact seg_end (.ok (.ret .none)) ⟨rfl, rfl, S'⟩
end
end Mine
end

section
open PySem PySem.W PyProof.Rows PySem.Calls
set_option Elab.async false
set_option maxRecDepth 100000
set_option maxHeartbeats 2000000
namespace Mine

abbrev genScope : Scope := { kind := ScopeKind.function, names := [("addr", NameKind.local), ("pos", NameKind.local), ("escape", NameKind.local), ("ch", NameKind.local), ("enumerate", NameKind.globalImplicit)], isGenerator := true, isCoroutine := false }

section
variable {prog : Program} {w : World} {A : Around} {E : Value → Shared → Prop} {s : Shared}

theorem call_gen {hb : Heap} {L : Addr} {m : Str → Option Value} {a : Str} {t : Tok} {n : Nat} {Q : Value → Shared → Prop} {p : Program} {loose : List Str} {mean : ExcName → Option Value} {mg0 mb : Str → Option Value}
    (F : Fr hb L s.heap m) (X : Frag.In (hd.heap_39 w.params) hb) (T : Top p loose mean mg0 mb hb) (hroom : A.depth < recursionLimit) (hn : a.cps.size = n) (hascii : a.cps.all (· < 128) = true) (hbs : ∀ c ∈ a.cps.toList, c ≠ 92)
    (h : ∀ (g : Nat) (gs : GenState) (G Lg : Addr) (h' : Heap) (tk : Nat), g = s.gens.size → s.heap.objs.size ≤ Lg → Lg < G → G < h'.objs.size → h'.IsGen G g → (∀ b o, s.heap.get? b = some o → h'.get? b = some o) →
      (∃ o, h'.get? Lg = some o) →
      (∀ (B : Around) (s'' : Shared), B.handled = none → s''.heap = h' → gs.Goes (model prog w) B (fun n s₀ r s₁ => r = .ok (.ret .none) ∧ GP Lg (h'.objs.size + 1) h'.objs.size n s₀ s₁) (GY hb Lg (h'.objs.size + 1) h'.objs.size a t n) n (.send .none) s'') →
      Q (.ref G) { s with heap := h', toks := tk, gens := s.gens.push gs }) :
    wpAny (model prog w) A (call (.ref 53) [.str a t]) Q E s := by
  refine wpAny_call ?_
  have hX := X.keeps F.keep
  refine codeAny_call_generator hroom (hX 53 _ (by rfl)) (by rfl) (by rfl) (by rfl) (by rfl) ?_ ?_
  · exact codeRec_of hX (by rfl)
  · refine (BindsTo.of_eq (s := s) (binds := [(Str.ofString "addr", Value.str a t)]) rfl) _ _ _ _ ?_
    refine wpAny_newFunctionEnv (by decide) (locs rfl) (fun h₁ hns hsb => ?_) rfl
    replace hns : h₁.Ns s.heap.objs.size (fun x => [(Str.ofString "addr", Value.str a t)].reverse.lookup x) := hns
    replace hsb : Heap.SameBut s.heap.objs.size (s.heap.push { cls := .type "frame", data := .dict #[] }) h₁ := hsb
    have hk₁ : ∀ b o, s.heap.get? b = some o → h₁.get? b = some o := fun b o e => hsb.extBut b o (Nat.ne_of_lt (Heap.lt_size e)) (Heap.get?_push_of_some _ e)
    have hz₁ : h₁.objs.size = s.heap.objs.size + 1 := by rw [hsb.1, Heap.size_push]
    refine ⟨(T.nolimit.keeps F.keep).keeps hk₁, ?_⟩
    dsimp only
    have F₁ : Fr hb s.heap.objs.size h₁ (fun x => [(Str.ofString "addr", Value.str a t)].reverse.lookup x) :=
      ⟨hns, fun b o e => hk₁ b o (F.keep b o e), Nat.le_trans F.above (Nat.le_of_lt F.ns.lt)⟩
    refine h s.gens.size _ h₁.objs.size s.heap.objs.size _ _ rfl (Nat.le_refl _) (by rw [hz₁]; exact Nat.lt_succ_self _) (by rw [Heap.size_push]; exact Nat.lt_succ_self _)
      (inE_3 _ _ _ (inA_4 (Heap.get?_push_size _ rfl) rfl rfl rfl)) (fun b o e => Heap.get?_push_of_some _ (hk₁ b o e)) ?_ ?_
    · refine elE_3 hns fun oL es ep => elA_2 ?_
      clear hns
      intro hL r2
      exact ⟨oL, Heap.get?_push_of_some _ hL⟩
    · intro B s'' hB he
      have F₂ : Fr hb s.heap.objs.size s''.heap (fun x => [(Str.ofString "addr", Value.str a t)].reverse.lookup x) := by rw [he]; exact F₁.push _
      rw [← he]
      exact ⟨rfl, seg_start (A := B) hB hn hascii hbs T X F₂ rfl genScope rfl⟩
end
end Mine
end

section
open PySem PySem.W PyProof.Rows PySem.Calls
set_option Elab.async false
set_option maxRecDepth 100000
set_option maxHeartbeats 2000000
namespace Mine

def GTPost (hb : Heap) (L : Addr) (J : (Str → Option Value) → List (Addr × Obj) → Prop) (news own : List (Addr × Obj)) (s₁ : Shared) (f : Flow) (s₂ : Shared) : Prop :=
  (f = .next ∨ f = .cont) ∧ ∃ h' tk m₂ news₂, s₂ = { s₁ with heap := h', toks := tk } ∧ Fr hb L h' m₂ ∧ News hb L h' (news₂ ++ own) ∧ news₂.map (·.1) = news.map (·.1) ∧ J m₂ news₂

theorem set_set (gs : Array GenState) (g : Nat) (x y : GenState) : (gs.setIfInBounds g x).setIfInBounds g y = gs.setIfInBounds g y := by
  simp

theorem IsGen_keeps {h h' : Heap} {a g : Nat} (x : h.IsGen a g) (hk : ∀ o, h.get? a = some o → h'.get? a = some o) : h'.IsGen a g :=
  let ⟨o, nm, qn, ho, r⟩ := x; (inE_3 o nm qn (inA_2 (hk _ ho) r))

section
variable {prog : Program} {w : World} {A : Around} {E : Value → Shared → Prop} {s : Shared}

theorem letOwned_gen {G g : Nat} {T : Addr} {elts : List Expr} {k : Nat} {pos : Pos} {Q : Unit → Shared → Prop} (hG : s.heap.IsGen G g) (h : Q () s) :
    wpAny (model prog w) A (letOwnedTupleGo (.Tuple elts k pos) (.ref G) (.ref T)) Q E s := by
  refine elE_3 hG fun o nm qn => elA_4 ?_
  clear hG
  intro ho hc hd hsl
  unfold letOwnedTupleGo
  dsimp only
  refine wpAny_bind (wpAny_load ho ?_)
  rw [hc, hd]
  dsimp only
  rw [if_neg (by rw [show (["enumerate", "zip", "dict_itemiterator", "dict_reverseitemiterator", "odict_iterator", "itertools.zip_longest", "itertools.pairwise"] : List String).contains "generator" = false from by decide +kernel]; simp)]
  exact wpAny_pure h

theorem loop_gen {hb : Heap} {nm : Str} {sc : Scope} {L f : Nat} {cd : Value} {m : Str → Option Value} {news : List (Addr × Obj)} {a : Str} {t : Tok} {n g : Nat} {gs : GenState} {G Lg : Nat} {xi xc : Str} {p1 p2 p3 : Pos} {kk : Nat} {body : List Stmt} {Q : Flow → Shared → Prop}
    {Err : Value → Shared → Prop} {p : Program} {loose : List Str} {mean : ExcName → Option Value} {mg0 mb : Str → Option Value}
    (hh : A.handled = none) (hroom : A.depth < recursionLimit) (hsk : sc.kind = .function) (hxi : (envOf nm sc L f cd).kindOf xi = some .local) (hxc : (envOf nm sc L f cd).kindOf xc = some .local)
    (F : Fr hb L s.heap m) (N : News hb L s.heap news) (T : Top p loose mean mg0 mb hb)
    (hGg : s.heap.IsGen G g) (hgs : s.gens[g]? = some gs) (hLo : ∃ o, s.heap.get? Lg = some o) (hLL : L < Lg) (hLG : Lg < G) (hGs : G < s.heap.objs.size) (hNl : ∀ p ∈ news, (p.1 : Nat) < Lg)
    (hgo : ∀ (B : Around) (s'' : Shared), B.handled = none → s''.heap = s.heap → gs.Goes (model prog w) B (fun n s₀ r s₁ => r = .ok (.ret .none) ∧ GP Lg (s.heap.objs.size + 1) s.heap.objs.size n s₀ s₁) (GY hb Lg (s.heap.objs.size + 1) s.heap.objs.size a t n) n (.send .none) s'')
    (J : Nat → (Str → Option Value) → List (Addr × Obj) → Prop) (hJ : J 0 m news)
    (turn : ∀ i c ti tc m₁ news₁ h tk gens o1 o2 o3 o4, i < n → a.cps[i]? = some c → J i m₁ news₁ → news₁.map (·.1) = news.map (·.1) →
      Fr hb L h (fun y => if y = xc then some (.str ⟨#[c]⟩ tc) else if y = xi then some (.int i ti) else m₁ y) →
      News hb L h (news₁ ++ [(Lg, o1), (G, o2), (s.heap.objs.size, o3), (s.heap.objs.size + 1, o4)]) →
      wpAny (model prog w) A (execs body (envOf nm sc L f cd)) (GTPost hb L (J (i + 1)) news [(Lg, o1), (G, o2), (s.heap.objs.size, o3), (s.heap.objs.size + 1, o4)] { s with heap := h, toks := tk, gens := gens }) (fun _ _ => False) { s with heap := h, toks := tk, gens := gens })
    (done : ∀ m₁ news₁ h tk, J n m₁ news₁ → news₁.map (·.1) = news.map (·.1) → Fr hb L h m₁ → News hb L h news₁ → Q .next { s with heap := h, toks := tk, gens := s.gens.setIfInBounds g .finished }) :
    wpAny (model prog w) A (pyIter (.ref G)) (fun it s₂ => codeAny (model prog w) A (.forLoop (.Tuple [.Name xi p1, .Name xc p2] kk p3) it body [] (envOf nm sc L f cd)) (fun r s' => match r with | .ok f => Q f s' | .error e => Err e s') s₂) E s := by
  refine wpAny_pyIter_gen hGg ?_
  generalize hEn : s.heap.objs.size + 1 = En at *
  generalize hIt : s.heap.objs.size = It at *
  have hpp : ((envOf nm sc L f cd).scope.kind == .class || ((envOf nm sc L f cd).scope.kind == .module && (envOf nm sc L f cd).locals != (envOf nm sc L f cd).globals)) = false := by
    show ((sc.kind == .class) || (sc.kind == .module && L != mainGlobals)) = false
    rw [hsk]; rfl
  have hg : g < s.gens.size := by
    rcases Nat.lt_or_ge g s.gens.size with h' | h'
    · exact h'
    · rw [Array.getElem?_eq_none h'] at hgs; cases hgs
  have hself : ∀ x, (s.gens.setIfInBounds g x)[g]? = some x := fun x => by simp [hg]
  have hbL : hb.objs.size ≤ L := F.above
  have hbN : ∀ b, L ≤ b → hb.get? b = none := fun b hl => by
    cases q : hb.get? b with
    | none => rfl
    | some o => exact absurd (Heap.lt_size q) (Nat.not_lt.mpr (Nat.le_trans hbL hl))
  have sep : ∀ {b : Nat}, b < Lg → b ≠ Lg ∧ b ≠ En ∧ b ≠ It := fun {b} h => by lia
  have sG : L < G := by lia
  have sI : L < It := by lia
  have sE : L < En := by lia
  have sepG : G ≠ Lg ∧ G ≠ En ∧ G ≠ It := by lia
  have hbl : ∀ {b : Nat} {o : Obj}, hb.get? b = some o → b < Lg := fun {b o} e => by
    have h1 : b < hb.objs.size := Heap.lt_size e
    lia
  have keepF : ∀ {H h₁ : Heap} {m' : Str → Option Value}, Fr hb L H m' → (∀ b o, b ≠ Lg → b ≠ En → b ≠ It → H.get? b = some o → h₁.get? b = some o) → Fr hb L h₁ m' := fun {H h₁ m'} F' hk => by
    refine elE_3 F'.ns fun oL es ep => elA_2 ?_
    intro hL r2
    exact ⟨(inE_3 oL es ep (inA_2 (hk _ _ (sep hLL).1 (sep hLL).2.1 (sep hLL).2.2 hL) r2)), fun b o e => hk b o (sep (hbl e)).1 (sep (hbl e)).2.1 (sep (hbl e)).2.2 (F'.keep b o e), F'.above⟩
  have newsLt : ∀ {news' : List (Addr × Obj)}, news'.map (·.1) = news.map (·.1) → ∀ q ∈ news', (q.1 : Nat) < Lg := fun {news'} hm q hq => by
    have h1 : q.1 ∈ news.map (·.1) := hm ▸ List.mem_map.mpr ⟨q, hq, rfl⟩
    obtain ⟨q', hq', e⟩ := List.mem_map.mp h1
    exact e ▸ hNl q' hq'
  have keepN : ∀ {H h₁ : Heap} {news' : List (Addr × Obj)}, News hb L H news' → news'.map (·.1) = news.map (·.1) → (∀ b o, b ≠ Lg → b ≠ En → b ≠ It → H.get? b = some o → h₁.get? b = some o) → News hb L h₁ news' := fun {H h₁ news'} N' hm hk q hq => by
    have h2 := sep (newsLt hm q hq)
    exact ⟨hk _ _ h2.1 h2.2.1 h2.2.2 (N' q hq).1, (N' q hq).2⟩
  have keepG : ∀ {H h₁ : Heap}, H.IsGen G g → (∀ b o, b ≠ Lg → b ≠ En → b ≠ It → H.get? b = some o → h₁.get? b = some o) → h₁.IsGen G g := fun {H h₁} ⟨o, nm', qn, ho, r⟩ hk => (inE_3 o nm' qn (inA_2 (hk _ _ sepG.1 sepG.2.1 sepG.2.2 ho) r))
  refine codeAny_forLoop_any
    (fun k s' => ∃ H tk gs' m' news' i, s' = { s with heap := H, toks := tk, gens := s.gens.setIfInBounds g gs' } ∧ Fr hb L H m' ∧ News hb L H news' ∧ news'.map (·.1) = news.map (·.1) ∧ J i m' news' ∧ H.IsGen G g ∧ i ≤ n ∧ k = n + 1 - i ∧
      (∀ s'' : Shared, s''.heap = H → gs'.Goes (model prog w) A.in1 (fun n s₀ r s₁ => r = .ok (.ret .none) ∧ GP Lg En It n s₀ s₁) (GY hb Lg En It a t n) (n - i) (.send .none) s''))
    ?_ (n + 1) (inE_6 (s.heap) (s.toks) gs m news 0 (inA_9 ?_ F N rfl hJ hGg (Nat.zero_le _) rfl (fun s'' he => hgo A.in1 s'' hh he)))
  · rintro k s' hx2__
    refine elE_6 hx2__ fun H tk gs' m' news' i => elA_9 ?_
    clear hx2__
    intro e0__ F' N' hmap hJ' hG' hi e1__ hgo'
    subst e0__
    subst e1__
    by_cases hlt : i < n
    · obtain ⟨mm, hmm⟩ : ∃ mm, n - i = mm + 1 := ⟨n - i - 1, by lia⟩
      rw [hmm] at hgo'
      refine wpAny_pyNext_gen (n := mm + 1) (P := GP Lg En It) hh (T.nolimit.keeps F'.keep) hroom hG' (hself gs') (hgo' _ rfl) (fun v s₁ gs'' hv => ?_) (fun s₁ hp => ?_)
      · refine elE_5 hv fun i' c Tt ti tc => elA_7 ?_
        clear hv
        intro hi' hc e0__ hT c1__ G₁ kap
        subst e0__
        obtain ⟨h₁, tk₁, rfl, hk₁⟩ := c1__
        obtain rfl : i' = i := by lia
        replace hk₁ : ∀ b o, b ≠ Lg → b ≠ En → b ≠ It → H.get? b = some o → h₁.get? b = some o := hk₁
        replace hT : h₁.IsTuple Tt #[.int i' ti, .str ⟨#[c]⟩ tc] := hT
        have F₁ := keepF F' hk₁
        have N₁ := keepN N' hmap hk₁
        have hG₁ := keepG hG' hk₁
        replace G₁ : GInv hb Lg En It a t (i' + 1) h₁ := G₁
        have hsg : ∀ (x : Heap) (y : Nat), ({ s with heap := x, toks := y, gens := s.gens.setIfInBounds g gs' } : Shared).setGen g .running = { s with heap := x, toks := y, gens := s.gens.setIfInBounds g .running } := fun x y => by
          unfold Shared.setGen; rw [set_set]
        simp only [Shared.setGen, set_set]
        refine letOwned_gen hG₁ ?_
        refine wpAny_assign_Tuple hh hT rfl rfl fun h₃ hx₃ => ?_
        replace hx₃ : Heap.ExtBut h₁.objs.size h₁ h₃ := hx₃
        have up₃ : ∀ b o, h₁.get? b = some o → h₃.get? b = some o := fun b o x => hx₃ b o (Nat.ne_of_lt (Heap.lt_size x)) x
        have F₃ := F₁.kept up₃
        have N₃ : News hb L h₃ news' := fun q hq => ⟨up₃ _ _ (N₁ q hq).1, (N₁ q hq).2⟩
        have hG₃ : h₃.IsGen G g := hG₁.keeps up₃
        have G₃ : GInv hb Lg En It a t (i' + 1) h₃ := G₁.keeps fun b o _ e => up₃ b o e
        show wpAny _ A (do holding [Value.str ⟨#[c]⟩ tc] (assign (.Name xi p1) (envOf nm sc L f cd) (.int i' ti)); do holding [] (assign (.Name xc p2) (envOf nm sc L f cd) (.str ⟨#[c]⟩ tc)); pure ()) _ _ _
        refine wpAny_bind (wpAny_holding (wpAny_assign_Name (wpAny_storeName_local hxi F₃.ns (fun h₄ hn₄ hs₄ => ?_) hpp)))
        replace hs₄ : Heap.SameBut L h₃ h₄ := hs₄
        have F₄ := F₃.set hn₄ hs₄
        refine wpAny_bind (wpAny_holding (wpAny_assign_Name (wpAny_storeName_local hxc F₄.ns (fun h₅ hn₅ hs₅ => wpAny_pure ?_) hpp)))
        replace hs₅ : Heap.SameBut L h₄ h₅ := hs₅
        have F₅ := F₄.set hn₅ hs₅
        have N₅ : News hb L h₅ news' := (N₃.set hs₄).set hs₅
        have up₅ : ∀ b o, b ≠ L → h₃.get? b = some o → h₅.get? b = some o := fun b o x1 e => hs₅.extBut b o x1 (hs₄.extBut b o x1 e)
        have G₅ : GInv hb Lg En It a t (i' + 1) h₅ := G₃.keeps fun b o hb' e => up₅ b o (by
          rcases hb' with rfl | rfl | rfl | ⟨o', e'⟩
          · exact (Nat.ne_of_gt hLL)
          · lia
          · lia
          · exact Nat.ne_of_lt (Nat.lt_of_lt_of_le (Heap.lt_size e') hbL)) e
        have hG₅ : h₅.IsGen G g := IsGen_keeps hG₃ fun o e => up₅ G o (by lia) e
        obtain ⟨⟨mg, FL, mg1, mg2⟩, ⟨old, hen⟩, ⟨oI, hoI, hI1, hI2⟩⟩ := id G₅
        refine elE_3 (id FL.ns) fun oL esL epL => elA_2 ?_
        intro hLo' hLr
        refine elE_3 (id hG₅) fun oG nm1 qn1 => elA_2 ?_
        intro hoG hGr
        have Nall : News hb L h₅ (news' ++ [(Lg, oL), (G, oG), (It, oI), (En, _)]) := fun q hq => by
          rcases List.mem_append.mp hq with hq | hq
          · exact N₅ q hq
          · simp only [List.mem_cons, List.not_mem_nil, or_false] at hq
            rcases hq with rfl | rfl | rfl | rfl
            · exact ⟨hLo', Nat.ne_of_gt hLL, hbN _ (Nat.le_of_lt hLL)⟩
            · exact ⟨hoG, Nat.ne_of_gt sG, hbN _ (Nat.le_of_lt sG)⟩
            · exact ⟨hoI, Nat.ne_of_gt sI, hbN _ (Nat.le_of_lt sI)⟩
            · exact ⟨hen, Nat.ne_of_gt sE, hbN _ (Nat.le_of_lt sE)⟩
        refine wpAny_mono (turn i' c ti tc m' news' h₅ _ _ oL oG oI _ hlt hc hJ' hmap F₅ Nall) (fun f s₃ hp => ?_) (fun _ _ x => x.elim)
        refine elA_2 ?_ hp
        clear hp
        intro hf hy2__
        refine elE_4 hy2__ fun h₆ tk₆ m₂ news₂ => elA_5 ?_
        clear hy2__
        intro e0__ F₆ N₆ hm₆ hJ₆
        subst e0__
        have e1 := (N₆ (Lg, oL) (List.mem_append_right _ (.head _))).1
        have e2 := (N₆ (G, oG) (List.mem_append_right _ (.tail _ (.head _)))).1
        have e3 := (N₆ (It, oI) (List.mem_append_right _ (.tail _ (.tail _ (.head _))))).1
        have e4 := (N₆ (En, _) (List.mem_append_right _ (.tail _ (.tail _ (.tail _ (.head _)))))).1
        have G₆ : GInv hb Lg En It a t (i' + 1) h₆ := G₅.keeps fun b o hb' e => by
          rcases hb' with rfl | rfl | rfl | ⟨o', e'⟩
          · rw [hLo'] at e; cases e; exact e1
          · rw [hen] at e; cases e; exact e4
          · rw [hoI] at e; cases e; exact e3
          · have e5 := F₅.keep b o' e'
            rw [e] at e5; cases e5
            exact F₆.keep b o e'
        have fin : ∃ m, m < n + 1 - i' ∧ ∃ H tk gs' m' news' i, ({ s with heap := h₆, toks := tk₆, gens := s.gens.setIfInBounds g gs'' } : Shared) = { s with heap := H, toks := tk, gens := s.gens.setIfInBounds g gs' } ∧ Fr hb L H m' ∧ News hb L H news' ∧ news'.map (·.1) = news.map (·.1) ∧ J i m' news' ∧ H.IsGen G g ∧ i ≤ n ∧ m = n + 1 - i ∧
            (∀ s'' : Shared, s''.heap = H → gs'.Goes (model prog w) A.in1 (fun n s₀ r s₁ => r = .ok (.ret .none) ∧ GP Lg En It n s₀ s₁) (GY hb Lg En It a t n) (n - i) (.send .none) s'') := by
          refine (inE_1 (n + 1 - (i' + 1)) (inA_2 (by lia) (inE_6 h₆ tk₆ gs'' m₂ news₂ (i' + 1) (inA_9 rfl F₆ (fun q hq => N₆ q (List.mem_append_left _ hq)) hm₆ hJ₆ (IsGen_keeps hG₅ fun o e => ?_) (by lia) rfl (fun s'' he => ?_)))))
          · rw [hoG] at e; cases e; exact e2
          · have := kap s'' (he ▸ G₆)
            dsimp only at this
            rw [show n - (i' + 1) = mm by lia]
            exact this
        rcases hf with rfl | rfl
        · exact fin
        · exact fin
      · exact absurd hp.1 (Nat.succ_ne_zero mm)
    · obtain rfl : i = n := by lia
      rw [Nat.sub_self] at hgo'
      refine wpAny_pyNext_gen (n := 0) (P := GP Lg En It) hh (T.nolimit.keeps F'.keep) hroom hG' (hself gs') (hgo' _ rfl) (fun v s₁ gs'' hv => ?_) (fun s₁ hp h₂ hk₂ => ?_)
      · refine elE_5 hv fun i' c Tt ti tc => elA_7 ?_
        clear hv
        intro hi' hc e0__ hT S₁ G₁ kap
        subst e0__
        exact (kap s₁ G₁).elim
      · refine elA_2 ?_ hp
        clear hp
        intro _ hy4__
        refine elE_2 hy4__ fun h₁ tk₁ => elA_2 ?_
        clear hy4__
        intro e0__ hk₁
        subst e0__
        refine wpAny_execs_nil ?_
        have hk₃ : ∀ b o, b ≠ Lg → b ≠ En → b ≠ It → H.get? b = some o → h₂.get? b = some o := fun b o x1 x2 x3 e => hk₂ b o (hk₁ b o x1 x2 x3 e)
        have := done m' news' h₂ tk₁ hJ' hmap (keepF F' hk₃) (keepN N' hmap hk₃)
        simpa only [Shared.setGen, set_set] using this
  · have : s.gens.setIfInBounds g gs = s.gens := by
      apply Array.ext_getElem?
      intro j
      rw [Array.getElem?_setIfInBounds]
      split
      · rename_i hj
        subst hj
        exact hgs.symm
      · rfl
    rw [this]
end
end Mine
end

section
open PySem PySem.W PyProof.Rows PySem.Calls
set_option Elab.async false
set_option maxRecDepth 100000
set_option maxHeartbeats 2000000
namespace Mine

theorem fill5 : (fun (_ : OpenLaw) (_ : Params → Frag) => True) PySem.Challenge.rw_wa0010_01 hd.heap_39 := by
  k_fill
  exact trivial

/-- a contract: what a call of the def at f gives back; every frame's and every ledger's facts stay -/
def Tell (prog : Program) (w : World) (p : Program) (loose : List Str) (mean : ExcName → Option Value) (mg mb : Str → Option Value) (f : Nat) (vs : List Value) (nd nu : Nat) (Pre : Heap → List (Addr × Obj) → Prop) (Out : List (Addr × Obj) → List (Addr × Obj) → Value → Prop) : Prop :=
  ∀ (dp un : Nat) (gd : Option (List Code)) (cn : Str) (cs : Scope) (a : Addr) (ccd : Value) (cl : List (Str × Addr)) (outer : List Env) (A₀ : Around) (base h₀ : Heap) (L : Addr) (m : Str → Option Value) (s : Shared) (news : List (Addr × Obj)) (Q E : Value → Shared → Prop),
    Below A₀ base outer h₀ → Fr h₀ L s.heap m → Frag.In (hd.heap_39 w.params) h₀ → News h₀ L s.heap news → Top p loose mean mg mb h₀ → cs.kind = .function → Pre s.heap news → dp + nd < recursionLimit → un + nu < cLine →
    (∀ v tl h' tk' gx, Fr h₀ L h' m → News h₀ L h' (tl ++ news) → (∀ q ∈ gx, q = GenState.finished) → Out tl news v → Q v { s with heap := h', toks := tk', gens := s.gens ++ gx }) →
    wpAny (model prog w) (ktrTop dp un gd cn cs L a ccd cl outer) (call (.ref f) vs) Q E s

theorem gens_done (a b : Array GenState) (x y : GenState) (g : Nat) (hg : g = (a ++ b).size) : ((a ++ b).push x).setIfInBounds g y = a ++ b.push y := by
  subst hg
  apply Array.ext'
  simp
theorem gens_fin {b : Array GenState} (h : ∀ q ∈ b, q = GenState.finished) : ∀ q ∈ b.push GenState.finished, q = GenState.finished := by
  intro q hq
  rcases Array.mem_push.mp hq with hq | hq
  · exact h q hq
  · exact hq

theorem chr_eq (c d : Nat) : ((⟨#[c]⟩ : Str) == ⟨#[d]⟩) = decide (c = d) := by
  by_cases h : c = d <;> simp [h]

def val (c : Nat) : Int := if c = 40 then 1 else if c = 41 then -1 else 0
def bal (l : List Nat) : Int := (l.map val).sum

section
variable {prog : Program} {w : World} {p : Program} {loose : List Str} {mean : ExcName → Option Value} {mg mb : Str → Option Value}

theorem check_tell (a : Str) (t : Tok) (b : Str) (hasc : b.cps.all (· < 128) = true) (hbs : ∀ c ∈ b.cps.toList, c ≠ 92) (hnn : ∀ i, 0 ≤ bal (b.cps.toList.take i)) (hlen : b.cps.size ≤ 1000)
    (hstrip : ∀ t, Tell prog w p loose mean mg mb 60 [.str a t] 2 16 (fun _ _ => True) fun _ _ v => ∃ t, v = .str b t) :
    Tell prog w p loose mean mg mb 67 [.str a t] 3 24 (fun _ _ => True) fun _ _ v => v = .bool (decide (bal b.cps.toList = 0)) := by
  intro dp un gd cn cs ca ccd cl outer A₀ base h₀ L m s news Q E B F X N T hk hpre hd hu hret
  refine wpAny_call (code_def (binds := [(Str.ofString "addr", Value.str a t)]) B F X N T rfl rfl hk (by rfl : (Mine.hd.heap_39 w.params).lookup 67 = some ⟨_, _, .func (fnOf _ _ _ _ _ _ _ _ _ _ _ _), _⟩) (by rfl) ?_ (BindsTo.of_eq rfl) (locs rfl) (fun g L' h₁ FG F' N' B' X' T' => ?_) rfl rfl rfl (by decide))
  · show dp < recursionLimit
    omega
  refine abs_QE fun Q₀ E₀ hQ₀ => ?_
  iterate 6 walk1
  refine PyProof.Rows.spliced_more (ld F' rfl (PyProof.Rows.spliced_none ⟨X'.keeps F'.keep, ?_⟩))
  refine hstrip t _ _ _ _ _ _ _ _ _ _ _ _ _ _ _ _ _ _ B' F' X' N' T' rfl trivial ?_ ?_ (fun v tl h₂ tk₂ gx F₂ N₂ hgx hv => ?_)
  · show dp + 1 + 2 < recursionLimit
    omega
  · show un + 3 + 16 < cLine
    omega
  obtain ⟨t₂, rfl⟩ := hv
  dsimp only
  refine PyProof.Rows.stN F₂ N₂ (fun h₃ F₃ N₃ => ?_)
  dsimp only
  refine wpAny_execs_cons (wpAny_Assign_Name (wpAny_Constant_int (PyProof.Rows.stN F₃ N₃ fun h₄ F₄ N₄ => ?_)))
  dsimp only
  refine wpAny_execs_cons (wpAny_For ?_)
  iterate 3 walk1
  refine PyProof.Rows.spliced_more (ld F₄ (v := .str b t₂) rfl (PyProof.Rows.spliced_none ⟨X'.keeps F₄.keep, ?_⟩))
  refine call_gen F₄ X' T' (by show dp + 1 < recursionLimit; omega) rfl hasc hbs (fun gn gs G Lg h₅ tk₅ hgn hLg1 hLg2 hG1 hGen hk₅ hLo hgo => ?_)
  dsimp only at hLg1 hk₅ hgn
  have F₅ := F₄.kept hk₅
  have N₅ : News g L' h₅ (tl ++ news) := fun q hq => ⟨hk₅ _ _ (N₄ q hq).1, (N₄ q hq).2⟩
  have hLL : (L' : Nat) < Lg := Nat.lt_of_lt_of_le F₄.ns.lt hLg1
  have hNl : ∀ q ∈ tl ++ news, (q.1 : Nat) < Lg := fun q hq => Nat.lt_of_lt_of_le (Heap.lt_size (N₄ q hq).1) hLg1
  refine loop_gen (J := fun (i : Nat) (m' : Str → Option Value) (news' : List (Addr × Obj)) => news' = tl ++ news ∧ ∃ to, m' (Str.ofString "opens") = some (Value.int (bal (b.cps.toList.take i)) to))
    (n := b.cps.size) (g := gn) (gs := gs) (Lg := Lg) (a := b) (t := t₂) rfl (by show dp + 1 < recursionLimit; omega) rfl rfl rfl F₅ N₅ T' hGen (by rw [hgn]; simp) hLo hLL hLg2 hG1 hNl hgo ⟨rfl, ⟨_, rfl⟩⟩ ?turn ?done
  case turn =>
    rintro i c ti tc m₁ news₁ h tk gens o1 o2 o3 o4 hi hc ⟨rfl, ⟨to, hm₁⟩⟩ _ F₆ N₆
    have F₇ : Fr g L' h (fun y => if y = Str.ofString "ch" then some (.str ⟨#[c]⟩ tc) else if y = Str.ofString "pos" then some (.int i ti) else if y = Str.ofString "opens" then some (.int (bal (b.cps.toList.take i)) to) else m₁ y) := by
      have e : (fun y => if y = Str.ofString "ch" then some (Value.str ⟨#[c]⟩ tc) else if y = Str.ofString "pos" then some (.int i ti) else m₁ y) = (fun y => if y = Str.ofString "ch" then some (.str ⟨#[c]⟩ tc) else if y = Str.ofString "pos" then some (.int i ti) else if y = Str.ofString "opens" then some (.int (bal (b.cps.toList.take i)) to) else m₁ y) := by
        funext y
        by_cases h3 : y = Str.ofString "opens"
        · subst h3; simp [hm₁]
        · simp [h3]
      rw [← e]; exact F₆
    clear F₆
    have hbal : bal (b.cps.toList.take (i + 1)) = bal (b.cps.toList.take i) + val c := by
      have e : b.cps.toList[i]? = some c := by simpa using hc
      rw [List.take_add_one, e]
      simp [bal]
    have hnn1 := hnn (i + 1)
    refine wpAny_execs_cons (wpAny_If (wpAny_isTrue_Compare1 (ld F₇ rfl (wpAny_Constant_str (PyProof.Rows.eq_str ?_)))))
    rw [show Str.ofString "(" = ⟨#[40]⟩ from by decide +kernel, chr_eq]
    refine wpAny_truthy_bool ?_
    by_cases h40 : c = 40
    · simp only [h40, decide_true, if_true]
      refine wpAny_execs_cons (wpAny_AugAssign_Name (ldn F₇ rfl (wpAny_Constant_int ?_)))
      walk1
      refine PyProof.Rows.stN F₇ N₆ (fun h₈ F₈ N₈ => ?_)
      repeat refine wpAny_execs_nil ?_
      exact (inA_2 (.inl rfl) (inE_4 h₈ _ _ (tl ++ news) (inA_6 rfl F₈ N₈ rfl rfl (inE_1 _ (by
        rw [hbal, h40, show val 40 = 1 from rfl]; exact if_pos rfl)))))
    · simp only [h40, decide_false, Bool.false_eq_true, if_false]
      refine wpAny_execs_cons (wpAny_If (wpAny_isTrue_Compare1 (ld F₇ rfl (wpAny_Constant_str (PyProof.Rows.eq_str ?_)))))
      rw [show Str.ofString ")" = ⟨#[41]⟩ from by decide +kernel, chr_eq]
      refine wpAny_truthy_bool ?_
      by_cases h41 : c = 41
      · simp only [h41, decide_true, if_true]
        have hv : val c = -1 := by simp [val, h41]
        rw [hv] at hbal
        refine wpAny_execs_cons (wpAny_AugAssign_Name (ldn F₇ rfl (wpAny_Constant_int ?_)))
        walk1
        refine PyProof.Rows.stN F₇ N₆ (fun h₈ F₈ N₈ => ?_)
        dsimp only
        refine wpAny_execs_cons (wpAny_If (wpAny_isTrue_Compare1 (ld F₈ (by exact if_pos rfl) (wpAny_Constant_int ?_))))
        walk1
        refine wpAny_truthy_bool ?_
        rw [decide_eq_false (by omega)]
        simp only [Bool.false_eq_true, if_false]
        repeat refine wpAny_execs_nil ?_
        exact (inA_2 (.inl rfl) (inE_4 h₈ _ _ (tl ++ news) (inA_6 rfl F₈ N₈ rfl rfl (inE_1 _ (by
          rw [hbal]; exact if_pos rfl)))))
      · simp only [h41, decide_false, Bool.false_eq_true, if_false]
        have hv : val c = 0 := by simp [val, h40, h41]
        rw [hv] at hbal
        repeat refine wpAny_execs_nil ?_
        exact (inA_2 (.inl rfl) (inE_4 h _ _ (tl ++ news) (inA_6 rfl F₇ N₆ rfl rfl (inE_1 to (by
          rw [hbal, Int.add_zero]; rfl)))))
  case done =>
    rintro m₁ news₁ h tk ⟨rfl, ⟨to, hm₁⟩⟩ _ F₆ N₆
    dsimp only
    rw [List.take_of_length_le (by simp)] at hm₁
    refine wpAny_execs_cons (wpAny_Return_some (wpAny_Compare1 (ld F₆ hm₁ (wpAny_Constant_int ?_))))
    walk1
    refine hQ₀ _ _ ?_
    refine leaveK_ F₆ N₆ (fun F₇ N₇ => ?_)
    dsimp only at F₇ N₇ ⊢
    rw [gens_done _ _ _ _ _ hgn] at *
    have := hret (.bool (decide (bal b.cps.toList = 0))) tl h (tk + 1) (gx.push GenState.finished) F₇ N₇ (gens_fin hgx) rfl
    exact this
end
end Mine
end

section
open PySem PySem.W PyProof.Rows PySem.Calls
set_option Elab.async false
namespace Mine

abbrev cs (x : Str) : List Nat := x.cps.toList

theorem cs_len (x : Str) : (cs x).length = x.length := by simp [cs, Str.length]

theorem str_ext {x y : Str} (h : cs x = cs y) : x = y := by
  obtain ⟨⟨l⟩⟩ := x
  obtain ⟨⟨m⟩⟩ := y
  simp only [cs] at h
  subst h; rfl

theorem cs_append (x y : Str) : cs (x ++ y) = cs x ++ cs y := by simp [cs, Str.cps_append]
theorem cs_empty : cs (Str.ofString "") = [] := by decide +kernel

theorem slice_ss {x : Str} {i j : Nat} (h1 : i ≤ j) (h2 : j ≤ (cs x).length) : cs (Txt.slice x (some (i : Int)) (some (j : Int))) = ((cs x).take j).drop i := by
  rw [eq_of_beq (slice_closes (x := x) (i := i) (j := j) ⟨by lia, by lia, by simpa [cs] using h2⟩)]
  simp only [cs, Int.toNat_natCast]
  rw [List.drop_take]
  congr 1
  lia
theorem slice_sn {x : Str} {i : Nat} (h1 : i ≤ (cs x).length) : cs (Txt.slice x (some (i : Int)) none) = (cs x).drop i := by
  rw [eq_of_beq (slice_closes_from (x := x) (i := i) ⟨by lia, by simpa [cs] using h1⟩)]
  simp only [cs, Int.toNat_natCast]
  rw [List.take_of_length_le]
  simp
theorem slice_ns {x : Str} {j : Nat} (h1 : j ≤ (cs x).length) : cs (Txt.slice x none (some (j : Int))) = (cs x).take j := by
  rw [eq_of_beq (slice_closes_to (x := x) (j := j) ⟨by lia, by simpa [cs] using h1⟩)]
  simp

theorem join_nil : ∀ ys : List Str, cs (Txt.join (Str.ofString "") ys) = (ys.map cs).flatten := by
  intro ys
  rw [eq_of_beq (join_closes (sep := Str.ofString "") (sep' := Str.ofString "") (ys := ys) rfl)]
  induction ys with
  | nil => rfl
  | cons y ys ih =>
    cases ys with
    | nil => simp [Str.join]
    | cons z zs =>
      show cs (y ++ Str.ofString "" ++ Str.join (Str.ofString "") (z :: zs)) = _
      rw [List.map_cons, List.flatten_cons, ← ih, cs_append, cs_append, cs_empty, List.append_nil]

theorem notIn_quote (x : Str) (c : Nat) : (!(!(Builtin.Str.occurrences x ⟨#[c]⟩ 0 x.length 1).isEmpty)) = decide (c ∉ cs x) := by
  rw [StrLaws.found_one]
  by_cases h : c ∈ x.cps.toList <;> simp [h]

theorem joinOk_nil {ys : List Str} (h : (ys.map (·.length)).sum + ys.length ≤ 1048576) : JoinOk (Str.ofString "") ys = true := PyProof.Rows.joinOk_of_weight h (by decide)

/-- what stands outside the quotation marks, and whether one is open -/
def stepQ (st : List Nat × Bool) (c : Nat) : List Nat × Bool := if c = 34 then (st.1, !st.2) else if st.2 then st else (st.1 ++ [c], false)
def stripQ (l : List Nat) : List Nat × Bool := l.foldl stepQ ([], false)
theorem stripQ_snoc (l : List Nat) (c : Nat) : stripQ (l ++ [c]) = stepQ (stripQ l) c := by simp [stripQ, List.foldl_append]
theorem stripQ_noq : ∀ (l : List Nat), 34 ∉ l → stripQ l = (l, false) := by
  intro l
  have key : ∀ (l acc : List Nat), 34 ∉ l → l.foldl stepQ (acc, false) = (acc ++ l, false) := by
    intro l
    induction l with
    | nil => intro acc _; simp
    | cons c l ih =>
      intro acc h
      have h1 : c ≠ 34 := fun e => h (by simp [e])
      have h2 : 34 ∉ l := fun e => h (by simp [e])
      rw [List.foldl_cons]
      have e : stepQ (acc, false) c = (acc ++ [c], false) := by simp [stepQ, h1]
      rw [e, ih _ h2]
      simp
  intro h
  simpa [stripQ] using key l [] h
end Mine
end

section
open PySem PySem.W PyProof.Rows PySem.Calls
set_option Elab.async false
set_option maxRecDepth 100000
set_option maxHeartbeats 2000000
namespace Mine

theorem fill6 : (fun (_ : OpenLaw) (_ : Params → Frag) => True) PySem.Challenge.rw_wa0010_01 hd.heap_39 := by
  k_fill
  exact trivial

theorem Fr_at {h₀ h : Heap} {L : Addr} {m : Str → Option Value} (F : Fr h₀ L h m) (x : Str) (v : Value) (hx : m x = some v) : Fr h₀ L h (fun y => if y = x then some v else m y) := by
  have e : (fun y => if y = x then some v else m y) = m := by
    funext y
    by_cases h : y = x
    · subst h; rw [if_pos rfl, hx]
    · rw [if_neg h]
  rw [e]; exact F

section
variable {prog : Program} {w : World} {p : Program} {loose : List Str} {mean : ExcName → Option Value} {mg mb : Str → Option Value}

theorem strip_tell (a : Str) (t : Tok) (b : Str) (hasc : a.cps.all (· < 128) = true) (hbs : ∀ c ∈ a.cps.toList, c ≠ 92) (hst : stripQ (cs a) = (cs b, false)) (hlen : a.cps.size ≤ 1000) :
    Tell prog w p loose mean mg mb 60 [.str a t] 2 16 (fun _ _ => True) fun _ _ v => ∃ t, v = .str b t := by
  intro dp un gd cn cs' ca ccd cl outer A₀ base h₀ L m s news Q E B F X N T hk hpre hd hu hret
  have hret0 : ∀ v tl h' tk', Fr h₀ L h' m → News h₀ L h' (tl ++ news) → (∃ t, v = Value.str b t) → Q v { s with heap := h', toks := tk' } := fun v tl h' tk' F N o => by
    simpa using hret v tl h' tk' #[] F N (by simp) o
  refine wpAny_call (code_def (binds := [(Str.ofString "addr", Value.str a t)]) B F X N T rfl rfl hk (by rfl : (Mine.hd.heap_39 w.params).lookup 60 = some ⟨_, _, .func (fnOf _ _ _ _ _ _ _ _ _ _ _ _), _⟩) (by rfl) ?_ (BindsTo.of_eq rfl) (locs rfl) (fun g L' h₁ FG F' N' B' X' T' => ?_) rfl rfl rfl (by decide))
  · show dp < recursionLimit
    lia
  refine abs_QE fun Q₀ E₀ hQ₀ => ?_
  refine wpAny_execs_cons (wpAny_If (wpAny_isTrue_Compare1 (wpAny_Constant_str (ld F' rfl (PyProof.Rows.notIn_str ?_)))))
  rw [show Str.ofString "\"" = ⟨#[34]⟩ from by decide +kernel, notIn_quote]
  refine wpAny_truthy_bool ?_
  by_cases hq : 34 ∉ cs a
  · simp only [hq, not_false_eq_true, decide_true, if_true]
    refine wpAny_execs_cons (wpAny_Return_some (ld F' rfl ?_))
    refine hQ₀ _ _ ?_
    refine leaveK_ F' N' (fun F₇ N₇ => ?_)
    have hb : b = a := by
      rw [stripQ_noq _ hq] at hst
      exact str_ext (Prod.mk.inj hst).1.symm
    exact hret0 (.str a t) [] _ _ F₇ N₇ ⟨t, by rw [hb]⟩
  · simp only [hq, decide_false, Bool.false_eq_true, if_false]
    refine wpAny_execs_nil ?_
    refine wpAny_execs_cons (wpAny_Assign_Name (wpAny_Constant_int (PyProof.Rows.stN F' N' fun h₂ F₂ N₂ => ?_)))
    dsimp only
    refine wpAny_execs_cons (wpAny_Assign_Name (wpAny_Constant_none (PyProof.Rows.stN F₂ N₂ fun h₃ F₃ N₃ => ?_)))
    dsimp only
    refine wpAny_execs_cons (wpAny_Assign_Name (PyProof.Rows.List_ (PyProof.Rows.spliced_none (PyProof.Rows.newList_N F₃ N₃ fun h₄ F₄ N₄ => PyProof.Rows.stN F₄ N₄ fun h₅ F₅ N₅ => ?_))))
    dsimp only
    refine wpAny_execs_cons (wpAny_For ?_)
    iterate 3 walk1
    refine PyProof.Rows.spliced_more (ld F₅ (v := .str a t) rfl (PyProof.Rows.spliced_none ⟨X'.keeps F₅.keep, ?_⟩))
    refine call_gen F₅ X' T' (by show dp + 1 < recursionLimit; lia) rfl hasc hbs (fun gn gs G Lg h₆ tk₆ hgn hLg1 hLg2 hG1 hGen hk₆ hLo hgo => ?_)
    dsimp only at hLg1 hk₆ hgn
    have F₆ := F₅.kept hk₆
    have N₆ : News g L' h₆ _ := fun q hq => ⟨hk₆ _ _ (N₅ q hq).1, (N₅ q hq).2⟩
    have hLL : (L' : Nat) < Lg := Nat.lt_of_lt_of_le F₅.ns.lt hLg1
    dsimp only at F₆ N₆ N₅
    have hNl : ∀ q ∈ (h₃.objs.size, ({ cls := .type "list", data := .seq [].toArray } : Obj)) :: news, (q.1 : Nat) < Lg := fun q hq => Nat.lt_of_lt_of_le (Heap.lt_size (N₅ q hq).1) hLg1
    have hRn : ∀ q ∈ news, q.1 ≠ h₃.objs.size := fun q hq => Nat.ne_of_lt (Heap.lt_size (N₃ q hq).1)
    have hRL : h₃.objs.size < Lg := hNl _ (.head _)
    generalize hR : h₃.objs.size = R at *
    refine loop_gen (J := fun (i : Nat) (m' : Str → Option Value) (news' : List (Addr × Obj)) => ∃ (items : List (Str × Tok)) (e st : Nat) (ts : Tok) (acc : List Nat) (q : Bool),
        news' = (R, listOf (strValues items).toArray e) :: news ∧ m' (Str.ofString "addr") = some (.str a t) ∧ m' (Str.ofString "result") = some (.ref R) ∧ m' (Str.ofString "start") = some (.int (st : Int) ts) ∧
        stripQ ((cs a).take i) = (acc, q) ∧ st ≤ i ∧ items.length ≤ st ∧ (items.map (·.1.length)).sum ≤ st ∧
        ((q = false ∧ m' (Str.ofString "open_pos") = some .none ∧ (items.map fun x => cs x.1).flatten ++ ((cs a).take i).drop st = acc) ∨
         (q = true ∧ ∃ (o : Nat) (to : Tok), m' (Str.ofString "open_pos") = some (.int (o : Int) to) ∧ st ≤ o ∧ o < i ∧ (items.map fun x => cs x.1).flatten ++ ((cs a).take o).drop st = acc)))
      (n := a.cps.size) (g := gn) (gs := gs) (Lg := Lg) (a := a) (t := t) rfl (by show dp + 1 < recursionLimit; lia) rfl rfl rfl F₆ N₆ T' hGen (by rw [hgn]; simp) hLo hLL hLg2 hG1 hNl hgo ?init ?turn ?done
    case init =>
      exact (inE_6 ([]) 0 0 _ ([]) false (inA_9 rfl rfl rfl rfl rfl (Nat.le_refl _) (Nat.le_refl _) (Nat.le_refl _) (.inl ⟨rfl, rfl, rfl⟩)))
    case turn =>
      rintro i c ti tc m₁ news₁ h tk gens o1 o2 o3 o4 hi hc hx0__
      refine elE_6 hx0__ fun items e st ts acc q => elA_9 ?_
      clear hx0__
      intro e0__ hm1 hm2 hm3 hacc hst1 hit1 hit2 hcase
      subst e0__
      rintro _ F₇ N₇
      have hacc' : stripQ ((cs a).take (i + 1)) = stepQ (acc, q) c := by
        have e : (cs a)[i]? = some c := by simpa [cs] using hc
        rw [List.take_add_one, e, Option.toList_some, stripQ_snoc, hacc]
      have htk : (cs a).take (i + 1) = (cs a).take i ++ [c] := by
        have e : (cs a)[i]? = some c := by simpa [cs] using hc
        rw [List.take_add_one, e, Option.toList_some]
      have hil : i < (cs a).length := by simpa [cs] using hi
      refine wpAny_execs_cons (wpAny_If (wpAny_isTrue_Compare1 (ld F₇ (v := .str ⟨#[c]⟩ tc) (if_pos rfl) (wpAny_Constant_str (PyProof.Rows.eq_str ?_)))))
      rw [chr_eq]
      refine wpAny_truthy_bool ?_
      by_cases h34 : c = 34
      · simp only [h34, decide_true, if_true]
        rcases hcase with ⟨rfl, hop, hj⟩ | ⟨rfl, o, to, hop, ho1, ho2, hj⟩
        · refine wpAny_execs_cons (wpAny_If (wpAny_isTrue_Compare1 (ld F₇ (v := .none) (by exact hop) (wpAny_Constant_none ?_))))
          walk1
          refine wpAny_truthy_bool ?_
          simp only [if_true]
          refine wpAny_execs_cons (wpAny_Assign_Name (ld F₇ (v := .int i ti) rfl (PyProof.Rows.stN F₇ N₇ fun h₈ F₈ N₈ => ?_)))
          repeat refine wpAny_execs_nil ?_
          refine (inA_2 (.inl rfl) (inE_4 h₈ _ _ _ (inA_5 rfl F₈ N₈ rfl (inE_6 items e st ts acc true (inA_9 rfl hm1 hm2 hm3 ?_ (by lia) hit1 hit2 (.inr (inA_2 rfl (inE_2 i ti (inA_4 (if_pos rfl) hst1 (by lia) hj)))))))))
          rw [hacc']; simp [stepQ, h34]
        · refine wpAny_execs_cons (wpAny_If (wpAny_isTrue_Compare1 (ld F₇ (v := .int o to) (by exact hop) (wpAny_Constant_none ?_))))
          walk1
          refine wpAny_truthy_bool ?_
          simp only [Bool.false_eq_true, if_false]
          have F₈ := Fr_at (Fr_at (Fr_at (Fr_at F₇ (Str.ofString "open_pos") (.int o to) hop) (Str.ofString "start") (.int st ts) hm3) (Str.ofString "result") (.ref R) hm2) (Str.ofString "addr") (.str a t) hm1
          refine wpAny_execs_cons (wpAny_If (wpAny_isTrue_Compare1 (ld F₈ (v := .int st ts) rfl (ld F₈ (v := .int o to) rfl ?_))))
          walk1
          refine wpAny_truthy_bool ?_
          by_cases hso : st = o
          · subst hso
            have e0 : ((st : Int) != (st : Int)) = false := by simp
            rw [e0]
            simp only [Bool.false_eq_true, if_false]
            refine wpAny_execs_nil ?_
            refine wpAny_execs_cons (wpAny_Assign_Name (wpAny_BinOp (ld F₈ (v := .int i ti) rfl (wpAny_Constant_int ?_))))
            walk1
            refine PyProof.Rows.stN F₈ N₇ fun h₉ F₉ N₉ => ?_
            refine wpAny_execs_cons (wpAny_Assign_Name (wpAny_Constant_none (PyProof.Rows.stN F₉ N₉ fun h₁₀ F₁₀ N₁₀ => ?_)))
            repeat refine wpAny_execs_nil ?_
            refine (inA_2 (.inl rfl) (inE_4 h₁₀ _ _ _ (inA_5 rfl F₁₀ N₁₀ rfl (inE_6 items e (i + 1) _ acc false (inA_9 rfl rfl rfl rfl ?_ (Nat.le_refl _) (by lia) (by lia) (.inl ⟨rfl, rfl, ?_⟩))))))
            · rw [hacc']; simp [stepQ, h34]
            · rw [htk, List.drop_of_length_le (by simp; lia), List.append_nil, ← hj, List.drop_of_length_le (by simp; lia), List.append_nil]
          · have e0 : ((st : Int) != (o : Int)) = true := by simp; lia
            rw [e0]
            simp only [if_true]
            iterate 6 walk1
            refine PyProof.Rows.spliced_more ?_
            iterate 1 walk1
            refine ld F₈ (v := .str a t) rfl ?_
            walk1
            walk1
            refine ld F₈ (v := .int st ts) rfl ?_
            walk1
            refine ld F₈ (v := .int o to) rfl ?_
            walk1
            have hps : st ≤ o := ho1
            refine slice_strN_ss_len (hsz := by show a.cps.size ≤ sizeLine; exact Nat.le_trans hlen (by decide)) (s := ⟨_, _, _, _, _⟩) F₈ N₇ fun h₉ t₉ k₉ F₉ N₉ hl₉ => ?_
            refine PyProof.Rows.spliced_none ?_
            have hNk : ∀ q ∈ news ++ [(Lg, o1), (G, o2), (h₆.objs.size, o3), (h₆.objs.size + 1, o4)], q.1 ≠ R := by
              intro q hq
              rcases List.mem_append.mp hq with hq | hq
              · exact hRn q hq
              · have h1 : @LT.lt Nat _ R Lg := hRL
                have h2 : @LT.lt Nat _ Lg G := hLg2
                have h3 : @LT.lt Nat _ G h₆.objs.size := hG1
                simp only [List.mem_cons, List.not_mem_nil, or_false] at hq
                rcases hq with rfl | rfl | rfl | rfl <;> (show @Ne Nat _ R; lia)
            refine append_K F₉ N₉ (Upd.head hNk) (fun h₁₀ F₁₀ N₁₀ => ?_) (by
              show (strValues items).toArray.size ≤ sizeLine
              have h1 : (strValues items).toArray.size = items.length := by simp [strValues]
              have h2 : 1000 ≤ sizeLine := by decide
              have h3 : (cs a).length = a.cps.size := by simp [cs]
              lia)
            repeat refine wpAny_execs_nil ?_
            refine wpAny_execs_cons (wpAny_Assign_Name (wpAny_BinOp (ld F₁₀ (v := .int i ti) rfl (wpAny_Constant_int ?_))))
            walk1
            refine PyProof.Rows.stN F₁₀ N₁₀ fun h₁₁ F₁₁ N₁₁ => ?_
            refine wpAny_execs_cons (wpAny_Assign_Name (wpAny_Constant_none (PyProof.Rows.stN F₁₁ N₁₁ fun h₁₂ F₁₂ N₁₂ => ?_)))
            repeat refine wpAny_execs_nil ?_
            have hsl := slice_ss (x := a) (i := st) (j := o) ho1 (by lia)
            have hsll : (Txt.slice a (some (st : Int)) (some (o : Int))).length = o - st := by
              rw [← cs_len, hsl]; simp; lia
            refine (inA_2 (.inl rfl) (inE_4 h₁₂ _ _ ((R, listOf ((strValues items).toArray.push (Value.str (Txt.slice a (some (st : Int)) (some (o : Int))) t₉)) (e + 1)) :: news) (inA_5 rfl F₁₂ N₁₂ rfl (inE_6 (items ++ [(Txt.slice a (some (st : Int)) (some (o : Int)), t₉)]) (e + 1) (i + 1) _ acc false (inA_9 ?_ rfl rfl rfl ?_ (Nat.le_refl _) ?_ ?_ (.inl ⟨rfl, rfl, ?_⟩))))))
            · simp [strValues]
            · rw [hacc']; simp [stepQ, h34]
            · simp; lia
            · simp [hsll]; lia
            · rw [htk, List.drop_of_length_le (by simp; lia), List.append_nil, ← hj]
              simp [hsl]
      · simp only [h34, decide_false, Bool.false_eq_true, if_false]
        repeat refine wpAny_execs_nil ?_
        rcases hcase with ⟨rfl, hop, hj⟩ | ⟨rfl, o, to, hop, ho1, ho2, hj⟩
        · refine (inA_2 (.inl rfl) (inE_4 h _ _ _ (inA_5 rfl F₇ N₇ rfl (inE_6 items e st ts (acc ++ [c]) false (inA_9 rfl hm1 hm2 hm3 ?_ (by lia) hit1 hit2 (.inl ⟨rfl, hop, ?_⟩))))))
          · rw [hacc']; simp [stepQ, h34]
          · rw [htk, List.drop_append_of_le_length (by simp; lia), ← List.append_assoc, hj]
        · refine (inA_2 (.inl rfl) (inE_4 h _ _ _ (inA_5 rfl F₇ N₇ rfl (inE_6 items e st ts acc true (inA_9 rfl hm1 hm2 hm3 ?_ (by lia) hit1 hit2 (.inr (inA_2 rfl (inE_2 o to (inA_4 hop ho1 (by lia) hj)))))))))
          rw [hacc']; simp [stepQ, h34]
    case done =>
      rintro m₁ news₁ h tk hx1__
      refine elE_6 hx1__ fun items e st ts acc q => elA_9 ?_
      clear hx1__
      intro e0__ hm1 hm2 hm3 hacc hst1 hit1 hit2 hcase
      subst e0__
      rintro _ F₇ N₇
      have hall : (cs a).take a.cps.size = cs a := List.take_of_length_le (by simp [cs])
      rw [hall, hst] at hacc
      obtain ⟨rfl, rfl⟩ := Prod.mk.inj hacc
      rcases hcase with ⟨_, hop, hj⟩ | ⟨hq0, _⟩
      rotate_left
      · exact absurd hq0 (by decide)
      rw [hall] at hj
      have F₈ := Fr_at (Fr_at (Fr_at F₇ (Str.ofString "start") (.int st ts) hm3) (Str.ofString "result") (.ref R) hm2) (Str.ofString "addr") (.str a t) hm1
      refine wpAny_execs_cons (wpAny_If (wpAny_isTrue_Compare1 (ld F₈ (v := .int st ts) rfl ?_)))
      iterate 3 walk1
      refine PyProof.Rows.spliced_more (ld F₈ (v := .str a t) rfl (PyProof.Rows.spliced_none ?_))
      have h3 : (cs a).length = a.cps.size := by simp [cs]
      have hal : a.length = a.cps.size := rfl
      have hlen1 : 1048576 ≥ 1000 := by decide
      refine PySem.P.len_str (by show ¬ (a.length : Int) ≥ 2 ^ 63; rw [hal]; lia) ?_
      walk1
      refine wpAny_truthy_bool ?_
      by_cases hsa : st < a.cps.size
      · have e0 : decide ((st : Int) < (a.length : Int)) = true := by simp [hal]; lia
        rw [e0]
        simp only [if_true]
        iterate 6 walk1
        refine PyProof.Rows.spliced_more ?_
        iterate 1 walk1
        refine ld F₈ (v := .str a t) rfl ?_
        iterate 2 walk1
        refine ld F₈ (v := .int st ts) rfl ?_
        iterate 2 walk1
        refine slice_strN_sn_len (hsz := by show a.cps.size ≤ sizeLine; exact Nat.le_trans hlen (by decide)) (s := ⟨_, _, _, _, _⟩) F₈ N₇ fun h₉ t₉ k₉ F₉ N₉ hl₉ => ?_
        refine PyProof.Rows.spliced_none ?_
        refine append_K F₉ N₉ (Upd.head hRn) (fun h₁₀ F₁₀ N₁₀ => ?_) (by
              show (strValues items).toArray.size ≤ sizeLine
              have h1 : (strValues items).toArray.size = items.length := by simp [strValues]
              have h2 : 1000 ≤ sizeLine := by decide
              lia)
        repeat refine wpAny_execs_nil ?_
        have hsl := slice_sn (x := a) (i := st) (by lia)
        have hsll : (Txt.slice a (some (st : Int)) none).length = a.cps.size - st := by
          rw [← cs_len, hsl]; simp [h3]
        refine wpAny_execs_cons (wpAny_Return_some ?_)
        iterate 4 walk1
        refine PyProof.Rows.spliced_more (ld F₁₀ (v := .ref R) rfl (PyProof.Rows.spliced_none ?_))
        refine SC.join (l := items ++ [(Txt.slice a (some (st : Int)) none, t₉)]) (by rw [show (strValues (items ++ [(Txt.slice a (some (st : Int)) none, t₉)])).toArray = (strValues items).toArray.push (.str (Txt.slice a (some (st : Int)) none) t₉) from by simp [strValues]]; exact N₁₀.isList (.head _)) rfl (joinOk_nil ?_) fun t' k => ?_
        · have : (items.map fun x => x.1.length).sum = ((items.map (·.1)).map (·.length)).sum := by simp [List.map_map, Function.comp_def]
          simp [hsll]
          simp [Function.comp_def] at *
          lia
        refine hQ₀ _ _ ?_
        refine leaveK_ F₁₀ N₁₀ (fun F₁₁ N₁₁ => ?_)
        have hb : Txt.join (Str.ofString "") ((items ++ [(Txt.slice a (some (st : Int)) none, t₉)]).map (·.1)) = b := by
          apply str_ext
          rw [join_nil, ← hj]
          simp [hsl, List.map_map, Function.comp_def]
        rw [hb]
        have hgn' : gn = (s.gens ++ (#[] : Array GenState)).size := by rw [hgn]; simp
        have key := gens_done s.gens #[] gs .finished gn hgn'
        rw [Array.append_empty] at key
        have := hret (.str b t') [_] _ k (#[].push .finished) F₁₁ N₁₁ (gens_fin (by simp)) ⟨_, rfl⟩
        rw [← key] at this
        exact this
      · have e0 : decide ((st : Int) < (a.length : Int)) = false := by simp [hal]; lia
        rw [e0]
        simp only [Bool.false_eq_true, if_false]
        repeat refine wpAny_execs_nil ?_
        refine wpAny_execs_cons (wpAny_Return_some ?_)
        iterate 4 walk1
        refine PyProof.Rows.spliced_more (ld F₈ (v := .ref R) rfl (PyProof.Rows.spliced_none ?_))
        refine SC.join (l := items) (N₇.isList (.head _)) rfl (joinOk_nil ?_) fun t' k => ?_
        · simp [Function.comp_def] at *
          lia
        refine hQ₀ _ _ ?_
        refine leaveK_ F₈ N₇ (fun F₁₁ N₁₁ => ?_)
        have hb : Txt.join (Str.ofString "") ((items).map (·.1)) = b := by
          apply str_ext
          rw [join_nil, ← hj]
          rw [List.drop_of_length_le (by lia), List.append_nil]; simp [List.map_map, Function.comp_def]
        rw [hb]
        have hgn' : gn = (s.gens ++ (#[] : Array GenState)).size := by rw [hgn]; simp
        have key := gens_done s.gens #[] gs .finished gn hgn'
        rw [Array.append_empty] at key
        have := hret (.str b t') [_] _ k (#[].push .finished) F₁₁ N₁₁ (gens_fin (by simp)) ⟨_, rfl⟩
        rw [← key] at this
        exact this
end
end Mine
end

section
open PySem PySem.W PyProof.Rows PySem.Calls
set_option Elab.async false
set_option maxRecDepth 100000
set_option maxHeartbeats 2000000
namespace Mine

/-- what a turn of a loop leaves -/
def LP (hb : Heap) (L : Addr) (s : Shared) (own : List (Addr × Obj)) (J : (Str → Option Value) → List (Addr × Obj) → Prop) (Q : Flow → Shared → Prop) (f : Flow) (s₂ : Shared) : Prop :=
  match f with
  | .next | .cont => ∃ h' tk m₂ news₂ gx, s₂ = { s with heap := h', toks := tk, gens := s.gens ++ gx } ∧ (∀ q ∈ gx, q = GenState.finished) ∧ Fr hb L h' m₂ ∧ News hb L h' (news₂ ++ own) ∧ (∀ q ∈ news₂, ∀ p ∈ own, q.1 ≠ p.1) ∧ J m₂ news₂
  | .brk => Q .next s₂
  | .ret v => Q (.ret v) s₂

section
variable {prog : Program} {w : World} {A : Around} {E : Value → Shared → Prop} {s : Shared}

theorem loc_off {nm : Str} {sc : Scope} {L f : Nat} {cd : Value} (hsk : sc.kind = .function) :
    ((envOf nm sc L f cd).scope.kind == .class || ((envOf nm sc L f cd).scope.kind == .module && (envOf nm sc L f cd).locals != (envOf nm sc L f cd).globals)) = false := by
  show ((sc.kind == .class) || (sc.kind == .module && L != mainGlobals)) = false
  rw [hsk]; rfl

theorem News_mono {h₀ h : Heap} {L : Addr} {l l' : List (Addr × Obj)} (N : News h₀ L h l) (hs : ∀ q ∈ l', q ∈ l) : News h₀ L h l' := fun q hq => N q (hs q hq)
theorem Fr_but {hb h h' : Heap} {L d : Addr} {m : Str → Option Value} (F : Fr hb L h m) (hs : Heap.ExtBut d h h') (hL : d ≠ L) (hn : hb.get? d = none) : Fr hb L h' m := by
  refine elE_3 F.ns fun oL a1 a2 => elA_2 ?_
  intro hL' a3
  refine ⟨(inE_3 oL a1 a2 (inA_2 (hs _ _ (fun e => hL e.symm) hL') a3)), fun b o e => hs _ _ (fun e' => ?_) (F.keep b o e), F.above⟩
  rw [e', hn] at e; cases e
theorem News_but {h₀ h h' : Heap} {L a : Addr} {l : List (Addr × Obj)} (N : News h₀ L h l) (hs : Heap.SameBut a h h') (ho : ∀ q ∈ l, q.1 ≠ a) : News h₀ L h' l :=
  fun q hq => ⟨(hs.2 _ (ho q hq)).trans (N q hq).1, (N q hq).2⟩

theorem for_range {hb : Heap} {nm : Str} {sc : Scope} {L f : Nat} {cd : Value} {m : Str → Option Value} {news : List (Addr × Obj)} {x : Str} {px : Pos} {body : List Stmt} {Q : Flow → Shared → Prop}
    {Err : Value → Shared → Prop} {r : Addr} {n : Nat} {t u v : Tok}
    (hh : A.handled = none) (hsk : sc.kind = .function) (hx : (envOf nm sc L f cd).kindOf x = some .local)
    (F : Fr hb L s.heap m) (N : News hb L s.heap news) (hr : IsRange s.heap r 0 n 1 t u v) (hn : n < 1048576)
    (J : Nat → (Str → Option Value) → List (Addr × Obj) → Prop) (hJ : J 0 m news)
    (turn : ∀ i ti m₁ news₁ h It o tk gx, i < n → J i m₁ news₁ → (∀ q ∈ news₁, q.1 ≠ It) → Fr hb L h (fun y => if y = x then some (.int i ti) else m₁ y) → News hb L h (news₁ ++ [(It, o)]) → (∀ q ∈ gx, q = GenState.finished) →
      wpAny (model prog w) A (execs body (envOf nm sc L f cd)) (LP hb L s [(It, o)] (J (i + 1)) Q) (fun _ _ => False) { s with heap := h, toks := tk, gens := s.gens ++ gx })
    (done : ∀ m₁ news₁ h tk gx, J n m₁ news₁ → Fr hb L h m₁ → News hb L h news₁ → (∀ q ∈ gx, q = GenState.finished) → Q .next { s with heap := h, toks := tk, gens := s.gens ++ gx }) :
    wpAny (model prog w) A (pyIter (.ref r)) (fun it s₂ => codeAny (model prog w) A (.forLoop (.Name x px) it body [] (envOf nm sc L f cd)) (fun r s' => match r with | .ok f => Q f s' | .error e => Err e s') s₂) E s := by
  refine wpAny_pyIter_range hr (small_one (by lia) (by lia) (by lia) (by lia)) ?_
  rw [rangeSize_one]
  have en : (if (0 : Int) < n then (n : Int) - 0 else 0) = (n : Int) := by split <;> lia
  rw [en]
  generalize hIt : s.heap.objs.size = It
  have F₀ := F.push { cls := .type "range_iterator", data := .fields #[rawInt 0, rawInt (n : Int), rawInt 1] }
  have N₀ := N.push F { cls := .type "range_iterator", data := .fields #[rawInt 0, rawInt (n : Int), rawInt 1] }
  have hne : ∀ q ∈ news, q.1 ≠ It := fun q hq => by
    have h1 := Heap.lt_size (N q hq).1
    rw [← hIt]; exact Nat.ne_of_lt h1
  rw [hIt] at N₀
  refine codeAny_forLoop_any
    (fun k s' => ∃ H tk gx m' news' i, s' = { s with heap := H, toks := tk, gens := s.gens ++ gx } ∧ (∀ q ∈ gx, q = GenState.finished) ∧ Fr hb L H m' ∧ News hb L H (news' ++ [(It, { cls := .type "range_iterator", data := .fields #[rawInt (i : Nat), rawInt ((n : Int) - i), rawInt 1] })]) ∧ (∀ q ∈ news', q.1 ≠ It) ∧ J i m' news' ∧ i ≤ n ∧ k = n + 1 - i)
    ?_ (n + 1) (inE_6 _ (s.toks) (#[]) m news 0 (inA_8 (by simp) (by simp) F₀ ?_ hne hJ (Nat.zero_le _) rfl))
  rotate_left
  · refine News_mono N₀ fun q hq => ?_
    rcases List.mem_append.mp hq with hq | hq
    · exact .tail _ hq
    · have := List.mem_singleton.mp hq
      subst this
      simp
  · rintro k s' hx1__
    refine elE_6 hx1__ fun H tk gx m' news' i => elA_8 ?_
    clear hx1__
    intro e0__ hgx F' N' hne' hJ' hi e1__
    subst e0__
    subst e1__
    have hit : IsRangeIter H It (i : Nat) ((n : Int) - i) 1 := (N' _ (List.mem_append_right _ (.head _))).1
    have hIL := (N' _ (List.mem_append_right _ (.head _))).2.1
    have hI0 := (N' _ (List.mem_append_right _ (.head _))).2.2
    by_cases hlt : i < n
    · refine wpAny_pyNext_range_item hit (by lia) fun h₁ hit₁ hs₁ => ?_
      dsimp only at hs₁ ⊢
      have F₁ : Fr hb L h₁ m' := F'.change hs₁ hIL hI0
      have N₁ : News hb L h₁ (news' ++ [(It, { cls := .type "range_iterator", data := .fields #[rawInt ((i + 1 : Nat) : Int), rawInt ((n : Int) - (i + 1 : Nat)), rawInt 1] })]) := fun q hq => by
        rcases List.mem_append.mp hq with hq | hq
        · exact (News_but (News_mono N' fun q hq => List.mem_append_left _ hq) hs₁ hne') q hq
        · have := List.mem_singleton.mp hq
          subst this
          refine ⟨?_, hIL, hI0⟩
          have e2 : (n : Int) - ((i + 1 : Nat) : Int) = (n : Int) - i - 1 := by lia
          rw [e2]
          exact hit₁
      refine wpAny_pure ?_
      refine wpAny_assign_Name (wpAny_storeName_local hx F₁.ns (fun h₂ hn₂ hs₂ => ?_) (loc_off hsk))
      have F₂ := F₁.set hn₂ hs₂
      have N₂ := N₁.set hs₂
      refine wpAny_mono (turn i _ m' news' h₂ It _ _ gx hlt hJ' hne' F₂ N₂ hgx) (fun f s₃ hp => ?_) (fun _ _ x => x.elim)
      cases f with
      | next => 
        refine elE_5 hp fun h₃ tk₃ m₃ news₃ gx₃ => elA_6 ?_
        clear hp
        intro e0__ hgx₃ F₃ N₃ hne₃ hJ₃
        subst e0__
        exact (inE_1 (n + 1 - (i + 1)) (inA_2 (by lia) (inE_6 h₃ tk₃ gx₃ m₃ news₃ (i + 1) (inA_8 rfl hgx₃ F₃ N₃ (fun q hq => hne₃ q hq _ (.head _)) hJ₃ (by lia) rfl))))
      | cont =>
        refine elE_5 hp fun h₃ tk₃ m₃ news₃ gx₃ => elA_6 ?_
        clear hp
        intro e0__ hgx₃ F₃ N₃ hne₃ hJ₃
        subst e0__
        exact (inE_1 (n + 1 - (i + 1)) (inA_2 (by lia) (inE_6 h₃ tk₃ gx₃ m₃ news₃ (i + 1) (inA_8 rfl hgx₃ F₃ N₃ (fun q hq => hne₃ q hq _ (.head _)) hJ₃ (by lia) rfl))))
      | brk => exact hp
      | ret v => exact hp
    · obtain rfl : i = n := by lia
      refine wpAny_pyNext_range_end hh hit (by lia) fun h₁ hk₁ => ?_
      refine wpAny_execs_nil ?_
      have F₁ : Fr hb L h₁ m' := Fr_but F' hk₁ hIL hI0
      exact done m' news' h₁ tk gx hJ' F₁ (fun q hq => ⟨hk₁ _ _ (hne' q hq) (N' q (List.mem_append_left _ hq)).1, (N' q (List.mem_append_left _ hq)).2⟩) hgx
end
end Mine
end

section
open PySem PySem.W PyProof.Rows PySem.Calls
set_option Elab.async false
set_option maxRecDepth 100000
set_option maxHeartbeats 2000000
namespace Mine

theorem fill7 : (fun (_ : OpenLaw) (_ : Params → Frag) => True) PySem.Challenge.rw_wa0010_01 hd.heap_39 := by
  k_fill
  exact trivial

theorem stripQ_app (l : List Nat) (acc : List Nat) (h : stripQ l = (acc, false)) (d : Nat) : stripQ (l ++ List.replicate d 41) = (acc ++ List.replicate d 41, false) := by
  induction d with
  | zero => simpa using h
  | succ d ih =>
    rw [List.replicate_succ', ← List.append_assoc, stripQ_snoc, ih]
    simp [stepQ]

theorem bal_app (l k : List Nat) : bal (l ++ k) = bal l + bal k := by simp [bal]
theorem bal_rep (d : Nat) : bal (List.replicate d 41) = -(d : Int) := by
  induction d with
  | zero => rfl
  | succ d ih =>
    rw [List.replicate_succ, show (41 :: List.replicate d 41) = [41] ++ List.replicate d 41 from rfl, bal_app, ih, show bal [41] = -1 from by decide]
    lia

theorem bal_nn (acc : List Nat) (hnn : ∀ i, 0 ≤ bal (acc.take i)) (d : Nat) (hd : (d : Int) ≤ bal acc) (i : Nat) : 0 ≤ bal ((acc ++ List.replicate d 41).take i) := by
  rw [List.take_append, bal_app]
  by_cases h : i ≤ acc.length
  · have : i - acc.length = 0 := by lia
    rw [this]
    simpa [bal] using hnn i
  · rw [List.take_of_length_le (by lia), List.take_replicate, bal_rep]
    have : min (i - acc.length) d ≤ d := Nat.min_le_right _ _
    lia

/-- a text that may stand ahead: ASCII, no backslash, no quotation mark open, never more closed than open -/
structure Ahead (l acc : List Nat) : Prop where
  ascii : ∀ c ∈ l, c < 128
  nobs : ∀ c ∈ l, c ≠ 92
  strip : stripQ l = (acc, false)
  nn : ∀ i, 0 ≤ bal (acc.take i)

theorem stripQ_mem (l : List Nat) : ∀ c ∈ (stripQ l).1, c ∈ l := by
  have key : ∀ (l : List Nat) (st : List Nat × Bool), ∀ c ∈ (l.foldl stepQ st).1, c ∈ st.1 ∨ c ∈ l := by
    intro l
    induction l with
    | nil => intro st c hc; exact .inl hc
    | cons x l ih =>
      intro st c hc
      rw [List.foldl_cons] at hc
      rcases ih _ c hc with h | h
      · unfold stepQ at h
        split at h
        · exact .inl h
        · split at h
          · exact .inl h
          · rcases List.mem_append.mp h with h | h
            · exact .inl h
            · exact .inr (by simp at h; simp [h])
      · exact .inr (List.mem_cons_of_mem _ h)
  intro c hc
  rcases key l _ c hc with h | h
  · simp at h
  · exact h
theorem stripQ_len (l : List Nat) : (stripQ l).1.length ≤ l.length := by
  have key : ∀ (l : List Nat) (st : List Nat × Bool), (l.foldl stepQ st).1.length ≤ st.1.length + l.length := by
    intro l
    induction l with
    | nil => intro st; simp
    | cons x l ih =>
      intro st
      rw [List.foldl_cons]
      refine Nat.le_trans (ih _) ?_
      have : (stepQ st x).1.length ≤ st.1.length + 1 := by
        unfold stepQ
        split
        · simp
        · split
          · simp
          · simp
      simp; lia
  simpa [stripQ] using key l ([], false)

theorem bal_le (l : List Nat) : bal l ≤ l.length := by
  induction l with
  | nil => decide
  | cons c l ih =>
    have : val c ≤ 1 := by unfold val; split <;> (try split) <;> lia
    simp only [bal, List.map_cons, List.sum_cons, List.length_cons] at *
    lia

section
variable {prog : Program} {w : World} {p : Program} {loose : List Str} {mean : ExcName → Option Value} {mg mb : Str → Option Value}

theorem mul_chr {A : Around} {E : Value → Shared → Prop} {s : Shared} {c : Nat} {n : Nat} {t u : Tok} {Q : Value → Shared → Prop} (hn : n ≤ 1048576)
    (h : ∀ x t' k, cs x = List.replicate n c → Q (.str x t') { s with toks := k }) : wpAny (model prog w) A (binaryOp .Mult (.str ⟨#[c]⟩ t) (.int (n : Int) u)) Q E s := by
  have hl : (⟨#[c]⟩ : Str).length = 1 := rfl
  refine PySem.P.mul_str ?_ ?_ ?_ ?_
  · rw [decide_eq_false (by lia), decide_eq_false (by lia)]; rfl
  · intro h1 _ h2
    rw [hl] at h2
    have : (n : Int) * ((2 ^ 63 - 1) / n) ≥ (2 ^ 63 - 1) - (n - 1) := by
      have h5 := Int.mul_ediv_add_emod (2 ^ 63 - 1) (n : Int)
      have h6 := Int.emod_lt_of_pos (2 ^ 63 - 1) (show (0 : Int) < n by lia)
      lia
    have h7 : (2 ^ 63 - 1) / (n : Int) ≤ 0 := by lia
    have h8 : (n : Int) * ((2 ^ 63 - 1) / n) ≤ 0 := Int.mul_nonpos_of_nonneg_of_nonpos (by lia) h7
    lia
  · intro _ _
    rw [hl]
    show decide (1 * (n : Int).toNat > sizeLine) = false
    have : 1048576 ≤ sizeLine := by decide
    exact decide_eq_false (by lia)
  · by_cases h1 : (n : Int) < 1
    · rw [if_pos h1]
      have : n = 0 := by lia
      subst this
      exact ⟨by decide, h _ _ _ rfl⟩
    · rw [if_neg h1]
      by_cases h2 : ((n : Int) == 1 || (⟨#[c]⟩ : Str).length == 0) = true
      · rw [if_pos h2]
        have : n = 1 := by
          rw [hl] at h2
          simp at h2
          lia
        subst this
        exact h ⟨#[c]⟩ _ _ rfl
      · rw [if_neg h2]
        have key : ∀ (k : Nat) (z : Array Nat), ((List.replicate k (#[c] : Array Nat)).foldl (· ++ ·) z).toList = z.toList ++ List.replicate k c := by
          intro k
          induction k with
          | zero => intro z; simp
          | succ k ih =>
            intro z
            rw [List.replicate_succ, List.foldl_cons, ih]
            simp [List.replicate_succ]
        have e : cs ⟨(List.replicate (n : Int).toNat (#[c] : Array Nat)).foldl (· ++ ·) #[]⟩ = List.replicate n c := by
          show (_ : Array Nat).toList = _
          rw [key]
          simp
        refine ⟨?_, h _ _ _ e⟩
        rw [← cs_len, e, List.length_replicate]
        exact Nat.le_trans hn (by decide)

theorem check_ahead (a : Str) (t : Tok) (l acc : List Nat) (hA : Ahead l acc) (d : Nat) (hd : (d : Int) ≤ bal acc) (hcs : cs a = l ++ List.replicate d 41) (hlen : a.cps.size ≤ 1000) :
    Tell prog w p loose mean mg mb 67 [.str a t] 3 24 (fun _ _ => True) fun _ _ v => v = .bool (decide (bal acc = d)) := by
  have hst : stripQ (cs a) = (acc ++ List.replicate d 41, false) := by rw [hcs]; exact stripQ_app l acc hA.strip d
  have hmem : ∀ c ∈ cs a, c < 128 ∧ c ≠ 92 := by
    intro c hc
    rw [hcs] at hc
    rcases List.mem_append.mp hc with hc | hc
    · exact ⟨hA.ascii c hc, hA.nobs c hc⟩
    · have := (List.mem_replicate.mp hc).2; subst this; decide
  have hmem2 : ∀ c ∈ acc ++ List.replicate d 41, c < 128 ∧ c ≠ 92 := fun c hc => hmem c (by
    have := stripQ_mem (cs a) c
    rw [hst] at this; exact this hc)
  have hl2 : (acc ++ List.replicate d 41).length ≤ 1000 := by
    have := stripQ_len (cs a)
    rw [hst] at this
    simp only [cs, Array.length_toList] at this
    exact Nat.le_trans this hlen
  let b : Str := ⟨(acc ++ List.replicate d 41).toArray⟩
  have hb : b.cps.toList = acc ++ List.replicate d 41 := rfl
  have h1 : ∀ c ∈ a.cps.toList, c ≠ 92 := fun c hc => (hmem c hc).2
  have := check_tell (prog := prog) (w := w) (p := p) (loose := loose) (mean := mean) (mg := mg) (mb := mb) a t b (by
      rw [Array.all_eq_true_iff_forall_mem]
      intro c hc
      simpa using (hmem2 c (by rw [← hb]; exact Array.mem_toList_iff.mpr hc)).1) (fun c hc => (hmem2 c hc).2) (fun i => by rw [hb]; exact bal_nn acc hA.nn d hd i) (by
      have : b.cps.size = (acc ++ List.replicate d 41).length := by simp [b]
      rw [this]; exact hl2) (fun t => strip_tell a t b (by
      rw [Array.all_eq_true_iff_forall_mem]
      intro c hc
      simpa using (hmem c (Array.mem_toList_iff.mpr hc)).1) h1 hst hlen)
  have e : decide (bal b.cps.toList = 0) = decide (bal acc = d) := by
    rw [hb, bal_app, bal_rep]
    apply decide_eq_decide.mpr
    lia
  rw [e] at this
  exact this

theorem depth_tell (a : Str) (t : Tok) (acc : List Nat) (hA : Ahead (cs a) acc) (hlen : a.cps.size ≤ 400) :
    Tell prog w p loose mean mg mb 86 [.str a t] 4 32 (fun _ _ => True) fun tl _ v => tl = [] ∧ ∃ t, v = .int (bal acc) t := by
  intro dp un gd cn cs' ca ccd cl outer A₀ base h₀ L m s news Q E B F X N T hk hpre hd hu hret
  refine wpAny_call (code_def (binds := [(Str.ofString "ahead", Value.str a t)]) B F X N T rfl rfl hk (by rfl : (Mine.hd.heap_39 w.params).lookup 86 = some ⟨_, _, .func (fnOf _ _ _ _ _ _ _ _ _ _ _ _), _⟩) (by rfl) ?_ (BindsTo.of_eq rfl) (locs rfl) (fun g L' h₁ FG F' N' B' X' T' => ?_) rfl rfl rfl (by decide))
  · show dp < recursionLimit
    lia
  refine abs_QE fun Q₀ E₀ hQ₀ => ?_
  refine wpAny_execs_cons (wpAny_For ?_)
  iterate 3 walk1
  have hal : (a.length : Nat) = a.cps.size := rfl
  refine PyProof.Rows.spliced_more (wpAny_BinOp ?_)
  iterate 3 walk1
  refine PyProof.Rows.spliced_more (ld F' (v := .str a t) rfl (PyProof.Rows.spliced_none ?_))
  refine PySem.P.len_str (by show ¬ (a.length : Int) ≥ 2 ^ 63; rw [hal]; lia) ?_
  refine wpAny_Constant_int ?_
  walk1
  refine PyProof.Rows.spliced_none ?_
  refine call_range_1 ?_
  refine for_range (n := a.cps.size + 1) rfl rfl rfl (F'.push _) (fun q hq => ⟨Heap.get?_push_of_some _ (N' q hq).1, (N' q hq).2⟩) (IsRange.new _ _ _ _ _ _ _) (by lia)
    (fun i m' news' => m' (Str.ofString "ahead") = some (.str a t) ∧ (i : Int) ≤ bal acc ∧ news' = news) ?init ?turn ?done
  case init => exact ⟨rfl, by have := hA.nn acc.length; rw [List.take_length] at this; simpa using this, rfl⟩
  case turn =>
    rintro i ti m₁ news₁ h It o tk gx hi ⟨hm, hib, rfl⟩ hne F₁ N₁ hgx
    have F₂ := Fr_at F₁ (Str.ofString "ahead") (.str a t) hm
    dsimp only
    refine wpAny_execs_cons ?_
    iterate 5 walk1
    refine PyProof.Rows.spliced_more (wpAny_BinOp (ld F₂ (v := .str a t) rfl ?_))
    refine wpAny_BinOp (wpAny_Constant_str (ld F₂ (v := .int i ti) rfl ?_))
    rw [show Str.ofString ")" = ⟨#[41]⟩ from by decide +kernel]
    refine mul_chr (by lia) fun x t₃ k₃ hx => ?_
    refine PyProof.Rows.add_str (hsz := ?hsz) fun t₄ k₄ => ?_
    case hsz =>
      have h1 : x.length = i := by rw [← cs_len, hx, List.length_replicate]
      have : 1048576 ≤ sizeLine := by decide
      lia
    refine PyProof.Rows.spliced_none ⟨X'.keeps F₂.keep, ?_⟩
    have hcs : cs (a ++ x) = cs a ++ List.replicate i 41 := by rw [cs_append, hx]
    have hsz' : (a ++ x).cps.size ≤ 1000 := by
      have := congrArg List.length hcs
      simp [cs] at this
      lia
    refine check_ahead (a ++ x) t₄ (cs a) acc hA i hib hcs hsz' _ _ _ _ _ _ _ _ _ _ _ _ _ _ _ _ _ _ B' F₂ X' N₁ T' rfl trivial ?_ ?_ (fun v tl h₂ tk₂ gx₂ F₃ N₃ hgx₂ hv => ?_)
    · show dp + 1 + 3 < recursionLimit
      lia
    · show un + 3 + 24 < cLine
      lia
    subst hv
    dsimp only
    refine wpAny_truthy_bool ?_
    by_cases hbi : bal acc = i
    · simp only [hbi, decide_true, if_true]
      refine wpAny_execs_cons (wpAny_Return_some (ld F₃ (v := .int i ti) rfl ?_))
      have N₃' : News g L' h₂ ([] ++ news₁) := News_mono N₃ (fun q hq => List.mem_append_right _ (List.mem_append_left _ hq))
      dsimp only [LP]
      refine hQ₀ _ _ ?_
      refine leaveK_ F₃ N₃' (fun F₇ N₇ => ?_)
      have key := hret (.int i ti) [] _ tk₂ (gx ++ gx₂) F₇ N₇ (by
        intro q hq
        rcases Array.mem_append.mp hq with hq | hq
        · exact hgx q hq
        · exact hgx₂ q hq) ⟨rfl, ti, by rw [hbi]⟩
      simpa only [Array.append_assoc] using key
    · simp only [hbi, decide_false, Bool.false_eq_true, if_false]
      repeat refine wpAny_execs_nil ?_
      dsimp only [LP]
      refine (inE_5 h₂ tk₂ _ news₁ (gx ++ gx₂) (inA_8 ?_ ?_ F₃ (News_mono N₃ (fun q hq => List.mem_append_right _ hq)) ?_ rfl (by lia) rfl))
      · simp [Array.append_assoc]
      · intro q hq
        rcases Array.mem_append.mp hq with hq | hq
        · exact hgx q hq
        · exact hgx₂ q hq
      · intro q hq p hp
        rw [List.mem_singleton.mp hp]
        exact hne q hq
  case done =>
    rintro m₁ news₁ h tk gx ⟨hm, hib, rfl⟩ F₁ N₁ hgx
    exfalso
    have h1 := bal_le acc
    have h2 := stripQ_len (cs a)
    rw [hA.strip] at h2
    simp [cs] at h2
    lia
end
end Mine
end

section
open PySem PySem.W PyProof.Rows PySem.Calls
set_option Elab.async false
set_option maxRecDepth 100000
set_option maxHeartbeats 2000000
namespace Mine

def WP2 (hb : Heap) (L : Addr) (s : Shared) (J : Nat → (Str → Option Value) → List (Addr × Obj) → Prop) (Q : Flow → Shared → Prop) (n : Nat) (f : Flow) (s₂ : Shared) : Prop :=
  match f with
  | .next | .cont => ∃ h' tk m₂ news₂ gx n', s₂ = { s with heap := h', toks := tk, gens := s.gens ++ gx } ∧ (∀ q ∈ gx, q = GenState.finished) ∧ Fr hb L h' m₂ ∧ News hb L h' news₂ ∧ n' < n ∧ J n' m₂ news₂
  | .brk => Q .next s₂
  | .ret v => Q (.ret v) s₂

section
variable {prog : Program} {w : World} {A : Around} {E : Value → Shared → Prop} {s : Shared} {env : Env} {hb : Heap} {L : Addr}

theorem while_gx {test : Expr} {body : List Stmt} {pos : Pos} {m : Str → Option Value} {news : List (Addr × Obj)} {Q : Flow → Shared → Prop} (J : Nat → (Str → Option Value) → List (Addr × Obj) → Prop) {n₀ : Nat}
    (F : Fr hb L s.heap m) (N : News hb L s.heap news) (hJ : J n₀ m news)
    (turn : ∀ n m₁ news₁ h tk gx, Fr hb L h m₁ → News hb L h news₁ → (∀ q ∈ gx, q = GenState.finished) → J n m₁ news₁ →
      wpAny (model prog w) A (isTrue test env (eval test env)) (fun b s₂ =>
        if b = true then wpAny (model prog w) A (execs body env) (WP2 hb L s J Q n) (fun _ _ => False) s₂ else Q .next s₂) (fun _ _ => False) { s with heap := h, toks := tk, gens := s.gens ++ gx }) :
    wpAny (model prog w) A (exec (.While test body [] pos) env) Q E s := by
  refine wpAny_While (codeAny_whileLoop (fun n s' => ∃ h tk m₁ news₁ gx, s' = { s with heap := h, toks := tk, gens := s.gens ++ gx } ∧ (∀ q ∈ gx, q = GenState.finished) ∧ Fr hb L h m₁ ∧ News hb L h news₁ ∧ J n m₁ news₁) ?_ n₀ (inE_5 (s.heap) (s.toks) m news (#[]) (inA_5 (by simp) (by simp) F N hJ)))
  rintro n s' hx0__
  refine elE_5 hx0__ fun h₁ tk₁ m₁ news₁ gx => elA_5 ?_
  clear hx0__
  intro e0__ hgx F₁ N₁ J₁
  subst e0__
  refine wpAny_mono (turn n m₁ news₁ h₁ tk₁ gx F₁ N₁ hgx J₁) (fun b s₂ h₂ => ?_) (fun _ _ x => x.elim)
  cases b with
  | false =>
    simp only [Bool.false_eq_true, if_false] at h₂ ⊢
    exact wpAny_execs_nil h₂
  | true =>
    simp only [if_true] at h₂ ⊢
    refine wpAny_mono h₂ (fun f s₃ h₃ => ?_) (fun _ _ x => x.elim)
    cases f with
    | next =>
      refine elE_6 h₃ fun h' tk m₂ news₂ gx' n' => elA_6 ?_
      clear h₃
      intro e0__ hgx' F₂ N₂ hn J₂
      subst e0__
      exact (inE_1 n' (inA_2 hn (inE_5 h' tk m₂ news₂ gx' (inA_5 rfl hgx' F₂ N₂ J₂))))
    | cont =>
      refine elE_6 h₃ fun h' tk m₂ news₂ gx' n' => elA_6 ?_
      clear h₃
      intro e0__ hgx' F₂ N₂ hn J₂
      subst e0__
      exact (inE_1 n' (inA_2 hn (inE_5 h' tk m₂ news₂ gx' (inA_5 rfl hgx' F₂ N₂ J₂))))
    | brk => exact h₃
    | ret v => exact h₃
end
end Mine
end

section
open PySem PySem.W PyProof.Rows PySem.Calls
set_option Elab.async false
set_option maxRecDepth 100000
set_option maxHeartbeats 2000000
namespace Mine

theorem fill8 : (fun (_ : OpenLaw) (_ : Params → Frag) => True) PySem.Challenge.rw_wa0010_01 hd.heap_39 := by
  k_fill
  exact trivial

/-- what stands up to a lone quotation mark, a doubled one read as one -/
def pq : List Nat → List Nat
  | [] => []
  | [c] => if c = 34 then [] else [c]
  | c :: d :: r => if c = 34 then (if d = 34 then 34 :: pq r else []) else c :: pq (d :: r)

theorem pq_nq {c : Nat} {r : List Nat} (h : c ≠ 34) : pq (c :: r) = c :: pq r := by
  cases r with
  | nil => simp [pq, h]
  | cons d r => rw [pq, if_neg h]
theorem pq_qq (r : List Nat) : pq (34 :: 34 :: r) = 34 :: pq r := by rw [pq, if_pos rfl, if_pos rfl]
theorem pq_q {r : List Nat} (h : ∀ r', r ≠ 34 :: r') : pq (34 :: r) = [] := by
  cases r with
  | nil => rw [pq, if_pos rfl]
  | cons d r => rw [pq, if_pos rfl, if_neg (fun e => h r (by rw [e]))]
theorem cs_one (c : Nat) : cs ⟨#[c]⟩ = [c] := rfl

theorem item_chr {x : Str} {i c : Nat} (h : x.cps[i]? = some c) : Txt.item x i = ⟨#[c]⟩ := by
  have hi : i < x.cps.size := by
    rcases Nat.lt_or_ge i x.cps.size with h' | h'
    · exact h'
    · rw [Array.getElem?_eq_none h'] at h; cases h
  rw [item_meets ⟨by lia, by show (i : Int) < (x.cps.size : Int); lia⟩]
  simp [h]

section
variable {prog : Program} {w : World} {p : Program} {loose : List Str} {mean : ExcName → Option Value} {mg mb : Str → Option Value}

theorem parse_tell (a : Str) (t : Tok) (l : List Nat) (hcs : cs a = [50, 53, 55, 32, 34] ++ l) (hlen : a.cps.size ≤ 1000) :
    Tell prog w p loose mean mg mb 46 [.str a t] 2 24 (fun _ _ => True) fun tl _ v => tl = [] ∧ ∃ x t, v = .str x t ∧ cs x = pq l := by
  intro dp un gd cn cs' ca ccd cl outer A₀ base h₀ L m s news Q E B F X N T hk hpre hd hu hret
  have hret0 : ∀ v h' tk', Fr h₀ L h' m → News h₀ L h' ([] ++ news) → (∃ x t, v = .str x t ∧ cs x = pq l) → Q v { s with heap := h', toks := tk' } := fun v h' tk' F N o => by
    simpa using hret v [] h' tk' #[] F N (by simp) ⟨rfl, o⟩
  refine wpAny_call (code_def (binds := [(Str.ofString "resp", Value.str a t)]) B F X N T rfl rfl hk (by rfl : (Mine.hd.heap_39 w.params).lookup 46 = some ⟨_, _, .func (fnOf _ _ _ _ _ _ _ _ _ _ _ _), _⟩) (by rfl) ?_ (BindsTo.of_eq rfl) (locs rfl) (fun g L' h₁ FG F' N' B' X' T' => ?_) rfl rfl rfl (by decide))
  · show dp < recursionLimit
    lia
  refine abs_QE fun Q₀ E₀ hQ₀ => ?_
  have hal : (cs a).length = a.cps.size := by simp [cs]
  refine wpAny_execs_cons (wpAny_If (wpAny_isTrue_Compare1 ?_))
  iterate 1 walk1
  refine ld F' (v := .str a t) rfl ?_
  iterate 5 walk1
  refine slice_strN_ns_len (hsz := by show a.cps.size ≤ sizeLine; exact Nat.le_trans hlen (by decide)) (s := ⟨_, _, _, _, _⟩) F' N' fun h₂ t₂ k₂ F₂ N₂ hl₂ => ?_
  have h5 : 5 ≤ (cs a).length := by rw [hcs]; simp
  have e1 : Txt.slice a none (some 3) = Str.ofString "257" := by
    apply str_ext
    rw [show (3 : Int) = ((3 : Nat) : Int) from rfl, slice_ns (by lia), hcs]
    show [50, 53, 55] = cs (Str.ofString "257")
    decide +kernel
  refine wpAny_Constant_str (PyProof.Rows.ne_str ?_)
  rw [e1, show (Str.ofString "257" != Str.ofString "257") = false from by decide +kernel]
  refine wpAny_truthy_bool ?_
  simp only [Bool.false_eq_true, if_false]
  refine wpAny_execs_nil ?_
  refine wpAny_execs_cons (wpAny_If (wpAny_isTrue_Compare1 ?_))
  iterate 1 walk1
  refine ld F₂ (v := .str a t) rfl ?_
  iterate 6 walk1
  refine slice_strN_ss_len (hsz := by show a.cps.size ≤ sizeLine; exact Nat.le_trans hlen (by decide)) (s := ⟨_, _, _, _, _⟩) F₂ N₂ fun h₃ t₃ k₃ F₃ N₃ hl₃ => ?_
  have e2 : Txt.slice a (some 3) (some 5) = Str.ofString " \"" := by
    apply str_ext
    rw [show (3 : Int) = ((3 : Nat) : Int) from rfl, show (5 : Int) = ((5 : Nat) : Int) from rfl, slice_ss (by lia) (by lia), hcs]
    show [32, 34] = cs (Str.ofString " \"")
    decide +kernel
  refine wpAny_Constant_str (PyProof.Rows.ne_str ?_)
  rw [e2, show (Str.ofString " \"" != Str.ofString " \"") = false from by decide +kernel]
  refine wpAny_truthy_bool ?_
  simp only [Bool.false_eq_true, if_false]
  refine wpAny_execs_nil ?_
  refine wpAny_execs_cons (wpAny_Assign_Name (wpAny_Constant_str (PyProof.Rows.stN F₃ N₃ fun h₄ F₄ N₄ => ?_)))
  dsimp only
  refine wpAny_execs_cons (wpAny_Assign_Name (wpAny_Constant_int (PyProof.Rows.stN F₄ N₄ fun h₅ F₅ N₅ => ?_)))
  dsimp only
  refine wpAny_execs_cons (wpAny_Assign_Name ?_)
  iterate 3 walk1
  refine PyProof.Rows.spliced_more (ld F₅ (v := .str a t) rfl (PyProof.Rows.spliced_none ?_))
  refine PySem.P.len_str (by show ¬ (a.length : Int) ≥ 2 ^ 63; have : (a.length : Nat) = a.cps.size := rfl; lia) ?_
  refine PyProof.Rows.stN F₅ N₅ fun h₆ F₆ N₆ => ?_
  dsimp only
  refine wpAny_execs_cons (while_gx (n₀ := a.cps.size - 5) (fun k m' news' => ∃ (i : Nat) (ti tn : Tok) (d : Str) (td : Tok), m' (Str.ofString "resp") = some (.str a t) ∧ m' (Str.ofString "n") = some (.int a.cps.size tn) ∧ m' (Str.ofString "i") = some (.int i ti) ∧ m' (Str.ofString "dirname") = some (.str d td) ∧
    i ≤ a.cps.size ∧ k = a.cps.size - i ∧ cs d ++ pq ((cs a).drop i) = pq l ∧ (cs d).length ≤ i ∧ news' = news) F₆ N₆ (inE_5 5 _ _ (Str.ofString "") _ (inA_9 rfl rfl rfl rfl (by lia) rfl (by rw [hcs, cs_empty]; rfl) (by rw [cs_empty]; simp) rfl)) ?_)
  rintro k m₁ news₁ h tk gx F₇ N₇ hgx hx0__
  refine elE_5 hx0__ fun i ti tn d td => elA_9 ?_
  clear hx0__
  intro hm1 hm2 hm3 hm4 hi e0__ hpq hdl e1__
  subst e0__
  subst e1__
  have F₈ := Fr_at (Fr_at (Fr_at (Fr_at F₇ (Str.ofString "resp") _ hm1) (Str.ofString "n") _ hm2) (Str.ofString "i") _ hm3) (Str.ofString "dirname") _ hm4
  refine wpAny_isTrue_Compare1 (ld F₈ (v := .int i ti) rfl (ld F₈ (v := .int a.cps.size tn) rfl ?_))
  walk1
  refine wpAny_truthy_bool ?_
  by_cases hlt : i < a.cps.size
  · have e0 : decide ((i : Int) < (a.cps.size : Int)) = true := by simp; lia
    rw [e0]
    simp only [if_true]
    have hci : ∃ c, a.cps[i]? = some c ∧ (cs a).drop i = c :: (cs a).drop (i + 1) := ⟨a.cps[i], by simp [hlt], by
      rw [List.drop_eq_getElem_cons (by lia)]; simp [cs]⟩
    obtain ⟨c, hc, hdr⟩ := hci
    refine wpAny_execs_cons (wpAny_Assign_Name ?_)
    walk1
    refine ld F₈ (v := .str a t) rfl ?_
    refine ld F₈ (v := .int i ti) rfl ?_
    refine item_str (fitsSsize_of (N := 9223372036854775808) (by lia) (by lia) (Int.le_refl _)) (by lia) (by show (i : Int) < (a.cps.size : Int); lia) (fun _ => ?_)
    rw [item_chr hc]
    refine PyProof.Rows.stN F₈ N₇ fun h₉ F₉ N₉ => ?_
    dsimp only
    refine wpAny_execs_cons (wpAny_Assign_Name (wpAny_BinOp (ld F₉ (v := .int i ti) rfl (wpAny_Constant_int ?_))))
    walk1
    refine PyProof.Rows.stN F₉ N₉ fun h₁₀ F₁₀ N₁₀ => ?_
    dsimp only
    refine wpAny_execs_cons (wpAny_If (wpAny_isTrue_Compare1 (ld F₁₀ (v := .str ⟨#[c]⟩ _) rfl (wpAny_Constant_str (PyProof.Rows.eq_str ?_)))))
    rw [show Str.ofString "\"" = ⟨#[34]⟩ from by decide +kernel, chr_eq]
    refine wpAny_truthy_bool ?_
    by_cases h34 : c = 34
    · subst h34
      simp only [decide_true, if_true]
      refine wpAny_execs_cons (wpAny_If (isTrue_or (wpAny_isTrue_Compare1 (ld F₁₀ (v := .int (i + 1) _) rfl (ld F₁₀ (v := .int a.cps.size tn) rfl ?_)))))
      walk1
      refine wpAny_truthy_bool ?_
      by_cases hge : a.cps.size ≤ i + 1
      · have e1 : decide ((a.cps.size : Int) ≤ (i : Int) + 1) = true := by simp; lia
        rw [e1]
        simp only [if_true]
        refine wpAny_execs_cons ?_
        walk1
        dsimp only [WP2]
        refine wpAny_execs_cons (wpAny_Return_some (ld F₁₀ (v := .str d td) rfl ?_))
        have N₁₀' : News g L' h₁₀ ([] ++ news₁) := N₁₀
        refine hQ₀ _ _ ?_
        refine leaveK_ F₁₀ N₁₀' (fun F₁₁ N₁₁ => ?_)
        have hpq' : cs d = pq l := by rw [← hpq, hdr, List.drop_of_length_le (by lia), pq_q (by intro r' h; cases h), List.append_nil]
        exact hret (.str d td) [] _ _ gx F₁₁ N₁₁ hgx (inA_2 rfl (inE_2 d td (inA_2 rfl hpq')))
      · have e1 : decide ((a.cps.size : Int) ≤ (i : Int) + 1) = false := by simp; lia
        rw [e1]
        simp only [Bool.false_eq_true, if_false]
        refine isTrue_or (wpAny_isTrue_Compare1 ?_)
        walk1
        refine ld F₁₀ (v := .str a t) rfl ?_
        refine ld F₁₀ (v := .int (i + 1) _) rfl ?_
        obtain ⟨c', hc', hdr'⟩ : ∃ c, a.cps[i + 1]? = some c ∧ (cs a).drop (i + 1) = c :: (cs a).drop (i + 1 + 1) := ⟨a.cps[i + 1], by rw [Array.getElem?_eq_getElem], by
          rw [List.drop_eq_getElem_cons (by lia)]; simp [cs]⟩
        refine item_str (fitsSsize_of (N := 9223372036854775808) (by lia) (by lia) (Int.le_refl _)) (by lia) (by show (i : Int) + 1 < (a.cps.size : Int); lia) (fun _ => ?_)
        rw [show (i : Int) + 1 = ((i + 1 : Nat) : Int) from rfl, item_chr hc']
        refine wpAny_Constant_str (PyProof.Rows.ne_str ?_)
        refine wpAny_truthy_bool ?_
        by_cases h34' : c' = 34
        · subst h34'
          simp only [bne_self_eq_false, Bool.false_eq_true, if_false]
          refine isTrue_or_nil ?_
          simp only [Bool.false_eq_true, if_false]
          refine wpAny_execs_nil ?_
          refine wpAny_execs_cons (wpAny_Assign_Name (wpAny_BinOp (ld F₁₀ (v := .int (i + 1) _) rfl (wpAny_Constant_int ?_))))
          walk1
          refine PyProof.Rows.stN F₁₀ N₁₀ fun h₁₁ F₁₁ N₁₁ => ?_
          refine wpAny_execs_nil ?_
          refine wpAny_execs_cons (wpAny_Assign_Name (wpAny_BinOp (ld F₁₁ (v := .str d td) rfl (ld F₁₁ (v := .str ⟨#[34]⟩ _) rfl (PyProof.Rows.add_str (hsz := ?hsz) fun t₁ k₁ => PyProof.Rows.stN F₁₁ N₁₁ fun h₁₂ F₁₂ N₁₂ => ?_)))))
          case hsz =>
            have : 2000 ≤ sizeLine := by decide
            have h1 := cs_len d
            show d.length + 1 ≤ sizeLine
            lia
          refine wpAny_execs_nil ?_
          refine (inE_6 h₁₂ _ _ news₁ gx (a.cps.size - (i + 1 + 1)) (inA_6 rfl hgx F₁₂ N₁₂ (by lia) (inE_5 (i + 1 + 1) _ tn _ _ (inA_9 rfl rfl rfl rfl (by lia) rfl ?_ ?_ rfl))))
          · rw [cs_append, ← hpq, hdr, hdr', pq_qq, cs_one]; simp
          · rw [cs_append, cs_one, List.length_append]; show (cs d).length + 1 ≤ _; lia
        · have e2 : ((⟨#[c']⟩ : Str) != ⟨#[34]⟩) = true := by simp [h34']
          rw [e2]
          simp only [if_true]
          refine wpAny_execs_cons ?_
          walk1
          dsimp only [WP2]
          refine wpAny_execs_cons (wpAny_Return_some (ld F₁₀ (v := .str d td) rfl ?_))
          have N₁₀' : News g L' h₁₀ ([] ++ news₁) := N₁₀
          refine hQ₀ _ _ ?_
          refine leaveK_ F₁₀ N₁₀' (fun F₁₁ N₁₁ => ?_)
          have hpq' : cs d = pq l := by rw [← hpq, hdr, hdr', pq_q (by intro r' h; exact h34' (List.cons.inj h).1), List.append_nil]
          exact hret (.str d td) [] _ _ gx F₁₁ N₁₁ hgx (inA_2 rfl (inE_2 d td (inA_2 rfl hpq')))
    · simp only [h34, decide_false, Bool.false_eq_true, if_false]
      refine wpAny_execs_nil ?_
      refine wpAny_execs_cons (wpAny_Assign_Name (wpAny_BinOp (ld F₁₀ (v := .str d td) rfl (ld F₁₀ (v := .str ⟨#[c]⟩ _) rfl (PyProof.Rows.add_str (hsz := ?hsz) fun t₁ k₁ => PyProof.Rows.stN F₁₀ N₁₀ fun h₁₁ F₁₁ N₁₁ => ?_)))))
      case hsz =>
        have : 2000 ≤ sizeLine := by decide
        have h1 := cs_len d
        show d.length + 1 ≤ sizeLine
        lia
      refine wpAny_execs_nil ?_
      refine (inE_6 h₁₁ _ _ news₁ gx (a.cps.size - (i + 1)) (inA_6 rfl hgx F₁₁ N₁₁ (by lia) (inE_5 (i + 1) _ tn _ _ (inA_9 rfl rfl rfl rfl (by lia) rfl ?_ ?_ rfl))))
      · rw [cs_append, ← hpq, hdr, pq_nq h34, cs_one]; simp
      · rw [cs_append, cs_one, List.length_append]; show (cs d).length + 1 ≤ _; lia
  · have e0 : decide ((i : Int) < (a.cps.size : Int)) = false := by simp; lia
    rw [e0]
    simp only [Bool.false_eq_true, if_false]
    refine wpAny_execs_cons (wpAny_Return_some (ld F₈ (v := .str d td) rfl ?_))
    have N₇' : News g L' h ([] ++ news₁) := N₇
    refine hQ₀ _ _ ?_
    refine leaveK_ F₈ N₇' (fun F₉ N₉ => ?_)
    rw [List.drop_of_length_le (by lia), pq, List.append_nil] at hpq
    exact hret (.str d td) [] _ _ gx F₉ N₉ hgx (inA_2 rfl (inE_2 d td (inA_2 rfl hpq)))
end
end Mine
end

section
open PySem PySem.W PyProof.Rows PySem.Calls
set_option Elab.async false
set_option maxRecDepth 100000
set_option maxHeartbeats 2000000
namespace Mine

def J34 : List (List Nat) → List Nat
  | [] => []
  | [x] => x
  | x :: y :: r => x ++ 34 :: J34 (y :: r)

theorem J34_inj : ∀ (ns ms : List (List Nat)), ns ≠ [] → ms ≠ [] → (∀ n ∈ ns, 34 ∉ n) → (∀ n ∈ ms, 34 ∉ n) → J34 ns = J34 ms → ns = ms := by
  have key : ∀ (x y : List Nat) (r s : List Nat), 34 ∉ x → 34 ∉ y → x ++ 34 :: r = y ++ 34 :: s → x = y ∧ r = s := by
    intro x
    induction x with
    | nil =>
      intro y r s _ hy h
      cases y with
      | nil => exact ⟨rfl, (List.cons.inj h).2⟩
      | cons c y =>
        have := (List.cons.inj h).1
        exact absurd (by rw [this]; exact .head _) hy
    | cons a x ih =>
      intro y r s hx hy h
      cases y with
      | nil =>
        have := (List.cons.inj h).1
        exact absurd (by rw [← this]; exact .head _) hx
      | cons c y =>
        obtain ⟨h1, h2⟩ := List.cons.inj h
        obtain ⟨h3, h4⟩ := ih y r s (fun q => hx (.tail _ q)) (fun q => hy (.tail _ q)) h2
        exact ⟨by rw [h1, h3], h4⟩
  intro ns
  induction ns with
  | nil => intro ms h; exact absurd rfl h
  | cons x ns ih =>
    intro ms _ hms hns hm h
    cases ms with
    | nil => exact absurd rfl hms
    | cons y ms =>
      cases ns with
      | nil =>
        cases ms with
        | nil => simpa [J34] using h
        | cons z ms =>
          have h' : x = y ++ 34 :: J34 (z :: ms) := h
          exact absurd (by rw [h']; simp) (hns x (.head _))
      | cons u ns =>
        cases ms with
        | nil =>
          have h' : x ++ 34 :: J34 (u :: ns) = y := h
          exact absurd (by rw [← h']; simp) (hm y (.head _))
        | cons z ms =>
          have h' : x ++ 34 :: J34 (u :: ns) = y ++ 34 :: J34 (z :: ms) := h
          obtain ⟨h1, h2⟩ := key x y _ _ (hns x (.head _)) (hm y (.head _)) h'
          rw [h1, ih (z :: ms) (by simp) (by simp) (fun n hn => hns n (.tail _ hn)) (fun n hn => hm n (.tail _ hn)) h2]

theorem cs_join (ys : List Str) : cs (Str.join ⟨#[34]⟩ ys) = J34 (ys.map cs) := by
  induction ys with
  | nil => rfl
  | cons y ys ih =>
    cases ys with
    | nil => rfl
    | cons z zs =>
      show cs (y ++ ⟨#[34]⟩ ++ Str.join ⟨#[34]⟩ (z :: zs)) = _
      rw [cs_append, cs_append, ih]
      show cs y ++ [34] ++ J34 (List.map cs (z :: zs)) = cs y ++ 34 :: J34 (List.map cs (z :: zs))
      simp

/-- the parts at the quotation marks -/
theorem split_is (x : Str) (ns : List (List Nat)) (h0 : ns ≠ []) (hf : ∀ n ∈ ns, 34 ∉ n) (hx : cs x = J34 ns) : (Txt.split x ⟨#[34]⟩).map cs = ns := by
  refine J34_inj _ _ ?_ h0 ?_ hf ?_
  · intro e
    have := split_pos x ⟨#[34]⟩
    have e' := congrArg List.length e
    simp at e'
    simp [e'] at this
  · intro n hn
    obtain ⟨p, hp, rfl⟩ := List.mem_map.mp hn
    exact StrLaws.split_free x 34 p hp
  · rw [← cs_join, StrLaws.join_split, hx]

inductive Tk where
  | op
  | cl
  | run (ns : List (List Nat))

def quo (n : List Nat) : List Nat := 34 :: n ++ [34]
def tkT : Tk → List Nat
  | .op => [40]
  | .cl => [41]
  | .run ns => ns.flatMap quo
def tkA : Tk → List Nat
  | .op => [40]
  | .cl => [41]
  | .run _ => []
def txt (ts : List Tk) : List Nat := ts.flatMap tkT
def par (ts : List Tk) : List Nat := ts.flatMap tkA
def out1 (d : Int) : Tk → List (Int × List Nat)
  | .op => [(d, [])]
  | .cl => []
  | .run ns => ns.map fun n => (d, n)
def outs : Int → List Tk → List (Int × List Nat)
  | _, [] => []
  | d, t :: r => out1 d t ++ outs (d + bal (tkA t)) r

theorem txt_app (a b : List Tk) : txt (a ++ b) = txt a ++ txt b := by simp [txt]
theorem par_app (a b : List Tk) : par (a ++ b) = par a ++ par b := by simp [par]
theorem outs_snoc (t : Tk) : ∀ (l : List Tk) (d : Int), outs d (l ++ [t]) = outs d l ++ out1 (d + bal (par l)) t := by
  intro l
  induction l with
  | nil => intro d; simp [outs, par, bal]
  | cons x l ih =>
    intro d
    rw [List.cons_append, outs, ih, outs, List.append_assoc]
    have e : bal (par (x :: l)) = bal (tkA x) + bal (par l) := by
      rw [show par (x :: l) = tkA x ++ par l by simp [par], bal_app]
    rw [e, Int.add_assoc]

theorem strip_quo (acc n : List Nat) (h : 34 ∉ n) : (quo n).foldl stepQ (acc, false) = (acc, false) := by
  have key : ∀ (n : List Nat), 34 ∉ n → n.foldl stepQ (acc, true) = (acc, true) := by
    intro n
    induction n with
    | nil => intro _; rfl
    | cons c n ih =>
      intro h
      have h1 : c ≠ 34 := fun e => h (by simp [e])
      rw [List.foldl_cons, show stepQ (acc, true) c = (acc, true) by simp [stepQ, h1]]
      exact ih fun q => h (.tail _ q)
  have e : (34 :: n).foldl stepQ (acc, false) = (acc, true) := by
    rw [List.foldl_cons, show stepQ (acc, false) 34 = (acc, true) by simp [stepQ], key n h]
  rw [quo, List.foldl_append, e]
  simp [stepQ]

theorem strip_runs (acc : List Nat) : ∀ (ns : List (List Nat)), (∀ n ∈ ns, 34 ∉ n) → (ns.flatMap quo).foldl stepQ (acc, false) = (acc, false) := by
  intro ns
  induction ns with
  | nil => intro _; rfl
  | cons n ns ih =>
    intro h
    rw [List.flatMap_cons, List.foldl_append, strip_quo acc n (h n (.head _))]
    exact ih fun m hm => h m (.tail _ hm)

structure Good (ts : List Tk) : Prop where
  names : ∀ ns, Tk.run ns ∈ ts → ns ≠ [] ∧ ∀ n ∈ ns, ∀ c ∈ n, c < 128 ∧ c ≠ 92 ∧ c ≠ 34
  adj : ∀ i ns ns', ts[i]? = some (.run ns) → ts[i + 1]? ≠ some (.run ns')
  nn : ∀ i, 0 ≤ bal ((par ts).take i)

theorem strip_txt : ∀ (ts : List Tk) (acc : List Nat), (∀ ns, Tk.run ns ∈ ts → ∀ n ∈ ns, 34 ∉ n) → (txt ts).foldl stepQ (acc, false) = (acc ++ par ts, false) := by
  intro ts
  induction ts with
  | nil => intro acc _; simp [txt, par]
  | cons t ts ih =>
    intro acc h
    rw [show txt (t :: ts) = tkT t ++ txt ts by simp [txt], show par (t :: ts) = tkA t ++ par ts by simp [par], List.foldl_append]
    have e : (tkT t).foldl stepQ (acc, false) = (acc ++ tkA t, false) := by
      cases t with
      | op => simp [tkT, tkA, stepQ]
      | cl => simp [tkT, tkA, stepQ]
      | run ns => simpa [tkT, tkA] using strip_runs acc ns (h ns (.head _))
    rw [e, ih _ fun ns hn => h ns (.tail _ hn), List.append_assoc]

theorem Good.ahead {ts : List Tk} (g : Good ts) (i : Nat) : Ahead (txt (ts.take i)) (par (ts.take i)) := by
  have hmem : ∀ c ∈ txt (ts.take i), c < 128 ∧ c ≠ 92 := by
    intro c hc
    obtain ⟨t, ht, hc⟩ := List.mem_flatMap.mp hc
    have ht' := List.mem_of_mem_take ht
    cases t with
    | op => simp [tkT] at hc; subst hc; decide
    | cl => simp [tkT] at hc; subst hc; decide
    | run ns =>
      obtain ⟨n, hn, hc⟩ := List.mem_flatMap.mp hc
      rw [quo, List.cons_append] at hc
      rcases List.mem_cons.mp hc with rfl | hc
      · decide
      · rcases List.mem_append.mp hc with hc | hc
        · have := (g.names ns ht').2 n hn c hc
          exact ⟨this.1, this.2.1⟩
        · rw [List.mem_singleton.mp hc]; decide
  refine ⟨fun c hc => (hmem c hc).1, fun c hc => (hmem c hc).2, ?_, fun j => ?_⟩
  · have := strip_txt (ts.take i) [] (fun ns hn n hm h34 => ((g.names ns (List.mem_of_mem_take hn)).2 n hm 34 h34).2.2 rfl)
    simpa [stripQ] using this
  · have h1 := g.nn (min j (par (ts.take i)).length)
    have h2 : (par ts).take (min j (par (ts.take i)).length) = (par (ts.take i)).take j := by
      have e : par ts = par (ts.take i) ++ par (ts.drop i) := by rw [← par_app, List.take_append_drop]
      rw [e, List.take_append_of_le_length (Nat.min_le_right _ _)]
      rcases Nat.le_total j (par (ts.take i)).length with h | h
      · rw [Nat.min_eq_left h]
      · rw [Nat.min_eq_right h, List.take_of_length_le (Nat.le_refl _), List.take_of_length_le h]
    rw [h2] at h1
    exact h1

theorem pq_run : ∀ (ns : List (List Nat)) (n : List Nat) (rest : List Nat), (∀ m ∈ n :: ns, 34 ∉ m) → (∀ r, rest ≠ 34 :: r) → pq (n ++ [34] ++ ns.flatMap quo ++ rest) = J34 (n :: ns) := by
  have pre : ∀ (n l : List Nat), 34 ∉ n → pq (n ++ l) = n ++ pq l := by
    intro n
    induction n with
    | nil => intro l _; rfl
    | cons c n ih =>
      intro l h
      rw [List.cons_append, pq_nq (fun e => h (by simp [e])), ih l (fun q => h (.tail _ q))]
      rfl
  intro ns
  induction ns with
  | nil =>
    intro n rest h hr
    rw [List.flatMap_nil, List.append_nil, List.append_assoc, pre n _ (h n (.head _))]
    show n ++ pq (34 :: rest) = n
    rw [pq_q hr, List.append_nil]
  | cons m ns ih =>
    intro n rest h hr
    have e : n ++ [34] ++ (m :: ns).flatMap quo ++ rest = n ++ (34 :: 34 :: (m ++ [34] ++ ns.flatMap quo ++ rest)) := by
      simp [quo]
    rw [e, pre n _ (h n (.head _)), pq_qq, ih m rest (fun q hq => h q (.tail _ hq)) hr]
    rfl

theorem run_size : ∀ (ns : List (List Nat)) (n : List Nat), (∀ m ∈ n :: ns, 34 ∉ m) → (J34 (n :: ns)).length + (J34 (n :: ns)).count 34 + 2 = ((n :: ns).flatMap quo).length := by
  intro ns
  induction ns with
  | nil =>
    intro n h
    have : n.count 34 = 0 := List.count_eq_zero.mpr (h n (.head _))
    simp [J34, quo, this]
  | cons m ns ih =>
    intro n h
    have h0 : n.count 34 = 0 := List.count_eq_zero.mpr (h n (.head _))
    have := ih m fun q hq => h q (.tail _ hq)
    have e2 : ((n :: m :: ns).flatMap quo).length = (quo n).length + ((m :: ns).flatMap quo).length := by rw [List.flatMap_cons, List.length_append]
    rw [show J34 (n :: m :: ns) = n ++ 34 :: J34 (m :: ns) from rfl, e2, ← this]
    simp only [quo, List.length_append, List.length_cons, List.length_nil, List.count_append, List.count_cons, h0]
    simp
    omega
end Mine
end

section
open PySem PySem.W PyProof.Rows PySem.Calls
set_option Elab.async false
set_option maxRecDepth 100000
set_option maxHeartbeats 2000000
namespace Mine

/-- an iterator in the ledger: its k-th step gives the k-th item -/
structure Nexts (prog : Program) (w : World) (A : Around) (It : Addr) (St : Nat → Obj → Prop) (n : Nat) (item : Nat → Tok → Value) (side : List (Addr × Obj)) : Prop where
  next : ∀ (i : Nat) (oI : Obj) (s : Shared) (Q : Option Value → Shared → Prop) (E : Value → Shared → Prop), i < n → s.heap.get? It = some oI → St i oI → (∀ p ∈ side, s.heap.get? p.1 = some p.2) →
    (∀ h' oI' tk, h'.get? It = some oI' → St (i + 1) oI' → Heap.SameBut It s.heap h' → Q (some (item i s.toks)) { s with heap := h', toks := tk }) → wpAny (model prog w) A (pyNext (.ref It)) Q E s
  stop : ∀ (oI : Obj) (s : Shared) (Q : Option Value → Shared → Prop) (E : Value → Shared → Prop), s.heap.get? It = some oI → St n oI → (∀ p ∈ side, s.heap.get? p.1 = some p.2) →
    (∀ h', Heap.ExtBut It s.heap h' → Q none { s with heap := h' }) → wpAny (model prog w) A (pyNext (.ref It)) Q E s

def StRange (n : Nat) (b : Int) (i : Nat) (o : Obj) : Prop := o = { cls := .type "range_iterator", data := .fields #[rawInt (b + i), rawInt ((n : Int) - i), rawInt 1] }
def StList (l : Addr) (i : Nat) (o : Obj) : Prop := o.cls = .type "list_iterator" ∧ o.data = .fields #[.ref l, .int i 0]

section
variable {prog : Program} {w : World} {A : Around}

theorem nexts_range {It : Addr} {n : Nat} {b : Int} (hh : A.handled = none) : Nexts prog w A It (StRange n b) n (fun i tk => .int (b + i) tk) [] where
  next := fun i oI s Q E hi ho hst _ h => by
    have hst' : oI = _ := hst
    subst hst'
    refine wpAny_pyNext_range_item ho (by lia) fun h' hit hs => h h' _ _ hit ?_ hs
    show _ = _
    have e1 : b + ((i + 1 : Nat) : Int) = b + i + 1 := by lia
    have e2 : (n : Int) - ((i + 1 : Nat) : Int) = (n : Int) - i - 1 := by lia
    rw [e1, e2]
  stop := fun oI s Q E ho hst _ h => by
    have hst' : oI = _ := hst
    subst hst'
    exact wpAny_pyNext_range_end hh ho (by lia) h

theorem nexts_list {It l : Addr} {ol : Obj} {vs : List Value} {e : Nat} (hh : A.handled = none) (hc : ol.cls = .type "list") (hd : ol.data = .seq vs.toArray e) :
    Nexts prog w A It (StList l) vs.length (fun i _ => vs.getD i .none) [(l, ol)] where
  next := fun i oI s Q E hi ho hst hside h => by
    refine wpAny_pyNext_list_item (items := vs.toArray) (x := vs.getD i .none) ⟨oI, ho, hst⟩ (inE_1 ol (inA_3 (hside _ (.head _)) hc (inE_1 e hd))) (by simp [List.getD_eq_getElem?_getD, List.getElem?_eq_getElem hi]) fun h' hit hs => ?_
    obtain ⟨o', ho', hc'⟩ := hit
    exact h h' o' _ ho' hc' hs
  stop := fun oI s Q E ho hst hside h => by
    exact wpAny_pyNext_list_end (items := vs.toArray) hh ⟨oI, ho, hst⟩ (inE_1 ol (inA_3 (hside _ (.head _)) hc (inE_1 e hd))) (by simp) h

theorem letOwned_off {It : Addr} {T : String} {v : Value} {elts : List Expr} {k : Nat} {pos : Pos} {o : Obj} {s : Shared} {Q : Unit → Shared → Prop} {E : Value → Shared → Prop} (ho : s.heap.get? It = some o) (hc : o.cls = .type T)
    (hT : (["enumerate", "zip", "dict_itemiterator", "dict_reverseitemiterator", "odict_iterator", "itertools.zip_longest", "itertools.pairwise"] : List String).contains T = false) (h : Q () s) :
    wpAny (model prog w) A (letOwnedTupleGo (.Tuple elts k pos) (.ref It) v) Q E s := by
  unfold letOwnedTupleGo
  cases v with
  | ref Tv =>
    refine wpAny_bind (wpAny_load ho ?_)
    obtain ⟨cls, dict, data, slots⟩ := o
    replace hc : cls = .type T := hc
    subst hc
    cases data <;> first
      | exact wpAny_pure h
      | (dsimp only; rw [if_neg (by rw [hT]; simp)]; exact wpAny_pure h)
  | _ => exact wpAny_pure h
end

/-- the frame of a block (a comprehension), as an object -/
def NsO (o : Obj) (m : Str → Option Value) : Prop := ∃ es ep, o.data = .dict es ep ∧ StrKeys es ∧ ∀ name, nsFind es name = m name
theorem NsO.ns {h : Heap} {C : Addr} {o : Obj} {m : Str → Option Value} (x : NsO o m) (ho : h.get? C = some o) : h.Ns C m := let ⟨es, ep, r⟩ := x; (inE_3 o es ep (inA_2 ho r))
theorem NsO.of {h : Heap} {C : Addr} {m : Str → Option Value} (x : h.Ns C m) : ∃ o, h.get? C = some o ∧ NsO o m := let ⟨o, es, ep, ho, r⟩ := x; (inE_1 o (inA_2 ho (inE_2 es ep r)))

section
variable {prog : Program} {w : World} {A : Around} {E : Value → Shared → Prop} {R : Result → Shared → Prop} {s : Shared} {env : Env}

theorem codeAny_compLoop_any {elt target iter : Expr} {scope : Scope} {pos : Pos} {it acc : Value} {env : Env} (I : Nat → Shared → Prop)
    (turn : ∀ n s, I n s → wpAny (model prog w) A (pyNext it) (fun r s₁ => match r with
      | none => R (.ok .next) s₁
      | some v => wpAny (model prog w) A (letOwnedTupleGo target it v) (fun _ s₁' => wpAny (model prog w) A (assign target env v) (fun _ s₂ => wpAny (model prog w) A (eval elt env) (fun x s₃ =>
          wpAny (model prog w) A (call (.builtin "list.append") [acc, x]) (fun _ s₄ => ∃ m, m < n ∧ I m s₄) (fun _ _ => False) s₃)
          (fun _ _ => False) s₂) (fun _ _ => False) s₁') (fun _ _ => False) s₁) (fun _ _ => False) s)
    (n : Nat) (h : I n s) :
    codeAny (model prog w) A (.compLoop (.ListComp elt [⟨target, iter, [], 0⟩] scope pos) 0 it acc env) R s := by
  refine codeAny_loop rfl I (fun n s hI => ?_) n h
  show wpAny _ _ ((compTurn (.ListComp elt [⟨target, iter, [], 0⟩] scope pos) 0 it acc env).onRaise (fun x => do noteFrame x env; theTreesLotGoes x)) _ _ s
  refine wpAny_noted ?_
  rw [compTurn_list1]
  refine wpAny_bind (wpAny_standAt (wpAny_bind (wpAny_mono (turn n s hI) (fun r s₁ h₁ => ?_) fun _ _ h' => h'.elim)))
  cases r with
  | none => exact wpAny_pure h₁
  | some v =>
    exact wpAny_bind (wpAny_mono h₁ (fun _ s₁' h₁' => wpAny_bind (wpAny_mono h₁' (fun _ s₂ h₂ => wpAny_bind (wpAny_bind (wpAny_mono h₂ (fun x s₃ h₃ => wpAny_bind (wpAny_mono h₃
      (fun _ s₄ h₄ => wpAny_pure (wpAny_pure ⟨rfl, h₄⟩)) fun _ _ h' => h'.elim)) fun _ _ h' => h'.elim))) fun _ _ h' => h'.elim)) fun _ _ h' => h'.elim)

structure Apart (D C It : Addr) (rest : List (Addr × Obj)) : Prop where
  dc : D ≠ C
  di : D ≠ It
  ci : C ≠ It
  rest : ∀ q ∈ rest, q.1 ≠ D ∧ q.1 ≠ C ∧ q.1 ≠ It

theorem comp_tail {hb : Heap} {L : Addr} {m : Str → Option Value} {news : List (Addr × Obj)} {It : Addr} {St : Nat → Obj → Prop} {oI : Obj} {n : Nat} {item : Nat → Tok → Value} {side : List (Addr × Obj)}
    {elt target iter : Expr} {scope : Scope} {pos : Pos} {cl : List (Str × Addr)} {RR : Value → Addr → Result → Shared → Prop}
    (F : Fr hb L s.heap m) (N : News hb L s.heap ((It, oI) :: news)) (hne : ∀ q ∈ news, q.1 ≠ It) (nx : Nexts prog w A It St n item side) (h0 : St 0 oI) (hside : ∀ p ∈ side, p ∈ news) (hsz : n ≤ 1000)
    (hcell : ∀ y ∈ scope.names, y.2 ≠ .cell) (hkind : scope.kind = .function) (hself : ∀ s' oI', s'.heap.get? It = some oI' → St 0 oI' → ∀ (Q : Value → Shared → Prop) (E : Value → Shared → Prop), Q (.ref It) s' → wpAny (model prog w) A (pyIter (.ref It)) Q E s')
    (J : Nat → List Value → List (Addr × Obj) → Prop) (hJ : J 0 [] [])
    (turn : ∀ i vs tl h tk gx oC oI C D mC tk0, i < n → J i vs tl → Fr hb L h m → News hb L h ((D, listOf vs.toArray i) :: (C, oC) :: (It, oI) :: (tl ++ news)) → St (i + 1) oI → Apart D C It (tl ++ news) → (∀ q ∈ gx, q = GenState.finished) → NsO oC mC →
      wpAny (model prog w) A (letOwnedTupleGo target (.ref It) (item i tk0)) (fun _ s₁ => wpAny (model prog w) A (assign target (compEnvC scope cl C env) (item i tk0)) (fun _ s₂ => wpAny (model prog w) A (eval elt (compEnvC scope cl C env)) (fun x s₃ =>
        ∃ h' tk' gx' oC' mC' tl', s₃ = { s with heap := h', toks := tk', gens := s.gens ++ gx' } ∧ (∀ q ∈ gx', q = GenState.finished) ∧ Fr hb L h' m ∧ News hb L h' ((D, listOf vs.toArray i) :: (C, oC') :: (It, oI) :: (tl' ++ news)) ∧ Apart D C It (tl' ++ news) ∧ NsO oC' mC' ∧ J (i + 1) (vs ++ [x]) tl')
        (fun _ _ => False) s₂) (fun _ _ => False) s₁) (fun _ _ => False) { s with heap := h, toks := tk, gens := s.gens ++ gx })
    (done : ∀ vs tl h tk gx D, J n vs tl → Fr hb L h m → News hb L h ((D, listOf vs.toArray n) :: (tl ++ news)) → (∀ q ∈ tl ++ news, q.1 ≠ D) → (∀ q ∈ gx, q = GenState.finished) → ∀ C, hb.get? C = none → C ≠ L → (∃ mC, h.Ns C mC) →
      (∀ q ∈ (D, listOf vs.toArray n) :: (tl ++ news), q.1 ≠ C) → RR (.ref D) C (.ok .next) { s with heap := h, toks := tk, gens := s.gens ++ gx }) :
    wpAny (model prog w) A (newList []) (fun acc s₃ => wpAny (model prog w) A (newFunctionEnv scope env.globals cl [] env.qual none .none (some env)) (fun cenv s₄ =>
      codeAny (model prog w) A (.compStart (.ListComp elt [⟨target, iter, [], 0⟩] scope pos) 0 (.ref It) acc { cenv with scope := relabel scope env }) (RR acc cenv.locals) s₄) E s₃) E s := by
  refine PyProof.Rows.newList_N F N fun h₁ F₁ N₁ => ?_
  have hIlt : It < s.heap.objs.size := Heap.lt_size (N _ (.head _)).1
  generalize hD : s.heap.objs.size = D at *
  have hDI : D ≠ It := fun e => by rw [e] at hIlt; exact Nat.lt_irrefl _ hIlt
  have hDr : ∀ q ∈ news, q.1 ≠ D := fun q hq => by
    have := Heap.lt_size (N q (.tail _ hq)).1
    rw [hD] at this
    exact Nat.ne_of_lt this
  refine wpAny_newFunctionEnv hcell (by intro y hy; simp at hy) (fun h₂ hns₂ hsb₂ => ?_) hkind
  dsimp only at hns₂ hsb₂ ⊢
  have F₁' := F₁.push { cls := .type "dict", data := .dict #[] }
  have N₁' := PyProof.Rows.News.push F₁ N₁ { cls := .type "dict", data := .dict #[] }
  have hlt₁ : ∀ q ∈ ((D, listOf ([] : List Value).toArray 0) :: (It, oI) :: news), q.1 < h₁.objs.size := fun q hq => Heap.lt_size (N₁ q hq).1
  have hLC : h₁.objs.size ≠ L := (N₁' _ (.head _)).2.1
  have hbC : hb.get? h₁.objs.size = none := (N₁' _ (.head _)).2.2
  generalize hC : h₁.objs.size = C at *
  replace hsb₂ : Heap.SameBut C (h₁.push { cls := .type "dict", data := .dict #[] }) h₂ := hsb₂
  obtain ⟨oC, hoC, hNsC⟩ := NsO.of hns₂
  have F₂ : Fr hb L h₂ m := F₁'.change hsb₂ hLC hbC
  have hneC : ∀ q ∈ ((D, listOf ([] : List Value).toArray 0) :: (It, oI) :: news), q.1 ≠ C := fun q hq => Nat.ne_of_lt (hlt₁ q hq)
  have N₂ : News hb L h₂ ((D, listOf ([] : List Value).toArray 0) :: (C, oC) :: (It, oI) :: ([] ++ news)) := fun q hq => by
    rcases List.mem_cons.mp hq with rfl | hq
    · have x := N₁' (D, listOf ([] : List Value).toArray 0) (.tail _ (.head _))
      exact ⟨(hsb₂.2 _ (hneC _ (.head _))).trans x.1, x.2⟩
    · rcases List.mem_cons.mp hq with rfl | hq
      · exact ⟨hoC, hLC, hbC⟩
      · have x := N₁' q (.tail _ (.tail _ hq))
        exact ⟨(hsb₂.2 _ (hneC _ (.tail _ hq))).trans x.1, x.2⟩
  have hap : Apart D C It ([] ++ news) := ⟨hneC _ (.head _), hDI, Ne.symm (hneC _ (.tail _ (.head _))), fun q hq => ⟨hDr q hq, hneC q (.tail _ (.tail _ hq)), hne q hq⟩⟩
  have loop : codeAny (model prog w) A (.compLoop (.ListComp elt [⟨target, iter, [], 0⟩] scope pos) 0 (.ref It) (.ref D) (compEnvC scope cl C env)) (RR (.ref D) C) { s with heap := h₂, toks := s.toks + ([] : List (Str × Value)).length } := by
    refine codeAny_compLoop_any
      (fun k s' => ∃ H tk gx vs tl oC mC oI i, s' = { s with heap := H, toks := tk, gens := s.gens ++ gx } ∧ (∀ q ∈ gx, q = GenState.finished) ∧ Fr hb L H m ∧ News hb L H ((D, listOf vs.toArray i) :: (C, oC) :: (It, oI) :: (tl ++ news)) ∧ Apart D C It (tl ++ news) ∧ NsO oC mC ∧ St i oI ∧ J i vs tl ∧ i ≤ n ∧ vs.length = i ∧ k = n - i)
      ?_ n (inE_9 h₂ (s.toks + ([] : List (Str × Value)).length) (#[]) ([]) ([]) oC _ oI 0 (inA_11 (by simp) (by simp) F₂ N₂ hap hNsC h0 hJ (Nat.zero_le _) rfl rfl))
    rintro k s' hx0__
    refine elE_9 hx0__ fun H tk gx vs tl oC mC oI i => elA_11 ?_
    clear hx0__
    intro e0__ hgx F' N' hap hC' hst hJ' hi hvl e1__
    subst e0__
    subst e1__
    have hIt := N' (It, oI) (.tail _ (.tail _ (.head _)))
    have hsd : ∀ p ∈ side, H.get? p.1 = some p.2 := fun p hp => (N' p (.tail _ (.tail _ (.tail _ (List.mem_append_right _ (hside p hp)))))).1
    by_cases hlt : i < n
    · refine nx.next i oI _ _ _ hlt hIt.1 hst hsd fun h₃ oI' tk₃ ho₃ hst₃ hs₃ => ?_
      dsimp only at hs₃ ⊢
      have F₃ : Fr hb L h₃ m := F'.change hs₃ hIt.2.1 hIt.2.2
      have N₃ : News hb L h₃ ((D, listOf vs.toArray i) :: (C, oC) :: (It, oI') :: (tl ++ news)) := fun q hq => by
        rcases List.mem_cons.mp hq with rfl | hq
        · have x := N' (D, listOf vs.toArray i) (.head _)
          exact ⟨(hs₃.2 _ hap.di).trans x.1, x.2⟩
        · rcases List.mem_cons.mp hq with rfl | hq
          · have x := N' (C, oC) (.tail _ (.head _))
            exact ⟨(hs₃.2 _ hap.ci).trans x.1, x.2⟩
          · rcases List.mem_cons.mp hq with rfl | hq
            · exact ⟨ho₃, hIt.2⟩
            · have x := N' q (.tail _ (.tail _ (.tail _ hq)))
              exact ⟨(hs₃.2 _ (hap.rest q hq).2.2).trans x.1, x.2⟩
      refine wpAny_mono (turn i vs tl h₃ tk₃ gx oC oI' C D mC tk hlt hJ' F₃ N₃ hst₃ hap hgx hC') (fun _ s₄ h₄ => ?_) (fun _ _ x => x.elim)
      refine wpAny_mono h₄ (fun _ s₅ h₅ => ?_) (fun _ _ x => x.elim)
      refine wpAny_mono h₅ (fun x s₆ h₆ => ?_) (fun _ _ x => x.elim)
      refine elE_6 h₆ fun h' tk' gx' oC' mC' tl' => elA_7 ?_
      clear h₆
      intro e0__ hgx' F₆ N₆ hap' hC'' hJ''
      subst e0__
      refine append_K F₆ N₆ (Upd.head (fun q hq => ?_)) (fun h₇ F₇ N₇ => ?_) (by
        show vs.toArray.size ≤ sizeLine
        rw [List.size_toArray, hvl]
        exact Nat.le_trans (Nat.le_of_lt hlt) (Nat.le_trans hsz (by decide)))
      · rcases List.mem_cons.mp hq with rfl | hq
        · exact Ne.symm hap'.dc
        · rcases List.mem_cons.mp hq with rfl | hq
          · exact Ne.symm hap'.di
          · exact (hap'.rest q hq).1
      · have ea : vs.toArray.push x = (vs ++ [x]).toArray := by simp
        rw [ea] at N₇
        exact (inE_1 (n - (i + 1)) (inA_2 (by lia) (inE_9 h₇ tk' gx' (vs ++ [x]) tl' oC' mC' oI' (i + 1) (inA_11 rfl hgx' F₇ N₇ hap' hC'' hst₃ hJ'' (by lia) (by simp [hvl]) rfl))))
    · obtain rfl : i = n := by lia
      refine nx.stop oI _ _ _ hIt.1 hst hsd fun h₃ hk₃ => ?_
      dsimp only at hk₃ ⊢
      have F₃ : Fr hb L h₃ m := Fr_but F' hk₃ hIt.2.1 hIt.2.2
      have hND := N' (D, listOf vs.toArray i) (.head _)
      have hNC := N' (C, oC) (.tail _ (.head _))
      refine done vs tl h₃ tk gx D hJ' F₃ (fun q hq => ?_) (fun q hq => (hap.rest q hq).1) hgx C hNC.2.2 hNC.2.1 ⟨mC, hC'.ns (hk₃ _ _ hap.ci hNC.1)⟩ (fun q hq => ?_)
      · rcases List.mem_cons.mp hq with rfl | hq
        · exact ⟨hk₃ _ _ hap.di hND.1, hND.2⟩
        · have x := N' q (.tail _ (.tail _ (.tail _ hq)))
          exact ⟨hk₃ _ _ (hap.rest q hq).2.2 x.1, x.2⟩
      · rcases List.mem_cons.mp hq with rfl | hq
        · exact hap.dc
        · exact (hap.rest q hq).2.1
  exact codeAny_compStart_list loop (hself _ oI (N₂ _ (.tail _ (.tail _ (.head _)))).1 h0 _ _ loop)

theorem store_comp {hb : Heap} {L : Addr} {m mC : Str → Option Value} {x : Str} {v : Value} {scope : Scope} {cl : List (Str × Addr)} {C : Addr} {oC : Obj} {pre post : List (Addr × Obj)} {Q : Unit → Shared → Prop}
    (F : Fr hb L s.heap m) (N : News hb L s.heap (pre ++ (C, oC) :: post)) (hC : NsO oC mC) (h1 : ∀ q ∈ pre, q.1 ≠ C) (h2 : ∀ q ∈ post, q.1 ≠ C)
    (h : ∀ h' oC', Fr hb L h' m → News hb L h' (pre ++ (C, oC') :: post) → NsO oC' (fun y => if y = x then some v else mC y) → Q () { s with heap := h', toks := s.toks + 1 })
    (hx : (compEnvC scope cl C env).kindOf x = some .local := by rfl) (hk : scope.kind = .function := by rfl) : wpAny (model prog w) A (storeName (compEnvC scope cl C env) x v) Q E s := by
  have hc := N (C, oC) (List.mem_append_right _ (.head _))
  refine wpAny_storeName_local hx (hC.ns hc.1) (fun h' hn hs => ?_) (by show ((relabel scope env).kind == .class || ((relabel scope env).kind == .module && _)) = false; rw [show (relabel scope env).kind = scope.kind from rfl, hk]; rfl)
  obtain ⟨oC', ho', hN'⟩ := NsO.of hn
  replace hs : Heap.SameBut C s.heap h' := hs
  exact h h' oC' (F.change hs hc.2.1 hc.2.2) (news_set N h1 h2 hs ho') hN'

theorem load_comp {x : Str} {v : Value} {scope : Scope} {cl : List (Str × Addr)} {C : Addr} {oC : Obj} {mC : Str → Option Value} {pos : Pos} {Q : Value → Shared → Prop} (ho : s.heap.get? C = some oC) (hC : NsO oC mC) (hv : mC x = some v) (h : Q v s)
    (hk : scope.kind = .function := by rfl) (hx : (compEnvC scope cl C env).kindOf x = some .local := by rfl) (hd : (x == ("__debug__" : Str)) = false := by decide) :
    wpAny (model prog w) A (eval (.Name x pos) (compEnvC scope cl C env)) Q E s := wpAny_Name (wpAny_loadName_local hk hx (hC.ns ho) hv h) hd
end
end Mine
end

section
open PySem PySem.W PyProof.Rows PySem.Calls
set_option Elab.async false
set_option maxRecDepth 100000
set_option maxHeartbeats 2000000
namespace Mine

section
variable {prog : Program} {w : World} {A : Around} {E : Value → Shared → Prop} {s : Shared}

theorem fillI_list : fillsInplaceSlot (.type "list") "add" (Operator.Add == .Add) = pure false := by
  unfold fillsInplaceSlot
  show (typeLookup (.type "list") (dunderI "add") >>= fun fi => pure (fi.isSome && !isSeqSlot fi)) = pure false
  rw [PySem.F.slot_list_iadd.lookup]
  show (pure _ : Sem Bool) = pure false
  rw [show isSeqSlot (some (Value.builtin "list.__iadd__")) = true from by decide +kernel]
  rfl
theorem seqI_list : seqSlot? (.type "list") (dunderI "add") = pure (some (.builtin "list.__iadd__")) := PySem.seqSlot_of PySem.F.slot_list_iadd.lookup (by decide +kernel)

theorem iadd_list_call {P D : Addr} {Q : Value → Shared → Prop} (ha : s.TypeIs (.ref P) "list") (hb : s.TypeIs (.ref D) "list")
    (hc : wpAny (model prog w) A (call (.builtin "list.__iadd__") [.ref P, .ref D]) Q E s) : wpAny (model prog w) A (inplaceOp .Add (.ref P) (.ref D)) Q E s := by
  unfold inplaceOp
  refine wpAny_holding ?_
  refine wpAny_bind (wpAny_typeOf ha (wpAny_bind (wpAny_of_eq fillI_list ?_)))
  show wpAny _ A (if false = true then _ else _) Q E s
  rw [if_neg Bool.false_ne_true]
  refine wpAny_bind (wpAny_binaryOp1_none (nm := "add") ha hb noFill_list_add ?_)
  refine wpAny_bind (wpAny_of_eq seqI_list ?_)
  exact wpAny_bind (wpAny_rule hc)

theorem iadd_lists {h₀ : Heap} {L : Addr} {m : Str → Option Value} {P D : Addr} {its its2 : List Value} {e e2 : Nat} {pre post : List (Addr × Obj)} {Q : Value → Shared → Prop}
    (F : Fr h₀ L s.heap m) (N : News h₀ L s.heap (pre ++ (P, listOf its.toArray e) :: post)) (h1 : ∀ q ∈ pre, q.1 ≠ P) (h2 : ∀ q ∈ post, q.1 ≠ P) (hD : (D, listOf its2.toArray e2) ∈ pre ++ post)
    (h : ∀ h' e', Fr h₀ L h' m → News h₀ L h' (pre ++ (P, listOf (its ++ its2).toArray e') :: post) → Q (.ref P) { s with heap := h' }) (hsz : its.length + its2.length ≤ 100000) :
    wpAny (model prog w) A (inplaceOp .Add (.ref P) (.ref D)) Q E s := by
  have hP := N (P, listOf its.toArray e) (List.mem_append_right _ (.head _))
  have hDm : (D, listOf its2.toArray e2) ∈ pre ++ (P, listOf its.toArray e) :: post := by
    rcases List.mem_append.mp hD with q | q
    · exact List.mem_append_left _ q
    · exact List.mem_append_right _ (.tail _ q)
  have hDN := N _ hDm
  refine iadd_list_call ⟨_, hP.1, rfl⟩ ⟨_, hDN.1, rfl⟩ ?_
  have hbig : 100000 < sizeLine := by decide
  refine call_meets PySem.F.slot_list_iadd ⟨_, hP.1, rfl⟩ PySem.F.entry_list_iadd (PySem.F.args_list_iadd_2 _ _) (PySem.AutoSeq1.list___iadd___list_list_0 P its.toArray e D its2.toArray e2 ?_ ?_ ?_) ⟨hP.1, hDN.1, ?_⟩
  · simp only [Bool.and_eq_true, not_and]
    intro _
    show ¬ (decide (its.toArray.size + its2.toArray.size > sizeLine) = true)
    rw [List.size_toArray, List.size_toArray]
    simp only [decide_eq_true_eq]
    lia
  · simp; lia
  · simp; lia
  · have hu := get?_update_seq hP.1 (· ++ its2.toArray)
    have e3 : its.toArray ++ its2.toArray = (its ++ its2).toArray := by simp
    dsimp only at hu
    rw [e3] at hu
    have hs : Heap.SameBut P s.heap (s.heap.update P (Obj.mapSeq fun x => x ++ its2.toArray)) := Heap.SameBut.update ..
    exact h _ _ (F.change hs hP.2.1 hP.2.2) (news_set N h1 h2 hs hu)
end
end Mine
end

section
open PySem PySem.W PyProof.Rows PySem.Calls
set_option Elab.async false
set_option maxRecDepth 100000
set_option maxHeartbeats 2000000
namespace Mine

theorem fill9 : (fun (_ : OpenLaw) (_ : Params → Frag) => True) PySem.Challenge.rw_wa0010_01 hd.heap_39 := by
  k_fill
  exact trivial

def ptD (p : Int × List Nat) : Dat := .tuple [.int p.1, .str ⟨p.2.toArray⟩]

section
variable {prog : Program} {w : World} {p : Program} {loose : List Str} {mean : ExcName → Option Value} {mg mb : Str → Option Value}

theorem newTuple_K {M : Model} {A : Around} {E : Value → Shared → Prop} {s : Shared} {h₀ : Heap} {L : Addr} {m : Str → Option Value} {news : List (Addr × Obj)} {vs : List Value} {Q : Value → Shared → Prop} (F : Fr h₀ L s.heap m) (N : News h₀ L s.heap news)
    (h : ∀ T h', Fr h₀ L h' m → News h₀ L h' ((T, { cls := .type "tuple", data := .seq vs.toArray }) :: news) → (∀ q ∈ news, @LT.lt Nat _ q.1 T) → Q (.ref T) { s with heap := h' }) (hsz : vs.length ≤ sizeLine := by size_fits) : wpAny M A (newTuple vs) Q E s :=
  PyProof.Rows.newTuple_N F N (fun h' F' N' => h _ h' F' N' fun p hp => Heap.lt_size (N p hp).1) hsz

theorem cnt_count (c : Nat) (l : List Nat) : cnt c l = (l.count c : Nat) := by
  induction l with
  | nil => rfl
  | cons x l ih =>
    rw [cnt_cons, ih, List.count_cons]
    by_cases h : x = c <;> simp [h]
    lia

theorem quo_len (ns : List (List Nat)) : ns.length ≤ (ns.flatMap quo).length := by
  induction ns with
  | nil => simp
  | cons n ns ih => simp only [List.flatMap_cons, List.length_append, List.length_cons, quo]; lia

theorem take_succ {α : Type} {l : List α} {i : Nat} (h : i < l.length) : l.take (i + 1) = l.take i ++ [l[i]] := by
  rw [List.take_add_one, List.getElem?_eq_getElem h]; rfl

theorem tkT_pos {ts : List Tk} (hg : Good ts) {i : Nat} (h : i < ts.length) : 1 ≤ (tkT ts[i]).length := by
  cases e : ts[i] with
  | op => decide
  | cl => decide
  | run ns =>
    have hm : Tk.run ns ∈ ts := e ▸ List.getElem_mem h
    obtain ⟨h0, _⟩ := hg.names ns hm
    cases ns with
    | nil => exact absurd rfl h0
    | cons n ns => simp [tkT, quo]

theorem points_tell (a : Str) (t : Tok) (ts : List Tk) (hg : Good ts) (hcs : cs a = txt ts) (hlen : a.cps.size ≤ 400) (hn : (outs 0 ts).length ≤ 1000) :
    Tell prog w p loose mean mg mb 91 [.str a t] 5 40 (fun _ _ => True) fun tl news v => ∃ P items e tl', v = .ref P ∧ tl = (P, listOf items.toArray e) :: tl' ∧ DatAll tl' items ((outs 0 ts).map ptD) ∧ (∀ q ∈ tl, ∀ p ∈ news, q.1 ≠ p.1) ∧ (∀ q ∈ tl', q.1 ≠ P) := by
  intro dp un gd cn cs' ca ccd cl outer A₀ base h₀ L m s news Q E B F X N T hk hpre hd hu hret
  refine wpAny_call (code_defC (binds := [(Str.ofString "text", Value.str a t)]) B F X N T rfl rfl hk (by rfl : (Mine.hd.heap_39 w.params).lookup 91 = some ⟨_, _, .func (fnOf _ _ _ _ _ _ _ _ _ _ _ _), _⟩) (by rfl) ?_ (BindsTo.of_eq rfl) (by rfl) (by decide) (fun g L' h₁ tk₁ cells FG F' N' Y B' X' T' hLt => ?_) rfl rfl rfl)
  · show dp < recursionLimit
    lia
  refine abs_QE fun Q₀ E₀ hQ₀ => ?_
  refine elE_2 (CellsAre.two Y) fun ob ot => elA_3 ?_
  intro e0__ hob hot
  subst e0__
  refine wpAny_execs_cons (wpAny_Assign_Name (PyProof.Rows.List_ (PyProof.Rows.spliced_none (newList_K F' N' fun P h₂ F₂ N₂ hP => storeX_L F₂ N₂ fun h₃ F₃ N₃ => ?_))))
  have hPb : ∀ q ∈ [(L' + 1 + 1, ob), (L' + 1, ot)] ++ news, @LT.lt Nat _ q.1 P := hP
  have hPn : ∀ q ∈ news, @LT.lt Nat _ q.1 P := fun q hq => hPb q (List.mem_append_right _ hq)
  have hP1 : @LT.lt Nat _ (L' + 1 + 1) P := hPb _ (.head _)
  have hP2 : @LT.lt Nat _ (L' + 1) P := hPb _ (.tail _ (.head _))
  have hLn : ∀ q ∈ news, @LT.lt Nat _ q.1 L' := hLt
  have hap₀ : Apart P (L' + 1 + 1) (L' + 1) ([] ++ news) := ⟨Nat.ne_of_gt hP1, Nat.ne_of_gt hP2, Nat.ne_of_gt (Nat.lt_succ_self _), fun q hq => by
    have h1 := hPn q hq
    have h2 := hLn q hq
    exact ⟨Nat.ne_of_lt h1, Nat.ne_of_lt (by lia), Nat.ne_of_lt (by lia)⟩⟩
  refine wpAny_execs_cons (wpAny_Assign_Name (wpAny_Constant_int (storeX_C F₃ N₃ (by rfl) (UpdF.tail hap₀.dc (UpdF.head (List.forall_mem_cons.mpr ⟨Ne.symm hap₀.ci, fun q hq => (hap₀.rest q hq).2.1⟩))) hob fun h₄ ob₄ F₄ N₄ hob₄ => ?_)))
  have hal : (cs a).length = a.cps.size := by simp [cs]
  have hot' : ot.data = .cell (some (.str a t)) := hot
  refine wpAny_execs_cons (while_gx (n₀ := ts.length) (fun k m' news' => ∃ (i : Nat) (tb : Tok) (items : List Value) (e : Nat) (tl : List (Addr × Obj)) (ob : Obj), news' = (P, listOf items.toArray e) :: (L' + 1 + 1, ob) :: (L' + 1, ot) :: (tl ++ news) ∧ ob.data = .cell (some (.int (txt (ts.take i)).length tb)) ∧
    m' (Str.ofString "points") = some (.ref P) ∧ i ≤ ts.length ∧ k = ts.length - i ∧ DatAll tl items ((outs 0 (ts.take i)).map ptD) ∧ Apart P (L' + 1 + 1) (L' + 1) (tl ++ news) ∧ ∀ q ∈ tl, ∀ p ∈ news, q.1 ≠ p.1) F₄ N₄ (inE_6 0 _ ([]) 0 ([]) ob₄ (inA_8 rfl hob₄ rfl (Nat.zero_le _) rfl (.nil) hap₀ (by simp))) ?_)
  rintro k m₁ news₁ h tk gx F₅ N₅ hgx hx1__
  refine elE_6 hx1__ fun i tb items e tl ob₅ => elA_8 ?_
  clear hx1__
  intro e0__ hob₅ hm hi e1__ hda hap hfr
  subst e0__
  subst e1__
  refine wpAny_isTrue_Compare1 (nameX_C N₅ (by rfl) (.tail _ (.head _)) hob₅ ?_)
  iterate 3 walk1
  refine PyProof.Rows.spliced_more (nameX_C N₅ (by rfl) (.tail _ (.tail _ (.head _))) hot' (PyProof.Rows.spliced_none ?_))
  refine PySem.P.len_str (by show ¬ (a.length : Int) ≥ 2 ^ 63; have : (a.length : Nat) = a.cps.size := rfl; lia) ?_
  walk1
  refine wpAny_truthy_bool ?_
  have hdec : txt ts = txt (ts.take i) ++ txt (ts.drop i) := by rw [← txt_app, List.take_append_drop]
  have htl : (txt ts).length = a.cps.size := by rw [← hcs, hal]
  by_cases hlt : i < ts.length
  · have hdr : ts.drop i = ts[i] :: ts.drop (i + 1) := List.drop_eq_getElem_cons hlt
    have htd : txt (ts.drop i) = tkT ts[i] ++ txt (ts.drop (i + 1)) := by rw [hdr, txt, List.flatMap_cons]; rfl
    have hp1 := tkT_pos hg hlt
    have htk := take_succ hlt
    have hb : (txt (ts.take i)).length + (tkT ts[i]).length ≤ a.cps.size := by
      rw [← htl, hdec, htd]; simp only [List.length_append]; lia
    have hisz0 : items.length ≤ 1000 := by
      have h1 := hda.length
      rw [List.length_map] at h1
      have h2 : (outs 0 (ts.take i)).length ≤ (outs 0 ts).length := by
        have key : ∀ (l k : List Tk) (d : Int), (outs d l).length ≤ (outs d (l ++ k)).length := by
          intro l
          induction l with
          | nil => intro k d; simp [outs]
          | cons x l ih =>
            intro k d
            have := ih k (d + bal (tkA x))
            simp only [outs, List.cons_append, List.length_append]
            lia
        have := key (ts.take i) (ts.drop i) 0
        rwa [List.take_append_drop] at this
      lia
    have hisz : items.length ≤ sizeLine := Nat.le_trans hisz0 (by decide)
    have e0 : decide (((txt (ts.take i)).length : Int) < (a.length : Int)) = true := by
      have : (a.length : Nat) = a.cps.size := rfl
      exact decide_eq_true (by lia)
    rw [e0]
    simp only [if_true]
    refine wpAny_execs_cons (wpAny_Assign_Name (wpAny_Constant_int (storeX_L F₅ N₅ fun h₆ F₆ N₆ => ?_)))
    refine wpAny_execs_cons (wpAny_mono (Q := fun f s₃ => f = .next ∧ ∃ hh tkk gx' m' items' e' tl' sz tsz, s₃ = { heap := hh, gens := s.gens ++ gx', drawn := s.drawn, toks := tkk, os := s.os } ∧ (∀ q ∈ gx', q = GenState.finished) ∧ Fr g L' hh m' ∧
      News g L' hh ((P, listOf items'.toArray e') :: (L' + 1 + 1, ob₅) :: (L' + 1, ot) :: (tl' ++ news)) ∧ Apart P (L' + 1 + 1) (L' + 1) (tl' ++ news) ∧ m' (Str.ofString "points") = some (.ref P) ∧ m' (Str.ofString "size") = some (.int (sz : Nat) tsz) ∧ sz = (tkT ts[i]).length ∧
      DatAll tl' items' ((outs 0 (ts.take (i + 1))).map ptD) ∧ ∀ q ∈ tl', ∀ p ∈ news, q.1 ≠ p.1) ?ifpart ?cont (fun _ _ x => x))
    case cont =>
      rintro f s₃ hx2__
      refine elA_2 ?_ hx2__
      clear hx2__
      intro e0__ hy1__
      refine elE_9 hy1__ fun hh tkk gx' m' items' e' tl' sz tsz => elA_10 ?_
      clear hy1__
      intro e1__ hgx' F₇ N₇ hap' hm' hsz hszl hda' hfr'
      subst e0__
      subst e1__
      refine wpAny_execs_cons (wpAny_AugAssign_Name (wpAny_loadName_cell rfl rfl (by rfl) ⟨ob₅, N₇.get (.tail _ (.head _)), hob₅⟩ (nameX_L F₇ hsz ?_)))
      walk1
      refine storeX_C F₇ N₇ (by rfl) (UpdF.tail hap'.dc (UpdF.head (List.forall_mem_cons.mpr ⟨Ne.symm hap'.ci, fun q hq => (hap'.rest q hq).2.1⟩))) hob₅ fun h₈ ob₈ F₈ N₈ hob₈ => ?_
      repeat refine wpAny_execs_nil ?_
      obtain ⟨tb', hob₈'⟩ : ∃ tb', ob₈.data = .cell (some (.int ((txt (ts.take (i + 1))).length : Nat) tb')) := by
        rw [hob₈, htk, txt_app, List.length_append, show txt [ts[i]] = tkT ts[i] by simp [txt], ← hszl]
        exact ⟨_, rfl⟩
      dsimp only [WP2]
      exact (inE_6 h₈ _ m' _ gx' (ts.length - (i + 1)) (inA_6 rfl hgx' F₈ N₈ (by lia) (inE_6 (i + 1) tb' items' e' tl' ob₈ (inA_8 rfl hob₈' hm' (by lia) rfl hda' hap' hfr'))))
    case ifpart =>
    refine wpAny_If (wpAny_isTrue_Compare1 ?_)
    walk1
    refine nameX_C N₆ (by rfl) (.tail _ (.tail _ (.head _))) hot' ?_
    refine nameX_C N₆ (by rfl) (.tail _ (.head _)) hob₅ ?_
    refine item_str (fitsSsize_of (N := 9223372036854775808) (by lia) (by lia) (Int.le_refl _)) (by lia) (by show ((txt (ts.take i)).length : Int) < (a.cps.size : Int); lia) (fun _ => ?_)
    have hchr : ∀ c r, tkT ts[i] = c :: r → Txt.item a ((txt (ts.take i)).length : Nat) = ⟨#[c]⟩ := by
      intro c r e
      refine item_chr ?_
      have : (cs a)[(txt (ts.take i)).length]? = some c := by
        rw [hcs, hdec, htd, e]; simp
      simpa [cs] using this
    refine wpAny_Constant_str (PyProof.Rows.eq_str ?_)
    rw [show Str.ofString "(" = ⟨#[40]⟩ from by decide +kernel]
    cases htki : ts[i] with
    | op =>
      rw [hchr 40 [] (by rw [htki]; rfl), chr_eq]
      refine wpAny_truthy_bool ?_
      simp only [decide_true, if_true]
      refine wpAny_execs_cons ?_
      iterate 2 walk1
      refine nameX_L F₆ (v := .ref P) (by exact hm) ?_
      iterate 2 walk1
      refine PyProof.Rows.spliced_more (PyProof.Rows.Tuple_ ?_)
      refine PyProof.Rows.spliced_more ?_
      iterate 3 walk1
      refine PyProof.Rows.spliced_more ?_
      walk1
      refine nameX_C N₆ (by rfl) (.tail _ (.tail _ (.head _))) hot' ?_
      iterate 3 walk1
      refine nameX_C N₆ (by rfl) (.tail _ (.head _)) hob₅ ?_
      walk1
      refine slice_strN_ns_len (hsz := by show a.cps.size ≤ sizeLine; exact Nat.le_trans hlen (by decide)) (s := ⟨_, _, _, _, _⟩) F₆ N₆ fun h₇ t₇ k₇ F₇ N₇ hl₇ => ?_
      refine PyProof.Rows.spliced_none ⟨X'.keeps F₇.keep, ?_⟩
      have hsl : cs (Txt.slice a none (some ((txt (ts.take i)).length : Nat))) = txt (ts.take i) := by
        rw [slice_ns (by lia), hcs, hdec]; simp
      have hAh := hg.ahead i
      rw [← hsl] at hAh
      refine depth_tell _ _ (par (ts.take i)) hAh (Nat.le_trans hl₇ hlen) _ _ _ _ _ _ _ _ _ _ _ _ _ _ _ _ _ _ B' F₇ X' N₇ T' rfl trivial ?_ ?_ (fun v tl₈ h₈ tk₈ gx₈ F₈ N₈ hgx₈ hv => ?_)
      · show dp + 1 + 4 < recursionLimit
        lia
      · show un + 3 + 32 < cLine
        lia
      obtain ⟨rfl, t₉, rfl⟩ := hv
      dsimp only
      refine PyProof.Rows.spliced_more (wpAny_Constant_str (PyProof.Rows.spliced_none ?_))
      refine newTuple_K F₈ N₈ fun T h₉ F₉ N₉ hT => ?_
      refine PyProof.Rows.spliced_none ?_
      have hTP : T ≠ P := Nat.ne_of_gt (hT _ (.head _))
      have hTb : T ≠ L' + 1 + 1 := Nat.ne_of_gt (hT _ (.tail _ (.head _)))
      have hTt : T ≠ L' + 1 := Nat.ne_of_gt (hT _ (.tail _ (.tail _ (.head _))))
      refine append_K F₉ N₉ (Upd.tail hTP (Upd.head (List.forall_mem_cons.mpr ⟨Ne.symm hap.dc, List.forall_mem_cons.mpr ⟨Ne.symm hap.di, fun q hq => (hap.rest q hq).1⟩⟩))) (fun h₁₀ F₁₀ N₁₀ => ?_) (by
        show items.toArray.size ≤ sizeLine
        rw [List.size_toArray]
        exact hisz)
      refine wpAny_execs_nil ?_
      refine (inA_2 rfl (inE_9 h₁₀ (tk₈ + 1) (gx ++ gx₈) _ (items ++ [.ref T]) (e + 1) ((T, ({ cls := .type "tuple", data := .seq [Value.int (bal (par (ts.take i))) t₉, Value.str (Str.ofString "") tk₈].toArray } : Obj)) :: tl) 1 _ (inA_10 ?_ ?_ F₁₀ ?_ ?_ hm rfl rfl ?_ ?_)))
      · simp only [Array.append_assoc]
      · intro q hq
        rcases Array.mem_append.mp hq with hq | hq
        · exact hgx q hq
        · exact hgx₈ q hq
      · rw [show (items ++ [Value.ref T]).toArray = items.toArray.push (.ref T) by simp]
        refine News_mono N₁₀ fun q hq => ?_
        simp only [List.mem_cons, List.cons_append] at hq ⊢
        rcases hq with h | h | h | h | h
        · exact .inr (.inl h)
        · exact .inr (.inr (.inl h))
        · exact .inr (.inr (.inr (.inl h)))
        · exact .inl h
        · exact .inr (.inr (.inr (.inr h)))
      · refine ⟨hap.dc, hap.di, hap.ci, List.forall_mem_cons.mpr ⟨⟨hTP, hTb, hTt⟩, hap.rest⟩⟩
      · rw [htk, outs_snoc, List.map_append, htki]
        refine DatAll.append (hda.mono fun q hq => .tail _ hq) (.cons ?_ .nil)
        refine .tuple (.head _) (.cons ?_ (.cons ?_ .nil))
        · rw [Int.zero_add]; exact .int _ _
        · exact .str _ _
      · refine List.forall_mem_cons.mpr ⟨fun p hp => Nat.ne_of_gt (hT p (.tail _ (.tail _ (.tail _ (List.mem_append_right _ hp))))), hfr⟩
    | cl =>
      rw [hchr 41 [] (by rw [htki]; rfl), chr_eq]
      refine wpAny_truthy_bool ?_
      simp only [show decide ((41 : Nat) = 40) = false from rfl, Bool.false_eq_true, if_false]
      refine wpAny_execs_cons (wpAny_If (wpAny_isTrue_Compare1 ?_))
      walk1
      refine nameX_C N₆ (by rfl) (.tail _ (.tail _ (.head _))) hot' ?_
      refine nameX_C N₆ (by rfl) (.tail _ (.head _)) hob₅ ?_
      refine item_str (fitsSsize_of (N := 9223372036854775808) (by lia) (by lia) (Int.le_refl _)) (by lia) (by show ((txt (ts.take i)).length : Int) < (a.cps.size : Int); lia) (fun _ => ?_)
      refine wpAny_Constant_str (PyProof.Rows.eq_str ?_)
      rw [show Str.ofString "\"" = ⟨#[34]⟩ from by decide +kernel, hchr 41 [] (by rw [htki]; rfl), chr_eq]
      refine wpAny_truthy_bool ?_
      simp only [show decide ((41 : Nat) = 34) = false from rfl, Bool.false_eq_true, if_false]
      repeat refine wpAny_execs_nil ?_
      refine (inA_2 rfl (inE_9 h₆ _ gx _ items e tl 1 _ (inA_10 rfl hgx F₆ N₆ hap hm rfl rfl ?_ hfr)))
      rw [htk, outs_snoc, List.map_append, htki]
      simpa [out1] using hda
    | run ns =>
      have hmem : Tk.run ns ∈ ts := htki ▸ List.getElem_mem hlt
      obtain ⟨hns0, hnsc⟩ := hg.names ns hmem
      have hfree : ∀ n ∈ ns, 34 ∉ n := fun n hn h34 => (hnsc n hn 34 h34).2.2 rfl
      obtain ⟨n₀, nr, rfl⟩ : ∃ n₀ nr, ns = n₀ :: nr := by
        cases ns with
        | nil => exact absurd rfl hns0
        | cons a b => exact ⟨a, b, rfl⟩
      have htki' : tkT ts[i] = 34 :: (n₀ ++ [34] ++ nr.flatMap quo) := by rw [htki]; simp [tkT, quo]
      rw [hchr 34 _ htki', chr_eq]
      refine wpAny_truthy_bool ?_
      simp only [show decide ((34 : Nat) = 40) = false from rfl, Bool.false_eq_true, if_false]
      refine wpAny_execs_cons (wpAny_If (wpAny_isTrue_Compare1 ?_))
      walk1
      refine nameX_C N₆ (by rfl) (.tail _ (.tail _ (.head _))) hot' ?_
      refine nameX_C N₆ (by rfl) (.tail _ (.head _)) hob₅ ?_
      refine item_str (fitsSsize_of (N := 9223372036854775808) (by lia) (by lia) (Int.le_refl _)) (by lia) (by show ((txt (ts.take i)).length : Int) < (a.cps.size : Int); lia) (fun _ => ?_)
      refine wpAny_Constant_str (PyProof.Rows.eq_str ?_)
      rw [show Str.ofString "\"" = ⟨#[34]⟩ from by decide +kernel, hchr 34 _ htki', chr_eq]
      refine wpAny_truthy_bool ?_
      simp only [decide_true, if_true]
      refine wpAny_execs_cons (wpAny_Assign_Name ?_)
      iterate 3 walk1
      refine PyProof.Rows.spliced_more (wpAny_BinOp (wpAny_Constant_str ?_))
      walk1
      refine nameX_C N₆ (by rfl) (.tail _ (.tail _ (.head _))) hot' ?_
      iterate 2 walk1
      refine nameX_C N₆ (by rfl) (.tail _ (.head _)) hob₅ ?_
      iterate 2 walk1
      refine slice_strN_sn_len (hsz := by show a.cps.size ≤ sizeLine; exact Nat.le_trans hlen (by decide)) (s := ⟨_, _, _, _, _⟩) F₆ N₆ fun h₇ t₇ k₇ F₇ N₇ hl₇ => ?_
      have hsl : cs (Txt.slice a (some ((txt (ts.take i)).length : Nat)) none) = 34 :: (n₀ ++ [34] ++ nr.flatMap quo ++ txt (ts.drop (i + 1))) := by
        rw [slice_sn (by lia), hcs, hdec, List.drop_left, htd, htki']; simp
      refine PyProof.Rows.add_str (hsz := by
        have : 2000 ≤ sizeLine := by decide
        have h1 : (Str.ofString "257 ").length = 4 := by decide +kernel
        have h2 : a.length = a.cps.size := rfl
        lia) fun t₈ k₈ => ?_
      refine PyProof.Rows.spliced_none ⟨X'.keeps F₇.keep, ?_⟩
      have hcs2 : cs (Str.ofString "257 " ++ Txt.slice a (some ((txt (ts.take i)).length : Nat)) none) = [50, 53, 55, 32, 34] ++ (n₀ ++ [34] ++ nr.flatMap quo ++ txt (ts.drop (i + 1))) := by
        rw [cs_append, hsl, show cs (Str.ofString "257 ") = [50, 53, 55, 32] from by decide +kernel]; rfl
      have hsz2 : (Str.ofString "257 " ++ Txt.slice a (some ((txt (ts.take i)).length : Nat)) none).cps.size ≤ 1000 := by
        have h1 : (Str.ofString "257 ").length = 4 := by decide +kernel
        have h2 : a.length = a.cps.size := rfl
        have h3 : (Str.ofString "257 " ++ Txt.slice a (some ((txt (ts.take i)).length : Nat)) none).cps.size = (Str.ofString "257 ").length + (Txt.slice a (some ((txt (ts.take i)).length : Nat)) none).length := strLen_append _ _
        lia
      refine parse_tell _ _ _ hcs2 hsz2 _ _ _ _ _ _ _ _ _ _ _ _ _ _ _ _ _ _ B' F₇ X' N₇ T' rfl trivial ?_ ?_ (fun v tl₈ h₈ tk₈ gx₈ F₈ N₈ hgx₈ hv => ?_)
      · show dp + 1 + 2 < recursionLimit
        lia
      · show un + 3 + 24 < cLine
        lia
      refine elA_2 ?_ hv
      clear hv
      intro e0__ hy3__
      refine elE_2 hy3__ fun rn t₉ => elA_2 ?_
      clear hy3__
      intro e1__ hrn
      subst e0__
      subst e1__
      rw [pq_run nr n₀ _ hfree ?hrest] at hrn
      case hrest =>
        intro r e
        cases e2 : ts.drop (i + 1) with
        | nil => rw [e2] at e; cases e
        | cons tk' r' =>
          have e3 : ts[i + 1]? = some tk' := by
            have := congrArg (·[0]?) e2
            simpa using this
          rw [e2, show txt (tk' :: r') = tkT tk' ++ txt r' by rw [txt, List.flatMap_cons]; rfl] at e
          cases tk' with
          | op => exact absurd (List.cons.inj e).1 (by decide)
          | cl => exact absurd (List.cons.inj e).1 (by decide)
          | run ns' => exact hg.adj i _ ns' (by rw [List.getElem?_eq_getElem hlt, htki]) e3
      refine storeX_L F₈ N₈ fun h₉ F₉ N₉ => ?_
      dsimp only
      refine wpAny_execs_cons (wpAny_Assign_Name (wpAny_BinOp (wpAny_BinOp ?_)))
      iterate 3 walk1
      refine PyProof.Rows.spliced_more (nameX_L F₉ (v := .str rn t₉) rfl (PyProof.Rows.spliced_none ?_))
      have hrl : rn.length = (J34 (n₀ :: nr)).length := by rw [← cs_len, hrn]
      have hrs := run_size nr n₀ hfree
      have hsz3 : (J34 (n₀ :: nr)).length + (J34 (n₀ :: nr)).count 34 + 2 = (tkT ts[i]).length := by rw [hrs, htki]; rfl
      refine PySem.P.len_str (by lia) ?_
      iterate 4 walk1
      refine PyProof.Rows.spliced_more (wpAny_Constant_str (PyProof.Rows.spliced_none ?_))
      refine SC.count ?_
      dsimp only
      rw [count_cnt, cnt_count, show rn.cps.toList = J34 (n₀ :: nr) from hrn]
      walk1
      refine wpAny_Constant_int ?_
      walk1
      have hsz4 : ((rn.length : Nat) : Int) + ((J34 (n₀ :: nr)).count 34 : Nat) + 2 = ((tkT ts[i]).length : Nat) := by lia
      rw [hsz4]
      refine storeX_L F₉ N₉ fun h₁₀ F₁₀ N₁₀ => ?_
      dsimp only
      refine wpAny_execs_cons (wpAny_AugAssign_Name (wpAny_loadName_local rfl rfl F₁₀.ns (v := .ref P) (by exact hm) ?_))
      rw [eval_ListComp]
      refine wpAny_comprehension_free (cl := [(Str.ofString "text", L' + 1), (Str.ofString "begin", L' + 1 + 1)]) rfl (by intro _; rfl) (by rfl) rfl (by decide) ?_
      change wpAny _ _ (eval _ _) _ _ _
      iterate 4 walk1
      refine PyProof.Rows.spliced_more (wpAny_Constant_str (PyProof.Rows.spliced_none ?_))
      refine KSpl.split1 F₁₀ N₁₀ (by rfl) (fun Dn l h₁₁ k₁₁ hl _ F₁₁ N₁₁ hDn => ?_) (by
        have : 2000 ≤ sizeLine := by decide
        show rn.length + 2 ≤ sizeLine
        lia)
      dsimp only
      have hlns : (l.map fun x => cs x.1) = n₀ :: nr := by
        have := split_is rn (n₀ :: nr) (by simp) hfree hrn
        rw [← hl] at this
        simpa [List.map_map, Function.comp_def] using this
      refine wpAny_pyIter_list (N₁₁.isList (.head _)) ?_
      dsimp only
      have F₁₂ := F₁₁.push { cls := .type "list_iterator", data := .fields #[.ref Dn, .int 0 0] }
      have N₁₂ := PyProof.Rows.News.push F₁₁ N₁₁ { cls := .type "list_iterator", data := .fields #[.ref Dn, .int 0 0] }
      have hItn : ∀ q ∈ ((Dn, listOf (strValues l).toArray 0) :: (P, listOf items.toArray e) :: (L' + 1 + 1, ob₅) :: (L' + 1, ot) :: (tl ++ news)), q.1 ≠ h₁₁.objs.size := fun q hq => Nat.ne_of_lt (Heap.lt_size (N₁₁ q hq).1)
      generalize hIt : h₁₁.objs.size = It at *
      have hll : (strValues l).length = nr.length + 1 := by
        have := congrArg List.length hlns
        simpa [strValues] using this
      have hql : (n₀ :: nr).length ≤ (tkT ts[i]).length := by rw [htki]; exact quo_len _
      rw [List.length_cons] at hql
      refine comp_tail (L := L') (It := It) (St := StList Dn) (n := (strValues l).length) (item := fun i _ => (strValues l).getD i .none) (side := [(Dn, listOf (strValues l).toArray 0)])
        F₁₂ N₁₂ hItn (nexts_list rfl rfl rfl) ⟨rfl, rfl⟩ (by
          intro q hq
          rw [List.mem_singleton.mp hq]
          exact .head _) (by lia) (by decide) rfl (fun s' oI' ho hst Q E hq => wpAny_pyIter_listiter ⟨oI', ho, hst⟩ hq)
        (fun j vs tlc => DatAll tlc vs (((n₀ :: nr).take j).map fun n => ptD (bal (par (ts.take i)), n)) ∧ ∀ q ∈ tlc, ∀ p ∈ ((Dn, listOf (strValues l).toArray 0) :: (P, listOf items.toArray e) :: (L' + 1 + 1, ob₅) :: (L' + 1, ot) :: (tl ++ news)), q.1 ≠ p.1) ⟨.nil, by simp⟩ ?cturn ?cdone
      case cturn =>
        intro j vs tlc hc tkc gxc oC oI C D mC tk0 hj hJ Fc Nc hstc hapc hgxc hNs
        have hx4__ : ∃ x tx, (strValues l).getD j .none = .str x tx ∧ (n₀ :: nr)[j]? = some (cs x) := by
          have hj' : j < l.length := by simpa [strValues] using hj
          refine (inE_2 (l[j].1) (l[j].2) (inA_2 ?_ ?_))
          · simp [strValues, List.getD_eq_getElem?_getD, List.getElem?_eq_getElem hj']
          · rw [← hlns, List.getElem?_map, List.getElem?_eq_getElem hj']; rfl
        refine elE_2 hx4__ fun x tx => elA_2 ?_
        clear hx4__
        intro hx hcx
        rw [hx]
        refine wpAny_pure ?_
        have hcb : (L' + 1 + 1, ob₅) ∈ (D, listOf vs.toArray j) :: (C, oC) :: (It, oI) :: (tlc ++ ((Dn, listOf (strValues l).toArray 0) :: (P, listOf items.toArray e) :: (L' + 1 + 1, ob₅) :: (L' + 1, ot) :: (tl ++ news))) :=
          .tail _ (.tail _ (.tail _ (List.mem_append_right _ (.tail _ (.tail _ (.head _))))))
        refine wpAny_assign_Name (store_comp (pre := [(D, listOf vs.toArray j)]) Fc Nc hNs (List.forall_mem_singleton.mpr hapc.dc) (List.forall_mem_cons.mpr ⟨Ne.symm hapc.ci, fun q hq => (hapc.rest q hq).2.1⟩) fun h₂ oC₂ F₂ N₂ hC₂ => ?_)
        have hcb : (L' + 1 + 1, ob₅) ∈ [(D, listOf vs.toArray j)] ++ (C, oC₂) :: (It, oI) :: (tlc ++ ((Dn, listOf (strValues l).toArray 0) :: (P, listOf items.toArray e) :: (L' + 1 + 1, ob₅) :: (L' + 1, ot) :: (tl ++ news))) :=
          .tail _ (.tail _ (.tail _ (List.mem_append_right _ (.tail _ (.tail _ (.head _))))))
        have hct : (L' + 1, ot) ∈ [(D, listOf vs.toArray j)] ++ (C, oC₂) :: (It, oI) :: (tlc ++ ((Dn, listOf (strValues l).toArray 0) :: (P, listOf items.toArray e) :: (L' + 1 + 1, ob₅) :: (L' + 1, ot) :: (tl ++ news))) :=
          .tail _ (.tail _ (.tail _ (List.mem_append_right _ (.tail _ (.tail _ (.tail _ (.head _)))))))
        dsimp only
        refine PyProof.Rows.Tuple_ (PyProof.Rows.spliced_more ?_)
        refine PyProof.Rows.Call_ ?_
        refine nameG_K F₂ X' (topRead_of T') (by rfl) ?_ rfl rfl (by rfl) (by decide)
        walk1
        refine PyProof.Rows.spliced_more ?_
        refine PyProof.Rows.Subscript_ ?_
        refine wpAny_Name (wpAny_loadName_cell rfl (by rfl) (by rfl) ⟨ot, N₂.get hct, hot'⟩ ?_) (by decide)
        iterate 3 walk1
        refine wpAny_Name (wpAny_loadName_cell rfl (by rfl) (by rfl) ⟨ob₅, N₂.get hcb, hob₅⟩ ?_) (by decide)
        walk1
        refine slice_strN_ns_len (hsz := by show a.cps.size ≤ sizeLine; exact Nat.le_trans hlen (by decide)) (s := ⟨_, _, _, _, _⟩) F₂ N₂ fun h₃ t₃ k₃ F₃ N₃ hl₃ => ?_
        refine PyProof.Rows.spliced_none ⟨X'.keeps F₃.keep, ?_⟩
        have hsl' : cs (Txt.slice a none (some ((txt (ts.take i)).length : Nat))) = txt (ts.take i) := by
          rw [slice_ns (by lia), hcs, hdec]; simp
        have hAh := hg.ahead i
        rw [← hsl'] at hAh
        dsimp only
        refine depth_tell _ _ (par (ts.take i)) hAh (Nat.le_trans hl₃ hlen) _ _ _ _ _ _ _ _ _ _ _ _ _ _ _ _ _ _ B' F₃ X' N₃ T' rfl trivial ?_ ?_ (fun v tl₄ h₄ tk₄ gx₄ F₄ N₄ hgx₄ hv => ?_)
        · show dp + 1 + 4 < recursionLimit
          lia
        · show un + 3 + 32 < cLine
          lia
        obtain ⟨rfl, t₄, rfl⟩ := hv
        dsimp only
        refine PyProof.Rows.spliced_more (load_comp (N₄ (C, oC₂) (.tail _ (.head _))).1 hC₂ (if_pos rfl) (PyProof.Rows.spliced_none ?_))
        refine newTuple_K F₄ N₄ fun T h₅ F₅ N₅ hT => ?_
        have hTa : ∀ q ∈ [(D, listOf vs.toArray j)] ++ (C, oC₂) :: (It, oI) :: (tlc ++ ((Dn, listOf (strValues l).toArray 0) :: (P, listOf items.toArray e) :: (L' + 1 + 1, ob₅) :: (L' + 1, ot) :: (tl ++ news))), T ≠ q.1 := fun q hq => Nat.ne_of_gt (hT q (by simpa using hq))
        refine (inE_6 h₅ tk₄ (gxc ++ gx₄) oC₂ _ ((T, ({ cls := .type "tuple", data := .seq [Value.int (bal (par (ts.take i))) t₄, Value.str x tx].toArray } : Obj)) :: tlc) (inA_8 ?_ ?_ F₅ ?_ ?_ hC₂ ?_ ?_))
        · simp only [Array.append_assoc]
        · intro q hq
          rcases Array.mem_append.mp hq with hq | hq
          · exact hgxc q hq
          · exact hgx₄ q hq
        · refine News_mono N₅ fun q hq => ?_
          simp only [List.mem_cons, List.cons_append, List.nil_append] at hq ⊢
          rcases hq with h | h | h | h | h
          · exact .inr (.inl h)
          · exact .inr (.inr (.inl h))
          · exact .inr (.inr (.inr (.inl h)))
          · exact .inl h
          · exact .inr (.inr (.inr (.inr h)))
        · refine ⟨hapc.dc, hapc.di, hapc.ci, List.forall_mem_cons.mpr ⟨⟨hTa _ (.head _), hTa _ (.tail _ (.head _)), hTa _ (.tail _ (.tail _ (.head _)))⟩, hapc.rest⟩⟩
        · rw [List.take_add_one, hcx, Option.toList_some, List.map_append]
          refine DatAll.append (hJ.1.mono fun q hq => .tail _ hq) (.cons ?_ .nil)
          refine .tuple (.head _) (.cons (.int _ _) (.cons ?_ .nil))
          rw [show (⟨(cs x).toArray⟩ : Str) = x from str_ext rfl]
          exact .str _ _
        · refine List.forall_mem_cons.mpr ⟨fun p hp => hTa p (.tail _ (.tail _ (.tail _ (List.mem_append_right _ hp)))), hJ.2⟩
      case cdone =>
        intro vs tlc hc tkc gxc D hJ Fc Nc hDne hgxc C hC0 hCL hCns hCne
        obtain ⟨mC, hmC⟩ := hCns
        refine ⟨mC, hmC, fun h₂ hs₂ => ?_⟩
        replace hs₂ : Heap.SameBut C hc h₂ := hs₂
        have F₂ := Fc.change hs₂ hCL hC0
        have N₂ := News_but Nc hs₂ hCne
        dsimp only
        have hrest : ∀ q ∈ (L' + 1 + 1, ob₅) :: (L' + 1, ot) :: (tl ++ news), q.1 ≠ P := List.forall_mem_cons.mpr ⟨Ne.symm hap.dc, List.forall_mem_cons.mpr ⟨Ne.symm hap.di, fun q hq => (hap.rest q hq).1⟩⟩
        have N₂' : News g L' h₂ (((D, listOf vs.toArray (strValues l).length) :: tlc ++ [(Dn, listOf (strValues l).toArray 0)]) ++ (P, listOf items.toArray e) :: (L' + 1 + 1, ob₅) :: (L' + 1, ot) :: (tl ++ news)) := News_mono N₂ fun q hq => by simpa using hq
        have hvl := hJ.1.length
        rw [List.length_map] at hvl
        have hvl2 : ((n₀ :: nr).take (strValues l).length).length ≤ (n₀ :: nr).length := by rw [List.length_take]; exact Nat.min_le_right _ _
        refine iadd_lists F₂ N₂' ?_ hrest (.head _) (fun h₃ e₃ F₃ N₃ => ?_) ?_
        · intro q hq
          simp only [List.cons_append, List.mem_cons, List.mem_append, List.not_mem_nil, or_false] at hq
          rcases hq with rfl | hq | rfl
          · exact Ne.symm (hDne _ (List.mem_append_right _ (.tail _ (.head _))))
          · exact hJ.2 q hq _ (.tail _ (.head _))
          · have := hDn _ (.head _)
            exact Nat.ne_of_gt this
        · dsimp only
          refine storeX_L F₃ N₃ fun h₄ F₄ N₄ => ?_
          refine wpAny_execs_nil ?_
          refine wpAny_execs_nil ?_
          refine (inA_2 rfl (inE_9 h₄ (tkc + 1) (gx ++ gx₈ ++ gxc) _ (items ++ vs) e₃ (tlc ++ tl) ((tkT ts[i]).length) _ (inA_10 ?_ ?_ F₄ ?_ ?_ (if_pos rfl) rfl ?_ ?_ ?_)))
          · simp only [Array.append_assoc]
          · intro q hq
            rcases Array.mem_append.mp hq with hq | hq
            · rcases Array.mem_append.mp hq with hq | hq
              · exact hgx q hq
              · exact hgx₈ q hq
            · exact hgxc q hq
          · refine News_mono N₄ fun q hq => ?_
            simp only [List.mem_cons, List.cons_append, List.nil_append, List.mem_append, List.append_assoc] at hq ⊢
            rcases hq with h | h | h | h | h | h
            · exact .inr (.inr (.inr (.inl h)))
            · exact .inr (.inr (.inr (.inr (.inl h))))
            · exact .inr (.inr (.inr (.inr (.inr (.inl h)))))
            · exact .inr (.inl h)
            · exact .inr (.inr (.inr (.inr (.inr (.inr (.inl h))))))
            · exact .inr (.inr (.inr (.inr (.inr (.inr (.inr h))))))
          · refine ⟨hap.dc, hap.di, hap.ci, fun q hq => ?_⟩
            rw [List.append_assoc] at hq
            rcases List.mem_append.mp hq with hq | hq
            · exact ⟨hJ.2 q hq _ (.tail _ (.head _)), hJ.2 q hq _ (.tail _ (.tail _ (.head _))), hJ.2 q hq _ (.tail _ (.tail _ (.tail _ (.head _))))⟩
            · exact hap.rest q hq
          · rw [htki]
          · rw [htk, outs_snoc, List.map_append, htki, Int.zero_add]
            refine DatAll.append (hda.mono fun q hq => List.mem_append_right _ hq) ?_
            have := hJ.1
            rw [List.take_of_length_le (l := n₀ :: nr) (by rw [hll]; simp)] at this
            rw [show (out1 (bal (par (ts.take i))) (.run (n₀ :: nr))).map ptD = (n₀ :: nr).map fun n => ptD (bal (par (ts.take i)), n) by simp [out1]]
            exact this.mono fun q hq => List.mem_append_left _ hq
          · intro q hq p hp
            rcases List.mem_append.mp hq with hq | hq
            · exact hJ.2 q hq p (.tail _ (.tail _ (.tail _ (.tail _ (List.mem_append_right _ hp)))))
            · exact hfr q hq p hp
        · rw [List.length_cons] at hvl2
          lia
  · have hil : i = ts.length := by lia
    subst hil
    rw [List.take_length] at hob₅ hda
    have e0 : decide (((txt (ts.take ts.length)).length : Int) < (a.length : Int)) = false := by
      have h2 : (a.length : Nat) = a.cps.size := rfl
      rw [List.take_length]
      exact decide_eq_false (by lia)
    rw [e0]
    simp only [Bool.false_eq_true, if_false]
    refine wpAny_execs_cons (wpAny_Return_some (nameX_L F₅ (v := .ref P) (by exact hm) ?_))
    have N₅' : News g L' h (((P, listOf items.toArray e) :: tl) ++ news) := News_mono N₅ fun q hq => by
      simp only [List.mem_cons, List.cons_append] at hq ⊢
      rcases hq with h | h
      · exact .inl h
      · exact .inr (.inr (.inr h))
    refine hQ₀ _ _ ?_
    refine leaveK_ F₅ N₅' (fun F₇ N₇ => ?_)
    refine hret (.ref P) _ _ _ gx F₇ N₇ hgx (inE_4 P items e tl (inA_5 rfl rfl hda ?_ (fun q hq => (hap.rest q (List.mem_append_left _ hq)).1)))
    refine List.forall_mem_cons.mpr ⟨fun p hp => Ne.symm (hap.rest p (List.mem_append_right _ hp)).1, hfr⟩
end
end Mine
end

section
open PySem PySem.W PyProof.Rows PySem.Calls
set_option Elab.async false
set_option maxRecDepth 100000
set_option maxHeartbeats 2000000
namespace Mine

def LQ (hb : Heap) (L : Addr) (s : Shared) (It : Addr) (oI : Obj) (J : (Str → Option Value) → List (Addr × Obj) → Prop) (Q : Flow → Shared → Prop) (f : Flow) (s₂ : Shared) : Prop :=
  match f with
  | .next | .cont => ∃ h' tk m₂ news₂ gx, s₂ = { s with heap := h', toks := tk, gens := s.gens ++ gx } ∧ (∀ q ∈ gx, q = GenState.finished) ∧ Fr hb L h' m₂ ∧ News hb L h' ((It, oI) :: news₂) ∧ (∀ q ∈ news₂, q.1 ≠ It) ∧ J m₂ news₂
  | .brk => Q .next s₂
  | .ret v => Q (.ret v) s₂

section
variable {prog : Program} {w : World} {A : Around} {E : Value → Shared → Prop} {s : Shared} {env : Env}

theorem for_gx {hb : Heap} {L : Addr} {m : Str → Option Value} {news : List (Addr × Obj)} {It : Addr} {St : Nat → Obj → Prop} {oI : Obj} {n : Nat} {item : Nat → Tok → Value} {side : List (Addr × Obj)} {target : Expr} {body : List Stmt} {Q : Flow → Shared → Prop}
    {Err : Value → Shared → Prop}
    (F : Fr hb L s.heap m) (N : News hb L s.heap ((It, oI) :: news)) (hne : ∀ q ∈ news, q.1 ≠ It) (nx : Nexts prog w A It St n item side) (h0 : St 0 oI)
    (J : Nat → (Str → Option Value) → List (Addr × Obj) → Prop) (hJ : J 0 m news) (hside : ∀ i m₁ news₁, J i m₁ news₁ → ∀ p ∈ side, p ∈ news₁)
    (turn : ∀ i m₁ news₁ h oI tk gx tk0, i < n → J i m₁ news₁ → Fr hb L h m₁ → News hb L h ((It, oI) :: news₁) → St (i + 1) oI → (∀ q ∈ news₁, q.1 ≠ It) → (∀ q ∈ gx, q = GenState.finished) →
      wpAny (model prog w) A (letOwnedTupleGo target (.ref It) (item i tk0)) (fun _ s₁ => wpAny (model prog w) A (assign target env (item i tk0)) (fun _ s₂ => wpAny (model prog w) A (execs body env) (LQ hb L s It oI (J (i + 1)) Q)
        (fun _ _ => False) s₂) (fun _ _ => False) s₁) (fun _ _ => False) { s with heap := h, toks := tk, gens := s.gens ++ gx })
    (done : ∀ m₁ news₁ h tk gx, J n m₁ news₁ → Fr hb L h m₁ → News hb L h news₁ → (∀ q ∈ gx, q = GenState.finished) → Q .next { s with heap := h, toks := tk, gens := s.gens ++ gx }) :
    codeAny (model prog w) A (.forLoop target (.ref It) body [] env) (fun r s' => match r with | .ok f => Q f s' | .error e => Err e s') s := by
  refine codeAny_forLoop_any
    (fun k s' => ∃ H tk gx m' news' oI i, s' = { s with heap := H, toks := tk, gens := s.gens ++ gx } ∧ (∀ q ∈ gx, q = GenState.finished) ∧ Fr hb L H m' ∧ News hb L H ((It, oI) :: news') ∧ St i oI ∧ (∀ q ∈ news', q.1 ≠ It) ∧ J i m' news' ∧ i ≤ n ∧ k = n + 1 - i)
    ?_ (n + 1) (inE_7 (s.heap) (s.toks) (#[]) m news oI 0 (inA_9 (by simp) (by simp) F N h0 hne hJ (Nat.zero_le _) rfl))
  rintro k s' hx0__
  refine elE_7 hx0__ fun H tk gx m' news' oI i => elA_9 ?_
  clear hx0__
  intro e0__ hgx F' N' hst hne' hJ' hi e1__
  subst e0__
  subst e1__
  have hIt := N' (It, oI) (.head _)
  have hsd : ∀ p ∈ side, H.get? p.1 = some p.2 := fun p hp => (N' p (.tail _ (hside i m' news' hJ' p hp))).1
  by_cases hlt : i < n
  · refine nx.next i oI _ _ _ hlt hIt.1 hst hsd fun h₁ oI' tk₁ ho₁ hst₁ hs₁ => ?_
    dsimp only at hs₁ ⊢
    have F₁ : Fr hb L h₁ m' := F'.change hs₁ hIt.2.1 hIt.2.2
    have N₁ : News hb L h₁ ((It, oI') :: news') := fun q hq => by
      rcases List.mem_cons.mp hq with rfl | hq
      · exact ⟨ho₁, hIt.2⟩
      · have x := N' q (.tail _ hq)
        exact ⟨(hs₁.2 _ (hne' q hq)).trans x.1, x.2⟩
    refine wpAny_mono (turn i m' news' h₁ oI' tk₁ gx tk hlt hJ' F₁ N₁ hst₁ hne' hgx) (fun _ s₂ h₂ => ?_) (fun _ _ x => x.elim)
    refine wpAny_mono h₂ (fun _ s₃ h₃ => ?_) (fun _ _ x => x.elim)
    refine wpAny_mono h₃ (fun f s₄ hp => ?_) (fun _ _ x => x.elim)
    cases f with
    | next =>
      refine elE_5 hp fun h₃ tk₃ m₃ news₃ gx₃ => elA_6 ?_
      clear hp
      intro e0__ hgx₃ F₃ N₃ hne₃ hJ₃
      subst e0__
      exact (inE_1 (n + 1 - (i + 1)) (inA_2 (by lia) (inE_7 h₃ tk₃ gx₃ m₃ news₃ oI' (i + 1) (inA_9 rfl hgx₃ F₃ N₃ hst₁ hne₃ hJ₃ (by lia) rfl))))
    | cont =>
      refine elE_5 hp fun h₃ tk₃ m₃ news₃ gx₃ => elA_6 ?_
      clear hp
      intro e0__ hgx₃ F₃ N₃ hne₃ hJ₃
      subst e0__
      exact (inE_1 (n + 1 - (i + 1)) (inA_2 (by lia) (inE_7 h₃ tk₃ gx₃ m₃ news₃ oI' (i + 1) (inA_9 rfl hgx₃ F₃ N₃ hst₁ hne₃ hJ₃ (by lia) rfl))))
    | brk => exact hp
    | ret v => exact hp
  · obtain rfl : i = n := by lia
    refine nx.stop oI _ _ _ hIt.1 hst hsd fun h₁ hk₁ => ?_
    dsimp only at hk₁ ⊢
    refine wpAny_execs_nil ?_
    exact done m' news' h₁ tk gx hJ' (Fr_but F' hk₁ hIt.2.1 hIt.2.2) (fun q hq => ⟨hk₁ _ _ (hne' q hq) (N' q (.tail _ hq)).1, (N' q (.tail _ hq)).2⟩) hgx
end
end Mine
end

section
open PySem PySem.W PyProof.Rows PySem.Calls
set_option Elab.async false
set_option maxRecDepth 100000
set_option maxHeartbeats 2000000
namespace Mine

theorem fill10 : (fun (_ : OpenLaw) (_ : Params → Frag) => True) PySem.Challenge.rw_wa0010_01 hd.heap_39 := by
  k_fill
  exact trivial

def rowD (row : List (List Nat)) : Dat := .list (row.map fun n => .str ⟨n.toArray⟩)
def TT : List (List (List Nat)) → List Nat
  | [] => []
  | row :: rest => 40 :: (row.flatMap quo ++ TT rest ++ [41])

theorem quo_mem {n : List Nat} {ns : List (List Nat)} (h : n ∈ ns) : n.length ≤ (ns.flatMap quo).length := by
  induction ns with
  | nil => cases h
  | cons m ns ih =>
    simp only [List.flatMap_cons, List.length_append]
    rcases List.mem_cons.mp h with rfl | h
    · simp only [quo, List.length_append, List.length_cons]; lia
    · have := ih h; lia

theorem strs_of_dat {news : List (Addr × Obj)} : ∀ {row : List (List Nat)} {vs : List Value}, DatAll news vs (row.map fun n => .str ⟨n.toArray⟩) → ∃ l : List (Str × Tok), vs = strValues l ∧ l.map (fun x => cs x.1) = row := by
  intro row
  induction row with
  | nil => intro vs h; cases h; exact ⟨[], rfl, rfl⟩
  | cons n row ih =>
    intro vs h
    cases h with
    | cons h r =>
      cases h with
      | str x t =>
        obtain ⟨l, rfl, hl⟩ := ih r
        exact ⟨(⟨n.toArray⟩, t) :: l, rfl, by rw [List.map_cons, hl]⟩

section
variable {prog : Program} {w : World} {p : Program} {loose : List Str} {mean : ExcName → Option Value} {mg mb : Str → Option Value}

theorem text_tell (G : Addr) (rows : List (List (List Nat))) (hlen : (TT rows).length ≤ 400) (hrl : rows.length ≤ 100) :
    Tell prog w p loose mean mg mb 79 [.ref G] 1 8 (fun _ news => DatIn news (.ref G) (.list (rows.map rowD))) fun tl news v => tl = [] ∧ ∃ x t, v = .str x t ∧ cs x = TT rows := by
  intro dp un gd cn cs' ca ccd cl outer A₀ base h₀ L m s news Q E B F X N T hk hpre hd hu hret
  refine wpAny_call (code_def (binds := [(Str.ofString "legs", Value.ref G)]) B F X N T rfl rfl hk (by rfl : (Mine.hd.heap_39 w.params).lookup 79 = some ⟨_, _, .func (fnOf _ _ _ _ _ _ _ _ _ _ _ _), _⟩) (by rfl) ?_ (BindsTo.of_eq rfl) (locs rfl) (fun g L' h₁ FG F' N' B' X' T' => ?_) rfl rfl rfl (by decide))
  · show dp < recursionLimit
    lia
  refine abs_QE fun Q₀ E₀ hQ₀ => ?_
  refine wpAny_execs_cons (wpAny_Assign_Name (wpAny_Constant_str (PyProof.Rows.stN F' N' fun h₂ F₂ N₂ => ?_)))
  dsimp only
  refine wpAny_execs_cons (wpAny_For ?_)
  have hx0__ : ∃ vs e, (G, listOf vs e) ∈ news ∧ DatAll news vs.toList (rows.map rowD) := by
    cases hpre with
    | list hm hd => exact (inE_2 _ _ (inA_2 hm (by simpa using hd)))
  refine elE_2 hx0__ fun vs e => elA_2 ?_
  clear hx0__
  intro hG hvs
  walk1
  refine ld F₂ (v := .ref G) rfl ?_
  iterate 4 walk1
  iterate 3 walk1
  have hvl : vs.size = rows.length := by
    have := hvs.length
    simpa using this
  refine' kmk_slice3_lit (its := vs) (lo := none) (hi := none) (st := some (-1)) (zs := vs.toList.reverse) (s := ⟨_, _, _, _, _⟩) F₂ N₂ (N₂.isList hG) .none .none ?k ?o ?e ?_ ?s ?t ?z
  case k => exact IsPart.int _ _
  case o => decide
  case e => rw [krv_pick]
  case s => with_unfolding_all rfl
  case t => intro _; with_unfolding_all rfl
  case z => rw [hvl]; exact Nat.le_trans hrl (by decide)
  intro R h₃ F₃ N₃ hR
  dsimp only
  refine wpAny_pyIter_list (N₃.isList (.head _)) ?_
  dsimp only
  have F₄ := F₃.push { cls := .type "list_iterator", data := .fields #[.ref R, .int 0 0] }
  have N₄ := PyProof.Rows.News.push F₃ N₃ { cls := .type "list_iterator", data := .fields #[.ref R, .int 0 0] }
  have hItn : ∀ q ∈ ((R, listOf vs.toList.reverse.toArray 0) :: news), q.1 ≠ h₃.objs.size := fun q hq => Nat.ne_of_lt (Heap.lt_size (N₃ q hq).1)
  generalize hIt : h₃.objs.size = It at *
  have hll : vs.toList.reverse.length = rows.length := by simp [hvl]
  refine for_gx (L := L') (It := It) (St := StList R) (n := vs.toList.reverse.length) (item := fun i _ => vs.toList.reverse.getD i .none) (side := [(R, listOf vs.toList.reverse.toArray 0)])
    F₄ N₄ hItn (nexts_list rfl rfl rfl) ⟨rfl, rfl⟩
    (fun i m' news' => ∃ x tx, m' (Str.ofString "text") = some (.str x tx) ∧ cs x = TT (rows.drop (rows.length - i)) ∧ news' = (R, listOf vs.toList.reverse.toArray 0) :: news) (inE_2 _ _ (inA_3 rfl ?_ rfl)) (by
      rintro i m₁ news₁ hx1__
      refine elE_2 hx1__ fun x tx => elA_3 ?_
      clear hx1__
      intro _ _ e0__
      subst e0__
      rintro q hq
      rw [List.mem_singleton.mp hq]
      exact .head _) ?turn ?done
  · rw [Nat.sub_zero, List.drop_length]; exact cs_empty
  case done =>
    rintro m₁ news₁ h tk gx hx2__
    refine elE_2 hx2__ fun x tx => elA_3 ?_
    clear hx2__
    intro hm hx e0__
    subst e0__
    rintro F₅ N₅ hgx
    rw [Nat.sub_eq_zero_of_le (by lia), List.drop_zero] at hx
    refine wpAny_execs_cons (wpAny_Return_some (ld F₅ (v := .str x tx) hm ?_))
    have N₅' : News g L' h ([] ++ news) := News_mono N₅ fun q hq => .tail _ hq
    refine hQ₀ _ _ ?_
    refine leaveK_ F₅ N₅' (fun F₇ N₇ => ?_)
    exact hret (.str x tx) _ _ _ gx F₇ N₇ hgx (inA_2 rfl (inE_2 x tx (inA_2 rfl hx)))
  case turn =>
    rintro i m₁ news₁ h oI tk gx tk0 hi hx3__
    refine elE_2 hx3__ fun x tx => elA_3 ?_
    clear hx3__
    intro hm hx e0__
    subst e0__
    rintro F₅ N₅ hst hne hgx
    have hir : i < rows.length := by lia
    have hk : rows.length - 1 - i < (rows.map rowD).length := by rw [List.length_map]; lia
    obtain ⟨v, hv, hdv⟩ := hvs.get hk
    have hget : vs.toList.reverse.getD i .none = v := by
      rw [List.getD_eq_getElem?_getD, List.getElem?_reverse (by simp; lia)]
      simp only [Array.length_toList]
      rw [hvl, hv]; rfl
    rw [hget]
    have hdrop : rows.drop (rows.length - (i + 1)) = rows[rows.length - 1 - i] :: rows.drop (rows.length - i) := by
      have : rows.length - (i + 1) = rows.length - 1 - i := by lia
      rw [this, List.drop_eq_getElem_cons (by lia)]
      congr 2
      lia
    have hTT : (TT (rows.drop (rows.length - (i + 1)))).length ≤ 400 := by
      have key : ∀ (rs : List (List (List Nat))) (k : Nat), (TT (rs.drop k)).length ≤ (TT rs).length := by
        intro rs
        induction rs with
        | nil => intro k; simp [TT]
        | cons r rs ih =>
          intro k
          cases k with
          | zero => exact Nat.le_refl _
          | succ k =>
            rw [List.drop_succ_cons]
            refine Nat.le_trans (ih k) ?_
            simp only [TT, List.length_cons, List.length_append]
            lia
      exact Nat.le_trans (key _ _) hlen
    rw [hdrop, TT] at hTT
    rw [List.getElem_map] at hdv
    generalize hrow : rows[rows.length - 1 - i] = row at *
    have hx4__ : ∃ r nvs er, v = .ref r ∧ (r, listOf (nvs : List Value).toArray er) ∈ news ∧ DatAll news nvs (row.map fun n => .str ⟨n.toArray⟩) := by
      cases hdv with
      | list hm hd => exact (inE_3 _ _ _ (inA_3 rfl hm hd))
    refine elE_3 hx4__ fun r nvs er => elA_3 ?_
    clear hx4__
    intro e0__ hr hnv
    subst e0__
    obtain ⟨l, rfl, hl⟩ := strs_of_dat hnv
    refine wpAny_pure ?_
    refine wpAny_assign_Name (PyProof.Rows.stN F₅ N₅ fun h₆ F₆ N₆ => ?_)
    dsimp only
    have F₇ := Fr_at F₆ (Str.ofString "text") (.str x tx) hm
    refine wpAny_execs_cons (wpAny_Assign_Name (wpAny_BinOp (wpAny_BinOp (wpAny_BinOp (wpAny_Constant_str ?_)))))
    iterate 4 walk1
    refine PyProof.Rows.spliced_more ?_
    rw [eval_ListComp]
    refine wpAny_comprehension_free (cl := []) rfl (by intro _; rfl) (by rfl) rfl (by decide) ?_
    change wpAny _ _ (eval _ _) _ _ _
    refine ld F₇ (v := .ref r) rfl ?_
    refine wpAny_pyIter_list (N₆.isList (.tail _ (.tail _ hr))) ?_
    dsimp only
    have F₈ := F₇.push { cls := .type "list_iterator", data := .fields #[.ref r, .int 0 0] }
    have N₈ := PyProof.Rows.News.push F₇ N₆ { cls := .type "list_iterator", data := .fields #[.ref r, .int 0 0] }
    have hIt2 : ∀ q ∈ ((It, oI) :: (R, listOf vs.toList.reverse.toArray 0) :: news), q.1 ≠ h₆.objs.size := fun q hq => Nat.ne_of_lt (Heap.lt_size (N₆ q hq).1)
    generalize hIt2e : h₆.objs.size = I2 at *
    have hlen2 : (strValues l).length = row.length := by rw [← hl]; simp [strValues]
    have hrowle : row.length ≤ 400 := by
      have := quo_len row
      simp only [List.length_cons, List.length_append] at hTT
      lia
    refine comp_tail (L := L') (It := I2) (St := StList r) (n := (strValues l).length) (item := fun i _ => (strValues l).getD i .none) (side := [(r, listOf (strValues l).toArray er)])
      F₈ N₈ hIt2 (nexts_list rfl rfl rfl) ⟨rfl, rfl⟩ (by
        intro q hq
        rw [List.mem_singleton.mp hq]
        exact .tail _ (.tail _ hr)) (by lia) (by decide) rfl (fun s' oI' ho hst Q E hq => wpAny_pyIter_listiter ⟨oI', ho, hst⟩ hq)
      (fun j ws tlc => tlc = [] ∧ ∃ lw : List (Str × Tok), ws = strValues lw ∧ (lw.map fun x => cs x.1) = (row.take j).map quo) (inA_2 rfl (inE_1 ([]) (inA_2 rfl rfl))) ?cturn ?cdone
    case cturn =>
      rintro j ws tlc hc tkc gxc oC oI' C D mC tk0 hj hx5__
      refine elA_2 ?_ hx5__
      clear hx5__
      intro e0__ hy1__
      refine elE_1 hy1__ fun lw => elA_2 ?_
      clear hy1__
      intro e1__ hlw
      subst e0__
      subst e1__
      rintro Fc Nc hstc hapc hgxc hNs
      have hx6__ : ∃ y ty, (strValues l).getD j .none = .str y ty ∧ row[j]? = some (cs y) := by
        have hj' : j < l.length := by simpa [strValues] using hj
        refine (inE_2 (l[j].1) (l[j].2) (inA_2 ?_ ?_))
        · simp [strValues, List.getD_eq_getElem?_getD, List.getElem?_eq_getElem hj']
        · rw [← hl, List.getElem?_map, List.getElem?_eq_getElem hj']; rfl
      refine elE_2 hx6__ fun y ty => elA_2 ?_
      clear hx6__
      intro hy hcy
      rw [hy]
      refine wpAny_pure ?_
      refine wpAny_assign_Name (store_comp (pre := [(D, listOf (strValues lw).toArray j)]) Fc Nc hNs (List.forall_mem_singleton.mpr hapc.dc) (List.forall_mem_cons.mpr ⟨Ne.symm hapc.ci, fun q hq => (hapc.rest q hq).2.1⟩) fun h₂ oC₂ F₉ N₉ hC₂ => ?_)
      dsimp only
      have hyl : y.length ≤ 400 := by
        have h1 := quo_mem (List.mem_of_getElem? hcy)
        rw [cs_len] at h1
        simp only [List.length_cons, List.length_append] at hTT
        lia
      refine wpAny_BinOp (wpAny_BinOp (wpAny_Constant_str (load_comp (N₉ (C, oC₂) (.tail _ (.head _))).1 hC₂ (if_pos rfl) (PyProof.Rows.add_str (hsz := ?hz1) fun t₁ k₁ => wpAny_Constant_str (PyProof.Rows.add_str (hsz := ?hz2) fun t₂ k₂ => ?_)))))
      case hz1 =>
        have : 2000 ≤ sizeLine := by decide
        have h1 : (Str.ofString "\"").length = 1 := by decide +kernel
        lia
      case hz2 =>
        have : 2000 ≤ sizeLine := by decide
        have h1 : (Str.ofString "\"").length = 1 := by decide +kernel
        rw [strLen_append]
        lia
      dsimp only
      refine (inE_6 h₂ k₂ gxc oC₂ _ ([]) (inA_8 rfl hgxc F₉ N₉ hapc hC₂ rfl (inE_1 (lw ++ [(Str.ofString "\"" ++ y ++ Str.ofString "\"", t₂)]) (inA_2 ?_ ?_))))
      · simp [strValues]
      · rw [List.map_append, hlw, List.take_add_one, hcy, Option.toList_some, List.map_append]
        congr 1
        rw [List.map_singleton, List.map_singleton, cs_append, cs_append]
        have e1 : cs (Str.ofString "\"") = [34] := by decide +kernel
        rw [e1]; rfl
    case cdone =>
      rintro ws tlc hc tkc gxc D hx7__
      refine elA_2 ?_ hx7__
      clear hx7__
      intro e0__ hy2__
      refine elE_1 hy2__ fun lw => elA_2 ?_
      clear hy2__
      intro e1__ hlw
      subst e0__
      subst e1__
      rintro Fc Nc hDne hgxc C hC0 hCL hCns hCne
      obtain ⟨mC, hmC⟩ := hCns
      refine ⟨mC, hmC, fun h₂ hs₂ => ?_⟩
      replace hs₂ : Heap.SameBut C hc h₂ := hs₂
      have F₂ := Fc.change hs₂ hCL hC0
      have N₂ := News_but Nc hs₂ hCne
      dsimp only
      refine PyProof.Rows.spliced_none ?_
      have hall : row.take (strValues l).length = row := List.take_of_length_le (by lia)
      rw [hall] at hlw
      have hjl : (lw.map fun x => cs x.1).flatten = row.flatMap quo := by rw [hlw, List.flatMap]
      refine SC.join (l := lw) (N₂.isList (.head _)) rfl (joinOk_nil ?_) fun t' k => ?_
      · have h1 : ((lw.map (·.1)).map (·.length)).sum = ((lw.map fun x => cs x.1).flatten).length := by
          rw [List.length_flatten, List.map_map, List.map_map]
          congr 1
        have h2 : lw.length = row.length := by
          have := congrArg List.length hlw
          simpa using this
        rw [h1, hjl, List.length_map, h2]
        simp only [List.length_cons, List.length_append] at hTT
        lia
      dsimp only
      have hjc : cs (Txt.join (Str.ofString "") (lw.map (·.1))) = row.flatMap quo := by
        rw [join_nil, List.map_map, ← hjl]; rfl
      have hj1 : (Txt.join (Str.ofString "") (lw.map (·.1))).length = (row.flatMap quo).length := by rw [← cs_len, hjc]
      have hx1 : x.length = (TT (rows.drop (rows.length - i))).length := by rw [← cs_len, hx]
      simp only [List.length_cons, List.length_append] at hTT
      have hsz0 : 2000 ≤ sizeLine := by decide
      have ho1 : (Str.ofString "(").length = 1 := by decide +kernel
      have hc1 : (Str.ofString ")").length = 1 := by decide +kernel
      refine PyProof.Rows.add_str (hsz := by lia) fun t₁ k₁ => ld F₂ (v := .str x tx) rfl (PyProof.Rows.add_str (hsz := by rw [strLen_append]; lia) fun t₂ k₂ => wpAny_Constant_str (PyProof.Rows.add_str (hsz := by rw [strLen_append, strLen_append]; lia) fun t₃ k₃ => ?_))
      dsimp only
      refine PyProof.Rows.stN F₂ N₂ fun h₃' F₃' N₃' => ?_
      repeat refine wpAny_execs_nil ?_
      have N₃'' : News g L' h₃' ((It, oI) :: (R, listOf vs.toList.reverse.toArray 0) :: news) := News_mono N₃' fun q hq => .tail _ hq
      dsimp only [LQ]
      refine (inE_5 h₃' (k₃ + 1) _ ((R, listOf vs.toList.reverse.toArray 0) :: news) (gx ++ gxc) (inA_6 ?_ ?_ F₃' N₃'' hne (inE_2 _ _ (inA_3 (if_pos rfl) ?_ rfl))))
      · simp only [Array.append_assoc]
      · intro q hq
        rcases Array.mem_append.mp hq with hq | hq
        · exact hgx q hq
        · exact hgxc q hq
      · rw [hdrop, TT, cs_append, cs_append, cs_append, hjc, hx, show cs (Str.ofString "(") = [40] from by decide +kernel, show cs (Str.ofString ")") = [41] from by decide +kernel]
        simp
end
end Mine
end

section
open PySem PySem.W PyProof.Rows PySem.Calls
set_option Elab.async false
set_option maxRecDepth 100000
set_option maxHeartbeats 2000000
namespace Mine

theorem fill11 : (fun (_ : OpenLaw) (_ : Params → Frag) => True) PySem.Challenge.rw_wa0010_01 hd.heap_39 := by
  k_fill
  exact trivial

section
variable {prog : Program} {w : World} {p : Program} {loose : List Str} {mean : ExcName → Option Value} {mg mb : Str → Option Value}

theorem iseof_tell (x : Int) (t : Tok) : Tell prog w p loose mean mg mb 74 [.int x t] 1 8 (fun _ _ => True) fun tl _ v => tl = [] ∧ v = .bool (decide (x = 0)) := by
  intro dp un gd cn cs' ca ccd cl outer A₀ base h₀ L m s news Q E B F X N T hk hpre hd hu hret
  refine wpAny_call (code_def (binds := [(Str.ofString "x", Value.int x t)]) B F X N T rfl rfl hk (by rfl : (Mine.hd.heap_39 w.params).lookup 74 = some ⟨_, _, .func (fnOf _ _ _ _ _ _ _ _ _ _ _ _), _⟩) (by rfl) ?_ (BindsTo.of_eq rfl) (locs rfl) (fun g L' h₁ FG F' N' B' X' T' => ?_) rfl rfl rfl (by decide))
  · show dp < recursionLimit
    lia
  refine abs_QE fun Q₀ E₀ hQ₀ => ?_
  refine wpAny_execs_cons (wpAny_Return_some (wpAny_Compare1 (ld F' (v := .int x t) rfl ?_)))
  iterate 2 walk1
  dsimp only
  have N'' : News g L' h₁ ([] ++ news) := N'
  refine hQ₀ _ _ ?_
  refine leaveK_ F' N'' (fun F₇ N₇ => ?_)
  have key := hret (.bool (x == 0)) [] _ (s.toks + 1) #[] F₇ N₇ (by simp) ⟨rfl, by by_cases h : x = 0 <;> simp [h]⟩
  rw [Array.append_empty] at key
  exact key

end

section
variable {prog : Program} {w : World} {A : Around} {E : Value → Shared → Prop} {s : Shared}
theorem assign_pair {env : Env} {x y : Str} {p1 p2 pos : Pos} {k : Nat} {Tp : Addr} {a b : Value} {Q : Unit → Shared → Prop} (hh : A.handled = none) (ht : s.heap.IsTuple Tp #[a, b])
    (h : ∀ h', (∀ c o, s.heap.get? c = some o → h'.get? c = some o) → wpAny (model prog w) A (assign (.Name x p1) env a) (fun _ s₁ => wpAny (model prog w) A (assign (.Name y p2) env b) Q E s₁) E { s with heap := h' }) :
    wpAny (model prog w) A (assign (.Tuple [.Name x p1, .Name y p2] k pos) env (.ref Tp)) Q E s := by
  refine wpAny_assign_Tuple hh ht rfl rfl fun h' hx => ?_
  show wpAny _ A (do holding [b] (assign (.Name x p1) env a); do holding [] (assign (.Name y p2) env b); pure ()) _ _ _
  refine wpAny_bind (wpAny_holding (wpAny_mono (h h' fun c o e => hx c o (Nat.ne_of_lt (Heap.lt_size e)) e) (fun _ s₁ h₁ => ?_) fun _ _ e => e))
  exact wpAny_bind (wpAny_holding (wpAny_mono h₁ (fun _ s₂ h₂ => wpAny_pure h₂) fun _ _ e => e))
end

structure LS where
  low : Int
  high : Int
  sp : List (Int × Int)
  lines : List (Int × Int)

def getI (sp : List (Int × Int)) (k : Int) : Option Int := match sp with
  | [] => none
  | (a, b) :: r => if k = a then some b else getI r k
def lstep (st : LS) (pt : Int × Bool) : LS :=
  let num := if pt.1.fmod 2 = 0 then st.low else st.high
  { low := if pt.1.fmod 2 = 0 then st.low + 1 else st.low
    high := if pt.1.fmod 2 = 0 then st.high else st.high - 1
    lines := if pt.1 > 0 then st.lines ++ [((getI st.sp (pt.1 - 1)).getD 0, num)] else st.lines
    sp := if pt.2 then (pt.1, num) :: st.sp else st.sp }
def linesOf (pts : List (Int × Bool)) : LS := pts.foldl lstep ⟨0, pts.length - 1, [], []⟩
def lineD (l : Int × Int) : Dat := .tuple [.int l.1, .int l.2]
def shp (p : Int × List Nat) : Int × Bool := (p.1, p.2.isEmpty)

section
variable {prog : Program} {w : World} {p : Program} {loose : List Str} {mean : ExcName → Option Value} {mg mb : Str → Option Value}

theorem lines_tell (Pt : Addr) (pts : List (Int × List Nat)) (hpl : pts.length ≤ 1000) :
    Tell prog w p loose mean mg mb 98 [.ref Pt] 2 16 (fun _ news => DatIn news (.ref Pt) (.list (pts.map ptD))) fun tl news v => ∃ T S Ln oS kvs D lvs e tl', v = .ref T ∧ tl = (T, ({ cls := .type "tuple", data := .seq [Value.ref S, Value.ref Ln].toArray } : Obj)) :: (Ln, listOf (lvs : List Value).toArray e) :: (S, oS) :: tl' ∧
      (S == sysModules) = false ∧ oS.IsDictOf (intKind prog w) kvs ∧ PyProof.V.FlatPairs PyData.int kvs D ∧ (∀ k, PySem.Spec.lookup (.int k) D = (getI (linesOf (pts.map shp)).sp k).map PyData.int) ∧
      DatAll tl' lvs ((linesOf (pts.map shp)).lines.map lineD) ∧ (∀ q ∈ tl, ∀ p ∈ news, q.1 ≠ p.1) ∧ (∀ q ∈ tl', q.1 ≠ T ∧ q.1 ≠ S ∧ q.1 ≠ Ln) ∧ T ≠ S ∧ T ≠ Ln ∧ S ≠ Ln := by
  intro dp un gd cn cs' ca ccd cl outer A₀ base h₀ L m s news Q E B F X N T hk hpre hd hu hret
  refine wpAny_call (code_def (binds := [(Str.ofString "points", Value.ref Pt)]) B F X N T rfl rfl hk (by rfl : (Mine.hd.heap_39 w.params).lookup 98 = some ⟨_, _, .func (fnOf _ _ _ _ _ _ _ _ _ _ _ _), _⟩) (by rfl) ?_ (BindsTo.of_eq rfl) (locs rfl) (fun g L' h₁ FG F' N' B' X' T' => ?_) rfl rfl rfl (by decide))
  · show dp < recursionLimit
    lia
  refine abs_QE fun Q₀ E₀ hQ₀ => ?_
  have hx0__ : ∃ vs e, (Pt, listOf (vs : List Value).toArray e) ∈ news ∧ DatAll news vs (pts.map ptD) := by
    cases hpre with
    | list hm hd => exact (inE_2 _ _ (inA_2 hm hd))
  refine elE_2 hx0__ fun vs e => elA_2 ?_
  clear hx0__
  intro hP hvs
  have hvl : vs.length = pts.length := by
    have := hvs.length
    simpa using this
  refine wpAny_execs_cons (wpAny_Assign_Name (wpAny_Constant_int (PyProof.Rows.stN F' N' fun h₂ F₂ N₂ => ?_)))
  dsimp only
  refine wpAny_execs_cons (wpAny_Assign_Name (wpAny_BinOp ?_))
  iterate 3 walk1
  refine PyProof.Rows.spliced_more (ld F₂ (v := .ref Pt) rfl (PyProof.Rows.spliced_none ?_))
  refine PyProof.Rows.len_list (N₂.isList hP) (by simp; lia) ?_
  refine wpAny_Constant_int ?_
  walk1
  have e0 : ((vs.toArray.size : Nat) : Int) - 1 = (pts.map shp).length - 1 := by simp [hvl]
  rw [e0]
  refine PyProof.Rows.stN F₂ N₂ fun h₃ F₃ N₃ => ?_
  dsimp only
  refine wpAny_execs_cons (wpAny_Assign_Name (newDict_K F₃ N₃ T'.nolimit fun S h₄ oS F₄ N₄ hS hlo _ _ hdi hfp => PyProof.Rows.stN F₄ N₄ fun h₅ F₅ N₅ => ?_))
  dsimp only
  refine wpAny_execs_cons (wpAny_Assign_Name (PyProof.Rows.List_ (PyProof.Rows.spliced_none (newList_K F₅ N₅ fun Ln h₆ F₆ N₆ hLn => PyProof.Rows.stN F₆ N₆ fun h₇ F₇ N₇ => ?_))))
  dsimp only
  refine wpAny_execs_cons (wpAny_For ?_)
  refine ld F₇ (v := .ref Pt) rfl ?_
  refine wpAny_pyIter_list (N₇.isList (.tail _ (.tail _ hP))) ?_
  dsimp only
  have F₈ := F₇.push { cls := .type "list_iterator", data := .fields #[.ref Pt, .int 0 0] }
  have N₈ := PyProof.Rows.News.push F₇ N₇ { cls := .type "list_iterator", data := .fields #[.ref Pt, .int 0 0] }
  have hItn : ∀ q ∈ ((Ln, listOf ([] : List Value).toArray 0) :: (S, oS) :: news), q.1 ≠ h₇.objs.size := fun q hq => Nat.ne_of_lt (Heap.lt_size (N₇ q hq).1)
  generalize hIt : h₇.objs.size = It at *
  have hSn : ∀ q ∈ news, q.1 ≠ S := fun q hq => Nat.ne_of_lt (hS q hq)
  have hLS : Ln ≠ S := Nat.ne_of_gt (hLn _ (.head _))
  have hLnn : ∀ q ∈ news, q.1 ≠ Ln := fun q hq => Nat.ne_of_lt (hLn q (.tail _ hq))
  refine for_gx (L := L') (It := It) (St := StList Pt) (n := vs.length) (item := fun i _ => vs.getD i .none) (side := [(Pt, listOf vs.toArray e)])
    F₈ N₈ hItn (nexts_list rfl rfl rfl) ⟨rfl, rfl⟩
    (fun i m' news' => ∃ (oS : Obj) (kvs : List (Int × Value)) (D : List (PyData × PyData)) (lvs : List Value) (el : Nat) (tl : List (Addr × Obj)) (st : LS) (tlo thi : Tok), st = ((pts.map shp).take i).foldl lstep ⟨0, (pts.map shp).length - 1, [], []⟩ ∧
      m' (Str.ofString "low") = some (.int st.low tlo) ∧ m' (Str.ofString "high") = some (.int st.high thi) ∧ m' (Str.ofString "spine") = some (.ref S) ∧ m' (Str.ofString "lines") = some (.ref Ln) ∧
      news' = (Ln, listOf lvs.toArray el) :: (S, oS) :: (tl ++ news) ∧ oS.IsDictOf (intKind prog w) kvs ∧ PyProof.V.FlatPairs PyData.int kvs D ∧ D.length ≤ i ∧ (∀ k, PySem.Spec.lookup (.int k) D = (getI st.sp k).map PyData.int) ∧
      DatAll tl lvs (st.lines.map lineD) ∧ lvs.length ≤ i ∧ (∀ q ∈ tl, (∀ p ∈ news, q.1 ≠ p.1) ∧ q.1 ≠ S ∧ q.1 ≠ Ln))
    (inE_9 oS ([]) ([]) ([]) 0 ([]) _ _ _ (inA_13 rfl rfl rfl rfl rfl rfl hdi hfp (Nat.le_refl _) (fun _ => rfl) (.nil) (Nat.le_refl _) (by simp))) (by
      rintro i m₁ news₁ hx1__
      refine elE_9 hx1__ fun _ _ _ _ _ _ _ _ _ => elA_7 ?_
      clear hx1__
      intro _ _ _ _ _ e0__ _
      subst e0__
      rintro q hq
      rw [List.mem_singleton.mp hq]
      exact .tail _ (.tail _ (List.mem_append_right _ hP))) ?turn ?done
  case done =>
    rintro m₁ news₁ h tk gx hx2__
    refine elE_9 hx2__ fun oS' kvs D lvs el tl st tlo thi => elA_13 ?_
    clear hx2__
    intro hst hm1 hm2 hm3 hm4 e0__ hdi' hfp' hDl hlk hda hll hfr
    subst e0__
    rintro F₉ N₉ hgx
    have htk : (pts.map shp).take vs.length = pts.map shp := List.take_of_length_le (by simp [hvl])
    rw [htk] at hst
    have hst' : st = linesOf (pts.map shp) := hst
    rw [hst'] at hlk hda
    refine wpAny_execs_cons (wpAny_Return_some (PyProof.Rows.Tuple_ (PyProof.Rows.spliced_more (ld F₉ (v := .ref S) hm3 (PyProof.Rows.spliced_more (ld F₉ (v := .ref Ln) hm4 (PyProof.Rows.spliced_none (newTuple_K F₉ N₉ fun Tr h₁₀ F₁₀ N₁₀ hTr => ?_))))))))
    have hTn : ∀ q ∈ (Ln, listOf lvs.toArray el) :: (S, oS') :: (tl ++ news), q.1 ≠ Tr := fun q hq => Nat.ne_of_lt (hTr q hq)
    have N₁₀' : News g L' h₁₀ (((Tr, ({ cls := .type "tuple", data := .seq [Value.ref S, Value.ref Ln].toArray } : Obj)) :: (Ln, listOf lvs.toArray el) :: (S, oS') :: tl) ++ news) := N₁₀
    refine hQ₀ _ _ ?_
    refine leaveK_ F₁₀ N₁₀' (fun F₁₁ N₁₁ => ?_)
    refine hret (.ref Tr) _ _ _ gx F₁₁ N₁₁ hgx (inE_9 Tr S Ln oS' kvs D lvs el tl (inA_12 rfl rfl hlo hdi' hfp' hlk hda ?_ (fun q hq => ⟨hTn q (.tail _ (.tail _ (List.mem_append_left _ hq))), (hfr q hq).2.1, (hfr q hq).2.2⟩) (Ne.symm (hTn _ (.tail _ (.head _)))) (Ne.symm (hTn _ (.head _))) (Ne.symm hLS)))
    intro q hq p hp
    rcases List.mem_cons.mp hq with rfl | hq
    · exact Ne.symm (hTn p (.tail _ (.tail _ (List.mem_append_right _ hp))))
    · rcases List.mem_cons.mp hq with rfl | hq
      · exact Ne.symm (hLnn p hp)
      · rcases List.mem_cons.mp hq with rfl | hq
        · exact Ne.symm (hSn p hp)
        · exact (hfr q hq).1 p hp
  case turn =>
    rintro i m₁ news₁ h oI tk gx tk0 hi hx3__
    refine elE_9 hx3__ fun oS' kvs D lvs el tl st tlo thi => elA_13 ?_
    clear hx3__
    intro hst hm1 hm2 hm3 hm4 e0__ hdi' hfp' hDl hlk hda hll hfr
    subst e0__
    rintro F₉ N₉ hstI hneI hgx
    have hip : i < pts.length := by lia
    obtain ⟨v, hv, hdv⟩ := hvs.get (k := i) (by rw [List.length_map]; exact hip)
    rw [List.getElem_map] at hdv
    have htk : ((pts.map shp).take (i + 1)).foldl lstep ⟨0, (pts.map shp).length - 1, [], []⟩ = lstep st (shp pts[i]) := by
      rw [take_succ (by simp [hip]), List.foldl_append, ← hst]
      simp
    rcases hpt : pts[i] with ⟨d, nm⟩
    rw [hpt] at hdv htk
    have hx4__ : ∃ Tp td tn nt, v = .ref Tp ∧ (Tp, ({ cls := .type "tuple", data := .seq [Value.int d td, Value.str ⟨nm.toArray⟩ tn].toArray nt } : Obj)) ∈ news := by
      cases hdv with
      | tuple hm hd =>
        cases hd with
        | cons h1 hd =>
          cases hd with
          | cons h2 hd =>
            cases hd
            cases h1
            cases h2
            exact (inE_4 _ _ _ _ (inA_2 rfl hm))
    refine elE_4 hx4__ fun Tp td tn nt => elA_2 ?_
    clear hx4__
    intro e0__ hTp
    subst e0__
    have hget : vs.getD i .none = .ref Tp := by rw [List.getD_eq_getElem?_getD, hv]; rfl
    rw [hget]
    refine letOwned_off (N₉ (It, oI) (.head _)).1 hstI.1 (by decide) ?_
    refine assign_pair rfl (inE_1 _ (inA_3 (N₉.get (.tail _ (.tail _ (.tail _ (List.mem_append_right _ hTp))))) rfl (inE_1 _ rfl))) fun h₁₀ hk₁₀ => ?_
    have F₁₀ : Fr g L' h₁₀ m₁ := F₉.kept hk₁₀
    have N₁₀ : News g L' h₁₀ ((It, oI) :: (Ln, listOf lvs.toArray el) :: (S, oS') :: (tl ++ news)) := fun q hq => ⟨hk₁₀ _ _ (N₉ q hq).1, (N₉ q hq).2⟩
    refine wpAny_assign_Name (PyProof.Rows.stN F₁₀ N₁₀ fun h₁₁ F₁₁ N₁₁ => ?_)
    refine wpAny_assign_Name (PyProof.Rows.stN F₁₁ N₁₁ fun h₁₂ F₁₂ N₁₂ => ?_)
    dsimp only
    have F₁₃ := Fr_at (Fr_at (Fr_at (Fr_at F₁₂ (Str.ofString "low") (.int st.low tlo) hm1) (Str.ofString "high") (.int st.high thi) hm2) (Str.ofString "spine") (.ref S) hm3) (Str.ofString "lines") (.ref Ln) hm4
    generalize hnum : (if d.fmod 2 = 0 then st.low else st.high) = num at *
    refine wpAny_execs_cons (wpAny_mono (Q := fun f s₃ => f = .next ∧ ∃ hh tkk gx' m' tnum tlo thi td tn, s₃ = { heap := hh, gens := s.gens ++ gx', drawn := s.drawn, toks := tkk, os := s.os } ∧ (∀ q ∈ gx', q = GenState.finished) ∧ Fr g L' hh m' ∧ News g L' hh ((It, oI) :: (Ln, listOf lvs.toArray el) :: (S, oS') :: (tl ++ news)) ∧
      m' (Str.ofString "low") = some (.int st.low tlo) ∧ m' (Str.ofString "high") = some (.int st.high thi) ∧ m' (Str.ofString "spine") = some (.ref S) ∧ m' (Str.ofString "lines") = some (.ref Ln) ∧ m' (Str.ofString "depth") = some (.int d td) ∧ m' (Str.ofString "name") = some (.str ⟨nm.toArray⟩ tn) ∧ m' (Str.ofString "number") = some (.int num tnum)) ?s1 ?r1 (fun _ _ x => x))
    case s1 =>
      refine wpAny_Assign_Name ?_
      walk1
      iterate 4 walk1
      refine PyProof.Rows.spliced_more (wpAny_BinOp (ld F₁₃ (v := .int d td) rfl (wpAny_Constant_int ?_)))
      walk1
      refine PyProof.Rows.spliced_none ⟨X'.keeps F₁₃.keep, ?_⟩
      refine iseof_tell _ _ _ _ _ _ _ _ _ _ _ _ _ _ _ _ _ _ _ _ B' F₁₃ X' N₁₂ T' rfl trivial ?_ ?_ (fun v tl₈ h₁₄ tk₁₄ gx₁₄ F₁₄ N₁₄ hgx₁₄ hv => ?_)
      · show dp + 1 + 1 < recursionLimit
        lia
      · show un + 3 + 8 < cLine
        lia
      obtain ⟨rfl, rfl⟩ := hv
      dsimp only
      refine wpAny_truthy_bool ?_
      have hgx' : ∀ q ∈ gx ++ gx₁₄, q = GenState.finished := by
        intro q hq
        rcases Array.mem_append.mp hq with hq | hq
        · exact hgx q hq
        · exact hgx₁₄ q hq
      by_cases hp : d.fmod 2 = 0
      · rw [if_pos hp] at hnum
        subst hnum
        simp only [hp, decide_true, if_true]
        refine ld F₁₄ (v := .int st.low tlo) rfl (PyProof.Rows.stN F₁₄ N₁₄ fun h₁₅ F₁₅ N₁₅ => ?_)
        simp only [Array.append_assoc]
        exact (inA_2 (by trivial) (inE_9 h₁₅ _ (gx ++ gx₁₄) _ _ _ _ _ _ (inA_11 rfl hgx' F₁₅ N₁₅ rfl rfl rfl rfl rfl rfl rfl)))
      · rw [if_neg hp] at hnum
        subst hnum
        simp only [hp, decide_false, Bool.false_eq_true, if_false]
        refine ld F₁₄ (v := .int st.high thi) rfl (PyProof.Rows.stN F₁₄ N₁₄ fun h₁₅ F₁₅ N₁₅ => ?_)
        simp only [Array.append_assoc]
        exact (inA_2 (by trivial) (inE_9 h₁₅ _ (gx ++ gx₁₄) _ _ _ _ _ _ (inA_11 rfl hgx' F₁₅ N₁₅ rfl rfl rfl rfl rfl rfl rfl)))
    case r1 =>
      rintro f s₃ hx5__
      refine elA_2 ?_ hx5__
      clear hx5__
      intro e0__ hy1__
      refine elE_9 hy1__ fun h₁₅ tk₁₅ gx₁₅ m₁₅ tnum tlo thi td tn => elA_11 ?_
      clear hy1__
      intro e1__ hgx₁₅ F₁₅ N₁₅ q1 q2 q3 q4 q5 q6 q7
      subst e0__
      subst e1__
      clear F₁₃ F₁₂ N₁₂ F₁₁ N₁₁ F₁₀ N₁₀ F₉ N₉
      have F₁₆ := Fr_at (Fr_at (Fr_at (Fr_at (Fr_at (Fr_at (Fr_at F₁₅ (Str.ofString "low") _ q1) (Str.ofString "high") _ q2) (Str.ofString "spine") _ q3) (Str.ofString "lines") _ q4) (Str.ofString "depth") _ q5) (Str.ofString "name") _ q6) (Str.ofString "number") _ q7
      refine wpAny_execs_cons (wpAny_mono (Q := fun f s₃ => f = .next ∧ ∃ hh tkk gx' m' tnum tlo thi td tn, s₃ = { heap := hh, gens := s.gens ++ gx', drawn := s.drawn, toks := tkk, os := s.os } ∧ (∀ q ∈ gx', q = GenState.finished) ∧ Fr g L' hh m' ∧ News g L' hh ((It, oI) :: (Ln, listOf lvs.toArray el) :: (S, oS') :: (tl ++ news)) ∧
        m' (Str.ofString "low") = some (.int (if d.fmod 2 = 0 then st.low + 1 else st.low) tlo) ∧ m' (Str.ofString "high") = some (.int (if d.fmod 2 = 0 then st.high else st.high - 1) thi) ∧ m' (Str.ofString "spine") = some (.ref S) ∧ m' (Str.ofString "lines") = some (.ref Ln) ∧ m' (Str.ofString "depth") = some (.int d td) ∧ m' (Str.ofString "name") = some (.str ⟨nm.toArray⟩ tn) ∧ m' (Str.ofString "number") = some (.int num tnum)) ?s2 ?r2 (fun _ _ x => x))
      case s2 =>
        refine wpAny_If ?_
        iterate 4 walk1
        refine PyProof.Rows.spliced_more (wpAny_BinOp (ld F₁₆ (v := .int d td) rfl (wpAny_Constant_int ?_)))
        walk1
        refine PyProof.Rows.spliced_none ⟨X'.keeps F₁₆.keep, ?_⟩
        refine iseof_tell _ _ _ _ _ _ _ _ _ _ _ _ _ _ _ _ _ _ _ _ B' F₁₆ X' N₁₅ T' rfl trivial ?_ ?_ (fun v tl₈ h₁₄ tk₁₄ gx₁₄ F₁₄ N₁₄ hgx₁₄ hv => ?_)
        · show dp + 1 + 1 < recursionLimit
          lia
        · show un + 3 + 8 < cLine
          lia
        obtain ⟨rfl, rfl⟩ := hv
        dsimp only
        refine wpAny_truthy_bool ?_
        have hgx' : ∀ q ∈ gx₁₅ ++ gx₁₄, q = GenState.finished := by
          intro q hq
          rcases Array.mem_append.mp hq with hq | hq
          · exact hgx₁₅ q hq
          · exact hgx₁₄ q hq
        by_cases hp : d.fmod 2 = 0
        · simp only [hp, decide_true, if_true]
          refine wpAny_execs_cons (wpAny_AugAssign_Name (ldn F₁₄ (v := .int st.low tlo) rfl (wpAny_Constant_int ?_)))
          walk1
          refine PyProof.Rows.stN F₁₄ N₁₄ fun h₁₇ F₁₇ N₁₇ => ?_
          refine wpAny_execs_nil ?_
          simp only [Array.append_assoc]
          exact (inA_2 (by trivial) (inE_9 h₁₇ _ (gx₁₅ ++ gx₁₄) _ _ _ _ _ _ (inA_11 rfl hgx' F₁₇ N₁₇ rfl rfl rfl rfl rfl rfl rfl)))
        · simp only [hp, decide_false, Bool.false_eq_true, if_false]
          refine wpAny_execs_cons (wpAny_AugAssign_Name (ldn F₁₄ (v := .int st.high thi) rfl (wpAny_Constant_int ?_)))
          walk1
          refine PyProof.Rows.stN F₁₄ N₁₄ fun h₁₇ F₁₇ N₁₇ => ?_
          refine wpAny_execs_nil ?_
          simp only [Array.append_assoc]
          exact (inA_2 (by trivial) (inE_9 h₁₇ _ (gx₁₅ ++ gx₁₄) _ _ _ _ _ _ (inA_11 rfl hgx' F₁₇ N₁₇ rfl rfl rfl rfl rfl rfl rfl)))
      case r2 =>
        clear F₁₆ F₁₅ N₁₅
        rintro f s₃ hx6__
        refine elA_2 ?_ hx6__
        clear hx6__
        intro e0__ hy2__
        refine elE_9 hy2__ fun h₁₈ tk₁₈ gx₁₈ m₁₈ tnum tlo thi td tn => elA_11 ?_
        clear hy2__
        intro e1__ hgx₁₈ F₁₈ N₁₈ q1 q2 q3 q4 q5 q6 q7
        subst e0__
        subst e1__
        have F₁₉ := Fr_at (Fr_at (Fr_at (Fr_at (Fr_at (Fr_at (Fr_at F₁₈ (Str.ofString "low") _ q1) (Str.ofString "high") _ q2) (Str.ofString "spine") _ q3) (Str.ofString "lines") _ q4) (Str.ofString "depth") _ q5) (Str.ofString "name") _ q6) (Str.ofString "number") _ q7
        have hItr : (∀ q ∈ (S, oS') :: (tl ++ news), q.1 ≠ Ln) := List.forall_mem_cons.mpr ⟨Ne.symm hLS, fun q hq => by
          rcases List.mem_append.mp hq with hq | hq
          · exact (hfr q hq).2.2
          · exact hLnn q hq⟩
        have hItL : It ≠ Ln := fun e => hneI _ (.head _) e.symm
        have hItS : It ≠ S := fun e => hneI _ (.tail _ (.head _)) e.symm
        refine wpAny_execs_cons (wpAny_mono (Q := fun f s₃ => f = .next ∧ ∃ hh tkk m' lvs' el' tl' tlo thi td tn tnum, s₃ = { heap := hh, gens := s.gens ++ gx₁₈, drawn := s.drawn, toks := tkk, os := s.os } ∧ Fr g L' hh m' ∧ News g L' hh ((It, oI) :: (Ln, listOf (lvs' : List Value).toArray el') :: (S, oS') :: (tl' ++ news)) ∧
          DatAll tl' lvs' ((lstep st (d, nm.isEmpty)).lines.map lineD) ∧ lvs'.length ≤ i + 1 ∧ (∀ q ∈ tl', ((∀ p ∈ news, q.1 ≠ p.1) ∧ q.1 ≠ S ∧ q.1 ≠ Ln) ∧ q.1 ≠ It) ∧
          m' (Str.ofString "low") = some (.int (if d.fmod 2 = 0 then st.low + 1 else st.low) tlo) ∧ m' (Str.ofString "high") = some (.int (if d.fmod 2 = 0 then st.high else st.high - 1) thi) ∧ m' (Str.ofString "spine") = some (.ref S) ∧ m' (Str.ofString "lines") = some (.ref Ln) ∧ m' (Str.ofString "depth") = some (.int d td) ∧ m' (Str.ofString "name") = some (.str ⟨nm.toArray⟩ tn) ∧ m' (Str.ofString "number") = some (.int num tnum)) ?s3 ?r3 (fun _ _ x => x))
        case s3 =>
          refine wpAny_If (wpAny_isTrue_Compare1 (ld F₁₉ (v := .int d td) rfl (wpAny_Constant_int ?_)))
          walk1
          refine wpAny_truthy_bool ?_
          by_cases hpos : d > 0
          · rw [decide_eq_true (show (0 : Int) < d from hpos)]
            simp only [if_true]
            refine wpAny_execs_cons ?_
            iterate 2 walk1
            refine ld F₁₉ (v := .ref Ln) rfl ?_
            iterate 2 walk1
            refine PyProof.Rows.spliced_more (PyProof.Rows.Tuple_ (PyProof.Rows.spliced_more ?_))
            walk1
            refine ld F₁₉ (v := .ref S) rfl ?_
            have hT : IntTab prog w h₁₈ S D := TabAt.ofNews N₁₈ (.tail _ (.tail _ (.head _))) hlo hdi' hfp'
            refine getMethod_intTab_get hT ?_
            walk1
            refine PyProof.Rows.spliced_more (wpAny_BinOp (ld F₁₉ (v := .int d td) rfl (wpAny_Constant_int ?_)))
            walk1
            refine PyProof.Rows.spliced_more (wpAny_Constant_int (PyProof.Rows.spliced_none ?_))
            refine call_get2_intTab hT (PyProof.V.Flat.int 0 _) fun v hv => ?_
            rw [hlk] at hv
            obtain ⟨tv, rfl⟩ : ∃ tv, v = .int ((getI st.sp (d - 1)).getD 0) tv := by
              cases hg : getI st.sp (d - 1) with
              | none =>
                rw [hg] at hv
                simp only [Option.map_none, Option.getD_none] at hv
                exact PyProof.V.Flat.int_inv hv
              | some z =>
                rw [hg] at hv
                simp only [Option.map_some, Option.getD_some] at hv
                exact PyProof.V.Flat.int_inv hv
            dsimp only
            refine PyProof.Rows.spliced_more (ld F₁₉ (v := .int num tnum) rfl (PyProof.Rows.spliced_none ?_))
            refine newTuple_K F₁₉ N₁₈ fun Tl h₂₀ F₂₀ N₂₀ hTl => ?_
            refine PyProof.Rows.spliced_none ?_
            have hTI : Tl ≠ It := Nat.ne_of_gt (hTl _ (.head _))
            have hTL : Tl ≠ Ln := Nat.ne_of_gt (hTl _ (.tail _ (.head _)))
            have hTS : Tl ≠ S := Nat.ne_of_gt (hTl _ (.tail _ (.tail _ (.head _))))
            refine append_K F₂₀ N₂₀ (Upd.tail hTL (Upd.tail hItL (Upd.head hItr))) (fun h₂₁ F₂₁ N₂₁ => ?_) (by
              show lvs.toArray.size ≤ sizeLine
              rw [List.size_toArray]
              have : 1001 ≤ sizeLine := by decide
              lia)
            repeat refine wpAny_execs_nil ?_
            dsimp only
            refine (inA_2 (by trivial) (inE_11 h₂₁ _ _ (lvs ++ [.ref Tl]) (el + 1) ((Tl, ({ cls := .type "tuple", data := .seq [Value.int ((getI st.sp (d - 1)).getD 0) tv, Value.int num tnum].toArray } : Obj)) :: tl) _ _ _ _ _ (inA_13 rfl F₂₁ ?_ ?_ ?_ ?_ rfl rfl rfl rfl rfl rfl rfl)))
            · rw [show (lvs ++ [Value.ref Tl]).toArray = lvs.toArray.push (.ref Tl) by simp]
              refine News_mono N₂₁ fun q hq => ?_
              simp only [List.mem_cons, List.cons_append] at hq ⊢
              rcases hq with h | h | h | h | h
              · exact .inr (.inl h)
              · exact .inr (.inr (.inl h))
              · exact .inr (.inr (.inr (.inl h)))
              · exact .inl h
              · exact .inr (.inr (.inr (.inr h)))
            · rw [show (lstep st (d, nm.isEmpty)).lines = st.lines ++ [((getI st.sp (d - 1)).getD 0, num)] by simp only [lstep, if_pos hpos, hnum], List.map_append]
              refine DatAll.append (hda.mono fun q hq => .tail _ hq) (.cons ?_ .nil)
              exact .tuple (.head _) (.cons (.int _ _) (.cons (.int _ _) .nil))
            · simp; lia
            · refine List.forall_mem_cons.mpr ⟨⟨⟨fun p hp => Nat.ne_of_gt (hTl p (.tail _ (.tail _ (.tail _ (List.mem_append_right _ hp))))), hTS, hTL⟩, hTI⟩, fun q hq => ⟨hfr q hq, hneI q (.tail _ (.tail _ (List.mem_append_left _ hq)))⟩⟩
          · rw [decide_eq_false (show ¬ (0 : Int) < d from hpos)]
            simp only [Bool.false_eq_true, if_false]
            refine wpAny_execs_nil ?_
            refine (inA_2 (by trivial) (inE_11 h₁₈ _ _ lvs el tl _ _ _ _ _ (inA_13 rfl F₁₉ N₁₈ ?_ (by lia) (fun q hq => ⟨hfr q hq, hneI q (.tail _ (.tail _ (List.mem_append_left _ hq)))⟩) rfl rfl rfl rfl rfl rfl rfl)))
            rw [show (lstep st (d, nm.isEmpty)).lines = st.lines by simp only [lstep, if_neg hpos]]
            exact hda
        case r3 =>
          clear F₁₉ F₁₈ N₁₈
          rintro f s₃ hx7__
          refine elA_2 ?_ hx7__
          clear hx7__
          intro e0__ hy3__
          refine elE_11 hy3__ fun h₂₂ tk₂₂ m₂₂ lvs' el' tl' tlo thi td tn tnum => elA_13 ?_
          clear hy3__
          intro e1__ F₂₂ N₂₂ hda' hll' hfr' q1 q2 q3 q4 q5 q6 q7
          subst e0__
          subst e1__
          have F₂₃ := Fr_at (Fr_at (Fr_at (Fr_at (Fr_at (Fr_at (Fr_at F₂₂ (Str.ofString "low") _ q1) (Str.ofString "high") _ q2) (Str.ofString "spine") _ q3) (Str.ofString "lines") _ q4) (Str.ofString "depth") _ q5) (Str.ofString "name") _ q6) (Str.ofString "number") _ q7
          have hSr : ∀ q ∈ tl' ++ news, q.1 ≠ S := fun q hq => by
            rcases List.mem_append.mp hq with hq | hq
            · exact (hfr' q hq).1.2.1
            · exact hSn q hq
          have hIr : ∀ q ∈ tl' ++ news, q.1 ≠ It := fun q hq => by
            rcases List.mem_append.mp hq with hq | hq
            · exact (hfr' q hq).2
            · exact hneI q (.tail _ (.tail _ (List.mem_append_right _ hq)))
          refine wpAny_execs_cons (wpAny_If (wpAny_isTrue_Compare1 (ld F₂₃ (v := .str ⟨nm.toArray⟩ tn) rfl (wpAny_Constant_str (PyProof.Rows.eq_str ?_)))))
          refine wpAny_truthy_bool ?_
          have ebe : ((⟨nm.toArray⟩ : Str) == Str.ofString "") = nm.isEmpty := by
            cases nm with
            | nil => decide +kernel
            | cons c r =>
              rw [show Str.ofString "" = ⟨#[]⟩ from by decide +kernel]
              simp
          rw [ebe]
          cases hem : nm.isEmpty with
          | true =>
            simp only [if_true]
            refine wpAny_execs_cons (wpAny_Assign_Subscript ?_)
            refine ld F₂₃ (v := .int num tnum) rfl (ld F₂₃ (v := .ref S) rfl (ld F₂₃ (v := .int d td) rfl ?_))
            refine setItem_K PyProof.V.same_int (intKind_is prog w d td) (PyProof.V.Flat.int num tnum) F₂₃ N₂₂ (UpdF.tail hItS (UpdF.tail hLS (UpdF.head hSr))) hdi' hfp' (fun h₂₄ oS₂ F₂₄ N₂₄ hdi₂ hfp₂ => ?_) (by
              have : 1001 ≤ sizeLine := by decide
              lia)
            dsimp only
            repeat refine wpAny_execs_nil ?_
            dsimp only [LQ]
            refine (inE_5 h₂₄ _ _ ((Ln, listOf lvs'.toArray el') :: (S, oS₂) :: (tl' ++ news)) gx₁₈ (inA_6 rfl hgx₁₈ F₂₄ N₂₄ ?_ (inE_9 oS₂ _ _ lvs' el' tl' (lstep st (d, nm.isEmpty)) tlo thi (inA_13 ?_ ?_ ?_ rfl rfl rfl hdi₂ hfp₂ ?_ ?_ hda' hll' (fun q hq => (hfr' q hq).1)))))
            · exact List.forall_mem_cons.mpr ⟨Ne.symm hItL, List.forall_mem_cons.mpr ⟨Ne.symm hItS, hIr⟩⟩
            · rw [htk]; rfl
            · rfl
            · rfl
            · exact Nat.le_trans (PyProof.V.putD_length_le _ _ _) (by lia)
            · intro k
              rw [PyProof.Rows.lookup_putD_int]
              have : (lstep st (d, nm.isEmpty)).sp = (d, num) :: st.sp := by simp only [lstep, hem, if_true, hnum]
              rw [this, getI, hlk k]
              by_cases hkd : k = d
              · rw [if_pos hkd, if_pos hkd]; rfl
              · rw [if_neg hkd, if_neg hkd]
          | false =>
            simp only [Bool.false_eq_true, if_false]
            repeat refine wpAny_execs_nil ?_
            dsimp only [LQ]
            refine (inE_5 h₂₂ _ _ ((Ln, listOf lvs'.toArray el') :: (S, oS') :: (tl' ++ news)) gx₁₈ (inA_6 rfl hgx₁₈ F₂₃ N₂₂ ?_ (inE_9 oS' kvs D lvs' el' tl' (lstep st (d, nm.isEmpty)) tlo thi (inA_13 ?_ ?_ ?_ rfl rfl rfl hdi' hfp' (by lia) ?_ hda' hll' (fun q hq => (hfr' q hq).1)))))
            · exact List.forall_mem_cons.mpr ⟨Ne.symm hItL, List.forall_mem_cons.mpr ⟨Ne.symm hItS, hIr⟩⟩
            · rw [htk]; rfl
            · rfl
            · rfl
            · simpa [lstep, hem] using hlk
end
end Mine
end

section
open PySem PySem.W PyProof.Rows PySem.Calls
set_option Elab.async false
set_option maxRecDepth 100000
set_option maxHeartbeats 2000000
namespace Mine
namespace SO

section
variable (ky : Value → Int)

def K (xs : Array Keyed) (i : Nat) : Int := match xs[i]? with
  | some p => ky p.1
  | none => 0
/-- strictly rising from lo up to hi -/
def Seg (xs : Array Keyed) (lo hi : Nat) : Prop := ∀ i j, lo ≤ i → i < j → j < hi → K ky xs i < K ky xs j
end

/-- nothing outside [lo, hi) has changed -/
def Out (xs ys : Array Keyed) (lo hi : Nat) : Prop := ∀ k, (k < lo ∨ hi ≤ k) → ys[k]? = xs[k]?

theorem Out.refl (xs : Array Keyed) (lo hi : Nat) : Out xs xs lo hi := fun _ _ => rfl
theorem Out.trans {xs ys zs : Array Keyed} {lo hi : Nat} (h : Out xs ys lo hi) (h' : Out ys zs lo hi) : Out xs zs lo hi := fun k hk => (h' k hk).trans (h k hk)
theorem Out.wide {xs ys : Array Keyed} {lo hi lo' hi' : Nat} (h : Out xs ys lo hi) (h1 : lo' ≤ lo) (h2 : hi ≤ hi') : Out xs ys lo' hi' := fun k hk => h k (by lia)

section
variable {ky : Value → Int}
theorem K_congr {xs ys : Array Keyed} {i j : Nat} (h : xs[i]? = ys[j]?) : K ky xs i = K ky ys j := by unfold K; rw [h]
theorem Seg.out {xs ys : Array Keyed} {lo hi a b : Nat} (h : Seg ky xs a b) (ho : Out xs ys lo hi) (hd : b ≤ lo ∨ hi ≤ a) : Seg ky ys a b := fun i j hi' hij hj => by
  rw [K_congr (ho i (by lia)), K_congr (ho j (by lia))]
  exact h i j hi' hij hj
theorem Seg.sub {xs : Array Keyed} {a b a' b' : Nat} (h : Seg ky xs a b) (h1 : a ≤ a') (h2 : b' ≤ b) : Seg ky xs a' b' := fun i j hi hij hj => h i j (by lia) hij (by lia)

theorem K_bubble {xs : Array Keyed} {src d : Nat} (hs : src < xs.size) (hd : d ≤ src) (k : Nat) :
    K ky (bubble xs src d) k = if k = src - d then K ky xs src else if src - d < k ∧ k ≤ src then K ky xs (k - 1) else K ky xs k := by
  have e := getElem?_bubble hs d hd k
  by_cases h1 : k = src - d
  · rw [if_pos h1] at e ⊢; exact K_congr e
  · rw [if_neg h1] at e ⊢
    by_cases h2 : src - d < k ∧ k ≤ src
    · rw [if_pos h2] at e ⊢; exact K_congr e
    · rw [if_neg h2] at e ⊢; exact K_congr e
theorem K_mirror {xs : Array Keyed} {i j : Nat} (hj : j ≤ xs.size) (k : Nat) :
    K ky (mirror xs i j ((j - i) / 2)) k = if i ≤ k ∧ k < j then K ky xs (i + j - 1 - k) else K ky xs k := by
  have e := getElem?_mirror_all (i := i) hj k
  by_cases h1 : i ≤ k ∧ k < j
  · rw [if_pos h1] at e ⊢; exact K_congr e
  · rw [if_neg h1] at e ⊢; exact K_congr e
end

/-- the keys: compared as their numbers, all different -/
structure Keys (prog : Program) (w : World) (A : Around) (E : Value → Shared → Prop) (s : Shared) (ky : Value → Int) (a₀ : Array Keyed) : Prop where
  lt : ∀ (st : SortSt) (x y : Keyed) (Q : Option Bool → SortSt → Prop), kindOf st = oneType' → x ∈ a₀.toList → y ∈ a₀.toList → Q (some (decide (ky x.1 < ky y.1))) st → wpS (model prog w) A E s (lt' x y) Q st
  inj : (a₀.toList.map fun p => ky p.1).Nodup

structure Base (a₀ : Array Keyed) (st : SortSt) : Prop where
  perm : (arrOf st).Perm a₀
  kind : kindOf st = oneType'
  failed : failedOf st = none
theorem Base.size {a₀ : Array Keyed} {st : SortSt} (h : Base a₀ st) : (arrOf st).size = a₀.size := h.perm.size_eq
theorem Base.setArr {a₀ : Array Keyed} {st : SortSt} (h : Base a₀ st) {xs : Array Keyed} (hp : xs.Perm (arrOf st)) : Base a₀ (setArr st xs) := ⟨hp.trans h.perm, h.kind, h.failed⟩
theorem Base.at {a₀ : Array Keyed} {st : SortSt} (h : Base a₀ st) {i : Nat} (hi : i < a₀.size) (ky : Value → Int) : ∃ p, (arrOf st)[i]? = some p ∧ p ∈ a₀.toList ∧ ky p.1 = K ky (arrOf st) i := by
  have hi' : i < (arrOf st).size := by rw [h.size]; exact hi
  have e : (arrOf st)[i]? = some (arrOf st)[i] := getElem?_pos _ i hi'
  exact (inE_1 _ (inA_3 e ((Array.perm_iff_toList_perm.mp h.perm).mem_iff.mp (by simp)) (by unfold K; rw [e])))

section
variable {prog : Program} {w : World} {A : Around} {E : Value → Shared → Prop} {s : Shared} {a₀ : Array Keyed} {ky : Value → Int}

theorem Keys.ne (h : Keys prog w A E s ky a₀) {st : SortSt} (hB : Base a₀ st) {i j : Nat} (hij : i ≠ j) (hi : i < a₀.size) (hj : j < a₀.size) : K ky (arrOf st) i ≠ K ky (arrOf st) j := by
  have hp := (Array.perm_iff_toList_perm.mp hB.perm).map fun p => ky p.1
  have hn : ((arrOf st).toList.map fun p => ky p.1).Nodup := (List.Perm.nodup_iff hp).mpr h.inj
  have hs := hB.size
  have key : ∀ k, k < a₀.size → ((arrOf st).toList.map fun p => ky p.1)[k]? = some (K ky (arrOf st) k) := fun k hk => by
    refine elE_1 (hB.at hk ky) fun p => elA_3 ?_
    intro h1 _ h3
    rw [List.getElem?_map]
    rw [show (arrOf st).toList[k]? = some p by simpa using h1]
    rw [← h3]; rfl
  intro e
  have h1 := key i hi
  have h2 := key j hj
  rw [e, ← h2] at h1
  exact hij ((List.getElem?_inj (by simp [hs]; lia) hn).mp h1)

theorem wpS_ltK (h : Keys prog w A E s ky a₀) {st : SortSt} {i j : Nat} {Q : Option Bool → SortSt → Prop} (hB : Base a₀ st) (hi : i < a₀.size) (hj : j < a₀.size)
    (hq : Q (some (decide (K ky (arrOf st) i < K ky (arrOf st) j))) st) : wpS (model prog w) A E s (ltAt' i j) Q st := by
  refine elE_1 (hB.at hi ky) fun p => elA_3 ?_
  intro e1 m1 k1
  refine elE_1 (hB.at hj ky) fun q => elA_3 ?_
  intro e2 m2 k2
  rw [ltAt'_eq]
  refine wpS_bind (wpS_get ?_)
  show wpS _ _ _ _ (do let x ← elem' (arrOf st) i; let y ← elem' (arrOf st) j; lt' x y) Q st
  rw [elem'_eq, elem'_eq, e1, e2]
  refine wpS_bind (wpS_pure (wpS_bind (wpS_pure ?_)))
  refine h.lt st p q Q hB.kind m1 m2 ?_
  rw [k1, k2]
  exact hq

theorem wpS_binarySort (h : Keys prog w A E s ky a₀) {st : SortSt} {lo n ok : Nat} {Q : Bool → SortSt → Prop} (hn : lo + n ≤ a₀.size) (hok : ok ≤ n) (hB : Base a₀ st) (hs : Seg ky (arrOf st) lo (lo + ok))
    (hq : ∀ xs, Base a₀ (setArr st xs) → Seg ky xs lo (lo + n) → Out (arrOf st) xs lo (lo + n) → Q true (setArr st xs)) : wpS (model prog w) A E s (binarySort' lo n ok) Q st := by
  rw [binarySort'_eq]
  refine wpS_bind (wpS_mono (wpS_forRange (I := fun k c st' => c = (none, ()) ∧ ∃ xs, st' = setArr st xs ∧ Base a₀ st' ∧ Seg ky xs lo (lo + min k n) ∧ Out (arrOf st) xs lo (lo + n))
    (Q := fun c st' => c = (none, ()) ∧ ∃ xs, st' = setArr st xs ∧ Base a₀ st' ∧ Seg ky xs lo (lo + n) ∧ Out (arrOf st) xs lo (lo + n)) ?step ?fin ?init) ?post)
  case post =>
    rintro c st' hx3__
    refine elA_2 ?_ hx3__
    clear hx3__
    intro e0__ hy1__
    refine elE_1 hy1__ fun xs => elA_4 ?_
    clear hy1__
    intro e1__ hB' hs' ho
    subst e0__
    subst e1__
    exact wpS_pure (hq xs hB' hs' ho)
  case init =>
    refine (inA_2 rfl (inE_1 (arrOf st) (inA_4 rfl hB (fun i j hi hij hj => ?_) (Out.refl _ _ _))))
    exact hs i j hi hij (by lia)
  case fin =>
    rintro c st' hx4__
    refine elA_2 ?_ hx4__
    clear hx4__
    intro hc hy2__
    refine elE_1 hy2__ fun xs => elA_4 ?_
    clear hy2__
    intro hx hB' hs' ho
    refine (inA_2 hc (inE_1 xs (inA_4 hx hB' ?_ ho)))
    rwa [show min (max (max ok 1) n) n = n by lia] at hs'
  case step =>
    rintro k c st' hak hkn hx5__
    refine elA_2 ?_ hx5__
    clear hx5__
    intro e0__ hy3__
    refine elE_1 hy3__ fun xs => elA_4 ?_
    clear hy3__
    intro e1__ hB' hs' ho
    subst e0__
    subst e1__
    rw [show min k n = k by lia] at hs'
    have hk : lo + k < a₀.size := by lia
    refine wpS_bind (wpS_mono (wpS_forRange (I := fun x c st'' => st'' = setArr st xs ∧ ∃ l r, c = (none, l, r) ∧ l ≤ r ∧ r ≤ k ∧ r - l ≤ k - x ∧
        (∀ i, i < l → K ky xs (lo + i) < K ky xs (lo + k)) ∧ (∀ i, r ≤ i → i < k → K ky xs (lo + k) < K ky xs (lo + i)))
      (Q := fun c st'' => st'' = setArr st xs ∧ ∃ l r, c = (none, l, r) ∧ l ≤ k ∧
        (∀ i, i < l → K ky xs (lo + i) < K ky xs (lo + k)) ∧ (∀ i, l ≤ i → i < k → K ky xs (lo + k) < K ky xs (lo + i))) ?istep ?ifin ?iinit) ?ipost)
    case iinit => exact (inA_2 rfl (inE_2 0 k (inA_6 rfl (by lia) (by lia) (by lia) (fun i hi => by lia) (fun i h1 h2 => by lia))))
    case ifin =>
      rintro c st'' hx6__
      refine elA_2 ?_ hx6__
      clear hx6__
      intro e0__ hy4__
      refine elE_2 hy4__ fun l r => elA_6 ?_
      clear hy4__
      intro e1__ hlr hrk hm hlo hhi
      subst e0__
      subst e1__
      have : l = r := by lia
      subst this
      exact (inA_2 rfl (inE_2 l l (inA_4 rfl hrk hlo hhi)))
    case istep =>
      rintro x c st'' _ hxk hx7__
      refine elA_2 ?_ hx7__
      clear hx7__
      intro e0__ hy5__
      refine elE_2 hy5__ fun l r => elA_6 ?_
      clear hy5__
      intro e1__ hlr hrk hm hlo hhi
      subst e0__
      subst e1__
      dsimp only
      by_cases hge : l ≥ r
      · rw [if_pos hge]
        have : l = r := by lia
        subst this
        exact wpS_pure (inA_2 rfl (inE_2 l l (inA_4 rfl hrk hlo hhi)))
      · rw [if_neg hge]
        refine wpS_bind (wpS_ltK h hB' hk (by lia) ?_)
        by_cases hless : K ky xs (lo + k) < K ky xs (lo + (l + r) / 2)
        · have hless' : K ky (arrOf (setArr st xs)) (lo + k) < K ky (arrOf (setArr st xs)) (lo + (l + r) / 2) := hless
          simp only [hless', decide_true, if_true]
          refine wpS_pure (inA_2 rfl (inE_2 l ((l + r) / 2) (inA_6 rfl (by lia) (by lia) (by lia) hlo (fun i h1 h2 => ?_))))
          by_cases hi : i = (l + r) / 2
          · rw [hi]; exact hless
          · exact Int.lt_trans hless (hs' _ _ (by lia) (by lia) (by lia))
        · have hless' : ¬ K ky (arrOf (setArr st xs)) (lo + k) < K ky (arrOf (setArr st xs)) (lo + (l + r) / 2) := hless
          simp only [hless', decide_false, Bool.false_eq_true, if_false]
          have hne := h.ne hB' (i := lo + k) (j := lo + (l + r) / 2) (by lia) hk (by lia)
          have hne' : K ky xs (lo + k) ≠ K ky xs (lo + (l + r) / 2) := hne
          refine wpS_pure (inA_2 rfl (inE_2 ((l + r) / 2 + 1) r (inA_6 rfl (by lia) (by lia) (by lia) (fun i h1 => ?_) hhi)))
          by_cases hi : i = (l + r) / 2
          · rw [hi]; lia
          · have := hs' (lo + i) (lo + (l + r) / 2) (by lia) (by lia) (by lia)
            lia
    case ipost =>
      rintro c st'' hx8__
      refine elA_2 ?_ hx8__
      clear hx8__
      intro e0__ hy6__
      refine elE_2 hy6__ fun l r => elA_4 ?_
      clear hy6__
      intro e1__ hlk hlo hhi
      subst e0__
      subst e1__
      show wpS _ _ _ _ (do moveDown' (lo + k) (lo + l); pure (ForInStep.yield (none, ()))) _ _
      rw [moveDown'_eq]
      refine wpS_bind (wpS_modify (wpS_pure ?_))
      have hks : lo + k < xs.size := by have := hB'.size; show lo + k < (arrOf (setArr st xs)).size; lia
      have hd : lo + k - (lo + l) = k - l := by lia
      refine (inA_2 rfl (inE_1 (bubble xs (lo + k) (lo + k - (lo + l))) (inA_4 rfl (hB'.setArr (bubble_perm _ _ _)) ?_ ?_)))
      · rw [show min (k + 1) n = k + 1 by lia, hd]
        intro i j hi hij hj
        rw [K_bubble hks (by lia), K_bubble hks (by lia), show lo + k - (k - l) = lo + l by lia]
        have hlo' : ∀ i, lo ≤ i → i < lo + l → K ky xs i < K ky xs (lo + k) := fun i h1 h2 => by
          have := hlo (i - lo) (by lia)
          rwa [show lo + (i - lo) = i by lia] at this
        have hhi' : ∀ i, lo + l ≤ i → i < lo + k → K ky xs (lo + k) < K ky xs i := fun i h1 h2 => by
          have := hhi (i - lo) (by lia) (by lia)
          rwa [show lo + (i - lo) = i by lia] at this
        repeat' split
        all_goals first
          | (exfalso; lia)
          | exact hlo' _ (by lia) (by lia)
          | exact hhi' _ (by lia) (by lia)
          | exact hs' _ _ (by lia) (by lia) (by lia)
      · refine ho.trans fun q hq => ?_
        rw [hd, getElem?_bubble hks _ (by lia) q, if_neg (by lia), if_neg (by lia)]
end
end SO
end Mine
end

section
open PySem PySem.W PyProof.Rows PySem.Calls
set_option Elab.async false
set_option maxRecDepth 100000
set_option maxHeartbeats 2000000
namespace Mine
namespace SO

section
variable {prog : Program} {w : World} {A : Around} {E : Value → Shared → Prop} {s : Shared} {a₀ : Array Keyed} {ky : Value → Int}

theorem Seg.snoc {xs : Array Keyed} {lo n : Nat} (h : Seg ky xs lo (lo + n)) (hn : 1 ≤ n) (hk : K ky xs (lo + n - 1) < K ky xs (lo + n)) : Seg ky xs lo (lo + (n + 1)) := by
  intro i j hi hij hj
  by_cases hjn : j < lo + n
  · exact h i j hi hij hjn
  · have : j = lo + n := by lia
    subst this
    by_cases hi' : i = lo + n - 1
    · rw [hi']; exact hk
    · exact Int.lt_trans (h i (lo + n - 1) hi (by lia) (by lia)) hk

theorem wpS_countRun (h : Keys prog w A E s ky a₀) {st : SortSt} {lo nrem : Nat} {Q : Option Nat → SortSt → Prop} (hn : lo + nrem ≤ a₀.size) (h1 : 1 ≤ nrem) (hB : Base a₀ st)
    (hq : ∀ m xs, Base a₀ (setArr st xs) → 1 ≤ m → m ≤ nrem → Seg ky xs lo (lo + m) → Out (arrOf st) xs lo (lo + nrem) → Q (some m) (setArr st xs)) :
    wpS (model prog w) A E s (countRun' lo nrem) Q st := by
  have hst : st = setArr st (arrOf st) := rfl
  rw [countRun'_eq]
  refine wpS_bind (wpS_mono (wpS_forRange (I := fun x c st' => st' = st ∧ c = (none, x) ∧ Seg ky (arrOf st) lo (lo + x))
    (Q := fun c st' => st' = st ∧ ∃ n, c = (none, n) ∧ 1 ≤ n ∧ n ≤ nrem ∧ Seg ky (arrOf st) lo (lo + n) ∧ (n = nrem ∨ K ky (arrOf st) (lo + n) < K ky (arrOf st) (lo + n - 1))) ?step ?fin ⟨rfl, rfl, fun i j hi hij hj => by lia⟩) ?post)
  case fin =>
    rintro c st' ⟨rfl, rfl, hs'⟩
    rw [show max 1 nrem = nrem by lia] at hs' ⊢
    exact (inA_2 rfl (inE_1 nrem (inA_5 rfl h1 (Nat.le_refl _) hs' (.inl rfl))))
  case step =>
    rintro x c st' hax hxn ⟨rfl, rfl, hs'⟩
    dsimp only
    refine wpS_bind (wpS_ltK h hB (by lia) (by lia) ?_)
    by_cases hless : K ky (arrOf st') (lo + x) < K ky (arrOf st') (lo + x - 1)
    · simp only [hless, decide_true, if_true]
      exact wpS_pure (inA_2 rfl (inE_1 x (inA_5 rfl hax (by lia) hs' (.inr hless))))
    · simp only [hless, decide_false, Bool.false_eq_true, if_false]
      have hne := h.ne hB (i := lo + x) (j := lo + x - 1) (by lia) (by lia) (by lia)
      exact wpS_pure ⟨rfl, rfl, hs'.snoc hax (by lia)⟩
  case post =>
    rintro c st' hx0__
    refine elA_2 ?_ hx0__
    clear hx0__
    intro e0__ hy1__
    refine elE_1 hy1__ fun n => elA_5 ?_
    clear hy1__
    intro e1__ hn1 hn2 hsn hor
    subst e0__
    subst e1__
    dsimp only
    by_cases hnn : n = nrem
    · rw [if_pos (by simpa using hnn)]
      exact wpS_pure (hq n (arrOf st') hB hn1 hn2 hsn (Out.refl _ _ _))
    · rw [if_neg (by simpa using hnn)]
      have hlt := hor.resolve_left hnn
      by_cases hgt : n > 1
      · rw [if_pos hgt]
        refine wpS_bind (wpS_ltK h hB (by lia) (by lia) ?_)
        have hrose : K ky (arrOf st') lo < K ky (arrOf st') (lo + n - 1) := hsn _ _ (Nat.le_refl _) (by lia) (by lia)
        simp only [hrose, decide_true, if_true]
        exact wpS_pure (hq n (arrOf st') hB hn1 hn2 hsn (Out.refl _ _ _))
      · rw [if_neg hgt]
        have hn1' : n = 1 := by lia
        subst hn1'
        refine wpS_bind (wpS_lift (wpAny_rule ⟨rfl, ?_⟩))
        refine wpS_bind (wpS_mono (wpS_forRange (I := fun x c st'' => st'' = st' ∧ c = (none, x, 0) ∧ ∀ i j, lo ≤ i → i < j → j < lo + x → K ky (arrOf st') j < K ky (arrOf st') i)
          (Q := fun c st'' => st'' = st' ∧ ∃ m, c = (none, m, 0) ∧ 2 ≤ m ∧ m ≤ nrem ∧ ∀ i j, lo ≤ i → i < j → j < lo + m → K ky (arrOf st') j < K ky (arrOf st') i) ?dstep ?dfin ⟨rfl, rfl, ?dinit⟩) ?dpost)
        case dinit =>
          intro i j hi hij hj
          have e1 : i = lo := by lia
          have e2 : j = lo + 1 := by lia
          subst e1; subst e2
          exact hlt
        case dfin =>
          rintro c st'' ⟨rfl, rfl, hs'⟩
          rw [show max (1 + 1) nrem = nrem by lia] at hs' ⊢
          exact (inA_2 rfl (inE_1 nrem (inA_4 rfl (by lia) (Nat.le_refl _) hs')))
        case dstep =>
          rintro x c st'' hax hxn ⟨rfl, rfl, hs'⟩
          dsimp only
          refine wpS_bind (wpS_ltK h hB (by lia) (by lia) ?_)
          by_cases hless : K ky (arrOf st'') (lo + x) < K ky (arrOf st'') (lo + x - 1)
          · simp only [hless, decide_true, if_true]
            rw [if_neg (by lia)]
            refine wpS_pure ⟨rfl, rfl, fun i j hi hij hj => ?_⟩
            by_cases hjx : j < lo + x
            · exact hs' i j hi hij hjx
            · have : j = lo + x := by lia
              subst this
              by_cases hi' : i = lo + x - 1
              · rw [hi']; exact hless
              · exact Int.lt_trans hless (hs' i (lo + x - 1) hi (by lia) (by lia))
          · simp only [hless, decide_false, Bool.false_eq_true, if_false]
            have hne := h.ne hB (i := lo + x) (j := lo + x - 1) (by lia) (by lia) (by lia)
            have hgr : K ky (arrOf st'') (lo + x - 1) < K ky (arrOf st'') (lo + x) := by lia
            refine wpS_bind (wpS_ltK h hB (by lia) (by lia) ?_)
            simp only [hgr, decide_true, if_true]
            exact wpS_pure (inA_2 rfl (inE_1 x (inA_4 rfl (by lia) (by lia) hs')))
        case dpost =>
          rintro c st'' hx1__
          refine elA_2 ?_ hx1__
          clear hx1__
          intro e0__ hy2__
          refine elE_1 hy2__ fun m => elA_4 ?_
          clear hy2__
          intro e1__ hm1 hm2 hs'
          subst e0__
          subst e1__
          dsimp only
          rw [if_neg (by lia)]
          have hsz : lo + m ≤ (arrOf st'').size := by rw [hB.size]; lia
          rw [reverseSlice'_eq]
          refine wpS_bind (wpS_modify ?_)
          have hB' : Base a₀ (setArr st'' (mirror (arrOf st'') lo (lo + m) ((lo + m - lo) / 2))) := hB.setArr (mirror_perm _ _ _ _)
          generalize hys : mirror (arrOf st'') lo (lo + m) ((lo + m - lo) / 2) = ys at hB'
          have hsy : Seg ky ys lo (lo + m) := by
            intro i j hi hij hj
            rw [← hys, K_mirror hsz, K_mirror hsz, if_pos (by lia), if_pos (by lia)]
            exact hs' _ _ (by lia) (by lia) (by lia)
          have hoy : Out (arrOf st'') ys lo (lo + nrem) := by
            intro k hk
            rw [← hys, getElem?_mirror_all hsz, if_neg (by lia)]
          refine wpS_bind (wpS_mono (wpS_forRange (I := fun x c st₃ => st₃ = setArr st'' ys ∧ c = (none, x) ∧ Seg ky ys lo (lo + x))
            (Q := fun c st₃ => st₃ = setArr st'' ys ∧ ∃ n, c = (none, n) ∧ 1 ≤ n ∧ n ≤ nrem ∧ Seg ky ys lo (lo + n)) ?tstep ?tfin ⟨rfl, rfl, hsy⟩) ?tpost)
          case tfin =>
            rintro c st₃ ⟨rfl, rfl, hs₃⟩
            rw [show max m nrem = nrem by lia] at hs₃ ⊢
            exact (inA_2 rfl (inE_1 nrem (inA_4 rfl h1 (Nat.le_refl _) hs₃)))
          case tstep =>
            rintro x c st₃ hax hxn ⟨rfl, rfl, hs₃⟩
            dsimp only
            refine wpS_bind (wpS_ltK h hB' (by lia) (by lia) ?_)
            by_cases hless : K ky (arrOf (setArr st'' ys)) (lo + x) < K ky (arrOf (setArr st'' ys)) (lo + x - 1)
            · simp only [hless, decide_true, if_true]
              exact wpS_pure (inA_2 rfl (inE_1 x (inA_4 rfl (by lia) (by lia) hs₃)))
            · simp only [hless, decide_false, Bool.false_eq_true, if_false]
              have hne := h.ne hB' (i := lo + x) (j := lo + x - 1) (by lia) (by lia) (by lia)
              exact wpS_pure ⟨rfl, rfl, hs₃.snoc (by lia) (show K ky (arrOf (setArr st'' ys)) _ < K ky (arrOf (setArr st'' ys)) _ by lia)⟩
          case tpost =>
            rintro c st₃ hx2__
            refine elA_2 ?_ hx2__
            clear hx2__
            intro e0__ hy3__
            refine elE_1 hy3__ fun k => elA_4 ?_
            clear hy3__
            intro e1__ hk1 hk2 hk3
            subst e0__
            subst e1__
            exact wpS_pure (hq k ys hB' hk1 hk2 hk3 hoy)
end
end SO
end Mine
end

section
open PySem PySem.W PyProof.Rows PySem.Calls
set_option Elab.async false
set_option maxRecDepth 100000
set_option maxHeartbeats 2000000
namespace Mine
namespace SO

def gallop' : Bool → Keyed → Array Keyed → Nat → Nat → Nat → StateT SortSt Sem (Option Nat) := sortPriv% PySem.Builtin.gallop

section
variable {prog : Program} {w : World} {A : Around} {E : Value → Shared → Prop} {s : Shared} {a₀ : Array Keyed} {ky : Value → Int}

def Pg (ky : Value → Int) (left : Bool) (key : Keyed) (arr : Array Keyed) (base i : Nat) : Bool :=
  if left then decide (K ky arr (base + i) < ky key.1) else !decide (ky key.1 < K ky arr (base + i))

theorem wpS_beyond (h : Keys prog w A E s ky a₀) {st : SortSt} {left : Bool} {key : Keyed} {arr : Array Keyed} {base i : Nat} {Q : Option Bool → SortSt → Prop} (hk : kindOf st = oneType') (hkey : key ∈ a₀.toList)
    (hi : ∃ p, arr[base + i]? = some p ∧ p ∈ a₀.toList) (hq : Q (some (Pg ky left key arr base i)) st) :
    wpS (model prog w) A E s (do let x ← elem' arr (base + i); if left then lt' x key else return (← lt' key x).map (!·)) Q st := by
  obtain ⟨p, e, m⟩ := hi
  rw [elem'_eq, e]
  have hK : K ky arr (base + i) = ky p.1 := by unfold K; rw [e]
  refine wpS_bind (wpS_pure ?_)
  unfold Pg at hq
  cases left with
  | true =>
    simp only [if_true] at hq ⊢
    rw [hK] at hq
    exact h.lt st p key Q hk m hkey hq
  | false =>
    simp only [Bool.false_eq_true, if_false] at hq ⊢
    rw [hK] at hq
    exact wpS_bind (h.lt st key p _ hk hkey m (wpS_pure hq))

theorem wpS_gallop (h : Keys prog w A E s ky a₀) {st : SortSt} {left : Bool} {key : Keyed} {arr : Array Keyed} {base n hint : Nat} {Q : Option Nat → SortSt → Prop} (hk : kindOf st = oneType') (hkey : key ∈ a₀.toList)
    (ha : ∀ i, i < n → ∃ p, arr[base + i]? = some p ∧ p ∈ a₀.toList) (hs : Seg ky arr base (base + n)) (hh : hint < n)
    (hq : ∀ k, k ≤ n → (∀ i, i < k → Pg ky left key arr base i = true) → (∀ i, k ≤ i → i < n → Pg ky left key arr base i = false) → Q (some k) st) :
    wpS (model prog w) A E s (gallop' left key arr base n hint) Q st := by
  have anti : ∀ i j, i ≤ j → j < n → Pg ky left key arr base j = true → Pg ky left key arr base i = true := by
    intro i j hij hj hP
    by_cases e : i = j
    · rw [e]; exact hP
    · have hlt := hs (base + i) (base + j) (by omega) (by omega) (by omega)
      unfold Pg at hP ⊢
      cases left with
      | true =>
        simp only [if_true, decide_eq_true_eq] at hP ⊢
        omega
      | false =>
        simp only [Bool.false_eq_true, if_false, Bool.not_eq_true', decide_eq_false_iff_not] at hP ⊢
        omega
  have antiF : ∀ i j, i ≤ j → j < n → Pg ky left key arr base i = false → Pg ky left key arr base j = false := by
    intro i j hij hj hP
    cases e : Pg ky left key arr base j with
    | false => rfl
    | true => rw [anti i j hij hj e] at hP; cases hP
  refine wpS_bind (wpS_beyond h hk hkey (ha hint hh) ?_)
  cases hP : Pg ky left key arr base hint with
  | true =>
    simp only [if_true]
    refine wpS_bind (wpS_mono (wpS_forRange (I := fun x c st' => st' = st ∧ ∃ la ofs, c = (none, la, ofs) ∧ la < ofs ∧ x + 1 ≤ ofs ∧ hint + la < n ∧ Pg ky left key arr base (hint + la) = true)
      (Q := fun c st' => st' = st ∧ ∃ la ofs, c = (none, la, ofs) ∧ la < ofs ∧ hint + la < n ∧ Pg ky left key arr base (hint + la) = true ∧ (n - hint ≤ ofs ∨ (hint + ofs < n ∧ Pg ky left key arr base (hint + ofs) = false))) ?step ?fin (inA_2 rfl (inE_2 0 1 (inA_5 rfl (by omega) (by omega) hh hP)))) ?post)
    case fin =>
      rintro c st' hx0__
      refine elA_2 ?_ hx0__
      clear hx0__
      intro e0__ hy1__
      refine elE_2 hy1__ fun la ofs => elA_5 ?_
      clear hy1__
      intro e1__ h1 h2 h3 h4
      subst e0__
      subst e1__
      exact (inA_2 rfl (inE_2 la ofs (inA_5 rfl h1 h3 h4 (.inl (by omega)))))
    case step =>
      rintro x c st' _ hx hx1__
      refine elA_2 ?_ hx1__
      clear hx1__
      intro e0__ hy2__
      refine elE_2 hy2__ fun la ofs => elA_5 ?_
      clear hy2__
      intro e1__ h1 h2 h3 h4
      subst e0__
      subst e1__
      dsimp only
      by_cases hge : ofs ≥ n - hint
      · rw [if_pos hge]
        exact wpS_pure (inA_2 rfl (inE_2 la ofs (inA_5 rfl h1 h3 h4 (.inl hge))))
      · rw [if_neg hge]
        refine wpS_bind (wpS_beyond h hk hkey (ha _ (by omega)) ?_)
        cases hP' : Pg ky left key arr base (hint + ofs) with
        | true =>
          simp only [Bool.not_true, Bool.false_eq_true, if_false]
          exact wpS_pure (inA_2 rfl (inE_2 ofs (2 * ofs + 1) (inA_5 rfl (by omega) (by omega) (by omega) hP')))
        | false =>
          simp only [Bool.not_false, if_true]
          exact wpS_pure (inA_2 rfl (inE_2 la ofs (inA_5 rfl h1 h3 h4 (.inr ⟨by omega, hP'⟩))))
    case post =>
      rintro c stq hx2__
      refine elA_2 ?_ hx2__
      clear hx2__
      intro e0__ hy3__
      refine elE_2 hy3__ fun la ofs => elA_5 ?_
      clear hy3__
      intro e1__ h1 h3 h4 h5
      subst e0__
      subst e1__
      dsimp only
      have hlh : hint + la + 1 ≤ hint + min ofs (n - hint) := by omega
      have hhn : hint + min ofs (n - hint) ≤ n := by omega
      have hlo : ∀ i, i < hint + la + 1 → Pg ky left key arr base i = true := fun i hi => anti i _ (by omega) h3 h4
      have hhi : ∀ i, hint + min ofs (n - hint) ≤ i → i < n → Pg ky left key arr base i = false := fun i h6 h7 => by
        rcases h5 with h5 | ⟨h5, h8⟩
        · omega
        · exact antiF (hint + ofs) i (by omega) h7 h8
      clear h1 h3 h4 h5
      refine wpS_bind (wpS_mono (wpS_forRange (I := fun x c st' => st' = stq ∧ ∃ lo hi, c = (none, lo, hi) ∧ lo ≤ hi ∧ hi ≤ n ∧ hi - lo ≤ n - x ∧ (∀ i, i < lo → Pg ky left key arr base i = true) ∧ (∀ i, hi ≤ i → i < n → Pg ky left key arr base i = false))
        (Q := fun c st' => st' = stq ∧ ∃ hi, c = (none, hi, hi) ∧ hi ≤ n ∧ (∀ i, i < hi → Pg ky left key arr base i = true) ∧ (∀ i, hi ≤ i → i < n → Pg ky left key arr base i = false)) ?step3 ?fin3 (inA_2 rfl (inE_2 _ _ (inA_6 rfl hlh hhn (by omega) hlo hhi)))) ?post3)
      case fin3 =>
        rintro c st' hx3__
        refine elA_2 ?_ hx3__
        clear hx3__
        intro e0__ hy4__
        refine elE_2 hy4__ fun lo hi => elA_6 ?_
        clear hy4__
        intro e1__ h1 h2 h3 h4 h5
        subst e0__
        subst e1__
        have : lo = hi := by omega
        subst this
        exact (inA_2 rfl (inE_1 lo (inA_4 rfl h2 h4 h5)))
      case post3 =>
        rintro c st' hx4__
        refine elA_2 ?_ hx4__
        clear hx4__
        intro e0__ hy5__
        refine elE_1 hy5__ fun hi => elA_4 ?_
        clear hy5__
        intro e1__ h2 h4 h5
        subst e0__
        subst e1__
        exact wpS_pure (hq hi h2 h4 h5)
      case step3 =>
        rintro x c st' _ hx hx5__
        refine elA_2 ?_ hx5__
        clear hx5__
        intro e0__ hy6__
        refine elE_2 hy6__ fun lo hi => elA_6 ?_
        clear hy6__
        intro e1__ h1 h2 h3 h4 h5
        subst e0__
        subst e1__
        dsimp only
        by_cases hge : lo ≥ hi
        · rw [if_pos hge]
          have : lo = hi := by omega
          subst this
          exact wpS_pure (inA_2 rfl (inE_1 lo (inA_4 rfl h2 h4 h5)))
        · rw [if_neg hge]
          refine wpS_bind (wpS_beyond h hk hkey (ha _ (by omega)) ?_)
          cases hP : Pg ky left key arr base (lo + (hi - lo) / 2) with
          | true =>
            simp only [if_true]
            exact wpS_pure (inA_2 rfl (inE_2 _ _ (inA_6 rfl (by omega) h2 (by omega) (fun i hi' => anti i _ (by omega) (by omega) hP) h5)))
          | false =>
            simp only [Bool.false_eq_true, if_false]
            exact wpS_pure (inA_2 rfl (inE_2 _ _ (inA_6 rfl (by omega) (by omega) (by omega) h4 (fun i h6 h7 => antiF _ i h6 h7 hP))))
  | false =>
    simp only [Bool.false_eq_true, if_false]
    refine wpS_bind (wpS_mono (wpS_forRange (I := fun x c st' => st' = st ∧ ∃ la ofs, c = (none, la, ofs) ∧ la < ofs ∧ x + 1 ≤ ofs ∧ la ≤ hint ∧ Pg ky left key arr base (hint - la) = false)
      (Q := fun c st' => st' = st ∧ ∃ la ofs, c = (none, la, ofs) ∧ la < ofs ∧ la ≤ hint ∧ Pg ky left key arr base (hint - la) = false ∧ (hint + 1 ≤ ofs ∨ (ofs ≤ hint ∧ Pg ky left key arr base (hint - ofs) = true))) ?step ?fin (inA_2 rfl (inE_2 0 1 (inA_5 rfl (by omega) (by omega) (by omega) hP)))) ?post)
    case fin =>
      rintro c st' hx6__
      refine elA_2 ?_ hx6__
      clear hx6__
      intro e0__ hy7__
      refine elE_2 hy7__ fun la ofs => elA_5 ?_
      clear hy7__
      intro e1__ h1 h2 h3 h4
      subst e0__
      subst e1__
      exact (inA_2 rfl (inE_2 la ofs (inA_5 rfl h1 h3 h4 (.inl (by omega)))))
    case step =>
      rintro x c st' _ hx hx7__
      refine elA_2 ?_ hx7__
      clear hx7__
      intro e0__ hy8__
      refine elE_2 hy8__ fun la ofs => elA_5 ?_
      clear hy8__
      intro e1__ h1 h2 h3 h4
      subst e0__
      subst e1__
      dsimp only
      by_cases hge : ofs ≥ hint + 1
      · rw [if_pos hge]
        exact wpS_pure (inA_2 rfl (inE_2 la ofs (inA_5 rfl h1 h3 h4 (.inl hge))))
      · rw [if_neg hge]
        refine wpS_bind (wpS_beyond h hk hkey (ha _ (by omega)) ?_)
        cases hP' : Pg ky left key arr base (hint - ofs) with
        | true =>
          simp only [if_true]
          exact wpS_pure (inA_2 rfl (inE_2 la ofs (inA_5 rfl h1 h3 h4 (.inr ⟨by omega, hP'⟩))))
        | false =>
          simp only [Bool.false_eq_true, if_false]
          exact wpS_pure (inA_2 rfl (inE_2 ofs (2 * ofs + 1) (inA_5 rfl (by omega) (by omega) (by omega) hP')))
    case post =>
      rintro c stq hx8__
      refine elA_2 ?_ hx8__
      clear hx8__
      intro e0__ hy9__
      refine elE_2 hy9__ fun la ofs => elA_5 ?_
      clear hy9__
      intro e1__ h1 h3 h4 h5
      subst e0__
      subst e1__
      dsimp only
      have hlh : hint + 1 - min ofs (hint + 1) ≤ hint - la := by omega
      have hhn : hint - la ≤ n := by omega
      have hlo : ∀ i, i < hint + 1 - min ofs (hint + 1) → Pg ky left key arr base i = true := fun i hi => by
        rcases h5 with h5 | ⟨h5, h8⟩
        · omega
        · exact anti i (hint - ofs) (by omega) (by omega) h8
      have hhi : ∀ i, hint - la ≤ i → i < n → Pg ky left key arr base i = false := fun i h6 h7 => antiF (hint - la) i h6 h7 h4
      clear h1 h3 h4 h5
      refine wpS_bind (wpS_mono (wpS_forRange (I := fun x c st' => st' = stq ∧ ∃ lo hi, c = (none, lo, hi) ∧ lo ≤ hi ∧ hi ≤ n ∧ hi - lo ≤ n - x ∧ (∀ i, i < lo → Pg ky left key arr base i = true) ∧ (∀ i, hi ≤ i → i < n → Pg ky left key arr base i = false))
        (Q := fun c st' => st' = stq ∧ ∃ hi, c = (none, hi, hi) ∧ hi ≤ n ∧ (∀ i, i < hi → Pg ky left key arr base i = true) ∧ (∀ i, hi ≤ i → i < n → Pg ky left key arr base i = false)) ?step3 ?fin3 (inA_2 rfl (inE_2 _ _ (inA_6 rfl hlh hhn (by omega) hlo hhi)))) ?post3)
      case fin3 =>
        rintro c st' hx9__
        refine elA_2 ?_ hx9__
        clear hx9__
        intro e0__ hy10__
        refine elE_2 hy10__ fun lo hi => elA_6 ?_
        clear hy10__
        intro e1__ h1 h2 h3 h4 h5
        subst e0__
        subst e1__
        have : lo = hi := by omega
        subst this
        exact (inA_2 rfl (inE_1 lo (inA_4 rfl h2 h4 h5)))
      case post3 =>
        rintro c st' hx10__
        refine elA_2 ?_ hx10__
        clear hx10__
        intro e0__ hy11__
        refine elE_1 hy11__ fun hi => elA_4 ?_
        clear hy11__
        intro e1__ h2 h4 h5
        subst e0__
        subst e1__
        exact wpS_pure (hq hi h2 h4 h5)
      case step3 =>
        rintro x c st' _ hx hx11__
        refine elA_2 ?_ hx11__
        clear hx11__
        intro e0__ hy12__
        refine elE_2 hy12__ fun lo hi => elA_6 ?_
        clear hy12__
        intro e1__ h1 h2 h3 h4 h5
        subst e0__
        subst e1__
        dsimp only
        by_cases hge : lo ≥ hi
        · rw [if_pos hge]
          have : lo = hi := by omega
          subst this
          exact wpS_pure (inA_2 rfl (inE_1 lo (inA_4 rfl h2 h4 h5)))
        · rw [if_neg hge]
          refine wpS_bind (wpS_beyond h hk hkey (ha _ (by omega)) ?_)
          cases hP : Pg ky left key arr base (lo + (hi - lo) / 2) with
          | true =>
            simp only [if_true]
            exact wpS_pure (inA_2 rfl (inE_2 _ _ (inA_6 rfl (by omega) h2 (by omega) (fun i hi' => anti i _ (by omega) (by omega) hP) h5)))
          | false =>
            simp only [Bool.false_eq_true, if_false]
            exact wpS_pure (inA_2 rfl (inE_2 _ _ (inA_6 rfl (by omega) (by omega) (by omega) h4 (fun i h6 h7 => antiF _ i h6 h7 hP))))
end
end SO
end Mine
end

section
open PySem PySem.W PyProof.Rows PySem.Calls
set_option Elab.async false
set_option maxRecDepth 100000
set_option maxHeartbeats 2000000
namespace Mine
namespace SO

def setMinGallop' : Nat → StateT SortSt Sem Unit := sortPriv% PySem.Builtin.setMinGallop
abbrev setGallop (st : SortSt) (g : Nat) : SortSt := SortSt.mk' (kindOf st) (arrOf st) (pendingOf st) g (failedOf st)
theorem setMinGallop'_eq (g : Nat) : setMinGallop' g = modify fun s => setGallop s g := rfl
def mergeLo' : Array Keyed → Array Keyed → StateT SortSt Sem (Array Keyed) := sortPriv% PySem.Builtin.mergeLo

def R (ky : Value → Int) (x y : Keyed) : Prop := ky x.1 < ky y.1
def Fin' (ky : Value → Int) (la lb r : List Keyed) : Prop := r.Perm (la ++ lb) ∧ r.Pairwise (R ky)

structure Mg (ky : Value → Int) (la lb out : List Keyed) (ia ib : Nat) : Prop where
  perm : out.Perm (la.take ia ++ lb.take ib)
  srt : out.Pairwise (R ky)
  xa : ∀ x ∈ out, ∀ y ∈ la.drop ia, R ky x y
  xb : ∀ x ∈ out, ∀ y ∈ lb.drop ib, R ky x y

section
variable {ky : Value → Int} {la lb out : List Keyed} {ia ib : Nat} {x : Keyed}

theorem drop_at {l : List Keyed} {i : Nat} (h : l[i]? = some x) : l.drop i = x :: l.drop (i + 1) := by
  obtain ⟨hi, rfl⟩ := List.getElem?_eq_some_iff.mp h
  exact List.drop_eq_getElem_cons hi
theorem take_at {l : List Keyed} {i : Nat} (h : l[i]? = some x) : l.take (i + 1) = l.take i ++ [x] := by
  rw [List.take_add_one, h]; rfl
theorem drop_sub {l : List Keyed} {i : Nat} {y : Keyed} (h : y ∈ l.drop (i + 1)) : y ∈ l.drop i := by
  rw [← List.drop_drop] at h
  exact List.mem_of_mem_drop h
theorem after {l : List Keyed} {i : Nat} (hs : l.Pairwise (R ky)) (h : l[i]? = some x) : ∀ y ∈ l.drop (i + 1), R ky x y := by
  have h1 : (l.drop i).Pairwise (R ky) := hs.sublist (List.drop_sublist _ _)
  rw [drop_at h] at h1
  exact (List.pairwise_cons.mp h1).1

theorem Mg.pushB (h : Mg ky la lb out ia ib) (hb : lb[ib]? = some x) (sb : lb.Pairwise (R ky)) (hx : ∀ y ∈ la.drop ia, R ky x y) : Mg ky la lb (out ++ [x]) ia (ib + 1) where
  perm := by rw [take_at hb, ← List.append_assoc]; exact h.perm.append_right _
  srt := List.pairwise_append.mpr ⟨h.srt, List.pairwise_singleton _ _, fun u hu v hv => by
    rw [List.mem_singleton.mp hv]
    exact h.xb u hu x (by rw [drop_at hb]; exact .head _)⟩
  xa := fun u hu v hv => by
    rcases List.mem_append.mp hu with hu | hu
    · exact h.xa u hu v hv
    · rw [List.mem_singleton.mp hu]; exact hx v hv
  xb := fun u hu v hv => by
    rcases List.mem_append.mp hu with hu | hu
    · exact h.xb u hu v (drop_sub hv)
    · rw [List.mem_singleton.mp hu]; exact after sb hb v hv
theorem Mg.pushA (h : Mg ky la lb out ia ib) (ha : la[ia]? = some x) (sa : la.Pairwise (R ky)) (hx : ∀ y ∈ lb.drop ib, R ky x y) : Mg ky la lb (out ++ [x]) (ia + 1) ib where
  perm := by
    rw [take_at ha, List.append_assoc]
    refine (h.perm.append_right _).trans ?_
    rw [List.append_assoc]
    exact List.perm_append_comm.append_left _
  srt := List.pairwise_append.mpr ⟨h.srt, List.pairwise_singleton _ _, fun u hu v hv => by
    rw [List.mem_singleton.mp hv]
    exact h.xa u hu x (by rw [drop_at ha]; exact .head _)⟩
  xa := fun u hu v hv => by
    rcases List.mem_append.mp hu with hu | hu
    · exact h.xa u hu v (drop_sub hv)
    · rw [List.mem_singleton.mp hu]; exact after sa ha v hv
  xb := fun u hu v hv => by
    rcases List.mem_append.mp hu with hu | hu
    · exact h.xb u hu v hv
    · rw [List.mem_singleton.mp hu]; exact hx v hv

theorem Mg.moreA (h : Mg ky la lb out ia ib) (sa : la.Pairwise (R ky)) : ∀ k, ia + k ≤ la.length → (∀ i x, i < k → la[ia + i]? = some x → ∀ y ∈ lb.drop ib, R ky x y) → Mg ky la lb (out ++ (la.drop ia).take k) (ia + k) ib := by
  intro k
  induction k with
  | zero => intro _ _; simpa using h
  | succ k ih =>
    intro hk hx
    have h1 := ih (by lia) fun i x hi => hx i x (by lia)
    have hg : la[ia + k]? = some (la[ia + k]'(by lia)) := List.getElem?_eq_getElem _
    have := h1.pushA hg sa (hx k _ (by lia) hg)
    rw [List.take_add_one, List.getElem?_drop, hg, ← List.append_assoc]
    exact this
theorem Mg.moreB (h : Mg ky la lb out ia ib) (sb : lb.Pairwise (R ky)) : ∀ k, ib + k ≤ lb.length → (∀ i x, i < k → lb[ib + i]? = some x → ∀ y ∈ la.drop ia, R ky x y) → Mg ky la lb (out ++ (lb.drop ib).take k) ia (ib + k) := by
  intro k
  induction k with
  | zero => intro _ _; simpa using h
  | succ k ih =>
    intro hk hx
    have h1 := ih (by lia) fun i x hi => hx i x (by lia)
    have hg : lb[ib + k]? = some (lb[ib + k]'(by lia)) := List.getElem?_eq_getElem _
    have := h1.pushB hg sb (hx k _ (by lia) hg)
    rw [List.take_add_one, List.getElem?_drop, hg, ← List.append_assoc]
    exact this

theorem Mg.all (h : Mg ky la lb out ia ib) : (out ++ la.drop ia ++ lb.drop ib).Perm (la ++ lb) := by
  rw [List.append_assoc]
  refine (h.perm.append_right _).trans ?_
  have e1 : la = la.take ia ++ la.drop ia := (List.take_append_drop _ _).symm
  have e2 : lb = lb.take ib ++ lb.drop ib := (List.take_append_drop _ _).symm
  have : (la.take ia ++ lb.take ib ++ (la.drop ia ++ lb.drop ib)).Perm ((la.take ia ++ la.drop ia) ++ (lb.take ib ++ lb.drop ib)) := by
    simp only [List.append_assoc]
    refine List.Perm.append_left _ ?_
    rw [← List.append_assoc, ← List.append_assoc]
    exact List.perm_append_comm.append_right _
  rwa [← e1, ← e2] at this
theorem Mg.doneB (h : Mg ky la lb out ia ib) (sa : la.Pairwise (R ky)) (hb : lb.length ≤ ib) : Fin' ky la lb (out ++ la.drop ia ++ lb.drop ib) := by
  refine ⟨h.all, ?_⟩
  rw [List.drop_of_length_le hb, List.append_nil]
  exact List.pairwise_append.mpr ⟨h.srt, sa.sublist (List.drop_sublist _ _), h.xa⟩
theorem Mg.doneA (h : Mg ky la lb out ia ib) (sb : lb.Pairwise (R ky)) (ha : la.length ≤ ia) : Fin' ky la lb (out ++ la.drop ia ++ lb.drop ib) := by
  refine ⟨h.all, ?_⟩
  rw [List.drop_of_length_le ha, List.append_nil]
  exact List.pairwise_append.mpr ⟨h.srt, sb.sublist (List.drop_sublist _ _), h.xb⟩
theorem Mg.last (h : Mg ky la lb out ia ib) (sa : la.Pairwise (R ky)) (sb : lb.Pairwise (R ky)) (hl : ∀ x ∈ lb, ∀ y ∈ la.drop ia, R ky x y) : Fin' ky la lb (out ++ lb.drop ib ++ la.drop ia) := by
  refine ⟨?_, ?_⟩
  · refine List.Perm.trans ?_ h.all
    rw [List.append_assoc, List.append_assoc]
    exact List.perm_append_comm.append_left _
  · refine List.pairwise_append.mpr ⟨List.pairwise_append.mpr ⟨h.srt, sb.sublist (List.drop_sublist _ _), h.xb⟩, sa.sublist (List.drop_sublist _ _), fun u hu v hv => ?_⟩
    rcases List.mem_append.mp hu with hu | hu
    · exact h.xa u hu v hv
    · exact hl u (List.mem_of_mem_drop hu) v hv

theorem K_list {a : Array Keyed} {i : Nat} (h : a.toList[i]? = some x) : K ky a i = ky x.1 := by
  unfold K
  rw [show a[i]? = some x by simpa using h]
theorem Seg.of_list {a : Array Keyed} (h : a.toList.Pairwise (R ky)) (lo hi : Nat) (hh : hi ≤ a.size) : Seg ky a lo hi := by
  intro i j hi' hij hj
  have hi2 : i < a.toList.length := by simp; lia
  have hj2 : j < a.toList.length := by simp; lia
  rw [K_list (List.getElem?_eq_getElem hi2), K_list (List.getElem?_eq_getElem hj2)]
  exact List.pairwise_iff_getElem.mp h i j hi2 hj2 hij
theorem Seg.to_list {a : Array Keyed} (h : Seg ky a 0 a.size) : a.toList.Pairwise (R ky) := by
  rw [List.pairwise_iff_getElem]
  intro i j hi hj hij
  have := h i j (Nat.zero_le _) hij (by simpa using hj)
  rwa [K_list (List.getElem?_eq_getElem hi), K_list (List.getElem?_eq_getElem hj)] at this
end
end SO
end Mine
end

section
open PySem PySem.W PyProof.Rows PySem.Calls
set_option Elab.async false
set_option maxRecDepth 100000
set_option maxHeartbeats 2000000
namespace Mine
namespace SO

/-- the gallop loop's state: r, out, ia, ib, minGallop, acount, bcount -/
abbrev LT := Option (Array Keyed) × Array Keyed × Nat × Nat × Nat × Nat × Nat
def loDone (a b out : Array Keyed) (ia ib : Nat) : Array Keyed := out ++ a.extract ia a.size ++ b.extract ib b.size
def loLast (a b out : Array Keyed) (ia ib : Nat) : Array Keyed := out ++ b.extract ib b.size ++ a.extract ia a.size
def lo4 (a b out : Array Keyed) (ia ib mg ac bc : Nat) : StateT SortSt Sem (ForInStep LT) := do
  let x ← elem' a ia
  if ia + 1 + 1 == a.size then pure (.done (some (loLast a b (out.push x) (ia + 1) ib), out.push x, ia + 1, ib, mg, ac, bc))
  else if ac < 7 && bc < 7 then pure (.done (none, out.push x, ia + 1, ib, mg, ac, bc)) else pure (.yield (none, out.push x, ia + 1, ib, mg, ac, bc))
def lo3 (a b out : Array Keyed) (ia ib mg ac bc : Nat) : StateT SortSt Sem (ForInStep LT) := do
  let y ← elem' b ib
  if ib + 1 == b.size then pure (.done (some (loDone a b (out.push y) ia (ib + 1)), out.push y, ia, ib + 1, mg, ac, bc))
  else
    let z ← elem' a ia
    let r ← gallop' true z b (ib + 1) (b.size - (ib + 1)) 0
    match r with
    | some k =>
      if k > 0 then
        if ib + 1 + k == b.size then pure (.done (some (loDone a b (out.push y ++ b.extract (ib + 1) (ib + 1 + k)) ia (ib + 1 + k)), out.push y ++ b.extract (ib + 1) (ib + 1 + k), ia, ib + 1 + k, mg, ac, k))
        else lo4 a b (out.push y ++ b.extract (ib + 1) (ib + 1 + k)) ia (ib + 1 + k) mg ac k
      else lo4 a b (out.push y) ia (ib + 1) mg ac k
    | _ => pure (.done (some (loDone a b (out.push y) ia (ib + 1)), out.push y, ia, ib + 1, mg, ac, bc))
def lo2 (a b out : Array Keyed) (ia ib mg ac bc : Nat) : StateT SortSt Sem (ForInStep LT) := do
  setMinGallop' mg
  let y ← elem' b ib
  let r ← gallop' false y a ia (a.size - ia) 0
  match r with
  | some k =>
    if k > 0 then
      if ia + k + 1 == a.size then pure (.done (some (loLast a b (out ++ a.extract ia (ia + k)) (ia + k) ib), out ++ a.extract ia (ia + k), ia + k, ib, mg, k, bc))
      else if ia + k == a.size then pure (.done (some (loDone a b (out ++ a.extract ia (ia + k)) (ia + k) ib), out ++ a.extract ia (ia + k), ia + k, ib, mg, k, bc))
      else lo3 a b (out ++ a.extract ia (ia + k)) (ia + k) ib mg k bc
    else lo3 a b out ia ib mg k bc
  | _ => pure (.done (some (loDone a b out ia ib), out, ia, ib, mg, ac, bc))

structure LoC (ky : Value → Int) (st : SortSt) (a b a₀ : Array Keyed) : Prop where
  hk : kindOf st = oneType'
  ha : ∀ p ∈ a.toList, p ∈ a₀.toList
  hb : ∀ p ∈ b.toList, p ∈ a₀.toList
  sa : a.toList.Pairwise (R ky)
  sb : b.toList.Pairwise (R ky)
  hne : ∀ x ∈ a.toList, ∀ y ∈ b.toList, ky x.1 ≠ ky y.1
  hlast : ∀ x ∈ b.toList, ∀ y ∈ a.toList.drop (a.size - 1), R ky x y
/-- what is out stands below both rests; x turns are over -/
structure LoS (ky : Value → Int) (a b out : Array Keyed) (ia ib x : Nat) : Prop where
  m : Mg ky a.toList b.toList out.toList ia ib
  h1 : ia + 1 < a.size
  h2 : ib < b.size
  h3 : x ≤ ia + ib
structure LoR (ky : Value → Int) (st : SortSt) (a b : Array Keyed) (x : Nat) (P : ForInStep LT → SortSt → Prop) : Prop where
  fin : ∀ r out ia ib mg ac bc g, Fin' ky a.toList b.toList (r : Array Keyed).toList → P (.done (some r, out, ia, ib, mg, ac, bc)) (setGallop st g)
  brk : ∀ out ia ib mg ac bc g, LoS ky a b out ia ib x → P (.done (none, out, ia, ib, mg, ac, bc)) (setGallop st g)
  yld : ∀ out ia ib mg ac bc g, LoS ky a b out ia ib x → P (.yield (none, out, ia, ib, mg, ac, bc)) (setGallop st g)

theorem toList_rest (out a b : Array Keyed) (ia ib : Nat) : (out ++ a.extract ia a.size ++ b.extract ib b.size).toList = out.toList ++ a.toList.drop ia ++ b.toList.drop ib := by
  simp only [Array.toList_append, Array.toList_extract, List.extract_eq_take_drop]
  rw [List.take_of_length_le (by simp), List.take_of_length_le (by simp)]
theorem toList_part (out a : Array Keyed) (ia k : Nat) : (out ++ a.extract ia (ia + k)).toList = out.toList ++ (a.toList.drop ia).take k := by
  simp only [Array.toList_append, Array.toList_extract, List.extract_eq_take_drop, Nat.add_sub_cancel_left]
theorem get_at {a : Array Keyed} {i : Nat} (h : i < a.size) : ∃ p, a.toList[i]? = some p ∧ p ∈ a.toList := ⟨a.toList[i]'(by simpa using h), List.getElem?_eq_getElem _, List.getElem_mem _⟩
theorem at_lt {a : Array Keyed} {i : Nat} {p : Keyed} (h : a.toList[i]? = some p) : i < a.size := by simpa using (List.getElem?_eq_some_iff.mp h).1
theorem aft {ky : Value → Int} {l : List Keyed} {i : Nat} {x z : Keyed} (hs : l.Pairwise (R ky)) (hx : l[i]? = some x) (hz : R ky z x) : ∀ y ∈ l.drop i, R ky z y := fun y hy => by
  rw [drop_at hx] at hy
  rcases List.mem_cons.mp hy with rfl | hy
  · exact hz
  · exact Int.lt_trans hz (after hs hx y hy)

section
variable {prog : Program} {w : World} {A : Around} {E : Value → Shared → Prop} {s : Shared} {a₀ : Array Keyed} {ky : Value → Int} {st : SortSt} {a b out : Array Keyed} {ia ib mg ac bc x g : Nat} {P : ForInStep LT → SortSt → Prop}

theorem wpS_elem {M : Model} {st : SortSt} {arr : Array Keyed} {i : Nat} {p : Keyed} {Q : Keyed → SortSt → Prop} (h : arr.toList[i]? = some p) (hq : Q p st) : wpS M A E s (elem' arr i) Q st := by
  rw [elem'_eq, show arr[i]? = some p by simpa using h]
  exact wpS_pure hq

theorem LoC.doneB (C : LoC ky st a b a₀) (hm : Mg ky a.toList b.toList out.toList ia ib) (hi : b.size ≤ ib) : Fin' ky a.toList b.toList (loDone a b out ia ib).toList := by
  rw [loDone, toList_rest]; exact hm.doneB C.sa (by simpa using hi)
theorem LoC.doneA (C : LoC ky st a b a₀) (hm : Mg ky a.toList b.toList out.toList ia ib) (hi : a.size ≤ ia) : Fin' ky a.toList b.toList (loDone a b out ia ib).toList := by
  rw [loDone, toList_rest]; exact hm.doneA C.sb (by simpa using hi)
theorem LoC.last (C : LoC ky st a b a₀) (hm : Mg ky a.toList b.toList out.toList ia ib) (hi : ia + 1 = a.size) : Fin' ky a.toList b.toList (loLast a b out ia ib).toList := by
  rw [loLast, toList_rest]
  refine hm.last C.sa C.sb ?_
  rw [Nat.eq_sub_of_add_eq hi]
  exact C.hlast
theorem LoC.rel (C : LoC ky st a b a₀) {p q : Keyed} (hp : p ∈ a.toList) (hq : q ∈ b.toList) (hn : ¬ ky q.1 < ky p.1) : R ky p q := by
  have := C.hne p hp q hq
  show ky p.1 < ky q.1
  lia
theorem LoS.le {x' : Nat} (S : LoS ky a b out ia ib x) (h : x' ≤ x) : LoS ky a b out ia ib x' := ⟨S.m, S.h1, S.h2, Nat.le_trans h S.h3⟩

theorem lo4_ok (C : LoC ky st a b a₀) (H : LoR ky st a b x P) (hm : Mg ky a.toList b.toList out.toList ia ib) (hx : ∀ pa, a.toList[ia]? = some pa → ∀ z, b.toList[ib]? = some z → R ky pa z)
    (h1 : ia + 1 < a.size) (h2 : ib < b.size) (h3 : x ≤ ia + 1 + ib) : wpS (model prog w) A E s (lo4 a b out ia ib mg ac bc) P (setGallop st g) := by
  obtain ⟨pa, hpa, hpam⟩ := get_at (Nat.lt_of_succ_lt h1)
  obtain ⟨pb, hpb, hpbm⟩ := get_at h2
  have hmD : Mg ky a.toList b.toList (out.push pa).toList (ia + 1) ib := by
    rw [Array.toList_push]
    exact hm.pushA hpa C.sa (aft C.sb hpb (hx pa hpa pb hpb))
  unfold lo4
  refine wpS_bind (wpS_elem hpa ?_)
  by_cases hz : (ia + 1 + 1 == a.size) = true
  · rw [if_pos hz]
    exact wpS_pure (H.fin _ _ _ _ _ _ _ _ (C.last hmD (by simpa using hz)))
  · rw [if_neg hz]
    have S : LoS ky a b (out.push pa) (ia + 1) ib x := ⟨hmD, by simp at hz; lia, h2, h3⟩
    split
    · exact wpS_pure (H.brk _ _ _ _ _ _ _ S)
    · exact wpS_pure (H.yld _ _ _ _ _ _ _ S)

theorem lo3_ok (h : Keys prog w A E s ky a₀) (C : LoC ky st a b a₀) (H : LoR ky st a b x P) (hm : Mg ky a.toList b.toList out.toList ia ib) (hx : ∀ pb, b.toList[ib]? = some pb → ∀ z, a.toList[ia]? = some z → R ky pb z)
    (h1 : ia + 1 < a.size) (h2 : ib < b.size) (h3 : x ≤ ia + ib + 1) : wpS (model prog w) A E s (lo3 a b out ia ib mg ac bc) P (setGallop st g) := by
  have hlb : b.toList.length = b.size := by simp
  obtain ⟨pb, hpb, hpbm⟩ := get_at h2
  obtain ⟨pa, hpa, hpam⟩ := get_at (Nat.lt_of_succ_lt h1)
  have hmB : Mg ky a.toList b.toList (out.push pb).toList ia (ib + 1) := by
    rw [Array.toList_push]
    exact hm.pushB hpb C.sb (aft C.sa hpa (hx pb hpb pa hpa))
  unfold lo3
  refine wpS_bind (wpS_elem hpb ?_)
  by_cases he : (ib + 1 == b.size) = true
  · rw [if_pos he]
    exact wpS_pure (H.fin _ _ _ _ _ _ _ _ (C.doneB hmB (by simp at he; lia)))
  · rw [if_neg he]
    have he' : ib + 1 < b.size := by simp at he; lia
    refine wpS_bind (wpS_elem hpa (wpS_bind (wpS_gallop h C.hk (C.ha _ hpam) (fun i hi => ?els2) (Seg.of_list C.sb _ _ (by lia)) (by lia) fun k hj1 hj2 hj3 => ?_)))
    case els2 =>
      obtain ⟨p, hp, hpm⟩ := get_at (show ib + 1 + i < b.size by lia)
      exact ⟨p, by simpa using hp, C.hb p hpm⟩
    have hgC : ∀ pa', a.toList[ia]? = some pa' → ∀ z, b.toList[ib + 1 + k]? = some z → R ky pa' z := by
      intro pa' hpa' z hz
      rw [hpa] at hpa'
      cases hpa'
      have hzl := at_lt hz
      have := hj3 k (Nat.le_refl _) (by lia)
      simp only [Pg, if_true, decide_eq_false_iff_not] at this
      rw [K_list hz] at this
      exact C.rel hpam (List.mem_of_getElem? hz) this
    dsimp only
    by_cases hk2 : k > 0
    · rw [if_pos hk2]
      have hmC : Mg ky a.toList b.toList (out.push pb ++ b.extract (ib + 1) (ib + 1 + k)).toList ia (ib + 1 + k) := by
        rw [toList_part]
        refine hmB.moreB C.sb k (by lia) fun i z hi hz => aft C.sa hpa ?_
        have := hj2 i hi
        simp only [Pg, if_true, decide_eq_true_eq] at this
        rwa [K_list hz] at this
      by_cases he2 : (ib + 1 + k == b.size) = true
      · rw [if_pos he2]
        exact wpS_pure (H.fin _ _ _ _ _ _ _ _ (C.doneB hmC (by simp at he2; lia)))
      · rw [if_neg he2]
        exact lo4_ok C H hmC hgC h1 (by simp at he2; lia) (by lia)
    · rw [if_neg hk2]
      obtain rfl : k = 0 := by lia
      exact lo4_ok C H hmB hgC h1 he' (by lia)

theorem lo2_ok (h : Keys prog w A E s ky a₀) (C : LoC ky st a b a₀) (H : LoR ky st a b (x + 1) P) (S : LoS ky a b out ia ib x) : wpS (model prog w) A E s (lo2 a b out ia ib mg ac bc) P (setGallop st g) := by
  have hla : a.toList.length = a.size := by simp
  have h1 := S.h1
  have h2 := S.h2
  have h3 := S.h3
  obtain ⟨pb, hpb, hpbm⟩ := get_at h2
  unfold lo2
  rw [setMinGallop'_eq]
  refine wpS_bind (wpS_modify ?_)
  refine wpS_bind (wpS_elem hpb (wpS_bind (wpS_gallop h C.hk (C.hb _ hpbm) (fun i hi => ?els) (Seg.of_list C.sa _ _ (by lia)) (by lia) fun k hk1 hk2 hk3 => ?_)))
  case els =>
    obtain ⟨p, hp, hpm⟩ := get_at (show ia + i < a.size by lia)
    exact ⟨p, by simpa using hp, C.ha p hpm⟩
  have hgA : ∀ pb', b.toList[ib]? = some pb' → ∀ z, a.toList[ia + k]? = some z → R ky pb' z := by
    intro pb' hpb' z hz
    rw [hpb] at hpb'
    cases hpb'
    have hzl := at_lt hz
    have := hk3 k (Nat.le_refl _) (by lia)
    simp only [Pg, Bool.false_eq_true, if_false, Bool.not_eq_false', decide_eq_true_eq] at this
    rwa [K_list hz] at this
  dsimp only
  by_cases hk0 : k > 0
  · rw [if_pos hk0]
    have hmA : Mg ky a.toList b.toList (out ++ a.extract ia (ia + k)).toList (ia + k) ib := by
      rw [toList_part]
      refine S.m.moreA C.sa k (by lia) fun i z hi hz => aft C.sb hpb ?_
      have := hk2 i hi
      simp only [Pg, Bool.false_eq_true, if_false, Bool.not_eq_true', decide_eq_false_iff_not] at this
      rw [K_list hz] at this
      exact C.rel (List.mem_of_getElem? hz) hpbm this
    by_cases hl : (ia + k + 1 == a.size) = true
    · rw [if_pos hl]
      exact wpS_pure (H.fin _ _ _ _ _ _ _ _ (C.last hmA (by simpa using hl)))
    · rw [if_neg hl]
      by_cases hl2 : (ia + k == a.size) = true
      · rw [if_pos hl2]
        exact wpS_pure (H.fin _ _ _ _ _ _ _ _ (C.doneA hmA (by simp at hl2; lia)))
      · rw [if_neg hl2]
        exact lo3_ok (st := st) (g := mg) h C H hmA hgA (by simp at hl hl2; lia) h2 (by lia)
  · rw [if_neg hk0]
    obtain rfl : k = 0 := by lia
    exact lo3_ok (st := st) (g := mg) h C H S.m hgA h1 h2 (by lia)

theorem lo2_ite (h : Keys prog w A E s ky a₀) (C : LoC ky st a b a₀) (H : LoR ky st a b (x + 1) P) (S : LoS ky a b out ia ib x) :
    wpS (model prog w) A E s (if mg > 1 then lo2 a b out ia ib (mg - 1) ac bc else lo2 a b out ia ib mg ac bc) P (setGallop st g) := by
  split
  · exact lo2_ok h C H S
  · exact lo2_ok h C H S

theorem wpS_mergeLo (h : Keys prog w A E s ky a₀) {st : SortSt} {a b : Array Keyed} {Q : Array Keyed → SortSt → Prop} (hk : kindOf st = oneType') (ha : ∀ p ∈ a.toList, p ∈ a₀.toList) (hb : ∀ p ∈ b.toList, p ∈ a₀.toList)
    (sa : a.toList.Pairwise (R ky)) (sb : b.toList.Pairwise (R ky)) (na1 : 1 ≤ a.size) (nb1 : 1 ≤ b.size) (hne : ∀ x ∈ a.toList, ∀ y ∈ b.toList, ky x.1 ≠ ky y.1)
    (h0 : ∀ x, b.toList[0]? = some x → ∀ y ∈ a.toList, R ky x y) (hlast : ∀ x ∈ b.toList, ∀ y ∈ a.toList.drop (a.size - 1), R ky x y)
    (hq : ∀ r g, Fin' ky a.toList b.toList r.toList → Q r (setGallop st g)) : wpS (model prog w) A E s (mergeLo' a b) Q st := by
  have C : LoC ky st a b a₀ := ⟨hk, ha, hb, sa, sb, hne, hlast⟩
  refine wpS_bind (wpS_lift (wpAny_rule ⟨rfl, ?_⟩))
  obtain ⟨b0, hb0, hb0m⟩ := get_at (a := b) (i := 0) nb1
  refine wpS_bind (wpS_elem hb0 ?_)
  have m0 : Mg ky a.toList b.toList (#[b0] : Array Keyed).toList 0 1 := by
    have : Mg ky a.toList b.toList [] 0 0 := ⟨by simp, .nil, by simp, by simp⟩
    simpa using this.pushB hb0 sb (by simpa using h0 b0 hb0)
  dsimp only
  by_cases hb1 : (1 == b.size) = true
  · rw [if_pos hb1]
    exact wpS_pure (hq _ (gallopOf st) (C.doneB m0 (by simp at hb1; lia)))
  · rw [if_neg hb1]
    by_cases ha1 : (0 + 1 == a.size) = true
    · rw [if_pos ha1]
      exact wpS_pure (hq _ (gallopOf st) (C.last m0 (by simpa using ha1)))
    · rw [if_neg ha1]
      refine wpS_bind (wpS_get ?_)
      refine wpS_bind (wpS_mono (wpS_forRange (I := fun x c st' => ∃ out ia ib g g', c = (none, out, ia, ib, g) ∧ st' = setGallop st g' ∧ LoS ky a b out ia ib (x + 1))
        (Q := fun c st' => ∃ r out ia ib g g', c = (some r, out, ia, ib, g) ∧ st' = setGallop st g' ∧ Fin' ky a.toList b.toList (r : Array Keyed).toList) ?step ?fin (inE_5 _ 0 1 _ (gallopOf st) (inA_3 rfl rfl ⟨m0, by simp at ha1; lia, by simp at hb1; lia, by lia⟩))) ?post)
      case fin =>
        intro c st' hc
        refine elE_5 hc fun out ia ib g g' => elA_3 fun _ _ S => ?_
        have := S.h1
        have := S.h2
        have := S.h3
        exfalso
        lia
      case post =>
        intro c st' hc
        refine elE_6 hc fun r out ia ib g g' => elA_3 fun e1 e2 hF => ?_
        subst e1
        subst e2
        exact wpS_pure (hq r g' hF)
      case step =>
        intro x c st' _ hx hc
        refine elE_5 hc fun out₀ ia₀ ib₀ g g' => elA_3 fun e1 e2 S₀ => ?_
        subst e1
        subst e2
        dsimp only
        refine wpS_bind (wpS_mono (wpS_forRange (I := fun y c st' => ∃ out ia ib ac bc, c = (none, out, ia, ib, ac, bc) ∧ st' = setGallop st g' ∧ LoS ky a b out ia ib (x + 1))
          (Q := fun c st' => ∃ r out ia ib ac bc, c = (r, out, ia, ib, ac, bc) ∧ st' = setGallop st g' ∧ ((r = none ∧ LoS ky a b out ia ib (x + 1)) ∨ ∃ r', r = some r' ∧ Fin' ky a.toList b.toList (r' : Array Keyed).toList)) ?istep ?ifin (inE_5 out₀ ia₀ ib₀ 0 0 (inA_3 rfl rfl S₀))) ?ipost)
        case ifin =>
          intro c st' hc
          refine elE_5 hc fun out ia ib ac bc => elA_3 fun e1 e2 S => ?_
          subst e1
          subst e2
          exact inE_6 none out ia ib ac bc (inA_3 rfl rfl (.inl ⟨rfl, S⟩))
        case istep =>
          intro y c st' _ hy hc
          refine elE_5 hc fun out ia ib ac bc => elA_3 fun e1 e2 S => ?_
          subst e1
          subst e2
          have h1 := S.h1
          have h3 := S.h3
          dsimp only
          obtain ⟨pb, hpb, hpbm⟩ := get_at S.h2
          obtain ⟨pa, hpa, hpam⟩ := get_at (Nat.lt_of_succ_lt h1)
          refine wpS_bind (wpS_elem hpb (wpS_bind (wpS_elem hpa (wpS_bind (h.lt _ pb pa _ hk (hb _ hpbm) (ha _ hpam) ?_)))))
          by_cases hlt : ky pb.1 < ky pa.1
          · simp only [hlt, decide_true, if_true]
            refine wpS_bind (wpS_elem hpb ?_)
            have hm' : Mg ky a.toList b.toList (out.push pb).toList ia (ib + 1) := by
              rw [Array.toList_push]
              exact S.m.pushB hpb sb (aft sa hpa hlt)
            by_cases he : (ib + 1 == b.size) = true
            · rw [if_pos he]
              exact wpS_pure (inE_6 _ _ _ _ _ _ (inA_3 rfl rfl (.inr ⟨_, rfl, C.doneB hm' (by simp at he; lia)⟩)))
            · rw [if_neg he]
              have h2 := S.h2
              have S' : LoS ky a b (out.push pb) ia (ib + 1) (x + 1) := ⟨hm', h1, by simp at he; lia, Nat.le_succ_of_le h3⟩
              split
              · exact wpS_pure (inE_6 _ _ _ _ _ _ (inA_3 rfl rfl (.inl ⟨rfl, S'⟩)))
              · exact wpS_pure (inE_5 _ _ _ _ _ (inA_3 rfl rfl S'))
          · simp only [hlt, decide_false, Bool.false_eq_true, if_false]
            refine wpS_bind (wpS_elem hpa ?_)
            have hm' : Mg ky a.toList b.toList (out.push pa).toList (ia + 1) ib := by
              rw [Array.toList_push]
              exact S.m.pushA hpa sa (aft sb hpb (C.rel hpam hpbm hlt))
            by_cases he : (ia + 1 + 1 == a.size) = true
            · rw [if_pos he]
              exact wpS_pure (inE_6 _ _ _ _ _ _ (inA_3 rfl rfl (.inr ⟨_, rfl, C.last hm' (by simpa using he)⟩)))
            · rw [if_neg he]
              have S' : LoS ky a b (out.push pa) (ia + 1) ib (x + 1) := ⟨hm', by simp at he; lia, S.h2, by lia⟩
              split
              · exact wpS_pure (inE_6 _ _ _ _ _ _ (inA_3 rfl rfl (.inl ⟨rfl, S'⟩)))
              · exact wpS_pure (inE_5 _ _ _ _ _ (inA_3 rfl rfl S'))
        case ipost =>
          intro c st' hc
          refine elE_6 hc fun r out₁ ia₁ ib₁ ac₁ bc₁ => elA_3 fun e1 e2 hr => ?_
          subst e1
          subst e2
          rcases hr with ⟨rfl, S₁⟩ | ⟨r', rfl, hF⟩
          · dsimp only
            refine wpS_bind (wpS_lift (wpAny_rule ⟨rfl, ?_⟩))
            refine wpS_bind (wpS_mono (wpS_forRange (I := fun y c st' => ∃ out ia ib mg ac bc g', c = (none, out, ia, ib, mg, ac, bc) ∧ st' = setGallop st g' ∧ LoS ky a b out ia ib (x + 1 + y))
              (Q := fun c st' => ∃ r out ia ib mg ac bc g', c = (r, out, ia, ib, mg, ac, bc) ∧ st' = setGallop st g' ∧ ((r = none ∧ LoS ky a b out ia ib (x + 1 + 1)) ∨ ∃ r', r = some r' ∧ Fin' ky a.toList b.toList (r' : Array Keyed).toList)) ?gstep ?gfin (inE_7 out₁ ia₁ ib₁ _ ac₁ bc₁ g' (inA_3 rfl rfl S₁))) ?gpost)
            case gfin =>
              intro c st' hc
              refine elE_7 hc fun out ia ib mg ac bc g'' => elA_3 fun e1 e2 S => ?_
              subst e1
              subst e2
              exact inE_8 none out ia ib mg ac bc g'' (inA_3 rfl rfl (.inl ⟨rfl, S.le (by lia)⟩))
            case gpost =>
              intro c st' hc
              refine elE_8 hc fun r out ia ib mg ac bc g'' => elA_3 fun e1 e2 hr => ?_
              subst e1
              subst e2
              rcases hr with ⟨rfl, S⟩ | ⟨r', rfl, hF⟩
              · dsimp only
                exact wpS_bind (wpS_modify (f := fun s => setGallop s _) (wpS_pure (inE_5 out ia ib _ _ (inA_3 rfl rfl S))))
              · exact wpS_pure (inE_6 r' _ _ _ _ _ (inA_3 rfl rfl hF))
            case gstep =>
              intro y c st' _ hy hc
              refine elE_7 hc fun out ia ib mg ac bc g'' => elA_3 fun e1 e2 S => ?_
              subst e1
              subst e2
              show wpS _ _ _ _ (if mg > 1 then lo2 a b out ia ib (mg - 1) ac bc else lo2 a b out ia ib mg ac bc) _ _
              refine lo2_ite h C ⟨fun r out ia ib mg ac bc g hF => ?_, fun out ia ib mg ac bc g S' => ?_, fun out ia ib mg ac bc g S' => ?_⟩ S
              · exact inE_8 _ _ _ _ _ _ _ _ (inA_3 rfl rfl (.inr ⟨r, rfl, hF⟩))
              · exact inE_8 _ _ _ _ _ _ _ _ (inA_3 rfl rfl (.inl ⟨rfl, S'.le (by lia)⟩))
              · exact inE_7 _ _ _ _ _ _ _ (inA_3 rfl rfl S')
          · exact wpS_pure (inE_6 r' _ _ _ _ _ (inA_3 rfl rfl hF))
end
end SO
end Mine
end

section
open PySem PySem.W PyProof.Rows PySem.Calls
set_option Elab.async false
set_option maxRecDepth 100000
set_option maxHeartbeats 2000000
namespace Mine
namespace SO

structure Mh (ky : Value → Int) (la lb rout : List Keyed) (na nb : Nat) : Prop where
  perm : rout.Perm (la.drop na ++ lb.drop nb)
  srt : rout.Pairwise (R ky)
  xa : ∀ x ∈ la.take na, ∀ y ∈ rout, R ky x y
  xb : ∀ x ∈ lb.take nb, ∀ y ∈ rout, R ky x y

section
variable {ky : Value → Int} {la lb rout : List Keyed} {na nb : Nat} {x : Keyed}

theorem take_prev {l : List Keyed} {i : Nat} {y : Keyed} (h : y ∈ l.take i) : y ∈ l.take (i + 1) := by
  rw [List.take_add_one]; exact List.mem_append_left _ h
theorem before {l : List Keyed} {i : Nat} (hs : l.Pairwise (R ky)) (h : l[i]? = some x) : ∀ y ∈ l.take i, R ky y x := by
  have h1 : (l.take (i + 1)).Pairwise (R ky) := hs.sublist (List.take_sublist _ _)
  rw [take_at h] at h1
  intro y hy
  exact (List.pairwise_append.mp h1).2.2 y hy x (.head _)

theorem Mh.pushA (h : Mh ky la lb rout (na + 1) nb) (ha : la[na]? = some x) (sa : la.Pairwise (R ky)) (hx : ∀ y ∈ lb.take nb, R ky y x) : Mh ky la lb (x :: rout) na nb where
  perm := by rw [drop_at ha]; exact h.perm.cons x
  srt := List.pairwise_cons.mpr ⟨h.xa x (by rw [take_at ha]; simp), h.srt⟩
  xa := fun u hu v hv => by
    rcases List.mem_cons.mp hv with rfl | hv
    · exact before sa ha u hu
    · exact h.xa u (take_prev hu) v hv
  xb := fun u hu v hv => by
    rcases List.mem_cons.mp hv with rfl | hv
    · exact hx u hu
    · exact h.xb u hu v hv
theorem Mh.pushB (h : Mh ky la lb rout na (nb + 1)) (hb : lb[nb]? = some x) (sb : lb.Pairwise (R ky)) (hx : ∀ y ∈ la.take na, R ky y x) : Mh ky la lb (x :: rout) na nb where
  perm := by
    rw [drop_at hb]
    exact (h.perm.cons x).trans List.perm_middle.symm
  srt := List.pairwise_cons.mpr ⟨h.xb x (by rw [take_at hb]; simp), h.srt⟩
  xa := fun u hu v hv => by
    rcases List.mem_cons.mp hv with rfl | hv
    · exact hx u hu
    · exact h.xa u hu v hv
  xb := fun u hu v hv => by
    rcases List.mem_cons.mp hv with rfl | hv
    · exact before sb hb u hu
    · exact h.xb u (take_prev hu) v hv

theorem Mh.moreA (sa : la.Pairwise (R ky)) (at_ : Nat) : ∀ k rout, Mh ky la lb rout (at_ + k) nb → at_ + k ≤ la.length → (∀ i x, at_ ≤ i → i < at_ + k → la[i]? = some x → ∀ y ∈ lb.take nb, R ky y x) → Mh ky la lb ((la.drop at_).take k ++ rout) at_ nb := by
  intro k
  induction k with
  | zero => intro rout h _ _; simpa using h
  | succ k ih =>
    intro rout h hk hx
    have hg : la[at_ + k]? = some (la[at_ + k]'(by lia)) := List.getElem?_eq_getElem _
    have h1 := Mh.pushA (na := at_ + k) h hg sa (hx (at_ + k) _ (by lia) (by lia) hg)
    have := ih _ h1 (by lia) fun i x h2 h3 => hx i x h2 (by lia)
    rw [List.take_add_one, List.getElem?_drop, hg, List.append_assoc]
    exact this
theorem Mh.moreB (sb : lb.Pairwise (R ky)) (at_ : Nat) : ∀ k rout, Mh ky la lb rout na (at_ + k) → at_ + k ≤ lb.length → (∀ i x, at_ ≤ i → i < at_ + k → lb[i]? = some x → ∀ y ∈ la.take na, R ky y x) → Mh ky la lb ((lb.drop at_).take k ++ rout) na at_ := by
  intro k
  induction k with
  | zero => intro rout h _ _; simpa using h
  | succ k ih =>
    intro rout h hk hx
    have hg : lb[at_ + k]? = some (lb[at_ + k]'(by lia)) := List.getElem?_eq_getElem _
    have h1 := Mh.pushB (nb := at_ + k) h hg sb (hx (at_ + k) _ (by lia) (by lia) hg)
    have := ih _ h1 (by lia) fun i x h2 h3 => hx i x h2 (by lia)
    rw [List.take_add_one, List.getElem?_drop, hg, List.append_assoc]
    exact this

theorem Mh.all (h : Mh ky la lb rout na nb) : (la.take na ++ lb.take nb ++ rout).Perm (la ++ lb) := by
  refine (h.perm.append_left _).trans ?_
  have e1 : la = la.take na ++ la.drop na := (List.take_append_drop _ _).symm
  have e2 : lb = lb.take nb ++ lb.drop nb := (List.take_append_drop _ _).symm
  have : (la.take na ++ lb.take nb ++ (la.drop na ++ lb.drop nb)).Perm ((la.take na ++ la.drop na) ++ (lb.take nb ++ lb.drop nb)) := by
    simp only [List.append_assoc]
    refine List.Perm.append_left _ ?_
    rw [← List.append_assoc, ← List.append_assoc]
    exact List.perm_append_comm.append_right _
  rwa [← e1, ← e2] at this
theorem Mh.done (h : Mh ky la lb rout na nb) (sa : la.Pairwise (R ky)) (sb : lb.Pairwise (R ky)) (hz : na = 0 ∨ nb = 0) : Fin' ky la lb (la.take na ++ lb.take nb ++ rout) := by
  refine ⟨h.all, ?_⟩
  rcases hz with rfl | rfl
  · rw [List.take_zero, List.nil_append]
    exact List.pairwise_append.mpr ⟨sb.sublist (List.take_sublist _ _), h.srt, h.xb⟩
  · rw [List.take_zero, List.append_nil]
    exact List.pairwise_append.mpr ⟨sa.sublist (List.take_sublist _ _), h.srt, h.xa⟩
theorem Mh.first (h : Mh ky la lb rout na nb) (sa : la.Pairwise (R ky)) (sb : lb.Pairwise (R ky)) (hf : ∀ x ∈ lb.take nb, ∀ y ∈ la, R ky x y) : Fin' ky la lb (lb.take nb ++ la.take na ++ rout) := by
  refine ⟨(List.perm_append_comm.append_right _).trans h.all, ?_⟩
  refine List.pairwise_append.mpr ⟨List.pairwise_append.mpr ⟨sb.sublist (List.take_sublist _ _), sa.sublist (List.take_sublist _ _), fun u hu v hv => hf u hu v (List.mem_of_mem_take hv)⟩, h.srt, fun u hu v hv => ?_⟩
  rcases List.mem_append.mp hu with hu | hu
  · exact h.xb u hu v hv
  · exact h.xa u hu v hv
end

def mergeHi' : Array Keyed → Array Keyed → StateT SortSt Sem (Array Keyed) := sortPriv% PySem.Builtin.mergeHi
end SO
end Mine
end

section
open PySem PySem.W PyProof.Rows PySem.Calls
set_option Elab.async false
set_option maxRecDepth 100000
set_option maxHeartbeats 2000000
namespace Mine
namespace SO

/-- the gallop loop's state: r, na, nb, out, minGallop, acount, bcount -/
abbrev HT := Option (Array Keyed) × Nat × Nat × Array Keyed × Nat × Nat × Nat
def hiDone (a b out : Array Keyed) (na nb : Nat) : Array Keyed := a.extract 0 na ++ b.extract 0 nb ++ out.reverse
def hiFirst (a b out : Array Keyed) (na nb : Nat) : Array Keyed := b.extract 0 nb ++ a.extract 0 na ++ out.reverse
def hi4 (a b : Array Keyed) (na nb : Nat) (out : Array Keyed) (mg ac bc : Nat) : StateT SortSt Sem (ForInStep HT) := do
  let x ← elem' a na
  if na == 0 then pure (.done (some (hiDone a b (out.push x) na nb), na, nb, out.push x, mg, ac, bc))
  else if ac < 7 && bc < 7 then pure (.done (none, na, nb, out.push x, mg, ac, bc)) else pure (.yield (none, na, nb, out.push x, mg, ac, bc))
def hi3 (a b : Array Keyed) (na nb : Nat) (out : Array Keyed) (mg ac bc : Nat) : StateT SortSt Sem (ForInStep HT) := do
  let y ← elem' b nb
  if nb == 1 then pure (.done (some (hiFirst a b (out.push y) na nb), na, nb, out.push y, mg, ac, bc))
  else
    let z ← elem' a (na - 1)
    let r ← gallop' true z b 0 nb (nb - 1)
    match r with
    | some j =>
      if nb - j > 0 then
        if j == 1 then pure (.done (some (hiFirst a b (out.push y ++ (b.extract j nb).reverse) na j), na, j, out.push y ++ (b.extract j nb).reverse, mg, ac, nb - j))
        else if j == 0 then pure (.done (some (hiDone a b (out.push y ++ (b.extract j nb).reverse) na j), na, j, out.push y ++ (b.extract j nb).reverse, mg, ac, nb - j))
        else hi4 a b (na - 1) j (out.push y ++ (b.extract j nb).reverse) mg ac (nb - j)
      else hi4 a b (na - 1) nb (out.push y) mg ac (nb - j)
    | _ => pure (.done (some (hiDone a b (out.push y) na nb), na, nb, out.push y, mg, ac, bc))
def hi2 (a b : Array Keyed) (na nb : Nat) (out : Array Keyed) (mg ac bc : Nat) : StateT SortSt Sem (ForInStep HT) := do
  setMinGallop' mg
  let y ← elem' b (nb - 1)
  let r ← gallop' false y a 0 na (na - 1)
  match r with
  | some j =>
    if na - j > 0 then
      if j == 0 then pure (.done (some (hiDone a b (out ++ (a.extract j na).reverse) j nb), j, nb, out ++ (a.extract j na).reverse, mg, na - j, bc))
      else hi3 a b j (nb - 1) (out ++ (a.extract j na).reverse) mg (na - j) bc
    else hi3 a b na (nb - 1) out mg (na - j) bc
  | _ => pure (.done (some (hiDone a b out na nb), na, nb, out, mg, ac, bc))

structure HiC (ky : Value → Int) (st : SortSt) (a b a₀ : Array Keyed) : Prop where
  hk : kindOf st = oneType'
  ha : ∀ p ∈ a.toList, p ∈ a₀.toList
  hb : ∀ p ∈ b.toList, p ∈ a₀.toList
  sa : a.toList.Pairwise (R ky)
  sb : b.toList.Pairwise (R ky)
  hne : ∀ x ∈ a.toList, ∀ y ∈ b.toList, ky x.1 ≠ ky y.1
  h0 : ∀ x ∈ b.toList.take 1, ∀ y ∈ a.toList, R ky x y
/-- two runs' rests na, nb; what is out stands above both; x turns are over -/
structure HiS (ky : Value → Int) (a b out : Array Keyed) (na nb x : Nat) : Prop where
  m : Mh ky a.toList b.toList out.toList.reverse na nb
  h1 : 1 ≤ na
  h2 : 2 ≤ nb
  h3 : na ≤ a.size
  h4 : nb ≤ b.size
  h5 : x + na + nb ≤ a.size + b.size
structure HiR (ky : Value → Int) (st : SortSt) (a b : Array Keyed) (x : Nat) (P : ForInStep HT → SortSt → Prop) : Prop where
  fin : ∀ r na nb out mg ac bc g, Fin' ky a.toList b.toList (r : Array Keyed).toList → P (.done (some r, na, nb, out, mg, ac, bc)) (setGallop st g)
  brk : ∀ na nb out mg ac bc g, HiS ky a b out na nb x → P (.done (none, na, nb, out, mg, ac, bc)) (setGallop st g)
  yld : ∀ na nb out mg ac bc g, HiS ky a b out na nb x → P (.yield (none, na, nb, out, mg, ac, bc)) (setGallop st g)

theorem toList_hi (out a b : Array Keyed) (na nb : Nat) : (a.extract 0 na ++ b.extract 0 nb ++ out.reverse).toList = a.toList.take na ++ b.toList.take nb ++ out.toList.reverse := by
  simp only [Array.toList_append, Array.toList_extract, List.extract_eq_take_drop, Array.toList_reverse, List.drop_zero, Nat.sub_zero]
theorem rev_push (out : Array Keyed) (x : Keyed) : (out.push x).toList.reverse = x :: out.toList.reverse := by simp
theorem rev_part (out a : Array Keyed) (i j : Nat) : (out ++ (a.extract i j).reverse).toList.reverse = (a.toList.drop i).take (j - i) ++ out.toList.reverse := by
  simp only [Array.toList_append, Array.toList_reverse, List.reverse_append, List.reverse_reverse, Array.toList_extract, List.extract_eq_take_drop]
theorem bef {ky : Value → Int} {l : List Keyed} {i : Nat} {x z : Keyed} (hs : l.Pairwise (R ky)) (hx : l[i]? = some x) (hz : R ky x z) : ∀ y ∈ l.take (i + 1), R ky y z := fun y hy => by
  rw [take_at hx] at hy
  rcases List.mem_append.mp hy with hy | hy
  · exact Int.lt_trans (before hs hx y hy) hz
  · rw [List.mem_singleton.mp hy]; exact hz

section
variable {prog : Program} {w : World} {A : Around} {E : Value → Shared → Prop} {s : Shared} {a₀ : Array Keyed} {ky : Value → Int} {st : SortSt} {a b out : Array Keyed} {na nb mg ac bc x g : Nat} {P : ForInStep HT → SortSt → Prop}

theorem HiC.done (C : HiC ky st a b a₀) (hm : Mh ky a.toList b.toList out.toList.reverse na nb) (hz : na = 0 ∨ nb = 0) : Fin' ky a.toList b.toList (hiDone a b out na nb).toList := by
  rw [hiDone, toList_hi]; exact hm.done C.sa C.sb hz
theorem HiC.first (C : HiC ky st a b a₀) (hm : Mh ky a.toList b.toList out.toList.reverse na nb) (hz : nb = 1) : Fin' ky a.toList b.toList (hiFirst a b out na nb).toList := by
  rw [hiFirst, toList_hi]
  subst hz
  exact hm.first C.sa C.sb C.h0
theorem HiC.rel (C : HiC ky st a b a₀) {p q : Keyed} (hp : p ∈ a.toList) (hq : q ∈ b.toList) (hn : ¬ ky q.1 < ky p.1) : R ky p q := by
  have := C.hne p hp q hq
  show ky p.1 < ky q.1
  lia
theorem HiC.rel' (C : HiC ky st a b a₀) {p q : Keyed} (hp : p ∈ a.toList) (hq : q ∈ b.toList) (hn : ¬ ky p.1 < ky q.1) : R ky q p := by
  have := C.hne p hp q hq
  show ky q.1 < ky p.1
  lia
theorem HiS.le {x' : Nat} (S : HiS ky a b out na nb x) (h : x' ≤ x) : HiS ky a b out na nb x' := ⟨S.m, S.h1, S.h2, S.h3, S.h4, by have := S.h5; lia⟩

theorem hi4_ok (C : HiC ky st a b a₀) (H : HiR ky st a b x P) (hm : Mh ky a.toList b.toList out.toList.reverse (na + 1) nb) (hx : ∀ pa, a.toList[na]? = some pa → ∀ y ∈ b.toList.take nb, R ky y pa)
    (hna : na < a.size) (h2 : 2 ≤ nb) (h4 : nb ≤ b.size) (h5 : x + na + nb ≤ a.size + b.size) : wpS (model prog w) A E s (hi4 a b na nb out mg ac bc) P (setGallop st g) := by
  obtain ⟨pa, hpa, hpam⟩ := get_at hna
  have hmD : Mh ky a.toList b.toList (out.push pa).toList.reverse na nb := by
    rw [rev_push]
    exact Mh.pushA hm hpa C.sa (hx pa hpa)
  unfold hi4
  refine wpS_bind (wpS_elem hpa ?_)
  by_cases hz : (na == 0) = true
  · rw [if_pos hz]
    exact wpS_pure (H.fin _ _ _ _ _ _ _ _ (C.done hmD (.inl (by simpa using hz))))
  · rw [if_neg hz]
    have S : HiS ky a b (out.push pa) na nb x := ⟨hmD, by simp at hz; lia, h2, Nat.le_of_lt hna, h4, h5⟩
    split
    · exact wpS_pure (H.brk _ _ _ _ _ _ _ S)
    · exact wpS_pure (H.yld _ _ _ _ _ _ _ S)

theorem hi3_ok (h : Keys prog w A E s ky a₀) (C : HiC ky st a b a₀) (H : HiR ky st a b x P) (hm : Mh ky a.toList b.toList out.toList.reverse na (nb + 1)) (hx : ∀ pb, b.toList[nb]? = some pb → ∀ y ∈ a.toList.take na, R ky y pb)
    (h1 : 1 ≤ na) (h3 : na ≤ a.size) (hnb : nb < b.size) (hnb1 : 1 ≤ nb) (h5 : x + na + nb ≤ a.size + b.size + 1) : wpS (model prog w) A E s (hi3 a b na nb out mg ac bc) P (setGallop st g) := by
  obtain ⟨na, rfl⟩ : ∃ n, na = n + 1 := ⟨na - 1, by lia⟩
  have hla : a.toList.length = a.size := by simp
  have hlb : b.toList.length = b.size := by simp
  obtain ⟨pb, hpb, hpbm⟩ := get_at hnb
  obtain ⟨pa, hpa, hpam⟩ := get_at (show na < a.size from h3)
  have hmB : Mh ky a.toList b.toList (out.push pb).toList.reverse (na + 1) nb := by
    rw [rev_push]
    exact Mh.pushB hm hpb C.sb (hx pb hpb)
  unfold hi3
  refine wpS_bind (wpS_elem hpb ?_)
  by_cases he : (nb == 1) = true
  · rw [if_pos he]
    exact wpS_pure (H.fin _ _ _ _ _ _ _ _ (C.first hmB (by simpa using he)))
  · rw [if_neg he]
    have he' : 2 ≤ nb := by simp at he; lia
    rw [Nat.add_sub_cancel]
    refine wpS_bind (wpS_elem hpa (wpS_bind (wpS_gallop h C.hk (C.ha _ hpam) (fun i hi => ?els2) (Seg.of_list C.sb _ _ (by lia)) (by lia) fun j hj1 hj2 hj3 => ?_)))
    case els2 =>
      obtain ⟨p, hp, hpm⟩ := get_at (show i < b.size by lia)
      exact ⟨p, by simpa using hp, C.hb p hpm⟩
    have hC : ∀ pa', a.toList[na]? = some pa' → ∀ y ∈ b.toList.take j, R ky y pa' := by
      intro pa' hpa' y hy
      rw [hpa] at hpa'
      cases hpa'
      obtain ⟨i, hi, rfl⟩ := List.mem_take_iff_getElem.mp hy
      have hi2 : i < j := by lia
      have := hj2 i hi2
      simp only [Pg, if_true, decide_eq_true_eq, Nat.zero_add] at this
      rwa [K_list (List.getElem?_eq_getElem (by lia))] at this
    dsimp only
    by_cases hk2 : nb - j > 0
    · rw [if_pos hk2]
      have hmC : Mh ky a.toList b.toList (out.push pb ++ (b.extract j nb).reverse).toList.reverse (na + 1) j := by
        rw [rev_part]
        refine Mh.moreB C.sb j (nb - j) _ (by rw [Nat.add_sub_cancel' hj1]; exact hmB) (by lia) fun i z hi hi' hz => bef C.sa hpa (C.rel hpam (List.mem_of_getElem? hz) ?_)
        have := hj3 i hi (by lia)
        simp only [Pg, if_true, decide_eq_false_iff_not, Nat.zero_add] at this
        rwa [K_list hz] at this
      by_cases he2 : (j == 1) = true
      · rw [if_pos he2]
        exact wpS_pure (H.fin _ _ _ _ _ _ _ _ (C.first hmC (by simpa using he2)))
      · rw [if_neg he2]
        by_cases he3 : (j == 0) = true
        · rw [if_pos he3]
          exact wpS_pure (H.fin _ _ _ _ _ _ _ _ (C.done hmC (.inr (by simpa using he3))))
        · rw [if_neg he3]
          exact hi4_ok C H hmC hC h3 (by simp at he2 he3; lia) (by lia) (by lia)
    · rw [if_neg hk2]
      obtain rfl : j = nb := by lia
      exact hi4_ok C H hmB hC h3 he' (by lia) (by lia)

theorem hi2_ok (h : Keys prog w A E s ky a₀) (C : HiC ky st a b a₀) (H : HiR ky st a b (x + 1) P) (S : HiS ky a b out na nb x) : wpS (model prog w) A E s (hi2 a b na nb out mg ac bc) P (setGallop st g) := by
  obtain ⟨nb, rfl⟩ : ∃ n, nb = n + 1 := ⟨nb - 1, by have := S.h2; lia⟩
  have hla : a.toList.length = a.size := by simp
  have h1 := S.h1
  have h2 := S.h2
  have h3 := S.h3
  have h4 := S.h4
  have h5 := S.h5
  obtain ⟨pb, hpb, hpbm⟩ := get_at (show nb < b.size from h4)
  unfold hi2
  rw [setMinGallop'_eq, Nat.add_sub_cancel]
  refine wpS_bind (wpS_modify ?_)
  refine wpS_bind (wpS_elem hpb (wpS_bind (wpS_gallop h C.hk (C.hb _ hpbm) (fun i hi => ?els) (Seg.of_list C.sa _ _ (by lia)) (by lia) fun j hk1 hk2 hk3 => ?_)))
  case els =>
    obtain ⟨p, hp, hpm⟩ := get_at (show i < a.size by lia)
    exact ⟨p, by simpa using hp, C.ha p hpm⟩
  have hA : ∀ pb', b.toList[nb]? = some pb' → ∀ y ∈ a.toList.take j, R ky y pb' := by
    intro pb' hpb' y hy
    rw [hpb] at hpb'
    cases hpb'
    obtain ⟨i, hi, rfl⟩ := List.mem_take_iff_getElem.mp hy
    have hi2 : i < j := by lia
    have := hk2 i hi2
    simp only [Pg, Bool.false_eq_true, if_false, Bool.not_eq_true', decide_eq_false_iff_not, Nat.zero_add] at this
    rw [K_list (List.getElem?_eq_getElem (by lia))] at this
    exact C.rel (List.getElem_mem _) hpbm this
  dsimp only
  by_cases hk0 : na - j > 0
  · rw [if_pos hk0]
    have hmA : Mh ky a.toList b.toList (out ++ (a.extract j na).reverse).toList.reverse j (nb + 1) := by
      rw [rev_part]
      refine Mh.moreA C.sa j (na - j) _ (by rw [Nat.add_sub_cancel' hk1]; exact S.m) (by lia) fun i z hi hi' hz => bef C.sb hpb ?_
      have := hk3 i hi (by lia)
      simp only [Pg, Bool.false_eq_true, if_false, Bool.not_eq_false', decide_eq_true_eq, Nat.zero_add] at this
      rwa [K_list hz] at this
    by_cases hl : (j == 0) = true
    · rw [if_pos hl]
      exact wpS_pure (H.fin _ _ _ _ _ _ _ _ (C.done hmA (.inl (by simpa using hl))))
    · rw [if_neg hl]
      exact hi3_ok (st := st) (g := mg) h C H hmA hA (by simp at hl; lia) (by lia) h4 (by lia) (by lia)
  · rw [if_neg hk0]
    obtain rfl : j = na := by lia
    exact hi3_ok (st := st) (g := mg) h C H S.m hA h1 h3 h4 (by lia) (by lia)

theorem hi2_ite (h : Keys prog w A E s ky a₀) (C : HiC ky st a b a₀) (H : HiR ky st a b (x + 1) P) (S : HiS ky a b out na nb x) :
    wpS (model prog w) A E s (if mg > 1 then hi2 a b na nb out (mg - 1) ac bc else hi2 a b na nb out mg ac bc) P (setGallop st g) := by
  split
  · exact hi2_ok h C H S
  · exact hi2_ok h C H S

theorem wpS_mergeHi (h : Keys prog w A E s ky a₀) {st : SortSt} {a b : Array Keyed} {Q : Array Keyed → SortSt → Prop} (hk : kindOf st = oneType') (ha : ∀ p ∈ a.toList, p ∈ a₀.toList) (hb : ∀ p ∈ b.toList, p ∈ a₀.toList)
    (sa : a.toList.Pairwise (R ky)) (sb : b.toList.Pairwise (R ky)) (na1 : 1 ≤ a.size) (nb1 : 1 ≤ b.size) (hne : ∀ x ∈ a.toList, ∀ y ∈ b.toList, ky x.1 ≠ ky y.1)
    (h0 : ∀ x ∈ b.toList.take 1, ∀ y ∈ a.toList, R ky x y) (hlast : ∀ x ∈ b.toList, ∀ y ∈ a.toList.drop (a.size - 1), R ky x y)
    (hq : ∀ r g, Fin' ky a.toList b.toList r.toList → Q r (setGallop st g)) : wpS (model prog w) A E s (mergeHi' a b) Q st := by
  have C : HiC ky st a b a₀ := ⟨hk, ha, hb, sa, sb, hne, h0⟩
  have hla : a.toList.length = a.size := by simp
  have hlb : b.toList.length = b.size := by simp
  refine wpS_bind (wpS_lift (wpAny_rule ⟨rfl, ?_⟩))
  obtain ⟨n₀, hn₀⟩ : ∃ n, a.size = n + 1 := ⟨a.size - 1, by lia⟩
  obtain ⟨a0, ha0, ha0m⟩ := get_at (a := a) (i := n₀) (by lia)
  dsimp only
  have hsub : a.size - 1 = n₀ := by lia
  rw [hsub] at hlast ⊢
  refine wpS_bind (wpS_elem ha0 ?_)
  have m0 : Mh ky a.toList b.toList (#[a0] : Array Keyed).toList.reverse n₀ b.size := by
    have : Mh ky a.toList b.toList [] (n₀ + 1) b.size := ⟨by rw [List.drop_of_length_le (by lia), List.drop_of_length_le (by lia)]; exact .nil, .nil, by simp, by simp⟩
    have := this.pushA ha0 sa (fun y hy => hlast y (List.mem_of_mem_take hy) a0 (by rw [drop_at ha0]; exact .head _))
    simpa using this
  by_cases ha1 : (n₀ == 0) = true
  · rw [if_pos ha1]
    exact wpS_pure (hq _ (gallopOf st) (C.done m0 (.inl (by simpa using ha1))))
  · rw [if_neg ha1]
    by_cases hb1 : (b.size == 1) = true
    · rw [if_pos hb1]
      exact wpS_pure (hq _ (gallopOf st) (C.first m0 (by simpa using hb1)))
    · rw [if_neg hb1]
      refine wpS_bind (wpS_get ?_)
      refine wpS_bind (wpS_mono (wpS_forRange (I := fun x c st' => ∃ na nb out g g', c = (none, na, nb, out, g) ∧ st' = setGallop st g' ∧ HiS ky a b out na nb (x + 1))
        (Q := fun c st' => ∃ r na nb out g g', c = (some r, na, nb, out, g) ∧ st' = setGallop st g' ∧ Fin' ky a.toList b.toList (r : Array Keyed).toList) ?step ?fin (inE_5 n₀ b.size _ _ (gallopOf st) (inA_3 rfl rfl ⟨m0, by simp at ha1; lia, by simp at hb1; lia, by lia, Nat.le_refl _, by lia⟩))) ?post)
      case fin =>
        intro c st' hc
        refine elE_5 hc fun na nb out g g' => elA_3 fun _ _ S => ?_
        have := S.h1
        have := S.h2
        have := S.h5
        exfalso
        lia
      case post =>
        intro c st' hc
        refine elE_6 hc fun r na nb out g g' => elA_3 fun e1 e2 hF => ?_
        subst e1
        subst e2
        exact wpS_pure (hq r g' hF)
      case step =>
        intro x c st' _ hx hc
        refine elE_5 hc fun na₀ nb₀ out₀ g g' => elA_3 fun e1 e2 S₀ => ?_
        subst e1
        subst e2
        dsimp only
        refine wpS_bind (wpS_mono (wpS_forRange (I := fun y c st' => ∃ na nb out ac bc, c = (none, na, nb, out, ac, bc) ∧ st' = setGallop st g' ∧ HiS ky a b out na nb (x + 1))
          (Q := fun c st' => ∃ r na nb out ac bc, c = (r, na, nb, out, ac, bc) ∧ st' = setGallop st g' ∧ ((r = none ∧ HiS ky a b out na nb (x + 1)) ∨ ∃ r', r = some r' ∧ Fin' ky a.toList b.toList (r' : Array Keyed).toList)) ?istep ?ifin (inE_5 na₀ nb₀ out₀ 0 0 (inA_3 rfl rfl S₀))) ?ipost)
        case ifin =>
          intro c st' hc
          refine elE_5 hc fun na nb out ac bc => elA_3 fun e1 e2 S => ?_
          subst e1
          subst e2
          exact inE_6 none na nb out ac bc (inA_3 rfl rfl (.inl ⟨rfl, S⟩))
        case istep =>
          intro y c st' _ hy hc
          refine elE_5 hc fun na nb out ac bc => elA_3 fun e1 e2 S => ?_
          subst e1
          subst e2
          obtain ⟨na, rfl⟩ : ∃ n, na = n + 1 := ⟨na - 1, by have := S.h1; lia⟩
          obtain ⟨nb, rfl⟩ : ∃ n, nb = n + 1 := ⟨nb - 1, by have := S.h2; lia⟩
          have h3 := S.h3
          have h4 := S.h4
          have h5 := S.h5
          dsimp only
          simp only [Nat.add_sub_cancel]
          obtain ⟨pb, hpb, hpbm⟩ := get_at (show nb < b.size from h4)
          obtain ⟨pa, hpa, hpam⟩ := get_at (show na < a.size from h3)
          refine wpS_bind (wpS_elem hpb (wpS_bind (wpS_elem hpa (wpS_bind (h.lt _ pb pa _ hk (hb _ hpbm) (ha _ hpam) ?_)))))
          by_cases hlt : ky pb.1 < ky pa.1
          · simp only [hlt, decide_true, if_true]
            refine wpS_bind (wpS_elem hpa ?_)
            have hm' : Mh ky a.toList b.toList (out.push pa).toList.reverse na (nb + 1) := by
              rw [rev_push]
              exact S.m.pushA hpa sa (bef sb hpb hlt)
            by_cases he : (na == 0) = true
            · rw [if_pos he]
              exact wpS_pure (inE_6 _ _ _ _ _ _ (inA_3 rfl rfl (.inr ⟨_, rfl, C.done hm' (.inl (by simpa using he))⟩)))
            · rw [if_neg he]
              have S' : HiS ky a b (out.push pa) na (nb + 1) (x + 1) := ⟨hm', by simp at he; lia, S.h2, Nat.le_of_lt h3, h4, by lia⟩
              split
              · exact wpS_pure (inE_6 _ _ _ _ _ _ (inA_3 rfl rfl (.inl ⟨rfl, S'⟩)))
              · exact wpS_pure (inE_5 _ _ _ _ _ (inA_3 rfl rfl S'))
          · simp only [hlt, decide_false, Bool.false_eq_true, if_false]
            refine wpS_bind (wpS_elem hpb ?_)
            have hm' : Mh ky a.toList b.toList (out.push pb).toList.reverse (na + 1) nb := by
              rw [rev_push]
              exact S.m.pushB hpb sb (bef sa hpa (C.rel hpam hpbm hlt))
            by_cases he : (nb == 1) = true
            · rw [if_pos he]
              exact wpS_pure (inE_6 _ _ _ _ _ _ (inA_3 rfl rfl (.inr ⟨_, rfl, C.first hm' (by simpa using he)⟩)))
            · rw [if_neg he]
              have h2 := S.h2
              have S' : HiS ky a b (out.push pb) (na + 1) nb (x + 1) := ⟨hm', S.h1, by simp at he; lia, h3, Nat.le_of_lt h4, by lia⟩
              split
              · exact wpS_pure (inE_6 _ _ _ _ _ _ (inA_3 rfl rfl (.inl ⟨rfl, S'⟩)))
              · exact wpS_pure (inE_5 _ _ _ _ _ (inA_3 rfl rfl S'))
        case ipost =>
          intro c st' hc
          refine elE_6 hc fun r na₁ nb₁ out₁ ac₁ bc₁ => elA_3 fun e1 e2 hr => ?_
          subst e1
          subst e2
          rcases hr with ⟨rfl, S₁⟩ | ⟨r', rfl, hF⟩
          · dsimp only
            refine wpS_bind (wpS_lift (wpAny_rule ⟨rfl, ?_⟩))
            refine wpS_bind (wpS_mono (wpS_forRange (I := fun y c st' => ∃ na nb out mg ac bc g', c = (none, na, nb, out, mg, ac, bc) ∧ st' = setGallop st g' ∧ HiS ky a b out na nb (x + 1 + y))
              (Q := fun c st' => ∃ r na nb out mg ac bc g', c = (r, na, nb, out, mg, ac, bc) ∧ st' = setGallop st g' ∧ ((r = none ∧ HiS ky a b out na nb (x + 1 + 1)) ∨ ∃ r', r = some r' ∧ Fin' ky a.toList b.toList (r' : Array Keyed).toList)) ?gstep ?gfin (inE_7 na₁ nb₁ out₁ _ ac₁ bc₁ g' (inA_3 rfl rfl S₁))) ?gpost)
            case gfin =>
              intro c st' hc
              refine elE_7 hc fun na nb out mg ac bc g'' => elA_3 fun e1 e2 S => ?_
              subst e1
              subst e2
              exact inE_8 none na nb out mg ac bc g'' (inA_3 rfl rfl (.inl ⟨rfl, S.le (by lia)⟩))
            case gpost =>
              intro c st' hc
              refine elE_8 hc fun r na nb out mg ac bc g'' => elA_3 fun e1 e2 hr => ?_
              subst e1
              subst e2
              rcases hr with ⟨rfl, S⟩ | ⟨r', rfl, hF⟩
              · dsimp only
                exact wpS_bind (wpS_modify (f := fun s => setGallop s _) (wpS_pure (inE_5 na nb out _ _ (inA_3 rfl rfl S))))
              · exact wpS_pure (inE_6 r' _ _ _ _ _ (inA_3 rfl rfl hF))
            case gstep =>
              intro y c st' _ hy hc
              refine elE_7 hc fun na nb out mg ac bc g'' => elA_3 fun e1 e2 S => ?_
              subst e1
              subst e2
              show wpS _ _ _ _ (if mg > 1 then hi2 a b na nb out (mg - 1) ac bc else hi2 a b na nb out mg ac bc) _ _
              refine hi2_ite h C ⟨fun r na nb out mg ac bc g hF => ?_, fun na nb out mg ac bc g S' => ?_, fun na nb out mg ac bc g S' => ?_⟩ S
              · exact inE_8 _ _ _ _ _ _ _ _ (inA_3 rfl rfl (.inr ⟨r, rfl, hF⟩))
              · exact inE_8 _ _ _ _ _ _ _ _ (inA_3 rfl rfl (.inl ⟨rfl, S'.le (by lia)⟩))
              · exact inE_7 _ _ _ _ _ _ _ (inA_3 rfl rfl S')
          · exact wpS_pure (inE_6 r' _ _ _ _ _ (inA_3 rfl rfl hF))
end
end SO
end Mine
end

section
open PySem PySem.W PyProof.Rows PySem.Calls
set_option Elab.async false
set_option maxRecDepth 100000
set_option maxHeartbeats 2000000
namespace Mine
namespace SO


theorem wpS_set {M : Model} {A : Around} {E : Value → Shared → Prop} {s : Shared} {σ : Type} {st st' : σ} {Q : PUnit → σ → Prop} (h : Q ⟨⟩ st') : wpS M A E s (set st' : StateT σ Sem PUnit) Q st := by
  unfold wpS; rw [StateT.run_set]; exact wpAny_pure ⟨rfl, h⟩

/-- the merged part written back -/
def wr (xs : Array Keyed) (at_ : Nat) (l : List Keyed) (n : Nat) : Array Keyed := (l.zipIdx n).foldl (fun a (p, j) => a.setIfInBounds (at_ + j) p) xs
theorem wr_get : ∀ (l : List Keyed) (xs : Array Keyed) (at_ n k : Nat), at_ + n + l.length ≤ xs.size → (wr xs at_ l n)[k]? = if at_ + n ≤ k ∧ k < at_ + n + l.length then l[k - (at_ + n)]? else xs[k]? := by
  intro l
  induction l with
  | nil => intro xs at_ n k _; rw [if_neg (by rw [List.length_nil]; lia)]; rfl
  | cons p l ih =>
    intro xs at_ n k hs
    rw [List.length_cons] at hs ⊢
    show (wr (xs.setIfInBounds (at_ + n) p) at_ l (n + 1))[k]? = _
    rw [ih _ _ _ _ (by rw [Array.size_setIfInBounds]; lia)]
    by_cases h1 : k = at_ + n
    · subst h1
      rw [if_neg (by lia), if_pos (by lia), Nat.sub_self, Array.getElem?_setIfInBounds, if_pos rfl, if_pos (by lia)]
      rfl
    · by_cases h2 : at_ + (n + 1) ≤ k ∧ k < at_ + (n + 1) + l.length
      · rw [if_pos h2, if_pos (by lia), show k - (at_ + n) = (k - (at_ + (n + 1))) + 1 by lia, List.getElem?_cons_succ]
      · rw [if_neg h2, if_neg (by lia), Array.getElem?_setIfInBounds, if_neg (by lia)]
theorem wr_size : ∀ (l : List Keyed) (xs : Array Keyed) (at_ n : Nat), (wr xs at_ l n).size = xs.size := by
  intro l
  induction l with
  | nil => intro xs at_ n; rfl
  | cons p l ih => intro xs at_ n; exact (ih _ _ _).trans Array.size_setIfInBounds
theorem wr_list {xs : Array Keyed} {at_ : Nat} {l : List Keyed} (hs : at_ + l.length ≤ xs.size) : (wr xs at_ l 0).toList = xs.toList.take at_ ++ l ++ xs.toList.drop (at_ + l.length) := by
  apply List.ext_getElem?
  intro k
  have h1 := wr_get l xs at_ 0 k (by lia)
  rw [Array.getElem?_toList, h1]
  have hl : (xs.toList.take at_).length = at_ := by rw [List.length_take]; simp; lia
  by_cases h2 : k < at_
  · rw [if_neg (by lia), List.append_assoc, List.getElem?_append_left (by lia), List.getElem?_take, if_pos h2, Array.getElem?_toList]
  · by_cases h3 : k < at_ + l.length
    · rw [if_pos (by lia), List.append_assoc, List.getElem?_append_right (by lia), hl, List.getElem?_append_left (by lia)]
      rfl
    · rw [if_neg (by lia), List.append_assoc, List.getElem?_append_right (by lia), hl, List.getElem?_append_right (by lia), List.getElem?_drop]
      simp
      congr 1
      lia
theorem wr_perm {xs : Array Keyed} {at_ : Nat} {l : List Keyed} (hs : at_ + l.length ≤ xs.size) (hp : l.Perm ((xs.toList.drop at_).take l.length)) : (wr xs at_ l 0).Perm xs := by
  rw [Array.perm_iff_toList_perm, wr_list hs]
  have e : xs.toList = xs.toList.take at_ ++ (xs.toList.drop at_).take l.length ++ xs.toList.drop (at_ + l.length) := by
    rw [List.append_assoc, ← List.drop_drop, List.take_append_drop, List.take_append_drop]
  refine List.Perm.trans ?_ (List.Perm.of_eq e.symm)
  exact (hp.append_left _).append_right _

section
variable {prog : Program} {w : World} {A : Around} {E : Value → Shared → Prop} {s : Shared} {a₀ : Array Keyed} {ky : Value → Int}

theorem part_list (xs : Array Keyed) (i j : Nat) : (xs.extract i j).toList = (xs.toList.drop i).take (j - i) := by
  simp only [Array.toList_extract, List.extract_eq_take_drop]
theorem part_get {xs : Array Keyed} {i j k : Nat} (hk : k < j - i) : (xs.extract i j).toList[k]? = xs.toList[i + k]? := by
  rw [part_list, List.getElem?_take, if_pos hk, List.getElem?_drop]
theorem part_mem {xs : Array Keyed} {i j : Nat} {p : Keyed} (_hj : j ≤ xs.size) (h : p ∈ (xs.extract i j).toList) : ∃ k, i ≤ k ∧ k < j ∧ xs[k]? = some p := by
  rw [part_list] at h
  obtain ⟨k, hk, e⟩ := List.getElem_of_mem h
  have hk' := hk
  rw [List.length_take, List.length_drop] at hk'
  refine (inE_1 (i + k) (inA_3 (by lia) (by lia) ?_))
  have := List.getElem?_eq_getElem hk
  rw [e, List.getElem?_take, if_pos (by lia), List.getElem?_drop] at this
  simpa using this
theorem K_at {xs : Array Keyed} {i : Nat} {p : Keyed} (h : xs[i]? = some p) : K ky xs i = ky p.1 := by unfold K; rw [h]
theorem part_srt {xs : Array Keyed} {i j : Nat} (hj : j ≤ xs.size) (h : Seg ky xs i j) : (xs.extract i j).toList.Pairwise (R ky) := by
  rw [List.pairwise_iff_getElem]
  intro p q hp hq hpq
  have hl : (xs.extract i j).toList.length = j - i := by simp; lia
  have e1 := List.getElem?_eq_getElem hp
  have e2 := List.getElem?_eq_getElem hq
  rw [part_get (by lia)] at e1 e2
  have := h (i + p) (i + q) (by lia) (by lia) (by lia)
  rwa [K_list e1, K_list e2] at this

theorem wpS_mergeAt (h : Keys prog w A E s ky a₀) {st : SortSt} {i sa na pw nb pw2 : Nat} {Q : Bool → SortSt → Prop} (hB : Base a₀ st) (hp1 : (pendingOf st)[i]? = some (sa, na, pw)) (hp2 : (pendingOf st)[i + 1]? = some (sa + na, nb, pw2))
    (hna : 1 ≤ na) (hnb : 1 ≤ nb) (hsz : sa + na + nb ≤ a₀.size) (s1 : Seg ky (arrOf st) sa (sa + na)) (s2 : Seg ky (arrOf st) (sa + na) (sa + na + nb))
    (hq : ∀ xs g, Base a₀ (setArr st xs) → Seg ky xs sa (sa + na + nb) → Out (arrOf st) xs sa (sa + na + nb) →
      Q true (SortSt.mk' (kindOf st) xs (((pendingOf st).setIfInBounds i (sa, na + nb, pw)).eraseIdxIfInBounds (i + 1)) g (failedOf st))) :
    wpS (model prog w) A E s (mergeAt' i) Q st := by
  have hS := hB.size
  have join : K ky (arrOf st) (sa + na - 1) < K ky (arrOf st) (sa + na) → Seg ky (arrOf st) sa (sa + na + nb) := by
    intro hj i j hi hij hj'
    by_cases c1 : j < sa + na
    · exact s1 i j hi hij c1
    · by_cases c2 : sa + na ≤ i
      · exact s2 i j c2 hij hj'
      · have h1 : K ky (arrOf st) i ≤ K ky (arrOf st) (sa + na - 1) := by
          by_cases e : i = sa + na - 1
          · rw [e]; exact Int.le_refl _
          · exact Int.le_of_lt (s1 _ _ hi (by lia) (by lia))
        have h2 : K ky (arrOf st) (sa + na) ≤ K ky (arrOf st) j := by
          by_cases e : j = sa + na
          · rw [e]; exact Int.le_refl _
          · exact Int.le_of_lt (s2 _ _ (by lia) (by lia) (by lia))
        lia
  refine wpS_bind (wpS_get ?_)
  rw [hp1, hp2]
  dsimp only
  refine wpS_bind (wpS_set ?_)
  refine elE_1 (hB.at (i := sa + na) (by lia) ky) fun pb => elA_3 ?_
  intro hpb hpbm hpbK
  refine wpS_bind (wpS_elem (by simpa using hpb) (wpS_bind (wpS_gallop h hB.kind hpbm (fun j hj => ?els) (s1.sub (Nat.le_refl _) (Nat.le_refl _)) (by lia) fun k hk1 hk2 hk3 => ?_)))
  case els =>
    refine elE_1 (hB.at (i := sa + j) (by lia) ky) fun p => elA_3 ?_
    intro e1 e2 _
    exact ⟨p, e1, e2⟩
  have hkA : ∀ j, j < k → K ky (arrOf st) (sa + j) < K ky (arrOf st) (sa + na) := by
    intro j hj
    have := hk2 j hj
    simp only [Pg, Bool.false_eq_true, if_false, Bool.not_eq_true', decide_eq_false_iff_not] at this
    rw [hpbK] at this
    have hd := h.ne hB (i := sa + j) (j := sa + na) (by lia) (by lia) (by lia)
    lia
  have hkB : ∀ j, k ≤ j → j < na → K ky (arrOf st) (sa + na) < K ky (arrOf st) (sa + j) := by
    intro j hj hj'
    have := hk3 j hj hj'
    simp only [Pg, Bool.false_eq_true, if_false, Bool.not_eq_false', decide_eq_true_eq] at this
    rwa [hpbK] at this
  dsimp only
  by_cases hz : (na - k == 0) = true
  · rw [if_pos hz]
    have hz' : k = na := by simp at hz; lia
    refine wpS_pure (hq (arrOf st) (gallopOf st) hB (join ?_) (Out.refl _ _ _))
    have := hkA (na - 1) (by lia)
    rwa [show sa + (na - 1) = sa + na - 1 by lia] at this
  · rw [if_neg hz]
    have hz' : k < na := by simp at hz; lia
    have hl : sa + k + (na - k) - 1 = sa + na - 1 := by lia
    rw [hl]
    refine elE_1 (hB.at (i := sa + na - 1) (by lia) ky) fun pa => elA_3 ?_
    intro hpa hpam hpaK
    refine wpS_bind (wpS_elem (by simpa using hpa) (wpS_bind (wpS_gallop h hB.kind hpam (fun j hj => ?els2) s2 (by lia) fun m hm1 hm2 hm3 => ?_)))
    case els2 =>
      refine elE_1 (hB.at (i := sa + na + j) (by lia) ky) fun p => elA_3 ?_
      intro e1 e2 _
      exact ⟨p, e1, e2⟩
    have hmA : ∀ j, j < m → K ky (arrOf st) (sa + na + j) < K ky (arrOf st) (sa + na - 1) := by
      intro j hj
      have := hm2 j hj
      simp only [Pg, if_true, decide_eq_true_eq] at this
      rwa [hpaK] at this
    have hmB : ∀ j, m ≤ j → j < nb → K ky (arrOf st) (sa + na - 1) < K ky (arrOf st) (sa + na + j) := by
      intro j hj hj'
      have := hm3 j hj hj'
      simp only [Pg, if_true, decide_eq_false_iff_not] at this
      rw [hpaK] at this
      have hd := h.ne hB (i := sa + na - 1) (j := sa + na + j) (by lia) (by lia) (by lia)
      lia
    dsimp only
    by_cases hm0 : (m == 0) = true
    · rw [if_pos hm0]
      have hm0' : m = 0 := by simpa using hm0
      refine wpS_pure (hq (arrOf st) (gallopOf st) hB (join ?_) (Out.refl _ _ _))
      have := hmB 0 (by lia) (by lia)
      rwa [Nat.add_zero] at this
    · rw [if_neg hm0]
      have hm0' : 1 ≤ m := by simp at hm0; lia
      have hx : ((arrOf st).extract (sa + k) (sa + na)).size = na - k := by simp; lia
      have hy : ((arrOf st).extract (sa + na) (sa + na + m)).size = m := by simp; lia
      have sx := part_srt (xs := arrOf st) (i := sa + k) (j := sa + na) (by lia) (s1.sub (by lia) (Nat.le_refl _))
      have sy := part_srt (xs := arrOf st) (i := sa + na) (j := sa + na + m) (by lia) (s2.sub (Nat.le_refl _) (by lia))
      have mx : ∀ p ∈ ((arrOf st).extract (sa + k) (sa + na)).toList, p ∈ a₀.toList := fun p hp => by
        refine elE_1 (part_mem (by lia) hp) fun q => elA_3 ?_
        intro h1 h2 h3
        refine elE_1 (hB.at (i := q) (by lia) ky) fun p' => elA_3 ?_
        intro e1 e2 _
        rw [h3] at e1; cases e1; exact e2
      have my : ∀ p ∈ ((arrOf st).extract (sa + na) (sa + na + m)).toList, p ∈ a₀.toList := fun p hp => by
        refine elE_1 (part_mem (by lia) hp) fun q => elA_3 ?_
        intro h1 h2 h3
        refine elE_1 (hB.at (i := q) (by lia) ky) fun p' => elA_3 ?_
        intro e1 e2 _
        rw [h3] at e1; cases e1; exact e2
      have hne : ∀ u ∈ ((arrOf st).extract (sa + k) (sa + na)).toList, ∀ v ∈ ((arrOf st).extract (sa + na) (sa + na + m)).toList, ky u.1 ≠ ky v.1 := fun u hu v hv => by
        refine elE_1 (part_mem (by lia) hu) fun q => elA_3 ?_
        intro h1 h2 h3
        refine elE_1 (part_mem (by lia) hv) fun q' => elA_3 ?_
        intro h1' h2' h3'
        rw [← K_at (ky := ky) h3, ← K_at (ky := ky) h3']
        exact h.ne hB (by lia) (by lia) (by lia)
      have h0 : ∀ u, ((arrOf st).extract (sa + na) (sa + na + m)).toList[0]? = some u → ∀ v ∈ ((arrOf st).extract (sa + k) (sa + na)).toList, R ky u v := fun u hu v hv => by
        rw [part_get (by lia)] at hu
        refine elE_1 (part_mem (by lia) hv) fun q => elA_3 ?_
        intro h1 h2 h3
        have := hkB (q - sa) (by lia) (by lia)
        rw [show sa + (q - sa) = q by lia, K_at h3, K_list (x := u) (by simpa using hu)] at this
        exact this
      have hlast : ∀ u ∈ ((arrOf st).extract (sa + na) (sa + na + m)).toList, ∀ v ∈ ((arrOf st).extract (sa + k) (sa + na)).toList.drop (((arrOf st).extract (sa + k) (sa + na)).size - 1), R ky u v := fun u hu v hv => by
        refine elE_1 (part_mem (by lia) hu) fun q => elA_3 ?_
        intro h1 h2 h3
        rw [hx] at hv
        have e1 : ((arrOf st).extract (sa + k) (sa + na)).toList[na - k - 1]? = some pa := by
          rw [part_get (by lia), show sa + k + (na - k - 1) = sa + na - 1 by lia]; simpa using hpa
        rw [drop_at e1, List.drop_of_length_le (by simp; lia)] at hv
        rw [List.mem_singleton.mp hv]
        have := hmA (q - (sa + na)) (by lia)
        rw [show sa + na + (q - (sa + na)) = q by lia, K_at h3, K_at hpa] at this
        exact this
      have fin : ∀ (r : Array Keyed) g, Fin' ky ((arrOf st).extract (sa + k) (sa + na)).toList ((arrOf st).extract (sa + na) (sa + na + m)).toList r.toList →
          wpS (model prog w) A E s (do
            modify fun s => setArr s (r.toList.zipIdx.foldl (fun a (x : Keyed × Nat) => a.setIfInBounds (sa + k + x.2) x.1) (arrOf s))
            let l ← get
            pure (failedOf l).isNone) Q (setGallop (setPending st (((pendingOf st).setIfInBounds i (sa, na + nb, pw)).eraseIdxIfInBounds (i + 1))) g) := by
        intro r g hF
        refine wpS_bind (wpS_modify (wpS_bind (wpS_get (wpS_pure ?_))))
        have hlen : r.toList.length = na - k + m := by
          rw [hF.1.length_eq, List.length_append]
          simp only [Array.length_toList]
          lia
        have hB' : Base a₀ (setArr st (wr (arrOf st) (sa + k) r.toList 0)) := hB.setArr (wr_perm (by lia) (by
          rw [hlen, List.take_add, List.drop_drop, show sa + k + (na - k) = sa + na by lia]
          have := hF.1
          rw [part_list, part_list] at this
          rw [show sa + na - (sa + k) = na - k by lia, show sa + na + m - (sa + na) = m by lia] at this
          exact this))
        have wg := fun q => wr_get r.toList (arrOf st) (sa + k) 0 q (by lia)
        rw [hlen] at wg
        have wlow : ∀ q, q < sa + k → K ky (wr (arrOf st) (sa + k) r.toList 0) q = K ky (arrOf st) q := fun q hq => K_congr (by rw [wg q, if_neg (by lia)])
        have whigh : ∀ q, sa + na + m ≤ q → K ky (wr (arrOf st) (sa + k) r.toList 0) q = K ky (arrOf st) q := fun q hq => K_congr (by rw [wg q, if_neg (by lia)])
        have wmid : ∀ q, sa + k ≤ q → q < sa + na + m → ∃ p, r.toList[q - (sa + k)]? = some p ∧ K ky (wr (arrOf st) (sa + k) r.toList 0) q = ky p.1 ∧ ∃ q', sa + k ≤ q' ∧ q' < sa + na + m ∧ ky p.1 = K ky (arrOf st) q' := by
          intro q hq1 hq2
          have hlt : q - (sa + k) < r.toList.length := by lia
          refine (inE_1 (r.toList[q - (sa + k)]) (inA_3 (List.getElem?_eq_getElem hlt) ?_ ?_))
          · refine K_at ?_
            rw [wg q, if_pos (by lia)]
            exact List.getElem?_eq_getElem hlt
          · have hm := hF.1.mem_iff.mp (List.getElem_mem hlt)
            rcases List.mem_append.mp hm with hm | hm
            · refine elE_1 (part_mem (by lia) hm) fun q' => elA_3 ?_
              intro h1 h2 h3
              exact (inE_1 q' (inA_3 h1 (by lia) ((K_at h3).symm)))
            · refine elE_1 (part_mem (by lia) hm) fun q' => elA_3 ?_
              intro h1 h2 h3
              exact (inE_1 q' (inA_3 (by lia) h2 ((K_at h3).symm)))
        have lm : ∀ u q, sa ≤ u → u < sa + k → sa + k ≤ q → q < sa + na + nb → K ky (arrOf st) u < K ky (arrOf st) q := by
          intro u q hu1 hu2 hq1 hq2
          by_cases c : q < sa + na
          · exact s1 u q hu1 (by lia) c
          · have h1 := hkA (u - sa) (by lia)
            rw [show sa + (u - sa) = u by lia] at h1
            by_cases e : q = sa + na
            · rw [e]; exact h1
            · exact Int.lt_trans h1 (s2 _ _ (Nat.le_refl _) (by lia) hq2)
        have mh : ∀ q j, sa + k ≤ q → q < sa + na + m → sa + na + m ≤ j → j < sa + na + nb → K ky (arrOf st) q < K ky (arrOf st) j := by
          intro q j hq1 hq2 hj1 hj2
          by_cases c : sa + na ≤ q
          · exact s2 q j c (by lia) hj2
          · have h1 := hmB (j - (sa + na)) (by lia) (by lia)
            rw [show sa + na + (j - (sa + na)) = j by lia] at h1
            by_cases e : q = sa + na - 1
            · rw [e]; exact h1
            · exact Int.lt_trans (s1 q (sa + na - 1) (by lia) (by lia) (by lia)) h1
        have key := hq (wr (arrOf st) (sa + k) r.toList 0) g hB' (by
          intro u v hu huv hv
          by_cases u1 : u < sa + k
          · rw [wlow u u1]
            by_cases v1 : v < sa + k
            · rw [wlow v v1]; exact s1 u v hu huv (by lia)
            · by_cases v2 : v < sa + na + m
              · refine elE_1 (wmid v (by lia) v2) fun p => elA_3 ?_
                intro _ e hy2__
                refine elE_1 hy2__ fun q' => elA_3 ?_
                clear hy2__
                intro h1 h2 h3
                rw [e, h3]; exact lm u q' hu u1 h1 (by lia)
              · rw [whigh v (by lia)]; exact lm u v hu u1 (by lia) hv
          · by_cases u2 : u < sa + na + m
            · refine elE_1 (wmid u (by lia) u2) fun p => elA_3 ?_
              intro e0 e hy4__
              refine elE_1 hy4__ fun q' => elA_3 ?_
              clear hy4__
              intro h1 h2 h3
              by_cases v2 : v < sa + na + m
              · refine elE_1 (wmid v (by lia) v2) fun p' => elA_3 ?_
                intro e0' e' _
                rw [e, e']
                obtain ⟨hi1, rfl⟩ := List.getElem?_eq_some_iff.mp e0
                obtain ⟨hi2, rfl⟩ := List.getElem?_eq_some_iff.mp e0'
                exact List.pairwise_iff_getElem.mp hF.2 _ _ hi1 hi2 (by lia)
              · rw [e, h3, whigh v (by lia)]; exact mh q' v h1 h2 (by lia) hv
            · rw [whigh u (by lia), whigh v (by lia)]
              exact s2 u v (by lia) huv hv) (fun q hq => by rw [wg q, if_neg (by lia)])
        have hf : (failedOf st).isNone = true := by rw [hB.failed]; rfl
        show Q (failedOf st).isNone _
        rw [hf]
        exact key
      split
      · refine wpS_bind (wpS_mergeLo h hB.kind mx my sx sy (by lia) (by lia) hne h0 hlast fun r g hF => ?_)
        exact fin r g hF
      · refine wpS_bind (wpS_mergeHi h hB.kind mx my sx sy (by lia) (by lia) hne (fun u hu v hv => ?_) hlast fun r g hF => ?_)
        · have e0 : ∃ z, ((arrOf st).extract (sa + na) (sa + na + m)).toList[0]? = some z := ⟨_, List.getElem?_eq_getElem (by simp; lia)⟩
          obtain ⟨z, hz0⟩ := e0
          rw [take_at hz0] at hu
          simp at hu
          rw [hu]
          exact h0 z hz0 v hv
        · exact fin r g hF
end
end SO
end Mine
end

section
open PySem PySem.W PyProof.Rows PySem.Calls
set_option Elab.async false
set_option maxRecDepth 100000
set_option maxHeartbeats 2000000
namespace Mine
namespace SO

/-- runs side by side from a up to b -/
def Cover (ky : Value → Int) (xs : Array Keyed) : Nat → List (Nat × Nat) → Nat → Prop
  | a, [], b => a = b
  | a, (s, n) :: r, b => s = a ∧ 1 ≤ n ∧ Seg ky xs a (a + n) ∧ Cover ky xs (a + n) r b
def sn (p : Array (Nat × Nat × Nat)) : List (Nat × Nat) := p.toList.map fun x => (x.1, x.2.1)

section
variable {ky : Value → Int} {xs ys : Array Keyed}
theorem Cover.le : ∀ {p : List (Nat × Nat)} {a b : Nat}, Cover ky xs a p b → a + p.length ≤ b
  | [], a, b, h => Nat.le_of_eq h
  | (s, n) :: r, a, b, h => by
    have := Cover.le h.2.2.2
    have h1 := h.2.1
    rw [List.length_cons]; lia
theorem Cover.app : ∀ {p q : List (Nat × Nat)} {a b : Nat}, Cover ky xs a (p ++ q) b ↔ ∃ c, Cover ky xs a p c ∧ Cover ky xs c q b
  | [], q, a, b => ⟨fun h => ⟨a, rfl, h⟩, fun ⟨c, h1, h2⟩ => by have h1' : a = c := h1; subst h1'; exact h2⟩
  | (s, n) :: r, q, a, b => by
    constructor
    · rintro hx0__
      refine elA_4 ?_ hx0__
      clear hx0__
      intro h1 h2 h3 h4
      obtain ⟨c, h5, h6⟩ := Cover.app.mp h4
      exact ⟨c, (inA_4 h1 h2 h3 h5), h6⟩
    · rintro ⟨c, ⟨h1, h2, h3, h5⟩, h6⟩
      exact (inA_4 h1 h2 h3 (Cover.app.mpr ⟨c, h5, h6⟩))
theorem Cover.out {lo hi : Nat} (ho : Out xs ys lo hi) : ∀ {p : List (Nat × Nat)} {a b : Nat}, Cover ky xs a p b → b ≤ lo ∨ hi ≤ a → Cover ky ys a p b
  | [], _, _, h, _ => h
  | (s, n) :: r, a, b, h, hd => by
    have hle := Cover.le h.2.2.2
    refine (inA_4 (h.1) (h.2.1) (h.2.2.1.out ho (by lia)) (Cover.out ho h.2.2.2 (by lia)))

theorem sn_push (p : Array (Nat × Nat × Nat)) (x : Nat × Nat × Nat) : sn (p.push x) = sn p ++ [(x.1, x.2.1)] := by simp [sn]
theorem sn_modify (p : Array (Nat × Nat × Nat)) (i pw : Nat) : sn (p.modify i fun (st, len, _) => (st, len, pw)) = sn p := by
  unfold sn
  apply List.ext_getElem?
  intro k
  rw [List.getElem?_map, List.getElem?_map, Array.getElem?_toList, Array.getElem?_toList, Array.getElem?_modify]
  split
  · cases p[k]? <;> rfl
  · rfl
theorem sn_length (p : Array (Nat × Nat × Nat)) : (sn p).length = p.size := by simp [sn]

theorem sn_merge {p : Array (Nat × Nat × Nat)} {i : Nat} {sa na pw sb nb pw2 : Nat} (h1 : p[i]? = some (sa, na, pw)) (h2 : p[i + 1]? = some (sb, nb, pw2)) :
    sn p = (sn p).take i ++ (sa, na) :: (sb, nb) :: (sn p).drop (i + 2) ∧ sn ((p.setIfInBounds i (sa, na + nb, pw)).eraseIdxIfInBounds (i + 1)) = (sn p).take i ++ (sa, na + nb) :: (sn p).drop (i + 2) := by
  have e1 : (sn p)[i]? = some (sa, na) := by unfold sn; rw [List.getElem?_map, Array.getElem?_toList, h1]; rfl
  have e2 : (sn p)[i + 1]? = some (sb, nb) := by unfold sn; rw [List.getElem?_map, Array.getElem?_toList, h2]; rfl
  have hi : i + 1 < p.size := (Array.getElem?_eq_some_iff.mp h2).1
  have d1 : ∀ {l : List (Nat × Nat)} {i : Nat} {x : Nat × Nat}, l[i]? = some x → l.drop i = x :: l.drop (i + 1) := fun {l i x} h => by
    obtain ⟨hi, rfl⟩ := List.getElem?_eq_some_iff.mp h
    exact List.drop_eq_getElem_cons hi
  constructor
  · rw [← d1 e2, ← d1 e1, List.take_append_drop]
  · apply List.ext_getElem?
    intro k
    have hl : ((sn p).take i).length = i := by rw [List.length_take, sn_length]; lia
    have hlm : ((p.toList.map fun x => (x.1, x.2.1)).take i).length = i := hl
    have hps : p.toList.length = p.size := by simp
    unfold sn
    rw [List.getElem?_map, Array.toList_eraseIdxIfInBounds, List.getElem?_eraseIdx, Array.toList_setIfInBounds]
    by_cases c1 : k < i
    · rw [if_pos (by lia), List.getElem?_set, if_neg (by lia), List.getElem?_append_left (by lia), List.getElem?_take, if_pos c1, List.getElem?_map]
    · by_cases c2 : k = i
      · subst c2
        rw [if_pos (by lia), List.getElem?_set, if_pos rfl, if_pos (by lia), List.getElem?_append_right (by lia), hlm, Nat.sub_self]
        rfl
      · rw [if_neg (by lia), List.getElem?_set, if_neg (by lia), List.getElem?_append_right (by lia), hlm, show k - i = (k - i - 1) + 1 by lia, List.getElem?_cons_succ, List.getElem?_drop, List.getElem?_map, show i + 2 + (k - i - 1) = k + 1 by lia]
end

section
variable {prog : Program} {w : World} {A : Around} {E : Value → Shared → Prop} {s : Shared} {a₀ : Array Keyed} {ky : Value → Int}

theorem wpS_mergeCover (h : Keys prog w A E s ky a₀) {st : SortSt} {i b : Nat} {Q : Bool → SortSt → Prop} (hB : Base a₀ st) (hc : Cover ky (arrOf st) 0 (sn (pendingOf st)) b) (hb : b ≤ a₀.size) (hi : i + 1 < (pendingOf st).size)
    (hq : ∀ st', Base a₀ st' → Cover ky (arrOf st') 0 (sn (pendingOf st')) b → Out (arrOf st) (arrOf st') 0 b → (pendingOf st').size + 1 = (pendingOf st).size → Q true st') :
    wpS (model prog w) A E s (mergeAt' i) Q st := by
  obtain ⟨⟨sa, na, pw⟩, h1⟩ : ∃ x, (pendingOf st)[i]? = some x := ⟨_, Array.getElem?_eq_getElem (by lia)⟩
  obtain ⟨⟨sb, nb, pw2⟩, h2⟩ : ∃ x, (pendingOf st)[i + 1]? = some x := ⟨_, Array.getElem?_eq_getElem (by lia)⟩
  obtain ⟨m1, m2⟩ := sn_merge h1 h2
  rw [m1] at hc
  obtain ⟨c, c1, c2⟩ := Cover.app.mp hc
  refine elA_7 ?_ c2
  clear c2
  intro e0__ n1 s1 e1__ n2 s2 c3
  subst e0__
  subst e1__
  have hle := Cover.le c3
  refine wpS_mergeAt h hB h1 h2 n1 n2 (by lia) s1 s2 fun xs g hB' hs' ho' => ?_
  refine hq _ ⟨hB'.perm, hB'.kind, hB'.failed⟩ ?_ (ho'.wide (Nat.zero_le _) (by lia)) ?_
  · show Cover ky xs 0 (sn _) b
    rw [m2]
    refine Cover.app.mpr (inE_1 sa (inA_5 (Cover.out ho' c1 (.inl (Nat.le_refl _))) rfl (by lia) ?_ ?_))
    · rw [← Nat.add_assoc]; exact hs'
    · rw [← Nat.add_assoc]; exact Cover.out ho' c3 (.inr (Nat.le_refl _))
  · show (Array.eraseIdxIfInBounds _ _).size + 1 = _
    have e := congrArg List.length m2
    have e' := congrArg List.length m1
    rw [sn_length] at e e'
    simp only [List.length_append, List.length_cons, List.length_drop, List.length_take, sn_length] at e e'
    rw [e]
    lia

theorem wpS_sortRuns (h : Keys prog w A E s ky a₀) {st : SortSt} {Q : Unit → SortSt → Prop} (hB : Base a₀ st) (hp : pendingOf st = #[]) (h2 : 1 ≤ a₀.size)
    (hq : ∀ st', (arrOf st').Perm a₀ → failedOf st' = none → Seg ky (arrOf st') 0 a₀.size → Q () st') : wpS (model prog w) A E s sortRuns' Q st := by
  rw [sortRuns'_eq]
  refine wpS_bind (wpS_get ?_)
  dsimp only
  simp only [hB.size]
  generalize minRun' a₀.size a₀.size 0 = minrun
  refine wpS_bind (wpS_mono (wpS_forRange
    (I := fun x c st' => ∃ lo, c = (none, lo) ∧ lo ≤ a₀.size ∧ Base a₀ st' ∧ Cover ky (arrOf st') 0 (sn (pendingOf st')) lo ∧ (lo = a₀.size ∨ x ≤ lo))
    (Q := fun c st' => c = (none, a₀.size) ∧ Base a₀ st' ∧ Cover ky (arrOf st') 0 (sn (pendingOf st')) a₀.size) ?step ?fin (inE_1 0 (inA_5 rfl (Nat.zero_le _) hB (by rw [hp]; rfl) (.inr (Nat.le_refl _))))) ?post)
  case fin =>
    rintro c st' hx2__
    refine elE_1 hx2__ fun lo => elA_5 ?_
    clear hx2__
    intro e0__ h3 hB' hc hor
    subst e0__
    have : lo = a₀.size := by lia
    subst this
    exact ⟨rfl, hB', hc⟩
  case step =>
    rintro x c st' _ hx hx3__
    refine elE_1 hx3__ fun lo => elA_5 ?_
    clear hx3__
    intro e0__ h3 hB' hc hor
    subst e0__
    dsimp only
    by_cases hlo : lo ≥ a₀.size
    · rw [if_pos hlo]
      have : lo = a₀.size := by lia
      subst this
      exact wpS_pure ⟨rfl, hB', hc⟩
    · rw [if_neg hlo]
      have next : ∀ n st2, 1 ≤ n → lo + n ≤ a₀.size → Base a₀ st2 → Cover ky (arrOf st2) 0 (sn (pendingOf st2)) lo → Seg ky (arrOf st2) lo (lo + n) →
          ∃ lo', (none, lo + n) = ((none : Option Unit), lo') ∧ lo' ≤ a₀.size ∧ Base a₀ (setPending st2 ((pendingOf st2).push (lo, n, 0))) ∧ Cover ky (arrOf st2) 0 (sn ((pendingOf st2).push (lo, n, 0))) lo' ∧ (lo' = a₀.size ∨ x + 1 ≤ lo') := by
        intro n st2 hn1 hn2 hB2 hc2 hs2
        refine (inE_1 (lo + n) (inA_5 rfl hn2 (⟨hB2.perm, hB2.kind, hB2.failed⟩) ?_ (.inr (by lia))))
        rw [sn_push]
        exact Cover.app.mpr (inE_1 lo (inA_5 hc2 rfl hn1 hs2 rfl))
      refine wpS_bind (wpS_countRun h (by lia) (by lia) hB' fun m ys hB2 hm1 hm2 hs2 ho2 => ?_)
      dsimp only
      have hc2 : Cover ky ys 0 (sn (pendingOf st')) lo := Cover.out ho2 hc (.inl (Nat.le_refl _))
      by_cases hmr : m < minrun
      · rw [if_pos hmr]
        refine wpS_bind (wpS_lift (wpAny_rule ⟨rfl, ?_⟩))
        refine wpS_bind (wpS_binarySort h (by lia) (by lia) hB2 hs2 fun zs hB3 hs3 ho3 => ?_)
        simp only [Bool.not_true, Bool.false_eq_true, if_false]
        generalize hnn : min (a₀.size - lo) minrun = nn at *
        have hn1 : 1 ≤ nn := by lia
        have hn2 : lo + nn ≤ a₀.size := by lia
        have hBn : Base a₀ (setArr (setArr st' ys) zs) := hB3
        have hcn : Cover ky (arrOf (setArr (setArr st' ys) zs)) 0 (sn (pendingOf (setArr (setArr st' ys) zs))) lo := Cover.out ho3 hc2 (.inl (Nat.le_refl _))
        have hsn : Seg ky (arrOf (setArr (setArr st' ys) zs)) lo (lo + nn) := hs3
        generalize setArr (setArr st' ys) zs = stn at *
        refine wpS_bind (wpS_get ?_)
        cases hbk : (pendingOf (stn)).back? with
        | none =>
          dsimp only
          exact wpS_bind (wpS_modify (wpS_pure (next nn (stn) hn1 hn2 hBn hcn hsn)))
        | some t =>
          obtain ⟨s1, n1, p1⟩ := t
          dsimp only
          generalize power' a₀.size (2 * s1 + n1) (2 * s1 + n1 + n1 + nn) a₀.size = pwr
          refine wpS_bind (wpS_mono (wpS_forRange (I := fun _ c st' => c = (none, ()) ∧ Base a₀ st' ∧ Cover ky (arrOf st') 0 (sn (pendingOf st')) lo ∧ Seg ky (arrOf st') lo (lo + nn))
            (Q := fun c st' => c = (none, ()) ∧ Base a₀ st' ∧ Cover ky (arrOf st') 0 (sn (pendingOf st')) lo ∧ Seg ky (arrOf st') lo (lo + nn)) ?msa (fun _ _ hh => hh) (inA_4 rfl hBn hcn hsn)) ?mpa)
          case mpa =>
            rintro c st' hx4__
            refine elA_4 ?_ hx4__
            clear hx4__
            intro e0__ hB5 hc5 hs5
            subst e0__
            dsimp only
            refine wpS_bind (wpS_modify (wpS_bind (wpS_modify (wpS_pure (next nn (setPending st' ((pendingOf st').modify ((pendingOf st').size - 1) fun (st, len, _) => (st, len, pwr))) hn1 hn2 ⟨hB5.perm, hB5.kind, hB5.failed⟩ ?_ hs5)))))
            show Cover ky (arrOf st') 0 (sn ((pendingOf st').modify _ _)) lo
            rw [sn_modify]
            exact hc5
          case msa =>
            rintro y c st' _ hy hx5__
            refine elA_4 ?_ hx5__
            clear hx5__
            intro e0__ hB5 hc5 hs5
            subst e0__
            refine wpS_bind (wpS_get ?_)
            by_cases hsz : (pendingOf st').size > 1
            · rw [if_pos hsz]
              obtain ⟨⟨q1, q2, q3⟩, hq⟩ : ∃ t, (pendingOf st')[(pendingOf st').size - 2]? = some t := ⟨_, Array.getElem?_eq_getElem (by lia)⟩
              rw [hq]
              dsimp only
              by_cases ho : q3 ≤ pwr
              · rw [if_pos ho]
                exact wpS_pure (inA_4 rfl hB5 hc5 hs5)
              · rw [if_neg ho]
                refine wpS_bind (wpS_mergeCover h hB5 hc5 (by lia) (by lia) fun st6 hB6 hc6 ho6 _ => ?_)
                simp only [Bool.not_true, Bool.false_eq_true, if_false]
                exact wpS_pure (inA_4 rfl hB6 hc6 (hs5.out ho6 (.inr (Nat.le_refl _))))
            · rw [if_neg hsz]
              exact wpS_pure (inA_4 rfl hB5 hc5 hs5)
      · rw [if_neg hmr]
        have hn1 : 1 ≤ m := hm1
        have hn2 : lo + m ≤ a₀.size := by lia
        have hBn : Base a₀ (setArr st' ys) := hB2
        have hcn : Cover ky (arrOf (setArr st' ys)) 0 (sn (pendingOf (setArr st' ys))) lo := hc2
        have hsn : Seg ky (arrOf (setArr st' ys)) lo (lo + m) := hs2
        generalize setArr st' ys = stn at *
        refine wpS_bind (wpS_get ?_)
        cases hbk : (pendingOf (stn)).back? with
        | none =>
          dsimp only
          exact wpS_bind (wpS_modify (wpS_pure (next m (stn) hn1 hn2 hBn hcn hsn)))
        | some t =>
          obtain ⟨s1, n1, p1⟩ := t
          dsimp only
          generalize power' a₀.size (2 * s1 + n1) (2 * s1 + n1 + n1 + m) a₀.size = pwr
          refine wpS_bind (wpS_mono (wpS_forRange (I := fun _ c st' => c = (none, ()) ∧ Base a₀ st' ∧ Cover ky (arrOf st') 0 (sn (pendingOf st')) lo ∧ Seg ky (arrOf st') lo (lo + m))
            (Q := fun c st' => c = (none, ()) ∧ Base a₀ st' ∧ Cover ky (arrOf st') 0 (sn (pendingOf st')) lo ∧ Seg ky (arrOf st') lo (lo + m)) ?msb (fun _ _ hh => hh) (inA_4 rfl hBn hcn hsn)) ?mpb)
          case mpb =>
            rintro c st' hx6__
            refine elA_4 ?_ hx6__
            clear hx6__
            intro e0__ hB5 hc5 hs5
            subst e0__
            dsimp only
            refine wpS_bind (wpS_modify (wpS_bind (wpS_modify (wpS_pure (next m (setPending st' ((pendingOf st').modify ((pendingOf st').size - 1) fun (st, len, _) => (st, len, pwr))) hn1 hn2 ⟨hB5.perm, hB5.kind, hB5.failed⟩ ?_ hs5)))))
            show Cover ky (arrOf st') 0 (sn ((pendingOf st').modify _ _)) lo
            rw [sn_modify]
            exact hc5
          case msb =>
            rintro y c st' _ hy hx7__
            refine elA_4 ?_ hx7__
            clear hx7__
            intro e0__ hB5 hc5 hs5
            subst e0__
            refine wpS_bind (wpS_get ?_)
            by_cases hsz : (pendingOf st').size > 1
            · rw [if_pos hsz]
              obtain ⟨⟨q1, q2, q3⟩, hq⟩ : ∃ t, (pendingOf st')[(pendingOf st').size - 2]? = some t := ⟨_, Array.getElem?_eq_getElem (by lia)⟩
              rw [hq]
              dsimp only
              by_cases ho : q3 ≤ pwr
              · rw [if_pos ho]
                exact wpS_pure (inA_4 rfl hB5 hc5 hs5)
              · rw [if_neg ho]
                refine wpS_bind (wpS_mergeCover h hB5 hc5 (by lia) (by lia) fun st6 hB6 hc6 ho6 _ => ?_)
                simp only [Bool.not_true, Bool.false_eq_true, if_false]
                exact wpS_pure (inA_4 rfl hB6 hc6 (hs5.out ho6 (.inr (Nat.le_refl _))))
            · rw [if_neg hsz]
              exact wpS_pure (inA_4 rfl hB5 hc5 hs5)
  case post =>
    rintro c st' ⟨rfl, hB', hc⟩
    dsimp only
    have hple := Cover.le hc
    rw [sn_length] at hple
    refine wpS_bind (wpS_mono (wpS_forRange (I := fun x c st' => c = (none, ()) ∧ Base a₀ st' ∧ Cover ky (arrOf st') 0 (sn (pendingOf st')) a₀.size ∧ ((pendingOf st').size ≤ 1 ∨ (pendingOf st').size + x ≤ a₀.size))
      (Q := fun c st' => c = (none, ()) ∧ Base a₀ st' ∧ Cover ky (arrOf st') 0 (sn (pendingOf st')) a₀.size ∧ (pendingOf st').size ≤ 1) ?fs ?ff (inA_4 rfl hB' hc (.inr (by lia)))) ?fp)
    case ff =>
      rintro c st'' hx8__
      refine elA_4 ?_ hx8__
      clear hx8__
      intro e0__ h3 h4 h5
      subst e0__
      exact (inA_4 rfl h3 h4 (by lia))
    case fs =>
      rintro x c st'' _ hx hx9__
      refine elA_4 ?_ hx9__
      clear hx9__
      intro e0__ h3 h4 h5
      subst e0__
      refine wpS_bind (wpS_get ?_)
      by_cases hsz : (pendingOf st'').size ≤ 1
      · rw [if_pos hsz]
        exact wpS_pure (inA_4 rfl h3 h4 hsz)
      · rw [if_neg hsz]
        refine wpS_bind (wpS_mergeCover h h3 h4 (Nat.le_refl _) (by
          have key : ∀ (b : Bool), (if b = true then (pendingOf st'').size - 2 - 1 else (pendingOf st'').size - 2) + 1 < (pendingOf st'').size := fun b => by cases b <;> simp <;> lia
          exact key _) fun st6 hB6 hc6 _ hs6 => ?_)
        simp only [Bool.not_true, Bool.false_eq_true, if_false]
        exact wpS_pure (inA_4 rfl hB6 hc6 (by lia))
    case fp =>
      rintro c st'' hx10__
      refine elA_4 ?_ hx10__
      clear hx10__
      intro e0__ h3 h4 h5
      subst e0__
      refine wpS_pure (hq _ h3.perm h3.failed ?_)
      have hl := sn_length (pendingOf st'')
      match hsnp : sn (pendingOf st''), h4 with
      | [], h4 =>
        have : 0 = a₀.size := h4
        lia
      | [(s1, n1)], h4 =>
        refine elA_4 ?_ h4
        clear h4
        intro e0__ _ hs he
        subst e0__
        have he' : 0 + n1 = a₀.size := he
        rw [he'] at hs
        exact hs
      | _ :: _ :: _, _ =>
        rw [hsnp] at hl
        simp at hl
        lia
end
end SO
end Mine
end

section
open PySem PySem.W PyProof.Rows PySem.Calls
open AutoSeq1 (wpAny_loadPart')
open MeetsSeq MeetsSeq2 MeetsSeq3 SeqRoads2
set_option Elab.async false
set_option maxRecDepth 100000
set_option maxHeartbeats 2000000
namespace Mine
namespace SO

section
variable {prog : Program} {w : World} {A : Around} {E : Value → Shared → Prop} {s : Shared}

def lex (a b c d : Int) : Bool := decide (a < c) || (decide (a = c) && decide (b < d))

theorem lt_loop2 (l m : Addr) (a b c d : Int) (ta tb tc td : Tok) (n n2 : Nat) :
    Meets (Builtin.«list.__eq__.loop» ⟨[.ref l, .ref m, rawInt 2, rawInt 0], []⟩)
      (fun _ R s => s.heap.get? l = some (listOf #[.int a ta, .int b tb] n) ∧ s.heap.get? m = some (listOf #[.int c tc, .int d td] n2) ∧ R (.ok (.ret (.bool false))) s) := by
  intro prog w A R s h
  obtain ⟨hp, g, dr, tk, os⟩ := s
  obtain ⟨hl, hb, h⟩ := h
  wp_walk using wpAny_loadPart' hl, wpAny_loadPart' hb
  exact h

theorem lt_loopAt (l m : Addr) (items items2 : Array Value) (n n2 : Nat) (x y : Value) (i : Nat) (hx : items[i]? = some x) (hy : items2[i]? = some y) (e r : Bool) (Rest : Shared → Prop)
    (hrest : Meets (Builtin.«list.__eq__.loop» ⟨[.ref l, .ref m, rawInt ((i + 1 : Nat) : Int), rawInt 0], []⟩) (fun _ R s => Rest s ∧ R (.ok (.ret (.bool r))) s)) (b : Bool)
    (hlt : e = false → ∀ (prog : Program) (w : World) (A : Around) (E : Value → Shared → Prop) (s : Shared) (Q : Value → Shared → Prop), Q (.bool b) s → wpAny (model prog w) A (richCompare .Lt x y) Q E s) :
    Meets (Builtin.«list.__eq__.loop» ⟨[.ref l, .ref m, rawInt i, rawInt 0], []⟩)
      (fun A R s => s.heap.get? l = some (listOf items n) ∧ s.heap.get? m = some (listOf items2 n2) ∧ PySem.SeqAt.EqAt A.in1 s x y e ∧ Rest s ∧ R (.ok (.ret (.bool (if e then r else b)))) s) := by
  intro prog w A R s h
  obtain ⟨hp, g, dr, tk, os⟩ := s
  refine elA_5 ?_ h
  clear h
  intro hl hb he hr h
  wp_walk using wpAny_loadPart' hl, wpAny_loadPart' hb
  have hi1 : items[((i : Nat) : Int).toNat]? = some x := by simpa using hx
  have hi2 : items2[((i : Nat) : Int).toNat]? = some y := by simpa using hy
  have hc : ((i : Int) + 1) = ((i + 1 : Nat) : Int) := by push_cast; rfl
  rw [hi1, hi2]
  refine wpAny_bind (he prog w _ _ ?_)
  cases e with
  | true =>
    wp_walk
    rw [hc]
    exact ⟨plainId_quiet plain_eq_loop _, codeAny_builtin entry_eq_loop (by
      rw [Around.under_plainId plain_eq_loop _]
      exact hrest prog w A R _ ⟨hr, by simpa using h⟩)⟩
  | false =>
    wp_walk using wpAny_loadPart' hl, wpAny_loadPart' hb
    rw [hi1, hi2]
    refine wpAny_bind (hlt rfl _ _ _ _ _ _ ?_)
    wp_walk
    simpa using h
theorem rc_lt (a b : Int) (t u : Tok) (prog : Program) (w : World) (A : Around) (E : Value → Shared → Prop) (s : Shared) (Q : Value → Shared → Prop) (h : Q (.bool (decide (a < b))) s) : wpAny (model prog w) A (richCompare .Lt (.int a t) (.int b u)) Q E s :=
  PyProof.Rows.lt_int (A := A) (E := E) h

theorem list_lt (l m : Addr) (a b c d : Int) (ta tb tc td : Tok) (n n2 : Nat) :
    Meets (Builtin.«list.__lt__» ⟨[.ref l, .ref m], []⟩)
      (fun _ R s => s.heap.get? l = some (listOf #[.int a ta, .int b tb] n) ∧ s.heap.get? m = some (listOf #[.int c tc, .int d td] n2) ∧ R (.ok (.ret (.bool (lex a b c d)))) s) := by
  have h1 := lt_loopAt l m #[.int a ta, .int b tb] #[.int c tc, .int d td] n n2 (.int b tb) (.int d td) 1 rfl rfl (b == d) false (fun s => s.heap.get? l = some (listOf #[.int a ta, .int b tb] n) ∧ s.heap.get? m = some (listOf #[.int c tc, .int d td] n2)) (fun prog w A R s hh => lt_loop2 l m a b c d ta tb tc td n n2 prog w A R s ⟨hh.1.1, hh.1.2, hh.2⟩) (decide (b < d)) (fun _ => rc_lt b d tb td)
  have h0 := lt_loopAt l m #[.int a ta, .int b tb] #[.int c tc, .int d td] n n2 (.int a ta) (.int c tc) 0 rfl rfl (a == c) (if (b == d) = true then false else decide (b < d)) (fun s => s.heap.get? l = some (listOf #[.int a ta, .int b tb] n) ∧ s.heap.get? m = some (listOf #[.int c tc, .int d td] n2))
    (fun prog w A R s hh => h1 prog w A R s (inA_5 (hh.1.1) (hh.1.2) (PySem.SeqAt.EqAt.int_int _ _ _ _) (⟨hh.1.1, hh.1.2⟩) (hh.2))) (decide (a < c)) (fun _ => rc_lt a c ta tc)
  intro prog w A R s h
  obtain ⟨hp, g, dr, tk, os⟩ := s
  obtain ⟨hl, hb, h⟩ := h
  have f3 := AutoSeq1.sub_list_list
  wp_walk using wpAny_loadPart' hl, wpAny_loadPart' hb
  exact ⟨plainId_quiet plain_eq_loop _, codeAny_builtin entry_eq_loop (by
    rw [Around.under_plainId plain_eq_loop _]
    refine h0 prog w A R _ (inA_5 hl hb (PySem.SeqAt.EqAt.int_int _ _ _ _) (⟨hl, hb⟩) ?_)
    have e : lex a b c d = (if (a == c) = true then (if (b == d) = true then false else decide (b < d)) else decide (a < c)) := by
      unfold lex
      by_cases e1 : a = c
      · subst e1
        by_cases e2 : b = d
        · subst e2; simp
        · simp [e2]
      · simp [e1]
    rw [← e]
    exact h)⟩

theorem oneLt_pair {l m : Addr} {a b c d : Int} {ta tb tc td : Tok} {n n2 : Nat} {Q : Bool → Shared → Prop} (hu : A.units < cLine) (hl : s.heap.get? l = some (listOf #[.int a ta, .int b tb] n)) (hm : s.heap.get? m = some (listOf #[.int c tc, .int d td] n2))
    (h : Q (lex a b c d) s) : wpAny (model prog w) A (oneLt' true (.ref l) (.ref m)) Q E s := by
  rw [oneLt'_eq]
  simp only [if_true]
  refine wpAny_bind (wpAny_cRoomFor hu ?_)
  refine wpAny_bind (wpAny_callSpecialIfBound?_slot ⟨_, hl, rfl⟩ PySem.F.slot_list_lt (call_meets PySem.F.slot_list_lt ⟨_, hl, rfl⟩ PySem.F.entry_list_lt (PySem.F.args_list_lt_2 _ _) (list_lt l m a b c d ta tb tc td n n2) ⟨hl, hm, ?_⟩))
  exact wpAny_truthy_bool h
end
end SO
end Mine
end

section
open PySem PySem.W PyProof.Rows PySem.Calls
set_option Elab.async false
set_option maxRecDepth 100000
set_option maxHeartbeats 2000000
namespace Mine
namespace SO

section
variable {prog : Program} {w : World} {A : Around} {E : Value → Shared → Prop} {s : Shared}

theorem wpAny_mapM {M : Model} {α β : Type} {f : α → Sem β} {g : α → β} : ∀ (vs : List α) {Q : List β → Shared → Prop}, (∀ v ∈ vs, ∀ Q' : β → Shared → Prop, Q' (g v) s → wpAny M A (f v) Q' E s) → Q (vs.map g) s → wpAny M A (vs.mapM f) Q E s
  | [], Q, _, h => by rw [List.mapM_nil]; exact wpAny_pure h
  | v :: vs, Q, hf, h => by
    rw [List.mapM_cons]
    refine wpAny_bind (hf v (.head _) _ ?_)
    exact wpAny_bind (wpAny_mapM vs (fun u hu => hf u (.tail _ hu)) (wpAny_pure h))


/-- every value is a list of the heap -/
def AllLists (h : Heap) (vs : List Value) : Prop := ∀ v ∈ vs, ∃ l o, v = .ref l ∧ h.get? l = some o ∧ o.cls = .type "list"

theorem keyKind_lists {v : Value} {vs : List Value} {Q : SortKind → Shared → Prop} (hv : AllLists s.heap (v :: vs)) (h : Q oneType' s) : wpAny (model prog w) A (keyKind' (v :: vs).toArray) Q E s := by
  rw [keyKind'_eq, List.mapM_toArray]
  refine wpAny_bind ?_
  rw [map_eq_pure_bind]
  refine wpAny_bind (wpAny_mapM (g := fun _ => (none : Option Value)) (v :: vs) (fun u hu Q' hq => ?_) (wpAny_pure ?_))
  · refine elE_2 (hv u hu) fun l o => elA_3 ?_
    intro e0__ ho hc
    subst e0__
    refine wpAny_bind (wpAny_typeOf (T := "list") ⟨o, ho, hc⟩ ?_)
    rw [if_pos (by decide)]
    exact wpAny_pure hq
  · rw [if_neg (by simp), if_neg (by simp)]
    rw [oneTypeOnly'_eq, List.mapM_toArray]
    refine wpAny_bind ?_
    refine wpAny_bind ?_
    rw [map_eq_pure_bind]
    refine wpAny_bind (wpAny_mapM (g := fun _ => Value.type "list") (v :: vs) (fun u hu Q' hq => ?_) (wpAny_pure ?_))
    · refine elE_2 (hv u hu) fun l o => elA_3 ?_
      intro e0__ ho hc
      subst e0__
      exact wpAny_typeOf (T := "list") ⟨o, ho, hc⟩ hq
    · have hall : ((List.map (fun _ => Value.type "list") (v :: vs)).toArray.all fun x => x == Value.type "list") = true := by
        simp only [List.all_toArray, List.all_map, List.all_eq_true]
        intro _ _
        rfl
      have h0 : (List.map (fun _ => Value.type "list") (v :: vs)).toArray[0]? = some (Value.type "list") := by simp
      rw [h0]
      simp only [hall, if_true]
      exact wpAny_pure (wpAny_pure h)

/-- what a pair list holds, as numbers -/
def PairAt (h : Heap) (v : Value) (p : Int × Int) : Prop := ∃ l ta tb n, v = .ref l ∧ h.get? l = some (listOf #[.int p.1 ta, .int p.2 tb] n)

theorem pair_keys (hu : A.units < cLine) (ring : Int) (hr : 0 < ring) (ps : Value → Int × Int) (vs : List Value) (hp : ∀ v ∈ vs, PairAt s.heap v (ps v)) (hb : ∀ v ∈ vs, 0 ≤ (ps v).2 ∧ (ps v).2 < ring)
    (hn : (vs.map fun v => (ps v).1 * ring + (ps v).2).Nodup) : Keys prog w A E s (fun v => (ps v).1 * ring + (ps v).2) (pairsOf vs) where
  lt := fun st x y Q hk hx hy hq => by
    rw [pairsOf_toList] at hx hy
    have hx' := mem_zip_self hx
    have hy' := mem_zip_self hy
    refine elE_4 (hp _ hx'.2) fun l ta tb n => elA_2 ?_
    intro e1 h1
    refine elE_4 (hp _ hy'.2) fun m tc td n2 => elA_2 ?_
    intro e2 h2
    rw [lt'_eq]
    refine wpS_bind (wpS_get ?_)
    rw [hk, keyLt'_oneType]
    refine wpS_bind (wpS_lift (wpAny_attempt ?_))
    rw [e1, e2]
    refine oneLt_pair hu h1 h2 ⟨rfl, ?_⟩
    have hb1 := hb _ hx'.2
    have hb2 := hb _ hy'.2
    have e : lex (ps x.1).1 (ps x.1).2 (ps y.1).1 (ps y.1).2 = decide ((ps x.1).1 * ring + (ps x.1).2 < (ps y.1).1 * ring + (ps y.1).2) := by
      unfold lex
      rcases Int.lt_trichotomy (ps x.1).1 (ps y.1).1 with c | c | c
      · have : ((ps x.1).1 + 1) * ring ≤ (ps y.1).1 * ring := Int.mul_le_mul_of_nonneg_right (by lia) (by lia)
        rw [Int.add_mul] at this
        have g1 : (ps x.1).1 * ring + (ps x.1).2 < (ps y.1).1 * ring + (ps y.1).2 := by lia
        rw [decide_eq_true c, decide_eq_true g1, Bool.true_or]
      · rw [c]
        have h0 : ¬ (ps y.1).1 < (ps y.1).1 := by lia
        simp
      · have : ((ps y.1).1 + 1) * ring ≤ (ps x.1).1 * ring := Int.mul_le_mul_of_nonneg_right (by lia) (by lia)
        rw [Int.add_mul] at this
        have g1 : ¬ (ps x.1).1 * ring + (ps x.1).2 < (ps y.1).1 * ring + (ps y.1).2 := by lia
        have g2 : ¬ (ps x.1).1 < (ps y.1).1 := by lia
        have g3 : ¬ (ps x.1).1 = (ps y.1).1 := by lia
        rw [decide_eq_false g1, decide_eq_false g2, decide_eq_false g3, Bool.false_or, Bool.false_and]
    show wpS (model prog w) A E s (pure (some (lex (ps x.1).1 (ps x.1).2 (ps y.1).1 (ps y.1).2))) Q st
    refine wpS_pure ?_
    rw [e]
    exact hq
  inj := by
    rw [pairsOf_toList]
    have e : ((vs.zip vs).map fun p => (ps p.1).1 * ring + (ps p.1).2) = vs.map fun v => (ps v).1 * ring + (ps v).2 := by
      have : ((vs.zip vs).map fun p => (ps p.1).1 * ring + (ps p.1).2) = ((vs.zip vs).map Prod.fst).map fun v => (ps v).1 * ring + (ps v).2 := by rw [List.map_map]; rfl
      rw [this, List.map_fst_zip (Nat.le_refl _)]
    rw [e]
    exact hn
end
end SO
end Mine
end

section
open PySem PySem.W PyProof.Rows PySem.Calls
set_option Elab.async false
set_option maxRecDepth 100000
set_option maxHeartbeats 2000000
namespace Mine
namespace SO

section
variable {prog : Program} {w : World} {A : Around} {E : Value → Shared → Prop} {s : Shared}

theorem PairAt.keep {h h' : Heap} {v : Value} {p : Int × Int} (x : PairAt h v p) (hk : ∀ l o, v = .ref l → h.get? l = some o → h'.get? l = some o) : PairAt h' v p := by
  refine elE_4 x fun l ta tb n => elA_2 ?_
  clear x
  intro e ho
  exact (inE_4 l ta tb n (inA_2 e (hk l _ e ho)))

theorem out_of {ky : Value → Int} {vs : List Value} {xs : Array Keyed} (hp : xs.Perm (pairsOf vs)) (hs : Seg ky xs 0 (pairsOf vs).size) :
    (xs.map (·.2)).toList.Perm vs ∧ (xs.map (·.2)).toList.Pairwise fun u v => ky u < ky v := by
  have hl : xs.toList.Perm (vs.zip vs) := by rw [← pairsOf_toList]; exact Array.perm_iff_toList_perm.mp hp
  have hmem : ∀ p, p ∈ xs.toList → p.1 = p.2 := fun p hp' => (mem_zip_self (hl.mem_iff.mp hp')).1
  have e : (xs.map (·.2)).toList = xs.toList.map (·.1) := by
    rw [Array.toList_map]; exact List.map_congr_left fun p hp' => (hmem p hp').symm
  rw [e]
  refine ⟨?_, ?_⟩
  · have h1 := hl.map (fun p : Keyed => p.1)
    rwa [List.map_fst_zip (Nat.le_refl _)] at h1
  · rw [← hp.size_eq] at hs
    have := Seg.to_list hs
    exact List.pairwise_map.mpr this

theorem list_sort_pairs {a : Addr} {vs : List Value} {n : Nat} {P : PySem.Fin → Shared → Prop} {ring : Int} {ps : Value → Int × Int} (hu : A.units < cLine) (ho : s.heap.get? a = some (seqObj "list" vs.toArray n))
    (h2 : 2 ≤ vs.length) (hsz : vs.length ≤ 1000) (hr : 0 < ring) (hp : ∀ v ∈ vs, PairAt s.heap v (ps v)) (ha : ∀ v ∈ vs, v ≠ .ref a) (hb : ∀ v ∈ vs, 0 ≤ (ps v).2 ∧ (ps v).2 < ring) (hn : (vs.map fun v => (ps v).1 * ring + (ps v).2).Nodup)
    (h : ∀ (out : Array Value), out.toList.Perm vs → (out.toList.Pairwise fun u v => (ps u).1 * ring + (ps u).2 < (ps v).1 * ring + (ps v).2) → P (.done (.ret .none)) { s with heap := sortedHeap s.heap a vs out }) :
    wpAny (model prog w) A (Builtin.«list.sort» ⟨[.ref a], []⟩) P E s := by
  rw [list_sort_plain]
  have haz : a < s.heap.objs.size := Heap.lt_size ho
  have hbig : 1001 ≤ sizeLine := by decide
  refine wpAny_bind (listItems_at ho rfl ?_)
  refine wpAny_bind (listUpdate_at ho rfl ?_ (by rw [List.size_toArray]; lia) (Nat.zero_le _))
  obtain ⟨e1, ho1⟩ : ∃ e1, (s.heap.update a (Obj.mapSeq fun _ => #[])).get? a = some (seqObj "list" #[] e1) := ⟨_, get?_update_seq ho (fun _ => #[])⟩
  refine wpAny_bind (seqEpoch_at ho1 rfl ?_)
  refine wpAny_bind (wpAny_newTuple ?_ (by simp; lia))
  refine wpAny_bind (wpAny_newList ?_)
  refine wpAny_holding ?_
  have ho6 : (((s.heap.update a (Obj.mapSeq fun _ => #[])).push (seqObj "tuple" vs.toArray 0)).push (seqObj "list" #[] 0)).get? a = some (seqObj "list" #[] e1) := by
    rw [Heap.get?_push_ne _ _ _ (by rw [size_push', Heap.size_update]; exact Nat.ne_of_lt (Nat.lt_succ_of_lt haz)), Heap.get?_push_ne _ _ _ (by rw [Heap.size_update]; exact Nat.ne_of_lt haz)]
    exact ho1
  have keep6 : ∀ b o, b ≠ a → s.heap.get? b = some o → (((s.heap.update a (Obj.mapSeq fun _ => #[])).push (seqObj "tuple" vs.toArray 0)).push (seqObj "list" #[] 0)).get? b = some o := by
    intro b o hb hbo
    have hbz := Heap.lt_size hbo
    rw [Heap.get?_push_ne _ _ _ (by rw [size_push', Heap.size_update]; exact Nat.ne_of_lt (Nat.lt_succ_of_lt hbz)), Heap.get?_push_ne _ _ _ (by rw [Heap.size_update]; exact Nat.ne_of_lt hbz), Heap.get?_update_ne _ _ _ _ hb]
    exact hbo
  show wpAny (model prog w) A _ P E { s with heap := ((s.heap.update a (Obj.mapSeq fun _ => #[])).push (seqObj "tuple" vs.toArray 0)).push (seqObj "list" #[] 0) }
  dsimp only
  have hsz' : vs.toArray.size = vs.length := by simp
  rw [if_neg (by lia), if_neg (by lia)]
  have hp6 : ∀ v ∈ vs, PairAt (((s.heap.update a (Obj.mapSeq fun _ => #[])).push (seqObj "tuple" vs.toArray 0)).push (seqObj "list" #[] 0)) v (ps v) := fun v hv =>
    (hp v hv).keep fun l o e ho' => keep6 l o (fun e' => ha v hv (by rw [e, e'])) ho'
  generalize hH : ((s.heap.update a (Obj.mapSeq fun _ => #[])).push (seqObj "tuple" vs.toArray 0)).push (seqObj "list" #[] 0) = H at *
  have hal : AllLists H vs := fun v hv => by
    refine elE_4 (hp6 v hv) fun l ta tb k => elA_2 ?_
    intro e ho'
    exact (inE_2 l _ (inA_3 e ho' rfl))
  obtain ⟨v₁, rest, hvs⟩ : ∃ v₁ rest, vs = v₁ :: rest := by
    cases vs with
    | nil => simp at h2
    | cons x r => exact ⟨x, r, rfl⟩
  refine wpAny_bind ?_
  have hkk : wpAny (model prog w) A (keyKind' vs.toArray) (fun k s' => k = oneType' ∧ s' = { s with heap := H }) E { s with heap := H } := by
    rw [hvs]
    rw [hvs] at hal
    exact keyKind_lists (s := { s with heap := H }) hal ⟨rfl, rfl⟩
  refine wpAny_mono hkk (fun k s' hk => ?_) fun _ _ e => e
  obtain ⟨rfl, rfl⟩ := hk
  have KS := pair_keys (prog := prog) (w := w) (A := A) (E := E) (s := { s with heap := H }) hu ring hr ps vs hp6 hb hn
  refine wpAny_bind (wpAny_mono (wpS_sortRuns KS (st := SortSt.mk' oneType' (vs.toArray.zip vs.toArray) #[] 7 none)
    (Q := fun _ st' => (arrOf st').Perm (pairsOf vs) ∧ failedOf st' = none ∧ Seg (fun v => (ps v).1 * ring + (ps v).2) (arrOf st') 0 (pairsOf vs).size)
    ⟨Array.Perm.refl _, rfl, rfl⟩ rfl (by rw [pairsOf_size]; lia) fun st' a1 a2 a3 => ⟨a1, a2, a3⟩) ?_ fun _ _ e => e)
  rintro ⟨⟨⟩, st'⟩ s' hx2__
  refine elA_4 ?_ hx2__
  clear hx2__
  intro e0__ hpm hf hs
  subst e0__
  dsimp only
  refine wpAny_bind (seqEpoch_at ho6 rfl ?_)
  refine wpAny_bind (listUpdate_at ho6 rfl ?_ (Nat.zero_le _) (by
    refine Nat.le_trans (Nat.le_of_eq ((Array.size_map ..).trans (hpm.size_eq.trans (pairsOf_size _)))) ?_
    lia))
  rw [hf]
  simp only [bne_self_eq_false, Bool.false_eq_true, if_false]
  obtain ⟨o1, o2⟩ := out_of hpm hs
  have key := h _ o1 o2
  unfold sortedHeap at key
  rw [hH] at key
  exact wpAny_pure key
end
end SO
end Mine
end

section
open PySem PySem.W PyProof.Rows PySem.Calls
set_option Elab.async false
set_option maxRecDepth 100000
set_option maxHeartbeats 2000000
namespace Mine
namespace SO

section
variable {prog : Program} {w : World} {A : Around} {E : Value → Shared → Prop} {s : Shared}

theorem sorted_pairs {l : Addr} {vs : List Value} {Q : Value → Shared → Prop} {ring : Int} {ps : Value → Int × Int} (hu : A.units + 4 < cLine) (hl : s.heap.IsList l vs.toArray)
    (h2 : 2 ≤ vs.length) (hsz : vs.length ≤ 1000) (hr : 0 < ring) (hp : ∀ v ∈ vs, PairAt s.heap v (ps v)) (hb : ∀ v ∈ vs, 0 ≤ (ps v).2 ∧ (ps v).2 < ring) (hn : (vs.map fun v => (ps v).1 * ring + (ps v).2).Nodup)
    (h : ∀ (out : Array Value), out.toList.Perm vs → (out.toList.Pairwise fun u v => (ps u).1 * ring + (ps u).2 < (ps v).1 * ring + (ps v).2) → Q (.ref (s.heap.objs.size + 1)) { s with heap := sortedAll s.heap vs out }) :
    wpAny (model prog w) A (call (.builtin "sorted") [.ref l]) Q E s := by
  have hbig : 1001 ≤ sizeLine := by decide
  refine Calls.call_function_entry kind_sorted plain_sorted entry_sorted (args_sorted1 _) ?_
  unfold Builtin.«sorted»
  refine wpAny_bind (m := checkCount "sorted" 1 1 _) (wpAny_pure ?_)
  refine wpAny_bind (collect_list hl ?_ (by lia))
  refine wpAny_bind (wpAny_newList ?_ (by lia))
  have hsz' : ((s.heap.push (seqObj "list" #[] 0)).update s.heap.objs.size (Obj.mapSeq (· ++ vs.toArray))).objs.size = s.heap.objs.size + 1 := by
    rw [Heap.size_update, size_push']
  have hoL : (((s.heap.push (seqObj "list" #[] 0)).update s.heap.objs.size (Obj.mapSeq (· ++ vs.toArray))).push (seqObj "list" vs.toArray 0)).get? (s.heap.objs.size + 1) = some (seqObj "list" vs.toArray 0) := by
    rw [← hsz']; exact Heap.get?_push_size _ rfl
  show wpAny _ _ _ _ _ { s with heap := ((s.heap.push (seqObj "list" #[] 0)).update s.heap.objs.size (Obj.mapSeq (· ++ vs.toArray))).push (seqObj "list" vs.toArray 0) }
  rw [hsz']
  have old : ∀ (b : Addr) o, s.heap.get? b = some o → (((s.heap.push (seqObj "list" #[] 0)).update s.heap.objs.size (Obj.mapSeq (· ++ vs.toArray))).push (seqObj "list" vs.toArray 0)).get? b = some o := fun b o hbo => by
    have hlt := Heap.lt_size hbo
    rw [Heap.get?_push_ne _ _ _ (by rw [hsz']; exact Nat.ne_of_lt (Nat.lt_succ_of_lt hlt)), Heap.get?_update_ne _ _ _ _ (Nat.ne_of_lt hlt), Heap.get?_push_ne _ _ _ (Nat.ne_of_lt hlt)]
    exact hbo
  refine wpAny_bind (wpAny_holding (wpAny_call_entry slot_list_sort ⟨_, hoL, rfl⟩ entry_list_sort (list_sort_pairs (ring := ring) (ps := ps) ?_ hoL h2 hsz hr (fun v hv => (hp v hv).keep fun k o _ ho => old k o ho) (fun v hv e => ?_) hb hn fun out a1 a2 => ⟨_, rfl, ?_⟩) (args_list_sort _)))
  · show A.units + 1 + 1 < cLine
    lia
  · refine elE_4 (hp v hv) fun k ta tb q => elA_2 ?_
    intro e' ho
    rw [e'] at e
    cases e
    exact absurd (Heap.lt_size ho) (Nat.not_lt.mpr (Nat.le_succ _))
  · exact wpAny_pure ⟨_, rfl, h out a1 a2⟩

theorem sorted_pairs_N {h₀ : Heap} {L : Addr} {m : Str → Option Value} {news : List (Addr × Obj)} {l : Addr} {vs : List Value} {Q : Value → Shared → Prop} {ring : Int} {ps : Value → Int × Int} (hu : A.units + 4 < cLine)
    (F : Fr h₀ L s.heap m) (N : News h₀ L s.heap news) (hl : s.heap.IsList l vs.toArray)
    (h2 : 2 ≤ vs.length) (hsz : vs.length ≤ 1000) (hr : 0 < ring) (hp : ∀ v ∈ vs, PairAt s.heap v (ps v)) (hb : ∀ v ∈ vs, 0 ≤ (ps v).2 ∧ (ps v).2 < ring) (hn : (vs.map fun v => (ps v).1 * ring + (ps v).2).Nodup)
    (h : ∀ (D : Addr) (h' : Heap) (vs' : List Value) (e : Nat), Fr h₀ L h' m → News h₀ L h' ((D, listOf vs'.toArray e) :: news) → (∀ q ∈ news, @LT.lt Nat _ q.1 D) → vs'.Perm vs →
      (vs'.Pairwise fun u v => (ps u).1 * ring + (ps u).2 < (ps v).1 * ring + (ps v).2) → Q (.ref D) { s with heap := h' }) :
    wpAny (model prog w) A (call (.builtin "sorted") [.ref l]) Q E s := by
  refine sorted_pairs hu hl h2 hsz hr hp hb hn fun out a1 a2 => ?_
  obtain ⟨e, he⟩ := sortedAll_at s.heap vs out
  exact h _ _ out.toList e (F.kept fun _ _ => sortedAll_old) (N.kept_cons F (fun _ _ => sortedAll_old) (Nat.le_succ _) he) (fun q hq => Nat.lt_succ_of_lt (Heap.lt_size (N q hq).1)) a1 a2
end
end SO
end Mine
end

section
open PySem PySem.W PyProof.Rows PySem.Calls
set_option Elab.async false
set_option maxRecDepth 100000
set_option maxHeartbeats 2000000
namespace Mine

def toks : List (List (List Nat)) → List Tk
  | [] => []
  | row :: rest => .op :: ((if row = [] then [] else [.run row]) ++ toks rest ++ [.cl])
def dueOf : Int → List (List (List Nat)) → List (Int × List Nat)
  | _, [] => []
  | d, row :: rest => (d, []) :: (row.map fun n => (d + 1, n)) ++ dueOf (d + 1) rest

theorem txt_toks : ∀ rows, txt (toks rows) = TT rows := by
  intro rows
  induction rows with
  | nil => rfl
  | cons row rest ih =>
    rw [toks, TT, ← ih]
    show tkT .op ++ txt _ = _
    rw [txt_app, txt_app]
    have e : txt (if row = [] then [] else [Tk.run row]) = row.flatMap quo := by
      by_cases h : row = []
      · rw [if_pos h, h]; rfl
      · rw [if_neg h]; simp [txt, tkT]
    rw [e]
    simp [txt, tkT]

theorem par_toks : ∀ rows, par (toks rows) = List.replicate rows.length 40 ++ List.replicate rows.length 41 := by
  intro rows
  induction rows with
  | nil => rfl
  | cons row rest ih =>
    rw [toks]
    show tkA .op ++ par _ = _
    rw [par_app, par_app, ih]
    have e : par (if row = [] then [] else [Tk.run row]) = [] := by
      by_cases h : row = []
      · rw [if_pos h]; rfl
      · rw [if_neg h]; rfl
    rw [e, List.length_cons, List.replicate_succ, List.replicate_succ' (a := 41)]
    simp [par, tkA]

theorem bal_rep40 (d : Nat) : bal (List.replicate d 40) = (d : Int) := by
  induction d with
  | zero => rfl
  | succ d ih =>
    rw [List.replicate_succ, show (40 :: List.replicate d 40) = [40] ++ List.replicate d 40 from rfl, bal_app, ih, show bal [40] = 1 from by decide]
    omega

theorem outs_app (b : List Tk) : ∀ (a : List Tk) (d : Int), outs d (a ++ b) = outs d a ++ outs (d + bal (par a)) b := by
  intro a
  induction a with
  | nil => intro d; simp [outs, par, bal]
  | cons x a ih =>
    intro d
    rw [List.cons_append, outs, outs, ih, List.append_assoc]
    have e : bal (par (x :: a)) = bal (tkA x) + bal (par a) := by
      rw [show par (x :: a) = tkA x ++ par a by simp [par], bal_app]
    rw [e, Int.add_assoc]

theorem outs_toks : ∀ rows d, outs d (toks rows) = dueOf d rows := by
  intro rows
  induction rows with
  | nil => intro d; rfl
  | cons row rest ih =>
    intro d
    rw [toks, outs, dueOf, outs_app, outs_app, ih]
    have e1 : bal (tkA .op) = 1 := by decide
    have e2 : par (if row = [] then [] else [Tk.run row]) = [] := by
      by_cases h : row = []
      · rw [if_pos h]; rfl
      · rw [if_neg h]; rfl
    have e3 : outs (d + 1) (if row = [] then [] else [Tk.run row]) = row.map fun n => (d + 1, n) := by
      by_cases h : row = []
      · rw [if_pos h, h]; rfl
      · rw [if_neg h]; simp [outs, out1]
    rw [e1, e2, e3]
    simp [out1, outs, bal]

def Adj (l : List Tk) : Prop := ∀ i ns ns', l[i]? = some (.run ns) → l[i + 1]? ≠ some (.run ns')
theorem adj_cons {x : Tk} {l : List Tk} (h : Adj l) (hx : ∀ ns ns', x = .run ns → l[0]? ≠ some (.run ns')) : Adj (x :: l) := by
  intro i ns ns' h1
  cases i with
  | zero => exact hx ns ns' (by simpa using h1)
  | succ i => exact h i ns ns' (by simpa using h1)
theorem adj_snoc {l : List Tk} (h : Adj l) : Adj (l ++ [.cl]) := by
  intro i ns ns' h1 h2
  by_cases c : i + 1 < l.length
  · rw [List.getElem?_append_left (by omega)] at h1
    rw [List.getElem?_append_left c] at h2
    exact h i ns ns' h1 h2
  · rw [List.getElem?_append_right (by omega)] at h2
    cases e : i + 1 - l.length with
    | zero => rw [e] at h2; cases h2
    | succ k => rw [e] at h2; cases h2
theorem first_toks (rows : List (List (List Nat))) (ns : List (List Nat)) : (toks rows ++ [Tk.cl])[0]? ≠ some (.run ns) := by
  cases rows with
  | nil => intro h; cases h
  | cons row rest => intro h; cases h
theorem adj_toks : ∀ rows, Adj (toks rows) := by
  intro rows
  induction rows with
  | nil => intro i ns ns' h; cases h
  | cons row rest ih =>
    rw [toks]
    refine adj_cons ?_ (fun ns ns' h => by cases h)
    by_cases hr : row = []
    · rw [if_pos hr]
      exact adj_snoc ih
    · rw [if_neg hr]
      exact adj_cons (adj_snoc ih) fun _ ns' _ => first_toks rest ns'

theorem good_toks (rows : List (List (List Nat))) (hn : ∀ row ∈ rows, ∀ n ∈ row, ∀ c ∈ n, c < 128 ∧ c ≠ 92 ∧ c ≠ 34) : Good (toks rows) where
  names := by
    intro ns hm
    have key : ∀ rows : List (List (List Nat)), Tk.run ns ∈ toks rows → ns ≠ [] ∧ ns ∈ rows := by
      intro rows
      induction rows with
      | nil => intro h; cases h
      | cons row rest ih =>
        intro h
        rw [toks] at h
        simp only [List.mem_cons, List.mem_append, List.not_mem_nil, or_false, reduceCtorEq, false_or] at h
        rcases h with h | h
        · by_cases hr : row = []
          · rw [if_pos hr] at h; cases h
          · rw [if_neg hr] at h
            have := List.mem_singleton.mp h
            cases this
            exact ⟨hr, .head _⟩
        · exact ⟨(ih h).1, .tail _ (ih h).2⟩
    exact ⟨(key rows hm).1, hn ns (key rows hm).2⟩
  adj := adj_toks rows
  nn := by
    intro i
    rw [par_toks, List.take_append, bal_app, List.take_replicate, List.take_replicate, bal_rep40, bal_rep, List.length_replicate]
    omega
end Mine
end

section
open PySem PySem.W PyProof.Rows PySem.Calls
set_option Elab.async false
set_option maxRecDepth 100000
set_option maxHeartbeats 2000000
namespace Mine

def dsh : Int → List Nat → List (Int × Bool)
  | _, [] => []
  | d, k :: ks => (d, true) :: (List.replicate k (d + 1, false) ++ dsh (d + 1) ks)
def natLines (ks : List Nat) : List (Nat × Nat) := (linesOf (dsh 0 ks)).lines.map fun l => (l.1.toNat, l.2.toNat)
def jkeys (ring : Nat) (ls : List (Nat × Nat)) : List Nat := (List.range ring).flatMap fun t => ls.map fun l => Nat.min ((l.1 + t) % ring) ((l.2 + t) % ring) * ring + Nat.max ((l.1 + t) % ring) ((l.2 + t) % ring)
def tkeys (ring : Nat) : List Nat := (List.range ring).flatMap fun x => (List.range ring).filterMap fun y => if x < y then some (x * ring + y) else none
/-- the numbers of a list as the bits of one number -/
def mask (l : List Nat) : Nat := l.foldr (fun k m => Nat.lor m (Nat.shiftLeft 1 k)) 0
theorem mask_bit (k : Nat) : ∀ l : List Nat, (mask l).testBit k = true ↔ k ∈ l
  | [] => by simp [mask]
  | a :: l => by
    show (mask l ||| 1 <<< a).testBit k = true ↔ _
    rw [Nat.testBit_or, Nat.one_shiftLeft, Nat.testBit_two_pow, Bool.or_eq_true, mask_bit k l, decide_eq_true_iff, List.mem_cons, eq_comm (a := a), Or.comm]
def okShape (ks : List Nat) : Bool :=
  let st := linesOf (dsh 0 ks)
  let ls := natLines ks
  let ring := 2 * ls.length + 1
  let jk := jkeys ring ls
  let tk := tkeys ring
  (getI st.sp 0 == some 0) && st.lines.all (fun l => decide (0 ≤ l.1) && decide (0 ≤ l.2)) && Nat.beq (st.lines.length + 1) (dsh 0 ks).length && (List.range' 1 ls.length).all (fun k => ls.any fun l => Nat.beq (l.1 - l.2 + (l.2 - l.1)) k) &&
    Nat.beq jk.length tk.length && Nat.beq (mask jk) (mask tk)
def shapes : Nat → List (List Nat)
  | 0 => [[]]
  | n + 1 => [0, 1, 2].flatMap fun k => (shapes n).map (k :: ·)
theorem shapes3 : (shapes 3).all okShape = true := by decide +kernel
theorem shapes4 : (shapes 4).all okShape = true := by decide +kernel
end Mine
end

section
open PySem PySem.W PyProof.Rows PySem.Calls
set_option Elab.async false
set_option maxRecDepth 100000
set_option maxHeartbeats 2000000
namespace Mine

def lawDef : List Stmt × Scope := match PySem.Challenge.pw_wa0010_01.main.body.getLast? with
  | some (.FunctionDef _ _ body _ _ _ scope _ _ _) => (body, scope)
  | _ => ([], { kind := .module, names := [], isGenerator := false, isCoroutine := false })
def lawBody : List Stmt := lawDef.1
def lawScope : Scope := lawDef.2
abbrev lawEnv (L fa : Nat) (cd : Value) : Env := envOfC (Str.ofString "law") lawScope L fa cd
abbrev lawA (L fa : Nat) (cd : Value) : Around := callerA.deeper (lawEnv L fa cd)

theorem lawBody_len : lawBody.length = 12 := by rfl
theorem lawScope_cells : cellsFrom 1 lawScope.names [] = [(Str.ofString "turn", 3), (Str.ofString "ring", 2), (Str.ofString "depth", 1)] := by rfl

def OffC (L : Addr) (l : List (Addr × Obj)) : Prop := ∀ q ∈ l, q.1 ≠ L + 1 ∧ q.1 ≠ L + 1 + 1 ∧ q.1 ≠ L + 1 + 1 + 1
theorem OffC.app {L : Addr} {a b : List (Addr × Obj)} (h1 : OffC L a) (h2 : OffC L b) : OffC L (a ++ b) := fun q hq => (List.mem_append.mp hq).elim (h1 q) (h2 q)
theorem OffC.of_lt {L : Addr} {a : List (Addr × Obj)} (h : ∀ q ∈ a, @LT.lt Nat _ (L + 1 + 1 + 1) q.1) : OffC L a := fun q hq =>
  have h3 := h q hq
  have h2 : @LT.lt Nat _ (L + 1 + 1) q.1 := Nat.lt_trans (Nat.lt_succ_self _) h3
  have h1 : @LT.lt Nat _ (L + 1) q.1 := Nat.lt_trans (Nat.lt_succ_self _) h2
  ⟨Nat.ne_of_gt h1, Nat.ne_of_gt h2, Nat.ne_of_gt h3⟩
theorem OffC.cons {L : Addr} {x : Addr × Obj} {a : List (Addr × Obj)} (h1 : @LT.lt Nat _ (L + 1 + 1 + 1) x.1) (h2 : OffC L a) : OffC L (x :: a) :=
  OffC.app (OffC.of_lt (List.forall_mem_singleton.mpr h1)) h2

theorem gx_app {a b : Array GenState} (h1 : ∀ q ∈ a, q = GenState.finished) (h2 : ∀ q ∈ b, q = GenState.finished) : ∀ q ∈ a ++ b, q = GenState.finished := by
  intro q hq
  rcases Array.mem_append.mp hq with hq | hq
  · exact h1 q hq
  · exact h2 q hq
end Mine
end

section
open PySem PySem.W PyProof.Rows PySem.Calls
set_option Elab.async false
set_option maxRecDepth 100000
set_option maxHeartbeats 2000000
namespace Mine

section
variable {prog : Program} {w : World} {A : Around} {E : Value → Shared → Prop} {R : Result → Shared → Prop} {s : Shared} {env : Env}

theorem compTurn_two0 (elt t0 i0 t1 i1 : Expr) (scope : Scope) (pos : Pos) (it acc : Value) (env : Env) :
    compTurn (.ListComp elt [⟨t0, i0, [], 0⟩, ⟨t1, i1, [], 0⟩] scope pos) 0 it acc env = (standAt i0.pos >>= fun _ => pyNext it >>= fun r => match r with
      | none => pure (.done .next)
      | some v => letOwnedTupleGo t0 it v >>= fun _ => assign t0 env v >>= fun _ =>
        eval i1 env >>= fun x => standAt i1.pos >>= fun _ => foldedSetIterable i1 env x >>= fun x => holding [x] (pyIter x) >>= fun it' =>
          runOwn (.compStart (.ListComp elt [⟨t0, i0, [], 0⟩, ⟨t1, i1, [], 0⟩] scope pos) 1 it' acc env) env >>= fun _ =>
          again (.compLoop (.ListComp elt [⟨t0, i0, [], 0⟩, ⟨t1, i1, [], 0⟩] scope pos) 0 it acc env)) := by rfl

theorem compTurn_two1 (elt t0 i0 t1 i1 : Expr) (scope : Scope) (pos : Pos) (it acc : Value) (env : Env) :
    compTurn (.ListComp elt [⟨t0, i0, [], 0⟩, ⟨t1, i1, [], 0⟩] scope pos) 1 it acc env = (standAt i1.pos >>= fun _ => pyNext it >>= fun r => match r with
      | none => pure (.done .next)
      | some v => letOwnedTupleGo t1 it v >>= fun _ => assign t1 env v >>= fun _ =>
        (eval elt env >>= fun x => call (.builtin "list.append") [acc, x] >>= fun _ => pure ()) >>= fun _ =>
          again (.compLoop (.ListComp elt [⟨t0, i0, [], 0⟩, ⟨t1, i1, [], 0⟩] scope pos) 1 it acc env)) := by rfl

theorem codeAny_comp_in {elt t0 i0 t1 i1 : Expr} {scope : Scope} {pos : Pos} {it acc : Value} (I : Nat → Shared → Prop)
    (turn : ∀ n s, I n s → wpAny (model prog w) A (pyNext it) (fun r s₁ => match r with
      | none => R (.ok .next) s₁
      | some v => wpAny (model prog w) A (letOwnedTupleGo t1 it v) (fun _ s₁' => wpAny (model prog w) A (assign t1 env v) (fun _ s₂ => wpAny (model prog w) A (eval elt env) (fun x s₃ =>
          wpAny (model prog w) A (call (.builtin "list.append") [acc, x]) (fun _ s₄ => ∃ m, m < n ∧ I m s₄) (fun _ _ => False) s₃)
          (fun _ _ => False) s₂) (fun _ _ => False) s₁') (fun _ _ => False) s₁) (fun _ _ => False) s)
    (n : Nat) (h : I n s) :
    codeAny (model prog w) A (.compLoop (.ListComp elt [⟨t0, i0, [], 0⟩, ⟨t1, i1, [], 0⟩] scope pos) 1 it acc env) R s := by
  refine codeAny_loop rfl I (fun n s hI => ?_) n h
  show wpAny _ _ ((compTurn (.ListComp elt [⟨t0, i0, [], 0⟩, ⟨t1, i1, [], 0⟩] scope pos) 1 it acc env).onRaise (fun x => do noteFrame x env; theTreesLotGoes x)) _ _ s
  refine wpAny_noted ?_
  rw [compTurn_two1]
  refine wpAny_bind (wpAny_standAt (wpAny_bind (wpAny_mono (turn n s hI) (fun r s₁ h₁ => ?_) fun _ _ h' => h'.elim)))
  cases r with
  | none => exact wpAny_pure h₁
  | some v =>
    exact wpAny_bind (wpAny_mono h₁ (fun _ s₁' h₁' => wpAny_bind (wpAny_mono h₁' (fun _ s₂ h₂ => wpAny_bind (wpAny_bind (wpAny_mono h₂ (fun x s₃ h₃ => wpAny_bind (wpAny_mono h₃
      (fun _ s₄ h₄ => wpAny_pure (wpAny_pure ⟨rfl, h₄⟩)) fun _ _ h' => h'.elim)) fun _ _ h' => h'.elim))) fun _ _ h' => h'.elim)) fun _ _ h' => h'.elim)

theorem codeAny_compStart_in {elt t0 i0 t1 i1 : Expr} {scope : Scope} {pos : Pos} {it acc : Value}
    (h0 : codeAny (model prog w) A (.compLoop (.ListComp elt [⟨t0, i0, [], 0⟩, ⟨t1, i1, [], 0⟩] scope pos) 1 it acc env) R s)
    (h : wpAny (model prog w) A (pyIter it) (fun it' s' => codeAny (model prog w) A (.compLoop (.ListComp elt [⟨t0, i0, [], 0⟩, ⟨t1, i1, [], 0⟩] scope pos) 1 it' acc env) R s') (fun _ _ => False) s) :
    codeAny (model prog w) A (.compStart (.ListComp elt [⟨t0, i0, [], 0⟩, ⟨t1, i1, [], 0⟩] scope pos) 1 it acc env) R s := by
  refine codeAny_of_tree ?_
  show wpAny _ _ ((compStart (.ListComp elt [⟨t0, i0, [], 0⟩, ⟨t1, i1, [], 0⟩] scope pos) 1 it acc env).onRaise (fun x => do noteFrame x env; standAt theWindowsPlace)) _ _ s
  refine wpAny_notedAt ?_
  unfold compStart
  show wpAny _ _ (ask >>= _) _ _ s
  refine wpAny_bind (wpAny_askSetting (wpAny_ite ?_))
  split
  · first
      | exact wpAny_bind (wpAny_pure (wpAny_pure (And.intro rfl h0)))
      | exact wpAny_pure (And.intro rfl h0)
  · refine wpAny_bind (wpAny_rule ?_)
    first
      | exact wpAny_bind (wpAny_standAt (wpAny_bind (wpAny_mono h (fun it' s' h' => wpAny_pure (And.intro rfl h')) fun _ _ x => x.elim)))
      | (show wpAny _ _ (standAt i1.pos >>= _) _ _ s; exact wpAny_bind (wpAny_standAt (wpAny_bind (wpAny_mono h (fun it' s' h' => wpAny_pure (And.intro rfl h')) fun _ _ x => x.elim))))

theorem codeAny_comp_out {elt t0 i0 t1 i1 : Expr} {scope : Scope} {pos : Pos} {it acc : Value} (I : Nat → Shared → Prop) (hs : ∀ x, foldedSetIterable i1 env x = pure x)
    (turn : ∀ n s, I n s → wpAny (model prog w) A (pyNext it) (fun r s₁ => match r with
      | none => R (.ok .next) s₁
      | some v => wpAny (model prog w) A (letOwnedTupleGo t0 it v) (fun _ s₁' => wpAny (model prog w) A (assign t0 env v) (fun _ s₂ => wpAny (model prog w) A (eval i1 env) (fun x s₃ =>
          wpAny (model prog w) A (pyIter x) (fun it' s₄ => codeAny (model prog w) A (.compStart (.ListComp elt [⟨t0, i0, [], 0⟩, ⟨t1, i1, [], 0⟩] scope pos) 1 it' acc env) (fun r s₅ => r = .ok .next ∧ ∃ m, m < n ∧ I m s₅) s₄)
          (fun _ _ => False) s₃) (fun _ _ => False) s₂) (fun _ _ => False) s₁') (fun _ _ => False) s₁) (fun _ _ => False) s)
    (n : Nat) (h : I n s) :
    codeAny (model prog w) A (.compLoop (.ListComp elt [⟨t0, i0, [], 0⟩, ⟨t1, i1, [], 0⟩] scope pos) 0 it acc env) R s := by
  refine codeAny_loop rfl I (fun n s hI => ?_) n h
  show wpAny _ _ ((compTurn (.ListComp elt [⟨t0, i0, [], 0⟩, ⟨t1, i1, [], 0⟩] scope pos) 0 it acc env).onRaise (fun x => do noteFrame x env; theTreesLotGoes x)) _ _ s
  refine wpAny_noted ?_
  rw [compTurn_two0]
  refine wpAny_bind (wpAny_standAt (wpAny_bind (wpAny_mono (turn n s hI) (fun r s₁ h₁ => ?_) fun _ _ h' => h'.elim)))
  cases r with
  | none => exact wpAny_pure h₁
  | some v =>
    refine wpAny_bind (wpAny_mono h₁ (fun _ s₁' h₁' => wpAny_bind (wpAny_mono h₁' (fun _ s₂ h₂ => wpAny_bind (wpAny_mono h₂ (fun x s₃ h₃ => ?_) fun _ _ h' => h'.elim)) fun _ _ h' => h'.elim)) fun _ _ h' => h'.elim)
    refine wpAny_bind (wpAny_standAt (wpAny_bind (wpAny_of_eq (hs x) ?_)))
    refine wpAny_bind (wpAny_holding (wpAny_mono h₃ (fun it' s₄ h₄ => ?_) fun _ _ h' => h'.elim))
    refine wpAny_bind (wpAny_runOwn (codeAny_mono h₄ (fun r s₅ h₅ => ?_)))
    obtain ⟨rfl, hm⟩ := h₅
    exact wpAny_pure ⟨rfl, hm⟩
end
end Mine
end

section
open PySem PySem.W PyProof.Rows PySem.Calls
set_option Elab.async false
set_option maxRecDepth 100000
set_option maxHeartbeats 2000000
namespace Mine

section
variable {prog : Program} {w : World} {A : Around} {E : Value → Shared → Prop} {s : Shared} {env : Env}

theorem comp_head {hb : Heap} {L : Addr} {m : Str → Option Value} {news : List (Addr × Obj)} {It : Addr} {oI : Obj}
    {elt target iter : Expr} {gs : List Comprehension} {scope : Scope} {pos : Pos} {cl : List (Str × Addr)} {RR : Value → Addr → Result → Shared → Prop}
    (F : Fr hb L s.heap m) (N : News hb L s.heap ((It, oI) :: news)) (hne : ∀ q ∈ news, q.1 ≠ It)
    (hcell : ∀ y ∈ scope.names, y.2 ≠ .cell) (hkind : scope.kind = .function) (hself : ∀ (s' : Shared), s'.heap.get? It = some oI → ∀ (Q : Value → Shared → Prop) (E : Value → Shared → Prop), Q (.ref It) s' → wpAny (model prog w) A (pyIter (.ref It)) Q E s')
    (k : ∀ h D C oC mC tk, Fr hb L h m → News hb L h ((D, listOf ([] : List Value).toArray 0) :: (C, oC) :: (It, oI) :: news) → Apart D C It news → NsO oC mC →
      codeAny (model prog w) A (.compLoop (.ListComp elt (⟨target, iter, [], 0⟩ :: gs) scope pos) 0 (.ref It) (.ref D) (compEnvC scope cl C env)) (RR (.ref D) C) { s with heap := h, toks := tk }) :
    wpAny (model prog w) A (newList []) (fun acc s₃ => wpAny (model prog w) A (newFunctionEnv scope env.globals cl [] env.qual none .none (some env)) (fun cenv s₄ =>
      codeAny (model prog w) A (.compStart (.ListComp elt (⟨target, iter, [], 0⟩ :: gs) scope pos) 0 (.ref It) acc { cenv with scope := relabel scope env }) (RR acc cenv.locals) s₄) E s₃) E s := by
  refine PyProof.Rows.newList_N F N fun h₁ F₁ N₁ => ?_
  have hIlt : It < s.heap.objs.size := Heap.lt_size (N _ (.head _)).1
  generalize hD : s.heap.objs.size = D at *
  have hDI : D ≠ It := fun e => by rw [e] at hIlt; exact Nat.lt_irrefl _ hIlt
  have hDr : ∀ q ∈ news, q.1 ≠ D := fun q hq => by
    have := Heap.lt_size (N q (.tail _ hq)).1
    rw [hD] at this
    exact Nat.ne_of_lt this
  refine wpAny_newFunctionEnv hcell (by intro y hy; simp at hy) (fun h₂ hns₂ hsb₂ => ?_) hkind
  dsimp only at hns₂ hsb₂ ⊢
  have F₁' := F₁.push { cls := .type "dict", data := .dict #[] }
  have N₁' := PyProof.Rows.News.push F₁ N₁ { cls := .type "dict", data := .dict #[] }
  have hlt₁ : ∀ q ∈ ((D, listOf ([] : List Value).toArray 0) :: (It, oI) :: news), q.1 < h₁.objs.size := fun q hq => Heap.lt_size (N₁ q hq).1
  have hLC : h₁.objs.size ≠ L := (N₁' _ (.head _)).2.1
  have hbC : hb.get? h₁.objs.size = none := (N₁' _ (.head _)).2.2
  generalize hC : h₁.objs.size = C at *
  replace hsb₂ : Heap.SameBut C (h₁.push { cls := .type "dict", data := .dict #[] }) h₂ := hsb₂
  obtain ⟨oC, hoC, hNsC⟩ := NsO.of hns₂
  have F₂ : Fr hb L h₂ m := F₁'.change hsb₂ hLC hbC
  have hneC : ∀ q ∈ ((D, listOf ([] : List Value).toArray 0) :: (It, oI) :: news), q.1 ≠ C := fun q hq => Nat.ne_of_lt (hlt₁ q hq)
  have N₂ : News hb L h₂ ((D, listOf ([] : List Value).toArray 0) :: (C, oC) :: (It, oI) :: news) := fun q hq => by
    rcases List.mem_cons.mp hq with rfl | hq
    · have x := N₁' (D, listOf ([] : List Value).toArray 0) (.tail _ (.head _))
      exact ⟨(hsb₂.2 _ (hneC _ (.head _))).trans x.1, x.2⟩
    · rcases List.mem_cons.mp hq with rfl | hq
      · exact ⟨hoC, hLC, hbC⟩
      · have x := N₁' q (.tail _ (.tail _ hq))
        exact ⟨(hsb₂.2 _ (hneC _ (.tail _ hq))).trans x.1, x.2⟩
  have hap : Apart D C It news := ⟨hneC _ (.head _), hDI, Ne.symm (hneC _ (.tail _ (.head _))), fun q hq => ⟨hDr q hq, hneC q (.tail _ (.tail _ hq)), hne q hq⟩⟩
  have loop := k h₂ D C oC _ (s.toks + ([] : List (Str × Value)).length) F₂ N₂ hap hNsC
  exact codeAny_compStart_list loop (hself _ (N₂ _ (.tail _ (.tail _ (.head _)))).1 _ _ loop)

/-- as comp_head, of a scope with one cell -/
theorem newFunctionEnv_cell {scope : Scope} {globals : Addr} {closure : List (Str × Addr)} {qual : Str} {env : Env} {a b c : Str} {k1 k3 : NameKind} {Q : Env → Shared → Prop} (hk : scope.kind = .function)
    (hn : scope.names = [(a, k1), (b, .cell), (c, k3)]) (h1 : k1 ≠ .cell) (h3 : k3 ≠ .cell)
    (hQ : Q { scope := scope, locals := s.heap.objs.size, globals := globals, cells := (b, s.heap.objs.size + 1) :: closure, qual := qual, func := none, code := env.code, frame := env.frame, builtins := env.builtins }
      { s with heap := (s.heap.push { cls := .type "dict", data := .dict #[] }).push { cls := .type "cell", data := .cell none } }) :
    wpAny (model prog w) A (newFunctionEnv scope globals closure [] qual none .none (some env)) Q E s := by
  simp only [newFunctionEnv, Option.isSome_some, if_true]
  refine wpAny_bind (wpAny_alloc ?_)
  rw [hn]
  have e1 : (k1 == NameKind.cell) = false := by cases k1 <;> first | rfl | exact absurd rfl h1
  have e3 : (k3 == NameKind.cell) = false := by cases k3 <;> first | rfl | exact absurd rfl h3
  simp only [List.forIn_cons, List.forIn_nil, e1, e3, Bool.false_eq_true, if_false, pure_bind, bind_assoc, beq_self_eq_true, if_true]
  refine wpAny_bind (wpAny_alloc ?_)
  refine wpAny_pure ?_
  have e : (s.heap.push { cls := .type "dict", data := .dict #[] }).objs.size = s.heap.objs.size + 1 := Heap.size_push ..
  dsimp only
  rw [e]
  exact hQ
end
end Mine
end

section
open PySem PySem.W PyProof.Rows PySem.Calls
set_option Elab.async false
set_option maxRecDepth 100000
set_option maxHeartbeats 2000000
namespace Mine

section
variable {prog : Program} {w : World} {A : Around} {E : Value → Shared → Prop} {s : Shared} {env : Env} {h₀ : Heap} {L : Addr} {m : Str → Option Value} {news : List (Addr × Obj)}

theorem nameB_comp {M : Model} {K : Frag} {mg mb : Str → Option Value} {p : Program} {loose : List Str} {mean : ExcName → Option Value} {x : Str} {pos : Pos} {v : Value} {Q : Value → Shared → Prop} (F : Fr h₀ L s.heap m) (X : K.In h₀) (T : Top p loose mean mg mb h₀)
    (e : nsIn K mainGlobals x = some none) (hv : bootBuiltins x = some v) (h : Q v s) (hn : x ≠ "__name__" := by decide) (hg : env.globals = mainGlobals := by rfl) (hb : env.builtins = builtinsNs := by rfl) (hk : env.scope.kind = .function := by rfl)
    (hx : env.kindOf x = some .globalImplicit := by rfl) (hd : (x == ("__debug__" : Str)) = false := by decide) :
    wpAny M A (eval (.Name x pos) env) Q E s :=
  Name_function_global hk hx (loadGlobal_builtin (env := env) (by rw [hg]; exact T.g.keeps F.keep) (mg_none_of X T.g e) (by rw [hb]; exact T.b.keeps F.keep) ((T.builtins x hn).trans hv) h) hd

theorem iter_range {r : Addr} {a b : Int} {n : Nat} {t u v : Tok} {Q : Value → Shared → Prop} (F : Fr h₀ L s.heap m) (N : News h₀ L s.heap news) (hr : IsRange s.heap r a b 1 t u v) (hb : b = a + n) (ha : -1000000 ≤ a) (ha2 : a ≤ 1000000) (hn : n < 1048576)
    (h : ∀ It oI h', StRange n a 0 oI → Fr h₀ L h' m → News h₀ L h' ((It, oI) :: news) → (∀ q ∈ news, @LT.lt Nat _ q.1 It) → Q (.ref It) { s with heap := h' }) :
    wpAny (model prog w) A (pyIter (.ref r)) Q E s := by
  subst hb
  refine wpAny_pyIter_range hr (small_one (by lia) (by lia) (by lia) (by lia)) ?_
  rw [rangeSize_one]
  have en : (if a < a + n then a + (n : Int) - a else 0) = (n : Int) := by split <;> lia
  rw [en]
  refine h _ _ _ ?_ (F.push _) (PyProof.Rows.News.push F N _) fun q hq => Heap.lt_size (N q hq).1
  show _ = _
  have e1 : a + ((0 : Nat) : Int) = a := by lia
  have e2 : (n : Int) - ((0 : Nat) : Int) = n := by lia
  rw [e1, e2]

theorem self_range {n : Nat} {b : Int} {i : Nat} {It : Addr} {oI : Obj} (hst : StRange n b i oI) : ∀ (s' : Shared), s'.heap.get? It = some oI → ∀ (Q : Value → Shared → Prop) (E : Value → Shared → Prop), Q (.ref It) s' → wpAny (model prog w) A (pyIter (.ref It)) Q E s' := by
  intro s' ho Q E hq
  have hst' : oI = _ := hst
  subst hst'
  exact wpAny_pyIter_rangeiter (x := b + i) (left := (n : Int) - i) (step := 1) ho hq

theorem iter_list {l : Addr} {its : List Value} {e : Nat} {Q : Value → Shared → Prop} (F : Fr h₀ L s.heap m) (N : News h₀ L s.heap news) (hm : (l, listOf its.toArray e) ∈ news)
    (h : ∀ It oI h', StList l 0 oI → Fr h₀ L h' m → News h₀ L h' ((It, oI) :: news) → (∀ q ∈ news, @LT.lt Nat _ q.1 It) → Q (.ref It) { s with heap := h' }) :
    wpAny (model prog w) A (pyIter (.ref l)) Q E s := by
  refine wpAny_pyIter_list (N.isList hm) ?_
  exact h _ _ _ ⟨rfl, rfl⟩ (F.push _) (PyProof.Rows.News.push F N _) fun q hq => Heap.lt_size (N q hq).1

theorem self_list {l : Addr} {i : Nat} {It : Addr} {oI : Obj} (hst : StList l i oI) : ∀ (s' : Shared), s'.heap.get? It = some oI → ∀ (Q : Value → Shared → Prop) (E : Value → Shared → Prop), Q (.ref It) s' → wpAny (model prog w) A (pyIter (.ref It)) Q E s' :=
  fun _ ho _ _ hq => wpAny_pyIter_listiter ⟨oI, ho, hst⟩ hq
end
end Mine
end

section
open PySem PySem.W PyProof.Rows PySem.Calls
set_option Elab.async false
set_option maxRecDepth 100000
set_option maxHeartbeats 2000000
namespace Mine

theorem fillE8 : (fun (_ : OpenLaw) (_ : Params → Frag) => True) PySem.Challenge.rw_wa0010_01 hd.heap_39 := by
  k_fill
  exact trivial

section
variable {prog : Program} {w : World} {p : Program} {loose : List Str} {mean : ExcName → Option Value} {mg mb : Str → Option Value} {fa : Nat} {L : Addr} {cd : Value} {h₀ : Heap} {m : Str → Option Value} {s : Shared} {Q : Flow → Shared → Prop} {E : Value → Shared → Prop} {oD oR oT : Obj} {rest : List (Addr × Obj)}

theorem seg_ring {Ln : Addr} {lvs : Array Value} (X : Frag.In (hd.heap_39 w.params) h₀) (T : Top p loose mean mg mb h₀) (F : Fr h₀ L s.heap m)
    (N : News h₀ L s.heap ((L + 1, oD) :: (L + 1 + 1, oR) :: (L + 1 + 1 + 1, oT) :: rest)) (hap : OffC L rest) {v₀ : Option Value} (hR : oR.data = .cell v₀)
    (hm : m (Str.ofString "lines") = some (.ref Ln)) (hl : s.heap.IsList Ln lvs) (hlen : lvs.size ≤ 1000)
    (next : ∀ h' tk oR' J t, Fr h₀ L h' (fun y => if y = Str.ofString "joined" then some (.ref J) else m y) → News h₀ L h' ((L + 1, oD) :: (L + 1 + 1, oR') :: (L + 1 + 1 + 1, oT) :: (J, listOf ([] : List Value).toArray 0) :: rest) →
      @LT.lt Nat _ (L + 1 + 1 + 1) J → (∀ q ∈ rest, @LT.lt Nat _ q.1 J) → oR'.data = .cell (some (.int (2 * lvs.size + 1 : Int) t)) →
      wpAny (model prog w) (lawA L fa cd) (execs (lawBody.drop 10) (lawEnv L fa cd)) Q E { s with heap := h', toks := tk }) :
    wpAny (model prog w) (lawA L fa cd) (execs (lawBody.drop 8) (lawEnv L fa cd)) Q E s := by
  refine wpAny_execs_cons (wpAny_Assign_Name (wpAny_BinOp (wpAny_BinOp (wpAny_Constant_int ?_))))
  iterate 3 walk1
  refine PyProof.Rows.spliced_more (nameX_L F hm (PyProof.Rows.spliced_none ?_))
  refine PyProof.Rows.len_list hl (by omega) ?_
  walk1
  refine wpAny_Constant_int ?_
  walk1
  dsimp only
  have hc : ∀ q ∈ rest, q.1 ≠ L + 1 + 1 := fun q hq => (hap q hq).2.1
  have h12 : (L + 1 : Nat) ≠ L + 1 + 1 := Nat.ne_of_lt (Nat.lt_succ_self _)
  have h32 : (L + 1 + 1 + 1 : Nat) ≠ L + 1 + 1 := Nat.ne_of_gt (Nat.lt_succ_self _)
  refine storeX_C F N (by rfl) (UpdF.tail h12 (UpdF.head (List.forall_mem_cons.mpr ⟨h32, hc⟩))) hR fun h₁ oR₁ F₁ N₁ hR₁ => ?_
  dsimp only
  refine wpAny_execs_cons (wpAny_Assign_Name (PyProof.Rows.List_ (PyProof.Rows.spliced_none (newList_K F₁ N₁ fun J h₂ F₂ N₂ hJ => storeX_L F₂ N₂ fun h₃ F₃ N₃ => ?_))))
  dsimp only
  refine next h₃ _ oR₁ J _ F₃ (News_mono N₃ fun q hq => ?_) (hJ _ (.tail _ (.tail _ (.head _)))) (fun q hq => hJ q (.tail _ (.tail _ (.tail _ hq)))) hR₁
  simp only [List.mem_cons] at hq ⊢
  rcases hq with h | h | h | h | h
  · exact .inr (.inl h)
  · exact .inr (.inr (.inl h))
  · exact .inr (.inr (.inr (.inl h)))
  · exact .inl h
  · exact .inr (.inr (.inr (.inr h)))
end
end Mine
end

section
open PySem PySem.W PyProof.Rows PySem.Calls
set_option Elab.async false
set_option maxRecDepth 100000
set_option maxHeartbeats 2000000
namespace Mine

theorem fillE11 : (fun (_ : OpenLaw) (_ : Params → Frag) => True) PySem.Challenge.rw_wa0010_01 hd.heap_39 := by
  k_fill
  exact trivial

def pairD (p : Int × Int) : Dat := .list [.int p.1, .int p.2]
def triRow (rg x : Nat) : List (Int × Int) := (List.range' (x + 1) (rg - (x + 1))).map fun (y : Nat) => ((x : Int), (y : Int))
def tri (rg : Nat) : List (Int × Int) := (List.range rg).flatMap (triRow rg)
def triExpr : PySem.Expr := match lawBody.drop 11 with
  | .Return (some (.Compare _ _ [e] _)) _ :: _ => e
  | _ => .Constant .none 0 ⟨0, 0, 0, 0⟩

theorem triRow_take (rg i j : Nat) (hj : j < rg - (i + 1)) : (triRow rg i).take (j + 1) = (triRow rg i).take j ++ [((i : Int), ((i + 1 + j : Nat) : Int))] := by
  rw [List.take_add_one]
  congr 1
  simp [triRow, hj]
theorem triRow_len (rg i : Nat) : (triRow rg i).length = rg - (i + 1) := by simp [triRow]

section
variable {prog : Program} {w : World} {p : Program} {loose : List Str} {mean : ExcName → Option Value} {mg mb : Str → Option Value} {fa : Nat} {L : Addr} {cd : Value} {h₀ : Heap} {m : Str → Option Value} {s : Shared} {Q : Flow → Shared → Prop} {E : Value → Shared → Prop} {oD oR oT : Obj} {rest : List (Addr × Obj)}

theorem tri_comp {news : List (Addr × Obj)} {rg : Nat} {tR : Tok} {Q : Value → Shared → Prop} (X : Frag.In (hd.heap_39 w.params) h₀) (T : Top p loose mean mg mb h₀) (F : Fr h₀ L s.heap m) (N : News h₀ L s.heap news) (hmem : (L + 1 + 1, oR) ∈ news) (hR : oR.data = .cell (some (.int (rg : Int) tR))) (h4 : rg ≤ 40)
    (next : ∀ h' tk D vs e tl, Fr h₀ L h' m → News h₀ L h' ((D, listOf (vs : List Value).toArray e) :: (tl ++ news)) → DatAll tl vs ((tri rg).map pairD) → Q (.ref D) { s with heap := h', toks := tk }) :
    wpAny (model prog w) (lawA L fa cd) (eval triExpr (lawEnv L fa cd)) Q E s := by
  change wpAny _ _ (eval (Expr.ListComp _ _ _ _) _) _ _ _
  rw [eval_ListComp]
  refine wpAny_comprehension_free (cl := [(Str.ofString "ring", L + 1 + 1)]) rfl (by intro _; rfl) (by rfl) rfl (by decide) ?_
  change wpAny _ _ (eval _ _) _ _ _
  iterate 3 walk1
  refine PyProof.Rows.spliced_more (nameX_C N (by rfl) hmem hR (PyProof.Rows.spliced_none ?_))
  refine range1_rows F N fun h₁ tk₁ t₁ u₁ v₁ hr F₁ N₁ _ => ?_

  refine iter_range (n := rg) F₁ N₁ hr (by lia) (by decide) (by decide) (by lia) fun It oI h₂ hst F₂ N₂ hIt => ?_
  dsimp only
  refine comp_head F₂ N₂ (fun q hq => Nat.ne_of_lt (hIt q hq)) (by decide) rfl (self_range hst) fun h₃ D C oC mC tk₃ F₃ N₃ hap hNs => ?_
  have nx := nexts_range (prog := prog) (w := w) (A := lawA L fa cd) (It := It) (n := rg) (b := 0) rfl
  refine codeAny_comp_out (fun k s' => ∃ H tk i vs e tl oC mC oI, s' = { s with heap := H, toks := tk } ∧ Fr h₀ L H m ∧ News h₀ L H ((D, listOf (vs : List Value).toArray e) :: (C, oC) :: (It, oI) :: (tl ++ news)) ∧ Apart D C It (tl ++ news) ∧ NsO oC mC ∧ StRange rg 0 i oI ∧ i ≤ rg ∧ k = rg - i ∧
      DatAll tl vs (((List.range i).flatMap (triRow rg)).map pairD) ∧ vs.length ≤ i * rg) (by intro _; rfl) ?turn0 rg ⟨h₃, tk₃, 0, [], 0, [], oC, mC, oI, rfl, F₃, N₃, hap, hNs, hst, Nat.zero_le _, rfl, .nil, by simp⟩
  rintro k s' hx0__
  refine elE_9 hx0__ fun H tk i vs e tl oC mC oI => elA_10 ?_
  clear hx0__
  intro e0__ F' N' hap' hNs' hst' hi e1__ hda hvl
  subst e0__
  subst e1__
  have hIt' := N' (It, oI) (.tail _ (.tail _ (.head _)))
  by_cases hlt : i < rg
  · refine nx.next i oI _ _ _ hlt hIt'.1 hst' (by simp) fun h₄ oI₄ tk₄ ho₄ hst₄ hs₄ => ?_
    dsimp only at hs₄ ⊢
    have F₄ : Fr h₀ L h₄ m := F'.change hs₄ hIt'.2.1 hIt'.2.2
    have N₄ : News h₀ L h₄ ((D, listOf vs.toArray e) :: (C, oC) :: (It, oI₄) :: (tl ++ news)) := fun q hq => by
      rcases List.mem_cons.mp hq with rfl | hq
      · have x := N' (D, listOf vs.toArray e) (.head _)
        exact ⟨(hs₄.2 _ hap'.di).trans x.1, x.2⟩
      · rcases List.mem_cons.mp hq with rfl | hq
        · have x := N' (C, oC) (.tail _ (.head _))
          exact ⟨(hs₄.2 _ hap'.ci).trans x.1, x.2⟩
        · rcases List.mem_cons.mp hq with rfl | hq
          · exact ⟨ho₄, hIt'.2⟩
          · have x := N' q (.tail _ (.tail _ (.tail _ hq)))
            exact ⟨(hs₄.2 _ (hap'.rest q hq).2.2).trans x.1, x.2⟩
    rw [Int.zero_add]
    refine wpAny_pure ?_
    refine wpAny_assign_Name (store_comp (pre := [(D, listOf vs.toArray e)]) F₄ N₄ hNs' (List.forall_mem_singleton.mpr hap'.dc) (List.forall_mem_cons.mpr ⟨Ne.symm hap'.ci, fun q hq => (hap'.rest q hq).2.1⟩) fun h₅ oC₅ F₅ N₅ hC₅ => ?_)
    dsimp only
    have hcb : (L + 1 + 1, oR) ∈ [(D, listOf vs.toArray e)] ++ (C, oC₅) :: (It, oI₄) :: (tl ++ news) := .tail _ (.tail _ (.tail _ (List.mem_append_right _ hmem)))
    refine PyProof.Rows.Call_ ?_
    refine nameB_comp F₅ X T (by rfl) boot_range ?_
    walk1
    refine PyProof.Rows.spliced_more (wpAny_BinOp (load_comp (N₅ (C, oC₅) (.tail _ (.head _))).1 hC₅ (if_pos rfl) (wpAny_Constant_int ?_)))
    walk1
    refine PyProof.Rows.spliced_more (wpAny_Name (wpAny_loadName_cell rfl (by rfl) (by rfl) ⟨oR, N₅.get hcb, hR⟩ (PyProof.Rows.spliced_none ?_)) (by decide))
    refine range2_rows F₅ N₅ fun h₆ tk₆ t₆ u₆ v₆ hr₆ F₆ N₆ _ => ?_
    dsimp only
    refine iter_range (n := rg - (i + 1)) F₆ N₆ hr₆ (by lia) (by lia) (by lia) (by lia) fun I2 o2 h₇ hst₇ F₇ N₇ hI2 => ?_
    dsimp only
    have hI2D : I2 ≠ D := Nat.ne_of_gt (hI2 _ (.head _))
    have hI2C : I2 ≠ C := Nat.ne_of_gt (hI2 _ (.tail _ (.head _)))
    have hI2I : I2 ≠ It := Nat.ne_of_gt (hI2 _ (.tail _ (.tail _ (.head _))))
    have hI2r : ∀ q ∈ tl ++ news, q.1 ≠ I2 := fun q hq => Nat.ne_of_lt (hI2 q (.tail _ (.tail _ (.tail _ hq))))
    have hI2n : ∀ q ∈ news, q.1 ≠ I2 := fun q hq => hI2r q (List.mem_append_right _ hq)
    have nx2 := nexts_range (prog := prog) (w := w) (A := lawA L fa cd) (It := I2) (n := rg - (i + 1)) (b := (i : Int) + 1) rfl
    have hm1 : (i + 1) * rg = i * rg + rg := Nat.succ_mul i rg
    have hm2 : i * rg ≤ 40 * 40 := Nat.mul_le_mul (by lia) h4
    refine codeAny_compStart_in ?loop (self_range hst₇ _ (N₇ _ (.head _)).1 _ _ ?loop)
    case loop =>
      refine codeAny_comp_in (fun k s' => ∃ H tk j vs e tl oC mC o2 ti, s' = { s with heap := H, toks := tk } ∧ Fr h₀ L H m ∧ News h₀ L H ((D, listOf (vs : List Value).toArray e) :: (C, oC) :: (I2, o2) :: (It, oI₄) :: (tl ++ news)) ∧ Apart D C It (tl ++ news) ∧ (∀ q ∈ tl ++ news, q.1 ≠ I2) ∧ NsO oC mC ∧
        mC (Str.ofString "x") = some (.int i ti) ∧ StRange (rg - (i + 1)) ((i : Int) + 1) j o2 ∧ j ≤ rg - (i + 1) ∧ k = rg - (i + 1) - j ∧
        DatAll tl vs (((List.range i).flatMap (triRow rg) ++ (triRow rg i).take j).map pairD) ∧ vs.length ≤ i * rg + j) ?turn1 (rg - (i + 1))
        (inE_10 h₇ tk₆ 0 vs e tl oC₅ _ o2 _ (inA_12 rfl F₇ (News_mono N₇ fun q hq => ?_) hap' hI2r hC₅ (if_pos rfl) hst₇ (Nat.zero_le _) rfl (by simpa using hda) (by simpa using hvl)))
      case turn1 =>
        rintro k s' hx1__
        refine elE_10 hx1__ fun H tk j vs e tl oC mC o2 ti => elA_12 ?_
        clear hx1__
        intro e0__ F' N' hap' hI2r hNs' hmx hst' hj e1__ hda hvl
        subst e0__
        subst e1__
        have hIt' := N' (I2, o2) (.tail _ (.tail _ (.head _)))
        by_cases hlt2 : j < rg - (i + 1)
        · refine nx2.next j o2 _ _ _ hlt2 hIt'.1 hst' (by simp) fun h₄ oI₅ tk₄ ho₄ hst₄' hs₄ => ?_
          dsimp only at hs₄ ⊢
          have F₄ : Fr h₀ L h₄ m := F'.change hs₄ hIt'.2.1 hIt'.2.2
          have N₄ : News h₀ L h₄ ((D, listOf vs.toArray e) :: (C, oC) :: (I2, oI₅) :: (It, oI₄) :: (tl ++ news)) := fun q hq => by
            rcases List.mem_cons.mp hq with rfl | hq
            · have x := N' (D, listOf vs.toArray e) (.head _)
              exact ⟨(hs₄.2 _ (Ne.symm hI2D)).trans x.1, x.2⟩
            · rcases List.mem_cons.mp hq with rfl | hq
              · have x := N' (C, oC) (.tail _ (.head _))
                exact ⟨(hs₄.2 _ (Ne.symm hI2C)).trans x.1, x.2⟩
              · rcases List.mem_cons.mp hq with rfl | hq
                · exact ⟨ho₄, hIt'.2⟩
                · rcases List.mem_cons.mp hq with rfl | hq
                  · have x := N' (It, oI₄) (.tail _ (.tail _ (.tail _ (.head _))))
                    exact ⟨(hs₄.2 _ (Ne.symm hI2I)).trans x.1, x.2⟩
                  · have x := N' q (.tail _ (.tail _ (.tail _ (.tail _ hq))))
                    exact ⟨(hs₄.2 _ (hI2r q hq)).trans x.1, x.2⟩
          refine wpAny_pure ?_
          refine wpAny_assign_Name (store_comp (pre := [(D, listOf vs.toArray e)]) F₄ N₄ hNs' (List.forall_mem_singleton.mpr hap'.dc) (List.forall_mem_cons.mpr ⟨hI2C, List.forall_mem_cons.mpr ⟨Ne.symm hap'.ci, fun q hq => (hap'.rest q hq).2.1⟩⟩) fun h₅ oC₅ F₅ N₅ hC₅ => ?_)
          dsimp only
          have hxy : Str.ofString "x" ≠ Str.ofString "y" := by decide +kernel
          refine PyProof.Rows.List_ (PyProof.Rows.spliced_more (load_comp (N₅ (C, oC₅) (.tail _ (.head _))).1 hC₅ ((if_neg hxy).trans hmx) (PyProof.Rows.spliced_more (load_comp (N₅ (C, oC₅) (.tail _ (.head _))).1 hC₅ (if_pos rfl) (PyProof.Rows.spliced_none ?_)))))
          refine newList_K F₅ N₅ fun P h₆ F₆ N₆ hP => ?_
          have hPD : P ≠ D := Nat.ne_of_gt (hP _ (.head _))
          have hPC : P ≠ C := Nat.ne_of_gt (hP _ (.tail _ (.head _)))
          have hPI2 : P ≠ I2 := Nat.ne_of_gt (hP _ (.tail _ (.tail _ (.head _))))
          have hPI : P ≠ It := Nat.ne_of_gt (hP _ (.tail _ (.tail _ (.tail _ (.head _)))))
          refine append_K F₆ N₆ (Upd.tail hPD (Upd.head (List.forall_mem_cons.mpr ⟨Ne.symm hap'.dc, List.forall_mem_cons.mpr ⟨hI2D, List.forall_mem_cons.mpr ⟨Ne.symm hap'.di, fun q hq => (hap'.rest q hq).1⟩⟩⟩))) (fun h₇ F₇ N₇ => ?_) (by
            show vs.toArray.size ≤ sizeLine
            rw [List.size_toArray]
            have : 2000 ≤ sizeLine := by decide
            lia)
          dsimp only
          refine (inE_1 (rg - (i + 1) - (j + 1)) (inA_2 (by lia) (inE_10 h₇ _ (j + 1) (vs ++ [.ref P]) (e + 1) ((P, listOf [Value.int i ti, Value.int ((i : Int) + 1 + (j : Nat)) tk].toArray 0) :: tl) oC₅ _ oI₅ ti (inA_12 rfl F₇ (News_mono N₇ fun q hq => ?_) ?_ ?_ hC₅ ((if_neg hxy).trans hmx) hst₄' (by lia) rfl ?_ ?_))))
          · rw [show (vs ++ [Value.ref P]).toArray = vs.toArray.push (.ref P) by simp] at hq
            simp only [List.mem_cons, List.cons_append, List.nil_append, List.append_eq] at hq ⊢
            rcases hq with h | h | h | h | h | h
            · exact .inr (.inl h)
            · exact .inr (.inr (.inl h))
            · exact .inr (.inr (.inr (.inl h)))
            · exact .inr (.inr (.inr (.inr (.inl h))))
            · exact .inl h
            · exact .inr (.inr (.inr (.inr (.inr h))))
          · exact ⟨hap'.dc, hap'.di, hap'.ci, List.forall_mem_cons.mpr ⟨⟨hPD, hPC, hPI⟩, hap'.rest⟩⟩
          · exact List.forall_mem_cons.mpr ⟨hPI2, hI2r⟩
          · rw [triRow_take rg i j hlt2, ← List.append_assoc, List.map_append]
            refine DatAll.append (hda.mono fun q hq => .tail _ hq) (.cons ?_ .nil)
            have e1 : ((i + 1 + j : Nat) : Int) = (i : Int) + 1 + (j : Nat) := by lia
            rw [e1]
            exact .list (.head _) (.cons (.int _ _) (.cons (.int _ _) .nil))
          · simp; lia
        · obtain rfl : j = rg - (i + 1) := by lia
          refine nx2.stop o2 _ _ _ hIt'.1 hst' (by simp) fun h₅ hk₅ => ?_
          dsimp only at hk₅ ⊢
          refine (inA_2 rfl (inE_1 (rg - (i + 1)) (inA_2 (by lia) (inE_9 h₅ tk (i + 1) vs e tl oC mC oI₄ (inA_10 rfl (Fr_but F' hk₅ hIt'.2.1 hIt'.2.2) (fun q hq => ?_) hap' hNs' hst₄ (by lia) rfl ?_ (by lia))))))
          · rcases List.mem_cons.mp hq with rfl | hq
            · have x := N' (D, listOf vs.toArray e) (.head _)
              exact ⟨hk₅ _ _ (Ne.symm hI2D) x.1, x.2⟩
            · rcases List.mem_cons.mp hq with rfl | hq
              · have x := N' (C, oC) (.tail _ (.head _))
                exact ⟨hk₅ _ _ (Ne.symm hI2C) x.1, x.2⟩
              · rcases List.mem_cons.mp hq with rfl | hq
                · have x := N' (It, oI₄) (.tail _ (.tail _ (.tail _ (.head _))))
                  exact ⟨hk₅ _ _ (Ne.symm hI2I) x.1, x.2⟩
                · have x := N' q (.tail _ (.tail _ (.tail _ (.tail _ hq))))
                  exact ⟨hk₅ _ _ (hI2r q hq) x.1, x.2⟩
          · rw [List.take_of_length_le (by rw [triRow_len]; exact Nat.le_refl _)] at hda
            rw [List.range_succ, List.flatMap_append]
            simpa using hda
      · simp only [List.mem_cons, List.cons_append, List.nil_append] at hq ⊢
        rcases hq with h | h | h | h | h
        · exact .inr (.inl h)
        · exact .inr (.inr (.inl h))
        · exact .inl h
        · exact .inr (.inr (.inr (.inl h)))
        · exact .inr (.inr (.inr (.inr h)))
  · obtain rfl : i = rg := by lia
    refine nx.stop oI _ _ _ hIt'.1 hst' (by simp) fun h₅ hk₅ => ?_
    dsimp only at hk₅ ⊢
    have hND := N' (D, listOf vs.toArray e) (.head _)
    have hNC := N' (C, oC) (.tail _ (.head _))
    refine ⟨mC, hNs'.ns (hk₅ _ _ hap'.ci hNC.1), fun h₆ hs₆ => ?_⟩
    replace hs₆ : Heap.SameBut C h₅ h₆ := hs₆
    refine next h₆ _ D vs e tl ((Fr_but F' hk₅ hIt'.2.1 hIt'.2.2).change hs₆ hNC.2.1 hNC.2.2) (fun q hq => ?_) hda
    rcases List.mem_cons.mp hq with rfl | hq
    · exact ⟨(hs₆.2 _ hap'.dc).trans (hk₅ _ _ hap'.di hND.1), hND.2⟩
    · have x := N' q (.tail _ (.tail _ (.tail _ hq)))
      exact ⟨(hs₆.2 _ (hap'.rest q hq).2.1).trans (hk₅ _ _ (hap'.rest q hq).2.2 x.1), x.2⟩
end
end Mine
end

section
open PySem PySem.W PyProof.Rows PySem.Calls
set_option Elab.async false
set_option maxRecDepth 100000
set_option maxHeartbeats 2000000
namespace Mine

theorem fillE11b : (fun (_ : OpenLaw) (_ : Params → Frag) => True) PySem.Challenge.rw_wa0010_01 hd.heap_39 := by
  k_fill
  exact trivial

theorem PairAt_fun {h : Heap} {v : Value} {p q : Int × Int} (a : SO.PairAt h v p) (b : SO.PairAt h v q) : p = q := by
  refine elE_4 a fun l ta tb n => elA_2 ?_
  clear a
  intro e0__ h1
  subst e0__
  refine elE_4 b fun l' ta' tb' n' => elA_2 ?_
  clear b
  intro e h2
  cases e
  rw [h1] at h2
  have := Option.some.inj h2
  injection this with _ _ h3 _
  injection h3 with h4 _
  injection h4 with h4
  injection h4 with h5 h6
  injection h6 with h6 _
  injection h5 with h5 _
  injection h6 with h6 _
  exact Prod.ext h5 h6

open Classical in
noncomputable def psOf (h : Heap) (v : Value) : Int × Int := if hx : ∃ p, SO.PairAt h v p then hx.choose else (0, 0)
theorem psOf_is {h : Heap} {v : Value} {p : Int × Int} (a : SO.PairAt h v p) : psOf h v = p := by
  have hx : ∃ p, SO.PairAt h v p := ⟨p, a⟩
  unfold psOf
  rw [dif_pos hx]
  exact PairAt_fun hx.choose_spec a

theorem pairs_of_dat {h₀ h : Heap} {L : Addr} {news rest : List (Addr × Obj)} (N : News h₀ L h news) (hs : ∀ q ∈ rest, q ∈ news) : ∀ {vs : List Value} {ps : List (Int × Int)}, DatAll rest vs (ps.map pairD) →
    vs.map (psOf h) = ps ∧ (∀ v ∈ vs, SO.PairAt h v (psOf h v)) ∧ ∀ v ∈ vs, DatIn rest v (pairD (psOf h v)) := by
  intro vs
  induction vs with
  | nil =>
    intro ps hd
    cases ps with
    | nil => exact ⟨rfl, by simp, by simp⟩
    | cons a b => cases hd
  | cons v vs ih =>
    intro ps hd
    cases ps with
    | nil => cases hd
    | cons a b =>
      rw [List.map_cons] at hd
      cases hd with
      | cons hv hr =>
        obtain ⟨i1, i2, i3⟩ := ih hr
        have hP : SO.PairAt h v a := by
          have hv' := hv
          unfold pairD at hv'
          cases hv' with
          | list hm hx =>
            cases hx with
            | cons h1 hx =>
              cases h1 with
              | int i t =>
                cases hx with
                | cons h2 hx =>
                  cases h2 with
                  | int j u =>
                    cases hx
                    exact (inE_4 _ t u _ (inA_2 rfl ((N _ (hs _ hm)).1)))
        have e := psOf_is hP
        refine ⟨by rw [List.map_cons, e, i1], List.forall_mem_cons.mpr ⟨by rw [e]; exact hP, i2⟩, List.forall_mem_cons.mpr ⟨by rw [e]; exact hv, i3⟩⟩

theorem dat_of_pairs {rest : List (Addr × Obj)} {f : Value → Int × Int} : ∀ {vs : List Value}, (∀ v ∈ vs, DatIn rest v (pairD (f v))) → DatAll rest vs ((vs.map f).map pairD) := by
  intro vs
  induction vs with
  | nil => intro _; exact .nil
  | cons v vs ih => intro h; exact .cons (h v (.head _)) (ih fun u hu => h u (.tail _ hu))

theorem tri_mem {rg : Nat} {q : Int × Int} (h : q ∈ tri rg) : 0 ≤ q.1 ∧ q.1 < q.2 ∧ q.2 < rg := by
  obtain ⟨x, hx, hq⟩ := List.mem_flatMap.mp h
  obtain ⟨y, hy, rfl⟩ := List.mem_map.mp hq
  have h1 := List.mem_range.mp hx
  have h2 := List.mem_range'_1.mp hy
  dsimp only
  lia

theorem tri_sorted (rg : Nat) : (tri rg).Pairwise fun p q => p.1 * (rg : Int) + p.2 < q.1 * (rg : Int) + q.2 := by
  unfold tri
  refine List.pairwise_flatMap.mpr ⟨fun x _ => ?_, ?_⟩
  · unfold triRow
    refine List.pairwise_map.mpr ?_
    refine List.Pairwise.imp ?_ List.pairwise_lt_range'
    intro a b hab
    dsimp only
    lia
  · refine List.Pairwise.imp ?_ (List.pairwise_lt_range)
    intro a b hab p hp q hq
    obtain ⟨y, hy, rfl⟩ := List.mem_map.mp hp
    obtain ⟨z, hz, rfl⟩ := List.mem_map.mp hq
    have h1 := List.mem_range'_1.mp hy
    have h2 := List.mem_range'_1.mp hz
    dsimp only
    have : ((a : Int) + 1) * rg ≤ b * rg := Int.mul_le_mul_of_nonneg_right (by lia) (by lia)
    rw [Int.add_mul] at this
    lia

theorem tri_count : ∀ rg ≤ 40, 3 ≤ rg → 2 ≤ (tri rg).length ∧ (tri rg).length ≤ 1000 := by
  have e : ∀ rg, (tri rg).length = ((List.range rg).map fun x => rg - (x + 1)).sum := by
    intro rg
    unfold tri
    rw [List.length_flatMap]
    congr 1
    exact List.map_congr_left fun x _ => triRow_len rg x
  intro rg h1 h2
  rw [e]
  have : ∀ rg : Fin 41, 3 ≤ rg.val → 2 ≤ ((List.range rg.val).map fun x => rg.val - (x + 1)).sum ∧ ((List.range rg.val).map fun x => rg.val - (x + 1)).sum ≤ 1000 := by decide +kernel
  exact this ⟨rg, by lia⟩ h2

section
variable {prog : Program} {w : World} {p : Program} {loose : List Str} {mean : ExcName → Option Value} {mg mb : Str → Option Value} {fa : Nat} {L : Addr} {cd : Value} {h₀ : Heap} {m : Str → Option Value} {s : Shared} {Q : Flow → Shared → Prop} {E : Value → Shared → Prop} {oD oR oT : Obj} {rest : List (Addr × Obj)}

theorem seg_ret {J : Addr} {jv : List Value} {ej : Nat} {ps : List (Int × Int)} {rg : Nat} {tR : Tok} (X : Frag.In (hd.heap_39 w.params) h₀) (T : Top p loose mean mg mb h₀) (F : Fr h₀ L s.heap m)
    (N : News h₀ L s.heap ((L + 1, oD) :: (L + 1 + 1, oR) :: (L + 1 + 1 + 1, oT) :: rest)) (hR : oR.data = .cell (some (.int (rg : Int) tR)))
    (hm : m (Str.ofString "joined") = some (.ref J)) (hJ : (J, listOf jv.toArray ej) ∈ rest) (hda : DatAll rest jv (ps.map pairD)) (hpm : ps.Perm (tri rg)) (h2 : 3 ≤ rg) (h4 : rg ≤ 40)
    (next : ∀ h' tk m' news', Fr h₀ L h' m' → News h₀ L h' news' → Q (.ret (.bool true)) { s with heap := h', toks := tk }) :
    wpAny (model prog w) (lawA L fa cd) (execs (lawBody.drop 11) (lawEnv L fa cd)) Q E s := by
  refine wpAny_execs_cons (wpAny_Return_some (wpAny_Compare1 ?_))
  iterate 3 walk1
  refine PyProof.Rows.spliced_more (nameX_L F hm (PyProof.Rows.spliced_none ?_))
  obtain ⟨q1, q2, q3⟩ := pairs_of_dat N (fun q hq => .tail _ (.tail _ (.tail _ hq))) hda
  have hjl : jv.length = (tri rg).length := by rw [← hpm.length_eq, ← q1, List.length_map]
  obtain ⟨c1, c2⟩ := tri_count rg h4 h2
  have hin : ∀ v ∈ jv, psOf s.heap v ∈ tri rg := fun v hv => hpm.mem_iff.mp (by rw [← q1]; exact List.mem_map_of_mem hv)
  have hkey : (jv.map fun v => (psOf s.heap v).1 * (rg : Int) + (psOf s.heap v).2) = ps.map fun q => q.1 * (rg : Int) + q.2 := by
    rw [← q1, List.map_map]; rfl
  refine SO.sorted_pairs_N (ring := rg) (ps := psOf s.heap) (by show 4 + 3 + 4 < cLine; decide) F N (N.isList (.tail _ (.tail _ (.tail _ hJ)))) (by lia) (by lia) (by lia) q2 (fun v hv => ?_) ?_ fun D h₁ vs' e F₁ N₁ hD hperm hsorted => ?_
  · have := tri_mem (hin v hv)
    lia
  · rw [hkey]
    refine (hpm.map _).nodup_iff.mpr ?_
    rw [List.Nodup, List.pairwise_map]
    exact (tri_sorted rg).imp fun h => Int.ne_of_lt h
  dsimp only
  refine tri_comp X T F₁ N₁ (.tail _ (.tail _ (.head _))) hR h4 fun h₂ tk₂ D₂ vs₂ e₂ tl₂ F₂ N₂ hda₂ => ?_
  have hvs : vs'.map (psOf s.heap) = tri rg := by
    refine List.Perm.eq_of_pairwise (le := fun p q => p.1 * (rg : Int) + p.2 < q.1 * (rg : Int) + q.2) ?_ ?_ (tri_sorted rg) ?_
    · intro a b _ _ h1 h2
      lia
    · exact List.pairwise_map.mpr hsorted
    · have := hperm.map (psOf s.heap)
      rw [q1] at this
      exact this.trans hpm
  have hda' : DatAll rest vs' ((tri rg).map pairD) := by
    have := dat_of_pairs (rest := rest) (f := psOf s.heap) (vs := vs') fun v hv => q3 v (hperm.mem_iff.mp hv)
    rwa [hvs] at this
  have hok : ∀ d ∈ (tri rg).map pairD, kqdOk 8 d = true := by
    intro d hd
    obtain ⟨q, _, rfl⟩ := List.mem_map.mp hd
    rfl
  have hmD : (D, listOf vs'.toArray e) ∈ (D₂, listOf vs₂.toArray e₂) :: (tl₂ ++ ((D, listOf vs'.toArray e) :: (L + 1, oD) :: (L + 1 + 1, oR) :: (L + 1 + 1 + 1, oT) :: rest)) := .tail _ (List.mem_append_right _ (.head _))
  refine kqd_eq N₂ hmD rfl rfl hda' (fun q hq => .tail _ (List.mem_append_right _ (.tail _ (.tail _ (.tail _ (.tail _ hq)))))) (.head _) rfl rfl hda₂ (fun q hq => .tail _ (List.mem_append_left _ hq)) hok hok (by show 4 + 3 + 64 < cLine; decide) ?_
  have e1 : ∀ (i : Decidable ((tri rg).map pairD = (tri rg).map pairD)), @decide _ i = true := fun i => @decide_eq_true _ i rfl
  rw [e1]
  exact next h₂ _ _ _ F₂ N₂
end
end Mine
end

section
open PySem PySem.W PyProof.Rows PySem.Calls
set_option Elab.async false
set_option maxRecDepth 100000
set_option maxHeartbeats 2000000
namespace Mine

theorem fillE10 : (fun (_ : OpenLaw) (_ : Params → Frag) => True) PySem.Challenge.rw_wa0010_01 hd.heap_39 := by
  k_fill
  exact trivial

def srt (p : Int × Int) : Int × Int := if p.1 ≤ p.2 then p else (p.2, p.1)
def turnPairs (rg : Nat) (ls : List (Int × Int)) (t : Nat) : List (Int × Int) := ls.map fun l => srt ((l.1 + (t : Int)).fmod (rg : Int), (l.2 + (t : Int)).fmod (rg : Int))
def joinedOf (rg : Nat) (ls : List (Int × Int)) (n : Nat) : List (Int × Int) := (List.range n).flatMap (turnPairs rg ls)

theorem srt_of {a b : Int} {vs : List Value} {ns : List Int} (hI : IntsAre vs ns) (hp : ns.Perm [a, b]) (hs : ns.Pairwise (· ≤ ·)) : ∃ t u, vs = [.int (srt (a, b)).1 t, .int (srt (a, b)).2 u] := by
  have hl := hp.length_eq
  cases hI with
  | nil => simp at hl
  | cons x t hI =>
    cases hI with
    | nil => simp at hl
    | cons y u hI =>
      cases hI with
      | cons z v hI => simp at hl
      | nil =>
        have hxy : x ≤ y := by
          have := List.pairwise_cons.mp hs
          exact this.1 y (.head _)
        refine ⟨t, u, ?_⟩
        have hm : x ∈ [a, b] := hp.mem_iff.mp (.head _)
        simp only [List.mem_cons, List.not_mem_nil, or_false] at hm
        unfold srt
        rcases hm with rfl | rfl
        · have : y = b := by
            have h1 := (List.perm_cons x).mp hp
            have h2 := List.perm_singleton.mp h1
            exact (List.cons.inj h2).1
          subst this
          simp [hxy]
        · have : y = a := by
            have h1 := (List.perm_cons x).mp (hp.trans (List.Perm.swap x a []))
            have h2 := List.perm_singleton.mp h1
            exact (List.cons.inj h2).1
          subst this
          dsimp only
          by_cases h : y ≤ x
          · have : x = y := by lia
            subst this
            simp
          · rw [if_neg h]

section
variable {prog : Program} {w : World} {p : Program} {loose : List Str} {mean : ExcName → Option Value} {mg mb : Str → Option Value} {fa : Nat} {L : Addr} {cd : Value} {h₀ : Heap} {m : Str → Option Value} {s : Shared} {Q : Flow → Shared → Prop} {E : Value → Shared → Prop} {oD oR oT : Obj} {rest : List (Addr × Obj)}

theorem seg_turns {J Ln : Addr} {lvs : List Value} {el : Nat} {ls : List (Int × Int)} {rg : Nat} {tR : Tok} {vT : Option Value} (X : Frag.In (hd.heap_39 w.params) h₀) (T : Top p loose mean mg mb h₀) (F : Fr h₀ L s.heap m)
    (N : News h₀ L s.heap ((L + 1, oD) :: (L + 1 + 1, oR) :: (L + 1 + 1 + 1, oT) :: (J, listOf ([] : List Value).toArray 0) :: rest)) (hap : OffC L rest) (hJ3 : @LT.lt Nat _ (L + 1 + 1 + 1) J) (hJr : ∀ q ∈ rest, @LT.lt Nat _ q.1 J)
    (hR : oR.data = .cell (some (.int (rg : Int) tR))) (hT : oT.data = .cell vT)
    (hmJ : m (Str.ofString "joined") = some (.ref J)) (hmL : m (Str.ofString "lines") = some (.ref Ln)) (hL : (Ln, listOf lvs.toArray el) ∈ rest) (hda : DatAll rest lvs (ls.map lineD)) (h2 : 3 ≤ rg) (h4 : rg ≤ 40) (hls : ls.length ≤ 30)
    (next : ∀ h' tk gx m' jv ej tl oT', (∀ q ∈ gx, q = GenState.finished) → Fr h₀ L h' m' → m' (Str.ofString "joined") = some (.ref J) → News h₀ L h' ((L + 1, oD) :: (L + 1 + 1, oR) :: (L + 1 + 1 + 1, oT') :: (J, listOf (jv : List Value).toArray ej) :: (tl ++ rest)) →
      DatAll tl jv ((joinedOf rg ls rg).map pairD) →
      wpAny (model prog w) (lawA L fa cd) (execs (lawBody.drop 11) (lawEnv L fa cd)) Q E { s with heap := h', toks := tk, gens := s.gens ++ gx }) :
    wpAny (model prog w) (lawA L fa cd) (execs (lawBody.drop 10) (lawEnv L fa cd)) Q E s := by
  refine wpAny_execs_cons (wpAny_For ?_)
  iterate 3 walk1
  refine PyProof.Rows.spliced_more (nameX_C N (by rfl) (.tail _ (.head _)) hR (PyProof.Rows.spliced_none ?_))
  refine range1_rows F N fun h₁ tk₁ t₁ u₁ v₁ hr F₁ N₁ _ => ?_
  refine iter_range (n := rg) F₁ N₁ hr (by lia) (by decide) (by decide) (by lia) fun It oI h₂ hst F₂ N₂ hIt => ?_
  dsimp only
  have hvl : lvs.length = ls.length := by
    have := hda.length
    simpa using this
  have hItJ : It ≠ J := Nat.ne_of_gt (hIt _ (.tail _ (.tail _ (.tail _ (.head _)))))
  have hIt3 : It ≠ L + 1 + 1 + 1 := Nat.ne_of_gt (hIt _ (.tail _ (.tail _ (.head _))))
  have h13 : (L + 1 : Nat) ≠ L + 1 + 1 + 1 := Nat.ne_of_lt (Nat.lt_trans (Nat.lt_succ_self _) (Nat.lt_succ_self _))
  have h23 : (L + 1 + 1 : Nat) ≠ L + 1 + 1 + 1 := Nat.ne_of_lt (Nat.lt_succ_self _)
  have N₂' : News h₀ L h₂ ((It, oI) :: (J, listOf ([] : List Value).toArray 0) :: (L + 1, oD) :: (L + 1 + 1, oR) :: (L + 1 + 1 + 1, oT) :: ([] ++ rest)) := News_mono N₂ fun q hq => by
    simp only [List.mem_cons, List.nil_append] at hq ⊢
    rcases hq with h | h | h | h | h | h
    · exact .inl h
    · exact .inr (.inr (.inr (.inr (.inl h))))
    · exact .inr (.inl h)
    · exact .inr (.inr (.inl h))
    · exact .inr (.inr (.inr (.inl h)))
    · exact .inr (.inr (.inr (.inr (.inr h))))
  refine for_gx F₂ N₂' (fun q hq => Nat.ne_of_lt (hIt q ?_)) (nexts_range rfl) hst
    (fun i m' news' => ∃ jv ej tl oT vT, m' (Str.ofString "joined") = some (.ref J) ∧ m' (Str.ofString "lines") = some (.ref Ln) ∧ news' = (J, listOf (jv : List Value).toArray ej) :: (L + 1, oD) :: (L + 1 + 1, oR) :: (L + 1 + 1 + 1, oT) :: (tl ++ rest) ∧ oT.data = .cell vT ∧
      DatAll tl jv ((joinedOf rg ls i).map pairD) ∧ (∀ q ∈ tl, @LT.lt Nat _ (L + 1 + 1 + 1) q.1 ∧ q.1 ≠ J) ∧ jv.length ≤ i * 30) (inE_5 ([]) 0 ([]) oT vT (inA_7 hmJ hmL rfl hT (.nil) (by simp) (by simp))) (by simp) ?turn ?done
  · simp only [List.mem_cons, List.nil_append] at hq ⊢
    rcases hq with h | h | h | h | h
    · exact .inr (.inr (.inr (.inl h)))
    · exact .inl h
    · exact .inr (.inl h)
    · exact .inr (.inr (.inl h))
    · exact .inr (.inr (.inr (.inr h)))
  case done =>
    rintro m₁ news₁ h tk gx hx0__
    refine elE_5 hx0__ fun jv ej tl oT' vT' => elA_7 ?_
    clear hx0__
    intro hmJ' hmL' e0__ hT' hda' htl hjl
    subst e0__
    rintro F₃ N₃ hgx
    dsimp only
    refine next h tk gx m₁ jv ej tl oT' hgx F₃ hmJ' (News_mono N₃ fun q hq => ?_) hda'
    simp only [List.mem_cons] at hq ⊢
    rcases hq with h | h | h | h | h
    · exact .inr (.inl h)
    · exact .inr (.inr (.inl h))
    · exact .inr (.inr (.inr (.inl h)))
    · exact .inl h
    · exact .inr (.inr (.inr (.inr h)))
  case turn =>
    rintro i m₁ news₁ h oI tk gx tk0 hi hx1__
    refine elE_5 hx1__ fun jv ej tl oT' vT' => elA_7 ?_
    clear hx1__
    intro hmJ' hmL' e0__ hT' hda' htl hjl
    subst e0__
    rintro F₃ N₃ hst₃ hneI hgx
    rw [Int.zero_add]
    refine wpAny_pure ?_
    have hJ3' : J ≠ L + 1 + 1 + 1 := Nat.ne_of_gt hJ3
    have htr : ∀ q ∈ tl ++ rest, q.1 ≠ L + 1 + 1 + 1 ∧ q.1 ≠ J := fun q hq => by
      rcases List.mem_append.mp hq with hq | hq
      · exact ⟨Nat.ne_of_gt (htl q hq).1, (htl q hq).2⟩
      · exact ⟨(hap q hq).2.2, Nat.ne_of_lt (hJr q hq)⟩
    refine wpAny_assign_Name (storeX_C F₃ N₃ (by rfl) (UpdF.tail hIt3 (UpdF.tail hJ3' (UpdF.tail h13 (UpdF.tail h23 (UpdF.head fun q hq => (htr q hq).1))))) hT' fun h₄ oT₄ F₄ N₄ hT₄ => ?_)
    dsimp only
    refine wpAny_execs_cons (wpAny_AugAssign_Name (wpAny_loadName_local rfl rfl F₄.ns (v := .ref J) hmJ' ?_))
    rw [eval_ListComp]
    refine wpAny_comprehension_free (cl := [(Str.ofString "turn", L + 1 + 1 + 1), (Str.ofString "ring", L + 1 + 1)]) rfl (by intro _; rfl) (by rfl) rfl (by decide) ?_
    change wpAny _ _ (eval _ _) _ _ _
    refine nameX_L F₄ hmL' ?_
    have hLm : (Ln, listOf lvs.toArray el) ∈ (It, oI) :: (J, listOf jv.toArray ej) :: (L + 1, oD) :: (L + 1 + 1, oR) :: (L + 1 + 1 + 1, oT₄) :: (tl ++ rest) := .tail _ (.tail _ (.tail _ (.tail _ (.tail _ (List.mem_append_right _ hL)))))
    refine iter_list F₄ N₄ hLm fun I2 o2 h₅ hst₅ F₅ N₅ hI2 => ?_
    dsimp only
    have hRm : (L + 1 + 1, oR) ∈ (It, oI) :: (J, listOf jv.toArray ej) :: (L + 1, oD) :: (L + 1 + 1, oR) :: (L + 1 + 1 + 1, oT₄) :: (tl ++ rest) := .tail _ (.tail _ (.tail _ (.head _)))
    have hTm : (L + 1 + 1 + 1, oT₄) ∈ (It, oI) :: (J, listOf jv.toArray ej) :: (L + 1, oD) :: (L + 1 + 1, oR) :: (L + 1 + 1 + 1, oT₄) :: (tl ++ rest) := .tail _ (.tail _ (.tail _ (.tail _ (.head _))))
    have hrm : ∀ q ∈ rest, q ∈ (It, oI) :: (J, listOf jv.toArray ej) :: (L + 1, oD) :: (L + 1 + 1, oR) :: (L + 1 + 1 + 1, oT₄) :: (tl ++ rest) := fun q hq => .tail _ (.tail _ (.tail _ (.tail _ (.tail _ (List.mem_append_right _ hq)))))
    have hJm : (J, listOf jv.toArray ej) ∈ (It, oI) :: (J, listOf jv.toArray ej) :: (L + 1, oD) :: (L + 1 + 1, oR) :: (L + 1 + 1 + 1, oT₄) :: (tl ++ rest) := .tail _ (.head _)
    obtain ⟨B, hB⟩ : ∃ B, B = (It, oI) :: (J, listOf jv.toArray ej) :: (L + 1, oD) :: (L + 1 + 1, oR) :: (L + 1 + 1 + 1, oT₄) :: (tl ++ rest) := ⟨_, rfl⟩
    rw [← hB] at hLm hRm hTm hrm hJm N₅ hI2
    refine comp_tail (L := L) (It := I2) (St := StList Ln) (n := lvs.length) (item := fun j _ => lvs.getD j .none) (side := [(Ln, listOf lvs.toArray el)]) F₅ N₅ (fun q hq => Nat.ne_of_lt (hI2 q hq)) (nexts_list rfl rfl rfl) hst₅
      (by intro q hq; rw [List.mem_singleton.mp hq]; exact hLm) (by lia) (by decide) rfl (fun s' oI' ho hst Q E hq => wpAny_pyIter_listiter ⟨oI', ho, hst⟩ hq)
      (fun j vs tlc => DatAll tlc vs (((turnPairs rg ls i).take j).map pairD) ∧ (∀ q ∈ tlc, @LT.lt Nat _ I2 q.1) ∧ vs.length = j) ⟨.nil, by simp, rfl⟩ ?cturn ?cdone
    case cturn =>
      rintro j vs tlc hc tkc gxc oC o2' C D mC tk0 hj ⟨hdc, htc, hvj⟩ Fc Nc hstc hapc hgxc hNs
      have hjl : j < ls.length := by lia
      obtain ⟨v, hv, hdv⟩ := hda.get (k := j) (by rw [List.length_map]; exact hjl)
      rw [List.getElem_map] at hdv
      have hx2__ : ∃ Tp ta tb nT, v = .ref Tp ∧ (Tp, ({ cls := .type "tuple", data := .seq [Value.int ls[j].1 ta, Value.int ls[j].2 tb].toArray nT } : Obj)) ∈ rest := by
        unfold lineD at hdv
        cases hdv with
        | tuple hm hx =>
          cases hx with
          | cons h1 hx =>
            cases h1 with
            | int a ta =>
              cases hx with
              | cons h2 hx =>
                cases h2 with
                | int b tb =>
                  cases hx
                  exact (inE_4 _ _ _ _ (inA_2 rfl hm))
      refine elE_4 hx2__ fun Tp ta tb nT => elA_2 ?_
      clear hx2__
      intro e0__ hTp
      subst e0__
      have hg : lvs.getD j .none = .ref Tp := by rw [List.getD_eq_getElem?_getD, hv]; rfl
      rw [hg]
      refine letOwned_off (Nc (I2, o2') (.tail _ (.tail _ (.head _)))).1 hstc.1 (by decide) ?_
      refine assign_pair rfl (inE_1 _ (inA_3 (Nc.get (.tail _ (.tail _ (.tail _ (List.mem_append_right _ (hrm _ hTp)))))) rfl (inE_1 _ rfl))) fun h₆ hk₆ => ?_
      dsimp only at hk₆
      have F₆ := Fc.kept hk₆
      have N₆ : News h₀ L h₆ ([(D, listOf vs.toArray j)] ++ (C, oC) :: (I2, o2') :: (tlc ++ B)) := fun q hq => ⟨hk₆ _ _ (Nc q hq).1, (Nc q hq).2⟩
      have hpreC : ∀ q ∈ [(D, listOf vs.toArray j)], q.1 ≠ C := List.forall_mem_singleton.mpr hapc.dc
      have hpostC : ∀ q ∈ (I2, o2') :: (tlc ++ B), q.1 ≠ C := List.forall_mem_cons.mpr ⟨Ne.symm hapc.ci, fun q hq => (hapc.rest q hq).2.1⟩
      refine wpAny_assign_Name (store_comp F₆ N₆ hNs hpreC hpostC fun h₇ oC₇ F₇ N₇ hC₇ => ?_)
      dsimp only
      refine wpAny_assign_Name (store_comp F₇ N₇ hC₇ hpreC hpostC fun h₈ oC₈ F₈ N₈ hC₈ => ?_)
      dsimp only
      have hxy : Str.ofString "x" ≠ Str.ofString "y" := by decide +kernel
      have hRm' : (L + 1 + 1, oR) ∈ [(D, listOf vs.toArray j)] ++ (C, oC₈) :: (I2, o2') :: (tlc ++ B) := .tail _ (.tail _ (.tail _ (List.mem_append_right _ hRm)))
      have hTm' : (L + 1 + 1 + 1, oT₄) ∈ [(D, listOf vs.toArray j)] ++ (C, oC₈) :: (I2, o2') :: (tlc ++ B) := .tail _ (.tail _ (.tail _ (List.mem_append_right _ hTm)))
      refine PyProof.Rows.Call_ ?_
      refine nameB_comp F₈ X T (by rfl) boot_sorted ?_
      walk1
      have hrg0 : ((rg : Nat) : Int) ≠ 0 := by lia
      refine PyProof.Rows.spliced_more (PyProof.Rows.List_ (PyProof.Rows.spliced_more (wpAny_BinOp (wpAny_BinOp (load_comp (N₈ (C, oC₈) (.tail _ (.head _))).1 hC₈ ((if_neg hxy).trans (if_pos rfl)) ?_)))))
      refine wpAny_Name (wpAny_loadName_cell rfl (by rfl) (by rfl) ⟨oT₄, N₈.get hTm', hT₄⟩ ?_) (by decide)
      walk1
      refine wpAny_Name (wpAny_loadName_cell rfl (by rfl) (by rfl) ⟨oR, N₈.get hRm', hR⟩ (PyProof.Rows.mod_int hrg0 ?_)) (by decide)
      refine PyProof.Rows.spliced_more (wpAny_BinOp (wpAny_BinOp (load_comp (N₈ (C, oC₈) (.tail _ (.head _))).1 hC₈ (if_pos rfl) ?_)))
      refine wpAny_Name (wpAny_loadName_cell rfl (by rfl) (by rfl) ⟨oT₄, N₈.get hTm', hT₄⟩ ?_) (by decide)
      walk1
      refine wpAny_Name (wpAny_loadName_cell rfl (by rfl) (by rfl) ⟨oR, N₈.get hRm', hR⟩ (PyProof.Rows.mod_int hrg0 ?_)) (by decide)
      refine PyProof.Rows.spliced_none ?_
      dsimp only
      refine newList_K F₈ N₈ fun P h₉ F₉ N₉ hP => ?_
      dsimp only
      refine PyProof.Rows.spliced_none ?_
      have hPs : ∀ q ∈ (P, listOf [Value.int ((ls[j].1 + (i : Int)).fmod (rg : Int)) _, Value.int ((ls[j].2 + (i : Int)).fmod (rg : Int)) _].toArray 0) :: ([(D, listOf vs.toArray j)] ++ (C, oC₈) :: (I2, o2') :: (tlc ++ B)), @LT.lt Nat _ q.1 (h₉.objs.size + 1) := fun q hq => Nat.lt_succ_of_lt (Heap.lt_size (N₉ q hq).1)
      refine sorted_N F₉ N₉ (N₉.isList (.head _)) (.cons _ _ (.cons _ _ .nil)) (by show 2 < 64; decide) fun h₁₀ vs' ns' e' F₁₀ N₁₀ hI' hp' hs' => ?_
      obtain ⟨t, u, rfl⟩ := srt_of hI' hp' hs'
      dsimp only
      have hPI : @LT.lt Nat _ I2 P := hP _ (.tail _ (.tail _ (.head _)))
      have hS : ∀ q ∈ [(D, listOf vs.toArray j)] ++ (C, oC₈) :: (I2, o2') :: (tlc ++ B), @LT.lt Nat _ q.1 (h₉.objs.size + 1) := fun q hq => hPs q (.tail _ hq)
      refine (inE_6 h₁₀ _ gxc oC₈ _ ((h₉.objs.size + 1, listOf [Value.int (srt ((ls[j].1 + (i : Int)).fmod (rg : Int), (ls[j].2 + (i : Int)).fmod (rg : Int))).1 t, Value.int (srt ((ls[j].1 + (i : Int)).fmod (rg : Int), (ls[j].2 + (i : Int)).fmod (rg : Int))).2 u].toArray e') :: tlc) (inA_9 rfl hgxc F₁₀ (News_mono N₁₀ fun q hq => ?_) ?_ hC₈ ?_ ?_ ?_))
      · simp only [List.mem_cons, List.cons_append, List.nil_append, List.append_eq] at hq ⊢
        rcases hq with h | h | h | h | h
        · exact .inr (.inr (.inl h))
        · exact .inr (.inr (.inr (.inl h)))
        · exact .inr (.inr (.inr (.inr (.inl h))))
        · exact .inl h
        · exact .inr (.inr (.inr (.inr (.inr h))))
      · exact ⟨hapc.dc, hapc.di, hapc.ci, List.forall_mem_cons.mpr ⟨⟨Nat.ne_of_gt (hS _ (.head _)), Nat.ne_of_gt (hS _ (.tail _ (.head _))), Nat.ne_of_gt (hS _ (.tail _ (.tail _ (.head _))))⟩, hapc.rest⟩⟩
      · rw [List.take_add_one]
        have e : (turnPairs rg ls i)[j]? = some (srt ((ls[j].1 + (i : Int)).fmod (rg : Int), (ls[j].2 + (i : Int)).fmod (rg : Int))) := by
          unfold turnPairs
          rw [List.getElem?_map, List.getElem?_eq_getElem hjl]
          rfl
        rw [e, Option.toList_some, List.map_append]
        refine DatAll.append (hdc.mono fun q hq => .tail _ hq) (.cons ?_ .nil)
        exact .list (.head _) (.cons (.int _ _) (.cons (.int _ _) .nil))
      · exact List.forall_mem_cons.mpr ⟨hS _ (.tail _ (.tail _ (.head _))), htc⟩
      · simp [hvj]
    case cdone =>
      rintro vs tlc hc tkc gxc D ⟨hdc, htc, hvj⟩ Fc Nc hDne hgxc C hC0 hCL hCns hCne
      obtain ⟨mC, hmC⟩ := hCns
      refine ⟨mC, hmC, fun h₂ hs₂ => ?_⟩
      replace hs₂ : Heap.SameBut C hc h₂ := hs₂
      have F₂ := Fc.change hs₂ hCL hC0
      have N₂ := News_but Nc hs₂ hCne
      dsimp only
      have hDJ : J ≠ D := hDne _ (List.mem_append_right _ hJm)
      have hJI2 : @LT.lt Nat _ J I2 := hI2 _ hJm
      have hrest : ∀ q ∈ (L + 1, oD) :: (L + 1 + 1, oR) :: (L + 1 + 1 + 1, oT₄) :: (tl ++ rest), q.1 ≠ J := List.forall_mem_cons.mpr ⟨Ne.symm (Nat.ne_of_gt (Nat.lt_trans (Nat.lt_trans (Nat.lt_succ_self _) (Nat.lt_succ_self _)) hJ3)), List.forall_mem_cons.mpr ⟨Ne.symm (Nat.ne_of_gt (Nat.lt_trans (Nat.lt_succ_self _) hJ3)), List.forall_mem_cons.mpr ⟨Ne.symm hJ3', fun q hq => (htr q hq).2⟩⟩⟩
      have N₂' : News h₀ L h₂ (((D, listOf vs.toArray lvs.length) :: tlc ++ [(It, oI)]) ++ (J, listOf jv.toArray ej) :: (L + 1, oD) :: (L + 1 + 1, oR) :: (L + 1 + 1 + 1, oT₄) :: (tl ++ rest)) := News_mono N₂ fun q hq => by rw [hB]; simpa using hq
      have h300 : i * 30 ≤ 40 * 30 := Nat.mul_le_mul (by lia) (Nat.le_refl _)
      refine iadd_lists F₂ N₂' ?_ hrest (.head _) (fun h₃ e₃ F₃ N₃ => ?_) (by lia)
      · intro q hq
        simp only [List.cons_append, List.mem_cons, List.mem_append, List.not_mem_nil, or_false] at hq
        rcases hq with rfl | hq | rfl
        · exact Ne.symm hDJ
        · exact Nat.ne_of_gt (Nat.lt_trans hJI2 (htc q hq))
        · exact hItJ
      · dsimp only
        refine storeX_L F₃ N₃ fun h₄ F₄ N₄ => ?_
        refine wpAny_execs_nil ?_
        dsimp only [LQ]
        refine (inE_5 h₄ (tkc + 1) _ ((J, listOf (jv ++ vs).toArray e₃) :: (L + 1, oD) :: (L + 1 + 1, oR) :: (L + 1 + 1 + 1, oT₄) :: ((tlc ++ tl) ++ rest)) (gx ++ gxc) (inA_6 ?_ (gx_app hgx hgxc) F₄ (News_mono N₄ fun q hq => ?_) ?_ (inE_5 (jv ++ vs) e₃ (tlc ++ tl) oT₄ _ (inA_7 (if_pos rfl) ?_ rfl hT₄ ?_ ?_ ?_))))
        · simp only [Array.append_assoc]
        · simp only [List.mem_cons, List.cons_append, List.nil_append, List.mem_append, List.append_assoc] at hq ⊢
          rcases hq with h | h | h | h | h | h | h | h <;> simp [h]
        · have hIt2 : It ∉ tlc.map (·.1) := fun hm => by
            obtain ⟨q, hq, e⟩ := List.mem_map.mp hm
            have h1 := htc q hq
            rw [e] at h1
            have h2 : @LT.lt Nat _ It I2 := hI2 (It, oI) (by rw [hB]; exact .head _)
            exact Nat.lt_asymm h1 h2
          intro q hq
          simp only [List.mem_cons, List.mem_append, List.append_assoc] at hq
          rcases hq with rfl | rfl | rfl | rfl | hq | hq | hq
          · exact Ne.symm hItJ
          · exact hneI _ (.tail _ (.head _))
          · exact hneI _ (.tail _ (.tail _ (.head _)))
          · exact Ne.symm hIt3
          · exact fun e => hIt2 (e ▸ List.mem_map_of_mem hq)
          · exact hneI _ (.tail _ (.tail _ (.tail _ (.tail _ (List.mem_append_left _ hq)))))
          · exact hneI _ (.tail _ (.tail _ (.tail _ (.tail _ (List.mem_append_right _ hq)))))
        · exact (if_neg (by decide +kernel)).trans hmL'
        · rw [joinedOf, List.range_succ, List.flatMap_append, List.map_append]
          refine DatAll.append (hda'.mono fun q hq => List.mem_append_right _ hq) ?_
          have e5 : (turnPairs rg ls i).take lvs.length = turnPairs rg ls i := List.take_of_length_le (by simp [turnPairs, hvl])
          rw [e5] at hdc
          have e6 : List.flatMap (turnPairs rg ls) [i] = turnPairs rg ls i := by simp
          rw [e6]
          exact hdc.mono fun q hq => List.mem_append_left _ hq
        · intro q hq
          rcases List.mem_append.mp hq with hq | hq
          · exact ⟨Nat.lt_trans hJ3 (Nat.lt_trans hJI2 (htc q hq)), Nat.ne_of_gt (Nat.lt_trans hJI2 (htc q hq))⟩
          · exact htl q hq
        · rw [List.length_append, Nat.succ_mul]; lia
end
end Mine
end

section
open PySem PySem.W PyProof.Rows PySem.Calls
set_option Elab.async false
set_option maxRecDepth 100000
set_option maxHeartbeats 2000000
namespace Mine

theorem fillE7 : (fun (_ : OpenLaw) (_ : Params → Frag) => True) PySem.Challenge.rw_wa0010_01 hd.heap_39 := by
  k_fill
  exact trivial

def distL (l : Int × Int) : Int := if l.1 - l.2 < 0 then -(l.1 - l.2) else l.1 - l.2

theorem dat_ints {news : List (Addr × Obj)} : ∀ {vs : List Value} {ns : List Int}, IntsAre vs ns → DatAll news vs (ns.map .int)
  | _, _, .nil => .nil
  | _, _, .cons _ _ h => .cons (.int _ _) (dat_ints h)

theorem ri_sorted (n : Nat) : (rangeInts 1 1 n).Pairwise (· ≤ ·) := by
  unfold rangeInts
  refine List.pairwise_map.mpr ?_
  exact (List.pairwise_lt_range).imp fun h => by lia

section
variable {prog : Program} {w : World} {p : Program} {loose : List Str} {mean : ExcName → Option Value} {mg mb : Str → Option Value} {fa : Nat} {L : Addr} {cd : Value} {h₀ : Heap} {m : Str → Option Value} {s : Shared} {Q : Flow → Shared → Prop} {E : Value → Shared → Prop} {news : List (Addr × Obj)}

theorem seg_dists {P Ln : Addr} {lvs pv : List Value} {el ep np : Nat} {ls : List (Int × Int)} (X : Frag.In (hd.heap_39 w.params) h₀) (T : Top p loose mean mg mb h₀) (F : Fr h₀ L s.heap m)
    (N : News h₀ L s.heap news) (hmP : m (Str.ofString "points") = some (.ref P)) (hmL : m (Str.ofString "lines") = some (.ref Ln)) (hP : (P, listOf pv.toArray ep) ∈ news) (hL : (Ln, listOf lvs.toArray el) ∈ news) (hda : DatAll news lvs (ls.map lineD))
    (hpv : pv.length = np + 1) (hnp : np ≤ 30) (hls : ls.length = np) (hpm : (ls.map distL).Perm (rangeInts 1 1 np))
    (next : ∀ h' tk gx news', (∀ q ∈ gx, q = GenState.finished) → Fr h₀ L h' m → (∀ q ∈ news, q ∈ news') → News h₀ L h' news' → wpAny (model prog w) (lawA L fa cd) (execs (lawBody.drop 8) (lawEnv L fa cd)) Q E { s with heap := h', toks := tk, gens := s.gens ++ gx }) :
    wpAny (model prog w) (lawA L fa cd) (execs (lawBody.drop 7) (lawEnv L fa cd)) Q E s := by
  refine wpAny_execs_cons (wpAny_If (wpAny_isTrue_Compare1 ?_))
  iterate 3 walk1
  refine PyProof.Rows.spliced_more ?_
  rw [eval_ListComp]
  refine wpAny_comprehension_free (cl := []) rfl (by intro _; rfl) (by rfl) rfl (by decide) ?_
  change wpAny _ _ (eval _ _) _ _ _
  refine nameX_L F hmL ?_
  refine iter_list F N hL fun I2 o2 h₅ hst₅ F₅ N₅ hI2 => ?_
  have hvl : lvs.length = ls.length := by
    have := hda.length
    simpa using this
  refine comp_tail (L := L) (It := I2) (St := StList Ln) (n := lvs.length) (item := fun j _ => lvs.getD j .none) (side := [(Ln, listOf lvs.toArray el)]) F₅ N₅ (fun q hq => Nat.ne_of_lt (hI2 q hq)) (nexts_list rfl rfl rfl) hst₅
    (by intro q hq; rw [List.mem_singleton.mp hq]; exact hL) (by lia) (by decide) rfl (fun s' oI' ho hst Q E hq => wpAny_pyIter_listiter ⟨oI', ho, hst⟩ hq)
    (fun j vs tlc => tlc = [] ∧ IntsAre vs ((ls.map distL).take j) ∧ vs.length = j) ⟨rfl, .nil, rfl⟩ ?cturn ?cdone
  case cturn =>
    rintro j vs tlc hc tkc gxc oC o2' C D mC tk0 hj ⟨rfl, hdc, hvj⟩ Fc Nc hstc hapc hgxc hNs
    have hjl : j < ls.length := by lia
    obtain ⟨v, hv, hdv⟩ := hda.get (k := j) (by rw [List.length_map]; exact hjl)
    rw [List.getElem_map] at hdv
    have hx0__ : ∃ Tp ta tb nT, v = .ref Tp ∧ (Tp, ({ cls := .type "tuple", data := .seq [Value.int ls[j].1 ta, Value.int ls[j].2 tb].toArray nT } : Obj)) ∈ news := by
      unfold lineD at hdv
      cases hdv with
      | tuple hm hx =>
        cases hx with
        | cons h1 hx =>
          cases h1 with
          | int a ta =>
            cases hx with
            | cons h2 hx =>
              cases h2 with
              | int b tb =>
                cases hx
                exact (inE_4 _ _ _ _ (inA_2 rfl hm))
    refine elE_4 hx0__ fun Tp ta tb nT => elA_2 ?_
    clear hx0__
    intro e0__ hTp
    subst e0__
    have hg : lvs.getD j .none = .ref Tp := by rw [List.getD_eq_getElem?_getD, hv]; rfl
    rw [hg]
    refine letOwned_off (Nc (I2, o2') (.tail _ (.tail _ (.head _)))).1 hstc.1 (by decide) ?_
    refine assign_pair rfl (inE_1 _ (inA_3 (Nc.get (.tail _ (.tail _ (.tail _ hTp)))) rfl (inE_1 _ rfl))) fun h₆ hk₆ => ?_
    dsimp only at hk₆
    have F₆ := Fc.kept hk₆
    have N₆ : News h₀ L h₆ ([(D, listOf vs.toArray j)] ++ (C, oC) :: (I2, o2') :: ([] ++ news)) := fun q hq => ⟨hk₆ _ _ (Nc q hq).1, (Nc q hq).2⟩
    have hpreC : ∀ q ∈ [(D, listOf vs.toArray j)], q.1 ≠ C := List.forall_mem_singleton.mpr hapc.dc
    have hpostC : ∀ q ∈ (I2, o2') :: ([] ++ news), q.1 ≠ C := List.forall_mem_cons.mpr ⟨Ne.symm hapc.ci, fun q hq => (hapc.rest q hq).2.1⟩
    refine wpAny_assign_Name (store_comp F₆ N₆ hNs hpreC hpostC fun h₇ oC₇ F₇ N₇ hC₇ => ?_)
    dsimp only
    refine wpAny_assign_Name (store_comp F₇ N₇ hC₇ hpreC hpostC fun h₈ oC₈ F₈ N₈ hC₈ => ?_)
    dsimp only
    have hxy : Str.ofString "x" ≠ Str.ofString "y" := by decide +kernel
    refine PyProof.Rows.Call_ ?_
    refine nameB_comp F₈ X T (by rfl) boot_abs ?_
    walk1
    refine PyProof.Rows.spliced_more (wpAny_BinOp (load_comp (N₈ (C, oC₈) (.tail _ (.head _))).1 hC₈ ((if_neg hxy).trans (if_pos rfl)) ?_))
    refine load_comp (N₈ (C, oC₈) (.tail _ (.head _))).1 hC₈ (if_pos rfl) ?_
    walk1
    refine PyProof.Rows.spliced_none ?_
    refine PyProof.Rows.call_abs_int fun u tk => ?_
    dsimp only
    refine (inE_6 h₈ _ gxc oC₈ _ ([]) (inA_9 rfl hgxc F₈ N₈ hapc hC₈ rfl ?_ (by simp [hvj])))
    rw [List.take_add_one, List.getElem?_map, List.getElem?_eq_getElem hjl]
    exact hdc.append (.cons _ _ .nil)
  case cdone =>
    rintro vs tlc hc tkc gxc D ⟨rfl, hdc, hvj⟩ Fc Nc hDne hgxc C hC0 hCL hCns hCne
    obtain ⟨mC, hmC⟩ := hCns
    refine ⟨mC, hmC, fun h₂ hs₂ => ?_⟩
    replace hs₂ : Heap.SameBut C hc h₂ := hs₂
    have F₂ := Fc.change hs₂ hCL hC0
    have N₂ := News_but Nc hs₂ hCne
    dsimp only
    refine PyProof.Rows.spliced_none ?_
    rw [List.take_of_length_le (by simp [hvl])] at hdc
    refine sorted_N F₂ N₂ (N₂.isList (.head _)) hdc (by lia) fun h₃ vs' ns' e' F₃ N₃ hI' hp' hs' => ?_
    have hns : ns' = rangeInts 1 1 np := List.Perm.eq_of_pairwise (fun a b _ _ h1 h2 => Int.le_antisymm h1 h2) hs' (ri_sorted np) (hp'.trans hpm)
    subst hns
    generalize hS : h₂.objs.size + 1 = S at *
    dsimp only
    iterate 3 walk1
    refine PyProof.Rows.spliced_more ?_
    iterate 3 walk1
    refine PyProof.Rows.spliced_more (wpAny_Constant_int (PyProof.Rows.spliced_more ?_))
    iterate 3 walk1
    have hPm : (P, listOf pv.toArray ep) ∈ (S, listOf vs'.toArray e') :: (D, listOf vs.toArray lvs.length) :: ([] ++ news) := .tail _ (.tail _ hP)
    refine PyProof.Rows.spliced_more (nameX_L F₃ hmP (PyProof.Rows.spliced_none ?_))
    refine PyProof.Rows.len_list (N₃.isList hPm) (by simp; lia) ?_
    refine PyProof.Rows.spliced_none ?_
    dsimp only
    refine range2_rows F₃ N₃ fun h₄ tk₄ t₄ u₄ v₄ hr₄ F₄ N₄ _ => ?_
    refine PyProof.Rows.spliced_none ?_
    dsimp only
    have hsz : ((pv.toArray.size : Nat) : Int) = 1 + (np : Int) := by simp [hpv]; lia
    rw [hsz] at hr₄
    refine list_rangeD (n := np) rfl F₄ N₄ hr₄ (small_one (by lia) (by lia) (by lia) (by lia)) (by rw [rangeSize_one]; split <;> lia) (by lia) fun h₅ tk₅ ys F₅ N₅ hk₅ hb0 _ hnp' hcar => ?_
    dsimp only at hk₅ hb0 hnp' ⊢
    generalize hR : h₄.objs.size = R at *
    obtain ⟨⟨eR, hoR⟩, hRne⟩ := id hnp'
    have hRL := hnp'.ne_locals F₅
    have N₆ : News h₀ L h₅ ((R, listOf ys.toArray eR) :: (S, listOf vs'.toArray e') :: (D, listOf vs.toArray lvs.length) :: ([] ++ news)) := fun q hq => by
      rcases List.mem_cons.mp hq with rfl | hq
      · exact ⟨hoR, hRL, hb0⟩
      · exact N₅ q hq
    have hok : ∀ d ∈ (rangeInts 1 1 np).map Dat.int, kqdOk 8 d = true := by
      intro d hd
      obtain ⟨q, _, rfl⟩ := List.mem_map.mp hd
      rfl
    refine kqd_ne (n₁ := []) (n₂ := []) N₆ (.tail _ (.head _)) rfl rfl (dat_ints hI') (by simp) (.head _) rfl rfl (dat_ints (IntsAre.ofCarried hcar)) (by simp) hok hok (by show 4 + 3 + 64 < cLine; decide) ?_
    have e1 : ∀ (i : Decidable ((rangeInts 1 1 np).map Dat.int = (rangeInts 1 1 np).map Dat.int)), @decide _ i = true := fun i => @decide_eq_true _ i rfl
    rw [e1]
    refine wpAny_truthy_bool ?_
    simp only [Bool.not_true, Bool.false_eq_true, if_false]
    refine wpAny_execs_nil ?_
    exact next h₅ _ gxc _ hgxc F₅ (fun q hq => .tail _ (.tail _ (.tail _ hq))) N₆
end
end Mine
end

section
open PySem PySem.W PyProof.Rows PySem.Calls
set_option Elab.async false
set_option maxRecDepth 100000
set_option maxHeartbeats 2000000
namespace Mine

theorem fillE6 : (fun (_ : OpenLaw) (_ : Params → Frag) => True) PySem.Challenge.rw_wa0010_01 hd.heap_39 := by
  k_fill
  exact trivial

section
variable {prog : Program} {w : World} {p : Program} {loose : List Str} {mean : ExcName → Option Value} {mg mb : Str → Option Value} {fa : Nat} {L : Addr} {cd : Value} {h₀ : Heap} {m : Str → Option Value} {s : Shared} {Q : Flow → Shared → Prop} {E : Value → Shared → Prop} {news : List (Addr × Obj)}

theorem seg_same {P Du S : Addr} {pv dv : List Value} {ep ed : Nat} {ds : List Dat} {oS : Obj} {kvs : List (Int × Value)} {D : List (PyData × PyData)} (F : Fr h₀ L s.heap m)
    (N : News h₀ L s.heap news) (hmP : m (Str.ofString "points") = some (.ref P)) (hmD : m (Str.ofString "due") = some (.ref Du)) (hmS : m (Str.ofString "spine") = some (.ref S)) (hP : (P, listOf pv.toArray ep) ∈ news) (hD : (Du, listOf dv.toArray ed) ∈ news) (hS : (S, oS) ∈ news)
    (hda : DatAll news pv ds) (hdd : DatAll news dv ds) (hok : ∀ d ∈ ds, kqdOk 8 d = true) (hlo : (S == sysModules) = false) (hdi : oS.IsDictOf (intKind prog w) kvs) (hfp : PyProof.V.FlatPairs PyData.int kvs D) (hlk : PySem.Spec.lookup (.int 0) D = some (.int 0))
    (next : ∀ tk, wpAny (model prog w) (lawA L fa cd) (execs (lawBody.drop 7) (lawEnv L fa cd)) Q E { s with toks := tk }) :
    wpAny (model prog w) (lawA L fa cd) (execs (lawBody.drop 6) (lawEnv L fa cd)) Q E s := by
  refine wpAny_execs_cons (wpAny_If ?_)
  walk1
  refine wpAny_isTrue_Compare1 (nameX_L F hmP (nameX_L F hmD ?_))
  refine kqd_ne (n₁ := news) (n₂ := news) N hP rfl rfl hda (fun _ h => h) hD rfl rfl hdd (fun _ h => h) hok hok (by show 4 + 3 + 64 < cLine; decide) ?_
  have e1 : ∀ (i : Decidable (ds = ds)), @decide _ i = true := fun i => @decide_eq_true _ i rfl
  rw [e1]
  refine wpAny_truthy_bool ?_
  simp only [Bool.not_true, Bool.false_eq_true, if_false]
  refine isTrue_or (wpAny_isTrue_Compare1 (PyProof.Rows.Subscript_ (nameX_L F hmS (wpAny_Constant_int ?_))))
  have hT : IntTab prog w s.heap S D := TabAt.ofNews N hS hlo hdi hfp
  refine item_intTab hT hlk fun v hv => ?_
  obtain ⟨tv, rfl⟩ := PyProof.V.Flat.int_inv hv
  dsimp only
  refine wpAny_Constant_int ?_
  refine PyProof.Rows.ne_int ?_
  refine wpAny_truthy_bool ?_
  simp only [bne_self_eq_false, Bool.false_eq_true, if_false]
  refine isTrue_or_nil ?_
  simp only [Bool.false_eq_true, if_false]
  refine wpAny_execs_nil ?_
  exact next _
end
end Mine
end

section
open PySem PySem.W PyProof.Rows PySem.Calls
set_option Elab.async false
set_option maxRecDepth 100000
set_option maxHeartbeats 2000000
namespace Mine

theorem fillE5 : (fun (_ : OpenLaw) (_ : Params → Frag) => True) PySem.Challenge.rw_wa0010_01 hd.heap_39 := by
  k_fill
  exact trivial

section
variable {prog : Program} {w : World} {p : Program} {loose : List Str} {mean : ExcName → Option Value} {mg mb : Str → Option Value} {fa : Nat} {L : Addr} {cd : Value} {h₀ : Heap} {m : Str → Option Value} {s : Shared} {Q : Flow → Shared → Prop} {E : Value → Shared → Prop} {news : List (Addr × Obj)}

theorem seg_lines {P : Addr} {pts : List (Int × List Nat)} (B : Below callerA h₀ [] h₀) (X : Frag.In (hd.heap_39 w.params) h₀) (T : Top p loose mean mg mb h₀) (F : Fr h₀ L s.heap m)
    (N : News h₀ L s.heap news) (hmP : m (Str.ofString "points") = some (.ref P)) (hP : DatIn news (.ref P) (.list (pts.map ptD))) (hpl : pts.length ≤ 1000)
    (next : ∀ h' tk gx tl S Ln oS kvs D lvs e, (∀ q ∈ gx, q = GenState.finished) → Fr h₀ L h' (fun y => if y = Str.ofString "lines" then some (.ref Ln) else if y = Str.ofString "spine" then some (.ref S) else m y) → News h₀ L h' ((Ln, listOf (lvs : List Value).toArray e) :: (S, oS) :: (tl ++ news)) →
      (S == sysModules) = false → oS.IsDictOf (intKind prog w) kvs → PyProof.V.FlatPairs PyData.int kvs D → (∀ k, PySem.Spec.lookup (.int k) D = (getI (linesOf (pts.map shp)).sp k).map PyData.int) →
      DatAll tl lvs ((linesOf (pts.map shp)).lines.map lineD) → (∀ q ∈ (Ln, listOf lvs.toArray e) :: (S, oS) :: tl, ∀ p ∈ news, q.1 ≠ p.1) →
      wpAny (model prog w) (lawA L fa cd) (execs (lawBody.drop 6) (lawEnv L fa cd)) Q E { s with heap := h', toks := tk, gens := s.gens ++ gx }) :
    wpAny (model prog w) (lawA L fa cd) (execs (lawBody.drop 5) (lawEnv L fa cd)) Q E s := by
  refine wpAny_execs_cons ?_
  iterate 4 walk1
  refine PyProof.Rows.spliced_more (nameX_L F hmP (PyProof.Rows.spliced_none ⟨X.keeps F.keep, ?_⟩))
  refine lines_tell P pts hpl _ _ _ _ _ _ _ _ _ _ _ _ _ _ _ _ _ _ B F X N T rfl hP ?_ ?_ (fun v tl h₂ tk₂ gx F₂ N₂ hgx hv => ?_)
  · show 1 + claimMargin + 1 + 2 < recursionLimit
    decide
  · show 4 + 3 + 16 < cLine
    decide
  refine elE_9 hv fun Tp S Ln oS kvs D lvs e tl' => elA_12 ?_
  clear hv
  intro e0__ e1__ hlo hdi hfp hlk hda hfr htl hTS hTL hSL
  subst e0__
  subst e1__
  dsimp only
  refine assign_pair rfl (inE_1 _ (inA_3 (N₂.get (.head _)) rfl (inE_1 _ rfl))) fun h₃ hk₃ => ?_
  dsimp only at hk₃
  have F₃ := F₂.kept hk₃
  have N₃ : News h₀ L h₃ ((Tp, ({ cls := .type "tuple", data := .seq [Value.ref S, Value.ref Ln].toArray } : Obj)) :: (Ln, listOf lvs.toArray e) :: (S, oS) :: tl' ++ news) := fun q hq => ⟨hk₃ _ _ (N₂ q hq).1, (N₂ q hq).2⟩
  refine wpAny_assign_Name (storeX_L F₃ N₃ fun h₄ F₄ N₄ => ?_)
  dsimp only
  refine wpAny_assign_Name (storeX_L F₄ N₄ fun h₅ F₅ N₅ => ?_)
  dsimp only
  exact next h₅ _ gx tl' S Ln oS kvs D lvs e hgx F₅ (News_mono N₅ fun q hq => by simp only [List.mem_cons, List.cons_append] at hq ⊢; exact .inr hq) hlo hdi hfp hlk hda fun q hq => hfr q (.tail _ hq)
end
end Mine
end

section
open PySem PySem.W PyProof.Rows PySem.Calls
set_option Elab.async false
set_option maxRecDepth 100000
set_option maxHeartbeats 2000000
namespace Mine

abbrev enumO (it : Addr) (i : Int) (old : Value) : Obj := { cls := .type "enumerate", dict := none, data := .fields #[.none, .bool false, .ref it, rawInt i, .none, old], slots := #[] }

def LQ2 (hb : Heap) (L : Addr) (s : Shared) (e : Addr) (eo : Obj) (it : Addr) (io : Obj) (J : (Str → Option Value) → List (Addr × Obj) → Prop) (Q : Flow → Shared → Prop) (f : Flow) (s₂ : Shared) : Prop :=
  match f with
  | .next | .cont => ∃ h' tk m₂ news₂ gx, s₂ = { s with heap := h', toks := tk, gens := s.gens ++ gx } ∧ (∀ q ∈ gx, q = GenState.finished) ∧ Fr hb L h' m₂ ∧ News hb L h' ((e, eo) :: (it, io) :: news₂) ∧ (∀ q ∈ news₂, q.1 ≠ e ∧ q.1 ≠ it) ∧ J m₂ news₂
  | .brk => Q .next s₂
  | .ret v => Q (.ret v) s₂

section
variable {prog : Program} {w : World} {A : Around} {E : Value → Shared → Prop} {s : Shared} {env : Env}

theorem for_enum {hb : Heap} {L : Addr} {m : Str → Option Value} {news : List (Addr × Obj)} {e it l : Addr} {its : List Value} {el : Nat} {old : Value} {io : Obj} {x y : Str} {p1 p2 pt : Pos} {kk : Nat} {body : List Stmt} {Q : Flow → Shared → Prop}
    {Err : Value → Shared → Prop} (hh : A.handled = none)
    (F : Fr hb L s.heap m) (N : News hb L s.heap ((e, enumO it 0 old) :: (it, io) :: news)) (hio : StList l 0 io) (hei : e ≠ it) (hne : ∀ q ∈ news, q.1 ≠ e ∧ q.1 ≠ it)
    (J : Nat → (Str → Option Value) → List (Addr × Obj) → Prop) (hJ : J 0 m news) (hside : ∀ i m₁ news₁, J i m₁ news₁ → (l, listOf its.toArray el) ∈ news₁)
    (turn : ∀ i m₁ news₁ h eo io tk gx tk0, i < its.length → J i m₁ news₁ → Fr hb L h m₁ → News hb L h ((e, eo) :: (it, io) :: news₁) → (∀ q ∈ news₁, q.1 ≠ e ∧ q.1 ≠ it) → (∀ q ∈ gx, q = GenState.finished) →
      wpAny (model prog w) A (assign (.Name x p1) env (.int i tk0)) (fun _ s₁ => wpAny (model prog w) A (assign (.Name y p2) env (its.getD i .none)) (fun _ s₂ => wpAny (model prog w) A (execs body env) (LQ2 hb L s e eo it io (J (i + 1)) Q)
        (fun _ _ => False) s₂) (fun _ _ => False) s₁) (fun _ _ => False) { s with heap := h, toks := tk, gens := s.gens ++ gx })
    (done : ∀ m₁ news₁ h tk gx, J its.length m₁ news₁ → Fr hb L h m₁ → News hb L h news₁ → (∀ q ∈ gx, q = GenState.finished) → Q .next { s with heap := h, toks := tk, gens := s.gens ++ gx }) :
    codeAny (model prog w) A (.forLoop (.Tuple [.Name x p1, .Name y p2] kk pt) (.ref e) body [] env) (fun r s' => match r with | .ok f => Q f s' | .error e => Err e s') s := by
  refine codeAny_forLoop_any
    (fun k s' => ∃ H tk gx m' news' old io i, s' = { s with heap := H, toks := tk, gens := s.gens ++ gx } ∧ (∀ q ∈ gx, q = GenState.finished) ∧ Fr hb L H m' ∧ News hb L H ((e, enumO it ((i : Nat) : Int) old) :: (it, io) :: news') ∧ StList l i io ∧ (∀ q ∈ news', q.1 ≠ e ∧ q.1 ≠ it) ∧ J i m' news' ∧ i ≤ its.length ∧ k = its.length + 1 - i)
    ?_ (its.length + 1) (inE_8 (s.heap) (s.toks) (#[]) m news old io 0 (inA_9 (by simp) (by simp) F N hio hne hJ (Nat.zero_le _) rfl))
  rintro k s' hx0__
  refine elE_8 hx0__ fun H tk gx m' news' old io i => elA_9 ?_
  clear hx0__
  intro e0__ hgx F' N' hio' hne' hJ' hi e1__
  subst e0__
  subst e1__
  have he := N' (e, enumO it i old) (.head _)
  have hit := N' (it, io) (.tail _ (.head _))
  have hl : H.IsList l its.toArray := N'.isList (.tail _ (.tail _ (hside i m' news' hJ')))
  by_cases hlt : i < its.length
  · refine wpAny_pyNext_enum_item (x := its.getD i .none) he.1 ⟨io, hit.1, hio'⟩ hl (by simp [List.getD_eq_getElem?_getD, List.getElem?_eq_getElem hlt]) hei fun h₁ heo hit₁ ht₁ hz₁ hk₁ => ?_
    dsimp only at heo hit₁ ht₁ hz₁ hk₁ ⊢
    have heH : e < H.objs.size := Heap.lt_size he.1
    refine wpAny_letOwnedTupleGo_enum heo fun h₂ he₂ hs₂ => ?_
    replace hs₂ : Heap.SameBut e h₁ h₂ := hs₂
    have ht₂ : h₂.IsTuple H.objs.size #[.int i tk, its.getD i .none] := (inE_1 _ (inA_3 ((hs₂.2 _ (Nat.ne_of_gt heH)).trans ht₁) rfl (inE_1 _ rfl)))
    refine assign_pair hh ht₂ fun h₃ hk₃ => ?_
    dsimp only at hk₃
    have up : ∀ b o, b ≠ e → b ≠ it → H.get? b = some o → h₃.get? b = some o := fun b o h1 h2 hb' => hk₃ b o ((hs₂.2 b h1).trans (hk₁ b o h1 h2 hb'))
    obtain ⟨io₁, hio₁, hc₁⟩ := hit₁
    have F₃ : Fr hb L h₃ m' := ⟨F'.ns.at' fun o x => up _ o (Ne.symm he.2.1) (Ne.symm hit.2.1) x, fun b o x => up b o (fun q => by rw [q, he.2.2] at x; cases x) (fun q => by rw [q, hit.2.2] at x; cases x) (F'.keep b o x), F'.above⟩
    have N₃ : News hb L h₃ ((e, enumO it ((i : Int) + 1) (its.getD i .none)) :: (it, io₁) :: news') := fun q hq => by
      rcases List.mem_cons.mp hq with rfl | hq
      · exact ⟨hk₃ _ _ he₂, he.2⟩
      · rcases List.mem_cons.mp hq with rfl | hq
        · exact ⟨hk₃ _ _ ((hs₂.2 _ (Ne.symm hei)).trans hio₁), hit.2⟩
        · have x := N' q (.tail _ (.tail _ hq))
          exact ⟨up _ _ (hne' q hq).1 (hne' q hq).2 x.1, x.2⟩
    refine wpAny_mono (turn i m' news' h₃ _ io₁ (tk + 1) gx tk hlt hJ' F₃ N₃ hne' hgx) (fun _ s₂ h₂ => ?_) (fun _ _ x => x.elim)
    refine wpAny_mono h₂ (fun _ s₃ h₃ => ?_) (fun _ _ x => x.elim)
    refine wpAny_mono h₃ (fun f s₄ hp => ?_) (fun _ _ x => x.elim)
    cases f with
    | next =>
      refine elE_5 hp fun h₃ tk₃ m₃ news₃ gx₃ => elA_6 ?_
      clear hp
      intro e0__ hgx₃ F₃ N₃ hne₃ hJ₃
      subst e0__
      exact (inE_1 (its.length + 1 - (i + 1)) (inA_2 (by lia) (inE_8 h₃ tk₃ gx₃ m₃ news₃ _ io₁ (i + 1) (inA_9 rfl hgx₃ F₃ N₃ hc₁ hne₃ hJ₃ (by lia) rfl))))
    | cont =>
      refine elE_5 hp fun h₃ tk₃ m₃ news₃ gx₃ => elA_6 ?_
      clear hp
      intro e0__ hgx₃ F₃ N₃ hne₃ hJ₃
      subst e0__
      exact (inE_1 (its.length + 1 - (i + 1)) (inA_2 (by lia) (inE_8 h₃ tk₃ gx₃ m₃ news₃ _ io₁ (i + 1) (inA_9 rfl hgx₃ F₃ N₃ hc₁ hne₃ hJ₃ (by lia) rfl))))
    | brk => exact hp
    | ret v => exact hp
  · obtain rfl : i = its.length := by lia
    refine wpAny_pyNext_enum_end hh he.1 ⟨io, hit.1, hio'⟩ hl (by simp) fun h₁ hk₁ => ?_
    dsimp only at hk₁ ⊢
    refine wpAny_execs_nil ?_
    exact done m' news' h₁ tk gx hJ' (Fr_but F' hk₁ hit.2.1 hit.2.2) (fun q hq => ⟨hk₁ _ _ (hne' q hq).2 (N' q (.tail _ (.tail _ hq))).1, (N' q (.tail _ (.tail _ hq))).2⟩) hgx

theorem iter_enum {h₀ : Heap} {L : Addr} {m : Str → Option Value} {news : List (Addr × Obj)} {l : Addr} {its : List Value} {el : Nat} {Q : Value → Shared → Prop} (F : Fr h₀ L s.heap m) (N : News h₀ L s.heap news) (hm : (l, listOf its.toArray el) ∈ news)
    (h : ∀ e it io h', StList l 0 io → Fr h₀ L h' m → News h₀ L h' ((e, enumO it 0 .none) :: (it, io) :: news) → @LT.lt Nat _ it e → (∀ q ∈ news, @LT.lt Nat _ q.1 it) → Q (.ref e) { s with heap := h' }) :
    wpAny (model prog w) A (call (.type "enumerate") [.ref l]) Q E s := by
  refine call_enumerate_list (N.isList hm) fun h₁ he hit hsz hk => ?_
  obtain ⟨io, hio, hc⟩ := hit
  have F₁ : Fr h₀ L h₁ m := F.keeps hk
  have fresh : ∀ b, s.heap.objs.size ≤ b → b ≠ L ∧ h₀.get? b = none := fun b hb => by
    refine ⟨fun q => absurd F.ns.lt (by rw [← q]; exact Nat.not_lt.mpr hb), ?_⟩
    cases e : h₀.get? b with
    | none => rfl
    | some o => exact absurd (Heap.lt_size (F.keep _ _ e)) (Nat.not_lt.mpr hb)
  refine h (s.heap.objs.size + 1) s.heap.objs.size io h₁ hc F₁ (fun q hq => ?_) (Nat.lt_succ_self _) fun q hq => Heap.lt_size (N q hq).1
  rcases List.mem_cons.mp hq with rfl | hq
  · exact ⟨he, fresh _ (Nat.le_succ _)⟩
  · rcases List.mem_cons.mp hq with rfl | hq
    · exact ⟨hio, fresh _ (Nat.le_refl _)⟩
    · exact ⟨hk _ _ (N q hq).1, (N q hq).2⟩
end
end Mine
end

section
open PySem PySem.W PyProof.Rows PySem.Calls
set_option Elab.async false
set_option maxRecDepth 100000
set_option maxHeartbeats 2000000
namespace Mine

theorem fillE4 : (fun (_ : OpenLaw) (_ : Params → Frag) => True) PySem.Challenge.rw_wa0010_01 hd.heap_39 := by
  k_fill
  exact trivial

theorem dueOf_snoc (row : List (List Nat)) : ∀ (rows : List (List (List Nat))) (d : Int), dueOf d (rows ++ [row]) = dueOf d rows ++ ((d + rows.length, []) :: row.map fun n => (d + rows.length + 1, n)) := by
  intro rows
  induction rows with
  | nil => intro d; simp [dueOf]
  | cons x rows ih =>
    intro d
    rw [List.cons_append, dueOf, dueOf, ih, List.length_cons]
    have e : d + 1 + (rows.length : Int) = d + ((rows.length + 1 : Nat) : Int) := by lia
    rw [e]
    simp

section
variable {prog : Program} {w : World} {p : Program} {loose : List Str} {mean : ExcName → Option Value} {mg mb : Str → Option Value} {fa : Nat} {L : Addr} {cd : Value} {h₀ : Heap} {m : Str → Option Value} {s : Shared} {Q : Flow → Shared → Prop} {E : Value → Shared → Prop} {oD oR oT : Obj} {rest : List (Addr × Obj)}

theorem seg_due {G : Addr} {gv : List Value} {eg : Nat} {rows : List (List (List Nat))} {vD : Option Value} (X : Frag.In (hd.heap_39 w.params) h₀) (T : Top p loose mean mg mb h₀) (F : Fr h₀ L s.heap m)
    (N : News h₀ L s.heap ((L + 1, oD) :: (L + 1 + 1, oR) :: (L + 1 + 1 + 1, oT) :: rest)) (hap : OffC L rest) (hD : oD.data = .cell vD)
    (hmG : m (Str.ofString "legs") = some (.ref G)) (hG : (G, listOf gv.toArray eg) ∈ rest) (hda : DatAll rest gv (rows.map rowD)) (hr : rows.length ≤ 10) (hrow : ∀ row ∈ rows, row.length ≤ 10)
    (next : ∀ h' tk gx m' Du dv ed tl oD', (∀ q ∈ gx, q = GenState.finished) → Fr h₀ L h' m' → m' (Str.ofString "due") = some (.ref Du) → (∀ y, y ≠ Str.ofString "names" → y ≠ Str.ofString "due" → m' y = m y) →
      News h₀ L h' ((L + 1, oD') :: (L + 1 + 1, oR) :: (L + 1 + 1 + 1, oT) :: ((Du, listOf (dv : List Value).toArray ed) :: (tl ++ rest))) → (∀ q ∈ (Du, listOf dv.toArray ed) :: tl, @LT.lt Nat _ (L + 1 + 1 + 1) q.1) → DatAll tl dv ((dueOf 0 rows).map ptD) →
      wpAny (model prog w) (lawA L fa cd) (execs (lawBody.drop 5) (lawEnv L fa cd)) Q E { s with heap := h', toks := tk, gens := s.gens ++ gx }) :
    wpAny (model prog w) (lawA L fa cd) (execs (lawBody.drop 3) (lawEnv L fa cd)) Q E s := by
  refine wpAny_execs_cons (wpAny_Assign_Name (PyProof.Rows.List_ (PyProof.Rows.spliced_none (newList_K F N fun Du h₁ F₁ N₁ hDu => storeX_L F₁ N₁ fun h₂ F₂ N₂ => ?_))))
  dsimp only
  have hvl : gv.length = rows.length := by
    have := hda.length
    simpa using this
  have hD3 : @LT.lt Nat _ (L + 1 + 1 + 1) Du := hDu _ (.tail _ (.tail _ (.head _)))
  have hDr : ∀ q ∈ rest, @LT.lt Nat _ q.1 Du := fun q hq => hDu q (.tail _ (.tail _ (.tail _ hq)))
  refine wpAny_execs_cons (wpAny_For ?_)
  iterate 3 walk1
  refine PyProof.Rows.spliced_more (nameX_L F₂ ((if_neg (by decide +kernel)).trans hmG) (PyProof.Rows.spliced_none ?_))
  have hGm : (G, listOf gv.toArray eg) ∈ (Du, listOf ([] : List Value).toArray 0) :: (L + 1, oD) :: (L + 1 + 1, oR) :: (L + 1 + 1 + 1, oT) :: rest := .tail _ (.tail _ (.tail _ (.tail _ hG)))
  refine iter_enum F₂ N₂ hGm fun En It io h₃ hio F₃ N₃ hIE hIt => ?_
  dsimp only
  refine wpAny_pyIter_enum (N₃ (En, enumO It 0 .none) (.head _)).1 ?_
  have hEI : En ≠ It := Nat.ne_of_gt hIE
  have hEn : ∀ q ∈ (Du, listOf ([] : List Value).toArray 0) :: (L + 1, oD) :: (L + 1 + 1, oR) :: (L + 1 + 1 + 1, oT) :: rest, q.1 ≠ En ∧ q.1 ≠ It := fun q hq => ⟨Nat.ne_of_lt (Nat.lt_trans (hIt q hq) hIE), Nat.ne_of_lt (hIt q hq)⟩
  have h21 : (L + 1 + 1 : Nat) ≠ L + 1 := Nat.ne_of_gt (Nat.lt_succ_self _)
  have h31 : (L + 1 + 1 + 1 : Nat) ≠ L + 1 := Nat.ne_of_gt (Nat.lt_trans (Nat.lt_succ_self _) (Nat.lt_succ_self _))
  have hE1 : En ≠ L + 1 := Ne.symm (hEn _ (.tail _ (.head _))).1
  have hI1 : It ≠ L + 1 := Ne.symm (hEn _ (.tail _ (.head _))).2
  have hD1 : Du ≠ L + 1 := Nat.ne_of_gt (Nat.lt_trans (Nat.lt_trans (Nat.lt_succ_self _) (Nat.lt_succ_self _)) hD3)
  refine for_enum (its := gv) (el := eg) (l := G) rfl F₃ N₃ hio hEI hEn
    (fun i m' news' => ∃ dv ed tl oD vD, m' (Str.ofString "due") = some (.ref Du) ∧ (∀ y, y ≠ Str.ofString "names" → y ≠ Str.ofString "due" → m' y = m y) ∧ news' = (Du, listOf (dv : List Value).toArray ed) :: (L + 1, oD) :: (L + 1 + 1, oR) :: (L + 1 + 1 + 1, oT) :: (tl ++ rest) ∧ oD.data = .cell vD ∧
      DatAll tl dv ((dueOf 0 (rows.take i)).map ptD) ∧ (∀ q ∈ tl, @LT.lt Nat _ En q.1) ∧ dv.length ≤ i * 11)
    (inE_5 ([]) 0 ([]) oD vD (inA_7 (if_pos rfl) (fun y _ h => if_neg h) rfl hD (.nil) (by simp) (by simp))) (by
      rintro i m₁ news₁ hx0__
      refine elE_5 hx0__ fun dv ed tl oD vD => elA_4 ?_
      clear hx0__
      intro _ _ e0__ _
      subst e0__
      exact .tail _ (.tail _ (.tail _ (.tail _ (List.mem_append_right _ hG))))) ?turn ?done
  case done =>
    rintro m₁ news₁ h tk gx hx1__
    refine elE_5 hx1__ fun dv ed tl oD' vD' => elA_7 ?_
    clear hx1__
    intro hm1 hm2 e0__ _ hdd htl hdl
    subst e0__
    rintro F₄ N₄ hgx
    rw [List.take_of_length_le (by lia)] at hdd
    refine next h tk gx m₁ Du dv ed tl oD' hgx F₄ hm1 hm2 (News_mono N₄ fun q hq => ?_) ?_ hdd
    · simp only [List.mem_cons] at hq ⊢
      rcases hq with h | h | h | h | h
      · exact .inr (.inl h)
      · exact .inr (.inr (.inl h))
      · exact .inr (.inr (.inr (.inl h)))
      · exact .inl h
      · exact .inr (.inr (.inr (.inr h)))
    · have hE3 : @LT.lt Nat _ (L + 1 + 1 + 1) En := Nat.lt_trans (hIt _ (.tail _ (.tail _ (.tail _ (.head _))))) hIE
      exact List.forall_mem_cons.mpr ⟨hD3, fun q hq => Nat.lt_trans hE3 (htl q hq)⟩
  case turn =>
    rintro i m₁ news₁ h eo io₁ tk gx tk0 hi hx2__
    refine elE_5 hx2__ fun dv ed tl oD' vD' => elA_7 ?_
    clear hx2__
    intro hm1 hm2 e0__ hD' hdd htl hdl
    subst e0__
    rintro F₄ N₄ hne hgx
    have hir : i < rows.length := by lia
    obtain ⟨v, hv, hdv⟩ := hda.get (k := i) (by rw [List.length_map]; exact hir)
    rw [List.getElem_map] at hdv
    have hrl : rows[i].length ≤ 10 := hrow _ (List.getElem_mem hir)
    have htake : rows.take (i + 1) = rows.take i ++ [rows[i]] := take_succ hir
    have hdue : dueOf 0 (rows.take (i + 1)) = dueOf 0 (rows.take i) ++ (((i : Int), []) :: rows[i].map fun n => ((i : Int) + 1, n)) := by
      rw [htake, dueOf_snoc, List.length_take, Nat.min_eq_left (by lia)]
      simp
    rw [hdue]
    generalize hrw : rows[i] = row at *
    have hx3__ : ∃ r nvs er, v = .ref r ∧ (r, listOf (nvs : List Value).toArray er) ∈ rest ∧ DatAll rest nvs (row.map fun n => .str ⟨n.toArray⟩) := by
      cases hdv with
      | list hm hd => exact (inE_3 _ _ _ (inA_3 rfl hm hd))
    refine elE_3 hx3__ fun r nvs er => elA_3 ?_
    clear hx3__
    intro e0__ hrm hnv
    subst e0__
    have hg : gv.getD i .none = .ref r := by rw [List.getD_eq_getElem?_getD, hv]; rfl
    rw [hg]
    have htlr : ∀ q ∈ tl ++ rest, q.1 ≠ L + 1 ∧ q.1 ≠ Du := fun q hq => by
      have h13 : @LT.lt Nat _ (L + 1) (L + 1 + 1 + 1) := Nat.lt_trans (Nat.lt_succ_self _) (Nat.lt_succ_self _)
      rcases List.mem_append.mp hq with hq | hq
      · have h1 := htl q hq
        have h2 : @LT.lt Nat _ Du En := Nat.lt_trans (hIt _ (.head _)) hIE
        exact ⟨Nat.ne_of_gt (Nat.lt_trans (Nat.lt_trans (Nat.lt_trans h13 hD3) h2) h1), Nat.ne_of_gt (Nat.lt_trans h2 h1)⟩
      · exact ⟨(hap q hq).1, Nat.ne_of_lt (hDr q hq)⟩
    refine wpAny_assign_Name (storeX_C F₄ N₄ (by rfl) (UpdF.tail hE1 (UpdF.tail hI1 (UpdF.tail hD1 (UpdF.head (List.forall_mem_cons.mpr ⟨h21, List.forall_mem_cons.mpr ⟨h31, fun q hq => (htlr q hq).1⟩⟩))))) hD' fun h₅ oD₅ F₅ N₅ hD₅ => ?_)
    dsimp only
    refine wpAny_assign_Name (storeX_L F₅ N₅ fun h₆ F₆ N₆ => ?_)
    dsimp only
    have hnd : Str.ofString "due" ≠ Str.ofString "names" := by decide +kernel
    refine wpAny_execs_cons (wpAny_AugAssign_Name (wpAny_loadName_local rfl rfl F₆.ns (v := .ref Du) ((if_neg hnd).trans hm1) ?_))
    refine wpAny_BinOp (PyProof.Rows.List_ (PyProof.Rows.spliced_more (PyProof.Rows.Tuple_ (PyProof.Rows.spliced_more ?_))))
    refine nameX_C N₆ (by rfl) (.tail _ (.tail _ (.tail _ (.head _)))) hD₅ ?_
    refine PyProof.Rows.spliced_more (wpAny_Constant_str (PyProof.Rows.spliced_none ?_))
    refine newTuple_K F₆ N₆ fun Tp h₇ F₇ N₇ hTp => ?_
    refine PyProof.Rows.spliced_none ?_
    refine newList_K F₇ N₇ fun Q1 h₈ F₈ N₈ hQ1 => ?_
    dsimp only
    rw [eval_ListComp]
    refine wpAny_comprehension_free (cl := [(Str.ofString "depth", L + 1)]) rfl (by intro _; rfl) (by rfl) rfl (by decide) ?_
    change wpAny _ _ (eval _ _) _ _ _
    refine nameX_L F₈ (if_pos rfl) ?_
    obtain ⟨B, hB⟩ : ∃ B, B = (Q1, listOf [Value.ref Tp].toArray 0) :: (Tp, ({ cls := .type "tuple", data := .seq [Value.int (i : Int) tk0, Value.str (Str.ofString "") (tk + 1)].toArray } : Obj)) :: (En, eo) :: (It, io₁) :: (Du, listOf dv.toArray ed) :: (L + 1, oD₅) :: (L + 1 + 1, oR) :: (L + 1 + 1 + 1, oT) :: (tl ++ rest) := ⟨_, rfl⟩
    rw [← hB] at N₈
    have hrB : (r, listOf nvs.toArray er) ∈ B := by
      rw [hB]; exact .tail _ (.tail _ (.tail _ (.tail _ (.tail _ (.tail _ (.tail _ (.tail _ (List.mem_append_right _ hrm))))))))
    have hDB : (L + 1, oD₅) ∈ B := by rw [hB]; exact .tail _ (.tail _ (.tail _ (.tail _ (.tail _ (.head _)))))
    have hQB : (Q1, listOf [Value.ref Tp].toArray 0) ∈ B := by rw [hB]; exact .head _
    refine iter_list F₈ N₈ hrB fun I2 o2 h₉ hst₉ F₉ N₉ hI2 => ?_
    dsimp only
    have hnl : nvs.length = row.length := by
      have := hnv.length
      simpa using this
    refine comp_tail (L := L) (It := I2) (St := StList r) (n := nvs.length) (item := fun j _ => nvs.getD j .none) (side := [(r, listOf nvs.toArray er)]) F₉ N₉ (fun q hq => Nat.ne_of_lt (hI2 q hq)) (nexts_list rfl rfl rfl) hst₉
      (by intro q hq; rw [List.mem_singleton.mp hq]; exact hrB) (by lia) (by decide) rfl (fun s' oI' ho hst Q E hq => wpAny_pyIter_listiter ⟨oI', ho, hst⟩ hq)
      (fun j vs tlc => DatAll tlc vs ((row.take j).map fun n => ptD ((i : Int) + 1, n)) ∧ (∀ q ∈ tlc, @LT.lt Nat _ I2 q.1) ∧ vs.length = j) ⟨.nil, by simp, rfl⟩ ?cturn ?cdone
    case cturn =>
      rintro j vs tlc hc tkc gxc oC o2' C D mC tk0 hj ⟨hdc, htc, hvj⟩ Fc Nc hstc hapc hgxc hNs
      have hjl : j < row.length := by lia
      obtain ⟨v, hv, hdv⟩ := hnv.get (k := j) (by rw [List.length_map]; exact hjl)
      rw [List.getElem_map] at hdv
      obtain ⟨ts, rfl⟩ : ∃ ts, v = .str ⟨row[j].toArray⟩ ts := by
        cases hdv with
        | str x t => exact ⟨_, rfl⟩
      have hg : nvs.getD j .none = .str ⟨row[j].toArray⟩ ts := by rw [List.getD_eq_getElem?_getD, hv]; rfl
      rw [hg]
      refine wpAny_pure ?_
      have hpreC : ∀ q ∈ [(D, listOf vs.toArray j)], q.1 ≠ C := List.forall_mem_singleton.mpr hapc.dc
      have hpostC : ∀ q ∈ (I2, o2') :: (tlc ++ B), q.1 ≠ C := List.forall_mem_cons.mpr ⟨Ne.symm hapc.ci, fun q hq => (hapc.rest q hq).2.1⟩
      refine wpAny_assign_Name (store_comp (pre := [(D, listOf vs.toArray j)]) Fc Nc hNs hpreC hpostC fun h₇ oC₇ F₇ N₇ hC₇ => ?_)
      dsimp only
      have hDm : (L + 1, oD₅) ∈ [(D, listOf vs.toArray j)] ++ (C, oC₇) :: (I2, o2') :: (tlc ++ B) := .tail _ (.tail _ (.tail _ (List.mem_append_right _ hDB)))
      refine PyProof.Rows.Tuple_ (PyProof.Rows.spliced_more (wpAny_BinOp (wpAny_Name (wpAny_loadName_cell rfl (by rfl) (by rfl) ⟨oD₅, N₇.get hDm, hD₅⟩ (wpAny_Constant_int ?_)) (by decide))))
      walk1
      refine PyProof.Rows.spliced_more (load_comp (N₇ (C, oC₇) (.tail _ (.head _))).1 hC₇ (if_pos rfl) (PyProof.Rows.spliced_none ?_))
      refine newTuple_K F₇ N₇ fun T₂ h₈ F₈ N₈ hT₂ => ?_
      dsimp only
      refine (inE_6 h₈ _ gxc oC₇ _ ((T₂, ({ cls := .type "tuple", data := .seq [Value.int ((i : Int) + 1) (tkc + 1 + 1), Value.str ⟨row[j].toArray⟩ ts].toArray } : Obj)) :: tlc) (inA_9 rfl hgxc F₈ (News_mono N₈ fun q hq => ?_) ?_ hC₇ ?_ ?_ ?_))
      · simp only [List.mem_cons, List.cons_append, List.nil_append, List.append_eq] at hq ⊢
        rcases hq with h | h | h | h | h
        · exact .inr (.inl h)
        · exact .inr (.inr (.inl h))
        · exact .inr (.inr (.inr (.inl h)))
        · exact .inl h
        · exact .inr (.inr (.inr (.inr h)))
      · exact ⟨hapc.dc, hapc.di, hapc.ci, List.forall_mem_cons.mpr ⟨⟨Nat.ne_of_gt (hT₂ _ (.head _)), Nat.ne_of_gt (hT₂ _ (.tail _ (.head _))), Nat.ne_of_gt (hT₂ _ (.tail _ (.tail _ (.head _))))⟩, hapc.rest⟩⟩
      · rw [List.take_add_one, List.getElem?_eq_getElem hjl, Option.toList_some, List.map_append]
        refine DatAll.append (hdc.mono fun q hq => .tail _ hq) (.cons ?_ .nil)
        exact .tuple (.head _) (.cons (.int _ _) (.cons (.str _ _) .nil))
      · exact List.forall_mem_cons.mpr ⟨hT₂ _ (.tail _ (.tail _ (.head _))), htc⟩
      · simp [hvj]
    case cdone =>
      rintro vs tlc hc tkc gxc D ⟨hdc, htc, hvj⟩ Fc Nc hDne hgxc C hC0 hCL hCns hCne
      obtain ⟨mC, hmC⟩ := hCns
      refine ⟨mC, hmC, fun h₁₀ hs₁₀ => ?_⟩
      replace hs₁₀ : Heap.SameBut C hc h₁₀ := hs₁₀
      have F₁₀ := Fc.change hs₁₀ hCL hC0
      have N₁₀ := News_but Nc hs₁₀ hCne
      dsimp only
      have hsz : 3000 ≤ sizeLine := by decide
      refine add_lists (vs := [Value.ref Tp]) (ws := vs) F₁₀ N₁₀ (N₁₀.isList (.tail _ (List.mem_append_right _ hQB))) (N₁₀.isList (.head _)) (fun h₁₁ F₁₁ N₁₁ => ?_) (by simp; lia)
      dsimp only
      have hS : ∀ q ∈ (D, listOf vs.toArray nvs.length) :: (tlc ++ B), @LT.lt Nat _ q.1 h₁₀.objs.size := fun q hq => Heap.lt_size (N₁₀ q hq).1
      generalize h₁₀.objs.size = S at *
      have hDuB : (Du, listOf dv.toArray ed) ∈ B := by rw [hB]; exact .tail _ (.tail _ (.tail _ (.tail _ (.head _))))
      have hDuI2 : @LT.lt Nat _ Du I2 := hI2 _ hDuB
      have hrest : ∀ q ∈ (L + 1, oD₅) :: (L + 1 + 1, oR) :: (L + 1 + 1 + 1, oT) :: (tl ++ rest), q.1 ≠ Du := List.forall_mem_cons.mpr ⟨Ne.symm hD1, List.forall_mem_cons.mpr ⟨Nat.ne_of_lt (Nat.lt_trans (Nat.lt_succ_self _) hD3), List.forall_mem_cons.mpr ⟨Nat.ne_of_lt hD3, fun q hq => (htlr q hq).2⟩⟩⟩
      have N₁₁' : News h₀ L h₁₁ (((S, listOf ([Value.ref Tp] ++ vs).toArray 0) :: (D, listOf vs.toArray nvs.length) :: (tlc ++ [(Q1, listOf [Value.ref Tp].toArray 0), (Tp, ({ cls := .type "tuple", data := .seq [Value.int (i : Int) tk0, Value.str (Str.ofString "") (tk + 1)].toArray } : Obj)), (En, eo), (It, io₁)])) ++ (Du, listOf dv.toArray ed) :: (L + 1, oD₅) :: (L + 1 + 1, oR) :: (L + 1 + 1 + 1, oT) :: (tl ++ rest)) := News_mono N₁₁ fun q hq => by rw [hB]; simpa using hq
      refine iadd_lists F₁₁ N₁₁' ?_ hrest (.head _) (fun h₁₂ e₁₂ F₁₂ N₁₂ => ?_) (by simp; lia)
      · intro q hq
        have hDuS : @LT.lt Nat _ Du S := hS _ (.tail _ (List.mem_append_right _ hDuB))
        simp only [List.cons_append, List.mem_cons, List.mem_append, List.not_mem_nil, or_false] at hq
        rcases hq with rfl | rfl | hq | rfl | rfl | rfl | rfl
        · exact Nat.ne_of_gt hDuS
        · exact Ne.symm (hDne _ (List.mem_append_right _ hDuB))
        · exact Nat.ne_of_gt (Nat.lt_trans hDuI2 (htc q hq))
        · exact Nat.ne_of_gt (hQ1 _ (.tail _ (.tail _ (.tail _ (.head _)))))
        · exact Nat.ne_of_gt (hTp _ (.tail _ (.tail _ (.head _))))
        · exact Ne.symm (hne _ (.head _)).1
        · exact Ne.symm (hne _ (.head _)).2
      · dsimp only
        refine storeX_L F₁₂ N₁₂ fun h₁₃ F₁₃ N₁₃ => ?_
        refine wpAny_execs_nil ?_
        dsimp only [LQ2]
        have hTpE : @LT.lt Nat _ En Tp := hTp _ (.head _)
        have hEI2 : @LT.lt Nat _ En I2 := hI2 (En, eo) (by rw [hB]; exact .tail _ (.tail _ (.head _)))
        have htl' : ∀ q ∈ tlc ++ (Tp, ({ cls := .type "tuple", data := .seq [Value.int (i : Int) tk0, Value.str (Str.ofString "") (tk + 1)].toArray } : Obj)) :: tl, @LT.lt Nat _ En q.1 := by
          intro q hq
          rcases List.mem_append.mp hq with hq | hq
          · exact Nat.lt_trans hEI2 (htc q hq)
          · rcases List.mem_cons.mp hq with rfl | hq
            · exact hTpE
            · exact htl q hq
        refine (inE_5 h₁₃ (tkc + 1) _ ((Du, listOf (dv ++ ([Value.ref Tp] ++ vs)).toArray e₁₂) :: (L + 1, oD₅) :: (L + 1 + 1, oR) :: (L + 1 + 1 + 1, oT) :: ((tlc ++ (Tp, ({ cls := .type "tuple", data := .seq [Value.int (i : Int) tk0, Value.str (Str.ofString "") (tk + 1)].toArray } : Obj)) :: tl) ++ rest)) (gx ++ gxc) (inA_6 ?_ (gx_app hgx hgxc) F₁₃ (News_mono N₁₃ fun q hq => ?_) ?_ (inE_5 (dv ++ ([Value.ref Tp] ++ vs)) e₁₂ _ oD₅ _ (inA_7 (if_pos rfl) ?_ rfl hD₅ ?_ htl' ?_))))
        · simp only [Array.append_assoc]
        · simp only [List.mem_cons, List.cons_append, List.nil_append, List.mem_append, List.append_assoc] at hq ⊢
          rcases hq with h | h | h | h | h | h | h | h | h | h <;> simp [h]
        · intro q hq
          simp only [List.mem_cons, List.mem_append, List.append_assoc, List.cons_append] at hq
          rcases hq with rfl | rfl | rfl | rfl | hq | rfl | hq | hq
          · exact hne (Du, listOf dv.toArray ed) (.head _)
          · exact hne (L + 1, oD') (.tail _ (.head _))
          · exact hne _ (.tail _ (.tail _ (.head _)))
          · exact hne _ (.tail _ (.tail _ (.tail _ (.head _))))
          · exact ⟨Nat.ne_of_gt (Nat.lt_trans hEI2 (htc q hq)), Nat.ne_of_gt (Nat.lt_trans hIE (Nat.lt_trans hEI2 (htc q hq)))⟩
          · exact ⟨Nat.ne_of_gt hTpE, Nat.ne_of_gt (Nat.lt_trans hIE hTpE)⟩
          · exact hne _ (.tail _ (.tail _ (.tail _ (.tail _ (List.mem_append_left _ hq)))))
          · exact hne _ (.tail _ (.tail _ (.tail _ (.tail _ (List.mem_append_right _ hq)))))
        · intro y h1 h2
          exact (if_neg h2).trans ((if_neg h1).trans (hm2 y h1 h2))
        · rw [List.map_append]
          refine DatAll.append (hdd.mono fun q hq => List.mem_append_right _ (.tail _ hq)) (.cons ?_ ?_)
          · exact .tuple (List.mem_append_right _ (.head _)) (.cons (.int _ _) (.cons (.str _ _) .nil))
          · rw [List.take_of_length_le (by lia)] at hdc
            rw [List.map_map]
            exact hdc.mono fun q hq => List.mem_append_left _ hq
        · rw [List.length_append, List.length_append, List.length_singleton, Nat.succ_mul]; lia
end
end Mine
end

section
open PySem PySem.W PyProof.Rows PySem.Calls
set_option Elab.async false
set_option maxRecDepth 100000
set_option maxHeartbeats 2000000
namespace Mine

theorem fillE2 : (fun (_ : OpenLaw) (_ : Params → Frag) => True) PySem.Challenge.rw_wa0010_01 hd.heap_39 := by
  k_fill
  exact trivial

theorem size_cs (x : Str) : x.cps.size = (cs x).length := by simp [cs]

section
variable {prog : Program} {w : World} {p : Program} {loose : List Str} {mean : ExcName → Option Value} {mg mb : Str → Option Value} {fa : Nat} {L : Addr} {cd : Value} {h₀ : Heap} {m : Str → Option Value} {s : Shared} {Q : Flow → Shared → Prop} {E : Value → Shared → Prop} {news : List (Addr × Obj)}

theorem seg_points {G : Addr} {rows : List (List (List Nat))} (B : Below callerA h₀ [] h₀) (X : Frag.In (hd.heap_39 w.params) h₀) (T : Top p loose mean mg mb h₀) (F : Fr h₀ L s.heap m)
    (N : News h₀ L s.heap news) (hmG : m (Str.ofString "legs") = some (.ref G)) (hG : DatIn news (.ref G) (.list (rows.map rowD))) (hlen : (TT rows).length ≤ 400) (hrl : rows.length ≤ 100)
    (hgood : ∀ row ∈ rows, ∀ n ∈ row, ∀ c ∈ n, c < 128 ∧ c ≠ 92 ∧ c ≠ 34) (hdl : (dueOf 0 rows).length ≤ 1000)
    (next : ∀ h' tk gx P pv ep tl, (∀ q ∈ gx, q = GenState.finished) → Fr h₀ L h' (fun y => if y = Str.ofString "points" then some (.ref P) else m y) → News h₀ L h' ((P, listOf (pv : List Value).toArray ep) :: (tl ++ news)) →
      DatAll tl pv ((dueOf 0 rows).map ptD) → (∀ q ∈ (P, listOf pv.toArray ep) :: tl, ∀ p ∈ news, q.1 ≠ p.1) →
      wpAny (model prog w) (lawA L fa cd) (execs (lawBody.drop 3) (lawEnv L fa cd)) Q E { s with heap := h', toks := tk, gens := s.gens ++ gx }) :
    wpAny (model prog w) (lawA L fa cd) (execs (lawBody.drop 2) (lawEnv L fa cd)) Q E s := by
  refine wpAny_execs_cons ?_
  iterate 4 walk1
  refine PyProof.Rows.spliced_more ?_
  iterate 3 walk1
  refine PyProof.Rows.spliced_more (nameX_L F hmG (PyProof.Rows.spliced_none ⟨X.keeps F.keep, ?_⟩))
  refine text_tell G rows hlen hrl _ _ _ _ _ _ _ _ _ _ _ _ _ _ _ _ _ _ B F X N T rfl hG ?_ ?_ (fun v tl h₂ tk₂ gx F₂ N₂ hgx hv => ?_)
  · show 1 + claimMargin + 1 + 1 < recursionLimit
    decide
  · show 4 + 3 + 8 < cLine
    decide
  refine elA_2 ?_ hv
  clear hv
  intro e0__ hy2__
  refine elE_2 hy2__ fun x tx => elA_2 ?_
  clear hy2__
  intro e1__ hx
  subst e0__
  subst e1__
  dsimp only
  refine PyProof.Rows.spliced_none ⟨X.keeps F₂.keep, ?_⟩
  have hx' : cs x = txt (toks rows) := by rw [hx, txt_toks]
  refine points_tell x tx (toks rows) (good_toks rows hgood) hx' (by rw [size_cs, hx]; exact hlen) (by rw [outs_toks]; exact hdl) _ _ _ _ _ _ _ _ _ _ _ _ _ _ _ _ _ _ B F₂ X N₂ T rfl trivial ?_ ?_ (fun v tl h₃ tk₃ gx₃ F₃ N₃ hgx₃ hv => ?_)
  · show 1 + claimMargin + 1 + 5 < recursionLimit
    decide
  · show 4 + 3 + 40 < cLine
    decide
  refine elE_4 hv fun P items e tl' => elA_5 ?_
  clear hv
  intro e0__ e1__ hda hfr hPn
  subst e0__
  subst e1__
  dsimp only
  rw [outs_toks] at hda
  refine storeX_L F₃ N₃ fun h₄ F₄ N₄ => ?_
  dsimp only
  rw [Array.append_assoc]
  exact next h₄ _ _ P items e tl' (gx_app hgx hgx₃) F₄ (News_mono N₄ fun q hq => by simpa using hq) hda fun q hq p hp => hfr q hq p (by simpa using hp)
end
end Mine
end

section
open PySem PySem.W PyProof.Rows PySem.Calls
set_option Elab.async false
set_option maxRecDepth 100000
set_option maxHeartbeats 2000000
namespace Mine

theorem fillEa : (fun (_ : OpenLaw) (_ : Params → Frag) => True) PySem.Challenge.rw_wa0010_01 hd.heap_39 := by
  k_fill
  exact trivial

section
variable {prog : Program} {w : World} {p : Program} {loose : List Str} {mean : ExcName → Option Value} {mg mb : Str → Option Value} {fa : Nat} {L : Addr} {cd : Value} {h₀ : Heap} {m : Str → Option Value} {s : Shared} {Q : Flow → Shared → Prop} {E : Value → Shared → Prop} {news : List (Addr × Obj)}

theorem seg_numbers {l : Addr} {vs : List Value} {ns : List Int} (X : Frag.In (hd.heap_39 w.params) h₀) (T : Top p loose mean mg mb h₀) (F : Fr h₀ L s.heap m)
    (N : News h₀ L s.heap news) (hm : m (Str.ofString "script") = some (.ref l)) (hl : h₀.IsList l vs.toArray) (hI : IntsAre vs ns) (h63 : vs.length ≤ 63)
    (next : ∀ h' tk S sv e, Fr h₀ L h' (fun y => if y = Str.ofString "numbers" then some (.ref S) else m y) → News h₀ L h' ((S, listOf (sv : List Value).toArray e) :: news) → (∀ q ∈ news, @LT.lt Nat _ q.1 S) →
      IntsAre sv (ns.take 4 ++ ([14, 4, 19] : List Int).drop ns.length) →
      wpAny (model prog w) (lawA L fa cd) (execs (lawBody.drop 1) (lawEnv L fa cd)) Q E { s with heap := h', toks := tk }) :
    wpAny (model prog w) (lawA L fa cd) (execs (lawBody.drop 0) (lawEnv L fa cd)) Q E s := by
  refine wpAny_execs_cons (wpAny_Assign_Name (wpAny_BinOp ?_))
  walk1
  refine nameX_L F hm ?_
  iterate 3 walk1
  refine wpAny_Constant_int ?_
  walk1
  refine' kmk_slice_lit (its := vs.toArray) (lo := none) (hi := some 4) (s := ⟨_, _, _, _, _⟩) F N (F.lst hl) .none ?p rfl ?_ ?s ?t ?z
  case p => exact IsPart.int _ _
  case s => with_unfolding_all rfl
  case t => intro _; with_unfolding_all rfl
  case z =>
    have : 3000 ≤ sizeLine := by decide
    simp
    lia
  intro R h₃ F₃ N₃ hR
  dsimp only
  refine PyProof.Rows.Subscript_ (PyProof.Rows.List_ (PyProof.Rows.spliced_more (wpAny_Constant_int (PyProof.Rows.spliced_more (wpAny_Constant_int (PyProof.Rows.spliced_more (wpAny_Constant_int (PyProof.Rows.spliced_none ?_))))))))
  refine newList_K F₃ N₃ fun W h₄ F₄ N₄ hW => ?_
  dsimp only
  iterate 5 walk1
  have hvn := hI.length
  refine PyProof.Rows.spliced_more (nameX_L F₄ hm (PyProof.Rows.spliced_none ?_))
  refine PyProof.Rows.len_list (F₄.lst hl) (by simp; lia) ?_
  iterate 3 walk1
  refine' kmk_slice_lit (its := [Value.int 14 (s.toks + 1), Value.int 4 (s.toks + 1 + 1), Value.int 19 (s.toks + 1 + 1 + 1)].toArray) (lo := some (vs.toArray.size : Nat)) (hi := none) (s := ⟨_, _, _, _, _⟩) F₄ N₄ (N₄.isList (.head _)) ?p2 .none rfl ?_ ?s2 ?t2 ?z2
  case p2 => exact IsPart.int _ _
  case s2 => with_unfolding_all rfl
  case t2 => intro _; with_unfolding_all rfl
  case z2 =>
    have : 3000 ≤ sizeLine := by decide
    simp
    lia
  intro V h₅ F₅ N₅ hV
  dsimp only
  have i1 : IntsAre (slicePick vs.toArray none (some 4) none).toList (ns.take 4) := kmk_upto hI (by decide)
  have i2 : IntsAre (slicePick [Value.int 14 (s.toks + 1), Value.int 4 (s.toks + 1 + 1), Value.int 19 (s.toks + 1 + 1 + 1)].toArray (some (vs.toArray.size : Nat)) none none).toList (([14, 4, 19] : List Int).drop ns.length) := by
    have := kmk_from (x := ((vs.toArray.size : Nat) : Int)) (IntsAre.cons 14 (s.toks + 1) (IntsAre.cons 4 (s.toks + 1 + 1) (IntsAre.cons 19 (s.toks + 1 + 1 + 1) IntsAre.nil))) (by lia)
    rw [show ((vs.toArray.size : Nat) : Int).toNat = ns.length by simp; lia] at this
    exact this
  refine add_lists_ints F₅ N₅ (N₅.isList (.tail _ (.tail _ (.head _)))) (N₅.isList (.head _)) i1 i2 (fun h₆ F₆ N₆ i3 => ?_) ?_
  · dsimp only
    refine storeX_L F₆ N₆ fun h₇ F₇ N₇ => ?_
    refine next h₇ _ _ _ 0 F₇ (News_mono N₇ fun q hq => ?_) (fun q hq => ?_) i3
    · rcases List.mem_cons.mp hq with h | h
      · rw [h]; exact .head _
      · exact .tail _ (.tail _ (.tail _ (.tail _ h)))
    · exact Heap.lt_size (N₅ q (.tail _ (.tail _ (.tail _ hq)))).1
  · have : 3000 ≤ sizeLine := by decide
    rw [List.length_take, List.length_drop]
    simp only [List.length_cons, List.length_nil]
    lia
end
end Mine
end

section
open PySem PySem.W PyProof.Rows PySem.Calls
set_option Elab.async false
set_option maxRecDepth 100000
set_option maxHeartbeats 2000000
namespace Mine

structure ApartK (D C K It : Addr) (rest : List (Addr × Obj)) : Prop where
  dc : D ≠ C
  dk : D ≠ K
  di : D ≠ It
  ck : C ≠ K
  ci : C ≠ It
  ki : K ≠ It
  rest : ∀ q ∈ rest, q.1 ≠ D ∧ q.1 ≠ C ∧ q.1 ≠ K ∧ q.1 ≠ It

section
variable {prog : Program} {w : World} {A : Around} {E : Value → Shared → Prop} {s : Shared} {env : Env}

theorem assign_comp {elt target iter : Expr} {ifs : List Expr} {gs : List Comprehension} {scope : Scope} {cl : List (Str × Addr)} {pos spos py : Pos} {y : Str} {Q : Flow → Shared → Prop}
    (hsw : swapsWith (.ListComp elt (⟨target, iter, ifs, 0⟩ :: gs) scope pos) (some (.Name y py)) spos.line env = pure true) (hs : ∀ x, foldedSetIterable iter env x = pure x) (hclos : closureFor scope env = pure cl)
    (hkind : scope.kind = .function) (hnames : ∀ x ∈ scope.names, x.2 = .local → scope.names.lookup x.1 = some .local)
    (h : wpAny (model prog w) A (eval iter env) (fun x s₁ => wpAny (model prog w) A (pyIter x) (fun it s₂ => wpAny (model prog w) A (newList []) (fun acc s₃ =>
      wpAny (model prog w) A (newFunctionEnv scope env.globals cl [] env.qual none .none (some env)) (fun cenv s₄ =>
        codeAny (model prog w) A (.compStart (.ListComp elt (⟨target, iter, ifs, 0⟩ :: gs) scope pos) 0 it acc { cenv with scope := relabel scope env }) (compPost (model prog w) A E (some (assign (.Name y py) env)) (fun _ s' => Q .next s') acc cenv.locals) s₄) E s₃) E s₂) E s₁) E s) :
    wpAny (model prog w) A (exec (.Assign [.Name y py] (.ListComp elt (⟨target, iter, ifs, 0⟩ :: gs) scope pos) spos) env) Q E s := by
  rw [exec_Assign_Name_used _ _ _ _ hsw]
  refine wpAny_bind (wpAny_standAt (wpAny_bind ?_))
  show wpAny _ A (do let _ ← comprehension (.ListComp elt (⟨target, iter, ifs, 0⟩ :: gs) scope pos) scope env _ (newList []) false (eval iter env) (some (assign (.Name y py) env))) _ _ s
  exact wpAny_bind (wpAny_mono (wpAny_comprehension_free (use := some (assign (.Name y py) env)) (Q := fun _ s' => Q .next s') rfl hs hclos hkind hnames h) (fun _ s' hq => wpAny_pure (wpAny_pure hq)) fun _ _ e => e)

theorem comp_tailC {hb : Heap} {L : Addr} {m : Str → Option Value} {news : List (Addr × Obj)} {It : Addr} {St : Nat → Obj → Prop} {oI : Obj} {n : Nat} {item : Nat → Tok → Value} {side : List (Addr × Obj)}
    {elt target iter : Expr} {scope : Scope} {pos : Pos} {cl : List (Str × Addr)} {RR : Value → Addr → Result → Shared → Prop} {a b c : Str} {k1 k3 : NameKind}
    (F : Fr hb L s.heap m) (N : News hb L s.heap ((It, oI) :: news)) (hne : ∀ q ∈ news, q.1 ≠ It) (nx : Nexts prog w A It St n item side) (h0 : St 0 oI) (hside : ∀ p ∈ side, p ∈ news) (hsz : n ≤ 1000)
    (hn : scope.names = [(a, k1), (b, .cell), (c, k3)]) (hk1 : k1 ≠ .cell) (hk3 : k3 ≠ .cell) (hkind : scope.kind = .function)
    (hself : ∀ s' oI', s'.heap.get? It = some oI' → St 0 oI' → ∀ (Q : Value → Shared → Prop) (E : Value → Shared → Prop), Q (.ref It) s' → wpAny (model prog w) A (pyIter (.ref It)) Q E s')
    (J : Nat → List Value → List (Addr × Obj) → Prop) (hJ : J 0 [] [])
    (turn : ∀ i vs tl h tk gx oC oI oK C D K mC vK tk0, i < n → J i vs tl → Fr hb L h m → News hb L h ((D, listOf vs.toArray i) :: (C, oC) :: (K, oK) :: (It, oI) :: (tl ++ news)) → St (i + 1) oI → ApartK D C K It (tl ++ news) → (∀ q ∈ gx, q = GenState.finished) → NsO oC mC → oK.data = .cell vK → @LT.lt Nat _ It K →
      wpAny (model prog w) A (letOwnedTupleGo target (.ref It) (item i tk0)) (fun _ s₁ => wpAny (model prog w) A (assign target (compEnvC scope ((b, K) :: cl) C env) (item i tk0)) (fun _ s₂ => wpAny (model prog w) A (eval elt (compEnvC scope ((b, K) :: cl) C env)) (fun x s₃ =>
        ∃ h' tk' gx' oC' oK' vK' mC' tl', s₃ = { s with heap := h', toks := tk', gens := s.gens ++ gx' } ∧ (∀ q ∈ gx', q = GenState.finished) ∧ Fr hb L h' m ∧ News hb L h' ((D, listOf vs.toArray i) :: (C, oC') :: (K, oK') :: (It, oI) :: (tl' ++ news)) ∧ ApartK D C K It (tl' ++ news) ∧ NsO oC' mC' ∧ oK'.data = .cell vK' ∧ J (i + 1) (vs ++ [x]) tl')
        (fun _ _ => False) s₂) (fun _ _ => False) s₁) (fun _ _ => False) { s with heap := h, toks := tk, gens := s.gens ++ gx })
    (done : ∀ vs tl h tk gx D, J n vs tl → Fr hb L h m → News hb L h ((D, listOf vs.toArray n) :: (tl ++ news)) → (∀ q ∈ tl ++ news, q.1 ≠ D) → (∀ q ∈ gx, q = GenState.finished) → ∀ C, hb.get? C = none → C ≠ L → (∃ mC, h.Ns C mC) →
      (∀ q ∈ (D, listOf vs.toArray n) :: (tl ++ news), q.1 ≠ C) → RR (.ref D) C (.ok .next) { s with heap := h, toks := tk, gens := s.gens ++ gx }) :
    wpAny (model prog w) A (newList []) (fun acc s₃ => wpAny (model prog w) A (newFunctionEnv scope env.globals cl [] env.qual none .none (some env)) (fun cenv s₄ =>
      codeAny (model prog w) A (.compStart (.ListComp elt [⟨target, iter, [], 0⟩] scope pos) 0 (.ref It) acc { cenv with scope := relabel scope env }) (RR acc cenv.locals) s₄) E s₃) E s := by
  refine PyProof.Rows.newList_N F N fun h₁ F₁ N₁ => ?_
  have hIlt : It < s.heap.objs.size := Heap.lt_size (N _ (.head _)).1
  generalize hD : s.heap.objs.size = D at *
  have hDI : D ≠ It := fun e => by rw [e] at hIlt; exact Nat.lt_irrefl _ hIlt
  have hDr : ∀ q ∈ news, q.1 ≠ D := fun q hq => by
    have := Heap.lt_size (N q (.tail _ hq)).1
    rw [hD] at this
    exact Nat.ne_of_lt this
  refine newFunctionEnv_cell hkind hn hk1 hk3 ?_
  dsimp only
  have F₁' := F₁.push { cls := .type "dict", data := .dict #[] }
  have N₁' := PyProof.Rows.News.push F₁ N₁ { cls := .type "dict", data := .dict #[] }
  have F₂ := F₁'.push { cls := .type "cell", data := .cell none }
  have N₂' := PyProof.Rows.News.push F₁' N₁' { cls := .type "cell", data := .cell none }
  have hK : (h₁.push { cls := .type "dict", data := .dict #[] }).objs.size = h₁.objs.size + 1 := Heap.size_push ..
  rw [hK] at N₂'
  have hns : ((h₁.push { cls := .type "dict", data := .dict #[] }).push { cls := .type "cell", data := .cell none }).Ns h₁.objs.size (fun _ => none) :=
    (Heap.Ns.new h₁ (.type "dict")).keeps fun b o e => Heap.get?_push_of_some _ e
  have hlt₁ : ∀ q ∈ ((D, listOf ([] : List Value).toArray 0) :: (It, oI) :: news), q.1 < h₁.objs.size := fun q hq => Heap.lt_size (N₁ q hq).1
  generalize hC : h₁.objs.size = C at *
  generalize hH : (h₁.push { cls := .type "dict", data := .dict #[] }).push { cls := .type "cell", data := .cell none } = h₂ at *
  have hneC : ∀ q ∈ ((D, listOf ([] : List Value).toArray 0) :: (It, oI) :: news), q.1 ≠ C := fun q hq => Nat.ne_of_lt (hlt₁ q hq)
  have hneK : ∀ q ∈ ((D, listOf ([] : List Value).toArray 0) :: (It, oI) :: news), q.1 ≠ C + 1 := fun q hq => Nat.ne_of_lt (Nat.lt_succ_of_lt (hlt₁ q hq))
  have hIK : @LT.lt Nat _ It (C + 1) := Nat.lt_succ_of_lt (hlt₁ _ (.tail _ (.head _)))
  have N₂ : News hb L h₂ ((D, listOf ([] : List Value).toArray 0) :: (C, { cls := .type "dict", data := .dict #[] }) :: (C + 1, { cls := .type "cell", data := .cell none }) :: (It, oI) :: ([] ++ news)) := News_mono N₂' fun q hq => by
    simp only [List.mem_cons, List.nil_append] at hq ⊢
    rcases hq with h | h | h | h | h
    · exact .inr (.inr (.inl h))
    · exact .inr (.inl h)
    · exact .inl h
    · exact .inr (.inr (.inr (.inl h)))
    · exact .inr (.inr (.inr (.inr h)))
  have hNsC : NsO { cls := .type "dict", data := .dict #[] } (fun _ => none) := by
    obtain ⟨o, ho, hx⟩ := NsO.of hns
    have := (N₂ _ (.tail _ (.head _))).1
    rw [ho] at this
    cases this
    exact hx
  have hap : ApartK D C (C + 1) It ([] ++ news) := ⟨hneC _ (.head _), hneK _ (.head _), hDI, Nat.ne_of_lt (Nat.lt_succ_self _), Ne.symm (hneC _ (.tail _ (.head _))), Ne.symm (hneK _ (.tail _ (.head _))),
    fun q hq => (inA_4 (hDr q hq) (hneC q (.tail _ (.tail _ hq))) (hneK q (.tail _ (.tail _ hq))) (hne q hq))⟩
  have loop : codeAny (model prog w) A (.compLoop (.ListComp elt [⟨target, iter, [], 0⟩] scope pos) 0 (.ref It) (.ref D) (compEnvC scope ((b, C + 1) :: cl) C env)) (RR (.ref D) C) { s with heap := h₂ } := by
    refine codeAny_compLoop_any
      (fun k s' => ∃ H tk gx vs tl oC mC oK vK oI i, s' = { s with heap := H, toks := tk, gens := s.gens ++ gx } ∧ (∀ q ∈ gx, q = GenState.finished) ∧ Fr hb L H m ∧ News hb L H ((D, listOf vs.toArray i) :: (C, oC) :: (C + 1, oK) :: (It, oI) :: (tl ++ news)) ∧ ApartK D C (C + 1) It (tl ++ news) ∧ NsO oC mC ∧ oK.data = .cell vK ∧ St i oI ∧ J i vs tl ∧ i ≤ n ∧ vs.length = i ∧ k = n - i)
      ?_ n (inE_11 h₂ (s.toks) (#[]) ([]) ([]) _ _ _ none oI 0 (inA_12 (by simp) (by simp) F₂ N₂ hap hNsC rfl h0 hJ (Nat.zero_le _) rfl rfl))
    rintro k s' hx0__
    refine elE_11 hx0__ fun H tk gx vs tl oC mC oK vK oI i => elA_12 ?_
    clear hx0__
    intro e0__ hgx F' N' hap hC' hKd hst hJ' hi hvl e1__
    subst e0__
    subst e1__
    have hIt := N' (It, oI) (.tail _ (.tail _ (.tail _ (.head _))))
    have hsd : ∀ p ∈ side, H.get? p.1 = some p.2 := fun p hp => (N' p (.tail _ (.tail _ (.tail _ (.tail _ (List.mem_append_right _ (hside p hp))))))).1
    by_cases hlt : i < n
    · refine nx.next i oI _ _ _ hlt hIt.1 hst hsd fun h₃ oI' tk₃ ho₃ hst₃ hs₃ => ?_
      dsimp only at hs₃ ⊢
      have F₃ : Fr hb L h₃ m := F'.change hs₃ hIt.2.1 hIt.2.2
      have N₃ : News hb L h₃ ((D, listOf vs.toArray i) :: (C, oC) :: (C + 1, oK) :: (It, oI') :: (tl ++ news)) := fun q hq => by
        rcases List.mem_cons.mp hq with rfl | hq
        · have x := N' (D, listOf vs.toArray i) (.head _)
          exact ⟨(hs₃.2 _ hap.di).trans x.1, x.2⟩
        · rcases List.mem_cons.mp hq with rfl | hq
          · have x := N' (C, oC) (.tail _ (.head _))
            exact ⟨(hs₃.2 _ hap.ci).trans x.1, x.2⟩
          · rcases List.mem_cons.mp hq with rfl | hq
            · have x := N' (C + 1, oK) (.tail _ (.tail _ (.head _)))
              exact ⟨(hs₃.2 _ hap.ki).trans x.1, x.2⟩
            · rcases List.mem_cons.mp hq with rfl | hq
              · exact ⟨ho₃, hIt.2⟩
              · have x := N' q (.tail _ (.tail _ (.tail _ (.tail _ hq))))
                exact ⟨(hs₃.2 _ (hap.rest q hq).2.2.2).trans x.1, x.2⟩
      refine wpAny_mono (turn i vs tl h₃ tk₃ gx oC oI' oK C D (C + 1) mC vK tk hlt hJ' F₃ N₃ hst₃ hap hgx hC' hKd hIK) (fun _ s₄ h₄ => ?_) (fun _ _ x => x.elim)
      refine wpAny_mono h₄ (fun _ s₅ h₅ => ?_) (fun _ _ x => x.elim)
      refine wpAny_mono h₅ (fun x s₆ h₆ => ?_) (fun _ _ x => x.elim)
      refine elE_8 h₆ fun h' tk' gx' oC' oK' vK' mC' tl' => elA_8 ?_
      clear h₆
      intro e0__ hgx' F₆ N₆ hap' hC'' hKd' hJ''
      subst e0__
      refine append_K F₆ N₆ (Upd.head (fun q hq => ?_)) (fun h₇ F₇ N₇ => ?_) (by
        show vs.toArray.size ≤ sizeLine
        rw [List.size_toArray, hvl]
        exact Nat.le_trans (Nat.le_of_lt hlt) (Nat.le_trans hsz (by decide)))
      · rcases List.mem_cons.mp hq with rfl | hq
        · exact Ne.symm hap'.dc
        · rcases List.mem_cons.mp hq with rfl | hq
          · exact Ne.symm hap'.dk
          · rcases List.mem_cons.mp hq with rfl | hq
            · exact Ne.symm hap'.di
            · exact (hap'.rest q hq).1
      · have ea : vs.toArray.push x = (vs ++ [x]).toArray := by simp
        rw [ea] at N₇
        exact (inE_1 (n - (i + 1)) (inA_2 (by omega) (inE_11 h₇ tk' gx' (vs ++ [x]) tl' oC' mC' oK' vK' oI' (i + 1) (inA_12 rfl hgx' F₇ N₇ hap' hC'' hKd' hst₃ hJ'' (by omega) (by simp [hvl]) rfl))))
    · obtain rfl : i = n := by omega
      refine nx.stop oI _ _ _ hIt.1 hst hsd fun h₃ hk₃ => ?_
      dsimp only at hk₃ ⊢
      have F₃ : Fr hb L h₃ m := Fr_but F' hk₃ hIt.2.1 hIt.2.2
      have hND := N' (D, listOf vs.toArray i) (.head _)
      have hNC := N' (C, oC) (.tail _ (.head _))
      refine done vs tl h₃ tk gx D hJ' F₃ (fun q hq => ?_) (fun q hq => (hap.rest q hq).1) hgx C hNC.2.2 hNC.2.1 ⟨mC, hC'.ns (hk₃ _ _ hap.ci hNC.1)⟩ (fun q hq => ?_)
      · rcases List.mem_cons.mp hq with rfl | hq
        · exact ⟨hk₃ _ _ hap.di hND.1, hND.2⟩
        · have x := N' q (.tail _ (.tail _ (.tail _ (.tail _ hq))))
          exact ⟨hk₃ _ _ (hap.rest q hq).2.2.2 x.1, x.2⟩
      · rcases List.mem_cons.mp hq with rfl | hq
        · exact hap.dc
        · exact (hap.rest q hq).2.1
  exact codeAny_compStart_list loop (hself _ oI (N₂ _ (.tail _ (.tail _ (.tail _ (.head _))))).1 h0 _ _ loop)

/-- a store into the block's own cell -/
theorem storeC_comp {hb : Heap} {L : Addr} {m : Str → Option Value} {x : Str} {v : Value} {vK : Option Value} {scope : Scope} {cl : List (Str × Addr)} {C K : Addr} {oK : Obj} {pre post : List (Addr × Obj)} {Q : Unit → Shared → Prop}
    (F : Fr hb L s.heap m) (N : News hb L s.heap (pre ++ (K, oK) :: post)) (hd : oK.data = .cell vK) (h1 : ∀ q ∈ pre, q.1 ≠ K) (h2 : ∀ q ∈ post, q.1 ≠ K) (hc : cl.lookup x = some K)
    (h : ∀ h' oK', Fr hb L h' m → News hb L h' (pre ++ (K, oK') :: post) → oK'.data = .cell (some v) → Q () { s with heap := h' })
    (hk : scope.kind = .function := by rfl) (hx : (compEnvC scope cl C env).kindOf x = some .cell := by rfl) : wpAny (model prog w) A (storeName (compEnvC scope cl C env) x v) Q E s := by
  have hmem := N (K, oK) (List.mem_append_right _ (.head _))
  refine wpAny_storeName_cell hk hx hc ⟨oK, hmem.1, hd⟩ fun h' hv hs => ?_
  obtain ⟨o', ho', hd'⟩ := hv
  replace hs : Heap.SameBut K s.heap h' := hs
  exact h h' o' (F.change hs hmem.2.1 hmem.2.2) (news_set N h1 h2 hs ho') hd'
end
end Mine
end

section
open PySem PySem.W PyProof.Rows PySem.Calls
set_option Elab.async false
set_option maxRecDepth 100000
set_option maxHeartbeats 2000000
namespace Mine

theorem fillEb : (fun (_ : OpenLaw) (_ : Params → Frag) => True) PySem.Challenge.rw_wa0010_01 hd.heap_39 := by
  k_fill
  exact trivial

def nameNo (c : Int) : List Nat := if c = 0 then [97] else if c = 1 then [41] else if c = 2 then [40] else [98, 41]
def legName (v : Int) (j : Nat) : List Nat := nameNo (((v.fdiv 3).fdiv (4 ^ j)).fmod 4)
def legRow (v : Int) : List (List Nat) := (List.range (v.fmod 3).toNat).map (legName v)

theorem nameNo_pick (c : Int) (h0 : 0 ≤ c) (h4 : c < 4) (t1 t2 t3 t4 : Tok) : ∃ t, [Value.str (Str.ofString "a") t1, Value.str (Str.ofString ")") t2, Value.str (Str.ofString "(") t3, Value.str (Str.ofString "b)") t4][c.toNat]? = some (.str ⟨(nameNo c).toArray⟩ t) := by
  have e1 : Str.ofString "a" = ⟨#[97]⟩ := by decide +kernel
  have e2 : Str.ofString ")" = ⟨#[41]⟩ := by decide +kernel
  have e3 : Str.ofString "(" = ⟨#[40]⟩ := by decide +kernel
  have e4 : Str.ofString "b)" = ⟨#[98, 41]⟩ := by decide +kernel
  rw [e1, e2, e3, e4]
  have hc : c = 0 ∨ c = 1 ∨ c = 2 ∨ c = 3 := by lia
  rcases hc with rfl | rfl | rfl | rfl
  · exact ⟨t1, rfl⟩
  · exact ⟨t2, rfl⟩
  · exact ⟨t3, rfl⟩
  · exact ⟨t4, rfl⟩

section
variable {prog : Program} {w : World} {p : Program} {loose : List Str} {mean : ExcName → Option Value} {mg mb : Str → Option Value} {fa : Nat} {L : Addr} {cd : Value} {h₀ : Heap} {m : Str → Option Value} {s : Shared} {Q : Flow → Shared → Prop} {E : Value → Shared → Prop} {news : List (Addr × Obj)}

theorem seg_legs {S : Addr} {sv : List Value} {e : Nat} {ns : List Int} (X : Frag.In (hd.heap_39 w.params) h₀) (T : Top p loose mean mg mb h₀) (F : Fr h₀ L s.heap m)
    (N : News h₀ L s.heap news) (hm : m (Str.ofString "numbers") = some (.ref S)) (hS : (S, listOf sv.toArray e) ∈ news) (hI : IntsAre sv ns) (h10 : sv.length ≤ 10)
    (next : ∀ h' tk gx G gv eg tl, (∀ q ∈ gx, q = GenState.finished) → Fr h₀ L h' (fun y => if y = Str.ofString "legs" then some (.ref G) else m y) → News h₀ L h' ((G, listOf (gv : List Value).toArray eg) :: (tl ++ news)) → (∀ q ∈ (G, listOf gv.toArray eg) :: tl, ∀ p ∈ news, q.1 ≠ p.1) →
      DatAll tl gv ((ns.map legRow).map rowD) →
      wpAny (model prog w) (lawA L fa cd) (execs (lawBody.drop 2) (lawEnv L fa cd)) Q E { s with heap := h', toks := tk, gens := s.gens ++ gx }) :
    wpAny (model prog w) (lawA L fa cd) (execs (lawBody.drop 1) (lawEnv L fa cd)) Q E s := by
  have hvn := hI.length
  refine wpAny_execs_cons ?_
  refine assign_comp (cl := []) (by rfl) (by intro _; rfl) (by rfl) rfl (by decide) ?_
  refine nameX_L F hm ?_
  refine iter_list F N hS fun It io h₁ hst₁ F₁ N₁ hIt => ?_
  refine comp_tailC (L := L) (It := It) (St := StList S) (n := sv.length) (item := fun j _ => sv.getD j .none) (side := [(S, listOf sv.toArray e)]) F₁ N₁ (fun q hq => Nat.ne_of_lt (hIt q hq)) (nexts_list rfl rfl rfl) hst₁
    (by intro q hq; rw [List.mem_singleton.mp hq]; exact hS) (by lia) rfl (by decide) (by decide) rfl (fun s' oI' ho hst Q E hq => wpAny_pyIter_listiter ⟨oI', ho, hst⟩ hq)
    (fun j vs tlc => DatAll tlc vs (((ns.map legRow).take j).map rowD) ∧ (∀ q ∈ tlc, ∀ p ∈ news, q.1 ≠ p.1) ∧ vs.length = j) ⟨.nil, by simp, rfl⟩ ?turn ?done
  case done =>
    rintro vs tlc hc tkc gxc D ⟨hdc, htc, hvj⟩ Fc Nc hDne hgxc C hC0 hCL hCns hCne
    rw [List.take_of_length_le (by simp; lia)] at hdc
    obtain ⟨mC, hmC⟩ := hCns
    show wpAny _ _ (assign (.Name _ _) _ _) _ _ _
    obtain ⟨oC, hoC, hNC⟩ := NsO.of hmC
    have NcC : News h₀ L hc ((C, oC) :: (D, listOf vs.toArray sv.length) :: (tlc ++ news)) := fun q hq => by
      rcases List.mem_cons.mp hq with rfl | hq
      · exact ⟨hoC, hCL, hC0⟩
      · exact Nc q hq
    refine wpAny_assign_Name (storeX_L Fc NcC fun h₂ F₂ N₂ => ?_)
    dsimp only
    refine ⟨mC, hNC.ns (N₂ (C, oC) (.head _)).1, fun h₃ hs₃ => ?_⟩
    replace hs₃ : Heap.SameBut C h₂ h₃ := hs₃
    have F₃ := F₂.change hs₃ hCL hC0
    have N₃ := News_but (News_mono N₂ fun q hq => .tail _ hq) hs₃ hCne
    exact next h₃ _ gxc D vs _ tlc hgxc F₃ N₃ (List.forall_mem_cons.mpr ⟨fun p hp => Ne.symm (hDne p (List.mem_append_right _ hp)), htc⟩) hdc
  case turn =>
    rintro i vs tl h tk gx oC oI oK C D K mC vK tk0 hi ⟨hdd, htl, hvi⟩ F₂ N₂ hst₂ hap hgx hNs hK hIK
    have hin : i < ns.length := by lia
    obtain ⟨tv, hv⟩ := hI.get i ns[i] (List.getElem?_eq_getElem hin)
    have hg : sv.getD i .none = .int ns[i] tv := by rw [List.getD_eq_getElem?_getD, hv]; rfl
    rw [hg]
    refine wpAny_pure ?_
    refine wpAny_assign_Name (storeC_comp (pre := [(D, listOf vs.toArray i), (C, oC)]) F₂ N₂ hK ?_ ?_ (by rfl) fun h₃ oK₃ F₃ N₃ hK₃ => ?_)
    · exact List.forall_mem_cons.mpr ⟨hap.dk, List.forall_mem_singleton.mpr hap.ck⟩
    · exact List.forall_mem_cons.mpr ⟨Ne.symm hap.ki, fun q hq => (hap.rest q hq).2.2.1⟩
    dsimp only
    rw [eval_ListComp]
    refine wpAny_comprehension_free (cl := [(Str.ofString "v", K)]) rfl (by intro _; rfl) (by rfl) rfl (by decide) ?_
    change wpAny _ _ (eval _ _) _ _ _
    have hKm : (K, oK₃) ∈ [(D, listOf vs.toArray i), (C, oC)] ++ (K, oK₃) :: (It, oI) :: (tl ++ news) := .tail _ (.tail _ (.head _))
    refine PyProof.Rows.Call_ ?_
    refine nameB_comp F₃ X T (by rfl) boot_range ?_
    walk1
    refine PyProof.Rows.spliced_more (wpAny_BinOp (wpAny_Name (wpAny_loadName_cell rfl (by rfl) (by rfl) ⟨oK₃, N₃.get hKm, hK₃⟩ (wpAny_Constant_int (PyProof.Rows.mod_int (by decide) ?_))) (by decide)))
    refine PyProof.Rows.spliced_none ?_
    dsimp only
    refine range1_rows F₃ N₃ fun h₄ tk₄ t₄ u₄ v₄ hr₄ F₄ N₄ _ => ?_
    have hn0 : 0 ≤ ns[i].fmod 3 := Int.fmod_nonneg_of_pos _ (by decide)
    have hn3 : ns[i].fmod 3 < 3 := Int.fmod_lt_of_pos _ (by decide)
    refine iter_range (n := (ns[i].fmod 3).toNat) F₄ N₄ hr₄ (by lia) (by decide) (by decide) (by lia) fun I2 o2 h₅ hst₅ F₅ N₅ hI2 => ?_
    dsimp only
    obtain ⟨B, hB⟩ : ∃ B, B = [(D, listOf vs.toArray i), (C, oC)] ++ (K, oK₃) :: (It, oI) :: (tl ++ news) := ⟨_, rfl⟩
    rw [← hB] at N₅ hI2 hKm
    have hw : ∀ c : Int, 0 ≤ c.fmod 4 ∧ c.fmod 4 < 4 := fun c => ⟨Int.fmod_nonneg_of_pos _ (by decide), Int.fmod_lt_of_pos _ (by decide)⟩
    generalize hv' : ns[i] = v at *
    refine comp_tail (L := L) (It := I2) (St := StRange (v.fmod 3).toNat 0) (n := (v.fmod 3).toNat) (item := fun i tk => .int (0 + (i : Nat)) tk) (side := []) F₅ N₅ (fun q hq => Nat.ne_of_lt (hI2 q hq)) (nexts_range rfl) hst₅
      (by simp) (by lia) (by decide) rfl (fun s' oI' ho hst Q E hq => self_range hst s' ho Q E hq)
      (fun j ws tlc => tlc = [] ∧ DatAll [] ws (((List.range j).map (legName v)).map fun n => .str ⟨n.toArray⟩) ∧ ws.length = j) ⟨rfl, .nil, rfl⟩ ?cturn ?cdone
    case cturn =>
      rintro j ws tlc hc tkc gxc oC2 o2' C2 D2 mC2 tk0 hj ⟨rfl, hdc, hwj⟩ Fc Nc hstc hapc hgxc hNs2
      rw [Int.zero_add]
      refine wpAny_pure ?_
      refine wpAny_assign_Name (store_comp (pre := [(D2, listOf ws.toArray j)]) Fc Nc hNs2 (List.forall_mem_singleton.mpr hapc.dc) (List.forall_mem_cons.mpr ⟨Ne.symm hapc.ci, fun q hq => (hapc.rest q hq).2.1⟩) fun h₆ oC₆ F₆ N₆ hC₆ => ?_)
      dsimp only
      refine PyProof.Rows.Subscript_ (PyProof.Rows.List_ (PyProof.Rows.spliced_more (wpAny_Constant_str (PyProof.Rows.spliced_more (wpAny_Constant_str (PyProof.Rows.spliced_more (wpAny_Constant_str (PyProof.Rows.spliced_more (wpAny_Constant_str (PyProof.Rows.spliced_none ?_))))))))))
      refine newList_K F₆ N₆ fun V h₇ F₇ N₇ hV => ?_
      dsimp only
      refine wpAny_BinOp (wpAny_BinOp (wpAny_BinOp (wpAny_Name (wpAny_loadName_cell rfl (by rfl) (by rfl) ⟨oK₃, N₇.get (.tail _ (.tail _ (.tail _ (.tail _ hKm)))), hK₃⟩ (wpAny_Constant_int ?_)) (by decide))))
      refine PyProof.Rows.floordiv_int (by decide) ?_
      refine wpAny_BinOp (wpAny_Constant_int (load_comp (N₇ (C2, oC₆) (.tail _ (.tail _ (.head _)))).1 hC₆ (if_pos rfl) ?_))
      refine PyProof.Rows.pow_int_small (by lia) (by lia) (by decide) ?_
      have hj01 : j = 0 ∨ j = 1 := by lia
      refine PyProof.Rows.floordiv_int (hp := Or.inl ?hpl) ?hnz ?_
      case hpl => rcases hj01 with rfl | rfl <;> exact PyProof.noPylong_of_log2 (by decide +kernel)
      case hnz => rcases hj01 with rfl | rfl <;> decide
      refine wpAny_Constant_int ?_
      refine PyProof.Rows.mod_int (by decide) ?_
      dsimp only
      walk1
      rw [Int.toNat_natCast]
      obtain ⟨c0, c4⟩ := hw ((v.fdiv 3).fdiv (4 ^ j))
      obtain ⟨tn, hpick⟩ := nameNo_pick _ c0 c4 (tkc + 1) (tkc + 1 + 1) (tkc + 1 + 1 + 1) (tkc + 1 + 1 + 1 + 1)
      refine PyProof.Rows.item_listL (N₇.isList (.head _)) c0 (by lia) hpick ?_
      refine (inE_6 h₇ _ gxc oC₆ _ ([]) (inA_9 rfl hgxc F₇ (News_mono N₇ fun q hq => .tail _ hq) hapc hC₆ rfl ?_ (by simp [hwj])))
      rw [List.range_succ, List.map_append, List.map_append]
      exact hdc.append (.cons (.str _ _) .nil)
    case cdone =>
      rintro ws tlc hc tkc gxc D2 ⟨rfl, hdc, hwj⟩ Fc Nc hDne hgxc C2 hC0 hCL hCns hCne
      obtain ⟨mC2, hmC2⟩ := hCns
      refine ⟨mC2, hmC2, fun h₁₀ hs₁₀ => ?_⟩
      replace hs₁₀ : Heap.SameBut C2 hc h₁₀ := hs₁₀
      have F₁₀ := Fc.change hs₁₀ hCL hC0
      have N₁₀ := News_but Nc hs₁₀ hCne
      have hDB : ∀ q ∈ [(D, listOf vs.toArray i), (C, oC)] ++ (K, oK₃) :: (It, oI) :: (tl ++ news), q.1 ≠ D2 := fun q hq => hDne q (by rw [hB]; exact hq)
      refine (inE_8 h₁₀ tkc (gx ++ gxc) oC oK₃ _ mC ((D2, listOf ws.toArray (v.fmod 3).toNat) :: tl) (inA_10 ?_ (gx_app hgx hgxc) F₁₀ (News_mono N₁₀ fun q hq => ?_) ?_ hNs hK₃ ?_ ?_ (by simp [hvi])))
      · rw [Array.append_assoc]
      · rw [hB]
        simp only [List.mem_cons, List.cons_append, List.nil_append] at hq ⊢
        rcases hq with h | h | h | h | h | h
        · exact .inr (.inl h)
        · exact .inr (.inr (.inl h))
        · exact .inr (.inr (.inr (.inl h)))
        · exact .inr (.inr (.inr (.inr (.inl h))))
        · exact .inl h
        · exact .inr (.inr (.inr (.inr (.inr h))))
      · refine ⟨hap.dc, hap.dk, hap.di, hap.ck, hap.ci, hap.ki, List.forall_mem_cons.mpr ⟨(inA_4 ?_ ?_ ?_ ?_), hap.rest⟩⟩
        · exact Ne.symm (hDB _ (.head _))
        · exact Ne.symm (hDB _ (.tail _ (.head _)))
        · exact Ne.symm (hDB _ (.tail _ (.tail _ (.head _))))
        · exact Ne.symm (hDB _ (.tail _ (.tail _ (.tail _ (.head _)))))
      · rw [List.take_add_one, List.getElem?_map, List.getElem?_eq_getElem hin, hv', List.map_append]
        refine DatAll.append (hdd.mono fun q hq => .tail _ hq) (.cons ?_ .nil)
        refine .list (.head _) ?_
        exact hdc.mono (by simp)
      · refine List.forall_mem_cons.mpr ⟨fun p hp => Ne.symm (hDB p (.tail _ (.tail _ (.tail _ (.tail _ (List.mem_append_right _ hp)))))), htl⟩
end
end Mine
end

section
open PySem PySem.W PyProof.Rows PySem.Calls
set_option Elab.async false
set_option maxRecDepth 100000
set_option maxHeartbeats 2000000
namespace Mine

theorem nameNo_is (c : Int) : nameNo c = [97] ∨ nameNo c = [41] ∨ nameNo c = [40] ∨ nameNo c = [98, 41] := by
  unfold nameNo
  split
  · exact .inl rfl
  · split
    · exact .inr (.inl rfl)
    · split
      · exact .inr (.inr (.inl rfl))
      · exact .inr (.inr (.inr rfl))

structure NameOk (n : List Nat) : Prop where
  ne : n ≠ []
  len : n.length ≤ 2
  chr : ∀ c ∈ n, c < 128 ∧ c ≠ 92 ∧ c ≠ 34

theorem legRow_ok (v : Int) : (legRow v).length ≤ 2 ∧ ∀ n ∈ legRow v, NameOk n := by
  refine ⟨?_, fun n hn => ?_⟩
  · unfold legRow
    rw [List.length_map, List.length_range]
    have h1 := Int.fmod_nonneg_of_pos v (b := 3) (by decide)
    have h2 := Int.fmod_lt_of_pos v (b := 3) (by decide)
    lia
  · obtain ⟨j, _, rfl⟩ := List.mem_map.mp hn
    unfold legName
    rcases nameNo_is ((v.fdiv 3).fdiv (4 ^ j) |>.fmod 4) with h | h | h | h <;> rw [h] <;> exact ⟨by decide, by decide, by decide⟩

def RowsOk (rows : List (List (List Nat))) : Prop := ∀ row ∈ rows, row.length ≤ 2 ∧ ∀ n ∈ row, NameOk n

theorem rows_ok (ns : List Int) : RowsOk (ns.map legRow) := fun row hr => by
  obtain ⟨v, _, rfl⟩ := List.mem_map.mp hr
  exact legRow_ok v

theorem quos_len : ∀ (row : List (List Nat)), (∀ n ∈ row, NameOk n) → (row.flatMap quo).length ≤ 4 * row.length := by
  intro row
  induction row with
  | nil => intro _; simp
  | cons n row ih =>
    intro h
    have h1 := (h n (.head _)).len
    have h2 := ih fun m hm => h m (.tail _ hm)
    rw [List.flatMap_cons, List.length_append, List.length_cons]
    have h3 : (quo n).length = n.length + 2 := by simp [quo]
    lia

theorem TT_len : ∀ (rows : List (List (List Nat))), RowsOk rows → (TT rows).length ≤ 10 * rows.length := by
  intro rows
  induction rows with
  | nil => intro _; simp [TT]
  | cons row rows ih =>
    intro h
    have h1 := quos_len row (h row (.head _)).2
    have h2 := (h row (.head _)).1
    have h3 := ih fun r hr => h r (.tail _ hr)
    simp only [TT, List.length_cons, List.length_append, List.length_nil]
    lia

theorem due_shp : ∀ (rows : List (List (List Nat))) (d : Int), RowsOk rows → (dueOf d rows).map shp = dsh d (rows.map List.length) := by
  intro rows
  induction rows with
  | nil => intro d _; rfl
  | cons row rows ih =>
    intro d h
    have h3 := ih (d + 1) fun r hr => h r (.tail _ hr)
    rw [dueOf, List.map_cons, dsh, List.cons_append, List.map_cons, List.map_append, h3, List.map_map]
    congr 2
    have : ∀ n ∈ row, (shp ∘ fun n => (d + 1, n)) n = (d + 1, false) := fun n hn => by
      have := ((h row (.head _)).2 n hn).ne
      cases n with
      | nil => exact absurd rfl this
      | cons a b => rfl
    rw [List.map_congr_left this, List.map_const']

theorem dsh_len : ∀ (ks : List Nat) (d : Int), (dsh d ks).length = ks.length + ks.sum := by
  intro ks
  induction ks with
  | nil => intro d; rfl
  | cons k ks ih =>
    intro d
    rw [dsh, List.length_cons, List.length_append, ih, List.length_replicate, List.length_cons, List.sum_cons]
    lia

theorem mem_shapes : ∀ (ks : List Nat), (∀ k ∈ ks, k ≤ 2) → ks ∈ shapes ks.length := by
  intro ks
  induction ks with
  | nil => intro _; exact .head _
  | cons k ks ih =>
    intro h
    have h1 := h k (.head _)
    rw [List.length_cons, shapes]
    refine List.mem_flatMap.mpr ⟨k, ?_, List.mem_map.mpr ⟨ks, ih fun j hj => h j (.tail _ hj), rfl⟩⟩
    have : k = 0 ∨ k = 1 ∨ k = 2 := by lia
    rcases this with rfl | rfl | rfl <;> simp

theorem ok_of (ks : List Nat) (h : ∀ k ∈ ks, k ≤ 2) (hl : ks.length = 3 ∨ ks.length = 4) : okShape ks = true := by
  have hm := mem_shapes ks h
  rcases hl with hl | hl
  · rw [hl] at hm; exact List.all_eq_true.mp shapes3 ks hm
  · rw [hl] at hm; exact List.all_eq_true.mp shapes4 ks hm

theorem perm_of_sub {α : Type} [BEq α] [LawfulBEq α] : ∀ (a b : List α), a.Nodup → (∀ x ∈ a, x ∈ b) → b.length = a.length → b.Perm a := by
  intro a
  induction a with
  | nil =>
    intro b _ _ hl
    have : b = [] := List.length_eq_zero_iff.mp hl
    rw [this]
  | cons x a ih =>
    intro b hn hs hl
    have hx := hs x (.head _)
    obtain ⟨hxa, hna⟩ := List.nodup_cons.mp hn
    have hp := List.perm_cons_erase hx
    refine hp.trans (List.Perm.cons x (ih _ hna (fun y hy => ?_) ?_))
    · have hyx : y ≠ x := fun e => hxa (e ▸ hy)
      exact (List.mem_erase_of_ne hyx).mpr (hs y (.tail _ hy))
    · rw [List.length_erase_of_mem hx, hl]
      rfl

theorem dist_nat (l : Int × Int) (h1 : 0 ≤ l.1) (h2 : 0 ≤ l.2) : distL l = ((l.1.toNat - l.2.toNat + (l.2.toNat - l.1.toNat) : Nat) : Int) := by
  unfold distL
  split <;> lia

theorem ri_nat (n : Nat) : rangeInts 1 1 n = (List.range' 1 n).map Int.ofNat := by
  apply List.ext_getElem
  · simp [rangeInts]
  · intro i h1 h2
    simp [rangeInts]

def decK (ring k : Nat) : Int × Int := ((k / ring : Nat), (k % ring : Nat))

theorem decK_key (ring a b : Nat) (hb : b < ring) : decK ring (a * ring + b) = ((a : Int), (b : Int)) := by
  unfold decK
  have h1 : (a * ring + b) / ring = a := by
    rw [Nat.add_comm, Nat.add_mul_div_right _ _ (by lia), Nat.div_eq_of_lt hb, Nat.zero_add]
  have h2 : (a * ring + b) % ring = b := by
    rw [Nat.mul_comm, Nat.mul_add_mod, Nat.mod_eq_of_lt hb]
  rw [h1, h2]

theorem fmod_nat (a : Int) (t rg : Nat) (h : 0 ≤ a) : (a + (t : Int)).fmod (rg : Int) = (((a.toNat + t) % rg : Nat) : Int) := by
  rw [Int.fmod_eq_emod_of_nonneg _ (by lia), Int.natCast_emod]
  congr 1
  lia

theorem jkeys_dec (rg : Nat) (ls : List (Int × Int)) (hp : ∀ l ∈ ls, 0 ≤ l.1 ∧ 0 ≤ l.2) (h0 : 0 < rg) : (jkeys rg (ls.map fun l => (l.1.toNat, l.2.toNat))).map (decK rg) = joinedOf rg ls rg := by
  unfold jkeys joinedOf
  rw [List.map_flatMap]
  congr 1
  funext t
  unfold turnPairs
  rw [List.map_map, List.map_map]
  refine List.map_congr_left fun l hl => ?_
  obtain ⟨h1, h2⟩ := hp l hl
  have hb1 := Nat.mod_lt (l.1.toNat + t) h0
  have hb2 := Nat.mod_lt (l.2.toNat + t) h0
  show decK rg (Nat.min ((l.1.toNat + t) % rg) ((l.2.toNat + t) % rg) * rg + Nat.max ((l.1.toNat + t) % rg) ((l.2.toNat + t) % rg)) = _
  rw [fmod_nat _ _ _ h1, fmod_nat _ _ _ h2]
  generalize (l.1.toNat + t) % rg = a at *
  generalize (l.2.toNat + t) % rg = b at *
  have hm : Nat.max a b < rg := by
    show max a b < rg
    lia
  rw [decK_key _ _ _ hm]
  unfold srt
  dsimp only
  by_cases hab : a ≤ b
  · rw [if_pos (by lia), show Nat.min a b = a from Nat.min_eq_left hab, show Nat.max a b = b from Nat.max_eq_right hab]
  · rw [if_neg (by lia), show Nat.min a b = b from Nat.min_eq_right (by lia), show Nat.max a b = a from Nat.max_eq_left (by lia)]

theorem filterMap_eq {α β : Type} {f g : α → Option β} : ∀ {l : List α}, (∀ x ∈ l, f x = g x) → l.filterMap f = l.filterMap g := by
  intro l
  induction l with
  | nil => intro _; rfl
  | cons a l ih =>
    intro h
    rw [List.filterMap_cons, List.filterMap_cons, h a (.head _), ih fun x hx => h x (.tail _ hx)]
theorem flatMap_eq {α β : Type} {f g : α → List β} : ∀ {l : List α}, (∀ x ∈ l, f x = g x) → l.flatMap f = l.flatMap g := by
  intro l
  induction l with
  | nil => intro _; rfl
  | cons a l ih =>
    intro h
    rw [List.flatMap_cons, List.flatMap_cons, h a (.head _), ih fun x hx => h x (.tail _ hx)]

theorem filt_range (rg x : Nat) (f : Nat → Nat) (hx : x < rg) : ((List.range rg).filterMap fun y => if x < y then some (f y) else none) = (List.range' (x + 1) (rg - (x + 1))).map f := by
  have e : List.range rg = List.range' 0 (x + 1) ++ List.range' (x + 1) (rg - (x + 1)) := by
    rw [List.range_eq_range', show rg = (x + 1) + (rg - (x + 1)) by lia, ← List.range'_append_1]
    congr 2
    · lia
    · lia
  rw [e, List.filterMap_append]
  have h1 : (List.range' 0 (x + 1)).filterMap (fun y => if x < y then some (f y) else none) = [] := by
    rw [List.filterMap_eq_nil_iff]
    intro y hy
    have := List.mem_range'_1.mp hy
    rw [if_neg (by lia)]
  have h2 : (List.range' (x + 1) (rg - (x + 1))).filterMap (fun y => if x < y then some (f y) else none) = (List.range' (x + 1) (rg - (x + 1))).map f := by
    rw [← List.filterMap_eq_map]
    refine filterMap_eq fun y hy => ?_
    have := List.mem_range'_1.mp hy
    rw [if_pos (by lia)]
    rfl
  rw [h1, h2, List.nil_append]

theorem tkeys_dec (rg : Nat) : (tkeys rg).map (decK rg) = tri rg := by
  unfold tkeys tri
  rw [List.map_flatMap]
  refine flatMap_eq fun x hx => ?_
  have hx' := List.mem_range.mp hx
  rw [filt_range rg x _ hx', List.map_map]
  unfold triRow
  refine List.map_congr_left fun y hy => ?_
  have := List.mem_range'_1.mp hy
  exact decK_key rg x y (by lia)

theorem tkeys_nodup (rg : Nat) : (tkeys rg).Nodup := by
  have h := tri_sorted rg
  have : ((tkeys rg).map (decK rg)).Nodup := by
    rw [tkeys_dec]
    exact h.imp fun {a b} hab e => by rw [e] at hab; exact Int.lt_irrefl _ hab
  exact (List.pairwise_map.mp this).imp fun h e => h (by rw [e])

structure Facts (ks : List Nat) : Prop where
  sp : getI (linesOf (dsh 0 ks)).sp 0 = some 0
  len : (linesOf (dsh 0 ks)).lines.length + 1 = (dsh 0 ks).length
  dist : ((linesOf (dsh 0 ks)).lines.map distL).Perm (rangeInts 1 1 (linesOf (dsh 0 ks)).lines.length)
  join : (joinedOf (2 * (linesOf (dsh 0 ks)).lines.length + 1) (linesOf (dsh 0 ks)).lines (2 * (linesOf (dsh 0 ks)).lines.length + 1)).Perm (tri (2 * (linesOf (dsh 0 ks)).lines.length + 1))

theorem facts_of (ks : List Nat) (h : okShape ks = true) : Facts ks := by
  unfold okShape at h
  simp only [Bool.and_eq_true] at h
  obtain ⟨⟨⟨⟨⟨h1, h2⟩, h3⟩, h4⟩, h5⟩, h6⟩ := h
  have hpos : ∀ l ∈ (linesOf (dsh 0 ks)).lines, 0 ≤ l.1 ∧ 0 ≤ l.2 := fun l hl => by
    have := List.all_eq_true.mp h2 l hl
    simpa using this
  have hnl : (natLines ks).length = (linesOf (dsh 0 ks)).lines.length := by simp [natLines]
  rw [hnl] at h4 h5 h6
  generalize hls : (linesOf (dsh 0 ks)).lines = ls at *
  have hnat : natLines ks = ls.map fun l => (l.1.toNat, l.2.toNat) := by rw [natLines, hls]
  rw [hnat] at h4 h5 h6
  refine ⟨by simpa using h1, ?_, ?_, ?_⟩
  · rw [hls]; exact Nat.eq_of_beq_eq_true h3
  · rw [hls, ri_nat]
    have e : ls.map distL = ((ls.map fun l => (l.1.toNat, l.2.toNat)).map fun l => l.1 - l.2 + (l.2 - l.1)).map Int.ofNat := by
      rw [List.map_map, List.map_map]
      exact List.map_congr_left fun l hl => dist_nat l (hpos l hl).1 (hpos l hl).2
    rw [e]
    refine List.Perm.map _ (perm_of_sub _ _ List.nodup_range' (fun k hk => ?_) (by simp))
    have := List.all_eq_true.mp h4 k hk
    obtain ⟨l, hl, hlk⟩ := List.any_eq_true.mp this
    exact List.mem_map.mpr ⟨l, hl, Nat.eq_of_beq_eq_true hlk⟩
  · rw [hls, ← jkeys_dec _ _ hpos (by lia), ← tkeys_dec]
    refine List.Perm.map _ (perm_of_sub _ _ (tkeys_nodup _) (fun k hk => ?_) (Nat.eq_of_beq_eq_true h5))
    refine (mask_bit k _).mp ?_
    rw [Nat.eq_of_beq_eq_true h6]
    exact (mask_bit k _).mpr hk
end Mine
end

section
open PySem PySem.W PyProof.Rows PySem.Calls
set_option Elab.async false
set_option maxRecDepth 100000
set_option maxHeartbeats 2000000
namespace Mine

theorem offC_ne {L : Addr} {a news : List (Addr × Obj)} {oD oR oT : Obj} (h : ∀ q ∈ a, ∀ p ∈ news, q.1 ≠ p.1) (h1 : (L + 1, oD) ∈ news) (h2 : (L + 1 + 1, oR) ∈ news) (h3 : (L + 1 + 1 + 1, oT) ∈ news) : OffC L a :=
  fun q hq => ⟨h q hq _ h1, h q hq _ h2, h q hq _ h3⟩

theorem pt_ok (q : Int × List Nat) (h : ∀ c ∈ q.2, c < 128) : kqdOk 8 (ptD q) = true := by
  have hs : PyData.strOk (⟨q.2.toArray⟩ : Str) = true := by
    unfold PyData.strOk
    rw [List.all_toArray]
    exact List.all_eq_true.mpr fun c hc => decide_eq_true (Nat.lt_trans (h c hc) (by decide))
  unfold ptD
  simp [kqdOk, hs]

theorem due_ok : ∀ (rows : List (List (List Nat))) (d : Int), RowsOk rows → ∀ q ∈ dueOf d rows, ∀ c ∈ q.2, c < 128 := by
  intro rows
  induction rows with
  | nil => intro d _ q hq; cases hq
  | cons row rows ih =>
    intro d h q hq
    rw [dueOf, List.cons_append] at hq
    rcases List.mem_cons.mp hq with rfl | hq
    · intro c hc; cases hc
    · rcases List.mem_append.mp hq with hq | hq
      · obtain ⟨n, hn, rfl⟩ := List.mem_map.mp hq
        exact fun c hc => (((h row (.head _)).2 n hn).chr c hc).1
      · exact ih (d + 1) (fun r hr => h r (.tail _ hr)) q hq

section
variable {prog : Program} {w : World} {p : Program} {loose : List Str} {mean : ExcName → Option Value} {mg mb : Str → Option Value} {fa : Nat} {L : Addr} {cd : Value} {h₀ : Heap} {m : Str → Option Value} {s : Shared} {Q : Flow → Shared → Prop} {E : Value → Shared → Prop} {oD oR oT : Obj}

theorem law_body {l : Addr} {vs : List Value} {ns : List Int} {vD vR vT : Option Value} (B : Below callerA h₀ [] h₀) (X : Frag.In (hd.heap_39 w.params) h₀) (T : Top p loose mean mg mb h₀) (F : Fr h₀ L s.heap m)
    (N : News h₀ L s.heap [(L + 1, oD), (L + 1 + 1, oR), (L + 1 + 1 + 1, oT)]) (hD : oD.data = .cell vD) (hR : oR.data = .cell vR) (hT : oT.data = .cell vT)
    (hm : m (Str.ofString "script") = some (.ref l)) (hl : h₀.IsList l vs.toArray) (hI : IntsAre vs ns) (h63 : vs.length ≤ 63)
    (next : ∀ h' tk gx m' news', (∀ q ∈ gx, q = GenState.finished) → Fr h₀ L h' m' → News h₀ L h' news' → Q (.ret (.bool true)) { s with heap := h', toks := tk, gens := s.gens ++ gx }) :
    wpAny (model prog w) (lawA L fa cd) (execs lawBody (lawEnv L fa cd)) Q E s := by
  show wpAny (model prog w) (lawA L fa cd) (execs (lawBody.drop 0) (lawEnv L fa cd)) Q E s
  refine seg_numbers X T F N hm hl hI h63 fun h₁ tk₁ S sv e₁ F₁ N₁ hS hI₁ => ?_
  have hnl : (ns.take 4 ++ ([14, 4, 19] : List Int).drop ns.length).length = 3 ∨ (ns.take 4 ++ ([14, 4, 19] : List Int).drop ns.length).length = 4 := by
    rw [List.length_append, List.length_take, List.length_drop]
    simp only [List.length_cons, List.length_nil]
    lia
  generalize ns.take 4 ++ ([14, 4, 19] : List Int).drop ns.length = ms at *
  have hsv := hI₁.length
  refine seg_legs X T F₁ N₁ (if_pos rfl) (.head _) hI₁ (by lia) fun h₂ tk₂ gx₂ G gv eg tl₂ hgx₂ F₂ N₂ hfr₂ hda₂ => ?_
  have hrows := rows_ok ms
  have hrl : (ms.map legRow).length = 3 ∨ (ms.map legRow).length = 4 := by rw [List.length_map]; exact hnl
  generalize ms.map legRow = rows at *
  have hTT := TT_len rows hrows
  have hks : ∀ k ∈ rows.map List.length, k ≤ 2 := fun k hk => by
    obtain ⟨r, hr, rfl⟩ := List.mem_map.mp hk
    exact (hrows r hr).1
  have FA := facts_of (rows.map List.length) (ok_of _ hks (by rw [List.length_map]; exact hrl))
  have hshp := due_shp rows 0 hrows
  have hdl : (dueOf 0 rows).length = (dsh 0 (rows.map List.length)).length := by rw [← hshp, List.length_map]
  have hsum : (rows.map List.length).sum ≤ 2 * rows.length := by
    have key : ∀ l : List Nat, (∀ k ∈ l, k ≤ 2) → l.sum ≤ 2 * l.length := by
      intro l
      induction l with
      | nil => intro _; simp
      | cons k l ih =>
        intro h
        have h1 := h k (.head _)
        have h2 := ih fun j hj => h j (.tail _ hj)
        rw [List.sum_cons, List.length_cons]
        lia
    have := key _ hks
    rwa [List.length_map] at this
  have hdsl := dsh_len (rows.map List.length) 0
  rw [List.length_map] at hdsl
  have hlen := FA.len
  refine seg_points B X T F₂ N₂ (if_pos rfl) (.list (.head _) (hda₂.mono fun q hq => .tail _ (List.mem_append_left _ hq))) (by lia) (by lia) (fun row hr n hn => ((hrows row hr).2 n hn).chr) (by lia) fun h₃ tk₃ gx₃ P pv ep tl₃ hgx₃ F₃ N₃ hda₃ hfr₃ => ?_
  have hcells : ∀ q ∈ [(L + 1, oD), (L + 1 + 1, oR), (L + 1 + 1 + 1, oT)], q ∈ (G, listOf gv.toArray eg) :: (tl₂ ++ (S, listOf sv.toArray e₁) :: [(L + 1, oD), (L + 1 + 1, oR), (L + 1 + 1 + 1, oT)]) := fun q hq => .tail _ (List.mem_append_right _ (.tail _ hq))
  have off₃ : OffC L ((P, listOf pv.toArray ep) :: tl₃) := offC_ne hfr₃ (hcells _ (.head _)) (hcells _ (.tail _ (.head _))) (hcells _ (.tail _ (.tail _ (.head _))))
  have off₂ : OffC L ((G, listOf gv.toArray eg) :: tl₂) := offC_ne hfr₂ (.tail _ (.head _)) (.tail _ (.tail _ (.head _))) (.tail _ (.tail _ (.tail _ (.head _))))
  have N₃' : News h₀ L h₃ ((L + 1, oD) :: (L + 1 + 1, oR) :: (L + 1 + 1 + 1, oT) :: (((P, listOf pv.toArray ep) :: tl₃) ++ ((G, listOf gv.toArray eg) :: tl₂))) := News_mono N₃ fun q hq => by
    simp only [List.mem_cons, List.mem_append, List.cons_append] at hq ⊢
    rcases hq with h | h | h | h | h | h | h <;> simp [h]
  have hne1 : Str.ofString "legs" ≠ Str.ofString "points" := by decide +kernel
  refine seg_due X T F₃ N₃' (off₃.app off₂) hD ((if_neg hne1).trans (if_pos rfl)) (List.mem_append_right _ (.head _)) (hda₂.mono fun q hq => List.mem_append_right _ (.tail _ hq)) (by lia) (fun row hr => by have := (hrows row hr).1; lia)
    fun h₄ tk₄ gx₄ m₄ Du dv ed tl₄ oD₄ hgx₄ F₄ hmd₄ hm₄ N₄ hfr₄ hda₄ => ?_
  dsimp only
  have hP₄ : (P, listOf pv.toArray ep) ∈ (L + 1, oD₄) :: (L + 1 + 1, oR) :: (L + 1 + 1 + 1, oT) :: ((Du, listOf dv.toArray ed) :: (tl₄ ++ (((P, listOf pv.toArray ep) :: tl₃) ++ ((G, listOf gv.toArray eg) :: tl₂)))) := .tail _ (.tail _ (.tail _ (.tail _ (List.mem_append_right _ (.head _)))))
  have hs₃ : ∀ q ∈ tl₃, q ∈ (L + 1, oD₄) :: (L + 1 + 1, oR) :: (L + 1 + 1 + 1, oT) :: ((Du, listOf dv.toArray ed) :: (tl₄ ++ (((P, listOf pv.toArray ep) :: tl₃) ++ ((G, listOf gv.toArray eg) :: tl₂)))) := fun q hq => .tail _ (.tail _ (.tail _ (.tail _ (List.mem_append_right _ (.tail _ (List.mem_append_left _ hq))))))
  have hD₄ : (Du, listOf dv.toArray ed) ∈ (L + 1, oD₄) :: (L + 1 + 1, oR) :: (L + 1 + 1 + 1, oT) :: ((Du, listOf dv.toArray ed) :: (tl₄ ++ (((P, listOf pv.toArray ep) :: tl₃) ++ ((G, listOf gv.toArray eg) :: tl₂)))) := .tail _ (.tail _ (.tail _ (.head _)))
  have hs₄ : ∀ q ∈ tl₄, q ∈ (L + 1, oD₄) :: (L + 1 + 1, oR) :: (L + 1 + 1 + 1, oT) :: ((Du, listOf dv.toArray ed) :: (tl₄ ++ (((P, listOf pv.toArray ep) :: tl₃) ++ ((G, listOf gv.toArray eg) :: tl₂)))) := fun q hq => .tail _ (.tail _ (.tail _ (.tail _ (List.mem_append_left _ hq))))
  have off₄ : OffC L ((Du, listOf dv.toArray ed) :: (tl₄ ++ (((P, listOf pv.toArray ep) :: tl₃) ++ ((G, listOf gv.toArray eg) :: tl₂)))) := OffC.app (a := (Du, listOf dv.toArray ed) :: tl₄) (OffC.of_lt hfr₄) (off₃.app off₂)
  generalize hR4 : (Du, listOf dv.toArray ed) :: (tl₄ ++ (((P, listOf pv.toArray ep) :: tl₃) ++ ((G, listOf gv.toArray eg) :: tl₂))) = R4 at *
  have hpn : Str.ofString "points" ≠ Str.ofString "names" := by decide +kernel
  have hpd : Str.ofString "points" ≠ Str.ofString "due" := by decide +kernel
  have hmp₄ : m₄ (Str.ofString "points") = some (.ref P) := (hm₄ _ hpn hpd).trans (if_pos rfl)
  have hda₃' := hda₃.mono hs₃
  have hda₄' := hda₄.mono hs₄
  refine seg_lines (pts := dueOf 0 rows) B X T F₄ N₄ hmp₄ (.list hP₄ hda₃') (by lia) fun h₅ tk₅ gx₅ tl₅ Sp Ln oS kvs D lvs el hgx₅ F₅ N₅ hlo hdi hfp hlk hda₅ hfr₅ => ?_
  dsimp only
  rw [hshp] at hlk hda₅
  have hpl : Str.ofString "points" ≠ Str.ofString "lines" := by decide +kernel
  have hps : Str.ofString "points" ≠ Str.ofString "spine" := by decide +kernel
  have hdl2 : Str.ofString "due" ≠ Str.ofString "lines" := by decide +kernel
  have hds : Str.ofString "due" ≠ Str.ofString "spine" := by decide +kernel
  have hsl : Str.ofString "spine" ≠ Str.ofString "lines" := by decide +kernel
  have up₅ : ∀ q ∈ (L + 1, oD₄) :: (L + 1 + 1, oR) :: (L + 1 + 1 + 1, oT) :: R4, q ∈ (Ln, listOf lvs.toArray el) :: (Sp, oS) :: (tl₅ ++ (L + 1, oD₄) :: (L + 1 + 1, oR) :: (L + 1 + 1 + 1, oT) :: R4) := fun q hq => .tail _ (.tail _ (List.mem_append_right _ hq))
  have hmp₅ : (fun y => if y = Str.ofString "lines" then some (Value.ref Ln) else if y = Str.ofString "spine" then some (.ref Sp) else m₄ y) (Str.ofString "points") = some (.ref P) := (if_neg hpl).trans ((if_neg hps).trans hmp₄)
  have hmd₅ : (fun y => if y = Str.ofString "lines" then some (Value.ref Ln) else if y = Str.ofString "spine" then some (.ref Sp) else m₄ y) (Str.ofString "due") = some (.ref Du) := (if_neg hdl2).trans ((if_neg hds).trans hmd₄)
  have hms₅ : (fun y => if y = Str.ofString "lines" then some (Value.ref Ln) else if y = Str.ofString "spine" then some (.ref Sp) else m₄ y) (Str.ofString "spine") = some (.ref Sp) := (if_neg hsl).trans (if_pos rfl)
  have hml₅ : (fun y => if y = Str.ofString "lines" then some (Value.ref Ln) else if y = Str.ofString "spine" then some (.ref Sp) else m₄ y) (Str.ofString "lines") = some (.ref Ln) := if_pos rfl
  generalize (fun y => if y = Str.ofString "lines" then some (Value.ref Ln) else if y = Str.ofString "spine" then some (.ref Sp) else m₄ y) = m₅ at *
  refine seg_same F₅ N₅ hmp₅ hmd₅ hms₅ (up₅ _ hP₄) (up₅ _ hD₄) (.tail _ (.head _)) (hda₃'.mono up₅) (hda₄'.mono up₅) (fun d hd => ?_) hlo hdi hfp ?_ fun tk₆ => ?_
  · obtain ⟨q, hq, rfl⟩ := List.mem_map.mp hd
    exact pt_ok q (due_ok rows 0 hrows q hq)
  · rw [hlk, FA.sp]; rfl
  have hdist := FA.dist
  have hjoin := FA.join
  generalize (linesOf (dsh 0 (rows.map List.length))).lines = ls at *
  have hpv : pv.length = ls.length + 1 := by
    have := hda₃.length
    rw [List.length_map] at this
    lia
  dsimp only
  have hL₅ : (Ln, listOf lvs.toArray el) ∈ (Ln, listOf lvs.toArray el) :: (Sp, oS) :: (tl₅ ++ (L + 1, oD₄) :: (L + 1 + 1, oR) :: (L + 1 + 1 + 1, oT) :: R4) := .head _
  refine seg_dists (np := ls.length) X T F₅ N₅ hmp₅ hml₅ (up₅ _ hP₄) hL₅ (hda₅.mono fun q hq => .tail _ (.tail _ (List.mem_append_left _ hq))) hpv (by lia) rfl hdist fun h₇ tk₇ gx₇ news₇ hgx₇ F₇ hup₇ N₇ => ?_
  have off₅ : OffC L ((Ln, listOf lvs.toArray el) :: (Sp, oS) :: tl₅) := offC_ne hfr₅ (.head _) (.tail _ (.head _)) (.tail _ (.tail _ (.head _)))
  have N₇' : News h₀ L h₇ ((L + 1, oD₄) :: (L + 1 + 1, oR) :: (L + 1 + 1 + 1, oT) :: ((Ln, listOf lvs.toArray el) :: (Sp, oS) :: tl₅)) := News_mono N₇ fun q hq => hup₇ q (by
    simp only [List.mem_cons, List.mem_append] at hq ⊢
    rcases hq with h | h | h | h | h | h <;> simp [h])
  have hll : lvs.length = ls.length := by
    have := hda₅.length
    simpa using this
  refine seg_ring (lvs := lvs.toArray) X T F₇ N₇' off₅ hR hml₅ (N₇'.isList (.tail _ (.tail _ (.tail _ (.head _))))) (by simp; lia) fun h₈ tk₈ oR₈ J t₈ F₈ N₈ hJ3 hJr hR₈ => ?_
  dsimp only
  have hrg : (2 * ((lvs.toArray.size : Nat) : Int) + 1 : Int) = ((2 * ls.length + 1 : Nat) : Int) := by simp [hll]
  rw [hrg] at hR₈
  have hjl : Str.ofString "lines" ≠ Str.ofString "joined" := by decide +kernel
  refine seg_turns (ls := ls) (rg := 2 * ls.length + 1) X T F₈ N₈ off₅ hJ3 hJr hR₈ hT (if_pos rfl) ((if_neg hjl).trans hml₅) (.head _) (hda₅.mono fun q hq => .tail _ (.tail _ hq)) (by lia) (by lia) (by lia) fun h₉ tk₉ gx₉ m₉ jv ej tl₉ oT₉ hgx₉ F₉ hmj₉ N₉ hda₉ => ?_
  dsimp only
  refine seg_ret (ps := joinedOf (2 * ls.length + 1) ls (2 * ls.length + 1)) (rg := 2 * ls.length + 1) X T F₉ N₉ hR₈ hmj₉ (.head _) (hda₉.mono fun q hq => .tail _ (List.mem_append_left _ hq)) hjoin (by lia) (by lia) fun h₁₀ tk₁₀ m₁₀ news₁₀ F₁₀ N₁₀ => ?_
  have key := next h₁₀ tk₁₀ (gx₂ ++ (gx₃ ++ (gx₄ ++ (gx₅ ++ (gx₇ ++ gx₉))))) m₁₀ news₁₀ (gx_app hgx₂ (gx_app hgx₃ (gx_app hgx₄ (gx_app hgx₅ (gx_app hgx₇ hgx₉))))) F₁₀ N₁₀
  simp only [← Array.append_assoc] at key
  exact key
end
end Mine
end

open PySem PySem.W PyProof.Rows PySem.Calls
set_option Elab.async false
set_option maxRecDepth 100000
set_option maxHeartbeats 8000000
theorem PySem.Challenge.cw_wa0010_01_holds : PySem.Challenge.rw_wa0010_01.Holds := by
  refine holds_law Mine.said fun said' => ?_
  refine holds_open (q := Mine.view) (loose := []) (Xt := fun s => xlAt Mine.view [] s && recOk (RowW.records (OpenRow.toRowW Mine.row0)) s) (XP := XL Mine.view []) (Yf := Hook.obs Mine.Hk) (Ya := Hook.val Mine.Hk) (YP := Hook.says Mine.Hk) (N := 1642) Mine.lo (Hook.of Mine.Hk) (Hook.keeps Mine.Hk) (fun s e => xl_of s (Bool.and_eq_true_iff.mp e).1) XL.keeps (by rfl) (by rfl) (by rfl) (fun s e => recFacts_of (Bool.and_eq_true_iff.mp e).2) (by rfl) said' (by decide +kernel) ⟨rfl, rfl, rfl, rfl, rfl, by decide +kernel⟩ ?hw ?hc
  case hw => w_witness2
  intro w s₀ s₁ mg mb G Y fa o pm cd doc dV kV ho hd hcd hD hmg hg args vals as hpre hlay hrd hwl hlo
  have KX := kIn_of Y
  have X := (Ground.X G).1
  have V := (Ground.X G).2
  try w_nolog (first | (have GL := glob_more (Ground.glob G (by first | k_qdec | decide +kernel)) V) | (have GL := glob_more (Ground.glob G (by decide +kernel)) V))
  refine Ground.open G ?_
  intro T B D TE TW
  try (refine guard_noD D (by decide +kernel) ?_; clear D)
  obtain ⟨_, _, M⟩ := bmod_of_top T
  have TA := at_of_top T
  try (obtain ⟨_, _, he, B0⟩ := based_of_top T rfl hmg ho hd; have he' : cd = _ := he; subst he'; clear he)
  clear hmg
  wrow_args hpre hlay hrd hwl hlo
  all_goals (
    first | refine callC_kw (enter_call ?_) | refine enter_call ?_ | refine callC_kw (enter_callW ?_) | refine enter_callW ?_ | w_how
    w_top on
    have K0 := below_caller (Top.heap T)
    w_call any ho hd hcd hD T F
    clear hd TA
    k_drop
    skip)
  have KX' : (Mine.hd.heap_39 w.params).In s₁.heap := KX
  rename_i ns hs hlay0 hL1 hr1 hl2 w7 w6 l vs w3 hL ra w1 r0 hI hr hc1 hc2 hh tk o2 o1 o0 d2 d1 d0 N0 X0
  have hns := hI.length
  refine Mine.law_body (oD := o0) (oR := o1) (oT := o2) (l := l) (vs := vs) (ns := ns) K0 KX' T F ?hN d0 d1 d2 ?hm hL hI ?h63 ?hnext
  case hN =>
    exact Mine.News_mono N0 fun q hq => by
      simp only [List.mem_cons, List.not_mem_nil, or_false] at hq ⊢
      rcases hq with h | h | h
      · exact .inr (.inr h)
      · exact .inr (.inl h)
      · exact .inl h
  case hm => rfl
  case h63 => omega
  case hnext =>
    intro h' tk' gx m' news' hgx F' N'
    refine (Mine.inA_4 (.inl (Mine.inE_3 (.bool true) (.bool true) ([]) (Mine.inA_5 rfl (fun _ => rfl) (.bool true) ?_ (fun _ => ⟨List.nodup_nil, by simp⟩)))) (.of_keep F'.keep) rfl ?_)
    · wrow_post
    · intro y hy
      dsimp only at hy
      rw [hg] at hy
      rw [hgx y (by simpa using hy)]
      rfl
