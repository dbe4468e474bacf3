import PyProof.Rows.All
import Wide.All
import OpenK.AllK
import Wide.FinOn
import PySem.Challenge.RW_kl0205_01
open PySem PySem.W PyProof.Rows PySem.Calls
set_option Elab.async false
section
set_option maxRecDepth 100000
namespace Mine
noncomputable def topRunT (tb : String → Option Builtin) (p : Program) (w : World) (n₀ : Nat) (ann : Option Value) : Nat → SharedT → Thread → Option SharedT
  | 0, _, _ => none
  | n + 1, s, t => match through t with
    | true => some s
    | false => match stepOk n₀ ann t with
      | false => none
      | true => match stepT (denote tb) p w s t with
        | some (s', t') => topRunT tb p w n₀ ann n s' t'
        | none => none
theorem topRun_of {tb : String → Option Builtin} {p : Program} {w : World} {n₀ : Nat} {ann : Option Value} : ∀ {n : Nat} {s s' : SharedT} {t : Thread}, topRunT tb p w n₀ ann n s t = some s' → topRun tb p w n₀ ann n s.abs t = some s'.abs
  | 0, _, _, _, h => by cases h
  | n + 1, s, s', t, h => by
    unfold topRunT at h
    unfold topRun
    cases he : through t with
    | true => rw [he] at h; cases h; rfl
    | false =>
      rw [he] at h
      cases hk : stepOk n₀ ann t with
      | false => rw [hk] at h; cases h
      | true =>
        rw [hk] at h
        cases hs : stepT (denote tb) p w s t with
        | none => rw [hs] at h; cases h
        | some r => obtain ⟨s₂, t₂⟩ := r; rw [hs] at h; rw [stepT_spec hs]; exact topRun_of h
noncomputable def topGoT (tb : String → Option Builtin) (p : Program) (w : World) (n₀ : Nat) (ann : Option Value) : Nat → SharedT → Thread → Option (SharedT × Thread)
  | 0, s, t => some (s, t)
  | n + 1, s, t => match through t with
    | true => none
    | false => match stepOk n₀ ann t with
      | false => none
      | true => match stepT (denote tb) p w s t with
        | some (s', t') => topGoT tb p w n₀ ann n s' t'
        | none => none
theorem topGo_of {tb : String → Option Builtin} {p : Program} {w : World} {n₀ : Nat} {ann : Option Value} : ∀ {n : Nat} {s s' : SharedT} {t t' : Thread}, topGoT tb p w n₀ ann n s t = some (s', t') → topGo tb p w n₀ ann n s.abs t = some (s'.abs, t')
  | 0, _, _, _, _, h => by cases h; rfl
  | n + 1, s, s', t, t', h => by
    unfold topGoT at h
    unfold topGo
    cases he : through t with
    | true => rw [he] at h; cases h
    | false =>
      rw [he] at h
      cases hk : stepOk n₀ ann t with
      | false => rw [hk] at h; cases h
      | true =>
        rw [hk] at h
        cases hs : stepT (denote tb) p w s t with
        | none => rw [hs] at h; cases h
        | some r => obtain ⟨s₂, t₂⟩ := r; rw [hs] at h; rw [stepT_spec hs]; exact topGo_of h
noncomputable def P : Program := PySem.Challenge.rw_kl0205_01.row.toRowW.1
noncomputable def tree0 (p : Params) : BT := .node (boot_o_0 p) (.node (boot_o_1 p) (.node (boot_o_3 p) (.node (boot_o_7 p) .nil .nil) .nil) (.node (boot_o_5 p) (.node (boot_o_9 p) .nil .nil) .nil)) (.node (boot_o_2 p) (.node (boot_o_4 p) (.node (boot_o_8 p) .nil .nil) .nil) (.node (boot_o_6 p) (.node (boot_o_10 p) .nil .nil) .nil))
noncomputable def T0 (w : World) (os : OsState) : SharedT := ⟨tree0 w.params, 11, {}, Array.mk [], boot_drawn, boot_toks, os⟩
theorem T0_abs (w : World) (os : OsState) : (T0 w os).abs = ⟨boot_heap w.params, Array.mk [], boot_drawn, boot_toks, os⟩ := rfl
noncomputable def go (w : World) (k : Nat) (os : OsState) : Option (SharedT × Thread) := topGoT treeTable P w 11 (some (.ref 6)) k (T0 w os) (topStub P)
end Mine
namespace Mine
/-- the parts of the i-th statement of the text, if it is a def -/
noncomputable def fdOf (i : Nat) : Arguments × List Stmt × Scope := match P.main.body[i]? with
  | some (.FunctionDef _ a b _ _ _ s _ _ _) => (a, b, s)
  | _ => default
@[reducible] noncomputable def f28 : { x : Arguments × List Stmt × Scope // x = fdOf 2 } := ⟨(_, _, _), rfl⟩
@[reducible] noncomputable def f35 : { x : Arguments × List Stmt × Scope // x = fdOf 4 } := ⟨(_, _, _), rfl⟩
@[reducible] noncomputable def f42 : { x : Arguments × List Stmt × Scope // x = fdOf 6 } := ⟨(_, _, _), rfl⟩
@[reducible] noncomputable def f56 : { x : Arguments × List Stmt × Scope // x = fdOf 8 } := ⟨(_, _, _), rfl⟩
@[reducible] noncomputable def f253 : { x : Arguments × List Stmt × Scope // x = fdOf 13 } := ⟨(_, _, _), rfl⟩
@[reducible] noncomputable def f260 : { x : Arguments × List Stmt × Scope // x = fdOf 14 } := ⟨(_, _, _), rfl⟩
@[reducible] noncomputable def f267 : { x : Arguments × List Stmt × Scope // x = fdOf 15 } := ⟨(_, _, _), rfl⟩
@[reducible] noncomputable def f274 : { x : Arguments × List Stmt × Scope // x = fdOf 16 } := ⟨(_, _, _), rfl⟩
@[reducible] noncomputable def f279 : { x : Arguments × List Stmt × Scope // x = fdOf 17 } := ⟨(_, _, _), rfl⟩
@[reducible] noncomputable def f286 : { x : Arguments × List Stmt × Scope // x = fdOf 18 } := ⟨(_, _, _), rfl⟩
@[reducible] noncomputable def f291 : { x : Arguments × List Stmt × Scope // x = fdOf 19 } := ⟨(_, _, _), rfl⟩
@[reducible] noncomputable def k2 (_ : Params) : Obj := { cls := Value.none, data := Data.dict #[] }
@[reducible] noncomputable def k3 (P : Params) : Obj := { cls := Value.type "dict", data := Data.dict #[{ hash := PyData.keyHash P (Str.ofString "__name__"), key := Value.str (Str.ofString "__name__") 165, val := Value.str (Str.ofString "law_kl0205_01") 667 }, { hash := PyData.keyHash P (Str.ofString "__doc__"), key := Value.str (Str.ofString "__doc__") 166, val := Value.none }, { hash := PyData.keyHash P (Str.ofString "__package__"), key := Value.str (Str.ofString "__package__") 167, val := Value.none }, { hash := PyData.keyHash P (Str.ofString "__loader__"), key := Value.str (Str.ofString "__loader__") 168, val := Value.builtin "__main__.__loader__#opaque" }, { hash := PyData.keyHash P (Str.ofString "__spec__"), key := Value.str (Str.ofString "__spec__") 169, val := Value.none }, { hash := PyData.keyHash P (Str.ofString "__annotations__"), key := Value.str (Str.ofString "__annotations__") 170, val := Value.ref 6 }, { hash := PyData.keyHash P (Str.ofString "__builtins__"), key := Value.str (Str.ofString "__builtins__") 171, val := Value.ref 4 }, { hash := PyData.keyHash P (Str.ofString "__file__"), key := Value.str (Str.ofString "__file__") 173, val := Value.str (Str.ofString "/claim/cut.py") 172 }, { hash := PyData.keyHash P (Str.ofString "__cached__"), key := Value.str (Str.ofString "__cached__") 174, val := Value.none }, { hash := PyData.keyHash P (Str.ofString "_wall"), key := Value.str (Str.ofString "_wall") 193, val := Value.ref 21 }, { hash := PyData.keyHash P (Str.ofString "in_table_c4"), key := Value.str (Str.ofString "in_table_c4") 203, val := Value.ref 28 }, { hash := PyData.keyHash P (Str.ofString "Int2AP"), key := Value.str (Str.ofString "Int2AP") 215, val := Value.ref 35 }, { hash := PyData.keyHash P (Str.ofString "_strcoll"), key := Value.str (Str.ofString "_strcoll") 225, val := Value.ref 42 }, { hash := PyData.keyHash P (Str.ofString "_replace_encoding"), key := Value.str (Str.ofString "_replace_encoding") 235, val := Value.ref 49 }, { hash := PyData.keyHash P (Str.ofString "_append_modifier"), key := Value.str (Str.ofString "_append_modifier") 245, val := Value.ref 56 }, { hash := PyData.keyHash P (Str.ofString "locale_encoding_alias"), key := Value.str (Str.ofString "locale_encoding_alias") 378, val := Value.ref 57 }, { hash := PyData.keyHash P (Str.ofString "_law_cells"), key := Value.str (Str.ofString "_law_cells") 677, val := Value.ref 253 }, { hash := PyData.keyHash P (Str.ofString "_law_ladder"), key := Value.str (Str.ofString "_law_ladder") 684, val := Value.ref 260 }, { hash := PyData.keyHash P (Str.ofString "_law_name"), key := Value.str (Str.ofString "_law_name") 696, val := Value.ref 267 }, { hash := PyData.keyHash P (Str.ofString "_law_rungs"), key := Value.str (Str.ofString "_law_rungs") 708, val := Value.ref 274 }, { hash := PyData.keyHash P (Str.ofString "_law_times"), key := Value.str (Str.ofString "_law_times") 714, val := Value.ref 279 }, { hash := PyData.keyHash P (Str.ofString "_law_part"), key := Value.str (Str.ofString "_law_part") 723, val := Value.ref 286 }, { hash := PyData.keyHash P (Str.ofString "law"), key := Value.str (Str.ofString "law") 729, val := Value.ref 291 }] 27 }
@[reducible] noncomputable def k27 (_ : Params) : Obj := { cls := Value.type "code", data := Data.fields #[Value.str (Str.ofString "in_table_c4") 196, Value.str (Str.ofString "in_table_c4") 197, Value.str (Str.ofString "/claim/cut.py") 198, Value.int 5 0, Value.int 1 0, Value.int 0 0, Value.int 0 0, Value.int 3 0, Value.ref 22, Value.bool Bool.true, Value.int 181 0, Value.ref 23, Value.none, Value.ref 24, Value.ref 25, Value.ref 26, Value.int 201 0, Value.int 5 0, Value.str (Str.ofString "/claim/cut.py") 202] }
@[reducible] noncomputable def k28 (_ : Params) : Obj := { cls := Value.type "function", data := Data.func { name := Str.ofString "in_table_c4", qualname := Str.ofString "in_table_c4", params := f28.1.1, body := FuncBody.stmts f28.1.2.1, scope := f28.1.2.2, globals := 3, closure := [], defaults := Value.none, kwdefaults := Value.none, pyModule := Value.str (Str.ofString "cpy313.stringprep") 194, code := Value.ref 27 } }
@[reducible] noncomputable def k34 (_ : Params) : Obj := { cls := Value.type "code", data := Data.fields #[Value.str (Str.ofString "Int2AP") 206, Value.str (Str.ofString "Int2AP") 207, Value.str (Str.ofString "/claim/cut.py") 208, Value.int 13 0, Value.int 1 0, Value.int 0 0, Value.int 0 0, Value.int 3 0, Value.ref 29, Value.bool Bool.true, Value.int 181 0, Value.ref 30, Value.none, Value.ref 31, Value.ref 32, Value.ref 33, Value.int 213 0, Value.int 13 0, Value.str (Str.ofString "/claim/cut.py") 214] }
@[reducible] noncomputable def k35 (_ : Params) : Obj := { cls := Value.type "function", data := Data.func { name := Str.ofString "Int2AP", qualname := Str.ofString "Int2AP", params := f35.1.1, body := FuncBody.stmts f35.1.2.1, scope := f35.1.2.2, globals := 3, closure := [], defaults := Value.none, kwdefaults := Value.none, pyModule := Value.str (Str.ofString "cpy313.imaplib") 204, code := Value.ref 34 } }
@[reducible] noncomputable def k41 (_ : Params) : Obj := { cls := Value.type "code", data := Data.fields #[Value.str (Str.ofString "_strcoll") 218, Value.str (Str.ofString "_strcoll") 219, Value.str (Str.ofString "/claim/cut.py") 220, Value.int 22 0, Value.int 2 0, Value.int 0 0, Value.int 0 0, Value.int 3 0, Value.ref 36, Value.bool Bool.true, Value.int 181 0, Value.ref 37, Value.none, Value.ref 38, Value.ref 39, Value.ref 40, Value.int 223 0, Value.int 22 0, Value.str (Str.ofString "/claim/cut.py") 224] }
@[reducible] noncomputable def k42 (_ : Params) : Obj := { cls := Value.type "function", data := Data.func { name := Str.ofString "_strcoll", qualname := Str.ofString "_strcoll", params := f42.1.1, body := FuncBody.stmts f42.1.2.1, scope := f42.1.2.2, globals := 3, closure := [], defaults := Value.none, kwdefaults := Value.none, pyModule := Value.str (Str.ofString "cpy313.locale") 216, code := Value.ref 41 } }
@[reducible] noncomputable def k55 (_ : Params) : Obj := { cls := Value.type "code", data := Data.fields #[Value.str (Str.ofString "_append_modifier") 236, Value.str (Str.ofString "_append_modifier") 237, Value.str (Str.ofString "/claim/cut.py") 238, Value.int 41 0, Value.int 2 0, Value.int 0 0, Value.int 0 0, Value.int 3 0, Value.ref 50, Value.bool Bool.true, Value.int 181 0, Value.ref 51, Value.none, Value.ref 52, Value.ref 53, Value.ref 54, Value.int 243 0, Value.int 41 0, Value.str (Str.ofString "/claim/cut.py") 244] }
@[reducible] noncomputable def k56 (_ : Params) : Obj := { cls := Value.type "function", data := Data.func { name := Str.ofString "_append_modifier", qualname := Str.ofString "_append_modifier", params := f56.1.1, body := FuncBody.stmts f56.1.2.1, scope := f56.1.2.2, globals := 3, closure := [], defaults := Value.none, kwdefaults := Value.none, pyModule := Value.str (Str.ofString "cpy313.locale") 216, code := Value.ref 55 } }
@[reducible] noncomputable def k252 (_ : Params) : Obj := { cls := Value.type "code", data := Data.fields #[Value.str (Str.ofString "_law_cells") 669, Value.str (Str.ofString "_law_cells") 670, Value.str (Str.ofString "/claim/cut.py") 671, Value.int 57 0, Value.int 1 0, Value.int 0 0, Value.int 0 0, Value.int 3 0, Value.ref 247, Value.bool Bool.true, Value.int 181 0, Value.ref 248, Value.none, Value.ref 249, Value.ref 250, Value.ref 251, Value.int 675 0, Value.int 57 0, Value.str (Str.ofString "/claim/cut.py") 676] }
@[reducible] noncomputable def k253 (_ : Params) : Obj := { cls := Value.type "function", data := Data.func { name := Str.ofString "_law_cells", qualname := Str.ofString "_law_cells", params := f253.1.1, body := FuncBody.stmts f253.1.2.1, scope := f253.1.2.2, globals := 3, closure := [], defaults := Value.none, kwdefaults := Value.none, pyModule := Value.str (Str.ofString "law_kl0205_01") 667, code := Value.ref 252 } }
@[reducible] noncomputable def k259 (_ : Params) : Obj := { cls := Value.type "code", data := Data.fields #[Value.str (Str.ofString "_law_ladder") 678, Value.str (Str.ofString "_law_ladder") 679, Value.str (Str.ofString "/claim/cut.py") 680, Value.int 62 0, Value.int 0 0, Value.int 0 0, Value.int 0 0, Value.int 3 0, Value.ref 254, Value.bool Bool.true, Value.int 181 0, Value.ref 255, Value.none, Value.ref 256, Value.ref 257, Value.ref 258, Value.int 682 0, Value.int 62 0, Value.str (Str.ofString "/claim/cut.py") 683] }
@[reducible] noncomputable def k260 (_ : Params) : Obj := { cls := Value.type "function", data := Data.func { name := Str.ofString "_law_ladder", qualname := Str.ofString "_law_ladder", params := f260.1.1, body := FuncBody.stmts f260.1.2.1, scope := f260.1.2.2, globals := 3, closure := [], defaults := Value.none, kwdefaults := Value.none, pyModule := Value.str (Str.ofString "law_kl0205_01") 667, code := Value.ref 259 } }
@[reducible] noncomputable def k266 (_ : Params) : Obj := { cls := Value.type "code", data := Data.fields #[Value.str (Str.ofString "_law_name") 685, Value.str (Str.ofString "_law_name") 686, Value.str (Str.ofString "/claim/cut.py") 687, Value.int 67 0, Value.int 2 0, Value.int 0 0, Value.int 0 0, Value.int 3 0, Value.ref 261, Value.bool Bool.true, Value.int 181 0, Value.ref 262, Value.none, Value.ref 263, Value.ref 264, Value.ref 265, Value.int 694 0, Value.int 67 0, Value.str (Str.ofString "/claim/cut.py") 695] }
@[reducible] noncomputable def k267 (_ : Params) : Obj := { cls := Value.type "function", data := Data.func { name := Str.ofString "_law_name", qualname := Str.ofString "_law_name", params := f267.1.1, body := FuncBody.stmts f267.1.2.1, scope := f267.1.2.2, globals := 3, closure := [], defaults := Value.none, kwdefaults := Value.none, pyModule := Value.str (Str.ofString "law_kl0205_01") 667, code := Value.ref 266 } }
@[reducible] noncomputable def k273 (_ : Params) : Obj := { cls := Value.type "code", data := Data.fields #[Value.str (Str.ofString "_law_rungs") 697, Value.str (Str.ofString "_law_rungs") 698, Value.str (Str.ofString "/claim/cut.py") 699, Value.int 76 0, Value.int 2 0, Value.int 0 0, Value.int 0 0, Value.int 3 0, Value.ref 268, Value.bool Bool.true, Value.int 181 0, Value.ref 269, Value.none, Value.ref 270, Value.ref 271, Value.ref 272, Value.int 706 0, Value.int 76 0, Value.str (Str.ofString "/claim/cut.py") 707] }
@[reducible] noncomputable def k274 (_ : Params) : Obj := { cls := Value.type "function", data := Data.func { name := Str.ofString "_law_rungs", qualname := Str.ofString "_law_rungs", params := f274.1.1, body := FuncBody.stmts f274.1.2.1, scope := f274.1.2.2, globals := 3, closure := [], defaults := Value.none, kwdefaults := Value.none, pyModule := Value.str (Str.ofString "law_kl0205_01") 667, code := Value.ref 273 } }
@[reducible] noncomputable def k278 (_ : Params) : Obj := { cls := Value.type "code", data := Data.fields #[Value.str (Str.ofString "_law_times") 709, Value.str (Str.ofString "_law_times") 710, Value.str (Str.ofString "/claim/cut.py") 711, Value.int 86 0, Value.int 5 0, Value.int 0 0, Value.int 0 0, Value.int 3 0, Value.ref 275, Value.bool Bool.true, Value.int 181 0, Value.ref 276, Value.none, Value.none, Value.none, Value.ref 277, Value.int 712 0, Value.int 86 0, Value.str (Str.ofString "/claim/cut.py") 713] }
@[reducible] noncomputable def k279 (_ : Params) : Obj := { cls := Value.type "function", data := Data.func { name := Str.ofString "_law_times", qualname := Str.ofString "_law_times", params := f279.1.1, body := FuncBody.stmts f279.1.2.1, scope := f279.1.2.2, globals := 3, closure := [], defaults := Value.none, kwdefaults := Value.none, pyModule := Value.str (Str.ofString "law_kl0205_01") 667, code := Value.ref 278 } }
@[reducible] noncomputable def k285 (_ : Params) : Obj := { cls := Value.type "code", data := Data.fields #[Value.str (Str.ofString "_law_part") 715, Value.str (Str.ofString "_law_part") 716, Value.str (Str.ofString "/claim/cut.py") 717, Value.int 92 0, Value.int 1 0, Value.int 0 0, Value.int 0 0, Value.int 3 0, Value.ref 280, Value.bool Bool.true, Value.int 181 0, Value.ref 281, Value.none, Value.ref 282, Value.ref 283, Value.ref 284, Value.int 721 0, Value.int 92 0, Value.str (Str.ofString "/claim/cut.py") 722] }
@[reducible] noncomputable def k286 (_ : Params) : Obj := { cls := Value.type "function", data := Data.func { name := Str.ofString "_law_part", qualname := Str.ofString "_law_part", params := f286.1.1, body := FuncBody.stmts f286.1.2.1, scope := f286.1.2.2, globals := 3, closure := [], defaults := Value.none, kwdefaults := Value.none, pyModule := Value.str (Str.ofString "law_kl0205_01") 667, code := Value.ref 285 } }
@[reducible] noncomputable def k290 (_ : Params) : Obj := { cls := Value.type "code", data := Data.fields #[Value.str (Str.ofString "law") 724, Value.str (Str.ofString "law") 725, Value.str (Str.ofString "/claim/cut.py") 726, Value.int 98 0, Value.int 1 0, Value.int 0 0, Value.int 0 0, Value.int 3 0, Value.ref 287, Value.bool Bool.true, Value.int 181 0, Value.ref 288, Value.none, Value.none, Value.none, Value.ref 289, Value.int 727 0, Value.int 98 0, Value.str (Str.ofString "/claim/cut.py") 728] }
@[reducible] noncomputable def k291 (_ : Params) : Obj := { cls := Value.type "function", data := Data.func { name := Str.ofString "law", qualname := Str.ofString "law", params := f291.1.1, body := FuncBody.stmts f291.1.2.1, scope := f291.1.2.2, globals := 3, closure := [], defaults := Value.none, kwdefaults := Value.none, pyModule := Value.str (Str.ofString "law_kl0205_01") 667, code := Value.ref 290 } }
noncomputable def hd.heap_39 : Params → Frag := fun P => [(nat_lit 2, k2 P), (nat_lit 3, k3 P), (nat_lit 27, k27 P), (nat_lit 28, k28 P), (nat_lit 34, k34 P), (nat_lit 35, k35 P), (nat_lit 41, k41 P), (nat_lit 42, k42 P), (nat_lit 55, k55 P), (nat_lit 56, k56 P), (nat_lit 252, k252 P), (nat_lit 253, k253 P), (nat_lit 259, k259 P), (nat_lit 260, k260 P), (nat_lit 266, k266 P), (nat_lit 267, k267 P), (nat_lit 273, k273 P), (nat_lit 274, k274 P), (nat_lit 278, k278 P), (nat_lit 279, k279 P), (nat_lit 285, k285 P), (nat_lit 286, k286 P), (nat_lit 290, k290 P), (nat_lit 291, k291 P)]
noncomputable abbrev kas : List Addr := [2, 3, 27, 28, 34, 35, 41, 42, 55, 56, 252, 253, 259, 260, 266, 267, 273, 274, 278, 279, 285, 286, 290, 291]
@[reducible] noncomputable def vs : { l : List Stmt // l = [0, 2, 4, 6, 7, 8, 9, 13, 14, 15, 16, 17, 18, 19].filterMap fun i => P.main.body[i]? } := ⟨[_, _, _, _, _, _, _, _, _, _, _, _, _, _], rfl⟩
@[reducible] noncomputable def hd.view_39 : Program := { P with main := { P.main with body := vs.1 } }
end Mine
namespace Mine
/-- a tree of n objects, told by their numbers -/
noncomputable def skel (g : Nat → Obj) (n : Nat) : Nat → Nat → Nat → BT
  | 0, _, _ => .nil
  | k + 1, a, b => match Nat.ble n b with
    | true => .nil
    | false => .node (g b) (skel g n k (Nat.mul 2 a) (Nat.add a b)) (skel g n k (Nat.mul 2 a) (Nat.add (Nat.mul 2 a) b))
noncomputable def bE : List Stmt := behindTheImports P
noncomputable def env0 : Env := { scope := P.main.scope, locals := mainNs, globals := mainNs, cells := [], code := .ref 13, frame := some 14 }
noncomputable def cE : Code := .body bE env0
noncomputable def pB : List Frame := [topFrame ⟨0, 0, 0, 0⟩]
noncomputable def l1 : List Stmt := bE.take 10
noncomputable def forSt : Stmt := bE.getD 10 default
noncomputable def l3 : List Stmt := bE.drop 11
noncomputable def forParts : PySem.Expr × List Stmt × List Stmt := match forSt with
  | .For t _ b o _ => (t, b, o)
  | _ => default
noncomputable def loopC : Code := .forLoop forParts.1 (.ref 112) forParts.2.1 forParts.2.2 env0
/-- runOwn as it stands (the fast twins keep off a pair such as this one) -/
noncomputable def runD : Code → Env → Option Value → Sem Flow := @runOwn
noncomputable def runS : { x : Code → Env → Option Value → Sem Flow // x = runD } := ⟨@runOwn, rfl⟩
noncomputable def loopCur : Sem Fin := (runS.1 loopC env0 none).wrap doneF deadEnd id id
noncomputable def thrPre : Thread := ⟨loopCur, cE, ⟨52, 12, 52, 49⟩, pB⟩
noncomputable def loopFrame : Frame := match loopCur with
  | .call _ _ g l k => .ret k none g l cE ⟨52, 12, 52, 49⟩ []
  | _ => topFrame ⟨0, 0, 0, 0⟩
noncomputable def thrIter : Thread := ⟨.pure (.again loopC), loopC, ⟨54, 4, 54, 42⟩, loopFrame :: pB⟩
/-- the texts of a written dict -/
noncomputable def textOf : PySem.Expr → Str
  | .Constant (.str s) _ _ => s
  | _ => ⟨#[]⟩
noncomputable def items : List (Str × Str) := match bE.getD 9 default with
  | .Assign _ (.Dict ks vs _) _ => (ks.filterMap fun k => k.map textOf).zip (vs.map textOf)
  | _ => []
noncomputable def key (i : Nat) : Str := (items.getD i (⟨#[]⟩, ⟨#[]⟩)).1
noncomputable def val (i : Nat) : Str := (items.getD i (⟨#[]⟩, ⟨#[]⟩)).2
noncomputable def ktok (i : Nat) : Nat := if i < 34 then 246 + 3 * i else 348 + 2 * (i - 34)
noncomputable def strip (s : Str) : Str := ⟨(s.cps.toList.filter fun c => !(Nat.beq c 95)).toArray⟩
noncomputable def order : List Nat := [0, 10, 13, 11, 12, 5, 14, 1, 41, 42, 43, 2, 34, 35, 31, 16, 17, 18, 19, 20, 21, 22, 23, 24, 25, 26, 27, 28, 29, 30, 3, 4, 37, 38, 39, 6, 40, 15, 7, 8, 9, 32, 33, 36]
noncomputable def ent (p : Params) (k : Str) (t : Nat) (v : Value) : DictEntry := { hash := PyData.keyHash p k, key := .str k t, val := v }
noncomputable def vtext (i : Nat) : Value := .str (val i) (ktok i + 1)
noncomputable def alias0 (p : Params) : List DictEntry := (List.range 44).map fun i => ent p (key i) (ktok i) (vtext i)
noncomputable def alias22 (p : Params) : List DictEntry := alias0 p ++ (List.range 10).map fun r => ent p (strip (key (order.getD (12 + r) 0))) (455 + 7 * r) (vtext (order.getD (12 + r) 0))
noncomputable def dictO (l : List DictEntry) (n : Nat) : Obj := { cls := .type "dict", data := .dict l.toArray n }
noncomputable def fname (i : Nat) : Str := match bE.getD i default with
  | .FunctionDef n _ _ _ _ _ _ _ _ _ => n
  | _ => ⟨#[]⟩
noncomputable def ns0 (p : Params) : List DictEntry := [ent p "__name__" 165 (.str "cpy313.locale" 216), ent p "__doc__" 166 .none, ent p "__package__" 167 .none, ent p "__loader__" 168 (.builtin "__main__.__loader__#opaque"), ent p "__spec__" 169 .none, ent p "__annotations__" 170 (.ref 6), ent p "__builtins__" 171 (.ref 4), ent p "__file__" 173 (.str "/claim/cut.py" 172), ent p "__cached__" 174 .none,
  ent p (fname 0) 193 (.ref 21), ent p (fname 2) 203 (.ref 28), ent p (fname 4) 215 (.ref 35), ent p (fname 6) 225 (.ref 42), ent p (fname 7) 235 (.ref 49), ent p (fname 8) 245 (.ref 56), ent p "locale_encoding_alias" 378 (.ref 57)]
noncomputable def ns22 (p : Params) : List DictEntry := ns0 p ++ [ent p "k" 379 (.str (strip (key 22)) 518), ent p "v" 380 (vtext 22)]
noncomputable def bootO (p : Params) : Nat → Obj
  | 0 => boot_o_0 p
  | 1 => boot_o_1 p
  | 2 => boot_o_2 p
  | 4 => boot_o_4 p
  | 5 => boot_o_5 p
  | 6 => boot_o_6 p
  | 7 => boot_o_7 p
  | 8 => boot_o_8 p
  | 9 => boot_o_9 p
  | _ => boot_o_10 p
noncomputable def g1 (p : Params) (f : Nat → Obj) (a : Nat) : Obj := match Nat.beq a 3 with
  | true => dictO (ns0 p) 16
  | false => match Nat.beq a 57 with
    | true => dictO (alias0 p) 44
    | false => match Nat.ble a 10 with
      | true => bootO p a
      | false => f a
noncomputable def st1 (f : Nat → Obj) (w : World) (os : OsState) : SharedT := ⟨skel (g1 w.params f) 60 10 1 0, 60, {}, Array.mk [], {}, 379, os⟩
noncomputable def tupO (vs : List Value) : Obj := { cls := .type "tuple", data := .seq vs.toArray }
noncomputable def listO (vs : List Value) (n : Nat) : Obj := { cls := .type "list", data := .seq vs.toArray n }
noncomputable def stopO (a : Nat) : Obj := { cls := .type "StopIteration", data := .fields #[.ref a, .none, .none, .none, .bool false, .none] }
noncomputable def iterO (i : Nat) : Obj := { cls := .type "list_iterator", data := .fields #[.ref 109, .int i 0] }
noncomputable def g2 (p : Params) (f : Nat → Obj) (a : Nat) : Obj := match Nat.ble a 59 with
  | true => g1 p f a
  | false => match Nat.ble a 106 && Nat.ble 63 a with
    | true => tupO [.str (key (a - 63)) (ktok (a - 63)), vtext (a - 63)]
    | false => match a with
      | 60 => { cls := .type "dict_items", data := .fields #[.ref 57] }
      | 61 => listO ((List.range 44).map fun i => .ref (63 + i)) 46
      | 62 => { cls := .type "dict_itemiterator", data := .fields #[.int 63 0, .bool true, .none, .int 44 0, .int 44 0, .int 44 0, .str (key 0) 246, .str (val 0) 247] }
      | 107 => tupO []
      | 108 => stopO 107
      | 109 => listO (order.map fun i => .ref (63 + i)) 2
      | 110 => tupO ((List.range 44).map fun i => .ref (63 + i))
      | 111 => listO [] 0
      | _ => iterO 0
noncomputable def st2 (f : Nat → Obj) (w : World) (os : OsState) : SharedT := ⟨skel (g2 w.params f) 113 10 1 0, 113, {}, Array.mk [], {}, 379, os⟩
noncomputable def g3 (p : Params) (f : Nat → Obj) (a : Nat) : Obj := match Nat.beq a 3 with
  | true => dictO (ns22 p) 18
  | false => match Nat.beq a 57 with
    | true => dictO (alias22 p) 54
    | false => match Nat.beq a 112 with
      | true => iterO 22
      | false => match Nat.ble a 111 with
        | true => g2 p f a
        | false => match (a - 113) % 3 with
          | 0 => { cls := .type "tuple_iterator", data := .fields #[.none, .int 2 0] }
          | 1 => tupO []
          | _ => stopO (a - 1)
noncomputable def alias44 (p : Params) : List DictEntry := alias0 p ++ ((List.range 18).map fun r => ent p (strip (key (order.getD (12 + r) 0))) (455 + 7 * r) (vtext (order.getD (12 + r) 0))) ++ ([(37, 593), (38, 600), (39, 607), (15, 626), (32, 651), (36, 664)] : List (Nat × Nat)).map fun x => ent p (strip (key x.1)) x.2 (vtext x.1)
noncomputable def ns44 (p : Params) : List DictEntry := ns0 p ++ [ent p "k" 379 (.str (strip (key 36)) 664), ent p "v" 380 (vtext 36)]
noncomputable def g4 (p : Params) (f : Nat → Obj) (a : Nat) : Obj := match Nat.beq a 3 with
  | true => dictO (ns44 p) 18
  | false => match Nat.beq a 57 with
    | true => dictO (alias44 p) 68
    | false => match Nat.beq a 112 with
      | true => { cls := .type "list_iterator", data := .fields #[.none, .int 44 0] }
      | false => match Nat.ble 245 a with
        | true => match Nat.beq a 245 with
          | true => tupO []
          | false => stopO 245
        | false => g3 p f a
noncomputable def st4 (f : Nat → Obj) (w : World) (os : OsState) : SharedT := ⟨skel (g4 w.params f) 247 10 1 0, 247, {}, Array.mk [], {}, 667, os⟩
noncomputable def st3 (f : Nat → Obj) (w : World) (os : OsState) : SharedT := ⟨skel (g3 w.params f) 179 10 1 0, 179, {}, Array.mk [], {}, 521, os⟩
end Mine
namespace Mine
noncomputable def rA (w : World) (os : OsState) := topGoT treeTable P w 11 (some (.ref 6)) 12 (T0 w os) (topStub P)
noncomputable def Ta (w : World) (os : OsState) : SharedT := match rA w os with
  | some (s, _) => s
  | none => T0 w os
noncomputable def lA (w : World) (os : OsState) := rA w os
noncomputable def qA (w : World) (os : OsState) : Option (SharedT × Thread) := some (Ta w os, ⟨denote treeTable cE, cE, ⟨0, 0, 0, 0⟩, pB⟩)
noncomputable def lS (w : World) (os : OsState) := segRunT treeTable P w 11 (some (.ref 6)) 1 1 (Ta w os) (blockOf bE env0 cE ⟨0, 0, 0, 0⟩ pB)
noncomputable def qS (w : World) (os : OsState) : Option (Flow × SharedT × Code × Pos) := some (.next, Ta w os, cE, ⟨0, 0, 0, 0⟩)
noncomputable def r1 (w : World) (os : OsState) := segRunT treeTable P w 11 (some (.ref 6)) 1 1059 (Ta w os) (piecesOf l1 env0 cE ⟨0, 0, 0, 0⟩ pB)
noncomputable def F (w : World) (os : OsState) (a : Nat) : Obj := match r1 w os with
  | some (_, s, _, _) => (s.tree.get a).getD default
  | none => default
noncomputable def lB (w : World) (os : OsState) := r1 w os
noncomputable def qB (w : World) (os : OsState) : Option (Flow × SharedT × Code × Pos) := some (.next, st1 (F w os) w os, cE, ⟨51, 0, 51, 21⟩)
noncomputable def lC (w : World) (os : OsState) (f : Nat → Obj) := segGoT treeTable P w 11 (some (.ref 6)) 1 3040 (st1 f w os) (pieceOf forSt env0 cE ⟨51, 0, 51, 21⟩ pB)
noncomputable def qC (w : World) (os : OsState) (f : Nat → Obj) : Option (SharedT × Thread) := some (st2 f w os, thrPre)
noncomputable def lD (w : World) (os : OsState) (f : Nat → Obj) := segGoT treeTable P w 11 (some (.ref 6)) 1 2774 (st2 f w os) thrPre
noncomputable def qD (w : World) (os : OsState) (f : Nat → Obj) : Option (SharedT × Thread) := some (st3 f w os, thrIter)
noncomputable abbrev loose : List Str := [Str.ofString "locale_encoding_alias"]
noncomputable abbrev Xt (s : Shared) : Bool := xlAt hd.view_39 [] s && recOk (RowW.records PySem.Challenge.rw_kl0205_01.row.toRowW) s
noncomputable def looksOf (w : World) (s : SharedT) := ((staticsOk (importedModules P.main.body) (boot_heap w.params) s.abs.heap && namesBound P s.abs.heap && gensDone s.abs && laidKept (boot_heap w.params) s.abs.heap), openSeen hd.view_39 loose (importedModules P.main.body) Xt true s.abs, kas.map s.abs.heap.get?)
noncomputable def tailOf (w : World) (s : SharedT) := (segRunT treeTable P w 11 (some (.ref 6)) 1 232 s (piecesOf l3 env0 cE ⟨52, 12, 52, 49⟩ pB)).map fun r => (r.1, r.2.2.1, r.2.2.2, (topRunT treeTable P w 11 (some (.ref 6)) 2 r.2.1 ⟨doneF .next, cE, ⟨98, 0, 132, 15⟩, pB⟩).map (looksOf w))
noncomputable def lG (w : World) (os : OsState) (f : Nat → Obj) := segRunT treeTable P w 11 (some (.ref 6)) 1 2786 (st3 f w os) thrIter
noncomputable def qG (w : World) (os : OsState) (f : Nat → Obj) : Option (Flow × SharedT × Code × Pos) := some (.next, st4 f w os, cE, ⟨52, 12, 52, 49⟩)
noncomputable def lE (w : World) (os : OsState) := tailOf w (st4 (F w os) w os)
noncomputable def qE (w : World) (_ : OsState) := some (Flow.next, cE, (⟨98, 0, 132, 15⟩ : Pos), some (true, openGood hd.view_39 loose, (hd.heap_39 w.params).map fun p => some p.2))
noncomputable def headS (w : World) := ((boot_heap w.params).isNs mainGlobals && (Array.mk [] : Array GenState).size == 0, (boot_heap w.params).objs.size, (boot_heap w.params).nsMap mainGlobals "__annotations__")
noncomputable def aye {α : Type} (_ : α) : Bool := true
theorem twins : ((aye lA && aye qA && aye lS && aye qS) && (aye lB && aye qB && aye lC && aye qC && aye lD && aye qD) && (aye lE && aye qE && aye headS && aye lG && aye qG)) = true := by k_qdec
end Mine
end
section
set_option maxRecDepth 100000
namespace Mine
theorem eqA (w : World) : lA w = qA w := by
  rw [PySem.W.Fast.te15733406127517292383, PySem.W.Fast.te12136372196133350224]
  kernel_rfl
theorem eqS (w : World) : lS w = qS w := by
  rw [PySem.W.Fast.te8253997099547293743, PySem.W.Fast.te15902746149314790936]
  kernel_rfl
theorem eqB_no (w : World) : PySem.W.Fast.tw14150769451746639782 (w.withFollow "special-get-raises" false) = PySem.W.Fast.tw5923139487504876813 (w.withFollow "special-get-raises" false) := by kernel_rfl
theorem eqB_yes (w : World) : PySem.W.Fast.tw14150769451746639782 (w.withFollow "special-get-raises" true) = PySem.W.Fast.tw5923139487504876813 (w.withFollow "special-get-raises" true) := by kernel_rfl
theorem eqB (w : World) : lB w = qB w := by
  rw [PySem.W.Fast.te14150769451746639782, PySem.W.Fast.te5923139487504876813]
  exact byRow2 (P := fun w => PySem.W.Fast.tw14150769451746639782 w = PySem.W.Fast.tw5923139487504876813 w) "special-get-raises" eqB_no eqB_yes w
theorem eqC_no (w : World) : PySem.W.Fast.tw17258610672655548695 (w.withFollow "special-get-raises" false) = PySem.W.Fast.tw1517098368678801198 (w.withFollow "special-get-raises" false) := by kernel_rfl
theorem eqC_yes (w : World) : PySem.W.Fast.tw17258610672655548695 (w.withFollow "special-get-raises" true) = PySem.W.Fast.tw1517098368678801198 (w.withFollow "special-get-raises" true) := by kernel_rfl
theorem eqC (w : World) : lC w = qC w := by
  rw [PySem.W.Fast.te17258610672655548695, PySem.W.Fast.te1517098368678801198]
  exact byRow2 (P := fun w => PySem.W.Fast.tw17258610672655548695 w = PySem.W.Fast.tw1517098368678801198 w) "special-get-raises" eqC_no eqC_yes w
theorem eqD_no (w : World) : PySem.W.Fast.tw18018272156602259512 (w.withFollow "special-get-raises" false) = PySem.W.Fast.tw6747813613515534345 (w.withFollow "special-get-raises" false) := by kernel_rfl
theorem eqD_yes (w : World) : PySem.W.Fast.tw18018272156602259512 (w.withFollow "special-get-raises" true) = PySem.W.Fast.tw6747813613515534345 (w.withFollow "special-get-raises" true) := by kernel_rfl
theorem eqD (w : World) : lD w = qD w := by
  rw [PySem.W.Fast.te18018272156602259512, PySem.W.Fast.te6747813613515534345]
  exact byRow2 (P := fun w => PySem.W.Fast.tw18018272156602259512 w = PySem.W.Fast.tw6747813613515534345 w) "special-get-raises" eqD_no eqD_yes w
theorem eqG_no (w : World) : PySem.W.Fast.tw12525638654120380081 (w.withFollow "special-get-raises" false) = PySem.W.Fast.tw3525704200909205481 (w.withFollow "special-get-raises" false) := by kernel_rfl
theorem eqG_yes (w : World) : PySem.W.Fast.tw12525638654120380081 (w.withFollow "special-get-raises" true) = PySem.W.Fast.tw3525704200909205481 (w.withFollow "special-get-raises" true) := by kernel_rfl
theorem eqG (w : World) : lG w = qG w := by
  rw [PySem.W.Fast.te12525638654120380081, PySem.W.Fast.te3525704200909205481]
  exact byRow2 (P := fun w => PySem.W.Fast.tw12525638654120380081 w = PySem.W.Fast.tw3525704200909205481 w) "special-get-raises" eqG_no eqG_yes w
theorem eqE_no (w : World) : PySem.W.Fast.tw6064670428384302341 (w.withFollow "special-get-raises" false) = PySem.W.Fast.tw15337615429528248673 (w.withFollow "special-get-raises" false) := by kernel_rfl
theorem eqE_yes (w : World) : PySem.W.Fast.tw6064670428384302341 (w.withFollow "special-get-raises" true) = PySem.W.Fast.tw15337615429528248673 (w.withFollow "special-get-raises" true) := by kernel_rfl
theorem eqE (w : World) : lE w = qE w := by
  rw [PySem.W.Fast.te6064670428384302341, PySem.W.Fast.te15337615429528248673]
  exact byRow2 (P := fun w => PySem.W.Fast.tw6064670428384302341 w = PySem.W.Fast.tw15337615429528248673 w) "special-get-raises" eqE_no eqE_yes w
theorem size_all (w : World) : headS w = (true, 11, some (.ref 6)) := by
  rw [PySem.W.Fast.te5367728191852055264]
  kernel_rfl
end Mine
end
section
set_option maxRecDepth 100000
namespace Mine
theorem left_of {p q : Program} {loose : List Str} {Xt : Shared → Bool} {α : Type} {Yf : Shared → α} {Ya : World → α} {N M : Nat} {g0 : Bool} {H₀ : Params → Heap} {gs₀ : Array GenState} {d₀ : Drawn} {k₀ : Nat} {m₀ : Nat} {ann : Option Value}
    (open_ : ∀ w : World, (fencedOpening treeTable p w N).map (fun s => (s.heap, s.gens, s.drawn, s.toks)) = some (H₀ w.params, gs₀, d₀, k₀))
    (size : ∀ w : World, ((H₀ w.params).isNs mainGlobals && gs₀.size == 0, (H₀ w.params).objs.size, (H₀ w.params).nsMap mainGlobals "__annotations__") = (true, m₀, ann))
    (run : ∀ (w : World) (os : OsState), ∃ s : Shared, topRun treeTable p w m₀ ann M ⟨H₀ w.params, gs₀, d₀, k₀, os⟩ (topStub p) = some s ∧
      ((staticsOk (importedModules p.main.body) (H₀ w.params) s.heap && namesBound p s.heap && gensDone s && laidKept (H₀ w.params) s.heap), openSeen q loose (importedModules p.main.body) Xt g0 s, Yf s) = (true, openGood q loose, Ya w)) (le : Nat.ble M N = true) :
    LeftO p q loose Xt Yf Ya N g0 := fun w => by
  obtain ⟨⟨h, gs, d, k, os⟩, e, e'⟩ := Option.map_eq_some_iff.mp (open_ w)
  obtain ⟨rfl, rfl, rfl, rfl⟩ : h = H₀ w.params ∧ gs = gs₀ ∧ d = d₀ ∧ k = k₀ := by simpa using e'
  obtain ⟨z1, z2, z3⟩ : _ ∧ _ ∧ _ := by simpa only [Prod.mk.injEq] using size w
  obtain ⟨s, r, l⟩ := run w os
  obtain ⟨l1, l2, l3⟩ : _ ∧ _ ∧ _ := by simpa only [Prod.mk.injEq] using l
  have r := topRun_mono (N - M) _ _ _ _ r
  rw [show M + (N - M) = N by have := Nat.le_of_ble_eq_true le; omega] at r
  have t : topFrom treeTable p w N ⟨H₀ w.params, gs, d, k, os⟩ = some s := by
    unfold topFrom
    dsimp only
    rw [z1, z2, z3, r]
    show (match staticsOk (importedModules p.main.body) (H₀ w.params) s.heap && namesBound p s.heap && gensDone s && laidKept (H₀ w.params) s.heap with | true => _ | false => _) = _
    rw [l1]
  unfold openEnds
  rw [e]
  show (topFrom treeTable p w N _).map _ = _
  rw [t]
  exact congrArg some (Prod.ext l2 l3)
theorem bE_split : bE = l1 ++ (forSt :: l3) := by kernel_rfl
theorem run_all (w : World) (os : OsState) : ∃ s : Shared, topRun treeTable P w 11 (some (.ref 6)) (12 + (1 + (1059 + ((3040 + (2774 + 2786)) + (232 + 2))))) ⟨boot_heap w.params, Array.mk [], boot_drawn, boot_toks, os⟩ (topStub P) = some s ∧
    ((staticsOk (importedModules P.main.body) (boot_heap w.params) s.heap && namesBound P s.heap && gensDone s && laidKept (boot_heap w.params) s.heap), openSeen hd.view_39 loose (importedModules P.main.body) Xt true s, kas.map s.heap.get?) = (true, openGood hd.view_39 loose, (hd.heap_39 w.params).map fun p => some p.2) := by
  have hA : topGoT treeTable P w 11 (some (.ref 6)) 12 (T0 w os) (topStub P) = some (Ta w os, ⟨denote treeTable cE, cE, ⟨0, 0, 0, 0⟩, pB⟩) := congrFun (eqA w) os
  have hS : segRunT treeTable P w 11 (some (.ref 6)) 1 1 (Ta w os) (blockOf bE env0 cE ⟨0, 0, 0, 0⟩ pB) = some (.next, Ta w os, cE, ⟨0, 0, 0, 0⟩) := congrFun (eqS w) os
  have hB : segRunT treeTable P w 11 (some (.ref 6)) 1 1059 (Ta w os) (piecesOf l1 env0 cE ⟨0, 0, 0, 0⟩ pB) = some (.next, st1 (F w os) w os, cE, ⟨51, 0, 51, 21⟩) := congrFun (eqB w) os
  have hC : segGoT treeTable P w 11 (some (.ref 6)) 1 3040 (st1 (F w os) w os) (pieceOf forSt env0 cE ⟨51, 0, 51, 21⟩ pB) = some (st2 (F w os) w os, thrPre) := congrFun (congrFun (eqC w) os) (F w os)
  have hD : segGoT treeTable P w 11 (some (.ref 6)) 1 2774 (st2 (F w os) w os) thrPre = some (st3 (F w os) w os, thrIter) := congrFun (congrFun (eqD w) os) (F w os)
  have hG : segRunT treeTable P w 11 (some (.ref 6)) 1 2786 (st3 (F w os) w os) thrIter = some (.next, st4 (F w os) w os, cE, ⟨52, 12, 52, 49⟩) := congrFun (congrFun (eqG w) os) (F w os)
  have hE := congrFun (eqE w) os
  unfold lE qE tailOf at hE
  obtain ⟨⟨f8, s8, c8, p8⟩, e8, l8⟩ := Option.map_eq_some_iff.mp hE
  simp only [Prod.mk.injEq] at l8
  obtain ⟨rfl, rfl, rfl, l8⟩ := l8
  obtain ⟨s9, e9, l9⟩ := Option.map_eq_some_iff.mp l8
  refine ⟨s9.abs, ?_, l9⟩
  have k9 := topRun_of e9
  have k8 : topRun treeTable P w 11 (some (.ref 6)) (232 + 2) (st4 (F w os) w os).abs (restOf l3 env0 cE ⟨52, 12, 52, 49⟩ [topFrame ⟨0, 0, 0, 0⟩]) = some s9.abs := by
    have := piece_app (rest := []) (segRun_of e8) (piece_nil k9)
    rwa [List.append_nil] at this
  have k7 : topRun treeTable P w 11 (some (.ref 6)) ((3040 + (2774 + 2786)) + (232 + 2)) (st1 (F w os) w os).abs (restOf (forSt :: l3) env0 cE ⟨51, 0, 51, 21⟩ [topFrame ⟨0, 0, 0, 0⟩]) = some s9.abs :=
    piece_cons (seg_go (segGo_of hC) (seg_go (segGo_of hD) (segRun_of hG))) k8
  have k6 := piece_app (segRun_of hB) k7
  rw [← bE_split] at k6
  have k5 := piece_block (segRun_of hS) k6
  have k4 := go_top (topGo_of hA) k5
  rw [T0_abs] at k4
  exact k4
theorem kas_ok (p : Params) : kas = (hd.heap_39 p).map (·.1) := by kernel_rfl
theorem left_ok : LeftO P hd.view_39 [Str.ofString "locale_encoding_alias"] Xt (kHook hd.heap_39 kas kas_ok).obs (kHook hd.heap_39 kas kas_ok).val 19902 :=
  left_of (H₀ := boot_heap) (boot_open (p := P) (by kernel_rfl) (by decide) (fun s => by kernel_rfl)) size_all run_all rfl
set_option maxHeartbeats 8000000 in
theorem hd_of {d : DefRec} {kwd : List (Str × PySem.Expr)} (hdef : defOf hd.view_39 PySem.Challenge.rw_kl0205_01.row.name = some (d, kwd)) (hp : PySem.Challenge.rw_kl0205_01.row.prog.theDef PySem.Challenge.rw_kl0205_01.row.name = some (d.params, d.body, d.scope)) (hk : kwWritten? d.params.kwonlyargs d.params.kw_defaults = some kwd)
    (walk : WalkO hd.view_39 [Str.ofString "locale_encoding_alias"] (XL hd.view_39 []) (kHook hd.heap_39 kas kas_ok).says PySem.Challenge.rw_kl0205_01.row.toRowW d kwd fun f vs => PySem.call f vs) : PySem.Challenge.rw_kl0205_01.Holds := by
  w_on
  o_law
  refine holds_open (q := hd.view_39) (loose := [Str.ofString "locale_encoding_alias"]) (Xt := Xt) (XP := XL hd.view_39 []) (Yf := (kHook hd.heap_39 kas kas_ok).obs) (Ya := (kHook hd.heap_39 kas kas_ok).val) (YP := (kHook hd.heap_39 kas kas_ok).says) (N := 19902) left_ok (kHook hd.heap_39 kas kas_ok).of (kHook hd.heap_39 kas kas_ok).keeps (fun s e => xl_of s (Bool.and_eq_true_iff.mp e).1) XL.keeps hdef hp hk (fun s e => recFacts_of (Bool.and_eq_true_iff.mp e).2) (by rfl) (by assumption) (by decide +kernel) ⟨rfl, rfl, rfl, rfl, rfl, by decide +kernel⟩ ?hw walk
  case hw => w_witness2
end Mine
end
namespace Mine
/-- what a call of the def at f gives back: for any frame that calls it, over any ledger -/
def Ctr (w : World) (mean : ExcName → Option Value) (mg mb : Str → Option Value) (k : Nat) (f : Addr) (vs : List Value) (news : List (Addr × Obj)) (Post : Value → List (Addr × Obj) → Prop) : Prop :=
  ∀ (dp un : Nat) (gd : Option (List Code)) (cn : Str) (cs : Scope) (a : Addr) (ccd : Value) (cl : List (Str × Addr)) (outer : List Env) (A₀ : Around) (base h₀ : Heap) (L : Addr) (m : Str → Option Value) (s : Shared) (Q E : Value → Shared → Prop),
    Below A₀ base outer h₀ → Fr h₀ L s.heap m → (hd.heap_39 w.params).In h₀ → News h₀ L s.heap news →
    Top hd.view_39 (looseW hd.view_39 [Str.ofString "locale_encoding_alias"]) mean mg mb h₀ → cs.kind = .function → dp + k < recursionLimit → un + 8 * k < cLine →
    (∀ (v : Value) (more : List (Addr × Obj)) (h' : Heap) (tk' : Nat), Post v more → Fr h₀ L h' m → News h₀ L h' (more ++ news) → Q v { s with heap := h', toks := tk' }) →
      wpAny (model PySem.Challenge.rw_kl0205_01.row.prog w) (ktrTop dp un gd cn cs L a ccd cl outer) (call (.ref f) vs) Q E s
end Mine
namespace Mine
/-- the ladder 1, 2, 3, 5, 8, .. -/
noncomputable def ladL : List Int := [1, 2, 3, 5, 8, 13, 21, 34, 55, 89, 144, 233, 377, 610, 987, 1597, 2584, 4181, 6765, 10946, 17711, 28657, 46368, 75025, 121393, 196418, 317811, 514229, 832040, 1346269, 2178309, 3524578, 5702887, 9227465, 14930352, 24157817, 39088169, 63245986, 102334155, 165580141, 267914296]
noncomputable def lad (k : Nat) : Int := ladL.getD k 0
/-- the rungs below k that greed takes out of n, the highest first -/
noncomputable def greedy : Nat → Int → List Nat
  | 0, _ => []
  | k + 1, n => if lad k ≤ n then k :: greedy k (n - lad k) else greedy k n
/-- the code of the table's sign for a rung -/
noncomputable def sgn (r : Nat) : Nat := if r < 32 then 64976 + r else (r - 32) / 2 * 65536 + 65534 + r % 2
/-- a name's text -/
noncomputable def nm (rs : List Nat) : Str := ⟨(67 :: rs.flatMap fun r => [64, sgn r]).toArray⟩
end Mine
namespace Mine
/-- what the table says of a code -/
noncomputable def tab4 (x : Nat) : Bool := if x < 64976 then false else if x < 65008 then true else (x % 65536 == 65534 || x % 65536 == 65535)
end Mine
namespace Mine
theorem ints_get : ∀ {vs : List Value} {ns : List Int}, IntsAre vs ns → ∀ (i : Nat), i < ns.length → ∃ t, vs[i]? = some (.int (ns.getD i 0) t)
  | _, _, .nil, i, h => absurd h (Nat.not_lt_zero _)
  | _, _, .cons n t hr, 0, _ => ⟨t, rfl⟩
  | _, _, .cons n t hr, i + 1, h => by
    obtain ⟨u, hu⟩ := ints_get hr i (Nat.lt_of_succ_lt_succ h)
    exact ⟨u, by simpa using hu⟩
theorem item_ints {prog : Program} {w : World} {A : Around} {E : Value → Shared → Prop} {s : Shared} {value slice : PySem.Expr} {l : Addr} {vs : List Value} {ns : List Int} {k : Int} {u : Tok} {Q : Value → Shared → Prop}
    (hl : s.heap.IsList l vs.toArray) (hi : IntsAre vs ns) (h0 : 0 ≤ k) (h1 : k < (ns.length : Int)) (hb : (ns.length : Int) < 2 ^ 63) (h : ∀ t, Q (.int (ns.getD k.toNat 0) t) s)
    (hs : subscripted slice false (.ref l) (.int k u) = operate [.ref l, .int k u] (getItem (.ref l) (.int k u)) := by with_unfolding_all rfl) :
    wpAny (model prog w) A (subscriptTail value slice (.ref l) (.int k u)) Q E s := by
  obtain ⟨t, ht⟩ := ints_get hi k.toNat (by omega)
  exact tail_any hl.typeIs slot_list_getitem.lookup (wpAny_getItem_list hl h0 (by omega) (by simpa using ht) (h t)) hs
theorem ladL_len : ladL.length = 41 := rfl
end Mine
namespace Mine
theorem item_lad {prog : Program} {w : World} {A : Around} {E : Value → Shared → Prop} {s : Shared} {value slice : PySem.Expr} {l : Addr} {vs : List Value} {k : Int} {u : Tok} {Q : Value → Shared → Prop}
    (hi : IntsAre vs ladL) (hl : s.heap.IsList l vs.toArray) (h0 : 0 ≤ k) (h1 : k < 41) (h : ∀ t, Q (.int (lad k.toNat) t) s)
    (hs : subscripted slice false (.ref l) (.int k u) = operate [.ref l, .int k u] (getItem (.ref l) (.int k u)) := by with_unfolding_all rfl) :
    wpAny (model prog w) A (subscriptTail value slice (.ref l) (.int k u)) Q E s :=
  item_ints hl hi h0 (by rw [ladL_len]; exact h1) (by rw [ladL_len]; decide) h hs
end Mine
namespace Mine
theorem one_ne_euro (q : Nat) : ((⟨#[q]⟩ : Str) == Str.ofString "euro") = false := by
  rw [← PyProof.Rows.toList_beq]
  have e : (Str.ofString "euro").cps.toList = [101, 117, 114, 111] := by decide +kernel
  rw [e]
  show ([q] == [101, 117, 114, 111]) = false
  simp
theorem eq_euro {prog : Program} {w : World} {A : Around} {E : Value → Shared → Prop} {s : Shared} {q : Nat} {t u : Tok} {Q : Value → Shared → Prop} (h : Q (.bool false) s) :
    wpAny (model prog w) A (compareOp .Eq (.str ⟨#[q]⟩ t) (.str (Str.ofString "euro") u)) Q E s :=
  PyProof.Rows.eq_str (by rw [one_ne_euro]; exact h)
end Mine
namespace Mine
theorem item_back {prog : Program} {w : World} {A : Around} {E : Value → Shared → Prop} {s : Shared} {value slice : PySem.Expr} {l : Addr} {vs : List Value} {ns : List Int} {j : Nat} {u : Tok} {Q : Value → Shared → Prop}
    (hl : s.heap.IsList l vs.toArray) (hi : IntsAre vs ns) (h0 : 0 < j) (h1 : j ≤ ns.length) (hb : j < 1000) (h : ∀ t, Q (.int (ns.getD (ns.length - j) 0) t) s)
    (hs : subscripted slice false (.ref l) (.int (-(j : Int)) u) = operate [.ref l, .int (-(j : Int)) u] (getItem (.ref l) (.int (-(j : Int)) u)) := by with_unfolding_all rfl) :
    wpAny (model prog w) A (subscriptTail value slice (.ref l) (.int (-(j : Int)) u)) Q E s := by
  have hL := IntsAre.length hi
  obtain ⟨t, ht⟩ := ints_get hi (ns.length - j) (by omega)
  have e : (-(j : Int) + (vs.toArray.size : Int)).toNat = ns.length - j := by rw [List.size_toArray, hL]; omega
  exact tail_any hl.typeIs slot_list_getitem.lookup (wpAny_getItem_list_neg hl (by omega) (by rw [List.size_toArray, hL]; omega) (by omega) (by rw [e]; simpa using ht) (h t)) hs
theorem item_back1 {prog : Program} {w : World} {A : Around} {E : Value → Shared → Prop} {s : Shared} {value slice : PySem.Expr} {l : Addr} {vs : List Value} {ns : List Int} {u : Tok} {Q : Value → Shared → Prop}
    (hi : IntsAre vs ns) (hl : s.heap.IsList l vs.toArray) (h1 : 1 ≤ ns.length) (h : ∀ t, Q (.int (ns.getD (ns.length - 1) 0) t) s)
    (hs : subscripted slice false (.ref l) (.int (-1) u) = operate [.ref l, .int (-1) u] (getItem (.ref l) (.int (-1) u)) := by with_unfolding_all rfl) :
    wpAny (model prog w) A (subscriptTail value slice (.ref l) (.int (-1) u)) Q E s := item_back (j := 1) hl hi (by decide) h1 (by decide) h hs
theorem item_back2 {prog : Program} {w : World} {A : Around} {E : Value → Shared → Prop} {s : Shared} {value slice : PySem.Expr} {l : Addr} {vs : List Value} {ns : List Int} {u : Tok} {Q : Value → Shared → Prop}
    (hi : IntsAre vs ns) (hl : s.heap.IsList l vs.toArray) (h1 : 2 ≤ ns.length) (h : ∀ t, Q (.int (ns.getD (ns.length - 2) 0) t) s)
    (hs : subscripted slice false (.ref l) (.int (-2) u) = operate [.ref l, .int (-2) u] (getItem (.ref l) (.int (-2) u)) := by with_unfolding_all rfl) :
    wpAny (model prog w) A (subscriptTail value slice (.ref l) (.int (-2) u)) Q E s := item_back (j := 2) hl hi (by decide) h1 (by decide) h hs
end Mine
namespace Mine
theorem ints_snoc {vs : List Value} {ns : List Int} {x : Int} {t : Tok} (h : IntsAre vs ns) : IntsAre (vs ++ [.int x t]) (ns ++ [x]) := by
  induction h with
  | nil => exact .cons _ _ .nil
  | cons n t _ ih => exact .cons _ _ ih
theorem led_snoc {h₀ h : Heap} {L D : Addr} {vs : List Value} {v : Value} {n : Nat} {news : List (Addr × Obj)} (N : News h₀ L h ((D, listOf (vs.toArray.push v) n) :: news)) : News h₀ L h ((D, listOf (vs ++ [v]).toArray n) :: news) := by
  rw [List.push_toArray] at N
  exact N
noncomputable abbrev LadLed (D : Addr) (news : List (Addr × Obj)) (c : List Value × List Int × Nat) : List (Addr × Obj) := (D, listOf c.1.toArray c.2.2) :: news
end Mine
namespace Mine
theorem pow_fact {n : Int} {ns : List Int} (hm : n ∈ ns) (hr : ∀ r ∈ ns, 0 ≤ r ∧ r ≤ 40) : 0 ≤ n ∧ n ≤ 40 := hr n hm
end Mine
namespace Mine
theorem pow16_of {prog : Program} {w : World} {A : Around} {E : Value → Shared → Prop} {s : Shared} {n : Int} {t u : Tok} {ns : List Int} {Q : Value → Shared → Prop} (hm : n ∈ ns) (hr : ∀ r ∈ ns, 0 ≤ r ∧ r ≤ 40)
    (h : Q (.int (16 ^ n.toNat) s.toks) { s with toks := s.toks + 1 }) : wpAny (model prog w) A (binaryOp .Pow (.int 16 t) (.int n u)) Q E s :=
  pow_int_small (hr n hm).1 (Int.le_trans (hr n hm).2 (by decide)) (by decide) h
end Mine
namespace Mine
/-- an int that the model multiplies without a thought -/
def Sm (x : Int) : Prop := x.natAbs < 2 ^ 4000
theorem sm_of {x : Int} (h : x.natAbs < 2 ^ 4000) : Sm x := h
theorem sm_abs {x : Int} (h0 : -1000000 ≤ x) (h1 : x ≤ 1000000) : Sm x := Nat.lt_of_le_of_lt (show x.natAbs ≤ 1000000 by omega) (by decide +kernel)
theorem mul_small {prog : Program} {w : World} {A : Around} {E : Value → Shared → Prop} {s : Shared} {a b : Int} {t u : Tok} {Q : Value → Shared → Prop} (ha : Sm a) (hb : Sm b)
    (h : Q (.int (a * b) s.toks) { s with toks := s.toks + 1 }) : wpAny (model prog w) A (binaryOp .Mult (.int a t) (.int b u)) Q E s :=
  mul_int h (IntMulOk.of_le (m := 4000) (n := 4000) (intBits_le_iff.mpr ha) (intBits_le_iff.mpr hb) (by decide))
end Mine
namespace Mine
theorem type_bytes {prog : Program} {w : World} {A : Around} {E : Value → Shared → Prop} {s : Shared} {b : Array UInt8} {t : Tok} {Q : Value → Shared → Prop} (h : Q (.type "bytes") s) : wpAny (model prog w) A (call (.type "type") [.bytes b t]) Q E s :=
  call_type_of (typeIs_bytes s b t) (by decide +kernel) h
theorem type_int {prog : Program} {w : World} {A : Around} {E : Value → Shared → Prop} {s : Shared} {n : Int} {t : Tok} {Q : Value → Shared → Prop} (h : Q (.type "int") s) : wpAny (model prog w) A (call (.type "type") [.int n t]) Q E s :=
  call_type_of (typeIs_int s n t) (by decide +kernel) h
end Mine
namespace Mine
theorem item_at {prog : Program} {w : World} {A : Around} {E : Value → Shared → Prop} {s : Shared} {value slice : PySem.Expr} {l : Addr} {vs : List Value} {k : Int} {u : Tok} {v : Value} {Q : Value → Shared → Prop}
    (hl : s.heap.IsList l vs.toArray) (h0 : 0 ≤ k) (h1 : k < 2 ^ 63) (hx : vs[k.toNat]? = some v) (h : Q v s)
    (hs : subscripted slice false (.ref l) (.int k u) = operate [.ref l, .int k u] (getItem (.ref l) (.int k u)) := by with_unfolding_all rfl) :
    wpAny (model prog w) A (subscriptTail value slice (.ref l) (.int k u)) Q E s :=
  tail_any hl.typeIs slot_list_getitem.lookup (wpAny_getItem_list hl h0 h1 (by simpa using hx) h) hs
end Mine
namespace Mine
theorem at_is : Str.ofString "@" = (⟨#[64]⟩ : Str) := by decide +kernel
theorem c_is : Str.ofString "C" = (⟨#[67]⟩ : Str) := by decide +kernel
theorem nm_nil : nm [] = Str.ofString "C" := by rw [c_is]; rfl
theorem str_app (a b : Array Nat) : (⟨a⟩ : Str) ++ (⟨b⟩ : Str) = ⟨a ++ b⟩ := rfl
theorem nm_snoc (rs : List Nat) (r : Nat) : nm (rs ++ [r]) = nm rs ++ Str.ofString "@" ++ ⟨#[sgn r]⟩ := by
  rw [at_is]
  unfold nm
  rw [str_app, str_app]
  congr 1
  apply Array.toList_inj.mp
  simp [List.flatMap_append]
theorem greedy_take {k : Nat} {n : Int} (h : lad k ≤ n) : greedy (k + 1) n = k :: greedy k (n - lad k) := by
  show (if lad k ≤ n then _ else _) = _
  rw [if_pos h]
theorem greedy_pass {k : Nat} {n : Int} (h : ¬ lad k ≤ n) : greedy (k + 1) n = greedy k n := by
  show (if lad k ≤ n then _ else _) = _
  rw [if_neg h]
theorem len_one (q : Nat) : (⟨#[q]⟩ : Str).length = 1 := rfl
theorem name_start {n : Int} (h0 : 0 ≤ n) : Str.ofString "C" = Str.ofString "C" ∧ 0 ≤ n ∧ (Str.ofString "C").length ≤ 2 * ([] : List Int).length + 1 ∧ (Str.ofString "C").length ≤ 2 * ([] : List Int).length + 1 ∧
    ∃ rs, Str.ofString "C" = nm rs ∧ rs ++ greedy (41 - ([] : List Int).length) n = greedy 41 n :=
  ⟨rfl, h0, by rw [c_is]; decide, by rw [c_is]; decide, [], nm_nil.symm, rfl⟩
theorem name_pass {n number : Int} {name due : Str} {pre : List Int} {k : Int} (hk : k = 40 - (pre.length : Int)) (hlt : pre.length < (40 - -1 : Int).toNat) (h1 : name = due) (h2 : 0 ≤ number) (h3 : name.length ≤ 2 * pre.length + 1)
    (h5 : ∃ rs, name = nm rs ∧ rs ++ greedy (41 - pre.length) number = greedy 41 n) (hle : ¬ lad k.toNat ≤ number) :
    name = due ∧ 0 ≤ number ∧ name.length ≤ 2 * (pre ++ [k]).length + 1 ∧ due.length ≤ 2 * (pre ++ [k]).length + 1 ∧ ∃ rs, name = nm rs ∧ rs ++ greedy (41 - (pre ++ [k]).length) number = greedy 41 n := by
  obtain ⟨rs, e, g⟩ := h5
  subst h1
  have hl : (pre ++ [k]).length = pre.length + 1 := by simp
  have e1 : 41 - pre.length = k.toNat + 1 := by omega
  have e2 : 41 - (pre.length + 1) = k.toNat := by omega
  rw [hl]
  refine ⟨rfl, h2, by omega, by omega, rs, e, ?_⟩
  rw [e2, ← greedy_pass hle, ← e1]
  exact g
theorem name_take {n number : Int} {name due : Str} {pre : List Int} {k : Int} {q : Nat} (hk : k = 40 - (pre.length : Int)) (hlt : pre.length < (40 - -1 : Int).toNat) (h1 : name = due) (h3 : name.length ≤ 2 * pre.length + 1)
    (h5 : ∃ rs, name = nm rs ∧ rs ++ greedy (41 - pre.length) number = greedy 41 n) (hle : lad k.toNat ≤ number) (hq : q = sgn k.toNat) :
    name ++ Str.ofString "@" ++ ⟨#[q]⟩ = due ++ (Str.ofString "@" ++ ⟨#[q]⟩) ∧ 0 ≤ number - lad k.toNat ∧ (name ++ Str.ofString "@" ++ ⟨#[q]⟩).length ≤ 2 * (pre ++ [k]).length + 1 ∧ (due ++ (Str.ofString "@" ++ ⟨#[q]⟩)).length ≤ 2 * (pre ++ [k]).length + 1 ∧
      ∃ rs, name ++ Str.ofString "@" ++ ⟨#[q]⟩ = nm rs ∧ rs ++ greedy (41 - (pre ++ [k]).length) (number - lad k.toNat) = greedy 41 n := by
  obtain ⟨rs, e, g⟩ := h5
  subst h1
  subst hq
  have hl : (pre ++ [k]).length = pre.length + 1 := by simp
  have e1 : 41 - pre.length = k.toNat + 1 := by omega
  have e2 : 41 - (pre.length + 1) = k.toNat := by omega
  have ea : (Str.ofString "@").length = 1 := by rw [at_is]; rfl
  rw [hl]
  have ass : name ++ Str.ofString "@" ++ ⟨#[sgn k.toNat]⟩ = name ++ (Str.ofString "@" ++ ⟨#[sgn k.toNat]⟩) := by rw [Str.append_assoc]
  have len : (name ++ Str.ofString "@" ++ ⟨#[sgn k.toNat]⟩).length ≤ 2 * (pre.length + 1) + 1 := by
    rw [Str.length_append, Str.length_append, ea, len_one]; omega
  refine ⟨ass, by omega, len, by rw [← ass]; exact len, rs ++ [k.toNat], ?_, ?_⟩
  · rw [nm_snoc, e]
  · rw [e2, List.append_assoc]
    show rs ++ (k.toNat :: greedy k.toNat (number - lad k.toNat)) = _
    rw [← greedy_take hle, ← e1]
    exact g
theorem sgn_low {k : Int} (h0 : 0 ≤ k) (h : k < 32) : (64976 + k).toNat = sgn k.toNat := by
  unfold sgn
  rw [if_pos (by omega)]
  omega
theorem sgn_high {k : Int} (h : ¬ k < 32) : ((k - 32).fdiv 2 * 65536 + 65534 + k.fmod 2).toNat = sgn k.toNat := by
  unfold sgn
  rw [if_neg (by omega), Int.fdiv_eq_ediv_of_nonneg _ (by omega), Int.fmod_eq_emod_of_nonneg _ (by omega)]
  omega
theorem name_end {n number : Int} {name : Str} {m : Nat} (hm : m = 41) (h5 : ∃ rs, name = nm rs ∧ rs ++ greedy (41 - m) number = greedy 41 n) : name = nm (greedy 41 n) := by
  obtain ⟨rs, e, g⟩ := h5
  subst hm
  rw [e, ← g]
  simp [greedy]
theorem beq_absurd {a b : Str} (h : (a == b) = false) (e : a = b) : False := by
  rw [e] at h
  simp at h
end Mine
namespace Mine
local macro_rules | `(tactic| walk_at $s:str) => `(tactic| k_extra $s) -- shared
set_option maxRecDepth 100000 in
set_option maxHeartbeats 8000000 in
theorem append_walk (w : World) (mean : ExcName → Option Value) (mg mb : Str → Option Value) (news : List (Addr × Obj)) (x : Str) (t : Tok) (q : Nat) (u : Tok) (hx : x.length ≤ 1000) :
    Ctr w mean mg mb 8 56 [.str x t, .str ⟨#[q]⟩ u] news (fun v more => ∃ t', v = .str (x ++ Str.ofString "@" ++ ⟨#[q]⟩) t' ∧ more = []) := by
  unfold Ctr
  k_with_none
  w_top off
  k_fill
  k_with "compareOp Eq str str" => (k_here; (with_reducible show wpAny _ _ (compareOp CmpOp.Eq (Value.str _ _) (Value.str (Str.ofString "euro") _)) _ _ _); (refine eq_euro ?_))
  intro dp un gd cn cs a ccd cl outer A₀ base h₀ L m s Q E hB hF hK hN hT hk hdp hun hret
  refine wpAny_call ?_
  k_dflt cell_enter
  k_steps
  · rename_i kF kN _ _
    exact hret _ [] _ _ ⟨_, rfl, rfl⟩ kF kN
end Mine
namespace Mine
local macro_rules | `(tactic| walk_at $s:str) => `(tactic| k_extra $s) -- shared
local macro_rules | `(tactic| walk_at "mine tail a") => `(tactic| (rintro _ _ hN tkN ⟨tN, hv, hm⟩ kF kN; subst hv; subst hm; (try dsimp only [List.nil_append] at kN); (try dsimp only); (try k_fold))) -- shared
set_option maxRecDepth 100000 in
set_option maxHeartbeats 8000000 in
theorem name_walk (w : World) (mean : ExcName → Option Value) (mg mb : Str → Option Value) (news : List (Addr × Obj)) (n : Int) (tn : Tok) (l : Addr) (vs : List Value) (c : Nat) (hl : (l, listOf vs.toArray c) ∈ news) (hi : IntsAre vs ladL) (h0 : 0 ≤ n) (h1 : n < 433494437) :
    Ctr w mean mg mb 16 267 [.int n tn, .ref l] news (fun v more => ∃ t, v = .str (nm (greedy 41 n)) t ∧ more = []) := by
  unfold Ctr
  k_with_none
  w_top off
  k_fill
  k_with "subscriptTail" => (k_here; (with_reducible show wpAny _ _ (subscriptTail _ _ (Value.ref _) (Value.int _ _)) _ _ _); (with_unfolding_all refine' item_lad ?k1 ?k2 ?k3 ?k4 ?_ ?k6; (case k1 => assumption); (case k2 => first | is_list | exact News.isList (by k_asm) (by k_mem)); (case k3 => omega); (case k4 => omega); (case k6 => with_unfolding_all rfl)); intro tI)
  k_with "call ref" => (k_here; (with_reducible show wpAny _ _ (call (Value.ref 56) [Value.str _ _, Value.str _ _]) _ _ _); (have hC := append_walk); unfold Ctr at hC; (refine' hC _ _ _ _ _ _ _ _ _ ?kx _ _ _ _ _ _ _ _ _ _ _ _ _ _ _ _ _ ?k1 ?k2 ?k3 ?k4 ?k5 ?k6 ?k7 ?k8 ?_; (case k1 => k_asm); (case k2 => k_asm); (case k3 => k_asm); (case k4 => k_asm); (case k5 => k_asm); (case k6 => exact rfl); (case k7 => ktr_room); (case k8 => ktr_units); (case kx => omega)); clear hC; walk_at "mine tail a")
  intro dp un gd cn cs a ccd cl outer A₀ base h₀ L m s Q E hB hF hK hN hT hk hdp hun hret
  replace hN : News h₀ L s.heap ((l, listOf vs.toArray c) :: news) := fun p hp => by rcases List.mem_cons.mp hp with rfl | hp; exact hN _ hl; exact hN p hp
  refine wpAny_call ?_
  k_dflt cell_enter
  k_with "state" => first
    | exact name_start h0
    | exact name_take (by assumption) (by assumption) (by assumption) (by assumption) (by assumption) (by assumption) (sgn_low (by omega) (by assumption))
    | exact name_take (by assumption) (by assumption) (by assumption) (by assumption) (by assumption) (by assumption) (sgn_high (by assumption))
    | exact name_pass (by assumption) (by assumption) (by assumption) (by assumption) (by assumption) (by assumption) (by assumption)
  k_with "pyIter ref" => k_state (fun pre number name due => name = due ∧ 0 ≤ number ∧ name.length ≤ 2 * pre.length + 1 ∧ due.length ≤ 2 * pre.length + 1 ∧ ∃ rs, name = nm rs ∧ rs ++ greedy (41 - pre.length) number = greedy 41 n) "number" "name" "due"
  k_steps
  · rename_i kF kN _ _
    have hE := name_end (n := n) (by rfl) (by assumption)
    refine hret _ [] _ _ ⟨_, by rw [hE], rfl⟩ kF fun p hp => kN p (List.mem_cons_of_mem _ (List.mem_cons_of_mem _ hp))
  · exact (beq_absurd (by assumption) (by assumption)).elim
end Mine
namespace Mine
def PartInv (size root : Int) : Prop := root * root ≤ 5 * size * size ∧ 0 ≤ root ∧ root ≤ 3 * size
theorem mul4 (a b c d : Int) : a * b * (c * d) = a * c * (b * d) := by
  rw [Int.mul_assoc, Int.mul_assoc, Int.mul_left_comm b c d]
theorem sq_le {a b : Int} (ha : 0 ≤ b) (h : a * a ≤ b * b) : a ≤ b := by
  refine Int.not_lt.mp fun hlt => ?_
  have h1 : b * b ≤ b * a := Int.mul_le_mul_of_nonneg_left (by omega) ha
  have h2 : b * a < a * a := Int.mul_lt_mul_of_pos_right hlt (by omega)
  omega
theorem part_start {n : Int} (h0 : 0 ≤ n) : PartInv (n + 1) ((2236 * (n + 1)).fdiv 1000) := by
  have h1 := (PyProof.Rows.fdiv_fmod_facts (2236 * (n + 1)) 1000)
  have e : (2236 * (n + 1)).fdiv 1000 = (2236 * (n + 1)) / 1000 := Int.fdiv_eq_ediv_of_nonneg _ (by omega)
  rw [e]
  generalize hr : (2236 * (n + 1)) / 1000 = r
  have hr1 : 1000 * r ≤ 2236 * (n + 1) := by omega
  have hr0 : 0 ≤ r := by omega
  refine ⟨?_, hr0, by omega⟩
  have h2 : (1000 * r) * (1000 * r) ≤ (2236 * (n + 1)) * (2236 * (n + 1)) := Int.mul_le_mul hr1 hr1 (by omega) (by omega)
  have h3 : (1000 * r) * (1000 * r) = 1000000 * (r * r) := by rw [mul4]; rfl
  have h4 : (2236 * (n + 1)) * (2236 * (n + 1)) = 4999696 * ((n + 1) * (n + 1)) := by rw [mul4]; rfl
  have h5 : 0 ≤ (n + 1) * (n + 1) := Int.mul_nonneg (by omega) (by omega)
  rw [Int.mul_assoc]
  omega
theorem part_turn {size root : Int} (hs : 0 ≤ size) (hp : PartInv size root) (h : (root + 1) ^ Int.toNat 2 ≤ 5 * size ^ Int.toNat 2) : PartInv size (root + 1) := by
  have e1 : (root + 1) ^ Int.toNat 2 = (root + 1) * (root + 1) := by show (root + 1) ^ 2 = _; rw [Int.pow_succ, Int.pow_succ, Int.pow_zero, Int.one_mul]
  have e2 : size ^ Int.toNat 2 = size * size := by show size ^ 2 = _; rw [Int.pow_succ, Int.pow_succ, Int.pow_zero, Int.one_mul]
  rw [e1, e2] at h
  obtain ⟨h1, h2, h3⟩ := hp
  refine ⟨by rw [Int.mul_assoc]; exact h, by omega, ?_⟩
  refine sq_le (by omega) ?_
  have : (3 * size) * (3 * size) = 9 * (size * size) := by rw [mul4]; rfl
  have h5 : 0 ≤ size * size := Int.mul_nonneg hs hs
  rw [this]
  omega
theorem part_turn' {size root : Int} (hs : 0 ≤ size) (h1 : root * root ≤ 5 * size * size) (h2 : 0 ≤ root) (h3 : root ≤ 3 * size) (h : (root + 1) ^ Int.toNat 2 ≤ 5 * size ^ Int.toNat 2) :
    (root + 1) * (root + 1) ≤ 5 * size * size ∧ 0 ≤ root + 1 ∧ root + 1 ≤ 3 * size := part_turn hs ⟨h1, h2, h3⟩ h
theorem part_end {size root : Int} (h : ¬(root + 1) ^ Int.toNat 2 ≤ 5 * size ^ Int.toNat 2) : 5 * size * size < (root + 1) * (root + 1) := by
  have e1 : (root + 1) ^ Int.toNat 2 = (root + 1) * (root + 1) := by show (root + 1) ^ 2 = _; rw [Int.pow_succ, Int.pow_succ, Int.pow_zero, Int.one_mul]
  have e2 : size ^ Int.toNat 2 = size * size := by show size ^ 2 = _; rw [Int.pow_succ, Int.pow_succ, Int.pow_zero, Int.one_mul]
  rw [e1, e2] at h
  rw [Int.mul_assoc]
  omega
set_option maxRecDepth 100000 in
set_option maxHeartbeats 8000000 in
theorem part_walk (w : World) (mean : ExcName → Option Value) (mg mb : Str → Option Value) (n : Int) (t : Tok) (news : List (Addr × Obj)) (h0 : 0 ≤ n) (h1 : n < 400000) :
    Ctr w mean mg mb 8 286 [.int n t] news (fun v more => ∃ t' r, PartInv (n + 1) r ∧ 5 * (n + 1) * (n + 1) < (r + 1) * (r + 1) ∧ v = .int ((3 * (n + 1) - r - 1).fdiv 2) t' ∧ more = []) := by
  unfold Ctr
  k_with_none
  w_top off
  k_fill
  intro dp un gd cn cs a ccd cl outer A₀ base h₀ L m s Q E hB hF hK hN hT hk hdp hun hret
  refine wpAny_call ?_
  k_dflt cell_enter
  k_with "state" => first | exact part_start h0 | exact part_turn' (by omega) (by assumption) (by assumption) (by assumption) (by assumption)
  k_with "exec While Compare cons nil" => k_while_given ["size"] (fun size script root => root * root ≤ 5 * size * size ∧ 0 ≤ root ∧ root ≤ 3 * size) (fun size script root => (3 * size + 1 - root).toNat) "root"
  k_steps
  · rename_i kF kN _ _
    exact hret _ [] _ _ ⟨_, _, ⟨by assumption, by assumption, by assumption⟩, part_end (by assumption), rfl, rfl⟩ kF kN
end Mine
namespace Mine
structure LadPre (l : List Int) : Prop where
  two : 2 ≤ l.length
  top : l.length ≤ 41
  pre : l = ladL.take l.length
theorem ladPre_start : LadPre [1, 2] := ⟨by decide, by decide, rfl⟩
theorem lad_step : ∀ i, i < 39 → ladL.getD (i + 2) 0 = ladL.getD (i + 1) 0 + ladL.getD i 0 := by decide +kernel
theorem getD_take {l : List Int} {n i : Nat} (h : i < n) : (l.take n).getD i 0 = l.getD i 0 := by
  simp [List.getD, List.getElem?_take, h]
theorem take_snoc {l : List Int} {n : Nat} (h : n < l.length) : l.take n ++ [l.getD n 0] = l.take (n + 1) := by
  rw [List.take_add_one, List.getD, List.getElem?_eq_getElem h]; rfl
theorem ladPre_turn {l : List Int} (h : LadPre l) (hlt : l.length < 41) : LadPre (l ++ [l.getD (-1 + (l.length : Int)).toNat 0 + l.getD (-2 + (l.length : Int)).toNat 0]) := by
  obtain ⟨h2, h41, hp⟩ := h
  generalize hn : l.length = n at *
  have e1 : (-1 + (n : Int)).toNat = n - 2 + 1 := by omega
  have e2 : (-2 + (n : Int)).toNat = n - 2 := by omega
  have hs := lad_step (n - 2) (by omega)
  have e3 : n - 2 + 2 = n := by omega
  rw [e3] at hs
  have hL : ladL.length = 41 := rfl
  rw [e1, e2]
  refine ⟨by simp [hn]; omega, by simp [hn]; omega, ?_⟩
  have q : l.getD (n - 2 + 1) 0 + l.getD (n - 2) 0 = ladL.getD n 0 := by
    rw [hp, getD_take (by omega), getD_take (by omega), hs]
  rw [q, List.length_append, List.length_singleton, hn, ← take_snoc (by omega), ← hp]
theorem ladPre_end {l : List Int} (h : LadPre l) (hlt : ¬ (l.length : Int) < 41) : l = ladL := by
  obtain ⟨h2, h41, hp⟩ := h
  have : l.length = 41 := by omega
  rw [hp, this]; rfl
local macro_rules | `(tactic| walk_at "subscriptTail") => `(tactic| (k_here; (with_reducible show wpAny _ _ (subscriptTail _ _ (Value.ref _) (Value.int _ _)) _ _ _); (with_unfolding_all first
  | (refine' item_back1 ?k1 ?k2 ?k3 ?_ ?k6; (case k1 => assumption); (case k2 => first | is_list | exact News.isList (by k_asm) (by k_mem)); (case k3 => omega); (case k6 => with_unfolding_all rfl))
  | (refine' item_back2 ?k1 ?k2 ?k3 ?_ ?k6; (case k1 => assumption); (case k2 => first | is_list | exact News.isList (by k_asm) (by k_mem)); (case k3 => omega); (case k6 => with_unfolding_all rfl))); intro tI))
set_option maxRecDepth 100000 in
set_option maxHeartbeats 8000000 in
theorem ladder_walk (w : World) (mean : ExcName → Option Value) (mg mb : Str → Option Value) (news : List (Addr × Obj)) :
    Ctr w mean mg mb 8 260 [] news (fun v more => ∃ D vs c, v = .ref D ∧ more = [(D, listOf vs.toArray c)] ∧ IntsAre vs ladL ∧ ∀ p ∈ news, p.1 < D) := by
  unfold Ctr
  k_with_none
  w_top off
  k_fill
  intro dp un gd cn cs a ccd cl outer A₀ base h₀ L m s Q E hB hF hK hN hT hk hdp hun hret
  refine wpAny_call ?_
  k_dflt cell_enter
  repeat ((fail_if_success (with_reducible show wpAny _ _ (exec (PySem.Stmt.While _ _ _ _) _) _ _ _)); first | (k_unfold; (try dsimp only)) | walk1 | (dsimp only; walk1))
  rename Fr _ _ _ _ => F1
  rename News _ _ _ _ => N1
  refine ksw_while (LadLed _ news) (fun _ => []) (fun c => IntsAre c.1 c.2.1) [] (fun c => LadPre c.2.1) (fun c => 41 - c.2.1.length) ([_, _], [1, 2], 0) F1 N1 ?kf ?kk ?kp ?_
  case kf => exact .cons _ _ (.cons _ _ .nil)
  case kk => exact fun _ h => nomatch h
  case kp => exact ladPre_start
  rintro ⟨vs, ns, c⟩ u h tk hf hp F N
  clear F1 N1
  dsimp only [LadLed] at *
  have hlen := IntsAre.length hf
  obtain ⟨h2, h41, hpre⟩ := id hp
  k_steps
  · rename Fr _ _ _ _ => F2
    rename News _ _ _ _ => N2
    refine ksw_end (vs ++ [_], ns ++ [_], c + 1) F2 (led_snoc N2) (fun _ h => h) (ints_snoc hf) (fun _ h => nomatch h) ?_ (ladPre_turn hp (by omega)) ?_
    · intro z _ _; rfl
    · show 41 - (ns ++ [_]).length < 41 - ns.length
      rw [List.length_append, List.length_singleton]; omega
  · rename_i kF kN _ _
    refine hret _ [_] _ _ ⟨_, _, _, rfl, rfl, ladPre_end hp (by omega) ▸ hf, by assumption⟩ kF kN
end Mine
namespace Mine
theorem tab4_low {x : Nat} (h : (x : Int) < 64976) : tab4 x = false := by
  unfold tab4
  rw [if_pos (by omega)]
theorem tab4_mid {x : Nat} (h0 : ¬ (x : Int) < 64976) (h : (x : Int) < 65008) : tab4 x = true := by
  unfold tab4
  rw [if_neg (by omega), if_pos (by omega)]
theorem tab4_high {x : Nat} (h : ¬ (x : Int) < 65008) : tab4 x = ([65534, 65535].any fun y => y == Builtin.bitAnd (x : Int) 65535) := by
  unfold tab4
  rw [if_neg (by omega), if_neg (by omega), bitAnd_m16]
  rw [Bool.eq_iff_iff]
  simp
  omega
set_option maxRecDepth 100000 in
set_option maxHeartbeats 8000000 in
theorem table_walk (w : World) (mean : ExcName → Option Value) (mg mb : Str → Option Value) (news : List (Addr × Obj)) (x : Nat) (t : Tok) :
    Ctr w mean mg mb 8 28 [.str ⟨#[x]⟩ t] news (fun v more => v = .bool (tab4 x) ∧ more = []) := by
  unfold Ctr
  k_with_none
  w_top off
  k_fill
  intro dp un gd cn cs a ccd cl outer A₀ base h₀ L m s Q E hB hF hK hN hT hk hdp hun hret
  refine wpAny_call ?_
  k_dflt cell_enter

  k_steps
  · rename_i hlt _ _ kF kN _ _
    exact hret _ [] _ _ ⟨by rw [tab4_low (by assumption)], rfl⟩ kF kN
  · rename_i kF kN _ _
    exact hret _ [] _ _ ⟨by rw [tab4_mid (by assumption) (by assumption)], rfl⟩ kF kN
  · rename_i kF kN _ _
    exact hret _ [] _ _ ⟨by rw [tab4_high (by assumption)], rfl⟩ kF fun p hp => kN p (List.mem_cons_of_mem _ hp)
end Mine
namespace Mine
local macro_rules | `(tactic| walk_at $s:str) => `(tactic| k_extra $s) -- shared
local macro_rules | `(tactic| walk_at "mine tail b") => `(tactic| (rintro _ _ hN tkN ⟨hv, hm⟩ kF kN; subst hv; subst hm; (try dsimp only [List.nil_append] at kN); (try dsimp only); (try k_fold))) -- shared
noncomputable def decOne (c : Int) : List Int := if tab4 c.toNat then [if c < 65008 then c - 64976 else 32 + c.fdiv 65536 * 2 + c.fmod 2] else []
inductive RunPre : List Int → List Int → Prop
  | nil : RunPre [] []
  | step {pre rs : List Int} {n : Int} : RunPre pre rs → RunPre (pre ++ [n]) (rs ++ decOne n)
theorem run_eq {pre rs : List Int} (h : RunPre pre rs) : rs = pre.flatMap decOne := by
  induction h with
  | nil => rfl
  | step _ ih => rw [ih, List.flatMap_append]; simp
theorem run_low {pre rs : List Int} {q : Nat} (h : RunPre pre rs) (ht : (tab4 q == true) = true) (hq : (q : Int) < 65008) : RunPre (pre ++ [(q : Int)]) (rs ++ [(q : Int) - 64976]) := by
  have e : decOne (q : Int) = [(q : Int) - 64976] := by
    unfold decOne
    rw [Int.toNat_natCast, if_pos (by simpa using ht), if_pos hq]
  rw [← e]
  exact .step h
theorem run_high {pre rs : List Int} {q : Nat} (h : RunPre pre rs) (ht : (tab4 q == true) = true) (hq : ¬ (q : Int) < 65008) : RunPre (pre ++ [(q : Int)]) (rs ++ [32 + (q : Int).fdiv 65536 * 2 + (q : Int).fmod 2]) := by
  have e : decOne (q : Int) = [32 + (q : Int).fdiv 65536 * 2 + (q : Int).fmod 2] := by
    unfold decOne
    rw [Int.toNat_natCast, if_pos (by simpa using ht), if_neg hq]
  rw [← e]
  exact .step h
theorem run_off {pre rs : List Int} {q : Nat} (h : RunPre pre rs) (ht : (tab4 q == true) = false) : RunPre (pre ++ [(q : Int)]) rs := by
  have e : decOne (q : Int) = [] := by
    unfold decOne
    rw [Int.toNat_natCast, if_neg (by simpa using ht)]
  have := RunPre.step (n := (q : Int)) h
  rw [e, List.append_nil] at this
  exact this
theorem bool_absurd {b : Bool} (h1 : (b == true) = false) (h2 : (b != false) = true) : False := by cases b <;> simp_all
theorem rl_in (p : Addr × Obj) (news own : List (Addr × Obj)) : ∀ q ∈ p :: news, q ∈ p :: (news ++ own) := fun q hq => by
  rcases List.mem_cons.mp hq with rfl | hq
  · exact .head _
  · exact List.mem_cons_of_mem _ (List.mem_append_left _ hq)
theorem rl_own (p : Addr × Obj) (news own : List (Addr × Obj)) : ∀ q ∈ own, q ∈ p :: (news ++ own) := fun q hq => List.mem_cons_of_mem _ (List.mem_append_right _ hq)
theorem decOne_len (n : Int) : (decOne n).length ≤ 1 := by unfold decOne; split <;> simp
theorem run_len {pre rs : List Int} (h : RunPre pre rs) : rs.length ≤ pre.length := by
  induction h with
  | nil => simp
  | @step pre rs n _ ih => have := decOne_len n; simp; omega
theorem run_size {pre rs post : List Int} {q : Int} {z : Str} {k : Nat} (h : RunPre pre rs) (e : KStt.codes z = pre ++ q :: post) (hz : z.length ≤ k) : rs.length ≤ k := by
  have h1 := run_len h
  have h2 := congrArg List.length e
  rw [KStt.codes_length, List.length_append, List.length_cons] at h2
  omega
set_option maxRecDepth 100000 in
set_option maxHeartbeats 8000000 in
theorem rungs_walk (w : World) (mean : ExcName → Option Value) (mg mb : Str → Option Value) (news : List (Addr × Obj)) (x y : Str) (t u : Tok) (hx : x.length ≤ 1000) (hy : y.length = 1) :
    Ctr w mean mg mb 16 274 [.str x t, .str y u] news (fun v more => ∃ (D : Addr) (vs : List Value) (c : Nat), v = .ref D ∧ more = [(D, listOf vs.toArray c)] ∧ IntsAre vs ((KStt.codes (x ++ y)).flatMap decOne) ∧ ∀ p ∈ news, p.1 < D) := by
  unfold Ctr
  k_with_none
  w_top off
  k_fill
  k_with "exec For" => (k_here; (rename Fr _ _ _ _ => lF'); (with_unfolding_all refine' For_invVF lF' ?k1 ?k2 ?_; (case k1 => exact rfl); (case k2 => exact rfl); k_whole))
  k_with "call ref" => (k_here; (with_reducible show wpAny _ _ (call (Value.ref 28) [Value.str ⟨#[_]⟩ _]) _ _ _); (have hC := table_walk); unfold Ctr at hC; (refine' hC _ _ _ _ _ _ _ _ _ _ _ _ _ _ _ _ _ _ _ _ _ _ _ _ ?k1 ?k2 ?k3 ?k4 ?k5 ?k6 ?k7 ?k8 ?_; (case k1 => k_asm); (case k2 => k_asm); (case k3 => k_asm); (case k4 => k_asm); (case k5 => k_asm); (case k6 => exact rfl); (case k7 => ktr_room); (case k8 => ktr_units)); clear hC; walk_at "mine tail b")
  intro dp un gd cn cs a ccd cl outer A₀ base h₀ L m s Q E hB hF hK hN hT hk hdp hun hret
  refine wpAny_call ?_
  k_dflt cell_enter
  repeat ((fail_if_success (with_reducible show wpAny _ _ (pyIter (Value.str _ _)) _ _ _)); first | (k_unfold; (try dsimp only)) | walk1 | (dsimp only; walk1))
  rename Fr _ _ _ _ => F1
  rename News _ _ _ _ => N1
  refine KStt.kst_text (LadLed _ news) (fun _ => []) (fun c => IntsAre c.1 c.2.1) [Str.ofString "told", Str.ofString "code"] (fun pre c => RunPre pre c.2.1) ([], [], 0) (by rfl) F1 N1 .nil (fun _ h => nomatch h) .nil ?_ ?_
  · rintro ⟨vs, ns, c⟩ pre post q tq uu h tk own hcut hoff hf hp F N
    clear F1 N1
    simp only [LadLed, List.cons_append, List.map_cons] at hoff N
    have hlen := IntsAre.length hf
    have hMk := kstMark
    have hsz : vs.length ≤ 1001 := by rw [hlen]; exact run_size hp hcut (by rw [Str.length_append]; omega)
    k_steps
    · rename Fr _ _ _ _ => F2
      rename News _ _ _ _ => N2
      refine kst_end (vs ++ [_], ns ++ [_], c + 1) F2 (led_snoc N2) (rl_in _ _ _) (rl_own _ _ _) rfl (ints_snoc hf) (fun _ h => nomatch h) ?_ (run_low hp (by assumption) (by assumption))
      intro z h1 h2 h3
      simp only [List.contains_cons, List.contains_nil, Bool.or_false, Bool.or_eq_false_iff, beq_eq_false_iff_ne, ne_eq] at h3
      simp [h1, h3, kstB]
    · rename Fr _ _ _ _ => F2
      rename News _ _ _ _ => N2
      refine kst_end (vs ++ [_], ns ++ [_], c + 1) F2 (led_snoc N2) (rl_in _ _ _) (rl_own _ _ _) rfl (ints_snoc hf) (fun _ h => nomatch h) ?_ (run_high hp (by assumption) (by assumption))
      intro z h1 h2 h3
      simp only [List.contains_cons, List.contains_nil, Bool.or_false, Bool.or_eq_false_iff, beq_eq_false_iff_ne, ne_eq] at h3
      simp [h1, h3, kstB]
    · exact (bool_absurd (by assumption) (by assumption)).elim
    · rename Fr _ _ _ _ => F2
      rename News _ _ _ _ => N2
      refine kst_end (vs, ns, c) F2 N2 (rl_in _ _ _) (rl_own _ _ _) rfl hf (fun _ h => nomatch h) ?_ (run_off hp (by assumption))
      intro z h1 h2 h3
      simp only [List.contains_cons, List.contains_nil, Bool.or_false, Bool.or_eq_false_iff, beq_eq_false_iff_ne, ne_eq] at h3
      simp [h1, h3, kstB]
  · rintro ⟨vs, ns, c⟩ uu h tk hf hp F N
    clear F1 N1
    k_steps
    rename_i kF kN _ _
    exact hret _ [_] _ _ ⟨_, _, _, rfl, rfl, run_eq hp ▸ hf, by assumption⟩ kF kN
end Mine
namespace Mine
set_option maxRecDepth 100000 in
set_option maxHeartbeats 8000000 in
theorem coll_walk (w : World) (mean : ExcName → Option Value) (mg mb : Str → Option Value) (news : List (Addr × Obj)) (x y : Str) (t u : Tok) :
    Ctr w mean mg mb 8 42 [.str x t, .str y u] news (fun v more => ∃ t, v = .int (b2i (decide (y.cps.toList < x.cps.toList)) - b2i (decide (x.cps.toList < y.cps.toList))) t ∧ more = []) := by
  unfold Ctr
  k_with_none
  w_top off
  k_fill
  intro dp un gd cn cs a ccd cl outer A₀ base h₀ L m s Q E hB hF hK hN hT hk hdp hun hret
  refine wpAny_call ?_
  k_dflt cell_enter

  k_steps
  · rename_i kF kN _ _
    exact hret _ [] _ _ ⟨_, rfl, rfl⟩ kF kN
end Mine
namespace Mine
noncomputable def apb (d : Nat) : UInt8 := (65 + d).toUInt8
/-- the letters of a number to the base 16, the greatest place first -/
noncomputable def apl (n : Nat) : List UInt8 := if n = 0 then [] else apl (n / 16) ++ [apb (n % 16)]
termination_by n
decreasing_by omega
theorem apl_zero : apl 0 = [] := by rw [apl]; rfl
theorem apl_pos {n : Nat} (h : n ≠ 0) : apl n = apl (n / 16) ++ [apb (n % 16)] := by rw [apl, if_neg h]
noncomputable abbrev apA : Array UInt8 := #[65, 66, 67, 68, 69, 70, 71, 72, 73, 74, 75, 76, 77, 78, 79, 80]
theorem picked_all : ∀ n : Fin 16, KBy.picked apA (some ((n.val : Nat) : Int)) (some (((n.val : Nat) : Int) + 1)) = #[apb n.val] := by decide +kernel
theorem picked_ap {k : Int} (h0 : 0 ≤ k) (h1 : k < 16) : KBy.picked apA (some k) (some (k + 1)) = #[apb k.toNat] := by
  obtain ⟨n, rfl⟩ : ∃ n : Nat, k = (n : Int) := ⟨k.toNat, by omega⟩
  exact picked_all ⟨n, by omega⟩
section
variable {prog : Program} {w : World} {A : Around} {E : Value → Shared → Prop} {s : Shared} {value slice : PySem.Expr} {t : Tok} {h₀ : Heap} {L : Addr} {m : PySem.Str → Option Value} {news : List (Addr × Obj)} {ui uj : Tok} {Q : Value → Shared → Prop} {k : Int}
theorem ap_slice (hF : Fr h₀ L s.heap m) (hN : News h₀ L s.heap news) (h0 : 0 ≤ k) (h1 : k < 16)
    (h : ∀ h' t' c, Fr h₀ L h' m → News h₀ L h' news → Q (.bytes #[apb k.toNat] t') { s with heap := h', toks := c })
    (hs : subscripted slice false (.bytes apA t) (.ref s.heap.objs.size) = operate [.ref s.heap.objs.size, .bytes apA t] (getItem (.bytes apA t) (.ref s.heap.objs.size)) := by with_unfolding_all rfl)
    (ht : ∀ r, letTemporaryGo value (.bytes apA t) r = pure () := by intro _; with_unfolding_all rfl) :
    wpAny (model prog w) A (subscriptTail value slice (.bytes apA t) (.ref s.heap.objs.size)) Q E { s with heap := s.heap.push { cls := .type "slice", data := .fields #[.int k ui, .int (k + 1) uj, .none] } } := by
  refine KBc.slice_K (lo := some k) (hi := some (k + 1)) hF hN rfl (by constructor) (by constructor) (by decide) (fun h' t' c F' N' _ => ?_) hs ht
  rw [picked_ap h0 h1]
  exact h h' t' c F' N'
theorem add_bytes {b c : Array UInt8} {u : Tok} (hsz : b.size + c.size ≤ 16777216) (h : ∀ t' k, Q (.bytes (b ++ c) t') { s with toks := k }) : wpAny (model prog w) A (binaryOp .Add (.bytes b t) (.bytes c u)) Q E s :=
  KBa.add_K rfl rfl (by rw [KBw.ints_length, KBw.ints_length]; exact hsz) fun t' k _ => h t' k
end
theorem fmod16_lo (x : Int) : 0 ≤ x.fmod 16 := Int.fmod_nonneg_of_pos _ (by decide)
theorem fmod16_hi (x : Int) : x.fmod 16 < 16 := Int.fmod_lt_of_pos _ (by decide)
theorem ap_meas {num : Int} (h0 : 0 ≤ num) (hne : num ≠ 0) : (num.fdiv 16).toNat < num.toNat := by
  rw [Int.fdiv_eq_ediv_of_nonneg _ (by omega)]
  omega
theorem ap_end {N : Nat} {num : Int} {val : Array UInt8} (h0 : num = 0) (h : apl num.toNat ++ val.toList = apl N) : val = (apl N).toArray := by
  subst h0
  rw [← h]
  show val = (apl 0 ++ val.toList).toArray
  rw [apl_zero]
  simp
theorem ap_start {n : Int} (hb : (apl n.natAbs).length ≤ 1000) : 0 ≤ (if n < 0 then -n else n) ∧ (#[] : Array UInt8).size ≤ 1000 ∧ apl (if n < 0 then -n else n).toNat ++ (#[] : Array UInt8).toList = apl n.natAbs := by
  have e : (if n < 0 then -n else n).toNat = n.natAbs := by split <;> omega
  refine ⟨by split <;> omega, by simp, ?_⟩
  rw [e]; simp
theorem ap_turn {N : Nat} {num : Int} {val : Array UInt8} (hb : (apl N).length ≤ 1000) (h0 : 0 ≤ num) (hne : num ≠ 0) (h : apl num.toNat ++ val.toList = apl N) :
    0 ≤ num.fdiv 16 ∧ (#[apb (num.fmod 16).toNat] ++ val).size ≤ 1000 ∧ apl (num.fdiv 16).toNat ++ (#[apb (num.fmod 16).toNat] ++ val).toList = apl N := by
  have e1 : num.fdiv 16 = num / 16 := Int.fdiv_eq_ediv_of_nonneg _ (by omega)
  have e2 : num.fmod 16 = num % 16 := Int.fmod_eq_emod_of_nonneg _ (by omega)
  rw [e1, e2]
  have e3 : (num / 16).toNat = num.toNat / 16 := by omega
  have e4 : (num % 16).toNat = num.toNat % 16 := by omega
  rw [e3, e4]
  rw [apl_pos (by omega)] at h
  have hl := congrArg List.length h
  simp at hl
  refine ⟨by omega, by simp; omega, ?_⟩
  rw [← h]
  simp
end Mine
namespace Mine
theorem apb_ne {d : Nat} (h0 : 0 < d) (h1 : d < 16) : apb d ≠ 65 := by
  have : ∀ d : Fin 16, 0 < d.val → apb d.val ≠ 65 := by decide +kernel
  exact this ⟨d, h1⟩ h0
theorem apl_head : ∀ n : Nat, (apl n).head? ≠ some 65 := by
  intro n
  induction n using Nat.strongRecOn with
  | ind n ih =>
    by_cases h0 : n = 0
    · subst h0; rw [apl_zero]; simp
    · rw [apl_pos h0]
      by_cases h1 : n / 16 = 0
      · rw [h1, apl_zero]
        simp only [List.nil_append, List.head?_cons, ne_eq, Option.some.injEq]
        exact apb_ne (by omega) (by omega)
      · have := ih (n / 16) (by omega)
        have hne : apl (n / 16) ≠ [] := by
          rw [apl_pos h1]; simp
        cases hc : apl (n / 16) with
        | nil => exact absurd hc hne
        | cons x r => rw [hc] at this; exact this
theorem apl_take (n : Nat) : (((apl n).take 1).toArray.toList == (#[65] : Array UInt8).toList) = false := by
  have := apl_head n
  cases h : apl n with
  | nil => decide
  | cons x r =>
    rw [h] at this
    simp only [List.head?_cons, ne_eq, Option.some.injEq] at this
    simp [this]
section
variable {prog : Program} {w : World} {A : Around} {E : Value → Shared → Prop} {s : Shared} {value slice : PySem.Expr} {t u : Tok} {h₀ : Heap} {L : Addr} {m : PySem.Str → Option Value} {news : List (Addr × Obj)} {ui : Tok} {Q : Value → Shared → Prop} {l : List UInt8}
theorem word_slice (hF : Fr h₀ L s.heap m) (hN : News h₀ L s.heap news) (hz : l.length ≤ 1000)
    (h : ∀ h' t' c, Fr h₀ L h' m → News h₀ L h' news → Q (.bytes (l.take 1).toArray t') { s with heap := h', toks := c })
    (hs : subscripted slice false (.bytes l.toArray t) (.ref s.heap.objs.size) = operate [.ref s.heap.objs.size, .bytes l.toArray t] (getItem (.bytes l.toArray t) (.ref s.heap.objs.size)) := by with_unfolding_all rfl)
    (ht : ∀ r, letTemporaryGo value (.bytes l.toArray t) r = pure () := by intro _; with_unfolding_all rfl) :
    wpAny (model prog w) A (subscriptTail value slice (.bytes l.toArray t) (.ref s.heap.objs.size)) Q E { s with heap := s.heap.push { cls := .type "slice", data := .fields #[.none, .int 1 ui, .none] } } := by
  refine KBc.slice_K (lo := none) (hi := some 1) hF hN rfl (by constructor) (by constructor) (by rw [KBw.ints_length, List.size_toArray]; omega) (fun h' t' c F' N' _ => ?_) hs ht
  have e : KBy.picked l.toArray none (some 1) = (l.take 1).toArray := by
    rw [KBc.picked_eq]
    simp only [Option.elim, List.drop_zero, Nat.sub_zero]
    rw [KBc.clip_lit]
    congr 1
    show l.take (min 1 l.toArray.size) = _
    rw [List.size_toArray]
    cases l with
    | nil => rfl
    | cons x r => rw [Nat.min_eq_left (by simp)]
  rw [e]
  exact h h' t' c F' N'
theorem word_eq {n : Nat} {W : List UInt8} (e : W = apl n) (h : Q (.bool false) s) : wpAny (model prog w) A (compareOp .Eq (.bytes (W.take 1).toArray t) (.bytes #[65] u)) Q E s :=
  eq_bytes (by rw [e, apl_take]; exact h)
end
end Mine
namespace Mine
/-- the letter at place k of a word, from its end -/
noncomputable def wAt (l : List UInt8) (k : Nat) : Int := ((l.reverse.getD k 0).toNat : Int)
theorem wAt_eq {l : List UInt8} {k : Nat} (h : k < l.length) : (KBw.bInts l.toArray).getD (l.length - 1 - k) 0 = wAt l k := by
  unfold wAt KBw.bInts
  rw [List.getD, List.getElem?_eq_getElem (by simp; omega)]
  rw [List.getD, List.getElem?_eq_getElem (by simp; omega)]
  simp
theorem word_item {prog : Program} {w : World} {A : Around} {E : Value → Shared → Prop} {s : Shared} {value slice : PySem.Expr} {t : Tok} {l : List UInt8} {k : Int} {ui : Tok} {Q : Value → Shared → Prop}
    (h0 : 0 ≤ k) (h1 : k < (l.length : Int)) (hz : l.length ≤ 39)
    (h : ∀ t' c, 0 ≤ wAt l k.toNat → wAt l k.toNat < 256 → Q (.int (wAt l k.toNat) t') { s with toks := c })
    (hs : subscripted slice false (.bytes l.toArray t) (.int (-1 - k) ui) = operate [.bytes l.toArray t, .int (-1 - k) ui] (getItem (.bytes l.toArray t) (.int (-1 - k) ui)) := by with_unfolding_all rfl)
    (ht : ∀ r, letTemporaryGo value (.bytes l.toArray t) r = pure () := by intro _; with_unfolding_all rfl) :
    wpAny (model prog w) A (subscriptTail value slice (.bytes l.toArray t) (.int (-1 - k) ui)) Q E s := by
  have hl : (KBw.bInts l.toArray).length = l.length := by rw [KBw.ints_length, List.size_toArray]
  refine KBc.itemR_K rfl (by rw [hl]; omega) (by rw [hl]; omega) (by omega) (fun t' c g0 g1 => ?_) hs ht
  rw [hl] at g0 g1 ⊢
  have e : (-1 - k + (l.length : Int)).toNat = l.length - 1 - k.toNat := by omega
  rw [e, wAt_eq (by omega)] at g0 g1 ⊢
  exact h t' c g0 g1
theorem lad_bound : ∀ k : Fin 41, -1000000000 ≤ lad k.val ∧ lad k.val ≤ 1000000000 := by decide +kernel
theorem sm_lad (k : Nat) : Sm (lad k) := by
  by_cases h : k < 41
  · have : -1000000000 ≤ lad k ∧ lad k ≤ 1000000000 := lad_bound ⟨k, h⟩
    exact Nat.lt_of_le_of_lt (show (lad k).natAbs ≤ 1000000000 by omega) (by decide +kernel)
  · have e : lad k = 0 := by
      unfold lad
      rw [List.getD, List.getElem?_eq_none (by show 41 ≤ k; omega)]
      rfl
    rw [e]
    exact sm_of (by decide +kernel)
end Mine
namespace Mine
def ApShort (x : Int) : Prop := (apl x.natAbs).length ≤ 39
theorem ApShort.out {x : Int} (h : ApShort x) : (apl x.natAbs).length ≤ 1000 := Nat.le_trans h (by decide)
theorem ApShort.le {x : Int} {W : List UInt8} (h : ApShort x) (e : W = apl x.natAbs) : W.length ≤ 39 := by rw [e]; exact h
end Mine
namespace Mine
theorem word_hi {k : Int} {n : Nat} (h : k < 0 + ((((n : Int) - 0).toNat : Nat) : Int)) : k < (n : Int) := by omega
theorem lad_lo {k : Int} (h : 0 ≤ k) : 0 ≤ k + 2 := by omega
theorem lad_hi {k : Int} {n : Nat} (h : k < 0 + ((((n : Int) - 0).toNat : Nat) : Int)) (hn : n ≤ 39) : k + 2 < 41 := by omega
theorem sm_letter {x y : Int} (h0 : 0 ≤ x) (h1 : x < 256) (h2 : 0 ≤ y) (h3 : y ≤ 9) : Sm (x - 65 - y) := sm_abs (by omega) (by omega)
end Mine
namespace Mine
/-- what the law reads off a word -/
noncomputable def wordVal (W : List UInt8) (lift : Int) : Int := ((rangeKs 0 W.length).map fun k' => (wAt W k'.toNat - 65 - lift) * lad (k' + 2).toNat).sum
theorem wAt_range (l : List UInt8) (k : Nat) : 0 ≤ wAt l k ∧ wAt l k < 256 := by
  unfold wAt
  have := (l.reverse.getD k 0).toNat_lt
  omega
theorem wordVal_if {W : List UInt8} {lift : Int} : (List.map (fun k' => if 0 ≤ wAt W k'.toNat ∧ wAt W k'.toNat < 256 then (wAt W k'.toNat - 65 - lift) * lad (k' + 2).toNat else k') (rangeKs 0 (((W.length : Nat) : Int) - 0).toNat)).sum = wordVal W lift := by
  unfold wordVal
  have e : (((W.length : Nat) : Int) - 0).toNat = W.length := by omega
  rw [e]
  exact congrArg List.sum (List.map_congr_left fun k _ => if_pos (wAt_range _ _))
end Mine
namespace Mine
local macro_rules | `(tactic| walk_at $s:str) => `(tactic| k_extra $s) -- shared
set_option maxRecDepth 100000 in
set_option maxHeartbeats 8000000 in
theorem ap_walk (w : World) (mean : ExcName → Option Value) (mg mb : Str → Option Value) (news : List (Addr × Obj)) (n : Int) (t : Tok) (hb : (apl n.natAbs).length ≤ 1000) :
    Ctr w mean mg mb 8 35 [.int n t] news (fun v more => ∃ W t, W = apl n.natAbs ∧ v = .bytes W.toArray t ∧ more = []) := by
  unfold Ctr
  k_with_none
  w_top off
  k_fill
  k_with "subscriptTail" => (k_here; (with_reducible show wpAny _ _ (subscriptTail _ (Expr.Slice _ _ none _) (Value.bytes _ _) (Value.ref _)) _ _ _); (with_reducible rename Fr _ _ _ _ => F'); (with_reducible rename News _ _ _ _ => N'); (refine ap_slice (s := ⟨_, _, _, _, _⟩) F' N' (fmod16_lo _) (fmod16_hi _) ?_); intro _ _ _ _ _)
  k_with "binaryOp Add bytes bytes" => (k_here; (refine add_bytes (by simp; omega) ?_); intro _ _)
  intro dp un gd cn cs a ccd cl outer A₀ base h₀ L m s Q E hB hF hK hN hT hk hdp hun hret
  refine wpAny_call ?_
  k_dflt cell_enter
  k_with "state" => first | exact ap_start hb | exact ap_turn hb (by assumption) (by assumption) (by assumption)
  k_with "measure" => exact ap_meas (by assumption) (by assumption)
  k_with "exec While Name cons nil" => k_while (fun (_ : List Int) num val => 0 ≤ num ∧ val.size ≤ 1000 ∧ apl num.toNat ++ val.toList = apl n.natAbs) (fun (_ : List Int) num val => num.toNat) "num" "val"
  k_steps
  · rename_i kF kN _ _
    have e := ap_end (by assumption) (by assumption)
    exact hret _ [] _ _ ⟨_, _, rfl, by rw [e], rfl⟩ kF kN
end Mine
namespace Mine
local macro_rules | `(tactic| walk_at $s:str) => `(tactic| k_extra $s) -- shared
local macro_rules | `(tactic| walk_at "mine tail c") => `(tactic| (rintro _ _ hN tkN ⟨W, tN, hW, hv, hm⟩ kF kN; subst hv; subst hm; (have hWl := ApShort.le (by assumption) hW); (try dsimp only [List.nil_append] at kN); (try dsimp only); (try k_fold))) -- shared
theorem times_in (a1 a2 a3 a4 a5 a6 a7 a8 a9 : Addr × Obj) (news : List (Addr × Obj)) {p : Addr × Obj} (h : p ∈ news) : p ∈ a1 :: a2 :: a3 :: a4 :: a5 :: a6 :: a7 :: a8 :: a9 :: news := by
  simp [h]
theorem off3 {L : Addr} : ∀ {news : List (Addr × Obj)}, AllLt L news → OwnOff news [L + 1, L + 1 + 1, L + 1 + 1 + 1]
  | [], _ => fun p hp => nomatch hp
  | q :: r, h => fun p hp a ha => by
    rcases List.mem_cons.mp hp with rfl | hp
    · have h1 : @LT.lt Nat _ p.1 L := h.1
      rcases List.mem_cons.mp ha with rfl | ha
      · exact Nat.ne_of_lt (Nat.lt_succ_of_lt h1)
      rcases List.mem_cons.mp ha with rfl | ha
      · exact Nat.ne_of_lt (Nat.lt_succ_of_lt (Nat.lt_succ_of_lt h1))
      rcases List.mem_cons.mp ha with rfl | ha
      · exact Nat.ne_of_lt (Nat.lt_succ_of_lt (Nat.lt_succ_of_lt (Nat.lt_succ_of_lt h1)))
      · exact nomatch ha
    · exact off3 h.2 p hp a ha
set_option maxRecDepth 100000 in
set_option maxHeartbeats 8000000 in
theorem times_walk (w : World) (mean : ExcName → Option Value) (mg mb : Str → Option Value) (news : List (Addr × Obj)) (l1 l2 l : Addr) (v1 v2 vs : List Value) (n1 n2 : List Int) (c1 c2 c way lift : Int) (c1 c2 c : Nat) (tw tl : Tok)
    (hl1 : (l1, listOf v1.toArray c1) ∈ news) (hi1 : IntsAre v1 n1) (hr1 : ∀ r ∈ n1, 0 ≤ r ∧ r ≤ 40) (hz1 : n1.length ≤ 41)
    (hl2 : (l2, listOf v2.toArray c2) ∈ news) (hi2 : IntsAre v2 n2) (hr2 : ∀ r ∈ n2, 0 ≤ r ∧ r ≤ 40) (hz2 : n2.length ≤ 41)
    (hl : (l, listOf vs.toArray c) ∈ news) (hi : IntsAre vs ladL) (hw0 : -1 ≤ way) (hw1 : way ≤ 1) (hl0 : 0 ≤ lift) (hl9 : lift ≤ 9)
    (hs1 : Sm (n1.map fun k' => 16 ^ k'.toNat).sum) (hs2 : Sm (n2.map fun k' => 16 ^ k'.toNat).sum)
    (hX : Sm ((16 ^ Int.toNat 37 : Int).fdiv 15 * lift + (n1.map fun k' => 16 ^ k'.toNat).sum * (n2.map fun k' => 16 ^ k'.toNat).sum))
    (hlen : ApShort (way * ((16 ^ Int.toNat 37 : Int).fdiv 15 * lift + (n1.map fun k' => 16 ^ k'.toNat).sum * (n2.map fun k' => 16 ^ k'.toNat).sum))) :
    Ctr w mean mg mb 16 279 [.ref l1, .ref l2, .int way tw, .int lift tl, .ref l] news (fun v more => ∃ t, v = .int (wordVal (apl (way * ((16 ^ Int.toNat 37 : Int).fdiv 15 * lift + (n1.map fun k' => 16 ^ k'.toNat).sum * (n2.map fun k' => 16 ^ k'.toNat).sum)).natAbs) lift) t ∧ more = []) := by
  unfold Ctr
  k_with_none
  w_top off
  k_fill
  k_with "binaryOp Pow int int" => (k_here; refine pow16_of (by assumption) (by assumption) ?_)
  k_with "binaryOp Mult int int" => (k_here; refine mul_small (by first | assumption | exact sm_letter (by assumption) (by assumption) (by assumption) (by assumption) | with_reducible exact sm_lad _ | exact sm_of (by decide +kernel) | exact sm_abs (by omega) (by omega)) (by first | assumption | exact sm_letter (by assumption) (by assumption) (by assumption) (by assumption) | with_reducible exact sm_lad _ | exact sm_of (by decide +kernel) | exact sm_abs (by omega) (by omega)) ?_)
  k_with "call type:type" => (k_here; (with_reducible show wpAny _ _ (call (Value.type "type") [Value.bytes _ _]) _ _ _); refine type_bytes ?_)
  k_with "subscriptTail" => (k_here; (with_reducible show wpAny _ _ (subscriptTail _ (Expr.Slice _ _ none _) (Value.bytes _ _) (Value.ref _)) _ _ _); (with_reducible rename Fr _ _ _ _ => F'); (with_reducible rename News _ _ _ _ => N'); (refine word_slice (s := ⟨_, _, _, _, _⟩) F' N' (by omega) ?_); intro _ _ _ _ _)
  k_with "compareOp Eq bytes bytes" => (k_here; refine word_eq (by assumption) ?_)
  k_with "subscriptTail" => (k_here; (with_reducible show wpAny _ _ (subscriptTail _ _ (Value.bytes _ _) (Value.int _ _)) _ _ _); (refine word_item (by assumption) (word_hi (by assumption)) (by assumption) ?_); intro _ _ hwA hwB)
  k_with "subscriptTail" => (k_here; (with_reducible show wpAny _ _ (subscriptTail _ _ (Value.ref _) (Value.int _ _)) _ _ _); (with_unfolding_all refine' item_lad ?k1 ?k2 ?k3 ?k4 ?_ ?k6; (case k1 => with_reducible assumption); (case k2 => first | is_list | exact News.isList (by k_asm) (by k_mem)); (case k3 => exact lad_lo (by assumption)); (case k4 => exact lad_hi (by assumption) (by assumption)); (case k6 => with_unfolding_all rfl)); intro tI)
  k_with "call ref" => (k_here; (with_reducible show wpAny _ _ (call (Value.ref 35) [Value.int _ _]) _ _ _); (have hC := ap_walk); unfold Ctr at hC; (refine' hC _ _ _ _ _ _ _ ?kx _ _ _ _ _ _ _ _ _ _ _ _ _ _ _ _ _ ?k1 ?k2 ?k3 ?k4 ?k5 ?k6 ?k7 ?k8 ?_; (case k1 => k_asm); (case k2 => k_asm); (case k3 => k_asm); (case k4 => k_asm); (case k5 => k_asm); (case k6 => exact rfl); (case k7 => ktr_room); (case k8 => ktr_units); (case kx => exact ApShort.out (by assumption))); clear hC; walk_at "mine tail c")
  intro dp un gd cn cs a ccd cl outer A₀ base h₀ L m s Q E hB hF hK hN hT hk hdp hun hret
  replace hN : News h₀ L s.heap ((l1, listOf v1.toArray c1) :: (l2, listOf v2.toArray c2) :: (l, listOf vs.toArray c) :: news) := fun p hp => by
    rcases List.mem_cons.mp hp with rfl | hp
    · exact hN _ hl1
    rcases List.mem_cons.mp hp with rfl | hp
    · exact hN _ hl2
    rcases List.mem_cons.mp hp with rfl | hp
    · exact hN _ hl
    exact hN p hp
  refine wpAny_call ?_
  k_dflt (refine' code_defC ?k1 ?k2 ?k3 ?k4 ?k5 ?kA ?kF ?kK ?k6 ?k7 ?k8 ?k9 ?kB ?kD ?_ ?c2 ?c3 ?c4; (case kA => exact rfl); (case kF => exact rfl); (case kK => assumption); (case k1 => k_asm); (case k2 => k_asm); (case k3 => k_asm); (case k4 => k_asm); (case k5 => k_asm); (case k6 => k_is); (case k7 => k_is); (case k8 => ktr_room); (case k9 => exact BindsTo.of_eq rfl); (case kB => exact rfl); (case kD => decide +kernel); (case c2 => exact rfl); (case c3 => exact rfl); (case c4 => exact rfl); k_whole; intro g' L' h' tk' cells' FG' F' N' Y' B' X' T' l1; (try k_lt l1); k_cells Y'; (try simp only [List.cons_append, List.nil_append] at N'); (try dsimp only); (try k_lift B'); (try k_fold))
  have hoff : OwnOff news [L' + 1, L' + 1 + 1, L' + 1 + 1 + 1] := off3 l1.2.2.2
  k_steps
  · rename_i kF kN _ _
    rename (_ : List UInt8) = _ => hW
    refine hret _ [] _ _ ⟨_, by rw [wordVal_if, hW], rfl⟩ kF fun p hp => kN p (times_in _ _ _ _ _ _ _ _ _ _ hp)
end Mine
namespace Mine
theorem four_of {vs : List Value} {ns : List Int} (h : IntsAre vs ns) (hl : ns.length = 4) : ∃ c0 c1 c2 c3 t0 t1 t2 t3, vs = [.int c0 t0, .int c1 t1, .int c2 t2, .int c3 t3] := by
  rcases h with _ | ⟨c0, t0, h⟩
  · cases hl
  rcases h with _ | ⟨c1, t1, h⟩
  · cases hl
  rcases h with _ | ⟨c2, t2, h⟩
  · cases hl
  rcases h with _ | ⟨c3, t3, h⟩
  · cases hl
  rcases h with _ | ⟨c4, t4, h⟩
  · exact ⟨_, _, _, _, _, _, _, _, rfl⟩
  · simp at hl
def CtrL (w : World) (mean : ExcName → Option Value) (mg mb : Str → Option Value) (k : Nat) (f : Addr) (l : Addr) (vs : List Value) (news : List (Addr × Obj)) (Post : Value → List (Addr × Obj) → Prop) : Prop :=
  ∀ (dp un : Nat) (gd : Option (List Code)) (cn : Str) (cs : Scope) (a : Addr) (ccd : Value) (cl : List (Str × Addr)) (outer : List Env) (A₀ : Around) (base h₀ : Heap) (L : Addr) (m : Str → Option Value) (s : Shared) (Q E : Value → Shared → Prop),
    Below A₀ base outer h₀ → Fr h₀ L s.heap m → (hd.heap_39 w.params).In h₀ → News h₀ L s.heap news →
    Top hd.view_39 (looseW hd.view_39 [Str.ofString "locale_encoding_alias"]) mean mg mb h₀ → cs.kind = .function → dp + k < recursionLimit → un + 8 * k < cLine → h₀.IsList l vs.toArray →
    (∀ (v : Value) (more : List (Addr × Obj)) (h' : Heap) (tk' : Nat), Post v more → Fr h₀ L h' m → News h₀ L h' (more ++ news) → Q v { s with heap := h', toks := tk' }) →
      wpAny (model PySem.Challenge.rw_kl0205_01.row.prog w) (ktrTop dp un gd cn cs L a ccd cl outer) (call (.ref f) [.ref l]) Q E s
set_option maxRecDepth 100000 in
set_option maxHeartbeats 8000000 in
theorem cells_walk (w : World) (mean : ExcName → Option Value) (mg mb : Str → Option Value) (news : List (Addr × Obj)) (l : Addr) (vs : List Value) (ns : List Int) (hi : IntsAre vs ns) (hb : ns.length ≤ 63) :
    CtrL w mean mg mb 8 253 l vs news (fun v more => ∃ D c0 c1 c2 c3 t0 t1 t2 t3 c, v = .ref D ∧ more = [(D, listOf #[.int c0 t0, .int c1 t1, .int c2 t2, .int c3 t3] c)] ∧ ∀ p ∈ news, p.1 < D) := by
  unfold CtrL
  k_with_none
  w_top off
  k_fill
  intro dp un gd cn cs a ccd cl outer A₀ base h₀ L m s Q E hB hF hK hN hT hk hdp hun hL hret
  refine wpAny_call ?_
  k_dflt cell_enter
  rename_i g' L' h' FG' F' N' B' X' T'
  have hL' := Fr.lst FG' hL
  k_with "pyIter ref" => k_state (fun _ cells => cells.length = 4) "cells"
  k_steps
  · rename_i kF kN _ _
    rename IntsAre _ _ => hf
    obtain ⟨c0, c1, c2, c3, t0, t1, t2, t3, e⟩ := four_of hf (by assumption)
    rw [e] at kN
    exact hret _ [_] _ _ ⟨_, _, _, _, _, _, _, _, _, _, rfl, rfl, by assumption⟩ kF kN
end Mine
namespace Mine
/- the plain law, part A: greed, its shift, its error -/
noncomputable def shd (r : Nat) : Int := if r = 0 then 1 else lad (r - 1)
/-- the sum of a list of rungs, and of the rungs one place down -/
noncomputable def vN (rs : List Nat) : Int := (rs.map lad).sum
noncomputable def vS (rs : List Nat) : Int := (rs.map shd).sum
/-- the error to the ratio 165580141 : 267914296 (F41 : F42), as a whole number -/
noncomputable def err (s n : Int) : Int := s * 267914296 - n * 165580141
noncomputable def eR (r : Nat) : Int := err (shd r) (lad r)
theorem ladF_step : ∀ k : Fin 39, lad (k.val + 2) = lad (k.val + 1) + lad k.val := by decide +kernel
theorem lad_pos : ∀ k : Fin 41, 0 < lad k.val := by decide +kernel
theorem greedy_pass' {k : Nat} {n : Int} (h : n < lad k) : greedy (k + 1) n = greedy k n := by
  show (if lad k ≤ n then _ else _) = _
  rw [if_neg (by omega)]
theorem greedy_take' {k : Nat} {n : Int} (h : lad k ≤ n) : greedy (k + 1) n = k :: greedy k (n - lad k) := by
  show (if lad k ≤ n then _ else _) = _
  rw [if_pos h]
/-- the bounds of the error below rung k -/
noncomputable def loP : Nat → Int × Int
  | 0 => (0, min 0 (eR 0))
  | k + 1 => match loP k with
    | (a, b) => (b, min b (eR (k + 1) + a))
noncomputable def hiP : Nat → Int × Int
  | 0 => (0, max 0 (eR 0))
  | k + 1 => match hiP k with
    | (a, b) => (b, max b (eR (k + 1) + a))
noncomputable def loE (k : Nat) : Int := (loP k).1
noncomputable def hiE (k : Nat) : Int := (hiP k).1
theorem loE_two (k : Nat) : loE (k + 2) = min (loE (k + 1)) (eR (k + 1) + loE k) := rfl
theorem hiE_two (k : Nat) : hiE (k + 2) = max (hiE (k + 1)) (eR (k + 1) + hiE k) := rfl
theorem err_add (s n s' n' : Int) : err (s + s') (n + n') = err s n + err s' n' := by unfold err; rw [Int.add_mul, Int.add_mul]; omega
/-- what greed takes below rung k (k ≤ 41): the sum, the bounds of the error -/
theorem greedy_all : ∀ k : Nat, k ≤ 41 → ∀ n : Int, 0 ≤ n → (k = 0 → n < 1) → (0 < k → k ≤ 40 → n < lad k) → (k = 41 → n < 433494437) →
    vN (greedy k n) = n ∧ loE k ≤ err (vS (greedy k n)) n ∧ err (vS (greedy k n)) n ≤ hiE k := by
  intro k
  induction k using Nat.strongRecOn with
  | ind k ih =>
    intro hk n h0 hz hl ht
    match k, ih, hk, hz, hl, ht with
    | 0, _, _, hz, _, _ =>
      have : n = 0 := by have := hz rfl; omega
      subst this
      exact ⟨rfl, by decide, by decide⟩
    | 1, _, _, _, hl, _ =>
      have h1 : n < 2 := hl (by decide) (by decide)
      have : n = 0 ∨ n = 1 := by omega
      rcases this with rfl | rfl
      · exact ⟨by decide +kernel, by decide +kernel, by decide +kernel⟩
      · exact ⟨by decide +kernel, by decide +kernel, by decide +kernel⟩
    | k + 2, ih, hk, _, hl, ht =>
      by_cases hc : lad (k + 1) ≤ n
      · rw [greedy_take' hc, greedy_pass' (k := k) ?_]
        · have hb : n - lad (k + 1) < (if k = 0 then 1 else lad k) := by
            by_cases h41 : k = 39
            · subst h41
              have := ht rfl
              have e : lad 40 = 267914296 := by decide +kernel
              have e' : lad 39 = 165580141 := by decide +kernel
              rw [if_neg (by decide), e']
              show n - lad 40 < _
              rw [e]; omega
            · have h1 := hl (by omega) (by omega)
              have h2 : lad (k + 2) = lad (k + 1) + lad k := ladF_step ⟨k, by omega⟩
              by_cases hk0 : k = 0
              · subst hk0
                have e0 : lad 0 = 1 := by decide +kernel
                rw [if_pos rfl]; omega
              · rw [if_neg hk0]; omega
          obtain ⟨a1, a2, a3⟩ := ih k (by omega) (by omega) (n - lad (k + 1)) (by omega) (fun h => by rw [if_pos h] at hb; exact hb) (fun h _ => by rw [if_neg (by omega)] at hb; exact hb) (fun h => by omega)
          have e1 : vN ((k + 1) :: greedy k (n - lad (k + 1))) = lad (k + 1) + vN (greedy k (n - lad (k + 1))) := by simp [vN]
          have e2 : vS ((k + 1) :: greedy k (n - lad (k + 1))) = shd (k + 1) + vS (greedy k (n - lad (k + 1))) := by simp [vS]
          have e3 : err (shd (k + 1) + vS (greedy k (n - lad (k + 1)))) n = eR (k + 1) + err (vS (greedy k (n - lad (k + 1)))) (n - lad (k + 1)) := by
            have := err_add (shd (k + 1)) (lad (k + 1)) (vS (greedy k (n - lad (k + 1)))) (n - lad (k + 1))
            have e : lad (k + 1) + (n - lad (k + 1)) = n := by omega
            rw [e] at this
            exact this
          rw [e1, e2, e3]
          refine ⟨by omega, ?_, ?_⟩
          · rw [loE_two]
            have := Int.min_le_right (loE (k + 1)) (eR (k + 1) + loE k)
            omega
          · rw [hiE_two]
            have := Int.le_max_right (hiE (k + 1)) (eR (k + 1) + hiE k)
            omega
        · by_cases h41 : k = 39
          · subst h41
            have := ht rfl
            have e : lad 40 = 267914296 := by decide +kernel
            have e' : lad 39 = 165580141 := by decide +kernel
            show n - lad 40 < lad 39
            rw [e, e']; omega
          · have h1 := hl (by omega) (by omega)
            have h2 : lad (k + 2) = lad (k + 1) + lad k := ladF_step ⟨k, by omega⟩
            omega
      · rw [greedy_pass' (by omega)]
        obtain ⟨a1, a2, a3⟩ := ih (k + 1) (by omega) (by omega) n h0 (fun h => by omega) (fun _ _ => by omega) (fun h => by omega)
        refine ⟨a1, ?_, ?_⟩
        · rw [loE_two]
          have := Int.min_le_left (loE (k + 1)) (eR (k + 1) + loE k)
          omega
        · rw [hiE_two]
          have := Int.le_max_left (hiE (k + 1)) (eR (k + 1) + hiE k)
          omega
end Mine
namespace Mine
noncomputable abbrev Z (n : Int) : List Nat := greedy 41 n
noncomputable def Zi (n : Int) : List Int := (Z n).map fun (r : Nat) => (r : Int)
noncomputable def S (n : Int) : Int := vS (Z n)
noncomputable def circ (x y : Int) : Int := x * y + x * S y + y * S x
theorem lo41 : loE 41 = -102334155 := by decide +kernel
theorem hi41 : hiE 41 = 165580140 := by decide +kernel
theorem z_all {n : Int} (h0 : 0 ≤ n) (h1 : n < 433494437) : vN (Z n) = n ∧ -102334155 ≤ err (S n) n ∧ err (S n) n ≤ 165580140 := by
  have := greedy_all 41 (by decide) n h0 (fun h => by omega) (fun _ h => by omega) (fun _ => h1)
  rw [lo41, hi41] at this
  exact this
/-- one whole number alone lies so near to n by the ratio -/
theorem s_one {n s : Int} (h0 : 0 ≤ n) (h1 : n < 433494437) (hl : -102334155 ≤ err s n) (hh : err s n ≤ 165580140) : s = S n := by
  obtain ⟨_, a, b⟩ := z_all h0 h1
  unfold err at *
  omega
theorem sum_law {n : Int} (h0 : 0 ≤ n) (h1 : n < 433494437) : ((Zi n).map fun r => lad r.toNat).sum = n := by
  have e : (Zi n).map (fun r => lad r.toNat) = (Z n).map lad := by
    unfold Zi
    rw [List.map_map]
    exact List.map_congr_left fun r _ => rfl
  rw [e]
  exact (z_all h0 h1).1
theorem s_nonneg {n : Int} (h0 : 0 ≤ n) (h1 : n < 433494437) : 0 ≤ S n ∧ S n ≤ n := by
  obtain ⟨_, a, b⟩ := z_all h0 h1
  unfold err at *
  omega
theorem sq_form (c m : Int) : (c * m - 1) * (c * m - 1) = c * c * (m * m) - 2 * (c * m) + 1 := by
  rw [Int.sub_mul, Int.mul_sub, mul4 c m c m]
  omega
theorem part_low {m s : Int} (hm : 1 ≤ m) (hm' : m ≤ 400000) (hs : 0 ≤ s) (h : s * 267914296 ≤ 165580141 * m - 1) : s * s + m * s ≤ m * m := by
  have h1 : (s * 267914296) * (s * 267914296) ≤ (165580141 * m - 1) * (165580141 * m - 1) := Int.mul_le_mul h h (by omega) (by omega)
  rw [sq_form, mul4 s 267914296 s 267914296] at h1
  have h2 : m * (s * 267914296) ≤ m * (165580141 * m - 1) := Int.mul_le_mul_of_nonneg_left h (by omega)
  rw [Int.mul_sub, ← Int.mul_assoc, Int.mul_left_comm m 165580141 m] at h2
  have h3 : m * m ≤ 400000 * m := Int.mul_le_mul_of_nonneg_right hm' (by omega)
  generalize s * s = z at *
  generalize m * s = y at *
  generalize m * m = x at *
  omega
theorem part_high {m u : Int} (hm : 1 ≤ m) (hu : 0 ≤ u) (h : 165580141 * m ≤ u * 267914296) : m * m < u * u + m * u := by
  have h1 : (165580141 * m) * (165580141 * m) ≤ (u * 267914296) * (u * 267914296) := Int.mul_le_mul h h (by omega) (by omega)
  rw [mul4 165580141 m 165580141 m, mul4 u 267914296 u 267914296] at h1
  have h2 : m * (165580141 * m) ≤ m * (u * 267914296) := Int.mul_le_mul_of_nonneg_left h (by omega)
  rw [← Int.mul_assoc m u, Int.mul_left_comm m 165580141 m] at h2
  have h3 : 1 ≤ m * m := by
    have := Int.mul_le_mul hm hm (by decide) (by omega)
    omega
  generalize u * u = z at *
  generalize m * u = y at *
  generalize m * m = x at *
  omega
theorem sq_lt {a b : Int} (hb : 0 ≤ b) (h : a * a < b * b) : a < b := by
  refine Int.not_le.mp fun hle => ?_
  have := Int.mul_le_mul hle hle hb (by omega)
  omega
theorem dbl (m s : Int) : (m + 2 * s) * (m + 2 * s) = m * m + 4 * (m * s) + 4 * (s * s) := by
  rw [Int.add_mul, Int.mul_add, Int.mul_add, mul4 2 s 2 s, Int.mul_left_comm m 2 s, Int.mul_assoc 2 s m, Int.mul_comm s m]
  omega
theorem part_law {n r : Int} (h0 : 0 ≤ n) (h1 : n < 400000) (hp : PartInv (n + 1) r) (hr : 5 * (n + 1) * (n + 1) < (r + 1) * (r + 1)) : (3 * (n + 1) - r - 1).fdiv 2 = n - S n := by
  obtain ⟨h2, h3, h4⟩ := hp
  obtain ⟨_, a, b⟩ := z_all h0 (by omega)
  obtain ⟨s0, s1⟩ := s_nonneg h0 (by omega)
  generalize S n = s at *
  generalize hm : n + 1 = m at *
  unfold err at a b
  have lo := part_low (m := m) (s := s) (by omega) (by omega) s0 (by omega)
  have hi := part_high (m := m) (u := s + 1) (by omega) (by omega) (by omega)
  have k1 : m + 2 * s < r + 1 := by
    refine sq_lt (by omega) ?_
    rw [dbl]
    rw [Int.mul_assoc] at hr
    omega
  have k2 : r < m + 2 * (s + 1) := by
    refine sq_lt (by omega) ?_
    rw [dbl]
    rw [Int.mul_assoc] at h2
    omega
  rw [Int.fdiv_eq_ediv_of_nonneg _ (by omega)]
  omega
end Mine
namespace Mine
theorem circ_top {x y : Int} {X Y : Int} (hx : 0 ≤ x) (hx' : x ≤ X) (hy : 0 ≤ y) (hy' : y ≤ Y) (hX : X < 433494437) (hY : Y < 433494437) :
    0 ≤ circ x y ∧ 267914296 * circ x y ≤ 599074578 * (X * Y) + 165580140 * (X + Y) := by
  obtain ⟨_, a1, a2⟩ := z_all hx (by omega)
  obtain ⟨_, b1, b2⟩ := z_all hy (by omega)
  obtain ⟨s0, s1⟩ := s_nonneg hx (by omega)
  obtain ⟨t0, t1⟩ := s_nonneg hy (by omega)
  unfold circ
  generalize S x = s at *
  generalize S y = t at *
  unfold err at *
  have p1 : 0 ≤ x * y := Int.mul_nonneg hx hy
  have p2 : 0 ≤ x * t := Int.mul_nonneg hx t0
  have p3 : 0 ≤ y * s := Int.mul_nonneg hy s0
  have q1 : x * (t * 267914296) ≤ x * (165580141 * y + 165580140) := Int.mul_le_mul_of_nonneg_left (by omega) hx
  have q2 : y * (s * 267914296) ≤ y * (165580141 * x + 165580140) := Int.mul_le_mul_of_nonneg_left (by omega) hy
  have q3 : x * y ≤ X * Y := Int.mul_le_mul hx' hy' hy (by omega)
  rw [Int.mul_add, ← Int.mul_assoc, Int.mul_left_comm x 165580141 y] at q1
  rw [Int.mul_add, ← Int.mul_assoc, Int.mul_left_comm y 165580141 x, Int.mul_comm y x] at q2
  generalize x * y = u at *
  generalize x * t = v at *
  generalize y * s = z at *
  generalize X * Y = U at *
  omega
theorem circ_bound {a b : Int} (ha : 0 ≤ a) (ha' : a < 377) (hb : 0 ≤ b) (hb' : b < 377) : 0 ≤ circ a b ∧ circ a b < 317811 := by
  have := circ_top (X := 376) (Y := 376) ha (by omega) hb (by omega) (by decide) (by decide)
  omega
theorem circ_bound3 {x c : Int} (ha : 0 ≤ x) (ha' : x < 400000) (hb : 0 ≤ c) (hb' : c < 377) : 0 ≤ circ x c ∧ circ x c < 433494437 := by
  have := circ_top (X := 399999) (Y := 376) ha (by omega) hb (by omega) (by decide) (by decide)
  omega
theorem circ_comm (x y : Int) : circ x y = circ y x := by unfold circ; rw [Int.mul_comm x y]; omega
theorem prod_err (s t x y : Int) : err (s * t + x * y) (x * y + x * t + y * s) * 267914296 = err s x * err t y - x * y := by
  unfold err
  grind
theorem err_prod {e f : Int} (h0 : -102334155 ≤ e) (h1 : e ≤ 165580140) (h2 : -102334155 ≤ f) (h3 : f ≤ 165580140) : -16944503711681700 ≤ e * f ∧ e * f ≤ 27416782762419600 := by
  rcases Int.le_total 0 e with he | he
  · have a := Int.mul_le_mul_of_nonneg_left h3 he
    have b := Int.mul_le_mul_of_nonneg_left h2 he
    omega
  · have a := Int.mul_le_mul_of_nonpos_left he h3
    have b := Int.mul_le_mul_of_nonpos_left he h2
    omega
theorem s_circ {x y : Int} (hx : 0 ≤ x) (hx' : x < 400000) (hy : 0 ≤ y) (hy' : y < 377) : S (circ x y) = S x * S y + x * y := by
  obtain ⟨c0, c1⟩ := circ_bound3 hx hx' hy hy'
  obtain ⟨_, a1, a2⟩ := z_all hx (by omega)
  obtain ⟨_, b1, b2⟩ := z_all hy (by omega)
  have q3 : x * y ≤ 399999 * 376 := Int.mul_le_mul (by omega) (by omega) hy (by decide)
  have p1 : 0 ≤ x * y := Int.mul_nonneg hx hy
  have pe := prod_err (S x) (S y) x y
  obtain ⟨g0, g1⟩ := err_prod a1 a2 b1 b2
  rw [← show circ x y = x * y + x * S y + y * S x from rfl] at pe
  refine (s_one c0 c1 ?_ ?_).symm
  · generalize err (S x) x * err (S y) y = g at *
    omega
  · generalize err (S x) x * err (S y) y = g at *
    omega
theorem circ_assoc {a b c : Int} (ha : 0 ≤ a) (ha' : a < 377) (hb : 0 ≤ b) (hb' : b < 377) (hc : 0 ≤ c) (hc' : c < 377) : circ a (circ b c) = circ (circ a b) c := by
  have e1 := s_circ (x := a) (y := b) ha (by omega) hb hb'
  have e2 := s_circ (x := b) (y := c) hb (by omega) hc hc'
  show a * circ b c + a * S (circ b c) + circ b c * S a = circ a b * c + circ a b * S c + c * S (circ a b)
  rw [e1, e2]
  unfold circ
  grind
end Mine
namespace Mine
/- greed's rungs -/
theorem greedy_lt : ∀ (k : Nat) (n : Int), ∀ r ∈ greedy k n, r < k := by
  intro k
  induction k with
  | zero => intro n r h; cases h
  | succ k ih =>
    intro n r h
    by_cases hc : lad k ≤ n
    · rw [greedy_take' hc] at h
      rcases List.mem_cons.mp h with rfl | h
      · omega
      · have := ih _ r h; omega
    · rw [greedy_pass' (by omega)] at h
      have := ih _ r h; omega
theorem greedy_len : ∀ (k : Nat) (n : Int), (greedy k n).length ≤ k := by
  intro k
  induction k with
  | zero => intro n; exact Nat.le_refl _
  | succ k ih =>
    intro n
    by_cases hc : lad k ≤ n
    · rw [greedy_take' hc, List.length_cons]; have := ih (n - lad k); omega
    · rw [greedy_pass' (by omega)]; have := ih n; omega
theorem zi_range (n : Int) : ∀ r ∈ Zi n, 0 ≤ r ∧ r ≤ 40 := by
  intro r h
  obtain ⟨k, hk, rfl⟩ := List.mem_map.mp h
  have := greedy_lt 41 n k hk
  omega
theorem zi_len (n : Int) : (Zi n).length ≤ 41 := by
  unfold Zi
  rw [List.length_map]
  exact greedy_len 41 n
theorem flat_len : ∀ rs : List Nat, (rs.flatMap fun r => [64, sgn r]).length = 2 * rs.length
  | [] => rfl
  | r :: rs => by rw [List.flatMap_cons, List.length_append, flat_len rs]; simp; omega
theorem nm_len (n : Int) : (nm (Z n)).length ≤ 1000 := by
  show (nm (Z n)).cps.size ≤ 1000
  unfold nm
  simp only [List.size_toArray, List.length_cons, flat_len]
  have := greedy_len 41 n
  show 2 * (greedy 41 n).length + 1 ≤ 1000
  omega
/- the rungs of a name -/
noncomputable def besideL : List Nat := [64975, 65008, 65533, 65536, 131069, 1114109, 130512, 1113583, 69630, 126975]
theorem dec_sgn : ∀ k : Fin 41, decOne ((sgn k.val : Nat) : Int) = [((k.val : Nat) : Int)] := by decide +kernel
theorem dec_c : decOne 67 = [] := by decide +kernel
theorem dec_at : decOne 64 = [] := by decide +kernel
theorem dec_beside : ∀ q ∈ besideL, decOne ((q : Nat) : Int) = [] := by decide +kernel
theorem dec_flat : ∀ rs : List Nat, (∀ r ∈ rs, r < 41) → ((rs.flatMap fun r => [64, sgn r]).map fun (c : Nat) => (c : Int)).flatMap decOne = rs.map fun (r : Nat) => (r : Int)
  | [], _ => rfl
  | r :: rs, h => by
    have h1 := dec_sgn ⟨r, h r (.head _)⟩
    have ih := dec_flat rs fun x hx => h x (.tail _ hx)
    simp only [List.flatMap_cons, List.map_append, List.map_cons, List.map_nil, List.flatMap_append, List.flatMap_nil, List.append_nil, ih]
    show decOne 64 ++ decOne ((sgn r : Nat) : Int) ++ _ = _
    rw [dec_at, h1]
    rfl
theorem rungs_law {n : Int} {q : Nat} (hq : q ∈ besideL) : (KStt.codes (nm (Z n) ++ ⟨#[q]⟩)).flatMap decOne = Zi n := by
  have e : KStt.codes (nm (Z n) ++ ⟨#[q]⟩) = 67 :: (((Z n).flatMap fun r => [64, sgn r]).map fun (c : Nat) => (c : Int)) ++ [((q : Nat) : Int)] := by
    unfold KStt.codes nm
    rw [str_app]
    simp
  rw [e, List.flatMap_append, List.flatMap_cons, dec_flat _ (greedy_lt 41 n), dec_c]
  simp only [List.flatMap_cons, List.flatMap_nil, dec_beside q hq, List.nil_append, List.append_nil]
  rfl
/- names stand as numbers -/
noncomputable def bnd (k : Nat) : Int := if k = 0 then 1 else if k = 41 then 433494437 else lad k
theorem bnd_step : ∀ k : Fin 41, bnd (k.val + 1) ≤ lad k.val + bnd k.val ∧ lad k.val ≤ bnd k.val := by decide +kernel
theorem sgn_mono : ∀ i : Fin 41, ∀ j : Fin 41, i.val < j.val → sgn i.val < sgn j.val := by decide +kernel
noncomputable def enc (rs : List Nat) : List Nat := rs.flatMap fun r => [64, sgn r]
theorem enc_cons (r : Nat) (rs : List Nat) : enc (r :: rs) = 64 :: sgn r :: enc rs := rfl
theorem greedy_order : ∀ (k : Nat), k ≤ 41 → ∀ x y : Int, 0 ≤ x → x < y → y < bnd k → enc (greedy k x) < enc (greedy k y) := by
  intro k
  induction k with
  | zero => intro _ x y h0 h1 h2; have : bnd 0 = 1 := rfl; omega
  | succ k ih =>
    intro hk x y h0 h1 h2
    obtain ⟨b1, b2⟩ := bnd_step ⟨k, by omega⟩
    dsimp only at b1 b2
    by_cases hx : lad k ≤ x
    · rw [greedy_take' hx, greedy_take' (by omega : lad k ≤ y), enc_cons, enc_cons]
      have := ih (by omega) (x - lad k) (y - lad k) (by omega) (by omega) (by omega)
      simp [this]
    · by_cases hy : lad k ≤ y
      · rw [greedy_pass' (by omega), greedy_take' hy, enc_cons]
        cases hg : greedy k x with
        | nil => exact List.nil_lt_cons _ _
        | cons r rs =>
          have hr : r < k := greedy_lt k x r (by rw [hg]; exact .head _)
          have := sgn_mono ⟨r, by omega⟩ ⟨k, by omega⟩ hr
          dsimp only at this
          rw [enc_cons]
          exact List.cons_lt_cons_iff.mpr (.inr ⟨rfl, List.cons_lt_cons_iff.mpr (.inl this)⟩)
      · rw [greedy_pass' (by omega), greedy_pass' (by omega)]
        exact ih (by omega) x y h0 h1 (by omega)
theorem nm_list (n : Int) : (nm (Z n)).cps.toList = 67 :: enc (Z n) := rfl
theorem order_lt {x y : Int} (h0 : 0 ≤ x) (h : x < y) (h3 : y < 433494437) : (nm (Z x)).cps.toList < (nm (Z y)).cps.toList := by
  rw [nm_list, nm_list]
  have := greedy_order 41 (by decide) x y h0 h h3
  simp [this]
theorem order_law {x y : Int} (h0 : 0 ≤ x) (h1 : x < 433494437) (h2 : 0 ≤ y) (h3 : y < 433494437) : decide ((nm (Z x)).cps.toList < (nm (Z y)).cps.toList) = decide (x < y) := by
  by_cases h : x < y
  · rw [decide_eq_true h, decide_eq_true (order_lt h0 h h3)]
  · rw [decide_eq_false h]
    refine decide_eq_false fun hl => ?_
    by_cases he : x = y
    · subst he
      exact List.lt_irrefl _ hl
    · exact List.lt_asymm hl (order_lt h2 (by omega) h1)
end Mine
namespace Mine
/- sums over the places -/
noncomputable def sumTo (n : Nat) (f : Nat → Int) : Int := ((List.range n).map f).sum
theorem sumTo_succ (n : Nat) (f : Nat → Int) : sumTo (n + 1) f = sumTo n f + f n := by
  unfold sumTo
  rw [List.range_succ, List.map_append, List.sum_append]
  simp
theorem sumTo_zero (f : Nat → Int) : sumTo 0 f = 0 := rfl
theorem sumTo_add (n : Nat) (f g : Nat → Int) : sumTo n (fun p => f p + g p) = sumTo n f + sumTo n g := by
  induction n with
  | zero => rfl
  | succ n ih => rw [sumTo_succ, sumTo_succ, sumTo_succ, ih]; omega
theorem sumTo_congr {n : Nat} {f g : Nat → Int} (h : ∀ p, p < n → f p = g p) : sumTo n f = sumTo n g := by
  induction n with
  | zero => rfl
  | succ n ih => rw [sumTo_succ, sumTo_succ, ih fun p hp => h p (by omega), h n (by omega)]
theorem sumTo_none {n : Nat} : sumTo n (fun _ => 0) = 0 := by
  induction n with
  | zero => rfl
  | succ n ih => rw [sumTo_succ, ih]; rfl
theorem sumTo_mul (n : Nat) (c : Int) (f : Nat → Int) : sumTo n (fun p => c * f p) = c * sumTo n f := by
  induction n with
  | zero => rw [sumTo_zero, sumTo_zero, Int.mul_zero]
  | succ n ih => rw [sumTo_succ, sumTo_succ, ih, Int.mul_add]
theorem sumTo_one {n q : Nat} (h : q < n) (w : Nat → Int) : sumTo n (fun p => if p = q then w p else 0) = w q := by
  induction n with
  | zero => omega
  | succ n ih =>
    rw [sumTo_succ]
    by_cases e : n = q
    · subst e
      rw [if_pos rfl]
      have : sumTo n (fun p => if p = n then w p else 0) = sumTo n fun _ => 0 := sumTo_congr fun p hp => if_neg (by omega)
      rw [this, sumTo_none]; omega
    · rw [if_neg e, ih (by omega)]; omega
/-- one row of the product: a 1 at the place of each rung of the list, j places up -/
noncomputable def row (l : List Nat) (j p : Nat) : Int := if j ≤ p ∧ (p - j) ∈ l then 1 else 0
theorem row_sum {n : Nat} (w : Nat → Int) (j : Nat) : ∀ l : List Nat, l.Nodup → (∀ i ∈ l, i + j < n) → sumTo n (fun p => row l j p * w p) = (l.map fun i => w (i + j)).sum
  | [], _, _ => by
    have : sumTo n (fun p => row [] j p * w p) = sumTo n fun _ => 0 := sumTo_congr fun p _ => by unfold row; simp
    rw [this, sumTo_none]; rfl
  | i :: l, hn, hb => by
    have ih := row_sum (n := n) w j l (List.nodup_cons.mp hn).2 fun x hx => hb x (.tail _ hx)
    have hi : i ∉ l := (List.nodup_cons.mp hn).1
    have e : sumTo n (fun p => row (i :: l) j p * w p) = sumTo n fun p => (if p = i + j then w p else 0) + row l j p * w p := sumTo_congr fun p _ => by
      unfold row
      by_cases hp : p = i + j
      · subst hp
        have : i + j - j = i := by omega
        rw [if_pos rfl, if_pos ⟨by omega, by rw [this]; exact .head _⟩, this, if_neg (by intro h; exact hi h.2)]
        omega
      · rw [if_neg hp]
        by_cases hj : j ≤ p
        · have : (p - j ∈ i :: l) ↔ p - j ∈ l := by
            rw [List.mem_cons]
            constructor
            · rintro (h | h)
              · exact absurd (by omega) hp
              · exact h
            · exact .inr
          simp only [this, Int.zero_add]
        · rw [if_neg (by intro h; exact hj h.1), if_neg (by intro h; exact hj h.1)]
          omega
    rw [e, sumTo_add, ih, sumTo_one (hb i (.head _)), List.map_cons, List.sum_cons]
/-- the digit at place p -/
noncomputable def dig (lift : Int) (l1 l2 : List Nat) (p : Nat) : Int := lift + (l2.map fun j => row l1 j p).sum
theorem row_range (l : List Nat) (j p : Nat) : 0 ≤ row l j p ∧ row l j p ≤ 1 := by unfold row; split <;> decide
theorem rows_range (l1 : List Nat) (p : Nat) : ∀ l2 : List Nat, 0 ≤ (l2.map fun j => row l1 j p).sum ∧ (l2.map fun j => row l1 j p).sum ≤ (l2.length : Int)
  | [] => by simp
  | j :: l2 => by
    have := rows_range l1 p l2
    have := row_range l1 j p
    simp only [List.map_cons, List.sum_cons, List.length_cons]
    omega
theorem rows_sum {n : Nat} (w : Nat → Int) (l1 : List Nat) (h1 : l1.Nodup) : ∀ l2 : List Nat, (∀ j ∈ l2, ∀ i ∈ l1, i + j < n) → sumTo n (fun p => (l2.map fun j => row l1 j p).sum * w p) = (l2.map fun j => (l1.map fun i => w (i + j)).sum).sum
  | [], _ => by
    have : sumTo n (fun p => (([] : List Nat).map fun j => row l1 j p).sum * w p) = sumTo n fun _ => 0 := sumTo_congr fun p _ => by simp
    rw [this, sumTo_none]; rfl
  | j :: l2, h => by
    have ih := rows_sum (n := n) w l1 h1 l2 fun x hx => h x (.tail _ hx)
    have e : sumTo n (fun p => ((j :: l2).map fun j => row l1 j p).sum * w p) = sumTo n fun p => row l1 j p * w p + (l2.map fun j => row l1 j p).sum * w p := sumTo_congr fun p _ => by
      simp only [List.map_cons, List.sum_cons, Int.add_mul]
    rw [e, sumTo_add, ih, row_sum w j l1 h1 fun i hi => h j (.head _) i hi, List.map_cons, List.sum_cons]
/- digits from the least place on -/
noncomputable def rdig (n : Nat) : List Nat := if n = 0 then [] else (n % 16) :: rdig (n / 16)
termination_by n
decreasing_by omega
theorem rdig_zero : rdig 0 = [] := by rw [rdig]; rfl
theorem rdig_pos {n : Nat} (h : n ≠ 0) : rdig n = (n % 16) :: rdig (n / 16) := by rw [rdig, if_neg h]
theorem apl_rdig : ∀ n : Nat, (apl n).reverse = (rdig n).map apb := by
  intro n
  induction n using Nat.strongRecOn with
  | ind n ih =>
    by_cases h : n = 0
    · subst h; rw [apl_zero, rdig_zero]; rfl
    · rw [apl_pos h, rdig_pos h, List.reverse_append, List.map_cons, ← ih (n / 16) (by omega)]
      rfl
/-- what is read off a list of digits, from rung k on -/
noncomputable def rd (lift : Int) : Nat → List Int → Int
  | _, [] => 0
  | k, d :: ds => (d - lift) * lad (k + 2) + rd lift (k + 1) ds
noncomputable def pv : List Int → Int
  | [] => 0
  | d :: ds => d + 16 * pv ds
end Mine
namespace Mine
theorem rd_sum (lift : Int) : ∀ (L : List Int) (k : Nat), ((List.range L.length).map fun i => (L.getD i 0 - lift) * lad (k + i + 2)).sum = rd lift k L
  | [], k => rfl
  | d :: L, k => by
    rw [List.length_cons, List.range_succ_eq_map, List.map_cons, List.map_map, List.sum_cons]
    show (d - lift) * lad (k + 0 + 2) + ((List.range L.length).map fun i => ((d :: L).getD (i + 1) 0 - lift) * lad (k + (i + 1) + 2)).sum = _
    have e : ((List.range L.length).map fun i => ((d :: L).getD (i + 1) 0 - lift) * lad (k + (i + 1) + 2)) = (List.range L.length).map fun i => (L.getD i 0 - lift) * lad (k + 1 + i + 2) := by
      refine List.map_congr_left fun i _ => ?_
      have : k + (i + 1) + 2 = k + 1 + i + 2 := by omega
      rw [this]; simp
    rw [e, rd_sum lift L (k + 1)]
    rfl
theorem pv_sum : ∀ (L : List Int), ((List.range L.length).map fun i => L.getD i 0 * 16 ^ i).sum = pv L
  | [] => rfl
  | d :: L => by
    rw [List.length_cons, List.range_succ_eq_map, List.map_cons, List.map_map, List.sum_cons]
    show d * 16 ^ 0 + ((List.range L.length).map fun i => (d :: L).getD (i + 1) 0 * 16 ^ (i + 1)).sum = d + 16 * pv L
    have e : ∀ l : List Nat, (l.map fun i => (d :: L).getD (i + 1) 0 * (16 : Int) ^ (i + 1)).sum = 16 * (l.map fun i => L.getD i 0 * (16 : Int) ^ i).sum := by
      intro l
      induction l with
      | nil => rfl
      | cons i l ih =>
        rw [List.map_cons, List.map_cons, List.sum_cons, List.sum_cons, ih, Int.mul_add, Int.pow_succ]
        have : (d :: L).getD (i + 1) 0 = L.getD i 0 := by simp
        rw [this]
        congr 1
        rw [← Int.mul_assoc, Int.mul_comm]
    rw [e, pv_sum L]
    simp
theorem range_getD {n : Nat} (f : Nat → Int) {i : Nat} (h : i < n) : ((List.range n).map f).getD i 0 = f i := by
  simp [List.getD, h]
theorem rd_range (lift : Int) (n : Nat) (f : Nat → Int) : rd lift 0 ((List.range n).map f) = sumTo n fun p => (f p - lift) * lad (p + 2) := by
  rw [← rd_sum]
  unfold sumTo
  rw [List.length_map, List.length_range]
  refine congrArg List.sum (List.map_congr_left fun i hi => ?_)
  rw [range_getD f (List.mem_range.mp hi)]
  have : 0 + i + 2 = i + 2 := by omega
  rw [this]
theorem pv_range (n : Nat) (f : Nat → Int) : pv ((List.range n).map f) = sumTo n fun p => f p * 16 ^ p := by
  rw [← pv_sum]
  unfold sumTo
  rw [List.length_map, List.length_range]
  exact congrArg List.sum (List.map_congr_left fun i hi => by rw [range_getD f (List.mem_range.mp hi)])
theorem pv_nonneg : ∀ ds : List Int, (∀ d ∈ ds, 0 ≤ d) → 0 ≤ pv ds
  | [], _ => by decide
  | d :: ds, h => by
    have := h d (.head _)
    have := pv_nonneg ds fun x hx => h x (.tail _ hx)
    show 0 ≤ d + 16 * pv ds
    omega
theorem rd_zero : ∀ (ds : List Int) (k : Nat), (∀ d ∈ ds, 0 ≤ d) → pv ds = 0 → rd 0 k ds = 0
  | [], _, _, _ => rfl
  | d :: ds, k, h, e => by
    have h0 := h d (.head _)
    have h1 := pv_nonneg ds fun x hx => h x (.tail _ hx)
    have e' : d + 16 * pv ds = 0 := e
    have hd : d = 0 := by omega
    show (d - 0) * lad (k + 2) + rd 0 (k + 1) ds = 0
    rw [rd_zero ds (k + 1) (fun x hx => h x (.tail _ hx)) (by omega), hd]
    simp
/-- the digits of a number with no carry are the digits that were laid -/
theorem rdig_pv (lift : Int) (hl : 0 ≤ lift) : ∀ (ds : List Int) (k : Nat), (∀ d ∈ ds, lift ≤ d ∧ d ≤ 15) → rd lift k ((rdig (pv ds).toNat).map fun (x : Nat) => (x : Int)) = rd lift k ds
  | [], k, _ => by
    show rd lift k ((rdig 0).map _) = _
    rw [rdig_zero]; rfl
  | d :: ds, k, h => by
    have h0 := h d (.head _)
    have h1 := pv_nonneg ds fun x hx => by have := h x (.tail _ hx); omega
    have ih := rdig_pv lift hl ds (k + 1) fun x hx => h x (.tail _ hx)
    have e : pv (d :: ds) = d + 16 * pv ds := rfl
    by_cases hz : pv (d :: ds) = 0
    · have hlz : lift = 0 := by omega
      subst hlz
      rw [hz, rd_zero (d :: ds) k (fun x hx => (h x hx).1) hz]
      show rd 0 k ((rdig 0).map _) = 0
      rw [rdig_zero]; rfl
    · rw [rdig_pos (by omega)]
      have e1 : (pv (d :: ds)).toNat % 16 = d.toNat := by omega
      have e2 : (pv (d :: ds)).toNat / 16 = (pv ds).toNat := by omega
      rw [e1, e2, List.map_cons]
      show (((d.toNat : Nat) : Int) - lift) * lad (k + 2) + rd lift (k + 1) _ = (d - lift) * lad (k + 2) + rd lift (k + 1) ds
      rw [ih]
      have : ((d.toNat : Nat) : Int) = d := by omega
      rw [this]
theorem rdig_len : ∀ (ds : List Int), (∀ d ∈ ds, 0 ≤ d ∧ d ≤ 15) → (rdig (pv ds).toNat).length ≤ ds.length
  | [], _ => by show (rdig 0).length ≤ 0; rw [rdig_zero]; exact Nat.le_refl _
  | d :: ds, h => by
    have h0 := h d (.head _)
    have h1 := pv_nonneg ds fun x hx => (h x (.tail _ hx)).1
    have ih := rdig_len ds fun x hx => h x (.tail _ hx)
    have e : pv (d :: ds) = d + 16 * pv ds := rfl
    by_cases hz : pv (d :: ds) = 0
    · rw [hz]; show (rdig 0).length ≤ _; rw [rdig_zero]; simp
    · rw [rdig_pos (by omega)]
      have e2 : (pv (d :: ds)).toNat / 16 = (pv ds).toNat := by omega
      rw [e2, List.length_cons, List.length_cons]
      omega
theorem apb_val {d : Nat} (h : d < 16) : ((apb d).toNat : Int) = 65 + d := by
  have : ∀ d : Fin 16, (apb d.val).toNat = 65 + d.val := by decide +kernel
  have := this ⟨d, h⟩
  dsimp only at this
  omega
theorem rdig_lt : ∀ n : Nat, ∀ d ∈ rdig n, d < 16 := by
  intro n
  induction n using Nat.strongRecOn with
  | ind n ih =>
    intro d hd
    by_cases h : n = 0
    · subst h; rw [rdig_zero] at hd; cases hd
    · rw [rdig_pos h] at hd
      rcases List.mem_cons.mp hd with rfl | hd
      · omega
      · exact ih (n / 16) (by omega) d hd
theorem apl_len (n : Nat) : (apl n).length = (rdig n).length := by
  have := congrArg List.length (apl_rdig n)
  simpa using this
theorem wAt_rdig {n k : Nat} (h : k < (rdig n).length) : wAt (apl n) k = 65 + ((rdig n).map fun (x : Nat) => (x : Int)).getD k 0 := by
  unfold wAt
  rw [apl_rdig, List.getD, List.getD, List.getElem?_map, List.getElem?_map, List.getElem?_eq_getElem h]
  show ((apb (rdig n)[k]).toNat : Int) = 65 + (((rdig n)[k] : Nat) : Int)
  exact apb_val (rdig_lt n _ (List.getElem_mem h))
theorem wordVal_rd (n : Nat) (lift : Int) : wordVal (apl n) lift = rd lift 0 ((rdig n).map fun (x : Nat) => (x : Int)) := by
  rw [← rd_sum]
  unfold wordVal rangeKs
  rw [List.map_map, List.length_map, apl_len]
  refine congrArg List.sum (List.map_congr_left fun i hi => ?_)
  have hi' := List.mem_range.mp hi
  show (wAt (apl n) (0 + (i : Int)).toNat - 65 - lift) * lad (0 + (i : Int) + 2).toNat = _
  have e1 : (0 + (i : Int)).toNat = i := by omega
  have e2 : (0 + (i : Int) + 2).toNat = 0 + i + 2 := by omega
  rw [e1, e2, wAt_rdig hi']
  congr 1
  omega
end Mine
namespace Mine
theorem lad_mono : ∀ i : Fin 41, ∀ j : Fin 41, i.val ≤ j.val → lad i.val ≤ lad j.val := by decide +kernel
theorem greedy_cut {m : Nat} (hm : m < 41) {n : Int} (h : n < lad m) : ∀ k, m ≤ k → k ≤ 41 → greedy k n = greedy m n := by
  intro k
  induction k with
  | zero => intro h1 _; have : m = 0 := by omega
            subst this; rfl
  | succ k ih =>
    intro h1 h2
    by_cases e : m = k + 1
    · rw [e]
    · have := lad_mono ⟨m, hm⟩ ⟨k, by omega⟩ (by show m ≤ k; omega)
      dsimp only at this
      rw [greedy_pass' (by omega)]
      exact ih (by omega) (by omega)
theorem z_small {m : Nat} (hm : m < 41) {n : Int} (h : n < lad m) : ∀ r ∈ Z n, r < m := by
  rw [show Z n = greedy m n from greedy_cut hm h 41 (by omega) (by decide)]
  exact greedy_lt m n
theorem greedy_nodup : ∀ (k : Nat) (n : Int), (greedy k n).Nodup := by
  intro k
  induction k with
  | zero => intro n; exact List.nodup_nil
  | succ k ih =>
    intro n
    by_cases hc : lad k ≤ n
    · rw [greedy_take' hc]
      refine List.nodup_cons.mpr ⟨fun h => ?_, ih _⟩
      have := greedy_lt k _ k h
      omega
    · rw [greedy_pass' (by omega)]
      exact ih n
theorem len6 : ∀ y : Fin 377, (greedy 12 ((y.val : Nat) : Int)).length ≤ 6 := by decide +kernel
theorem z_len6 {y : Int} (h0 : 0 ≤ y) (h1 : y < 377) : (Z y).length ≤ 6 := by
  have e : Z y = greedy 12 y := greedy_cut (m := 12) (by decide) (by have : lad 12 = 377 := by decide +kernel
                                                                     omega) 41 (by decide) (by decide)
  rw [e]
  obtain ⟨k, rfl⟩ : ∃ k : Nat, y = (k : Int) := ⟨y.toNat, by omega⟩
  exact len6 ⟨k, by omega⟩
theorem lad_two : ∀ i : Fin 26, ∀ j : Fin 12, lad (i.val + j.val + 2) = lad i.val * lad j.val + lad i.val * shd j.val + lad j.val * shd i.val := by decide +kernel
theorem inner_sum (j : Nat) (hj : j < 12) : ∀ l : List Nat, (∀ i ∈ l, i < 26) → (l.map fun i => lad (i + j + 2)).sum = vN l * lad j + vN l * shd j + lad j * vS l
  | [], _ => by simp [vN, vS]
  | i :: l, h => by
    have ih := inner_sum j hj l fun x hx => h x (.tail _ hx)
    have e := lad_two ⟨i, h i (.head _)⟩ ⟨j, hj⟩
    dsimp only at e
    have e1 : vN (i :: l) = lad i + vN l := by simp [vN]
    have e2 : vS (i :: l) = shd i + vS l := by simp [vS]
    rw [List.map_cons, List.sum_cons, ih, e, e1, e2, Int.add_mul, Int.add_mul, Int.mul_add]
    omega
theorem outer_sum (l1 : List Nat) (h1 : ∀ i ∈ l1, i < 26) : ∀ l2 : List Nat, (∀ j ∈ l2, j < 12) → (l2.map fun j => (l1.map fun i => lad (i + j + 2)).sum).sum = vN l1 * vN l2 + vN l1 * vS l2 + vN l2 * vS l1
  | [], _ => by simp [vN, vS]
  | j :: l2, h => by
    have ih := outer_sum l1 h1 l2 fun x hx => h x (.tail _ hx)
    have e1 : vN (j :: l2) = lad j + vN l2 := by simp [vN]
    have e2 : vS (j :: l2) = shd j + vS l2 := by simp [vS]
    rw [List.map_cons, List.sum_cons, ih, inner_sum j (h j (.head _)) l1 h1, e1, e2, Int.mul_add, Int.mul_add, Int.add_mul]
    omega
noncomputable def pw (l : List Nat) : Int := (l.map fun i => (16 : Int) ^ i).sum
theorem pow_inner (j : Nat) : ∀ l : List Nat, (l.map fun i => (16 : Int) ^ (i + j)).sum = pw l * 16 ^ j
  | [] => by simp [pw]
  | i :: l => by
    have e : pw (i :: l) = 16 ^ i + pw l := by simp [pw]
    rw [List.map_cons, List.sum_cons, pow_inner j l, e, Int.add_mul, Int.pow_add]
theorem pow_outer (l1 : List Nat) : ∀ l2 : List Nat, (l2.map fun j => (l1.map fun i => (16 : Int) ^ (i + j)).sum).sum = pw l1 * pw l2
  | [] => by simp [pw]
  | j :: l2 => by
    have e : pw (j :: l2) = 16 ^ j + pw l2 := by simp [pw]
    rw [List.map_cons, List.sum_cons, pow_outer l1 l2, pow_inner, e, Int.mul_add]
theorem zi_pw (x : Int) : ((Zi x).map fun k' => (16 : Int) ^ k'.toNat).sum = pw (Z x) := by
  unfold Zi pw
  rw [List.map_map]
  exact congrArg List.sum (List.map_congr_left fun r _ => rfl)
theorem pw_range : ∀ l : List Nat, (∀ r ∈ l, r < 41) → 0 ≤ pw l ∧ pw l ≤ (l.length : Int) * 16 ^ 40
  | [], _ => by simp [pw]
  | r :: l, h => by
    have ih := pw_range l fun x hx => h x (.tail _ hx)
    have e : pw (r :: l) = 16 ^ r + pw l := by simp [pw]
    have hb : ∀ r : Fin 41, (0 : Int) ≤ 16 ^ r.val ∧ (16 : Int) ^ r.val ≤ 16 ^ 40 := by decide +kernel
    have := hb ⟨r, h r (.head _)⟩
    dsimp only at this
    rw [e, List.length_cons]
    have e2 : (((l.length + 1 : Nat) : Int)) * 16 ^ 40 = (l.length : Int) * 16 ^ 40 + 16 ^ 40 := by
      rw [Int.natCast_add, Int.add_mul]; rfl
    rw [e2]
    generalize (16 : Int) ^ 40 = c at *
    generalize (16 : Int) ^ r = b at *
    generalize (l.length : Int) * c = d at *
    omega
theorem z_pw (x : Int) : 0 ≤ pw (Z x) ∧ pw (Z x) ≤ 41 * 16 ^ 40 := by
  obtain ⟨a, b⟩ := pw_range (Z x) (greedy_lt 41 x)
  have hl : ((Z x).length : Int) ≤ 41 := by have := greedy_len 41 x; show ((greedy 41 x).length : Int) ≤ 41; omega
  refine ⟨a, Int.le_trans b ?_⟩
  exact Int.mul_le_mul_of_nonneg_right hl (by decide +kernel)
theorem times_small {x : Int} : Sm ((Zi x).map fun k' => (16 : Int) ^ k'.toNat).sum := by
  rw [zi_pw]
  obtain ⟨a, b⟩ := z_pw x
  have hc : ((41 : Int) * 16 ^ 40).natAbs < 2 ^ 4000 := by decide +kernel
  exact Nat.lt_of_le_of_lt (by omega) hc
noncomputable abbrev REP : Int := (16 ^ Int.toNat 37 : Int).fdiv 15
theorem rep_is : REP = sumTo 37 fun p => (16 : Int) ^ p := by decide +kernel
theorem times_X {x y lift : Int} (h0 : 0 ≤ lift) (h9 : lift ≤ 9) : Sm ((16 ^ Int.toNat 37 : Int).fdiv 15 * lift + ((Zi x).map fun k' => (16 : Int) ^ k'.toNat).sum * ((Zi y).map fun k' => (16 : Int) ^ k'.toNat).sum) := by
  rw [zi_pw, zi_pw]
  obtain ⟨a, b⟩ := z_pw x
  obtain ⟨c, d⟩ := z_pw y
  have e1 := Int.mul_le_mul b d c (by decide +kernel)
  have e2 := Int.mul_nonneg a c
  have hr : 0 ≤ REP := by decide +kernel
  have e3 : REP * lift ≤ REP * 9 := Int.mul_le_mul_of_nonneg_left h9 hr
  have e4 : 0 ≤ REP * lift := Int.mul_nonneg hr h0
  have hc : (REP * 9 + (41 * 16 ^ 40) * (41 * 16 ^ 40)).natAbs < 2 ^ 4000 := by decide +kernel
  refine Nat.lt_of_le_of_lt ?_ hc
  show (REP * lift + pw (Z x) * pw (Z y)).natAbs ≤ _
  generalize REP * lift = u at *
  generalize pw (Z x) * pw (Z y) = v at *
  generalize REP * 9 = u' at *
  generalize (41 : Int) * 16 ^ 40 * (41 * 16 ^ 40) = v' at *
  omega
/-- the two numbers of a product: one of them below 377 -/
def Fit (x y : Int) : Prop := 0 ≤ x ∧ 0 ≤ y ∧ ((x < 317811 ∧ y < 377) ∨ (x < 377 ∧ y < 317811))
noncomputable def digs (lift : Int) (l1 l2 : List Nat) : List Int := (List.range 37).map (dig lift l1 l2)
section
variable {x y lift : Int} (hx : 0 ≤ x) (hx' : x < 317811) (hy : 0 ≤ y) (hy' : y < 377) (h0 : 0 ≤ lift) (h9 : lift ≤ 9)
include hx hx' hy hy' h0 h9
theorem digs_in : ∀ d ∈ digs lift (Z x) (Z y), lift ≤ d ∧ d ≤ 15 := by
  intro d hd
  obtain ⟨p, _, rfl⟩ := List.mem_map.mp hd
  have := rows_range (Z x) p (Z y)
  have := z_len6 hy hy'
  unfold dig
  omega
theorem pairs_in : ∀ j ∈ Z y, ∀ i ∈ Z x, i + j < 37 := by
  intro j hj i hi
  have := z_small (m := 12) (by decide) (by have : lad 12 = 377 := by decide +kernel
                                            omega) j hj
  have := z_small (m := 26) (by decide) (by have : lad 26 = 317811 := by decide +kernel
                                            omega) i hi
  omega
theorem pv_digs : pv (digs lift (Z x) (Z y)) = REP * lift + pw (Z x) * pw (Z y) := by
  unfold digs
  rw [pv_range]
  have e : sumTo 37 (fun p => dig lift (Z x) (Z y) p * 16 ^ p) = sumTo 37 fun p => lift * 16 ^ p + ((Z y).map fun j => row (Z x) j p).sum * 16 ^ p := sumTo_congr fun p _ => by
    unfold dig; rw [Int.add_mul]
  rw [e, sumTo_add, sumTo_mul, rows_sum (fun p => (16 : Int) ^ p) (Z x) (greedy_nodup 41 x) (Z y) (pairs_in hx hx' hy hy' h0 h9), pow_outer, ← rep_is, Int.mul_comm lift]
theorem rd_digs : rd lift 0 (digs lift (Z x) (Z y)) = circ x y := by
  unfold digs
  rw [rd_range]
  have e : sumTo 37 (fun p => (dig lift (Z x) (Z y) p - lift) * lad (p + 2)) = sumTo 37 fun p => ((Z y).map fun j => row (Z x) j p).sum * lad (p + 2) := sumTo_congr fun p _ => by
    unfold dig
    congr 1
    omega
  rw [e, rows_sum (fun p => lad (p + 2)) (Z x) (greedy_nodup 41 x) (Z y) (pairs_in hx hx' hy hy' h0 h9), outer_sum (Z x)
    (z_small (m := 26) (by decide) (by have : lad 26 = 317811 := by decide +kernel
                                       omega)) (Z y)
    (z_small (m := 12) (by decide) (by have : lad 12 = 377 := by decide +kernel
                                       omega)), (z_all hx (by omega)).1, (z_all hy (by omega)).1]
  rfl
theorem times_one {way : Int} (hw : way = 1 ∨ way = -1) : wordVal (apl (way * (REP * lift + pw (Z x) * pw (Z y))).natAbs) lift = circ x y ∧ (apl (way * (REP * lift + pw (Z x) * pw (Z y))).natAbs).length ≤ 37 := by
  have hd := digs_in hx hx' hy hy' h0 h9
  have hp := pv_nonneg (digs lift (Z x) (Z y)) fun d h => by have := hd d h; omega
  have e := pv_digs hx hx' hy hy' h0 h9
  rw [← e]
  have en : (way * pv (digs lift (Z x) (Z y))).natAbs = (pv (digs lift (Z x) (Z y))).toNat := by
    rcases hw with rfl | rfl <;> omega
  rw [en, wordVal_rd, rdig_pv lift h0 _ 0 hd, rd_digs hx hx' hy hy' h0 h9, apl_len]
  refine ⟨rfl, Nat.le_trans (rdig_len _ fun d h => by have := hd d h; omega) ?_⟩
  unfold digs
  simp
end
noncomputable abbrev timesX (n1 n2 : List Int) (way lift : Int) : Int := way * ((16 ^ Int.toNat 37 : Int).fdiv 15 * lift + (n1.map fun k' => (16 : Int) ^ k'.toNat).sum * (n2.map fun k' => (16 : Int) ^ k'.toNat).sum)
theorem times_both {x y way lift : Int} (hf : Fit x y) (hw : way = 1 ∨ way = -1) (h0 : 0 ≤ lift) (h9 : lift ≤ 9) :
    wordVal (apl (timesX (Zi x) (Zi y) way lift).natAbs) lift = circ x y ∧ (apl (timesX (Zi x) (Zi y) way lift).natAbs).length ≤ 37 := by
  unfold timesX
  rw [zi_pw, zi_pw]
  obtain ⟨hx, hy, ⟨a, b⟩ | ⟨a, b⟩⟩ := hf
  · exact times_one hx a hy b h0 h9 hw
  · have := times_one hy b hx a h0 h9 hw
    rw [Int.mul_comm (pw (Z y)), circ_comm y x] at this
    exact this
theorem times_law {x y way lift : Int} (hf : Fit x y) (hw : way = 1 ∨ way = -1) (h0 : 0 ≤ lift) (h9 : lift ≤ 9) : wordVal (apl (timesX (Zi x) (Zi y) way lift).natAbs) lift = circ x y := (times_both hf hw h0 h9).1
theorem times_short {x y way lift : Int} (hf : Fit x y) (hw : way = 1 ∨ way = -1) (h0 : 0 ≤ lift) (h9 : lift ≤ 9) : ApShort (timesX (Zi x) (Zi y) way lift) := Nat.le_trans (times_both hf hw h0 h9).2 (by decide)
end Mine
namespace Mine
theorem Ctr.weak {w : World} {mean : ExcName → Option Value} {mg mb : Str → Option Value} {k : Nat} {f : Addr} {vs : List Value} {news : List (Addr × Obj)} {P P' : Value → List (Addr × Obj) → Prop} (h : Ctr w mean mg mb k f vs news P) (hp : ∀ v more, P v more → P' v more) : Ctr w mean mg mb k f vs news P' := by
  unfold Ctr at h ⊢
  intro dp un gd cn cs a ccd cl outer A₀ base h₀ L m s Q E h1 h2 h3 h4 h5 h6 h7 h8 h9
  exact h dp un gd cn cs a ccd cl outer A₀ base h₀ L m s Q E h1 h2 h3 h4 h5 h6 h7 h8 fun v more h' tk' hP => h9 v more h' tk' (hp v more hP)
section
variable (w : World) (mean : ExcName → Option Value) (mg mb : Str → Option Value) (news : List (Addr × Obj))
theorem cPart (n : Int) (t : Tok) (h0 : 0 ≤ n) (h1 : n < 317811) : Ctr w mean mg mb 8 286 [.int n t] news (fun v more => ∃ t', v = .int (n - S n) t' ∧ more = []) :=
  (part_walk w mean mg mb n t news h0 (by omega)).weak fun v more ⟨t', r, hp, hr, hv, hm⟩ => ⟨t', by rw [hv, part_law h0 (by omega) hp hr], hm⟩
theorem cName (n : Int) (tn : Tok) (l : Addr) (vs : List Value) (c : Nat) (h0 : 0 ≤ n) (h1 : n < 433494437) (hi : IntsAre vs ladL) (hl : (l, listOf vs.toArray c) ∈ news) :
    Ctr w mean mg mb 16 267 [.int n tn, .ref l] news (fun v more => ∃ t, v = .str (nm (Z n)) t ∧ more = []) :=
  name_walk w mean mg mb news n tn l vs c hl hi h0 h1
theorem cRungs (n : Int) (q : Nat) (t u : Tok) (hq : q ∈ besideL) :
    Ctr w mean mg mb 16 274 [.str (nm (Z n)) t, .str ⟨#[q]⟩ u] news (fun v more => ∃ (D : Addr) (vs : List Value) (c : Nat), v = .ref D ∧ more = [(D, listOf vs.toArray c)] ∧ IntsAre vs (Zi n) ∧ ∀ p ∈ news, p.1 < D) :=
  (rungs_walk w mean mg mb news (nm (Z n)) ⟨#[q]⟩ t u (nm_len n) rfl).weak fun v more ⟨D, vs, c, h1, h2, h3, h4⟩ => ⟨D, vs, c, h1, h2, by rw [rungs_law hq] at h3; exact h3, h4⟩
theorem cTimes (l1 l2 l : Addr) (v1 v2 vs : List Value) (x y way lift : Int) (c1 c2 c : Nat) (tw tl : Tok) (hf : Fit x y) (hw : way = 1 ∨ way = -1) (hl0 : 0 ≤ lift) (hl9 : lift ≤ 9)
    (hi1 : IntsAre v1 (Zi x)) (hi2 : IntsAre v2 (Zi y)) (hi : IntsAre vs ladL)
    (hl1 : (l1, listOf v1.toArray c1) ∈ news) (hl2 : (l2, listOf v2.toArray c2) ∈ news) (hl : (l, listOf vs.toArray c) ∈ news) :
    Ctr w mean mg mb 16 279 [.ref l1, .ref l2, .int way tw, .int lift tl, .ref l] news (fun v more => ∃ t, v = .int (circ x y) t ∧ more = []) :=
  (times_walk w mean mg mb news l1 l2 l v1 v2 vs (Zi x) (Zi y) 0 0 0 way lift c1 c2 c tw tl hl1 hi1 (zi_range x) (zi_len x) hl2 hi2 (zi_range y) (zi_len y) hl hi (by omega) (by omega) hl0 hl9
    times_small times_small (times_X hl0 hl9) (times_short hf hw hl0 hl9)).weak fun v more ⟨t, hv, hm⟩ => ⟨t, by rw [hv, times_law hf hw hl0 hl9], hm⟩
theorem cColl (x y : Int) (t u : Tok) (h0 : 0 ≤ x) (h1 : x < 433494437) (h2 : 0 ≤ y) (h3 : y < 433494437) :
    Ctr w mean mg mb 8 42 [.str (nm (Z x)) t, .str (nm (Z y)) u] news (fun v more => ∃ t', v = .int (b2i (decide (y < x)) - b2i (decide (x < y))) t' ∧ more = []) :=
  (coll_walk w mean mg mb news (nm (Z x)) (nm (Z y)) t u).weak fun v more ⟨t', hv, hm⟩ => ⟨t', by rw [hv, order_law h0 h1 h2 h3, order_law h2 h3 h0 h1], hm⟩
end
end Mine
namespace Mine
structure Nc (n : Int) : Prop where
  lo : 0 ≤ n
  hi : n < 377
structure Nd (n : Int) : Prop where
  lo : 0 ≤ n
  hi : n < 317811
structure Nb (n : Int) : Prop where
  lo : 0 ≤ n
  hi : n < 433494437
theorem nc_fmod (x : Int) : Nc (x.fmod 377) := ⟨Int.fmod_nonneg_of_pos _ (by decide), Int.fmod_lt_of_pos _ (by decide)⟩
theorem nd_nc {x : Int} (h : Nc x) : Nd x := ⟨h.1, by have := h.2; omega⟩
theorem nb_nd {x : Int} (h : Nd x) : Nb x := ⟨h.1, by have := h.2; omega⟩
theorem nd_circ {a b : Int} (h : Nc a) (h' : Nc b) : Nd (circ a b) := ⟨(circ_bound h.1 h.2 h'.1 h'.2).1, (circ_bound h.1 h.2 h'.1 h'.2).2⟩
theorem nb_circ {x c : Int} (h : Nd x) (h' : Nc c) : Nb (circ x c) := ⟨(circ_bound3 h.1 (by have := h.2; omega) h'.1 h'.2).1, (circ_bound3 h.1 (by have := h.2; omega) h'.1 h'.2).2⟩
theorem assoc_eq {a b c : Int} (ha : Nc a) (hb : Nc b) (hc : Nc c) : circ a (circ b c) = circ (circ a b) c := circ_assoc ha.1 ha.2 hb.1 hb.2 hc.1 hc.2
theorem nb_right {a b c : Int} (ha : Nc a) (hb : Nc b) (hc : Nc c) : Nb (circ a (circ b c)) := by
  rw [assoc_eq ha hb hc]; exact nb_circ (nd_circ ha hb) hc
theorem fit_cc {a b : Int} (h : Nc a) (h' : Nc b) : Fit a b := ⟨h.1, h'.1, .inr ⟨h.2, (nd_nc h').2⟩⟩
theorem fit_dc {a b : Int} (h : Nd a) (h' : Nc b) : Fit a b := ⟨h.1, h'.1, .inl ⟨h.2, h'.2⟩⟩
theorem fit_cd {a b : Int} (h : Nc a) (h' : Nd b) : Fit a b := ⟨h.1, h'.1, .inr ⟨h.2, h'.2⟩⟩
theorem way_law (x : Int) : 1 - x.fmod 2 * 2 = 1 ∨ 1 - x.fmod 2 * 2 = -1 := by
  have h0 : 0 ≤ x.fmod 2 := Int.fmod_nonneg_of_pos _ (by decide)
  have h1 : x.fmod 2 < 2 := Int.fmod_lt_of_pos _ (by decide)
  omega
theorem lift_lo (x : Int) : 0 ≤ x.fmod 10 := Int.fmod_nonneg_of_pos _ (by decide)
theorem lift_hi (x : Int) : x.fmod 10 ≤ 9 := by
  have h1 : x.fmod 10 < 10 := Int.fmod_lt_of_pos _ (by decide)
  omega
theorem tab_true (x y : Int) : tab4 (x.fmod 17 * 65536 + 65534 + y.fmod 2).toNat = true := by
  have h0 : 0 ≤ x.fmod 17 := Int.fmod_nonneg_of_pos _ (by decide)
  have h2 : 0 ≤ y.fmod 2 := Int.fmod_nonneg_of_pos _ (by decide)
  have h3 : y.fmod 2 < 2 := Int.fmod_lt_of_pos _ (by decide)
  unfold tab4
  rw [if_neg (by omega), if_neg (by omega)]
  simp
  omega
/-- the strange sign's code by its place -/
noncomputable def besideI : List Int := [64975, 65008, 65533, 65536, 131069, 1114109, 130512, 1113583, 69630, 126975]
noncomputable def bes (i : Int) : Int := besideI.getD i.toNat 0
theorem bes_all : ∀ i : Fin 10, (besideI.getD i.val 0).toNat ∈ besideL ∧ 0 ≤ besideI.getD i.val 0 ∧ besideI.getD i.val 0 < 1114112 := by decide +kernel
theorem bes_in (x : Int) : (bes (x.fmod 10)).toNat ∈ besideL ∧ 0 ≤ bes (x.fmod 10) ∧ bes (x.fmod 10) < 1114112 :=
  bes_all ⟨(x.fmod 10).toNat, by have := lift_lo x; have := lift_hi x; omega⟩
theorem cTab (w : World) (mean : ExcName → Option Value) (mg mb : Str → Option Value) (news : List (Addr × Obj)) (x y : Int) (t : Tok) :
    Ctr w mean mg mb 8 28 [.str ⟨#[(x.fmod 17 * 65536 + 65534 + y.fmod 2).toNat]⟩ t] news (fun v more => v = .bool true ∧ more = []) :=
  (table_walk w mean mg mb news _ t).weak fun v more ⟨h, h'⟩ => ⟨by rw [h, tab_true], h'⟩
section
variable {prog : Program} {w : World} {A : Around} {E : Value → Shared → Prop} {s : Shared} {t u : Tok} {Q : Value → Shared → Prop} {x y : Int}
theorem sub_circ (h : Q (.int (circ x y) s.toks) { s with toks := s.toks + 1 }) : wpAny (model prog w) A (binaryOp .Sub (.int (3 * x * y - x * (y - S y)) t) (.int (y * (x - S x)) u)) Q E s := by
  refine sub_int ?_
  have e : 3 * x * y - x * (y - S y) - y * (x - S x) = circ x y := by
    unfold circ
    have e1 : 3 * x * y = x * y + x * y + x * y := by rw [Int.mul_assoc]; omega
    have e2 : y * x = x * y := Int.mul_comm _ _
    rw [Int.mul_sub, Int.mul_sub, e1, e2]
    omega
  rw [e]
  exact h
theorem ne_same (e : x = y) (h : Q (.bool false) s) : wpAny (model prog w) A (compareOp .NotEq (.int x t) (.int y u)) Q E s := by
  refine PyProof.Rows.ne_int ?_
  subst e
  simpa using h
theorem sm_nb (h : Nb x) : Sm x := Nat.lt_of_le_of_lt (show x.natAbs ≤ 433494437 by have := h.1; have := h.2; omega) (by decide +kernel)
theorem sm_three (h : Nb x) : Sm (3 * x) := Nat.lt_of_le_of_lt (show (3 * x).natAbs ≤ 1300483311 by have := h.1; have := h.2; omega) (by decide +kernel)
theorem sm_part (h : Nb x) : Sm (x - S x) := by
  obtain ⟨a, b⟩ := s_nonneg h.1 h.2
  exact Nat.lt_of_le_of_lt (show (x - S x).natAbs ≤ 433494437 by have := h.2; omega) (by decide +kernel)
end
theorem item_beside {prog : Program} {w : World} {A : Around} {E : Value → Shared → Prop} {s : Shared} {value slice : PySem.Expr} {l : Addr} {x : Int} {u : Tok} {Q : Value → Shared → Prop} {t0 t1 t2 t3 t4 t5 t6 t7 t8 t9 : Tok}
    (hl : s.heap.IsList l #[.int 64975 t0, .int 65008 t1, .int 65533 t2, .int 65536 t3, .int 131069 t4, .int 1114109 t5, .int 130512 t6, .int 1113583 t7, .int 69630 t8, .int 126975 t9]) (h : ∀ t, Q (.int (bes (x.fmod 10)) t) s)
    (hs : subscripted slice false (.ref l) (.int (x.fmod 10) u) = operate [.ref l, .int (x.fmod 10) u] (getItem (.ref l) (.int (x.fmod 10) u)) := by with_unfolding_all rfl) :
    wpAny (model prog w) A (subscriptTail value slice (.ref l) (.int (x.fmod 10) u)) Q E s :=
  item_ints (vs := [.int 64975 t0, .int 65008 t1, .int 65533 t2, .int 65536 t3, .int 131069 t4, .int 1114109 t5, .int 130512 t6, .int 1113583 t7, .int 69630 t8, .int 126975 t9]) (ns := besideI) hl
    (.cons _ _ (.cons _ _ (.cons _ _ (.cons _ _ (.cons _ _ (.cons _ _ (.cons _ _ (.cons _ _ (.cons _ _ (.cons _ _ .nil)))))))))) (lift_lo x) (by have := lift_hi x; show x.fmod 10 < 10; omega) (by decide) h hs
end Mine
namespace Mine
theorem three_of {ys : List Value} {c0 c1 c2 : Int} (h : IntsAre ys (List.map (fun k' => k'.fmod 377) [c0, c1, c2])) : ∃ t0 t1 t2, ys = [.int (c0.fmod 377) t0, .int (c1.fmod 377) t1, .int (c2.fmod 377) t2] := by
  rcases h with _ | ⟨_, t0, h⟩
  rcases h with _ | ⟨_, t1, h⟩
  rcases h with _ | ⟨_, t2, h⟩
  rcases h
  exact ⟨t0, t1, t2, rfl⟩
end Mine
namespace Mine
theorem chr_bes {prog : Program} {w : World} {A : Around} {E : Value → Shared → Prop} {s : Shared} {t : Tok} {Q : Value → Shared → Prop} {x : Int}
    (h : Q (.str ⟨#[(bes (x.fmod 10)).toNat]⟩ s.toks) { s with toks := s.toks + 1 }) :
    wpAny (model prog w) A (call (.builtin "chr") [.int (List.getD [64975, 65008, 65533, 65536, 131069, 1114109, 130512, 1113583, 69630, 126975] (x.fmod 10).toNat 0) t]) Q E s :=
  chr_of_range (i := bes (x.fmod 10)) (bes_in x).2.1 (by have := (bes_in x).2.2; omega) h
theorem chr_tab {prog : Program} {w : World} {A : Around} {E : Value → Shared → Prop} {s : Shared} {t : Tok} {Q : Value → Shared → Prop} {x y : Int}
    (h : Q (.str ⟨#[(x.fmod 17 * 65536 + 65534 + y.fmod 2).toNat]⟩ s.toks) { s with toks := s.toks + 1 }) :
    wpAny (model prog w) A (call (.builtin "chr") [.int (x.fmod 17 * 65536 + 65534 + y.fmod 2) t]) Q E s := by
  have h0 : 0 ≤ x.fmod 17 := Int.fmod_nonneg_of_pos _ (by decide)
  have h1 : x.fmod 17 < 17 := Int.fmod_lt_of_pos _ (by decide)
  have h2 : 0 ≤ y.fmod 2 := Int.fmod_nonneg_of_pos _ (by decide)
  have h3 : y.fmod 2 < 2 := Int.fmod_lt_of_pos _ (by decide)
  exact chr_of_range (by omega) (by omega) h
end Mine
namespace Mine
theorem cTimesR (w : World) (mean : ExcName → Option Value) (mg mb : Str → Option Value) (news : List (Addr × Obj)) (l1 l2 l : Addr) (v1 v2 vs : List Value) (a b c way lift : Int) (c1 c2 cc : Nat) (tw tl : Tok) (ha : Nc a) (hb : Nc b) (hc : Nc c) (hw : way = 1 ∨ way = -1) (hl0 : 0 ≤ lift) (hl9 : lift ≤ 9)
    (hi1 : IntsAre v1 (Zi a)) (hi2 : IntsAre v2 (Zi (circ b c))) (hi : IntsAre vs ladL)
    (hl1 : (l1, listOf v1.toArray c1) ∈ news) (hl2 : (l2, listOf v2.toArray c2) ∈ news) (hl : (l, listOf vs.toArray cc) ∈ news) :
    Ctr w mean mg mb 16 279 [.ref l1, .ref l2, .int way tw, .int lift tl, .ref l] news (fun v more => ∃ t, v = .int (circ (circ a b) c) t ∧ more = []) :=
  (cTimes w mean mg mb news l1 l2 l v1 v2 vs a (circ b c) way lift c1 c2 cc tw tl (fit_cd ha (nd_circ hb hc)) hw hl0 hl9 hi1 hi2 hi hl1 hl2 hl).weak fun v more ⟨t, hv, hm⟩ => ⟨t, by rw [hv, assoc_eq ha hb hc], hm⟩
theorem nb7 {a b c : Int} (ha : Nc a) (hb : Nc b) (hc : Nc c) : ∀ n ∈ [a, b, c, circ a b, circ b c, circ (circ a b) c, circ (circ a b) c], Nb n := by
  intro n hn
  simp only [List.mem_cons, List.not_mem_nil, or_false] at hn
  rcases hn with rfl | rfl | rfl | rfl | rfl | rfl | rfl
  · exact nb_nd (nd_nc ha)
  · exact nb_nd (nd_nc hb)
  · exact nb_nd (nd_nc hc)
  · exact nb_nd (nd_circ ha hb)
  · exact nb_nd (nd_circ hb hc)
  · exact nb_circ (nd_circ ha hb) hc
  · exact nb_circ (nd_circ ha hb) hc
end Mine
namespace Mine
theorem inplace_iconcat {M : Model} {A : Around} {E : Value → Shared → Prop} {s : Shared} {a b : Value} {T id : String} {Q : Value → Shared → Prop} (ha : s.TypeIs a T) (hb : s.TypeIs b T)
    (hi : typeLookup (.type T) (dunderI "add") = pure (some (.builtin id))) (hs : isSeqSlot (some (.builtin id)) = true) (hfill : fillsNumberSlot (.type T) "add" = pure false)
    (hc : wpAny M A (call (.builtin id) [a, b]) Q E s) : wpAny M A (inplaceOp .Add a b) Q E s := by
  unfold inplaceOp
  refine wpAny_holding ?_
  have hfi : fillsInplaceSlot (.type T) "add" (Operator.Add == .Add) = pure false := by
    unfold fillsInplaceSlot
    show (typeLookup (.type T) (dunderI "add") >>= fun fi => pure (fi.isSome && !isSeqSlot fi)) = pure false
    rw [hi]
    simp only [pure_bind, hs]
    rfl
  have hsi : seqSlot? (.type T) (dunderI "add") = pure (some (.builtin id)) := PySem.seqSlot_of hi hs
  refine wpAny_bind (wpAny_typeOf ha (wpAny_bind (wpAny_of_eq hfi ?_)))
  show wpAny M A (if false = true then _ else _) Q E s
  rw [if_neg Bool.false_ne_true]
  refine wpAny_bind (wpAny_binaryOp1_none (nm := "add") ha hb hfill ?_)
  refine wpAny_bind (wpAny_of_eq hsi ?_)
  exact wpAny_bind (wpAny_rule hc)
theorem kl_iadd {prog : Program} {w : World} {A : Around} {E : Value → Shared → Prop} {s : Shared} {h₀ : Heap} {L D b : Addr} {m : Str → Option Value} {news news' : List (Addr × Obj)} {l1 l2 : List Value} {n n2 : Nat} {Q : Value → Shared → Prop}
    (F : Fr h₀ L s.heap m) (N : News h₀ L s.heap news) (hb : (b, listOf l2.toArray n2) ∈ news) (hne : l2.length ≠ 0) (hz : l1.length + l2.length ≤ 1000)
    (U : Upd D (listOf l1.toArray n) (listOf (l1 ++ l2).toArray (n + 1)) news news')
    (h : ∀ h', Fr h₀ L h' m → News h₀ L h' news' → Q (.ref D) { s with heap := h' }) : wpAny (model prog w) A (inplaceOp .Add (.ref D) (.ref b)) Q E s := by
  obtain ⟨pre, post, rfl, rfl, a, c⟩ := U.split
  have z := N (D, listOf l1.toArray n) (List.mem_append.mpr (.inr (.head _)))
  have z2 := N _ hb
  refine inplace_iconcat (T := "list") ⟨_, z.1, rfl⟩ ⟨_, z2.1, rfl⟩ PySem.F.slot_list_iadd.lookup (by decide +kernel) noFill_list_add ?_
  refine call_meets PySem.F.slot_list_iadd ⟨_, z.1, rfl⟩ PySem.F.entry_list_iadd (PySem.F.args_list_iadd_2 _ _) (PySem.AutoSeq1.list___iadd___list_list_0 D l1.toArray n b l2.toArray n2 ?_ ?_ ?_) ⟨z.1, z2.1, h _ (F.change (Heap.SameBut.update ..) z.2.1 z.2.2) (kl_turn _ N a c ?_ ?_)⟩
  · rw [List.size_toArray, List.size_toArray]
    unfold Builtin.List.listTooLong
    rw [sizeLine_eq]
    simp
    omega
  · rw [List.size_toArray, sizeLine_eq]; omega
  · rw [List.size_toArray, List.size_toArray, sizeLine_eq]; omega
  · apply Array.toList_inj.mp
    simp
  · simp
    exact fun e => hne (by rw [e]; rfl)
end Mine
namespace Mine
local macro_rules | `(tactic| walk_at $s:str) => `(tactic| k_extra $s) -- shared
local macro_rules | `(tactic| walk_at "mine tail d") => `(tactic| (rintro _ _ hN tkN ⟨tN, hv, hm⟩ kF kN; subst hv; subst hm; (try dsimp only [List.nil_append, List.cons_append] at kN); (try dsimp only); (try k_fold))) -- shared
/-- the statements and the scope of the last def of the text -/
noncomputable def lawDef (p : Program) : List Stmt × Scope := match p.main.body.reverse with
  | .FunctionDef _ _ body _ _ _ scope _ _ _ :: _ => (body, scope)
  | _ => ([], p.main.scope)
noncomputable def lawScope : Scope := (lawDef PySem.Challenge.rw_kl0205_01.row.prog).2
noncomputable def lawTail : List Stmt := (lawDef PySem.Challenge.rw_kl0205_01.row.prog).1.drop 22
inductive NamesAre : List Value → List Int → Prop
  | nil : NamesAre [] []
  | cons {vs : List Value} {ns : List Int} (n : Int) (t : Tok) : NamesAre vs ns → NamesAre (.str (nm (Z n)) t :: vs) (n :: ns)
inductive RungsAre (led : List (Addr × Obj)) : List Value → List Int → Prop
  | nil : RungsAre led [] []
  | cons {vs : List Value} {ns : List Int} (D : Addr) (v : List Value) (c : Nat) (n : Int) : (D, listOf v.toArray c) ∈ led → IntsAre v (Zi n) → RungsAre led vs ns → RungsAre led (.ref D :: vs) (n :: ns)
theorem NamesAre.at : ∀ {vs : List Value} {ns : List Int}, NamesAre vs ns → ∀ i, i < ns.length → ∃ t, vs[i]? = some (.str (nm (Z (ns.getD i 0))) t)
  | _, _, .nil, i, h => absurd h (Nat.not_lt_zero _)
  | _, _, .cons n t _, 0, _ => ⟨t, rfl⟩
  | _, _, .cons n t r, i + 1, h => by
    obtain ⟨u, hu⟩ := NamesAre.at r i (Nat.lt_of_succ_lt_succ h)
    exact ⟨u, by simpa using hu⟩
theorem RungsAre.at {led : List (Addr × Obj)} : ∀ {vs : List Value} {ns : List Int}, RungsAre led vs ns → ∀ i, i < ns.length → ∃ D v c, vs[i]? = some (.ref D) ∧ (D, listOf v.toArray c) ∈ led ∧ IntsAre v (Zi (ns.getD i 0))
  | _, _, .nil, i, h => absurd h (Nat.not_lt_zero _)
  | _, _, .cons D v c n hm hi _, 0, _ => ⟨D, v, c, rfl, hm, hi⟩
  | _, _, .cons _ _ _ n _ _ r, i + 1, h => by
    obtain ⟨D, v, c, h1, h2, h3⟩ := RungsAre.at r i (Nat.lt_of_succ_lt_succ h)
    exact ⟨D, v, c, by simpa using h1, h2, by simpa using h3⟩
theorem fr_named {h₀ h : Heap} {L : Addr} {m : Str → Option Value} {a : Str} {v : Value} (F : Fr h₀ L h m) (e : m a = some v) : Fr h₀ L h (fun y => if y = a then some v else m y) := by
  have : (fun y => if y = a then some v else m y) = m := by
    funext y
    by_cases h : y = a
    · rw [if_pos h, h, e]
    · rw [if_neg h]
  rw [this]
  exact F
theorem small7 {k : Int} (h : k < 7) : k < 2 ^ 63 := Int.lt_trans h (by decide)
theorem zi_lo {n r : Int} (h : r ∈ Zi n) : 0 ≤ r := (zi_range n r h).1
theorem zi_hi {n r : Int} (h : r ∈ Zi n) : r < 41 := by have := (zi_range n r h).2; omega
theorem zi_size {v : List Value} {n : Int} (h : IntsAre v (Zi n)) : v.toArray.size ≤ sizeLine := by
  have := IntsAre.length h
  have := zi_len n
  rw [List.size_toArray, sizeLine_eq]; omega
theorem getD_mem {ns : List Int} {i : Nat} (h : i < ns.length) : ns.getD i 0 ∈ ns := by
  rw [List.getD, List.getElem?_eq_getElem h]
  exact List.getElem_mem h
theorem news_more {h₀ h : Heap} {L : Addr} {a1 a2 a3 a4 a5 q : Addr × Obj} {nw own : List (Addr × Obj)} (N : News h₀ L h (a1 :: a2 :: a3 :: a4 :: a5 :: (nw ++ own))) (hq : q ∈ nw) : News h₀ L h (q :: a1 :: a2 :: a3 :: a4 :: a5 :: (nw ++ own)) := fun p hp => by
  rcases List.mem_cons.mp hp with rfl | hp
  · exact N _ (by simp [hq])
  · exact N p hp
theorem coll_gt {x y : Int} (h : y < x) : b2i (decide (y < x)) - b2i (decide (x < y)) = 1 := by
  rw [decide_eq_true h, decide_eq_false (by omega)]; rfl
theorem coll_lt {x y : Int} (h : x < y) : b2i (decide (y < x)) - b2i (decide (x < y)) = -1 := by
  rw [decide_eq_true h, decide_eq_false (by omega)]; rfl
theorem coll_eq {x y : Int} (h : ¬ x < y) (h' : ¬ y < x) : b2i (decide (y < x)) - b2i (decide (x < y)) = 0 := by
  rw [decide_eq_false h, decide_eq_false h']; rfl
theorem sum_nb {n : Int} (h : Nb n) : ((Zi n).map fun r => lad r.toNat).sum = n := sum_law h.1 h.2
theorem cColl' (w : World) (mean : ExcName → Option Value) (mg mb : Str → Option Value) (news : List (Addr × Obj)) (x y : Int) (t u : Tok) (h : Nb x) (h' : Nb y) :
    Ctr w mean mg mb 8 42 [.str (nm (Z x)) t, .str (nm (Z y)) u] news (fun v more => ∃ t', v = .int (b2i (decide (y < x)) - b2i (decide (x < y))) t' ∧ more = []) :=
  cColl w mean mg mb news x y t u h.1 h.2 h'.1 h'.2
theorem six_in (a1 a2 a3 a4 a5 a6 : Addr × Obj) (nw own : List (Addr × Obj)) : ∀ p ∈ a1 :: a2 :: a3 :: a4 :: a5 :: a6 :: nw, p ∈ a1 :: a2 :: a3 :: a4 :: a5 :: a6 :: (nw ++ own) := fun p hp => by
  simp only [List.mem_cons, List.mem_append] at hp ⊢
  rcases hp with h | h | h | h | h | h | h <;> simp [h]
theorem six_own (a1 a2 a3 a4 a5 a6 : Addr × Obj) (nw own : List (Addr × Obj)) : ∀ p ∈ own, p ∈ a1 :: a2 :: a3 :: a4 :: a5 :: a6 :: (nw ++ own) := fun p hp => by
  simp only [List.mem_cons, List.mem_append]
  simp [hp]
theorem five_in (a0 a1 a2 a3 a4 a5 : Addr × Obj) (nw own : List (Addr × Obj)) : ∀ p ∈ a1 :: a2 :: a3 :: a4 :: a5 :: nw, p ∈ a0 :: a1 :: a2 :: a3 :: a4 :: a5 :: (nw ++ own) := fun p hp => by
  simp only [List.mem_cons, List.mem_append] at hp ⊢
  rcases hp with h | h | h | h | h | h <;> simp [h]
theorem five_own (a0 a1 a2 a3 a4 a5 : Addr × Obj) (nw own : List (Addr × Obj)) : ∀ p ∈ own, p ∈ a0 :: a1 :: a2 :: a3 :: a4 :: a5 :: (nw ++ own) := fun p hp => by
  simp only [List.mem_cons, List.mem_append]
  simp [hp]
theorem fr_three {h₀ h : Heap} {L : Addr} {m : Str → Option Value} {a b c : Str} {va vb vc : Value} (F : Fr h₀ L h m) (ea : m a = some va) (eb : m b = some vb) (ec : m c = some vc) :
    Fr h₀ L h (fun y => if y = a then some va else if y = b then some vb else if y = c then some vc else m y) := by
  have : (fun y => if y = a then some va else if y = b then some vb else if y = c then some vc else m y) = m := by
    funext y
    by_cases h1 : y = a
    · rw [if_pos h1, h1, ea]
    · rw [if_neg h1]
      by_cases h2 : y = b
      · rw [if_pos h2, h2, eb]
      · rw [if_neg h2]
        by_cases h3 : y = c
        · rw [if_pos h3, h3, ec]
        · rw [if_neg h3]
  rw [this]
  exact F
set_option maxRecDepth 100000 in
set_option maxHeartbeats 16000000 in
theorem tail_walk (w : World) (mean : ExcName → Option Value) (mg mb : Str → Option Value) (L fa ca : Addr) (cdv : Value) (h₀ : Heap) (m : Str → Option Value) (nw : List (Addr × Obj)) (s : Shared) (Q : Flow → Shared → Prop) (E : Value → Shared → Prop)
    (Dn Dr Dq Dl : Addr) (vn vr vq vl : List Value) (cn cr cq cl : Nat) (oc : Obj) (ns : List Int)
    (hB : Below callerA h₀ [] h₀) (F : Fr h₀ L s.heap m) (hK : (hd.heap_39 w.params).In h₀) (N : News h₀ L s.heap nw)
    (hT : Top hd.view_39 (looseW hd.view_39 [Str.ofString "locale_encoding_alias"]) mean mg mb h₀)
    (fn : m (Str.ofString "names") = some (.ref Dn)) (fr : m (Str.ofString "rungs") = some (.ref Dr)) (fq : m (Str.ofString "numbers") = some (.ref Dq))
    (hc : (envOfC (Str.ofString "law") lawScope L fa cdv).cells.lookup (Str.ofString "ladder") = some ca) (hca : (ca, oc) ∈ nw) (hoc : oc.data = .cell (some (.ref Dl)))
    (hn : (Dn, listOf vn.toArray cn) ∈ nw) (hr : (Dr, listOf vr.toArray cr) ∈ nw) (hq : (Dq, listOf vq.toArray cq) ∈ nw) (hl : (Dl, listOf vl.toArray cl) ∈ nw)
    (hN : NamesAre vn ns) (hR : RungsAre nw vr ns) (hQ : IntsAre vq ns) (hL : IntsAre vl ladL) (h7 : ns.length = 7) (hb : ∀ n ∈ ns, Nb n)
    (hE : PassesOwn (model PySem.Challenge.rw_kl0205_01.row.prog w) (callerA.deeper (envOfC (Str.ofString "law") lawScope L fa cdv)) (envOfC (Str.ofString "law") lawScope L fa cdv) E)
    (hret : ∀ h' tk m', Fr h₀ L h' m' → Q (.ret (.bool true)) { s with heap := h', toks := tk }) :
    wpAny (model PySem.Challenge.rw_kl0205_01.row.prog w) (callerA.deeper (envOfC (Str.ofString "law") lawScope L fa cdv)) (execs lawTail (envOfC (Str.ofString "law") lawScope L fa cdv)) Q E s := by
  revert hK
  k_with_none
  w_top off
  k_fill
  k_with "exec For" => (k_here; (rename Fr _ _ _ _ => lF'); (with_unfolding_all refine' For_invVF (hE := ?k3) lF' ?k1 ?k2 ?_; (case k1 => exact rfl); (case k2 => exact rfl); (case k3 => assumption); k_whole))
  k_with "subscriptTail Name Name ref int" => (k_here; (with_reducible show wpAny _ _ (subscriptTail _ _ (Value.ref _) (Value.int _ _)) _ _ _); k_dflt (refine' item_at ?k1 ?k2 ?k3 ?k4 ?_ ?k6; (case k1 => exact News.isList (by with_reducible assumption) (by k_mem)); (case k2 => with_reducible assumption); (case k3 => exact small7 (by with_reducible assumption)); (case k4 => with_reducible assumption); (case k6 => with_unfolding_all rfl)))
  k_with "eval ListComp" => (k_here; k_dflt (refine' LCg.ListComp_U (F₀ := ?qa) ?qd ?qe ?qf ?qg ?qh ?_ ?ql; (case qa => k_asm); (case qe => decide); (case qf => rfl); (case qg => decide); (case qh => rfl); (case ql => intro _; rfl); (case qd => with_unfolding_all rfl)))
  k_with "CompSrc" => (k_here; k_dflt (refine LCg.CompSrc.ledger (by rfl) (by k_asm) (by k_asm) (by k_mem) (by with_reducible assumption) ?_; intro g'; (refine' kcf_list (fun r => lad r.toNat) (by with_reducible assumption) (fun k' t' I' oI' C' oC' D' m' ys' h' tk' E' hk' hC' hx' F' N' off' ne' hMark' => ?_) ?_); (all_goals (try (simp only [LCg.Off3, and_true] at off'))); kcf_last))
  k_with "subscriptTail Name Name ref int" => (k_here; (with_reducible show wpAny _ _ (subscriptTail _ _ (Value.ref _) (Value.int _ _)) _ _ _); k_dflt (refine' item_lad ?k1 ?k2 ?k3 ?k4 ?_ ?k6; (case k1 => with_reducible assumption); (case k2 => exact News.isList (by with_reducible assumption) (by k_mem)); (case k3 => exact zi_lo (by with_reducible assumption)); (case k4 => exact zi_hi (by with_reducible assumption)); (case k6 => with_unfolding_all rfl)); intro tI)
  k_with "compareOp NotEq int int" => (k_here; refine ne_same (by first | rfl | with_reducible exact sum_nb (by with_reducible assumption) | exact coll_gt (by omega) | exact coll_lt (by omega) | exact coll_eq (by omega) (by omega)) ?_)
  k_with "call type:type" => (k_here; (with_reducible show wpAny _ _ (call (Value.type "type") [Value.int _ _]) _ _ _); refine type_int ?_)
  k_with "call ref" => (k_here; (with_reducible show wpAny _ _ (call (Value.ref 42) [Value.str _ _, Value.str _ _]) _ _ _); (have hC := cColl'); unfold Ctr at hC; k_dflt (refine' hC _ _ _ _ _ _ _ _ _ ?ka ?kb _ _ _ _ _ _ _ _ _ _ _ _ _ _ _ _ _ ?k1 ?k2 ?k3 ?k4 ?k5 ?k6 ?k7 ?k8 ?_; (case k1 => k_asm); (case k2 => k_asm); (case k3 => k_asm); (case k4 => k_asm); (case k5 => k_asm); (case k6 => exact rfl); (case k7 => first | ktr_room | decide | omega); (case k8 => first | ktr_units | decide | omega); (case ka => with_reducible assumption); (case kb => with_reducible assumption)); clear hC; walk_at "mine tail d")
  intro hK
  have N0 : News h₀ L s.heap ((Dn, listOf vn.toArray cn) :: (Dr, listOf vr.toArray cr) :: (Dq, listOf vq.toArray cq) :: (Dl, listOf vl.toArray cl) :: (ca, oc) :: nw) := fun p hp => by
    rcases List.mem_cons.mp hp with rfl | hp
    · exact N _ hn
    rcases List.mem_cons.mp hp with rfl | hp
    · exact N _ hr
    rcases List.mem_cons.mp hp with rfl | hp
    · exact N _ hq
    rcases List.mem_cons.mp hp with rfl | hp
    · exact N _ hl
    rcases List.mem_cons.mp hp with rfl | hp
    · exact N _ hca
    exact N p hp
  have F0 := fr_three F fn fr fq
  clear N F fn fr fq hn hr hq hl hca
  have et : lawTail = lawTail := rfl
  conv at et => rhs; whnf
  rw [et]
  clear et
  have es : lawScope = lawScope := rfl
  conv at es => rhs; whnf
  rw [es] at hc hE ⊢
  clear es
  obtain rfl : L + 1 + 1 = ca := Option.some.inj (show some (L + 1 + 1) = some ca from hc)
  repeat ((fail_if_success (with_reducible show wpAny _ _ (pyIter (Value.ref _)) _ _ _)); first | (k_unfold; (try dsimp only)) | walk1 | (dsimp only; walk1))
  rename Fr _ _ _ _ => F1
  rename News _ _ _ _ => N1
  rename IsRange _ _ _ _ _ _ _ _ => R1
  refine' kst_range (σ := Unit) (n := 7) (fun _ => (Dn, listOf vn.toArray cn) :: (Dr, listOf vr.toArray cr) :: (Dq, listOf vq.toArray cq) :: (Dl, listOf vl.toArray cl) :: (L + 1 + 1, oc) :: nw) (fun _ => []) (fun _ => True) [Str.ofString "m", Str.ofString "told", Str.ofString "due"] (fun _ _ => True) () ?ra R1 ?rb ?rc F1 N1 trivial (fun _ h => nomatch h) trivial ?_ ?_
  case ra => rfl
  case rb => decide
  case rc => rfl
  · rintro ⟨⟩ pre k t u h tk own hk hlt hoff _ _ F N
    clear F1 N1 R1
    have hk0 : 0 ≤ k := by omega
    have hk7 : k < 7 := by omega
    obtain ⟨tn, hnk⟩ := hN.at k.toNat (by omega)
    obtain ⟨tq, hqk⟩ := ints_get hQ k.toNat (by omega)
    obtain ⟨D, v, c, hrk, hDm, hDi⟩ := hR.at k.toNat (by omega)
    have hbk : Nb (ns.getD k.toNat 0) := hb _ (getD_mem (by omega))
    generalize ns.getD k.toNat 0 = n at *
    simp only [List.cons_append, List.map_cons] at hoff N
    have hMk := kstMark
    have hvz := zi_size hDi
    have N2 := news_more N hDm
    clear N
    repeat ((fail_if_success (with_reducible show wpAny _ _ (pyIter (Value.ref _)) _ _ _)); first | (k_unfold; (try dsimp only)) | walk1 | (dsimp only; walk1))
    rename Fr _ _ _ _ => F1
    rename News _ _ _ _ => N1
    rename IsRange _ _ _ _ _ _ _ _ => R1
    refine' kst_range (σ := Unit) (n := 7) (fun _ => (D, listOf v.toArray c) :: (Dn, listOf vn.toArray cn) :: (Dr, listOf vr.toArray cr) :: (Dq, listOf vq.toArray cq) :: (Dl, listOf vl.toArray cl) :: (L + 1 + 1, oc) :: (nw ++ own)) (fun _ => []) (fun _ => True) [Str.ofString "told", Str.ofString "due"] (fun _ _ => True) () ?ra R1 ?rb ?rc F1 ?rn trivial (fun _ h => nomatch h) trivial ?_ ?_
    case ra => rfl
    case rb => decide
    case rc => rfl
    case rn => first | exact N1 | exact fun p hp => N1 p (List.mem_cons_of_mem _ hp)
    · rintro ⟨⟩ pre2 j t2 u2 h2 tk2 own2 hj hlt2 hoff2 _ _ F N
      clear F1 N1 R1
      have hj0 : 0 ≤ j := by omega
      have hj7 : j < 7 := by omega
      obtain ⟨tn2, hnj⟩ := hN.at j.toNat (by omega)
      obtain ⟨tq2, hqj⟩ := ints_get hQ j.toNat (by omega)
      have hbj : Nb (ns.getD j.toNat 0) := hb _ (getD_mem (by omega))
      generalize ns.getD j.toNat 0 = n2 at *
      simp only [List.cons_append] at N
      k_steps
      all_goals
        rename Fr _ _ _ _ => F2
        rename News _ _ _ _ => N2
        refine kst_end () F2 N2 (six_in _ _ _ _ _ _ _ _) (six_own _ _ _ _ _ _ _ _) rfl trivial (fun _ h => nomatch h) ?_ trivial
        intro z h1 _ h3
        simp only [List.contains_cons, List.contains_nil, Bool.or_false, Bool.or_eq_false_iff, beq_eq_false_iff_ne, ne_eq] at h3
        simp [h1, h3, kstB]
    · rintro ⟨⟩ u2 h2 tk2 _ _ F N
      clear F1 N1 R1
      k_steps
      all_goals
        rename Fr _ _ _ _ => F2
        rename News _ _ _ _ => N2
        refine kst_end () F2 N2 (five_in _ _ _ _ _ _ _ _) (five_own _ _ _ _ _ _ _ _) rfl trivial (fun _ h => nomatch h) ?_ trivial
        intro z h1 _ h3
        simp only [List.contains_cons, List.contains_nil, Bool.or_false, Bool.or_eq_false_iff, beq_eq_false_iff_ne, ne_eq] at h3
        simp [h1, h3, kstB]
  · rintro ⟨⟩ u h tk _ _ F N
    clear F1 N1 R1
    k_steps
    exact hret _ _ _ F
end Mine
namespace Mine
theorem ints7 {n0 n1 n2 n3 n4 n5 n6 : Int} {t0 t1 t2 t3 t4 t5 t6 : Tok} : IntsAre [.int n0 t0, .int n1 t1, .int n2 t2, .int n3 t3, .int n4 t4, .int n5 t5, .int n6 t6] [n0, n1, n2, n3, n4, n5, n6] :=
  .cons _ _ (.cons _ _ (.cons _ _ (.cons _ _ (.cons _ _ (.cons _ _ (.cons _ _ .nil))))))
theorem names7 {n0 n1 n2 n3 n4 n5 n6 : Int} {t0 t1 t2 t3 t4 t5 t6 : Tok} : NamesAre [.str (nm (Z n0)) t0, .str (nm (Z n1)) t1, .str (nm (Z n2)) t2, .str (nm (Z n3)) t3, .str (nm (Z n4)) t4, .str (nm (Z n5)) t5, .str (nm (Z n6)) t6] [n0, n1, n2, n3, n4, n5, n6] :=
  .cons _ _ (.cons _ _ (.cons _ _ (.cons _ _ (.cons _ _ (.cons _ _ (.cons _ _ .nil))))))
theorem rungs7 {led : List (Addr × Obj)} {D0 D1 D2 D3 D4 D5 D6 : Addr} {v0 v1 v2 v3 v4 v5 v6 : List Value} {c0 c1 c2 c3 c4 c5 c6 : Nat} {n0 n1 n2 n3 n4 n5 n6 : Int}
    (m0 : (D0, listOf v0.toArray c0) ∈ led) (m1 : (D1, listOf v1.toArray c1) ∈ led) (m2 : (D2, listOf v2.toArray c2) ∈ led) (m3 : (D3, listOf v3.toArray c3) ∈ led) (m4 : (D4, listOf v4.toArray c4) ∈ led) (m5 : (D5, listOf v5.toArray c5) ∈ led) (m6 : (D6, listOf v6.toArray c6) ∈ led)
    (i0 : IntsAre v0 (Zi n0)) (i1 : IntsAre v1 (Zi n1)) (i2 : IntsAre v2 (Zi n2)) (i3 : IntsAre v3 (Zi n3)) (i4 : IntsAre v4 (Zi n4)) (i5 : IntsAre v5 (Zi n5)) (i6 : IntsAre v6 (Zi n6)) :
    RungsAre led [.ref D0, .ref D1, .ref D2, .ref D3, .ref D4, .ref D5, .ref D6] [n0, n1, n2, n3, n4, n5, n6] :=
  .cons _ _ _ _ m0 i0 (.cons _ _ _ _ m1 i1 (.cons _ _ _ _ m2 i2 (.cons _ _ _ _ m3 i3 (.cons _ _ _ _ m4 i4 (.cons _ _ _ _ m5 i5 (.cons _ _ _ _ m6 i6 .nil))))))
end Mine
namespace Mine
local macro_rules | `(tactic| walk_at $s:str) => `(tactic| k_extra $s) -- shared
local macro_rules | `(tactic| walk_at "mine tail e") => `(tactic| (rintro _ _ hN tkN ⟨D, c0, c1, c2, c3, t0, t1, t2, t3, cc, hv, hm, hlt⟩ kF kN; subst hv; subst hm; (try k_lt hlt); (try k_sweep); (repeat (rename (_ ∧ _) => hAnd; have hAl := hAnd.1; have hAr := hAnd.2; clear hAnd)); (try dsimp only [List.nil_append, List.cons_append] at kN); (try dsimp only); (try k_fold))) -- shared
local macro_rules | `(tactic| walk_at "mine tail d") => `(tactic| (rintro _ _ hN tkN ⟨tN, hv, hm⟩ kF kN; subst hv; subst hm; (try dsimp only [List.nil_append, List.cons_append] at kN); (try dsimp only); (try k_fold))) -- shared
local macro_rules | `(tactic| walk_at "mine tail f") => `(tactic| (rintro _ _ hN tkN ⟨hv, hm⟩ kF kN; subst hv; subst hm; (try dsimp only [List.nil_append, List.cons_append] at kN); (try dsimp only); (try k_fold))) -- shared
local macro_rules | `(tactic| walk_at "mine tail g") => `(tactic| (rintro _ _ hN tkN ⟨D, vs, cc, hv, hm, hi, hlt⟩ kF kN; subst hv; subst hm; (try k_lt hlt); (try k_sweep); (repeat (rename (_ ∧ _) => hAnd; have hAl := hAnd.1; have hAr := hAnd.2; clear hAnd)); (try dsimp only [List.nil_append, List.cons_append] at kN); (try dsimp only); (try k_fold))) -- shared
local macro_rules | `(tactic| size_fits) => `(tactic| exact Nat.le_of_ble_eq_true rfl)
local macro_rules | `(tactic| k_ne) => `(tactic| (refine neN ?_; (try dsimp only); (repeat (rename (_ ∧ _) => hAnd; have hAl := hAnd.1; have hAr := hAnd.2; clear hAnd)); first | assumption | (refine Ne.symm ?_; assumption) | (refine Nat.ne_of_lt ?_; assumption) | (refine Nat.ne_of_gt ?_; assumption)))
set_option maxRecDepth 100000 in
set_option maxHeartbeats 32000000 in
theorem main_walk : PySem.Challenge.rw_kl0205_01.Holds := hd_of (by rfl) (by rfl) (by rfl) (by
  k_with_none
  k_with "binaryOp Sub int int" => (k_here; with_reducible refine sub_circ ?_)
  k_with "compareOp NotEq int int" => (k_here; refine ne_same (by first | rfl | with_reducible exact assoc_eq (nc_fmod _) (nc_fmod _) (nc_fmod _)) ?_)
  k_with "subscriptTail" => (k_here; (with_reducible show wpAny _ _ (subscriptTail _ _ (Value.ref _) (Value.int (Int.fmod _ 10) _)) _ _ _); (with_unfolding_all refine' item_beside ?k2 ?_ ?k6; (case k2 => first | is_list | exact News.isList (by k_asm) (by k_mem)); (case k6 => with_unfolding_all rfl)); intro tI)
  k_with "assign Tuple" => (k_here; (obtain ⟨u0, u1, u2, hy⟩ := three_of (by assumption)); subst hy; walk1)
  k_with "exec Assign cons ListComp" => (k_here; k_dflt (refine' LCg.Assign_ListComp_U (F₀ := ?qa) ?qb ?qc ?qd ?qe ?qf ?qg ?qh ?qi ?qj ?_ ?ql; (case qa => k_asm); (case qb => rfl); (case qe => decide); (case qf => rfl); (case qg => decide); (case qh => rfl); (case qi => rfl); (case qj => rfl); (case ql => intro _; rfl); (case qd => with_unfolding_all rfl); (case qc => with_unfolding_all rfl)))
  k_with "CompSrc" => (k_here; k_dflt (refine LCg.CompSrc.ledger (by rfl) (by k_asm) (by k_asm) (by k_mem) (by exact Nat.le_of_ble_eq_true rfl) ?_; intro g'; lcg_lit))
  k_with "call builtin:chr" => (k_here; first | with_reducible refine chr_bes ?_ | with_reducible refine chr_tab ?_)
  k_with "callWith ref nil nil" => (k_here; (with_reducible show wpAny _ _ (callWith _ (Value.ref 260) _ _ _) _ _ _); k_dflt (refine' callWith_K0 ?k1 ?k2 ?_; (case k1 => exact Frag.In.keeps (by with_reducible assumption) (Fr.keep (by with_reducible assumption))); (case k2 => k_is); (try dsimp only [List.nil_append])))
  k_with "FinA" => ((unfold LCg.FinA); intro D' h' tk' F' N' o1'; (try simp only [LCg.Off1, and_true] at o1'); (try simp only [List.nil_append, List.cons_append] at N'); (try dsimp only); (try k_sweep); (repeat (rename (_ ∧ _) => hAnd; have hAl := hAnd.1; have hAr := hAnd.2; clear hAnd)))
  k_with "FinE" => ((unfold LCg.FinE); intro D' h' tk' F' N' o1'; (try simp only [LCg.Off1, and_true] at o1'); (try simp only [List.nil_append, List.cons_append] at N'); (try dsimp only); (try k_sweep); (repeat (rename (_ ∧ _) => hAnd; have hAl := hAnd.1; have hAr := hAnd.2; clear hAnd)))
  k_with "CompRest" => (with_unfolding_all first | (refine LCg.CompRest.succ ?_; intro v' I' oI' C' oC' D' m' h' tk' E' hv' hC' hx' F' N' off' ne'; lcg_open hv'; (try simp only [LCg.Off3, and_true] at off'); (try k_sweep); (repeat (rename (_ ∧ _) => hAnd; have hAl := hAnd.1; have hAr := hAnd.2; clear hAnd))) | refine LCg.CompRest.zero ?_)
  k_with "subscriptTail Name Constant ref int" => (k_here; (with_reducible show wpAny _ _ (subscriptTail _ _ (Value.ref _) (Value.int _ _)) _ _ _); k_dflt (refine' item_at ?k1 ?k2 ?k3 ?k4 ?_ ?k6; (case k1 => exact News.isList (by with_reducible assumption) (by k_mem)); (case k2 => decide); (case k3 => decide); (case k4 => rfl); (case k6 => with_unfolding_all rfl); (try dsimp only)))
  k_with "inplaceOp Add ref ref" => (k_here; k_dflt (refine' kl_iadd ?k1 ?k2 ?k3 ?k4 ?k5 ?k6 ?_; (case k1 => k_asm); (case k2 => k_asm); (case k3 => k_mem); (case k6 => k_upd); (case k4 => exact Nat.succ_ne_zero _); (case k5 => exact Nat.le_of_ble_eq_true rfl)); intro h' F' N'; (try simp only [List.cons_append, List.nil_append] at N'); (try k_sweep))
  k_with "call ref" => (k_here; (with_reducible show wpAny _ _ (call (Value.ref 253) [Value.ref _]) _ _ _); (have hC := cells_walk); unfold CtrL at hC; k_dflt (refine' hC _ _ _ _ _ _ _ _ ?ki ?kb _ _ _ _ _ _ _ _ _ _ _ _ _ _ _ _ _ ?k1 ?k2 ?k3 ?k4 ?k5 ?k6 ?k7 ?k8 ?k9 ?_; (case k1 => k_asm); (case k2 => k_asm); (case k3 => k_asm); (case k4 => k_asm); (case k5 => k_asm); (case k6 => exact rfl); (case k7 => first | ktr_room | decide | omega); (case k8 => first | ktr_units | decide | omega); (case k9 => first | is_list | assumption); (case ki => assumption); (case kb => omega)); clear hC; walk_at "mine tail e")
  k_with "call ref" => (k_here; (with_reducible show wpAny _ _ (call (Value.ref 286) [Value.int _ _]) _ _ _); (have hC := cPart); unfold Ctr at hC; k_dflt (refine' hC _ _ _ _ _ _ _ ?ka ?kb _ _ _ _ _ _ _ _ _ _ _ _ _ _ _ _ _ ?k1 ?k2 ?k3 ?k4 ?k5 ?k6 ?k7 ?k8 ?_; (case k1 => k_asm); (case k2 => k_asm); (case k3 => k_asm); (case k4 => k_asm); (case k5 => k_asm); (case k6 => exact rfl); (case k7 => first | ktr_room | decide | omega); (case k8 => first | ktr_units | decide | omega); (case ka => first | with_reducible exact (nd_nc (nc_fmod _)).1 | with_reducible exact (nd_circ (nc_fmod _) (nc_fmod _)).1); (case kb => first | with_reducible exact (nd_nc (nc_fmod _)).2 | with_reducible exact (nd_circ (nc_fmod _) (nc_fmod _)).2)); clear hC; walk_at "mine tail d")
  k_with "call ref" => (k_here; (with_reducible show wpAny _ _ (call (Value.ref 28) [Value.str ⟨#[_]⟩ _]) _ _ _); (have hC := cTab); unfold Ctr at hC; k_dflt (refine' hC _ _ _ _ _ _ _ _ _ _ _ _ _ _ _ _ _ _ _ _ _ _ _ _ _ ?k1 ?k2 ?k3 ?k4 ?k5 ?k6 ?k7 ?k8 ?_; (case k1 => k_asm); (case k2 => k_asm); (case k3 => k_asm); (case k4 => k_asm); (case k5 => k_asm); (case k6 => exact rfl); (case k7 => first | ktr_room | decide | omega); (case k8 => first | ktr_units | decide | omega); skip); clear hC; walk_at "mine tail f")
  k_with "call ref" => (k_here; (with_reducible show wpAny _ _ (call (Value.ref 260) _) _ _ _); (have hC := ladder_walk); unfold Ctr at hC; k_dflt (refine' hC _ _ _ _ _ _ _ _ _ _ _ _ _ _ _ _ _ _ _ _ _ _ ?k1 ?k2 ?k3 ?k4 ?k5 ?k6 ?k7 ?k8 ?_; (case k1 => k_asm); (case k2 => k_asm); (case k3 => k_asm); (case k4 => k_asm); (case k5 => k_asm); (case k6 => exact rfl); (case k7 => first | ktr_room | decide | omega); (case k8 => first | ktr_units | decide | omega); skip); clear hC; walk_at "mine tail g")
  k_with "call ref" => (k_here; (with_reducible show wpAny _ _ (call (Value.ref 267) [Value.int _ _, Value.ref _]) _ _ _); (have hC := cName); unfold Ctr at hC; k_dflt (refine' hC _ _ _ _ _ _ _ _ _ _ ?ka ?kb ?ki ?kl _ _ _ _ _ _ _ _ _ _ _ _ _ _ _ _ _ ?k1 ?k2 ?k3 ?k4 ?k5 ?k6 ?k7 ?k8 ?_; (case k1 => k_asm); (case k2 => k_asm); (case k3 => k_asm); (case k4 => k_asm); (case k5 => k_asm); (case k6 => exact rfl); (case k7 => first | ktr_room | decide | omega); (case k8 => first | ktr_units | decide | omega); (case kl => first | k_mem | news_mem); (case ki => with_reducible assumption); (case ka => first | with_reducible exact (nb_nd (nd_nc (nc_fmod _))).1 | with_reducible exact (nb_nd (nd_circ (nc_fmod _) (nc_fmod _))).1 | with_reducible exact (nb_circ (nd_circ (nc_fmod _) (nc_fmod _)) (nc_fmod _)).1 | with_reducible exact (nb_right (nc_fmod _) (nc_fmod _) (nc_fmod _)).1); (case kb => first | with_reducible exact (nb_nd (nd_nc (nc_fmod _))).2 | with_reducible exact (nb_nd (nd_circ (nc_fmod _) (nc_fmod _))).2 | with_reducible exact (nb_circ (nd_circ (nc_fmod _) (nc_fmod _)) (nc_fmod _)).2 | with_reducible exact (nb_right (nc_fmod _) (nc_fmod _) (nc_fmod _)).2)); clear hC; walk_at "mine tail d")
  k_with "call ref" => (k_here; (with_reducible show wpAny _ _ (call (Value.ref 274) [Value.str (nm (Z _)) _, Value.str ⟨#[_]⟩ _]) _ _ _); (have hC := cRungs); unfold Ctr at hC; k_dflt (refine' hC _ _ _ _ _ _ _ _ _ ?ka _ _ _ _ _ _ _ _ _ _ _ _ _ _ _ _ _ ?k1 ?k2 ?k3 ?k4 ?k5 ?k6 ?k7 ?k8 ?_; (case k1 => k_asm); (case k2 => k_asm); (case k3 => k_asm); (case k4 => k_asm); (case k5 => k_asm); (case k6 => exact rfl); (case k7 => first | ktr_room | decide | omega); (case k8 => first | ktr_units | decide | omega); (case ka => exact (bes_in _).1)); clear hC; walk_at "mine tail g")
  k_with "call ref" => (k_here; (with_reducible show wpAny _ _ (call (Value.ref 279) [Value.ref _, Value.ref _, Value.int _ _, Value.int _ _, Value.ref _]) _ _ _); (have hC := cTimes); unfold Ctr at hC; k_dflt (refine' hC _ _ _ _ _ _ _ _ _ _ _ _ _ _ _ _ _ _ _ _ ?kf ?kw ?kx ?ky ?ki ?kj ?kl ?km ?kn ?ko _ _ _ _ _ _ _ _ _ _ _ _ _ _ _ _ _ ?k1 ?k2 ?k3 ?k4 ?k5 ?k6 ?k7 ?k8 ?_; (case k1 => k_asm); (case k2 => k_asm); (case k3 => k_asm); (case k4 => k_asm); (case k5 => k_asm); (case k6 => exact rfl); (case k7 => first | ktr_room | decide | omega); (case k8 => first | ktr_units | decide | omega); (case km => first | k_mem | news_mem); (case kn => first | k_mem | news_mem); (case ko => first | k_mem | news_mem); (case ki => with_reducible assumption); (case kj => with_reducible assumption); (case kl => with_reducible assumption); (case kf => first | with_reducible exact fit_cc (nc_fmod _) (nc_fmod _) | with_reducible exact fit_dc (nd_circ (nc_fmod _) (nc_fmod _)) (nc_fmod _) | with_reducible exact fit_cd (nc_fmod _) (nd_circ (nc_fmod _) (nc_fmod _))); (case kw => exact way_law _); (case kx => exact lift_lo _); (case ky => exact lift_hi _)); clear hC; walk_at "mine tail d")
  k_with "call ref" => (k_here; (with_reducible show wpAny _ _ (call (Value.ref 279) [Value.ref _, Value.ref _, Value.int _ _, Value.int _ _, Value.ref _]) _ _ _); (have hC := cTimesR); unfold Ctr at hC; k_dflt (refine' hC _ _ _ _ _ _ _ _ _ _ _ _ _ _ _ _ _ _ _ _ _ ?kf ?kg ?kh ?kw ?kx ?ky ?ki ?kj ?kl ?km ?kn ?ko _ _ _ _ _ _ _ _ _ _ _ _ _ _ _ _ _ ?k1 ?k2 ?k3 ?k4 ?k5 ?k6 ?k7 ?k8 ?_; (case k1 => k_asm); (case k2 => k_asm); (case k3 => k_asm); (case k4 => k_asm); (case k5 => k_asm); (case k6 => exact rfl); (case k7 => first | ktr_room | decide | omega); (case k8 => first | ktr_units | decide | omega); (case km => first | k_mem | news_mem); (case kn => first | k_mem | news_mem); (case ko => first | k_mem | news_mem); (case kj => with_reducible assumption); (case ki => with_reducible assumption); (case kl => with_reducible assumption); (case kf => with_reducible exact nc_fmod _); (case kg => with_reducible exact nc_fmod _); (case kh => with_reducible exact nc_fmod _); (case kw => exact way_law _); (case kx => exact lift_lo _); (case ky => exact lift_hi _)); clear hC; walk_at "mine tail d")
  k_with "binaryOp Mult int int" => (k_here; refine mul_small (by first | with_reducible exact sm_nb (nb_nd (nd_nc (nc_fmod _))) | with_reducible exact sm_nb (nb_nd (nd_circ (nc_fmod _) (nc_fmod _))) | with_reducible exact sm_nb (nb_circ (nd_circ (nc_fmod _) (nc_fmod _)) (nc_fmod _)) | with_reducible exact sm_nb (nb_right (nc_fmod _) (nc_fmod _) (nc_fmod _)) | with_reducible exact sm_three (nb_nd (nd_nc (nc_fmod _))) | with_reducible exact sm_three (nb_nd (nd_circ (nc_fmod _) (nc_fmod _))) | with_reducible exact sm_three (nb_circ (nd_circ (nc_fmod _) (nc_fmod _)) (nc_fmod _)) | with_reducible exact sm_three (nb_right (nc_fmod _) (nc_fmod _) (nc_fmod _)) | with_reducible exact sm_part (nb_nd (nd_nc (nc_fmod _))) | with_reducible exact sm_part (nb_nd (nd_circ (nc_fmod _) (nc_fmod _))) | with_reducible exact sm_part (nb_circ (nd_circ (nc_fmod _) (nc_fmod _)) (nc_fmod _)) | with_reducible exact sm_part (nb_right (nc_fmod _) (nc_fmod _) (nc_fmod _)) | exact sm_of (by decide +kernel)) (by first | with_reducible exact sm_nb (nb_nd (nd_nc (nc_fmod _))) | with_reducible exact sm_nb (nb_nd (nd_circ (nc_fmod _) (nc_fmod _))) | with_reducible exact sm_nb (nb_circ (nd_circ (nc_fmod _) (nc_fmod _)) (nc_fmod _)) | with_reducible exact sm_nb (nb_right (nc_fmod _) (nc_fmod _) (nc_fmod _)) | with_reducible exact sm_three (nb_nd (nd_nc (nc_fmod _))) | with_reducible exact sm_three (nb_nd (nd_circ (nc_fmod _) (nc_fmod _))) | with_reducible exact sm_three (nb_circ (nd_circ (nc_fmod _) (nc_fmod _)) (nc_fmod _)) | with_reducible exact sm_three (nb_right (nc_fmod _) (nc_fmod _) (nc_fmod _)) | with_reducible exact sm_part (nb_nd (nd_nc (nc_fmod _))) | with_reducible exact sm_part (nb_nd (nd_circ (nc_fmod _) (nc_fmod _))) | with_reducible exact sm_part (nb_circ (nd_circ (nc_fmod _) (nc_fmod _)) (nc_fmod _)) | with_reducible exact sm_part (nb_right (nc_fmod _) (nc_fmod _) (nc_fmod _)) | exact sm_of (by decide +kernel)) ?_)
  k_go0
  all_goals try k_fold
  repeat ((fail_if_success (with_reducible show wpAny _ _ (execs (PySem.Stmt.For _ _ _ _ _ :: _) _) _ _ _)); first | (k_unfold; (try dsimp only)) | walk1 | (dsimp only; walk1) | (leave1; (try dsimp only)))
  rename Fr _ _ _ _ => F1
  rename News _ _ _ _ => N1
  k_dflt (refine' tail_walk _ _ _ _ _ _ _ _ _ _ _ _ _ _ _ _ _ _ _ _ _ _ _ _ _ _ _ _ ?hB F1 ?hK N1 ?hT ?fn ?fr ?fq ?hc ?hca ?hoc ?hn ?hr ?hq ?hl ?hN ?hR ?hQ ?hL ?h7 ?hb ?hE ?hret)
  case hB => with_reducible assumption
  case hK => with_reducible assumption
  case hT => with_reducible assumption
  case fn => rfl
  case fr => rfl
  case fq => rfl
  case hc => rfl
  case hca => k_mem
  case hoc => with_reducible assumption
  case hn => k_mem
  case hr => k_mem
  case hq => k_mem
  case hl => k_mem
  case hQ => with_reducible exact ints7
  case hN => with_reducible exact names7
  case hR => refine rungs7 (by k_mem) (by k_mem) (by k_mem) (by k_mem) (by k_mem) (by k_mem) (by k_mem) ?_ ?_ ?_ ?_ ?_ ?_ ?_ <;> with_reducible assumption
  case hL => with_reducible assumption
  case h7 => rfl
  case hb => exact nb7 (nc_fmod _) (nc_fmod _) (nc_fmod _)
  case hE => first | with_unfolding_all passes_own | passes_own
  case hret =>
    intro h' tk m' F'
    k_steps)
end Mine
set_option maxRecDepth 100000 in
set_option maxHeartbeats 8000000 in
theorem PySem.Challenge.cw_kl0205_01_holds : PySem.Challenge.rw_kl0205_01.Holds :=
  Mine.main_walk
