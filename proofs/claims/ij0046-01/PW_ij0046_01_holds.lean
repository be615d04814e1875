import PyProof.Rows.All
import Wide.All
import OpenK.AllK
import Wide.FinOn
import Lean
import PySem.Challenge.RW_ij0046_01
open PySem PySem.W PySem.Spec PySem.Calls PyProof.Rows
set_option Elab.async false
set_option maxRecDepth 100000
set_option maxHeartbeats 0
namespace Mine
noncomputable abbrev pw : Program := PySem.Challenge.pw_ij0046_01
/-- the text without its five rows about __name__ -/
noncomputable def vw : Program := PySem.W.view PySem.Challenge.pw_ij0046_01 [0, 2, 3, 4, 5, 6, 7, 9, 10, 12, 13, 15, 16, 18, 19, 20, 21, 22, 23, 24, 25, 26, 27]
noncomputable def loose : List Str := [Str.ofString "_twin_re_1", Str.ofString "_special_chars_map"]
noncomputable def impE (tb : String → Option Builtin) (p : Program) (w : World) : Nat → Shared → Thread → Option Shared
  | 0, _, _ => none
  | n + 1, s, t => match t.atExitBegin with
    | some [] => some s
    | some (_ :: _) => none
    | none => match step (denote tb) p w s t with
      | .go s' t' => impE tb p w n s' t'
      | .halt _ _ => none
theorem impE_eq (tb : String → Option Builtin) (p : Program) (w : World) : ∀ (n : Nat) (s : Shared) (t : Thread), impE tb p w n s t = importEnds tb p w n s t
  | 0, _, _ => rfl
  | n + 1, s, t => by
    unfold impE importEnds
    cases t.atExitBegin with
    | some l => cases l <;> rfl
    | none =>
      dsimp only
      cases step (denote tb) p w s t with
      | go s' t' => exact impE_eq tb p w n s' t'
      | halt _ _ => rfl
noncomputable def opn (tb : String → Option Builtin) (p : Program) (w : World) (N : Nat) : Option Shared :=
  (impE tb (PySem.W.opening p) w N (start (PySem.W.opening p)).1 (start (PySem.W.opening p)).2).bind (fenceModules? p)
theorem opn_eq (tb : String → Option Builtin) (p : Program) (w : World) (N : Nat) : opn tb p w N = fencedOpening tb p w N := by
  unfold opn fencedOpening
  rw [impE_eq]
/-- the top's run over a tree -/
noncomputable def topRunT (tb : String → Option Builtin) (p : Program) (w : World) (n₀ : Nat) (ann : Option Value) : Nat → SharedT → Thread → Option SharedT
  | 0, _, _ => none
  | n + 1, s, t => match through t with
    | true => some s
    | false => match stepOk n₀ ann t with
      | false => none
      | true => match stepT (denote tb) p w s t with
        | some (s', t') => topRunT tb p w n₀ ann n s' t'
        | none => none
theorem topRunT_of {tb : String → Option Builtin} {p : Program} {w : World} {n₀ : Nat} {ann : Option Value} : ∀ {n : Nat} {s s' : SharedT} {t : Thread}, topRunT tb p w n₀ ann n s t = some s' → topRun tb p w n₀ ann n s.abs t = some s'.abs
  | 0, _, _, _, h => by simp [topRunT] at h
  | n + 1, s, s', t, h => by
    unfold topRunT at h
    unfold topRun
    cases ht : through t with
    | true =>
      rw [ht] at h
      dsimp only at h ⊢
      rw [Option.some.inj h]
    | false =>
      rw [ht] at h
      dsimp only at h ⊢
      cases hk : stepOk n₀ ann t with
      | false => rw [hk] at h; cases h
      | true =>
        rw [hk] at h
        dsimp only at h ⊢
        cases hs : stepT (denote tb) p w s t with
        | none => rw [hs] at h; cases h
        | some r =>
          obtain ⟨s₂, t₂⟩ := r
          rw [hs] at h
          rw [stepT_spec hs]
          exact topRunT_of h
noncomputable def treeOf : List Obj → Nat → BT → BT
  | [], _, t => t
  | o :: r, n, t => treeOf r (n + 1) (t.ins n o)
noncomputable def ofS (s : Shared) : SharedT := ⟨treeOf s.heap.objs.toList 0 .nil, s.heap.objs.size, s.heap.life, s.gens, s.drawn, s.toks, s.os⟩
noncomputable def lookR {α : Type} (p q : Program) (loose mods : List Str) (Xt : Shared → Bool) (Yf : Shared → α) (s₀ s₁ : Shared) :=
  ((s₀.heap.isNs mainGlobals && s₀.gens.size == 0, staticsOk mods s₀.heap s₁.heap && namesBound p s₁.heap && gensDone s₁ && laidKept s₀.heap s₁.heap), openSeen q loose mods Xt true s₁, Yf s₁)
noncomputable def reck {α : Type} (tb : String → Option Builtin) (p q : Program) (loose : List Str) (Xt : Shared → Bool) (Yf : Shared → α) (N : Nat) (w : World) :=
  (opn tb p w N).bind fun s₀ => (topRunT tb p w s₀.heap.objs.size (s₀.heap.nsMap mainGlobals "__annotations__") N (ofS s₀) (topStub p)).map fun sT => lookR p q loose (importedModules p.main.body) Xt Yf s₀ sT.abs
theorem leftO_of {p q : Program} {loose : List Str} {Xt : Shared → Bool} {α : Type} {Yf : Shared → α} {Ya : World → α} {N : Nat}
    (h1 : ∀ w, (opn treeTable p w N).map (fun s => (ofS s).abs) = opn treeTable p w N)
    (h2 : ∀ w, reck treeTable p q loose Xt Yf N w = some ((true, true), openGood q loose, Ya w)) : LeftO p q loose Xt Yf Ya N := fun w => by
  obtain ⟨s₀, e0, e1⟩ := Option.bind_eq_some_iff.mp (h2 w)
  obtain ⟨sT, e2, e3⟩ := Option.map_eq_some_iff.mp e1
  have e4 := h1 w
  rw [e0] at e4
  have e5 : (ofS s₀).abs = s₀ := by simpa using e4
  have e6 := topRunT_of e2
  rw [e5] at e6
  have l1 := congrArg (fun x => x.1.1) e3
  have l2 := congrArg (fun x => x.1.2) e3
  have l3 := congrArg (fun x => x.2) e3
  dsimp only [lookR] at l1 l2 l3
  rw [opn_eq] at e0
  unfold openEnds
  rw [e0]
  show (topFrom treeTable p w N s₀).map _ = _
  unfold topFrom
  rw [l1]
  dsimp only
  rw [e6]
  show ((match staticsOk (importedModules p.main.body) s₀.heap sT.abs.heap && namesBound p sT.abs.heap && gensDone sT.abs && laidKept s₀.heap sT.abs.heap with | true => some sT.abs | false => none).map _) = _
  rw [l2]
  exact congrArg some l3
noncomputable def tru {α : Sort u} (_ : α) : Bool := true
theorem prime_reck : tru @reck = true := by k_qdec
theorem prime_good : tru @openGood = true := by rfl
theorem prime_vw : tru vw = true := by k_qdec
theorem prime_opn : tru @opn = true := by k_qdec
end Mine
set_option maxHeartbeats 0
namespace Mine
/-- the parts of a def of the text -/
noncomputable def fnArgs (i : Nat) : Arguments := match PySem.Challenge.pw_ij0046_01.main.body[i]? with | some (.FunctionDef _ args _ _ _ _ _ _ _ _) => args | _ => default
noncomputable def fnBody (i : Nat) : List Stmt := match PySem.Challenge.pw_ij0046_01.main.body[i]? with | some (.FunctionDef _ _ body _ _ _ _ _ _ _) => body | _ => default
noncomputable def fnScope (i : Nat) : Scope := match PySem.Challenge.pw_ij0046_01.main.body[i]? with | some (.FunctionDef _ _ _ _ _ _ scope _ _ _) => scope | _ => default
/-- the other side of an equation -/
noncomputable def pick {α : Type} {a b : α} (_ : a = b) : α := b

noncomputable def ko3 (P : Params) : Obj := { cls := Value.type "dict", data := Data.dict #[{ hash := PyData.keyHash P (Str.ofString "__name__"), key := Value.str (Str.ofString "__name__") 165, val := Value.str (Str.ofString "law_ij0046_01") 564 }, { hash := PyData.keyHash P (Str.ofString "__doc__"), key := Value.str (Str.ofString "__doc__") 166, val := Value.none }, { hash := PyData.keyHash P (Str.ofString "__package__"), key := Value.str (Str.ofString "__package__") 167, val := Value.none }, { hash := PyData.keyHash P (Str.ofString "__loader__"), key := Value.str (Str.ofString "__loader__") 168, val := Value.builtin "__main__.__loader__#opaque" }, { hash := PyData.keyHash P (Str.ofString "__spec__"), key := Value.str (Str.ofString "__spec__") 169, val := Value.none }, { hash := PyData.keyHash P (Str.ofString "__annotations__"), key := Value.str (Str.ofString "__annotations__") 170, val := Value.ref 6 }, { hash := PyData.keyHash P (Str.ofString "__builtins__"), key := Value.str (Str.ofString "__builtins__") 171, val := Value.ref 4 }, { hash := PyData.keyHash P (Str.ofString "__file__"), key := Value.str (Str.ofString "__file__") 173, val := Value.str (Str.ofString "/claim/cut.py") 172 }, { hash := PyData.keyHash P (Str.ofString "__cached__"), key := Value.str (Str.ofString "__cached__") 174, val := Value.none }, { hash := PyData.keyHash P (Str.ofString "_sre"), key := Value.str (Str.ofString "_sre") 275, val := Value.ref 12 }, { hash := PyData.keyHash P (Str.ofString "_raise_serialization_error"), key := Value.str (Str.ofString "_raise_serialization_error") 290, val := Value.ref 38 }, { hash := PyData.keyHash P (Str.ofString "_escape_cdata"), key := Value.str (Str.ofString "_escape_cdata") 297, val := Value.ref 45 }, { hash := PyData.keyHash P (Str.ofString "_escape_attrib"), key := Value.str (Str.ofString "_escape_attrib") 304, val := Value.ref 52 }, { hash := PyData.keyHash P (Str.ofString "_escape_attrib_html"), key := Value.str (Str.ofString "_escape_attrib_html") 311, val := Value.ref 59 }, { hash := PyData.keyHash P (Str.ofString "_escape_cdata_c14n"), key := Value.str (Str.ofString "_escape_cdata_c14n") 318, val := Value.ref 66 }, { hash := PyData.keyHash P (Str.ofString "_escape_attrib_c14n"), key := Value.str (Str.ofString "_escape_attrib_c14n") 325, val := Value.ref 73 }, { hash := PyData.keyHash P (Str.ofString "_twin_re_1"), key := Value.str (Str.ofString "_twin_re_1") 365, val := Value.ref 78 }, { hash := PyData.keyHash P (Str.ofString "translate"), key := Value.str (Str.ofString "translate") 374, val := Value.ref 85 }, { hash := PyData.keyHash P (Str.ofString "_special_chars_map"), key := Value.str (Str.ofString "_special_chars_map") 522, val := Value.ref 87 }, { hash := PyData.keyHash P (Str.ofString "escape"), key := Value.str (Str.ofString "escape") 529, val := Value.ref 97 }, { hash := PyData.keyHash P (Str.ofString "_translate"), key := Value.str (Str.ofString "_translate") 550, val := Value.ref 104 }, { hash := PyData.keyHash P (Str.ofString "_join_translated_parts"), key := Value.str (Str.ofString "_join_translated_parts") 563, val := Value.ref 111 }, { hash := PyData.keyHash P (Str.ofString "_law_pair"), key := Value.str (Str.ofString "_law_pair") 578, val := Value.ref 118 }, { hash := PyData.keyHash P (Str.ofString "_law_table"), key := Value.str (Str.ofString "_law_table") 586, val := Value.ref 125 }, { hash := PyData.keyHash P (Str.ofString "_law_writing"), key := Value.str (Str.ofString "_law_writing") 594, val := Value.ref 132 }, { hash := PyData.keyHash P (Str.ofString "_law_unwritten"), key := Value.str (Str.ofString "_law_unwritten") 603, val := Value.ref 139 }, { hash := PyData.keyHash P (Str.ofString "_law_read"), key := Value.str (Str.ofString "_law_read") 613, val := Value.ref 146 }, { hash := PyData.keyHash P (Str.ofString "_law_together"), key := Value.str (Str.ofString "_law_together") 619, val := Value.ref 151 }, { hash := PyData.keyHash P (Str.ofString "_law_runs"), key := Value.str (Str.ofString "_law_runs") 625, val := Value.ref 156 }, { hash := PyData.keyHash P (Str.ofString "_law_fits"), key := Value.str (Str.ofString "_law_fits") 635, val := Value.ref 163 }, { hash := PyData.keyHash P (Str.ofString "_law_takes"), key := Value.str (Str.ofString "_law_takes") 641, val := Value.ref 168 }, { hash := PyData.keyHash P (Str.ofString "law"), key := Value.str (Str.ofString "law") 647, val := Value.ref 173 }] 32 }
noncomputable def ko44 : Obj := { cls := Value.type "code", data := Data.fields #[Value.str (Str.ofString "_escape_cdata") 291, Value.str (Str.ofString "_escape_cdata") 292, Value.str (Str.ofString "/claim/cut.py") 293, Value.int 5 0, Value.int 1 0, Value.int 0 0, Value.int 0 0, Value.int 3 0, Value.ref 39, Value.bool true, Value.int 276 0, Value.ref 40, Value.none, Value.ref 41, Value.ref 42, Value.ref 43, Value.int 295 0, Value.int 5 0, Value.str (Str.ofString "/claim/cut.py") 296] }
noncomputable def ko45 : Obj := pick (a := ({ cls := Value.type "function", data := Data.func { name := Str.ofString "_escape_cdata", qualname := Str.ofString "_escape_cdata", params := fnArgs 3, body := .stmts (fnBody 3), scope := fnScope 3, globals := 3, closure := [], defaults := Value.none, kwdefaults := Value.none, pyModule := Value.str (Str.ofString "cpy313.xml.etree.ElementTree") 282, code := Value.ref 44 } } : Obj)) (by dsimp only [fnArgs, fnBody, fnScope, PySem.Challenge.pw_ij0046_01, List.getElem?_cons_succ, List.getElem?_cons_zero])
noncomputable def ko51 : Obj := { cls := Value.type "code", data := Data.fields #[Value.str (Str.ofString "_escape_attrib") 298, Value.str (Str.ofString "_escape_attrib") 299, Value.str (Str.ofString "/claim/cut.py") 300, Value.int 16 0, Value.int 1 0, Value.int 0 0, Value.int 0 0, Value.int 3 0, Value.ref 46, Value.bool true, Value.int 276 0, Value.ref 47, Value.none, Value.ref 48, Value.ref 49, Value.ref 50, Value.int 302 0, Value.int 16 0, Value.str (Str.ofString "/claim/cut.py") 303] }
noncomputable def ko52 : Obj := pick (a := ({ cls := Value.type "function", data := Data.func { name := Str.ofString "_escape_attrib", qualname := Str.ofString "_escape_attrib", params := fnArgs 4, body := .stmts (fnBody 4), scope := fnScope 4, globals := 3, closure := [], defaults := Value.none, kwdefaults := Value.none, pyModule := Value.str (Str.ofString "cpy313.xml.etree.ElementTree") 282, code := Value.ref 51 } } : Obj)) (by dsimp only [fnArgs, fnBody, fnScope, PySem.Challenge.pw_ij0046_01, List.getElem?_cons_succ, List.getElem?_cons_zero])
noncomputable def ko58 : Obj := { cls := Value.type "code", data := Data.fields #[Value.str (Str.ofString "_escape_attrib_html") 305, Value.str (Str.ofString "_escape_attrib_html") 306, Value.str (Str.ofString "/claim/cut.py") 307, Value.int 35 0, Value.int 1 0, Value.int 0 0, Value.int 0 0, Value.int 3 0, Value.ref 53, Value.bool true, Value.int 276 0, Value.ref 54, Value.none, Value.ref 55, Value.ref 56, Value.ref 57, Value.int 309 0, Value.int 35 0, Value.str (Str.ofString "/claim/cut.py") 310] }
noncomputable def ko59 : Obj := pick (a := ({ cls := Value.type "function", data := Data.func { name := Str.ofString "_escape_attrib_html", qualname := Str.ofString "_escape_attrib_html", params := fnArgs 5, body := .stmts (fnBody 5), scope := fnScope 5, globals := 3, closure := [], defaults := Value.none, kwdefaults := Value.none, pyModule := Value.str (Str.ofString "cpy313.xml.etree.ElementTree") 282, code := Value.ref 58 } } : Obj)) (by dsimp only [fnArgs, fnBody, fnScope, PySem.Challenge.pw_ij0046_01, List.getElem?_cons_succ, List.getElem?_cons_zero])
noncomputable def ko65 : Obj := { cls := Value.type "code", data := Data.fields #[Value.str (Str.ofString "_escape_cdata_c14n") 312, Value.str (Str.ofString "_escape_cdata_c14n") 313, Value.str (Str.ofString "/claim/cut.py") 314, Value.int 46 0, Value.int 1 0, Value.int 0 0, Value.int 0 0, Value.int 3 0, Value.ref 60, Value.bool true, Value.int 276 0, Value.ref 61, Value.none, Value.ref 62, Value.ref 63, Value.ref 64, Value.int 316 0, Value.int 46 0, Value.str (Str.ofString "/claim/cut.py") 317] }
noncomputable def ko66 : Obj := pick (a := ({ cls := Value.type "function", data := Data.func { name := Str.ofString "_escape_cdata_c14n", qualname := Str.ofString "_escape_cdata_c14n", params := fnArgs 6, body := .stmts (fnBody 6), scope := fnScope 6, globals := 3, closure := [], defaults := Value.none, kwdefaults := Value.none, pyModule := Value.str (Str.ofString "cpy313.xml.etree.ElementTree") 282, code := Value.ref 65 } } : Obj)) (by dsimp only [fnArgs, fnBody, fnScope, PySem.Challenge.pw_ij0046_01, List.getElem?_cons_succ, List.getElem?_cons_zero])
noncomputable def ko72 : Obj := { cls := Value.type "code", data := Data.fields #[Value.str (Str.ofString "_escape_attrib_c14n") 319, Value.str (Str.ofString "_escape_attrib_c14n") 320, Value.str (Str.ofString "/claim/cut.py") 321, Value.int 59 0, Value.int 1 0, Value.int 0 0, Value.int 0 0, Value.int 3 0, Value.ref 67, Value.bool true, Value.int 276 0, Value.ref 68, Value.none, Value.ref 69, Value.ref 70, Value.ref 71, Value.int 323 0, Value.int 59 0, Value.str (Str.ofString "/claim/cut.py") 324] }
noncomputable def ko73 : Obj := pick (a := ({ cls := Value.type "function", data := Data.func { name := Str.ofString "_escape_attrib_c14n", qualname := Str.ofString "_escape_attrib_c14n", params := fnArgs 7, body := .stmts (fnBody 7), scope := fnScope 7, globals := 3, closure := [], defaults := Value.none, kwdefaults := Value.none, pyModule := Value.str (Str.ofString "cpy313.xml.etree.ElementTree") 282, code := Value.ref 72 } } : Obj)) (by dsimp only [fnArgs, fnBody, fnScope, PySem.Challenge.pw_ij0046_01, List.getElem?_cons_succ, List.getElem?_cons_zero])
noncomputable def ko84 : Obj := { cls := Value.type "code", data := Data.fields #[Value.str (Str.ofString "translate") 366, Value.str (Str.ofString "translate") 367, Value.str (Str.ofString "/claim/cut.py") 368, Value.int 78 0, Value.int 1 0, Value.int 0 0, Value.int 0 0, Value.int 3 0, Value.ref 79, Value.bool true, Value.int 276 0, Value.ref 80, Value.none, Value.ref 81, Value.ref 82, Value.ref 83, Value.int 372 0, Value.int 78 0, Value.str (Str.ofString "/claim/cut.py") 373] }
noncomputable def ko85 : Obj := pick (a := ({ cls := Value.type "function", data := Data.func { name := Str.ofString "translate", qualname := Str.ofString "translate", params := fnArgs 10, body := .stmts (fnBody 10), scope := fnScope 10, globals := 3, closure := [], defaults := Value.none, kwdefaults := Value.none, pyModule := Value.str (Str.ofString "cpy313.fnmatch") 326, code := Value.ref 84 } } : Obj)) (by dsimp only [fnArgs, fnBody, fnScope, PySem.Challenge.pw_ij0046_01, List.getElem?_cons_succ, List.getElem?_cons_zero])
noncomputable def ko87 : Obj := { cls := Value.type "dict", data := Data.dict #[{ hash := 40, key := Value.int 40 378, val := Value.str (Str.ofString "\\(") 382 }, { hash := 41, key := Value.int 41 384, val := Value.str (Str.ofString "\\)") 388 }, { hash := 91, key := Value.int 91 390, val := Value.str (Str.ofString "\\[") 394 }, { hash := 93, key := Value.int 93 396, val := Value.str (Str.ofString "\\]") 400 }, { hash := 123, key := Value.int 123 402, val := Value.str (Str.ofString "\\{") 406 }, { hash := 125, key := Value.int 125 408, val := Value.str (Str.ofString "\\}") 412 }, { hash := 63, key := Value.int 63 414, val := Value.str (Str.ofString "\\?") 418 }, { hash := 42, key := Value.int 42 420, val := Value.str (Str.ofString "\\*") 424 }, { hash := 43, key := Value.int 43 426, val := Value.str (Str.ofString "\\+") 430 }, { hash := 45, key := Value.int 45 432, val := Value.str (Str.ofString "\\-") 436 }, { hash := 124, key := Value.int 124 438, val := Value.str (Str.ofString "\\|") 442 }, { hash := 94, key := Value.int 94 444, val := Value.str (Str.ofString "\\^") 448 }, { hash := 36, key := Value.int 36 450, val := Value.str (Str.ofString "\\$") 454 }, { hash := 92, key := Value.int 92 456, val := Value.str (Str.ofString "\\\\") 460 }, { hash := 46, key := Value.int 46 462, val := Value.str (Str.ofString "\\.") 466 }, { hash := 38, key := Value.int 38 468, val := Value.str (Str.ofString "\\&") 472 }, { hash := 126, key := Value.int 126 474, val := Value.str (Str.ofString "\\~") 478 }, { hash := 35, key := Value.int 35 480, val := Value.str (Str.ofString "\\#") 484 }, { hash := 32, key := Value.int 32 486, val := Value.str (Str.ofString "\\ ") 490 }, { hash := 9, key := Value.int 9 492, val := Value.str (Str.ofString "\\\t") 496 }, { hash := 10, key := Value.int 10 498, val := Value.str (Str.ofString "\\\n") 502 }, { hash := 13, key := Value.int 13 504, val := Value.str (Str.ofString "\\\x0d") 508 }, { hash := 11, key := Value.int 11 510, val := Value.str (Str.ofString "\\\x0b") 514 }, { hash := 12, key := Value.int 12 516, val := Value.str (Str.ofString "\\\x0c") 520 }] 24 }
noncomputable def ko96 : Obj := { cls := Value.type "code", data := Data.fields #[Value.str (Str.ofString "escape") 523, Value.str (Str.ofString "escape") 524, Value.str (Str.ofString "/claim/cut.py") 525, Value.int 84 0, Value.int 1 0, Value.int 0 0, Value.int 0 0, Value.int 3 0, Value.ref 91, Value.bool true, Value.int 276 0, Value.ref 92, Value.none, Value.ref 93, Value.ref 94, Value.ref 95, Value.int 527 0, Value.int 84 0, Value.str (Str.ofString "/claim/cut.py") 528] }
noncomputable def ko97 : Obj := pick (a := ({ cls := Value.type "function", data := Data.func { name := Str.ofString "escape", qualname := Str.ofString "escape", params := fnArgs 13, body := .stmts (fnBody 13), scope := fnScope 13, globals := 3, closure := [], defaults := Value.none, kwdefaults := Value.none, pyModule := Value.str (Str.ofString "re") 375, code := Value.ref 96 } } : Obj)) (by dsimp only [fnArgs, fnBody, fnScope, PySem.Challenge.pw_ij0046_01, List.getElem?_cons_succ, List.getElem?_cons_zero])
noncomputable def ko103 : Obj := { cls := Value.type "code", data := Data.fields #[Value.str (Str.ofString "_translate") 532, Value.str (Str.ofString "_translate") 533, Value.str (Str.ofString "/claim/cut.py") 534, Value.int 91 0, Value.int 3 0, Value.int 0 0, Value.int 0 0, Value.int 3 0, Value.ref 98, Value.bool true, Value.int 276 0, Value.ref 99, Value.none, Value.ref 100, Value.ref 101, Value.ref 102, Value.int 548 0, Value.int 91 0, Value.str (Str.ofString "/claim/cut.py") 549] }
noncomputable def ko104 : Obj := pick (a := ({ cls := Value.type "function", data := Data.func { name := Str.ofString "_translate", qualname := Str.ofString "_translate", params := fnArgs 15, body := .stmts (fnBody 15), scope := fnScope 15, globals := 3, closure := [], defaults := Value.none, kwdefaults := Value.none, pyModule := Value.str (Str.ofString "cpy313.fnmatch") 530, code := Value.ref 103 } } : Obj)) (by dsimp only [fnArgs, fnBody, fnScope, PySem.Challenge.pw_ij0046_01, List.getElem?_cons_succ, List.getElem?_cons_zero])
noncomputable def ko110 : Obj := { cls := Value.type "code", data := Data.fields #[Value.str (Str.ofString "_join_translated_parts") 551, Value.str (Str.ofString "_join_translated_parts") 552, Value.str (Str.ofString "/claim/cut.py") 553, Value.int 153 0, Value.int 2 0, Value.int 0 0, Value.int 0 0, Value.int 3 0, Value.ref 105, Value.bool true, Value.int 276 0, Value.ref 106, Value.none, Value.ref 107, Value.ref 108, Value.ref 109, Value.int 561 0, Value.int 153 0, Value.str (Str.ofString "/claim/cut.py") 562] }
noncomputable def ko111 : Obj := pick (a := ({ cls := Value.type "function", data := Data.func { name := Str.ofString "_join_translated_parts", qualname := Str.ofString "_join_translated_parts", params := fnArgs 16, body := .stmts (fnBody 16), scope := fnScope 16, globals := 3, closure := [], defaults := Value.none, kwdefaults := Value.none, pyModule := Value.str (Str.ofString "cpy313.fnmatch") 530, code := Value.ref 110 } } : Obj)) (by dsimp only [fnArgs, fnBody, fnScope, PySem.Challenge.pw_ij0046_01, List.getElem?_cons_succ, List.getElem?_cons_zero])
noncomputable def ko117 : Obj := { cls := Value.type "code", data := Data.fields #[Value.str (Str.ofString "_law_pair") 566, Value.str (Str.ofString "_law_pair") 567, Value.str (Str.ofString "/claim/cut.py") 568, Value.int 181 0, Value.int 1 0, Value.int 0 0, Value.int 0 0, Value.int 3 0, Value.ref 112, Value.bool true, Value.int 276 0, Value.ref 113, Value.none, Value.ref 114, Value.ref 115, Value.ref 116, Value.int 576 0, Value.int 181 0, Value.str (Str.ofString "/claim/cut.py") 577] }
noncomputable def ko118 : Obj := pick (a := ({ cls := Value.type "function", data := Data.func { name := Str.ofString "_law_pair", qualname := Str.ofString "_law_pair", params := fnArgs 18, body := .stmts (fnBody 18), scope := fnScope 18, globals := 3, closure := [], defaults := Value.none, kwdefaults := Value.none, pyModule := Value.str (Str.ofString "law_ij0046_01") 564, code := Value.ref 117 } } : Obj)) (by dsimp only [fnArgs, fnBody, fnScope, PySem.Challenge.pw_ij0046_01, List.getElem?_cons_succ, List.getElem?_cons_zero])
noncomputable def ko124 : Obj := { cls := Value.type "code", data := Data.fields #[Value.str (Str.ofString "_law_table") 579, Value.str (Str.ofString "_law_table") 580, Value.str (Str.ofString "/claim/cut.py") 581, Value.int 195 0, Value.int 1 0, Value.int 0 0, Value.int 0 0, Value.int 3 0, Value.ref 119, Value.bool true, Value.int 276 0, Value.ref 120, Value.none, Value.ref 121, Value.ref 122, Value.ref 123, Value.int 584 0, Value.int 195 0, Value.str (Str.ofString "/claim/cut.py") 585] }
noncomputable def ko125 : Obj := pick (a := ({ cls := Value.type "function", data := Data.func { name := Str.ofString "_law_table", qualname := Str.ofString "_law_table", params := fnArgs 19, body := .stmts (fnBody 19), scope := fnScope 19, globals := 3, closure := [], defaults := Value.none, kwdefaults := Value.none, pyModule := Value.str (Str.ofString "law_ij0046_01") 564, code := Value.ref 124 } } : Obj)) (by dsimp only [fnArgs, fnBody, fnScope, PySem.Challenge.pw_ij0046_01, List.getElem?_cons_succ, List.getElem?_cons_zero])
noncomputable def ko131 : Obj := { cls := Value.type "code", data := Data.fields #[Value.str (Str.ofString "_law_writing") 587, Value.str (Str.ofString "_law_writing") 588, Value.str (Str.ofString "/claim/cut.py") 589, Value.int 213 0, Value.int 2 0, Value.int 0 0, Value.int 0 0, Value.int 3 0, Value.ref 126, Value.bool true, Value.int 276 0, Value.ref 127, Value.none, Value.ref 128, Value.ref 129, Value.ref 130, Value.int 592 0, Value.int 213 0, Value.str (Str.ofString "/claim/cut.py") 593] }
noncomputable def ko132 : Obj := pick (a := ({ cls := Value.type "function", data := Data.func { name := Str.ofString "_law_writing", qualname := Str.ofString "_law_writing", params := fnArgs 20, body := .stmts (fnBody 20), scope := fnScope 20, globals := 3, closure := [], defaults := Value.none, kwdefaults := Value.none, pyModule := Value.str (Str.ofString "law_ij0046_01") 564, code := Value.ref 131 } } : Obj)) (by dsimp only [fnArgs, fnBody, fnScope, PySem.Challenge.pw_ij0046_01, List.getElem?_cons_succ, List.getElem?_cons_zero])
noncomputable def ko138 : Obj := { cls := Value.type "code", data := Data.fields #[Value.str (Str.ofString "_law_unwritten") 595, Value.str (Str.ofString "_law_unwritten") 596, Value.str (Str.ofString "/claim/cut.py") 597, Value.int 223 0, Value.int 2 0, Value.int 0 0, Value.int 0 0, Value.int 3 0, Value.ref 133, Value.bool true, Value.int 276 0, Value.ref 134, Value.none, Value.ref 135, Value.ref 136, Value.ref 137, Value.int 601 0, Value.int 223 0, Value.str (Str.ofString "/claim/cut.py") 602] }
noncomputable def ko139 : Obj := pick (a := ({ cls := Value.type "function", data := Data.func { name := Str.ofString "_law_unwritten", qualname := Str.ofString "_law_unwritten", params := fnArgs 21, body := .stmts (fnBody 21), scope := fnScope 21, globals := 3, closure := [], defaults := Value.none, kwdefaults := Value.none, pyModule := Value.str (Str.ofString "law_ij0046_01") 564, code := Value.ref 138 } } : Obj)) (by dsimp only [fnArgs, fnBody, fnScope, PySem.Challenge.pw_ij0046_01, List.getElem?_cons_succ, List.getElem?_cons_zero])
noncomputable def ko145 : Obj := { cls := Value.type "code", data := Data.fields #[Value.str (Str.ofString "_law_read") 604, Value.str (Str.ofString "_law_read") 605, Value.str (Str.ofString "/claim/cut.py") 606, Value.int 228 0, Value.int 1 0, Value.int 0 0, Value.int 0 0, Value.int 3 0, Value.ref 140, Value.bool true, Value.int 276 0, Value.ref 141, Value.none, Value.ref 142, Value.ref 143, Value.ref 144, Value.int 611 0, Value.int 228 0, Value.str (Str.ofString "/claim/cut.py") 612] }
noncomputable def ko146 : Obj := pick (a := ({ cls := Value.type "function", data := Data.func { name := Str.ofString "_law_read", qualname := Str.ofString "_law_read", params := fnArgs 22, body := .stmts (fnBody 22), scope := fnScope 22, globals := 3, closure := [], defaults := Value.none, kwdefaults := Value.none, pyModule := Value.str (Str.ofString "law_ij0046_01") 564, code := Value.ref 145 } } : Obj)) (by dsimp only [fnArgs, fnBody, fnScope, PySem.Challenge.pw_ij0046_01, List.getElem?_cons_succ, List.getElem?_cons_zero])
noncomputable def ko150 : Obj := { cls := Value.type "code", data := Data.fields #[Value.str (Str.ofString "_law_together") 614, Value.str (Str.ofString "_law_together") 615, Value.str (Str.ofString "/claim/cut.py") 616, Value.int 247 0, Value.int 1 0, Value.int 0 0, Value.int 0 0, Value.int 3 0, Value.ref 147, Value.bool true, Value.int 276 0, Value.ref 148, Value.none, Value.none, Value.none, Value.ref 149, Value.int 617 0, Value.int 247 0, Value.str (Str.ofString "/claim/cut.py") 618] }
noncomputable def ko151 : Obj := pick (a := ({ cls := Value.type "function", data := Data.func { name := Str.ofString "_law_together", qualname := Str.ofString "_law_together", params := fnArgs 23, body := .stmts (fnBody 23), scope := fnScope 23, globals := 3, closure := [], defaults := Value.none, kwdefaults := Value.none, pyModule := Value.str (Str.ofString "law_ij0046_01") 564, code := Value.ref 150 } } : Obj)) (by dsimp only [fnArgs, fnBody, fnScope, PySem.Challenge.pw_ij0046_01, List.getElem?_cons_succ, List.getElem?_cons_zero])
noncomputable def ko155 : Obj := { cls := Value.type "code", data := Data.fields #[Value.str (Str.ofString "_law_runs") 620, Value.str (Str.ofString "_law_runs") 621, Value.str (Str.ofString "/claim/cut.py") 622, Value.int 255 0, Value.int 1 0, Value.int 0 0, Value.int 0 0, Value.int 3 0, Value.ref 152, Value.bool true, Value.int 276 0, Value.ref 153, Value.none, Value.none, Value.none, Value.ref 154, Value.int 623 0, Value.int 255 0, Value.str (Str.ofString "/claim/cut.py") 624] }
noncomputable def ko156 : Obj := pick (a := ({ cls := Value.type "function", data := Data.func { name := Str.ofString "_law_runs", qualname := Str.ofString "_law_runs", params := fnArgs 24, body := .stmts (fnBody 24), scope := fnScope 24, globals := 3, closure := [], defaults := Value.none, kwdefaults := Value.none, pyModule := Value.str (Str.ofString "law_ij0046_01") 564, code := Value.ref 155 } } : Obj)) (by dsimp only [fnArgs, fnBody, fnScope, PySem.Challenge.pw_ij0046_01, List.getElem?_cons_succ, List.getElem?_cons_zero])
noncomputable def ko162 : Obj := { cls := Value.type "code", data := Data.fields #[Value.str (Str.ofString "_law_fits") 626, Value.str (Str.ofString "_law_fits") 627, Value.str (Str.ofString "/claim/cut.py") 628, Value.int 258 0, Value.int 2 0, Value.int 0 0, Value.int 0 0, Value.int 3 0, Value.ref 157, Value.bool true, Value.int 276 0, Value.ref 158, Value.none, Value.ref 159, Value.ref 160, Value.ref 161, Value.int 633 0, Value.int 258 0, Value.str (Str.ofString "/claim/cut.py") 634] }
noncomputable def ko163 : Obj := pick (a := ({ cls := Value.type "function", data := Data.func { name := Str.ofString "_law_fits", qualname := Str.ofString "_law_fits", params := fnArgs 25, body := .stmts (fnBody 25), scope := fnScope 25, globals := 3, closure := [], defaults := Value.none, kwdefaults := Value.none, pyModule := Value.str (Str.ofString "law_ij0046_01") 564, code := Value.ref 162 } } : Obj)) (by dsimp only [fnArgs, fnBody, fnScope, PySem.Challenge.pw_ij0046_01, List.getElem?_cons_succ, List.getElem?_cons_zero])
noncomputable def ko167 : Obj := { cls := Value.type "code", data := Data.fields #[Value.str (Str.ofString "_law_takes") 636, Value.str (Str.ofString "_law_takes") 637, Value.str (Str.ofString "/claim/cut.py") 638, Value.int 270 0, Value.int 2 0, Value.int 0 0, Value.int 0 0, Value.int 3 0, Value.ref 164, Value.bool true, Value.int 276 0, Value.ref 165, Value.none, Value.none, Value.none, Value.ref 166, Value.int 639 0, Value.int 270 0, Value.str (Str.ofString "/claim/cut.py") 640] }
noncomputable def ko168 : Obj := pick (a := ({ cls := Value.type "function", data := Data.func { name := Str.ofString "_law_takes", qualname := Str.ofString "_law_takes", params := fnArgs 26, body := .stmts (fnBody 26), scope := fnScope 26, globals := 3, closure := [], defaults := Value.none, kwdefaults := Value.none, pyModule := Value.str (Str.ofString "law_ij0046_01") 564, code := Value.ref 167 } } : Obj)) (by dsimp only [fnArgs, fnBody, fnScope, PySem.Challenge.pw_ij0046_01, List.getElem?_cons_succ, List.getElem?_cons_zero])
noncomputable def ko172 : Obj := { cls := Value.type "code", data := Data.fields #[Value.str (Str.ofString "law") 642, Value.str (Str.ofString "law") 643, Value.str (Str.ofString "/claim/cut.py") 644, Value.int 283 0, Value.int 1 0, Value.int 0 0, Value.int 0 0, Value.int 3 0, Value.ref 169, Value.bool true, Value.int 276 0, Value.ref 170, Value.none, Value.none, Value.none, Value.ref 171, Value.int 645 0, Value.int 283 0, Value.str (Str.ofString "/claim/cut.py") 646] }
noncomputable def ko173 : Obj := pick (a := ({ cls := Value.type "function", data := Data.func { name := Str.ofString "law", qualname := Str.ofString "law", params := fnArgs 27, body := .stmts (fnBody 27), scope := fnScope 27, globals := 3, closure := [], defaults := Value.none, kwdefaults := Value.none, pyModule := Value.str (Str.ofString "law_ij0046_01") 564, code := Value.ref 172 } } : Obj)) (by dsimp only [fnArgs, fnBody, fnScope, PySem.Challenge.pw_ij0046_01, List.getElem?_cons_succ, List.getElem?_cons_zero])
noncomputable def KK : Params → Frag := fun P => (nat_lit 3, ko3 P) :: (nat_lit 44, ko44) :: (nat_lit 45, ko45) :: (nat_lit 51, ko51) :: (nat_lit 52, ko52) :: (nat_lit 58, ko58) :: (nat_lit 59, ko59) :: (nat_lit 65, ko65) :: (nat_lit 66, ko66) :: (nat_lit 72, ko72) :: (nat_lit 73, ko73) :: (nat_lit 84, ko84) :: (nat_lit 85, ko85) :: (nat_lit 87, ko87) :: (nat_lit 96, ko96) :: (nat_lit 97, ko97) :: (nat_lit 103, ko103) :: (nat_lit 104, ko104) :: (nat_lit 110, ko110) :: (nat_lit 111, ko111) :: (nat_lit 117, ko117) :: (nat_lit 118, ko118) :: (nat_lit 124, ko124) :: (nat_lit 125, ko125) :: (nat_lit 131, ko131) :: (nat_lit 132, ko132) :: (nat_lit 138, ko138) :: (nat_lit 139, ko139) :: (nat_lit 145, ko145) :: (nat_lit 146, ko146) :: (nat_lit 150, ko150) :: (nat_lit 151, ko151) :: (nat_lit 155, ko155) :: (nat_lit 156, ko156) :: (nat_lit 162, ko162) :: (nat_lit 163, ko163) :: (nat_lit 167, ko167) :: (nat_lit 168, ko168) :: (nat_lit 172, ko172) :: (nat_lit 173, ko173) :: []
end Mine
set_option maxHeartbeats 0
namespace Mine

noncomputable def HH : Hook := kmHook KK [3, 44, 45, 51, 52, 58, 59, 65, 66, 72, 73, 84, 85, 87, 96, 97, 103, 104, 110, 111, 117, 118, 124, 125, 131, 132, 138, 139, 145, 146, 150, 151, 155, 156, 162, 163, 167, 168, 172, 173] (fun _ => by kernel_rfl) [99]
theorem lay1 : ∀ w : World, (opn treeTable pw w 4090).map (fun s => (ofS s).abs) = opn treeTable pw w 4090 := by
  show ∀ w : World, (opn treeTable PySem.Challenge.pw_ij0046_01 w 4090).map (fun s => (ofS s).abs) = opn treeTable PySem.Challenge.pw_ij0046_01 w 4090
  rw [PySem.W.Fast.te750644650369893277, PySem.W.Fast.te14364793385576792824, PySem.W.Fast.te14610327776290418021]
  intro w
  kernel_rfl
/-- what the looks at the top's end say, for one world -/
noncomputable def Looked (w : World) : Prop := PySem.W.Fast.tw14466153075667542132 PySem.W.Fast.tw14364793385576792824 PySem.W.Fast.tw14610327776290418021 PySem.W.Fast.tw4797623924254395695 loose (fun s => xlAt PySem.W.Fast.tw4797623924254395695 [] s && recOk PySem.Challenge.rw_ij0046_01.row.records s) HH.obs 4090 w = some ((true, true), openGood PySem.W.Fast.tw4797623924254395695 loose, HH.val w)
theorem look_ff (w : World) : Looked ((w.withFollow "special-get-raises" false).withFollow "comprehension-iter-twice" false) := by unfold Looked; kernel_rfl
theorem look_ft (w : World) : Looked ((w.withFollow "special-get-raises" false).withFollow "comprehension-iter-twice" true) := by unfold Looked; kernel_rfl
theorem look_tf (w : World) : Looked ((w.withFollow "special-get-raises" true).withFollow "comprehension-iter-twice" false) := by unfold Looked; kernel_rfl
theorem look_tt (w : World) : Looked ((w.withFollow "special-get-raises" true).withFollow "comprehension-iter-twice" true) := by unfold Looked; kernel_rfl
theorem looked : ∀ w : World, reck treeTable pw vw loose (fun s => xlAt vw [] s && recOk PySem.Challenge.rw_ij0046_01.row.records s) HH.obs 4090 w = some ((true, true), openGood vw loose, HH.val w) := by
  show ∀ w : World, reck treeTable PySem.Challenge.pw_ij0046_01 vw loose (fun s => xlAt vw [] s && recOk PySem.Challenge.rw_ij0046_01.row.records s) HH.obs 4090 w = some ((true, true), openGood vw loose, HH.val w)
  rw [PySem.W.Fast.te14466153075667542132, PySem.W.Fast.te14364793385576792824, PySem.W.Fast.te14610327776290418021, PySem.W.Fast.te4797623924254395695]
  exact byRow2 (P := fun w => Looked w) "comprehension-iter-twice" (byRow2 (P := fun w => Looked (w.withFollow "comprehension-iter-twice" false)) "special-get-raises" look_ff look_tf) (byRow2 (P := fun w => Looked (w.withFollow "comprehension-iter-twice" true)) "special-get-raises" look_ft look_tt)

end Mine
set_option maxHeartbeats 4000000
namespace Mine

noncomputable abbrev Led := List (Addr × Obj)
noncomputable abbrev Keep (h h' : Heap) : Prop := ∀ b o, h.get? b = some o → h'.get? b = some o

section
variable {prog : Program} {w : World} {A₀ A : Around} {s : Shared} {base h₀ g : Heap} {outer : List Env} {L : Addr} {m : Str → Option Value} {env : Env} {K : Frag}
  {p : Program} {loose : List Str} {mean : ExcName → Option Value} {mg mb : Str → Option Value}
  {R : Result → Shared → Prop} {name qual : Str} {params : Arguments} {body : List Stmt} {scope : Scope} {dV kV doc pm cdv ct oc : Value} {an od : Option Addr} {osl : Array (Option Value)} {f : Addr} {args : Args} {binds : List (Str × Value)}

/-- a def is entered: all that stood is the callee's base -/
theorem my_def (hs : s.heap = g) (B : Below A₀ base outer h₀) (F : Fr h₀ L g m) (X₀ : K.In h₀) (T : Top p loose mean mg mb h₀) (hA : A.frames = some (env :: outer)) (hf : env.frame = some L) (hke : env.scope.kind = .function)
    (ho : K.lookup f = some ⟨oc, od, .func (fnOf name qual params body scope dV kV doc pm an cdv ct), osl⟩) (hcd : codeIn K cdv qual = true) (hroom : A.depth < recursionLimit)
    (hbind : BindsTo s (fnOf name qual params body scope dV kV doc pm an cdv ct) args binds) (hloc : ∀ y ∈ binds, scope.names.lookup y.1 = some .local)
    (h : ∀ L' h₁, Fr g L' h₁ (fun y => binds.reverse.lookup y) → News g L' h₁ [] → Below A base (env :: outer) g → K.In g → Top p loose mean mg mb g →
      wpAny (model prog w) (A.deeper (envOf qual scope L' f cdv)) (execs body (envOf qual scope L' f cdv))
        (fun fl s' => R (.ok (.ret (match fl with | .ret v => v | _ => .none))) s')
        (fun _ _ => False)
        { s with heap := h₁, toks := s.toks + binds.length })
    (hco : scope.isCoroutine = false) (hgen : scope.isGenerator = false) (hk : scope.kind = .function)
    (hcell : ∀ x ∈ scope.names, x.2 ≠ .cell) : codeAny (model prog w) A (.call (.ref f) args) R s := by
  subst hs
  refine codeAny_call_def (fd := fnOf name qual params body scope dV kV doc pm an cdv ct) (body := body) (binds := binds) hroom ((X₀.keeps F.keep) _ _ ho) rfl (T.nolimit.keeps F.keep)
    (codeRec_of (X₀.keeps F.keep) hcd) rfl hbind hcell hloc (fun h₁ hns hk₁ => ?_) hco hgen hk
  have BG := pushX B F hf hke
  exact wpAny_mono (h s.heap.objs.size h₁ ⟨hns, hk₁, Nat.le_refl _⟩ News.nil ⟨hA, BG.stays, BG.frames⟩ (X₀.keeps F.keep) (T.keeps F.keep)) (fun _ _ x => x) fun _ _ x => x.elim

theorem my_defC (hs : s.heap = g) (B : Below A₀ base outer h₀) (F : Fr h₀ L g m) (X₀ : K.In h₀) (T : Top p loose mean mg mb h₀) (hA : A.frames = some (env :: outer)) (hf : env.frame = some L) (hke : env.scope.kind = .function)
    (ho : K.lookup f = some ⟨oc, od, .func (fnOf name qual params body scope dV kV doc pm an cdv ct), osl⟩) (hcd : codeIn K cdv qual = true) (hroom : A.depth < recursionLimit)
    (hbind : BindsTo s (fnOf name qual params body scope dV kV doc pm an cdv ct) args binds) (hkind : (binds.all fun y => scope.names.lookup y.1 == some .local || scope.names.lookup y.1 == some .cell) = true)
    (hnd : ((cellsFrom 0 scope.names []).map (·.1)).Nodup)
    (h : ∀ L' h₁ tk cells, Fr g L' h₁ (bindL (envOfC qual scope L' f cdv).kindOf binds fun _ => none) → News g L' h₁ cells →
      CellsAre (bindC (envOfC qual scope L' f cdv).kindOf binds fun _ => none) (cellsFrom (L' + 1) scope.names []) cells → Below A base (env :: outer) g → K.In g → Top p loose mean mg mb g → s.toks ≤ tk →
      wpAny (model prog w) (A.deeper (envOfC qual scope L' f cdv)) (execs body (envOfC qual scope L' f cdv))
        (fun fl s' => R (.ok (.ret (match fl with | .ret v => v | _ => .none))) s')
        (fun _ _ => False)
        { s with heap := h₁, toks := tk })
    (hco : scope.isCoroutine = false) (hgen : scope.isGenerator = false) (hk : scope.kind = .function) : codeAny (model prog w) A (.call (.ref f) args) R s := by
  subst hs
  have BG := pushX B F hf hke
  refine codeAny_call_function (fd := fnOf name qual params body scope dV kV doc pm an cdv ct) (body := body) hroom ((X₀.keeps F.keep) _ _ ho) rfl hco hgen rfl (codeRec_of (X₀.keeps F.keep) hcd) (hbind _ _ _ _ ?_)
  refine wpAny_with_toks (Nat.le_refl _) (wpAny_newFunctionEnv_cells hk (kindsX hkind _) fun env' he s' x htk => ?_)
  subst he
  refine ⟨(T.nolimit.keeps F.keep).keeps x.toInCall.keep, codeAny_func ?_⟩
  obtain ⟨h₁, tk, rfl, _⟩ := x.done
  obtain ⟨cells, NC, Y⟩ := Cl.news (h₀ := s.heap) (Nat.le_refl _) fun n c hm => ⟨x.cell n c (lookup_of_mem_nodup (cellsFrom_names scope.names 0 (s.heap.objs.size + 1) [] [] rfl ▸ hnd) hm), x.above n c hm⟩
  exact wpAny_mono (h s.heap.objs.size h₁ tk cells ⟨x.toInCall.ns, x.toInCall.keep, Nat.le_refl _⟩ NC Y ⟨hA, BG.stays, BG.frames⟩ (X₀.keeps F.keep) (T.keeps F.keep) htk) (fun _ _ x => x) fun _ _ x => x.elim
end

/-- what a call of the def at f does -/
noncomputable abbrev Does (w : World) (p : Program) (loose : List Str) (mean : ExcName → Option Value) (mg mb : Str → Option Value) (D : Nat) (f : Addr) (vs : List Value) (pre : Heap → Prop) (post : Value → Heap → Heap → Prop) : Prop :=
  ∀ (dp un : Nat) (gd : Option (List Code)) (cn : Str) (cs : Scope) (a : Addr) (ccd : Value) (cl : List (Str × Addr)) (outer : List Env) (A₀ : Around) (base h₀ : Heap) (L : Addr) (m : Str → Option Value) (g : Heap) (s : Shared) (Q E : Value → Shared → Prop),
    s.heap = g → Below A₀ base outer h₀ → Fr h₀ L g m → (KK w.params).In h₀ → Top p loose mean mg mb h₀ → cs.kind = .function → pre g → 1 ≤ s.toks →
    dp + D < recursionLimit → un + 8 * D < cLine →
    (∀ r h' tk', Keep g h' → s.toks ≤ tk' → post r g h' → Q r { s with heap := h', toks := tk' }) →
    wpAny (model PySem.Challenge.rw_ij0046_01.row.prog w) (ktrTop dp un gd cn cs L a ccd cl outer) (call (.ref f) vs) Q E s
noncomputable abbrev Does0 (w : World) (p : Program) (loose : List Str) (mean : ExcName → Option Value) (mg mb : Str → Option Value) (D : Nat) (f : Addr) (vs : List Value) (pre : Heap → Prop) (post : Value → Heap → Heap → Prop) : Prop :=
  ∀ (dp un : Nat) (gd : Option (List Code)) (cn : Str) (cs : Scope) (a : Addr) (ccd : Value) (cl : List (Str × Addr)) (outer : List Env) (A₀ : Around) (base h₀ : Heap) (L : Addr) (m : Str → Option Value) (g : Heap) (s : Shared) (Q E : Value → Shared → Prop),
    s.heap = g → Below A₀ base outer h₀ → Fr h₀ L g m → (KK w.params).In h₀ → Top p loose mean mg mb h₀ → cs.kind = .function → pre g → 1 ≤ s.toks →
    dp + D < recursionLimit → un + 8 * D < cLine →
    (∀ r h' tk', Keep g h' → post r g h' → Q r { s with heap := h', toks := tk' }) →
    wpAny (model PySem.Challenge.rw_ij0046_01.row.prog w) (ktrTop dp un gd cn cs L a ccd cl outer) (call (.ref f) vs) Q E s
section
variable {w : World} {p : Program} {loose : List Str} {mean : ExcName → Option Value} {mg mb : Str → Option Value} {D : Nat} {f : Addr} {vs : List Value} {pre : Heap → Prop} {post : Value → Heap → Heap → Prop}
theorem does_of (C : Does0 w p loose mean mg mb D f vs pre post) : Does w p loose mean mg mb D f vs pre post := by
  intro dp un gd cn cs a ccd cl outer A₀ base h₀ L m g s Q E e B F X T hk hp ht hd hu ret
  refine wpAny_with_toks (Nat.le_refl _) (C _ _ _ _ _ _ _ _ _ _ _ _ _ _ _ _ _ _ e B F X T hk hp ht hd hu fun r h' tk' k q htk => ret r h' tk' k htk q)
theorem Does.weaken {pre' : Heap → Prop} {post' : Value → Heap → Heap → Prop} (C : Does w p loose mean mg mb D f vs pre post) (h1 : ∀ g, pre' g → pre g) (h2 : ∀ r g h', pre' g → Keep g h' → post r g h' → post' r g h') : Does w p loose mean mg mb D f vs pre' post' := by
  intro dp un gd cn cs a ccd cl outer A₀ base h₀ L m g s Q E e B F X T hk hp ht hd hu ret
  exact C _ _ _ _ _ _ _ _ _ _ _ _ _ _ _ _ _ _ e B F X T hk (h1 _ hp) ht hd hu fun r h' tk' k htk q => ret r h' tk' k htk (h2 _ _ _ hp k q)
/-- a call of it, out of a walk -/
theorem Does.use {dp un : Nat} {gd : Option (List Code)} {cn : Str} {cs : Scope} {a : Addr} {ccd : Value} {cl : List (Str × Addr)} {outer : List Env} {A₀ : Around} {base h₀ : Heap} {L : Addr} {m : Str → Option Value} {s : Shared} {Q E : Value → Shared → Prop} {news : Led}
    (C : Does w p loose mean mg mb D f vs pre post)
    (B : Below A₀ base outer h₀) (F : Fr h₀ L s.heap m) (N : News h₀ L s.heap news) (X : (KK w.params).In h₀) (T : Top p loose mean mg mb h₀) (hk : cs.kind = .function) (hp : pre s.heap) (ht : 1 ≤ s.toks)
    (hd : dp + D < recursionLimit) (hu : un + 8 * D < cLine)
    (ret : ∀ r h' tk', Keep s.heap h' → s.toks ≤ tk' → 1 ≤ tk' → Fr h₀ L h' m → News h₀ L h' news → post r s.heap h' → Q r { s with heap := h', toks := tk' }) :
    wpAny (model PySem.Challenge.rw_ij0046_01.row.prog w) (ktrTop dp un gd cn cs L a ccd cl outer) (call (.ref f) vs) Q E s :=
  C _ _ _ _ _ _ _ _ _ _ _ _ _ _ _ _ _ _ rfl B F X T hk hp ht hd hu fun r h' tk' k htk q =>
    ret r h' tk' k htk (Nat.le_trans ht htk) ⟨F.ns.keeps k, fun b o e => k _ _ (F.keep b o e), F.above⟩ (fun z hz => ⟨k _ _ (N z hz).1, (N z hz).2⟩) q
end

end Mine
set_option maxHeartbeats 4000000
namespace Mine

/-- a text by its signs -/
noncomputable def S (l : List Nat) : Str := ⟨l.toArray⟩
theorem S_cps (l : List Nat) : (S l).cps.toList = l := by simp [S]
theorem S_length (l : List Nat) : (S l).length = l.length := by simp [S, Str.length]
theorem S_app (a b : List Nat) : S a ++ S b = S (a ++ b) := Str.ext' (by simp [S, Str.cps_append])
theorem S_of (x : Str) : x = S x.cps.toList := Str.ext' (by simp [S])
theorem S_inj {a b : List Nat} (h : S a = S b) : a = b := by rw [← S_cps a, h, S_cps]
theorem S_beq (a b : List Nat) : (S a == S b) = (a == b) := by
  rw [Bool.eq_iff_iff]; simp only [beq_iff_eq]; exact ⟨S_inj, fun e => by rw [e]⟩

noncomputable def rep1 (c : Nat) (r l : List Nat) : List Nat := l.flatMap fun a => if a = c then r else [a]
theorem rep1_append (c : Nat) (r a b : List Nat) : rep1 c r (a ++ b) = rep1 c r a ++ rep1 c r b := by simp [rep1]
theorem rep1_free (c : Nat) (r : List Nat) : ∀ l : List Nat, c ∉ l → rep1 c r l = l
  | [], _ => rfl
  | k :: l, h => by
    have h1 : ¬ k = c := fun e => h (e ▸ List.mem_cons_self ..)
    have h2 : c ∉ l := fun m => h (List.mem_cons_of_mem _ m)
    have ih := rep1_free c r l h2
    unfold rep1 at ih ⊢
    rw [List.flatMap_cons, if_neg h1, ih]; rfl
theorem rep1_one (c : Nat) (r : List Nat) : rep1 c r [c] = r := by simp [rep1]
theorem rep1_join (c : Nat) (r : List Nat) : ∀ parts : List Str, (∀ p ∈ parts, c ∉ p.cps.toList) → rep1 c r (Str.join ⟨#[c]⟩ parts).cps.toList = (Str.join (S r) parts).cps.toList
  | [], _ => rfl
  | [p], h => rep1_free c r _ (h p (List.mem_singleton.mpr rfl))
  | p :: q :: l, h => by
    have ih := rep1_join c r (q :: l) fun a ha => h a (List.mem_cons_of_mem _ ha)
    show rep1 c r (p ++ ⟨#[c]⟩ ++ Str.join ⟨#[c]⟩ (q :: l)).cps.toList = (p ++ S r ++ Str.join (S r) (q :: l)).cps.toList
    simp only [Str.cps_append, Array.toList_append]
    rw [rep1_append, rep1_append, ih, rep1_free c r _ (h p (List.mem_cons_self ..)), S_cps]
    show p.cps.toList ++ rep1 c r [c] ++ _ = _
    rw [rep1_one]
theorem replace_S (c : Nat) (r l : List Nat) : Txt.replace (S l) (S [c]) (S r) = S (rep1 c r l) := by
  have e : S [c] = ⟨#[c]⟩ := rfl
  rw [e, StrLaws.replace_one, S_of (Str.join (S r) _), ← rep1_join c r _ (StrLaws.split_free (S l) c), StrLaws.join_split, S_cps]
theorem rep1_length (c : Nat) (r : List Nat) (n : Nat) (hn : 1 ≤ n) (hr : r.length ≤ n) : ∀ l : List Nat, (rep1 c r l).length ≤ n * l.length
  | [] => Nat.zero_le _
  | k :: l => by
    have ih := rep1_length c r n hn hr l
    unfold rep1 at ih ⊢
    rw [List.flatMap_cons, List.length_append, List.length_cons, Nat.mul_add, Nat.mul_one]
    have : (if k = c then r else [k]).length ≤ n := by
      split
      · exact hr
      · exact hn
    omega
theorem contains_S (c : Nat) (l : List Nat) : (!(Builtin.Str.occurrences (S l) (S [c]) 0 (S l).length 1).isEmpty) = decide (c ∈ l) := by
  have := StrLaws.found_one (S l) c
  rw [S_cps] at this
  exact this
end Mine
set_option maxHeartbeats 4000000
namespace Mine

section
variable {prog : Program} {w : World} {A : Around} {E : Value → Shared → Prop} {s : Shared} {h₀ : Heap} {L a : Addr} {m : Str → Option Value} {news : Led} {cn : Str} {cs : Scope} {ccd : Value} {cl : List (Str × Addr)} {Q : Flow → Shared → Prop}

theorem ne_zero_of {t u : Nat} (h : 1 ≤ t) (e : u = t) : u ≠ 0 := by omega

/-- «if 'c' in text: text = text.replace('c', 'r')» -/
theorem esc_if {c : Nat} {r l : List Nat} {cS rS : Str} {t : Tok} {k1 k2 k3 : Nat} {pl : Sem Bool} {p1 p2 p3 p4 p5 p6 p7 p8 p9 p10 p11 : Pos}
    (hc : cS = S [c]) (hr : rS = S r) (F : Fr h₀ L s.heap m) (N : News h₀ L s.heap news) (hm : m "text" = some (.str (S l) t)) (ht : 1 ≤ s.toks) (hl : l.length ≤ 1048576) (hrl : r.length ≤ 14) (hcr : r ≠ [c])
    (hk : cs.kind = .function) (hx : (envX cn cs L a ccd cl).kindOf "text" = some .local)
    (h : ∀ h' t' tk', 1 ≤ tk' → Fr h₀ L h' (fun y => if y = "text" then some (.str (S (rep1 c r l)) t') else m y) → News h₀ L h' news → Q .next { s with heap := h', toks := tk' })
    (he : eval (.Call (.Attribute (.Name "text" p5) "replace" p6) [.Constant (.str cS) k2 p7, .Constant (.str rS) k3 p8] [] p9) (envX cn cs L a ccd cl) = (do
      let ov ← eval (.Name "text" p5) (envX cn cs L a ccd cl)
      standAt p6.atName
      let (f, first) ← holding [ov] (getMethod ov "replace" pl)
      callWith p9 f first (backTo p9 (starEach [.Constant (.str cS) k2 p7, .Constant (.str rS) k3 p8] (envX cn cs L a ccd cl))) [])) :
    wpAny (model prog w) A (exec (.If (.Compare (.Constant (.str cS) k1 p1) [.In] [.Name "text" p2] p3) [.Assign [.Name "text" p4] (.Call (.Attribute (.Name "text" p5) "replace" p6) [.Constant (.str cS) k2 p7, .Constant (.str rS) k3 p8] [] p9) p10] [] p11) (envX cn cs L a ccd cl)) Q E s := by
  subst hc hr
  refine wpAny_If (wpAny_isTrue_Compare1 (Calls.Constant_str (nameX_L F hm (P.in_str (wpAny_truthy_bool ?_)) hk hx)))
  rw [contains_S]
  by_cases hin : c ∈ l
  · rw [if_pos (by simpa using hin)]
    refine wpAny_execs_cons (wpAny_Assign_Name (MethodCall_ (pl := pl) (nameX_L F hm (GM.replace (callWith_method1 (args_cons (Calls.Constant_str (args_cons (Calls.Constant_str (args_nil ?_))))))) hk hx) he))
    refine wpAny_with_toks (n := 1) (Nat.le_succ_of_le (Nat.le_succ_of_le (Nat.le_succ_of_le ht))) ?_
    refine SC.replaceW (Nat.succ_ne_zero _) (Nat.succ_ne_zero _) (Nat.ne_of_lt (Nat.lt_succ_self _)) (by rw [S_beq]; exact beq_eq_false_iff_ne.mpr fun e => hcr e.symm) (by rw [S_length]; exact hl) (by rw [S_length]; exact hrl) fun t' k hk1 => ?_
    rw [replace_S]
    refine storeX_L F N (fun h' F' N' => ?_) hk hx
    exact wpAny_execs_nil (h h' t' _ (Nat.le_succ_of_le hk1) F' N')
  · rw [if_neg (by simpa using hin)]
    refine wpAny_execs_nil (h s.heap t _ (Nat.le_succ_of_le ht) ?_ N)
    rw [rep1_free c r l hin]
    have e : (fun y => if y = ("text" : Str) then some (Value.str (S l) t) else m y) = m := by
      funext y
      by_cases hy : y = "text"
      · rw [if_pos hy, hy, hm]
      · rw [if_neg hy]
    rw [e]
    exact F
end
end Mine
set_option maxHeartbeats 4000000
namespace Mine
section
variable {w : World} {p : Program} {loose : List Str} {mean : ExcName → Option Value} {mg mb : Str → Option Value}

noncomputable def esc_cdataL (l : List Nat) : List Nat := (rep1 62 [38, 103, 116, 59] (rep1 60 [38, 108, 116, 59] (rep1 38 [38, 97, 109, 112, 59] l)))
theorem does_cdata (l : List Nat) (t : Tok) (hl : l.length ≤ 16) : Does w p loose mean mg mb 2 45 [.str (S l) t] (fun _ => True) (fun r _ _ => ∃ t', r = .str (S (esc_cdataL l)) t') := by
  refine does_of ?_
  unfold Does0
  k_fill
  intro dp un gd cn cs a ccd cl outer A₀ base h₀ L m g s Q E hs B F X T hk hp ht hd hu hret
  refine wpAny_call ?_
  refine' my_def (binds := [(Str.ofString "text", .str (S l) t)]) hs B F X T ?kA ?kF ?kK ?k6 ?k7 ?k8 ?k9 ?kB ?_ ?c2 ?c3 ?c4 ?c5; (case kA => exact rfl); (case kF => exact rfl); (case kK => exact hk); (case k6 => k_is); (case k7 => k_is); (case k8 => ktr_room); (case k9 => exact BindsTo.of_eq rfl); (case kB => exact locs rfl); (case c2 => exact rfl); (case c3 => exact rfl); (case c4 => exact rfl); (case c5 => decide)
  intro L' h' F' N' B' X' T'
  refine wpAny_execs_cons (wpAny_Try_except ?_)
  have ht : 1 ≤ s.toks + 1 := Nat.le_succ_of_le ht
  have hl1 : (rep1 38 [38, 97, 109, 112, 59] l).length ≤ 96 := Nat.le_trans (rep1_length 38 [38, 97, 109, 112, 59] 6 (by decide) (by decide) _) (Nat.mul_le_mul_left 6 hl)
  refine wpAny_execs_cons (esc_if (c := 38) (r := [38, 97, 109, 112, 59]) (by decide +kernel) (by decide +kernel) F' N' rfl ht (Nat.le_trans hl (by decide)) (by decide) (by decide) rfl rfl ?_ rfl)
  clear F' N' ht
  intro h' t' tk' ht F' N'
  dsimp only
  have hl2 : (rep1 60 [38, 108, 116, 59] (rep1 38 [38, 97, 109, 112, 59] l)).length ≤ 576 := Nat.le_trans (rep1_length 60 [38, 108, 116, 59] 6 (by decide) (by decide) _) (Nat.mul_le_mul_left 6 hl1)
  refine wpAny_execs_cons (esc_if (c := 60) (r := [38, 108, 116, 59]) (by decide +kernel) (by decide +kernel) F' N' rfl ht (Nat.le_trans hl1 (by decide)) (by decide) (by decide) rfl rfl ?_ rfl)
  clear F' N' ht
  intro h' t' tk' ht F' N'
  dsimp only
  have hl3 : (rep1 62 [38, 103, 116, 59] (rep1 60 [38, 108, 116, 59] (rep1 38 [38, 97, 109, 112, 59] l))).length ≤ 3456 := Nat.le_trans (rep1_length 62 [38, 103, 116, 59] 6 (by decide) (by decide) _) (Nat.mul_le_mul_left 6 hl2)
  refine wpAny_execs_cons (esc_if (c := 62) (r := [38, 103, 116, 59]) (by decide +kernel) (by decide +kernel) F' N' rfl ht (Nat.le_trans hl2 (by decide)) (by decide) (by decide) rfl rfl ?_ rfl)
  clear F' N' ht
  intro h' t' tk' ht F' N'
  dsimp only
  k_steps
  exact hret _ _ _ F'.keep ⟨_, rfl⟩

noncomputable def esc_attribL (l : List Nat) : List Nat := (rep1 9 [38, 35, 48, 57, 59] (rep1 10 [38, 35, 49, 48, 59] (rep1 13 [38, 35, 49, 51, 59] (rep1 34 [38, 113, 117, 111, 116, 59] (rep1 62 [38, 103, 116, 59] (rep1 60 [38, 108, 116, 59] (rep1 38 [38, 97, 109, 112, 59] l)))))))
theorem does_attrib (l : List Nat) (t : Tok) (hl : l.length ≤ 16) : Does w p loose mean mg mb 2 52 [.str (S l) t] (fun _ => True) (fun r _ _ => ∃ t', r = .str (S (esc_attribL l)) t') := by
  refine does_of ?_
  unfold Does0
  k_fill
  intro dp un gd cn cs a ccd cl outer A₀ base h₀ L m g s Q E hs B F X T hk hp ht hd hu hret
  refine wpAny_call ?_
  refine' my_def (binds := [(Str.ofString "text", .str (S l) t)]) hs B F X T ?kA ?kF ?kK ?k6 ?k7 ?k8 ?k9 ?kB ?_ ?c2 ?c3 ?c4 ?c5; (case kA => exact rfl); (case kF => exact rfl); (case kK => exact hk); (case k6 => k_is); (case k7 => k_is); (case k8 => ktr_room); (case k9 => exact BindsTo.of_eq rfl); (case kB => exact locs rfl); (case c2 => exact rfl); (case c3 => exact rfl); (case c4 => exact rfl); (case c5 => decide)
  intro L' h' F' N' B' X' T'
  refine wpAny_execs_cons (wpAny_Try_except ?_)
  have ht : 1 ≤ s.toks + 1 := Nat.le_succ_of_le ht
  have hl1 : (rep1 38 [38, 97, 109, 112, 59] l).length ≤ 96 := Nat.le_trans (rep1_length 38 [38, 97, 109, 112, 59] 6 (by decide) (by decide) _) (Nat.mul_le_mul_left 6 hl)
  refine wpAny_execs_cons (esc_if (c := 38) (r := [38, 97, 109, 112, 59]) (by decide +kernel) (by decide +kernel) F' N' rfl ht (Nat.le_trans hl (by decide)) (by decide) (by decide) rfl rfl ?_ rfl)
  clear F' N' ht
  intro h' t' tk' ht F' N'
  dsimp only
  have hl2 : (rep1 60 [38, 108, 116, 59] (rep1 38 [38, 97, 109, 112, 59] l)).length ≤ 576 := Nat.le_trans (rep1_length 60 [38, 108, 116, 59] 6 (by decide) (by decide) _) (Nat.mul_le_mul_left 6 hl1)
  refine wpAny_execs_cons (esc_if (c := 60) (r := [38, 108, 116, 59]) (by decide +kernel) (by decide +kernel) F' N' rfl ht (Nat.le_trans hl1 (by decide)) (by decide) (by decide) rfl rfl ?_ rfl)
  clear F' N' ht
  intro h' t' tk' ht F' N'
  dsimp only
  have hl3 : (rep1 62 [38, 103, 116, 59] (rep1 60 [38, 108, 116, 59] (rep1 38 [38, 97, 109, 112, 59] l))).length ≤ 3456 := Nat.le_trans (rep1_length 62 [38, 103, 116, 59] 6 (by decide) (by decide) _) (Nat.mul_le_mul_left 6 hl2)
  refine wpAny_execs_cons (esc_if (c := 62) (r := [38, 103, 116, 59]) (by decide +kernel) (by decide +kernel) F' N' rfl ht (Nat.le_trans hl2 (by decide)) (by decide) (by decide) rfl rfl ?_ rfl)
  clear F' N' ht
  intro h' t' tk' ht F' N'
  dsimp only
  have hl4 : (rep1 34 [38, 113, 117, 111, 116, 59] (rep1 62 [38, 103, 116, 59] (rep1 60 [38, 108, 116, 59] (rep1 38 [38, 97, 109, 112, 59] l)))).length ≤ 20736 := Nat.le_trans (rep1_length 34 [38, 113, 117, 111, 116, 59] 6 (by decide) (by decide) _) (Nat.mul_le_mul_left 6 hl3)
  refine wpAny_execs_cons (esc_if (c := 34) (r := [38, 113, 117, 111, 116, 59]) (by decide +kernel) (by decide +kernel) F' N' rfl ht (Nat.le_trans hl3 (by decide)) (by decide) (by decide) rfl rfl ?_ rfl)
  clear F' N' ht
  intro h' t' tk' ht F' N'
  dsimp only
  have hl5 : (rep1 13 [38, 35, 49, 51, 59] (rep1 34 [38, 113, 117, 111, 116, 59] (rep1 62 [38, 103, 116, 59] (rep1 60 [38, 108, 116, 59] (rep1 38 [38, 97, 109, 112, 59] l))))).length ≤ 124416 := Nat.le_trans (rep1_length 13 [38, 35, 49, 51, 59] 6 (by decide) (by decide) _) (Nat.mul_le_mul_left 6 hl4)
  refine wpAny_execs_cons (esc_if (c := 13) (r := [38, 35, 49, 51, 59]) (by decide +kernel) (by decide +kernel) F' N' rfl ht (Nat.le_trans hl4 (by decide)) (by decide) (by decide) rfl rfl ?_ rfl)
  clear F' N' ht
  intro h' t' tk' ht F' N'
  dsimp only
  have hl6 : (rep1 10 [38, 35, 49, 48, 59] (rep1 13 [38, 35, 49, 51, 59] (rep1 34 [38, 113, 117, 111, 116, 59] (rep1 62 [38, 103, 116, 59] (rep1 60 [38, 108, 116, 59] (rep1 38 [38, 97, 109, 112, 59] l)))))).length ≤ 746496 := Nat.le_trans (rep1_length 10 [38, 35, 49, 48, 59] 6 (by decide) (by decide) _) (Nat.mul_le_mul_left 6 hl5)
  refine wpAny_execs_cons (esc_if (c := 10) (r := [38, 35, 49, 48, 59]) (by decide +kernel) (by decide +kernel) F' N' rfl ht (Nat.le_trans hl5 (by decide)) (by decide) (by decide) rfl rfl ?_ rfl)
  clear F' N' ht
  intro h' t' tk' ht F' N'
  dsimp only
  have hl7 : (rep1 9 [38, 35, 48, 57, 59] (rep1 10 [38, 35, 49, 48, 59] (rep1 13 [38, 35, 49, 51, 59] (rep1 34 [38, 113, 117, 111, 116, 59] (rep1 62 [38, 103, 116, 59] (rep1 60 [38, 108, 116, 59] (rep1 38 [38, 97, 109, 112, 59] l))))))).length ≤ 4478976 := Nat.le_trans (rep1_length 9 [38, 35, 48, 57, 59] 6 (by decide) (by decide) _) (Nat.mul_le_mul_left 6 hl6)
  refine wpAny_execs_cons (esc_if (c := 9) (r := [38, 35, 48, 57, 59]) (by decide +kernel) (by decide +kernel) F' N' rfl ht (Nat.le_trans hl6 (by decide)) (by decide) (by decide) rfl rfl ?_ rfl)
  clear F' N' ht
  intro h' t' tk' ht F' N'
  dsimp only
  k_steps
  exact hret _ _ _ F'.keep ⟨_, rfl⟩

noncomputable def esc_htmlL (l : List Nat) : List Nat := (rep1 34 [38, 113, 117, 111, 116, 59] (rep1 62 [38, 103, 116, 59] (rep1 38 [38, 97, 109, 112, 59] l)))
theorem does_html (l : List Nat) (t : Tok) (hl : l.length ≤ 16) : Does w p loose mean mg mb 2 59 [.str (S l) t] (fun _ => True) (fun r _ _ => ∃ t', r = .str (S (esc_htmlL l)) t') := by
  refine does_of ?_
  unfold Does0
  k_fill
  intro dp un gd cn cs a ccd cl outer A₀ base h₀ L m g s Q E hs B F X T hk hp ht hd hu hret
  refine wpAny_call ?_
  refine' my_def (binds := [(Str.ofString "text", .str (S l) t)]) hs B F X T ?kA ?kF ?kK ?k6 ?k7 ?k8 ?k9 ?kB ?_ ?c2 ?c3 ?c4 ?c5; (case kA => exact rfl); (case kF => exact rfl); (case kK => exact hk); (case k6 => k_is); (case k7 => k_is); (case k8 => ktr_room); (case k9 => exact BindsTo.of_eq rfl); (case kB => exact locs rfl); (case c2 => exact rfl); (case c3 => exact rfl); (case c4 => exact rfl); (case c5 => decide)
  intro L' h' F' N' B' X' T'
  refine wpAny_execs_cons (wpAny_Try_except ?_)
  have ht : 1 ≤ s.toks + 1 := Nat.le_succ_of_le ht
  have hl1 : (rep1 38 [38, 97, 109, 112, 59] l).length ≤ 96 := Nat.le_trans (rep1_length 38 [38, 97, 109, 112, 59] 6 (by decide) (by decide) _) (Nat.mul_le_mul_left 6 hl)
  refine wpAny_execs_cons (esc_if (c := 38) (r := [38, 97, 109, 112, 59]) (by decide +kernel) (by decide +kernel) F' N' rfl ht (Nat.le_trans hl (by decide)) (by decide) (by decide) rfl rfl ?_ rfl)
  clear F' N' ht
  intro h' t' tk' ht F' N'
  dsimp only
  have hl2 : (rep1 62 [38, 103, 116, 59] (rep1 38 [38, 97, 109, 112, 59] l)).length ≤ 576 := Nat.le_trans (rep1_length 62 [38, 103, 116, 59] 6 (by decide) (by decide) _) (Nat.mul_le_mul_left 6 hl1)
  refine wpAny_execs_cons (esc_if (c := 62) (r := [38, 103, 116, 59]) (by decide +kernel) (by decide +kernel) F' N' rfl ht (Nat.le_trans hl1 (by decide)) (by decide) (by decide) rfl rfl ?_ rfl)
  clear F' N' ht
  intro h' t' tk' ht F' N'
  dsimp only
  have hl3 : (rep1 34 [38, 113, 117, 111, 116, 59] (rep1 62 [38, 103, 116, 59] (rep1 38 [38, 97, 109, 112, 59] l))).length ≤ 3456 := Nat.le_trans (rep1_length 34 [38, 113, 117, 111, 116, 59] 6 (by decide) (by decide) _) (Nat.mul_le_mul_left 6 hl2)
  refine wpAny_execs_cons (esc_if (c := 34) (r := [38, 113, 117, 111, 116, 59]) (by decide +kernel) (by decide +kernel) F' N' rfl ht (Nat.le_trans hl2 (by decide)) (by decide) (by decide) rfl rfl ?_ rfl)
  clear F' N' ht
  intro h' t' tk' ht F' N'
  dsimp only
  k_steps
  exact hret _ _ _ F'.keep ⟨_, rfl⟩

noncomputable def esc_cdatacL (l : List Nat) : List Nat := (rep1 13 [38, 35, 120, 68, 59] (rep1 62 [38, 103, 116, 59] (rep1 60 [38, 108, 116, 59] (rep1 38 [38, 97, 109, 112, 59] l))))
theorem does_cdatac (l : List Nat) (t : Tok) (hl : l.length ≤ 16) : Does w p loose mean mg mb 2 66 [.str (S l) t] (fun _ => True) (fun r _ _ => ∃ t', r = .str (S (esc_cdatacL l)) t') := by
  refine does_of ?_
  unfold Does0
  k_fill
  intro dp un gd cn cs a ccd cl outer A₀ base h₀ L m g s Q E hs B F X T hk hp ht hd hu hret
  refine wpAny_call ?_
  refine' my_def (binds := [(Str.ofString "text", .str (S l) t)]) hs B F X T ?kA ?kF ?kK ?k6 ?k7 ?k8 ?k9 ?kB ?_ ?c2 ?c3 ?c4 ?c5; (case kA => exact rfl); (case kF => exact rfl); (case kK => exact hk); (case k6 => k_is); (case k7 => k_is); (case k8 => ktr_room); (case k9 => exact BindsTo.of_eq rfl); (case kB => exact locs rfl); (case c2 => exact rfl); (case c3 => exact rfl); (case c4 => exact rfl); (case c5 => decide)
  intro L' h' F' N' B' X' T'
  refine wpAny_execs_cons (wpAny_Try_except ?_)
  have ht : 1 ≤ s.toks + 1 := Nat.le_succ_of_le ht
  have hl1 : (rep1 38 [38, 97, 109, 112, 59] l).length ≤ 96 := Nat.le_trans (rep1_length 38 [38, 97, 109, 112, 59] 6 (by decide) (by decide) _) (Nat.mul_le_mul_left 6 hl)
  refine wpAny_execs_cons (esc_if (c := 38) (r := [38, 97, 109, 112, 59]) (by decide +kernel) (by decide +kernel) F' N' rfl ht (Nat.le_trans hl (by decide)) (by decide) (by decide) rfl rfl ?_ rfl)
  clear F' N' ht
  intro h' t' tk' ht F' N'
  dsimp only
  have hl2 : (rep1 60 [38, 108, 116, 59] (rep1 38 [38, 97, 109, 112, 59] l)).length ≤ 576 := Nat.le_trans (rep1_length 60 [38, 108, 116, 59] 6 (by decide) (by decide) _) (Nat.mul_le_mul_left 6 hl1)
  refine wpAny_execs_cons (esc_if (c := 60) (r := [38, 108, 116, 59]) (by decide +kernel) (by decide +kernel) F' N' rfl ht (Nat.le_trans hl1 (by decide)) (by decide) (by decide) rfl rfl ?_ rfl)
  clear F' N' ht
  intro h' t' tk' ht F' N'
  dsimp only
  have hl3 : (rep1 62 [38, 103, 116, 59] (rep1 60 [38, 108, 116, 59] (rep1 38 [38, 97, 109, 112, 59] l))).length ≤ 3456 := Nat.le_trans (rep1_length 62 [38, 103, 116, 59] 6 (by decide) (by decide) _) (Nat.mul_le_mul_left 6 hl2)
  refine wpAny_execs_cons (esc_if (c := 62) (r := [38, 103, 116, 59]) (by decide +kernel) (by decide +kernel) F' N' rfl ht (Nat.le_trans hl2 (by decide)) (by decide) (by decide) rfl rfl ?_ rfl)
  clear F' N' ht
  intro h' t' tk' ht F' N'
  dsimp only
  have hl4 : (rep1 13 [38, 35, 120, 68, 59] (rep1 62 [38, 103, 116, 59] (rep1 60 [38, 108, 116, 59] (rep1 38 [38, 97, 109, 112, 59] l)))).length ≤ 20736 := Nat.le_trans (rep1_length 13 [38, 35, 120, 68, 59] 6 (by decide) (by decide) _) (Nat.mul_le_mul_left 6 hl3)
  refine wpAny_execs_cons (esc_if (c := 13) (r := [38, 35, 120, 68, 59]) (by decide +kernel) (by decide +kernel) F' N' rfl ht (Nat.le_trans hl3 (by decide)) (by decide) (by decide) rfl rfl ?_ rfl)
  clear F' N' ht
  intro h' t' tk' ht F' N'
  dsimp only
  k_steps
  exact hret _ _ _ F'.keep ⟨_, rfl⟩

noncomputable def esc_attribcL (l : List Nat) : List Nat := (rep1 13 [38, 35, 120, 68, 59] (rep1 10 [38, 35, 120, 65, 59] (rep1 9 [38, 35, 120, 57, 59] (rep1 34 [38, 113, 117, 111, 116, 59] (rep1 60 [38, 108, 116, 59] (rep1 38 [38, 97, 109, 112, 59] l))))))
theorem does_attribc (l : List Nat) (t : Tok) (hl : l.length ≤ 16) : Does w p loose mean mg mb 2 73 [.str (S l) t] (fun _ => True) (fun r _ _ => ∃ t', r = .str (S (esc_attribcL l)) t') := by
  refine does_of ?_
  unfold Does0
  k_fill
  intro dp un gd cn cs a ccd cl outer A₀ base h₀ L m g s Q E hs B F X T hk hp ht hd hu hret
  refine wpAny_call ?_
  refine' my_def (binds := [(Str.ofString "text", .str (S l) t)]) hs B F X T ?kA ?kF ?kK ?k6 ?k7 ?k8 ?k9 ?kB ?_ ?c2 ?c3 ?c4 ?c5; (case kA => exact rfl); (case kF => exact rfl); (case kK => exact hk); (case k6 => k_is); (case k7 => k_is); (case k8 => ktr_room); (case k9 => exact BindsTo.of_eq rfl); (case kB => exact locs rfl); (case c2 => exact rfl); (case c3 => exact rfl); (case c4 => exact rfl); (case c5 => decide)
  intro L' h' F' N' B' X' T'
  refine wpAny_execs_cons (wpAny_Try_except ?_)
  have ht : 1 ≤ s.toks + 1 := Nat.le_succ_of_le ht
  have hl1 : (rep1 38 [38, 97, 109, 112, 59] l).length ≤ 96 := Nat.le_trans (rep1_length 38 [38, 97, 109, 112, 59] 6 (by decide) (by decide) _) (Nat.mul_le_mul_left 6 hl)
  refine wpAny_execs_cons (esc_if (c := 38) (r := [38, 97, 109, 112, 59]) (by decide +kernel) (by decide +kernel) F' N' rfl ht (Nat.le_trans hl (by decide)) (by decide) (by decide) rfl rfl ?_ rfl)
  clear F' N' ht
  intro h' t' tk' ht F' N'
  dsimp only
  have hl2 : (rep1 60 [38, 108, 116, 59] (rep1 38 [38, 97, 109, 112, 59] l)).length ≤ 576 := Nat.le_trans (rep1_length 60 [38, 108, 116, 59] 6 (by decide) (by decide) _) (Nat.mul_le_mul_left 6 hl1)
  refine wpAny_execs_cons (esc_if (c := 60) (r := [38, 108, 116, 59]) (by decide +kernel) (by decide +kernel) F' N' rfl ht (Nat.le_trans hl1 (by decide)) (by decide) (by decide) rfl rfl ?_ rfl)
  clear F' N' ht
  intro h' t' tk' ht F' N'
  dsimp only
  have hl3 : (rep1 34 [38, 113, 117, 111, 116, 59] (rep1 60 [38, 108, 116, 59] (rep1 38 [38, 97, 109, 112, 59] l))).length ≤ 3456 := Nat.le_trans (rep1_length 34 [38, 113, 117, 111, 116, 59] 6 (by decide) (by decide) _) (Nat.mul_le_mul_left 6 hl2)
  refine wpAny_execs_cons (esc_if (c := 34) (r := [38, 113, 117, 111, 116, 59]) (by decide +kernel) (by decide +kernel) F' N' rfl ht (Nat.le_trans hl2 (by decide)) (by decide) (by decide) rfl rfl ?_ rfl)
  clear F' N' ht
  intro h' t' tk' ht F' N'
  dsimp only
  have hl4 : (rep1 9 [38, 35, 120, 57, 59] (rep1 34 [38, 113, 117, 111, 116, 59] (rep1 60 [38, 108, 116, 59] (rep1 38 [38, 97, 109, 112, 59] l)))).length ≤ 20736 := Nat.le_trans (rep1_length 9 [38, 35, 120, 57, 59] 6 (by decide) (by decide) _) (Nat.mul_le_mul_left 6 hl3)
  refine wpAny_execs_cons (esc_if (c := 9) (r := [38, 35, 120, 57, 59]) (by decide +kernel) (by decide +kernel) F' N' rfl ht (Nat.le_trans hl3 (by decide)) (by decide) (by decide) rfl rfl ?_ rfl)
  clear F' N' ht
  intro h' t' tk' ht F' N'
  dsimp only
  have hl5 : (rep1 10 [38, 35, 120, 65, 59] (rep1 9 [38, 35, 120, 57, 59] (rep1 34 [38, 113, 117, 111, 116, 59] (rep1 60 [38, 108, 116, 59] (rep1 38 [38, 97, 109, 112, 59] l))))).length ≤ 124416 := Nat.le_trans (rep1_length 10 [38, 35, 120, 65, 59] 6 (by decide) (by decide) _) (Nat.mul_le_mul_left 6 hl4)
  refine wpAny_execs_cons (esc_if (c := 10) (r := [38, 35, 120, 65, 59]) (by decide +kernel) (by decide +kernel) F' N' rfl ht (Nat.le_trans hl4 (by decide)) (by decide) (by decide) rfl rfl ?_ rfl)
  clear F' N' ht
  intro h' t' tk' ht F' N'
  dsimp only
  have hl6 : (rep1 13 [38, 35, 120, 68, 59] (rep1 10 [38, 35, 120, 65, 59] (rep1 9 [38, 35, 120, 57, 59] (rep1 34 [38, 113, 117, 111, 116, 59] (rep1 60 [38, 108, 116, 59] (rep1 38 [38, 97, 109, 112, 59] l)))))).length ≤ 746496 := Nat.le_trans (rep1_length 13 [38, 35, 120, 68, 59] 6 (by decide) (by decide) _) (Nat.mul_le_mul_left 6 hl5)
  refine wpAny_execs_cons (esc_if (c := 13) (r := [38, 35, 120, 68, 59]) (by decide +kernel) (by decide +kernel) F' N' rfl ht (Nat.le_trans hl5 (by decide)) (by decide) (by decide) rfl rfl ?_ rfl)
  clear F' N' ht
  intro h' t' tk' ht F' N'
  dsimp only
  k_steps
  exact hret _ _ _ F'.keep ⟨_, rfl⟩

end
end Mine
set_option maxHeartbeats 4000000
namespace Mine
section
variable {w : World} {p : Program} {loose : List Str} {mean : ExcName → Option Value} {mg mb : Str → Option Value}
/-- the escape by its kind -/
noncomputable def escL : Nat → List Nat → List Nat
  | 0 => esc_cdataL
  | 1 => esc_attribL
  | 2 => esc_htmlL
  | 3 => esc_cdatacL
  | _ => esc_attribcL
local macro_rules | `(tactic| walk_at "execs cons") => `(tactic| (k_here; (refine wpAny_execs_cons ?_); try dsimp only))
local macro_rules | `(tactic| walk_at "execs nil") => `(tactic| (k_here; (refine wpAny_execs_nil ?_); try dsimp only))
local macro_rules | `(tactic| walk_at "exec If") => `(tactic| (k_here; refine wpAny_If ?_))
local macro_rules | `(tactic| walk_at "call ref") => `(tactic| (k_here; k_dflt ((first
  | refine' Does.use (does_cdata _ _ ?hl) ?B ?F ?N ?X ?T ?hk ?hp ?ht ?hd ?hu ?_
  | refine' Does.use (does_attrib _ _ ?hl) ?B ?F ?N ?X ?T ?hk ?hp ?ht ?hd ?hu ?_
  | refine' Does.use (does_html _ _ ?hl) ?B ?F ?N ?X ?T ?hk ?hp ?ht ?hd ?hu ?_
  | refine' Does.use (does_cdatac _ _ ?hl) ?B ?F ?N ?X ?T ?hk ?hp ?ht ?hd ?hu ?_
  | refine' Does.use (does_attribc _ _ ?hl) ?B ?F ?N ?X ?T ?hk ?hp ?ht ?hd ?hu ?_); (case hl => assumption); (case B => k_asm); (case F => k_asm); (case N => k_asm); (case X => k_asm); (case T => k_asm); (case hk => exact rfl); (case hp => trivial); (case ht => (dsimp only; omega)); (case hd => ktr_room); (case hu => ktr_units); intro r9 h9 tk9 kp9 tl9 tg9 F9 N9 po9; obtain ⟨tt9, ee9⟩ := po9; subst ee9; (try dsimp only); (try k_fold))))
theorem does_writing0 (l : List Nat) (tk t : Tok) (hl : l.length ≤ 16) : Does w p loose mean mg mb 4 132 [.int 0 tk, .str (S l) t] (fun _ => True) (fun r _ _ => ∃ t', r = .str (S (escL 0 l)) t') := by
  refine does_of ?_
  unfold Does0
  k_fill
  intro dp un gd cn cs a ccd cl outer A₀ base h₀ L m g s Q E hs B F X T hk hp ht hd hu hret
  refine wpAny_call ?_
  refine' my_def (binds := [(Str.ofString "kind", .int 0 tk), (Str.ofString "text", .str (S l) t)]) hs B F X T ?kA ?kF ?kK ?k6 ?k7 ?k8 ?k9 ?kB ?_ ?c2 ?c3 ?c4 ?c5; (case kA => exact rfl); (case kF => exact rfl); (case kK => exact hk); (case k6 => k_is); (case k7 => k_is); (case k8 => ktr_room); (case k9 => exact BindsTo.of_eq rfl); (case kB => exact locs rfl); (case c2 => exact rfl); (case c3 => exact rfl); (case c4 => exact rfl); (case c5 => decide)
  intro L' h' F' N' B' X' T'
  (try dsimp only)
  k_steps
  all_goals exact hret _ _ _ (Fr.keep (by assumption)) ⟨_, rfl⟩
theorem does_writing1 (l : List Nat) (tk t : Tok) (hl : l.length ≤ 16) : Does w p loose mean mg mb 4 132 [.int 1 tk, .str (S l) t] (fun _ => True) (fun r _ _ => ∃ t', r = .str (S (escL 1 l)) t') := by
  refine does_of ?_
  unfold Does0
  k_fill
  intro dp un gd cn cs a ccd cl outer A₀ base h₀ L m g s Q E hs B F X T hk hp ht hd hu hret
  refine wpAny_call ?_
  refine' my_def (binds := [(Str.ofString "kind", .int 1 tk), (Str.ofString "text", .str (S l) t)]) hs B F X T ?kA ?kF ?kK ?k6 ?k7 ?k8 ?k9 ?kB ?_ ?c2 ?c3 ?c4 ?c5; (case kA => exact rfl); (case kF => exact rfl); (case kK => exact hk); (case k6 => k_is); (case k7 => k_is); (case k8 => ktr_room); (case k9 => exact BindsTo.of_eq rfl); (case kB => exact locs rfl); (case c2 => exact rfl); (case c3 => exact rfl); (case c4 => exact rfl); (case c5 => decide)
  intro L' h' F' N' B' X' T'
  (try dsimp only)
  k_steps
  all_goals exact hret _ _ _ (Fr.keep (by assumption)) ⟨_, rfl⟩
theorem does_writing2 (l : List Nat) (tk t : Tok) (hl : l.length ≤ 16) : Does w p loose mean mg mb 4 132 [.int 2 tk, .str (S l) t] (fun _ => True) (fun r _ _ => ∃ t', r = .str (S (escL 2 l)) t') := by
  refine does_of ?_
  unfold Does0
  k_fill
  intro dp un gd cn cs a ccd cl outer A₀ base h₀ L m g s Q E hs B F X T hk hp ht hd hu hret
  refine wpAny_call ?_
  refine' my_def (binds := [(Str.ofString "kind", .int 2 tk), (Str.ofString "text", .str (S l) t)]) hs B F X T ?kA ?kF ?kK ?k6 ?k7 ?k8 ?k9 ?kB ?_ ?c2 ?c3 ?c4 ?c5; (case kA => exact rfl); (case kF => exact rfl); (case kK => exact hk); (case k6 => k_is); (case k7 => k_is); (case k8 => ktr_room); (case k9 => exact BindsTo.of_eq rfl); (case kB => exact locs rfl); (case c2 => exact rfl); (case c3 => exact rfl); (case c4 => exact rfl); (case c5 => decide)
  intro L' h' F' N' B' X' T'
  (try dsimp only)
  k_steps
  all_goals exact hret _ _ _ (Fr.keep (by assumption)) ⟨_, rfl⟩
theorem does_writing3 (l : List Nat) (tk t : Tok) (hl : l.length ≤ 16) : Does w p loose mean mg mb 4 132 [.int 3 tk, .str (S l) t] (fun _ => True) (fun r _ _ => ∃ t', r = .str (S (escL 3 l)) t') := by
  refine does_of ?_
  unfold Does0
  k_fill
  intro dp un gd cn cs a ccd cl outer A₀ base h₀ L m g s Q E hs B F X T hk hp ht hd hu hret
  refine wpAny_call ?_
  refine' my_def (binds := [(Str.ofString "kind", .int 3 tk), (Str.ofString "text", .str (S l) t)]) hs B F X T ?kA ?kF ?kK ?k6 ?k7 ?k8 ?k9 ?kB ?_ ?c2 ?c3 ?c4 ?c5; (case kA => exact rfl); (case kF => exact rfl); (case kK => exact hk); (case k6 => k_is); (case k7 => k_is); (case k8 => ktr_room); (case k9 => exact BindsTo.of_eq rfl); (case kB => exact locs rfl); (case c2 => exact rfl); (case c3 => exact rfl); (case c4 => exact rfl); (case c5 => decide)
  intro L' h' F' N' B' X' T'
  (try dsimp only)
  k_steps
  all_goals exact hret _ _ _ (Fr.keep (by assumption)) ⟨_, rfl⟩
theorem does_writing4 (l : List Nat) (tk t : Tok) (hl : l.length ≤ 16) : Does w p loose mean mg mb 4 132 [.int 4 tk, .str (S l) t] (fun _ => True) (fun r _ _ => ∃ t', r = .str (S (escL 4 l)) t') := by
  refine does_of ?_
  unfold Does0
  k_fill
  intro dp un gd cn cs a ccd cl outer A₀ base h₀ L m g s Q E hs B F X T hk hp ht hd hu hret
  refine wpAny_call ?_
  refine' my_def (binds := [(Str.ofString "kind", .int 4 tk), (Str.ofString "text", .str (S l) t)]) hs B F X T ?kA ?kF ?kK ?k6 ?k7 ?k8 ?k9 ?kB ?_ ?c2 ?c3 ?c4 ?c5; (case kA => exact rfl); (case kF => exact rfl); (case kK => exact hk); (case k6 => k_is); (case k7 => k_is); (case k8 => ktr_room); (case k9 => exact BindsTo.of_eq rfl); (case kB => exact locs rfl); (case c2 => exact rfl); (case c3 => exact rfl); (case c4 => exact rfl); (case c5 => decide)
  intro L' h' F' N' B' X' T'
  (try dsimp only)
  k_steps
  all_goals exact hret _ _ _ (Fr.keep (by assumption)) ⟨_, rfl⟩
theorem does_writing (k : Nat) (hk5 : k < 5) (l : List Nat) (tk t : Tok) (hl : l.length ≤ 16) : Does w p loose mean mg mb 4 132 [.int (k : Int) tk, .str (S l) t] (fun _ => True) (fun r _ _ => ∃ t', r = .str (S (escL k l)) t') := by
  have h5 : k = 0 ∨ k = 1 ∨ k = 2 ∨ k = 3 ∨ k = 4 := by omega
  rcases h5 with rfl | rfl | rfl | rfl | rfl
  · exact does_writing0 l tk t hl
  · exact does_writing1 l tk t hl
  · exact does_writing2 l tk t hl
  · exact does_writing3 l tk t hl
  · exact does_writing4 l tk t hl
end
end Mine
set_option maxHeartbeats 4000000
namespace Mine

/-- an entry whose key is a written text -/
noncomputable abbrev ent (w : World) (x : Str) (t : Tok) (v : Value) : DictEntry := ⟨hashStr w x, .str x t, v⟩
noncomputable def StrEnts (w : World) (es : List DictEntry) : Prop := ∀ e ∈ es, ∃ x t, e.key = .str x t ∧ e.hash = hashStr w x

section
variable {prog : Program} {w : World} {A : Around} {E : Value → Shared → Prop} {s : Shared} {d : Addr} {es : List DictEntry} {n : Nat} {x : Str} {t : Tok} {v : Value}

theorem StrEnts.keysOf (h : StrEnts w es) : KeysOf (PySem.strKind prog w) es.toArray := fun e he => by
  obtain ⟨x, t, h1, h2⟩ := h e (by simpa using he)
  exact ⟨x, by rw [h1]; exact strKind_is prog w x t, h2⟩
theorem dict_typeIs (ho : s.heap.get? d = some (dictOf es n)) : s.TypeIs (.ref d) "dict" := ⟨_, ho, rfl⟩
theorem isStrOf_eq (x : Str) (v : Value) : Value.isStrOf x v = v.isStr x := by cases v <;> rfl
theorem ent_mapOf (ho : s.heap.get? d = some (dictOf es n)) (hk : StrEnts w es) : s.heap.MapOf (PySem.strKind prog w) d (fun k => findBy Value.isStrOf es.toArray k) :=
  ⟨_, es.toArray, n, ho, ⟨rfl, rfl, rfl⟩, rfl, hk.keysOf, fun _ => rfl⟩

theorem dictSet_new {Q : Unit → Shared → Prop} (ho : s.heap.get? d = some (dictOf es n)) (hk : StrEnts w es) (hnew : es.any (fun e => e.key.isStr x) = false) (hsz : es.length ≤ 100)
    (hQ : ∀ h', h'.get? d = some (dictOf (es ++ [ent w x t v]) (n + 1)) → Heap.SameBut d s.heap h' → Q () { s with heap := h', toks := s.toks + 1 }) :
    wpAny (model prog w) A (dictSet d (.str x t) v) Q E s := by
  have hkey : (PySem.strKind prog w).is x (.str x t) = true := strKind_is prog w x t
  unfold dictSet
  refine wpAny_holding ?_
  refine wpAny_bind ((PySem.strKind prog w).pyHash hkey ?_)
  unfold dictSetHashed
  refine wpAny_holding ?_
  refine wpAny_bind (wpAny_dictFind_of (s := { s with toks := s.toks + 1 }) hkey ho rfl (hk.keysOf (prog := prog)) ?_)
  have hi : (es.toArray.findIdx? fun e => (PySem.strKind prog w).is x e.key) = none := by
    rw [List.findIdx?_toArray, List.findIdx?_eq_none_iff]
    intro e he
    show Value.isStrOf x e.key = false
    rw [isStrOf_eq]
    simpa using (List.any_eq_false.mp hnew) e he
  rw [hi]
  have e3 : (es.toArray.push (ent w x t v)) = (es ++ [ent w x t v]).toArray := by simp
  refine wpAny_bind (wpAny_rule (wpAny_updateDictKeys (s := { s with toks := s.toks + 1 }) (o := dictOf es n) (es := es.toArray) (ep := n) (hz := by simp; rw [sizeLine_eq]; omega) ho rfl (hQ _ ?_ (Heap.SameBut.update ..))))
  refine (Heap.get?_update_self _ ho (Obj.isFreed_of_dict (Obj.data_mapDictKeys rfl _))).trans ?_
  exact congrArg some (congrArg (fun a => ({ cls := .type "dict", data := .dict a (n + 1) } : Obj)) e3)

theorem setItem_new {Q : Unit → Shared → Prop} (ho : s.heap.get? d = some (dictOf es n)) (hk : StrEnts w es) (hnew : es.any (fun e => e.key.isStr x) = false) (hsz : es.length ≤ 100)
    (hQ : ∀ h', h'.get? d = some (dictOf (es ++ [ent w x t v]) (n + 1)) → Heap.SameBut d s.heap h' → Q () { s with heap := h', toks := s.toks + 1 }) :
    wpAny (model prog w) A (setItem (.ref d) (.str x t) v) Q E s := by
  have hT := dict_typeIs ho
  unfold setItem
  refine wpAny_holding ?_
  refine wpAny_bind (wpAny_sequenceKey hT (by decide) ?_)
  refine wpAny_bind (wpAny_callSpecial?_slot (name := Str.ofString "__setitem__") hT slot_dict_setitem
    (wpAny_call_entry slot_dict_setitem hT entry_dict_setitem ?_ (args_dict_setitem _ _ _)))
  show wpAny _ _ (Builtin.Dict.notOrdered "__setitem__" ⟨[.ref d, .str x t, v], []⟩ >>= _) _ _ s
  refine wpAny_bind (wpAny_notOrdered_dict hT ?_)
  show wpAny _ _ (dictSet d (.str x t) v >>= _) _ _ s
  exact wpAny_bind (dictSet_new ho hk hnew hsz fun h' hm' hs' => wpAny_pure ⟨.none, rfl, wpAny_pure (hQ h' hm' hs')⟩)

/-- «{'x': 'y'}» -/
theorem dict_one {y : Str} {k1 k2 : Nat} {p1 p2 p3 : Pos} {env : Env} {Q : Value → Shared → Prop}
    (hQ : ∀ h', h'.get? s.heap.objs.size = some (dictOf [ent w x s.toks (.str y (s.toks + 1))] 1) → Heap.SameBut s.heap.objs.size (s.heap.push (dictOf [] 0)) h' → Q (.ref s.heap.objs.size) { s with heap := h', toks := s.toks + 1 + 1 + 1 }) :
    wpAny (model prog w) A (eval (.Dict [some (.Constant (.str x) k1 p1)] [.Constant (.str y) k2 p2] p3) env) Q E s := by
  rw [arm_eval_Dict]
  have hshape : (evalEachOpt [some (Expr.Constant (.str x) k1 p1)] env).zip ((evalEach [Expr.Constant (.str y) k2 p2] env).map fun v => do let x ← v; standAt p3; pure x)
      = [((eval (Expr.Constant (.str x) k1 p1) env, do let x ← eval (Expr.Constant (.str y) k2 p2) env; standAt p3; pure x) : Sem Value × Sem Value)].map fun p => (some p.1, p.2) := rfl
  rw [hshape, dictDisplay_pairs _ (by simp) (by simp)]
  refine wpAny_bind (wpAny_standAt (wpAny_bind ?_))
  unfold subDict
  refine wpAny_bind (wpAny_alloc ?_)
  refine wpAny_bind (wpAny_holding ?_)
  rw [if_pos (by simp)]
  refine wpAny_bind (evalPairs_cons (Calls.Constant_str (wpAny_bind (Calls.Constant_str (wpAny_bind (wpAny_standAt (wpAny_pure (evalPairs_nil ?_))))))))
  refine wpAny_holding ?_
  rw [List.forIn_cons]
  refine wpAny_bind (wpAny_bind (wpAny_bind (dictSet_new (es := []) (n := 0) (Heap.get?_push_size _ rfl) (fun _ h => nomatch h) rfl (by simp) fun h' hm' hs' => ?_)))
  refine wpAny_pure ?_
  show wpAny _ _ (forIn [] _ _) _ _ _
  rw [List.forIn_nil]
  exact wpAny_pure (wpAny_pure (wpAny_pure (wpAny_pure (hQ h' hm' hs'))))

/-- the walk over a dict's keys, as they are -/
noncomputable def KeyIt (h : Heap) (it d : Addr) (i : Nat) (es : List DictEntry) (n : Nat) : Prop :=
  h.IsKeyIter it d i es.length n ∧ h.get? d = some (dictOf es n)

theorem keyNext {it : Addr} {i : Nat} {Q : Option Value → Shared → Prop} (st : KeyIt s.heap it d i es n) (hne : d ≠ it) (hi : i < es.length)
    (hQ : ∀ h', KeyIt h' it d (i + 1) es n → Heap.SameBut it s.heap h' → Q (some es[i].key) { s with heap := h' }) :
    wpAny (model prog w) A (pyNext (.ref it)) Q E s := by
  obtain ⟨hit, hod⟩ := st
  obtain ⟨o, ho, hc, hd⟩ := id hit
  unfold pyNext
  refine wpAny_bind (wpAny_attempt (wpAny_callSpecial?_slot (name := Str.ofString "__next__") hit.typeIs F.slot_dict_keyiterator_next
    (wpAny_call_entry F.slot_dict_keyiterator_next hit.typeIs F.entry_dict_keyiterator_next ?_ (F.args_dict_keyiterator_next_1 _))))
  refine wpAny_bind (wpAny_pure ?_)
  refine wpAny_bind ?_
  refine wpAny_bind ?_
  first | refine wpAny_bind (wpAny_typeNameOfWhole_keyiter hit.typeIs (wpAny_pure ?_)) | refine wpAny_bind (wpAny_typeNameOf_keyiter hit.typeIs (wpAny_pure ?_))
  refine wpAny_bind (wpAny_fieldsOf ho hd ?_)
  have hown : Builtin.Dict_items.ownsTuple "dict_keyiterator" = false := by decide
  simp only [hown, Bool.false_eq_true, if_false]
  show wpAny _ _ (if (Value.ref d == Value.none) = true then _ else _) _ _ s
  rw [if_neg (show ¬ ((Value.ref d == Value.none) = true) from Bool.false_ne_true)]
  refine wpAny_bind (wpAny_pure ?_)
  refine wpAny_bind (wpAny_dictEntries hod rfl ?_)
  have hsz : es.toArray.size = es.length := by simp
  rw [if_neg (by rw [hsz]; simp)]
  refine wpAny_bind (wpAny_pure ?_)
  refine wpAny_bind (wpAny_dictEpoch hod rfl ?_)
  rw [if_neg (by simp)]
  refine wpAny_pure ?_
  have hlt' : i < es.toArray.size := by rw [hsz]; exact hi
  have hget : es.toArray[i] = es[i] := by simp
  simp only [show ¬ ((i : Int) < 0) from by omega, if_false, Int.toNat_natCast, Array.getElem?_eq_getElem hlt']
  refine wpAny_bind ?_
  first | refine wpAny_bind (wpAny_typeNameOfWhole_keyiter hit.typeIs (wpAny_pure ?_)) | refine wpAny_bind (wpAny_typeNameOf_keyiter hit.typeIs (wpAny_pure ?_))
  refine wpAny_bind (wpAny_isOneOf_keyiter hit.typeIs ?_)
  show wpAny _ _ (setField (.ref it) 1 (rawInt ((i : Int) + 1)) >>= _) _ _ s
  refine wpAny_bind (wpAny_setField ho hd (by simp) ?_)
  have hit' : (s.heap.update it (Obj.mapFields (·.setIfInBounds 1 (rawInt ((i : Int) + 1))))).IsKeyIter it d (i + 1) es.length n :=
    ⟨_, Heap.get?_update_self _ ho (Obj.isFreed_of_fields (Obj.data_mapFields hd _)), (Obj.cls_mapFields ..).trans hc, by rw [Obj.data_mapFields hd]; simp [rawInt]⟩
  refine wpAny_bind (wpAny_holding ?_)
  refine wpAny_bind (wpAny_isOneOf_keyiter (s := { s with heap := s.heap.update it (Obj.mapFields (·.setIfInBounds 1 (rawInt ((i : Int) + 1)))) }) hit'.typeIs ?_)
  show wpAny _ _ (pure es.toArray[i].key) _ _ _
  rw [hget]
  have hs : Heap.SameBut it s.heap (s.heap.update it (Obj.mapFields (·.setIfInBounds 1 (rawInt ((i : Int) + 1))))) := Heap.SameBut.update ..
  exact wpAny_pure (wpAny_pure ⟨_, rfl, wpAny_pure (hQ _ ⟨hit', (hs.2 d hne).trans hod⟩ hs)⟩)

theorem ents_at (hd : s.heap.get? d = some (dictOf es n)) (hk : StrEnts w es) (hnd : (es.map (fun e => e.key)).Pairwise (fun a b => ∀ x, ¬ (a.isStr x = true ∧ b.isStr x = true))) :
    s.heap.DictAt (PySem.strKind prog w) d (es.map fun e => ((match e.key with | .str x _ => x | _ => Str.empty), e.val)) n := by
  refine ⟨_, es.toArray, hd, ⟨rfl, rfl, rfl⟩, rfl, hk.keysOf, ?_, ?_⟩
  · show Pairs _ es.toArray.toList _
    rw [List.toList_toArray]
    clear hd hnd
    induction es with
    | nil => exact Pairs.nil
    | cons e r ih =>
      obtain ⟨x, t, h1, h2⟩ := hk e (.head _)
      refine Pairs.cons ?_ rfl (ih fun e' he' => hk e' (.tail _ he'))
      dsimp only
      rw [h1]; exact strKind_is prog w x t
  · clear hd
    induction es with
    | nil => exact List.Pairwise.nil
    | cons e r ih =>
      obtain ⟨x, t, h1, h2⟩ := hk e (.head _)
      rw [List.map_cons, List.pairwise_cons] at hnd
      refine List.Pairwise.cons ?_ (ih (fun e' he' => hk e' (.tail _ he')) hnd.2)
      intro y hy
      obtain ⟨p, hp, rfl⟩ := List.mem_map.mp hy
      obtain ⟨e', he', rfl⟩ := List.mem_map.mp hp
      obtain ⟨x', t', h1', _⟩ := hk e' (.tail _ he')
      have hq := hnd.1 e'.key (List.mem_map.mpr ⟨e', he', rfl⟩) x
      dsimp only
      rw [h1, h1'] at hq ⊢
      intro hxx
      dsimp only at hxx
      subst hxx
      exact hq ⟨by simp [Value.isStr], by simp [Value.isStr]⟩

theorem keyWalks (hh : A.handled = none) (I d : Addr) (hne : d ≠ I) (es : List DictEntry) (hk : StrEnts w es) (hnd : (es.map (fun e => e.key)).Pairwise (fun a b => ∀ x, ¬ (a.isStr x = true ∧ b.isStr x = true))) (n : Nat) :
    Walks prog w A I [I, d] [I] es.length (fun i v => ∃ e, es[i]? = some e ∧ v = e.key) (fun i h => KeyIt h I d i es n) where
  sub := fun b hb => by simp at hb; simp [hb]
  frame := fun _ _ _ st hk => ⟨st.1.at fun o e => hk I (by simp) o e, hk d (by simp) _ st.2⟩
  item := fun i s Q E hi st hQ => keyNext st hne hi fun h' st' hs' => hQ _ h' s.toks ⟨es[i], by simp [hi], rfl⟩ st' fun b o hb e => hs'.extBut b o (fun h => hb (by simp [h])) e
  done := fun s Q E st hQ => by
    have hp := ents_at (prog := prog) (s := s) st.2 hk hnd
    have hl : (es.map fun e => ((match e.key with | .str x _ => x | _ => Str.empty), e.val)).length = es.length := by simp
    have hit : s.heap.IsKeyIter I d es.length (es.map fun e => ((match e.key with | .str x _ => x | _ => Str.empty), e.val)).length n := hl.symm ▸ st.1
    exact wpAny_pyNext_dict_end hh hit hp (by simp [hl]) fun h' he' => hQ h' s.toks fun b o hb e => he' b o (fun h => hb (by simp [h])) e
  self := fun _ _ _ _ st hQ => wpAny_pyIter_keyiter st.1 hQ
end
end Mine
set_option maxHeartbeats 4000000
namespace Mine
noncomputable abbrev Led' := List (Addr × Obj)
noncomputable abbrev NoE : Value → Shared → Prop := fun _ _ => False

section
variable {prog : Program} {w : World} {A : Around} {s : Shared} {env : Env} {h₀ : Heap} {L : Addr}

/-- how a turn ends -/
noncomputable def TurnEnd (h₀ : Heap) (L : Addr) (s : Shared) (own : Led') (J : (Str → Option Value) → Led' → Prop) (I : Addr) (R : Result → Shared → Prop) (f : Flow) (s₃ : Shared) : Prop :=
  match f with
  | .ret v => R (.ok (.ret v)) s₃
  | .brk => R (.ok .next) s₃
  | _ => ∃ h' tk' m' news', s₃ = { s with heap := h', toks := tk' } ∧ 1 ≤ tk' ∧ Fr h₀ L h' m' ∧ News h₀ L h' (own ++ news') ∧ (∀ p ∈ news', p.1 ≠ I) ∧ J m' news'

theorem TurnEnd.go {own : Led'} {J : (Str → Option Value) → Led' → Prop} {I : Addr} {R : Result → Shared → Prop} {h' : Heap} {tk' : Nat} {m' : Str → Option Value} {news' : Led'}
    (ht : 1 ≤ tk') (F : Fr h₀ L h' m') (N : News h₀ L h' (own ++ news')) (hI : ∀ p ∈ news', p.1 ≠ I) (hj : J m' news') : TurnEnd h₀ L s own J I R .next { s with heap := h', toks := tk' } :=
  ⟨h', tk', m', news', rfl, ht, F, N, hI, hj⟩

theorem for_code {R : Result → Shared → Prop} {target : Expr} {body : List Stmt} {I : Addr} {fp : List Addr} {n : Nat} {P : Nat → Value → Prop} {St : Nat → Heap → Prop} {m : Str → Option Value} {imm news : Led'}
    (W : Walks prog w A I fp [I] n P St) (hIn : h₀.get? I = none) (hIL : I ≠ L) (hst : St 0 s.heap) (hSI : ∀ i h, St i h → ∃ o, h.get? I = some o)
    (hfp : ∀ b ∈ fp, b = I ∨ (∃ o, h₀.get? b = some o) ∨ ∃ o, (b, o) ∈ imm)
    (F : Fr h₀ L s.heap m) (N : News h₀ L s.heap (imm ++ news)) (him : ∀ p ∈ imm, p.1 ≠ I) (hnw : ∀ p ∈ news, p.1 ≠ I) (ht1 : 1 ≤ s.toks)
    (J : Nat → (Str → Option Value) → Led' → Prop) (h0 : J 0 m news)
    (turn : ∀ i v m₁ news₁ oI h tk, i < n → P i v → J i m₁ news₁ → 1 ≤ tk → (∀ p ∈ news₁, p.1 ≠ I) → Fr h₀ L h m₁ → News h₀ L h ((I, oI) :: (imm ++ news₁)) →
      wpAny (model prog w) A (assign target env v) (fun _ s₂ => wpAny (model prog w) A (execs body env) (TurnEnd h₀ L s ((I, oI) :: imm) (J (i + 1)) I R) NoE s₂) NoE { s with heap := h, toks := tk })
    (done : ∀ h' tk' m' news', 1 ≤ tk' → Fr h₀ L h' m' → News h₀ L h' (imm ++ news') → J n m' news' → R (.ok .next) { s with heap := h', toks := tk' })
    (ht : ∀ v, letOwnedTupleGo target (.ref I) v = pure () := by intro _; rfl) :
    codeAny (model prog w) A (.forLoop target (.ref I) body [] env) R s := by
  have up : ∀ (h' h₁ : Heap) (m' : Str → Option Value) (nx : Led'), (∀ p ∈ nx, p.1 ≠ I) → (∀ b o, b ∉ [I] → h'.get? b = some o → h₁.get? b = some o) → Fr h₀ L h' m' → News h₀ L h' nx → Fr h₀ L h₁ m' ∧ News h₀ L h₁ nx := fun h' h₁ m' nx hnx hk F' N' =>
    ⟨⟨F'.ns.at' fun o e => hk _ o (fun q => hIL (List.mem_singleton.mp q).symm) e, fun b o e => hk b o (fun q => by rw [List.mem_singleton.mp q, hIn] at e; cases e) (F'.keep b o e), F'.above⟩,
      fun p hp => ⟨hk _ _ (fun q => hnx p hp (List.mem_singleton.mp q)) (N' p hp).1, (N' p hp).2⟩⟩
  refine codeAny_forLoop (fun k s' => ∃ h' tk m' news' i, s' = { s with heap := h', toks := tk } ∧ 1 ≤ tk ∧ St i h' ∧ Fr h₀ L h' m' ∧ News h₀ L h' (imm ++ news') ∧ (∀ p ∈ news', p.1 ≠ I) ∧ J i m' news' ∧ i ≤ n ∧ k = n + 1 - i) ?_ (n + 1)
    ⟨s.heap, s.toks, m, news, 0, rfl, ht1, hst, F, N, hnw, h0, Nat.zero_le _, rfl⟩ ht
  rintro k s' ⟨h', tk, m', news', i, rfl, htk, hst', F', N', hnw', hJ, hi, rfl⟩
  have hall : ∀ p ∈ imm ++ news', p.1 ≠ I := fun p hp => (List.mem_append.mp hp).elim (him p) (hnw' p)
  by_cases hlt : i < n
  · refine wpAny_with_toks (n := 1) htk (W.item i _ _ _ hlt hst' fun v h₁ tk₁ hP hst₁ hk₁ htk₁ => ?_)
    obtain ⟨F₁, N₁⟩ := up _ _ _ _ hall hk₁ F' N'
    obtain ⟨oI, hoI⟩ := hSI _ _ hst₁
    have N₂ : News h₀ L h₁ ((I, oI) :: (imm ++ news')) := fun p hp => by
      rcases List.mem_cons.mp hp with rfl | hp
      · exact ⟨hoI, hIL, hIn⟩
      · exact N₁ p hp
    refine wpAny_mono (turn i v m' news' oI h₁ tk₁ hlt hP hJ htk₁ hnw' F₁ N₂) (fun _ s₂ h₂ => wpAny_mono h₂ (fun f s₃ h₃ => ?_) fun _ _ e => e.elim) fun _ _ e => e.elim
    have fin : (∃ h' tk' m' news', s₃ = { s with heap := h', toks := tk' } ∧ 1 ≤ tk' ∧ Fr h₀ L h' m' ∧ News h₀ L h' (((I, oI) :: imm) ++ news') ∧ (∀ p ∈ news', p.1 ≠ I) ∧ J (i + 1) m' news') →
        ∃ m_1, m_1 < n + 1 - i ∧ ∃ h' tk m' news' j, s₃ = { s with heap := h', toks := tk } ∧ 1 ≤ tk ∧ St j h' ∧ Fr h₀ L h' m' ∧ News h₀ L h' (imm ++ news') ∧ (∀ p ∈ news', p.1 ≠ I) ∧ J j m' news' ∧ j ≤ n ∧ m_1 = n + 1 - j := by
      rintro ⟨h₃', tk₃, m₃, news₃, rfl, htk₃, F₃, N₃, hn₃, hJ₃⟩
      refine ⟨n + 1 - (i + 1), by omega, h₃', tk₃, m₃, news₃, i + 1, rfl, htk₃, ?_, F₃, fun p hp => N₃ p (List.mem_cons_of_mem _ hp), hn₃, hJ₃, hlt, rfl⟩
      refine W.frame _ _ _ hst₁ fun b hb o e => ?_
      rcases hfp b hb with rfl | ⟨o', e'⟩ | ⟨o', e'⟩
      · rw [hoI] at e
        cases e
        exact (N₃ _ (List.mem_cons_self ..)).1
      · have := F₁.keep b o' e'
        rw [e] at this
        cases this
        exact F₃.keep b o e'
      · have := (N₁ _ (List.mem_append_left _ e')).1
        dsimp only at this
        rw [e] at this
        cases this
        exact (N₃ _ (List.mem_cons_of_mem _ (List.mem_append_left _ e'))).1
    cases f with
    | ret v => exact h₃
    | brk => exact h₃
    | next => exact fin h₃
    | cont => exact fin h₃
  · have hin : i = n := by omega
    subst hin
    refine wpAny_with_toks (n := 1) htk (W.done _ _ _ hst' fun h₁ tk₁ hk₁ htk₁ => wpAny_execs_nil ?_)
    obtain ⟨F₁, N₁⟩ := up _ _ _ _ hall hk₁ F' N'
    exact done h₁ tk₁ m' news' htk₁ F₁ N₁ hJ

variable {E : Value → Shared → Prop} {Q : Flow → Shared → Prop}
noncomputable abbrev AtFor (prog : Program) (w : World) (A : Around) (env : Env) (target : Expr) (body : List Stmt) (E : Value → Shared → Prop) (Q : Flow → Shared → Prop) (it : Value) (s₂ : Shared) : Prop :=
  codeAny (model prog w) A (.forLoop target it body [] env) (fun r s' => match r with | .ok f => Q f s' | .error e => cameBackBy (model prog w) A env E e s') s₂

theorem get_none_size {h : Heap} (a : Addr) (ha : h.objs.size ≤ a) : h.get? a = none := by
  cases e : h.get? a with
  | none => rfl
  | some o' => exact absurd (Heap.lt_size e) (Nat.not_lt.mpr ha)
theorem fr_lt {h : Heap} {m : Str → Option Value} (F : Fr h₀ L h m) : L < h.objs.size := F.ns.lt
theorem next_new {h : Heap} {m : Str → Option Value} (F : Fr h₀ L h m) : h₀.get? h.objs.size = none := get_none_size _ (Nat.le_trans F.above (Nat.le_of_lt (fr_lt F)))
theorem news_ne {h : Heap} {news : Led'} (N : News h₀ L h news) : ∀ p ∈ news, p.1 ≠ h.objs.size := fun p hp e => absurd (Heap.lt_size (N p hp).1) (by rw [e]; exact Nat.lt_irrefl _)

/-- the walk over a list of the ledger, or of the base -/
theorem for_list {target : Expr} {body : List Stmt} {l : Addr} {items : Array Value} {m : Str → Option Value} {imm news : Led'}
    (hh : A.handled = none) (hl : s.heap.IsList l items) (hli : (∃ o, h₀.get? l = some o) ∨ ∃ o, (l, o) ∈ imm)
    (F : Fr h₀ L s.heap m) (N : News h₀ L s.heap (imm ++ news)) (ht1 : 1 ≤ s.toks)
    (J : Nat → (Str → Option Value) → Led' → Prop) (h0 : J 0 m news)
    (turn : ∀ i v m₁ news₁ oI h tk, i < items.size → items[i]? = some v → J i m₁ news₁ → 1 ≤ tk → (∀ p ∈ news₁, p.1 ≠ s.heap.objs.size) → Fr h₀ L h m₁ → News h₀ L h ((s.heap.objs.size, oI) :: (imm ++ news₁)) →
      wpAny (model prog w) A (assign target env v) (fun _ s₂ => wpAny (model prog w) A (execs body env) (TurnEnd h₀ L s ((s.heap.objs.size, oI) :: imm) (J (i + 1)) s.heap.objs.size (fun r s' => match r with | .ok f => Q f s' | .error e => cameBackBy (model prog w) A env E e s')) NoE s₂) NoE { s with heap := h, toks := tk })
    (done : ∀ h' tk' m' news', 1 ≤ tk' → Fr h₀ L h' m' → News h₀ L h' (imm ++ news') → J items.size m' news' → Q .next { s with heap := h', toks := tk' })
    (ht : ∀ I v, letOwnedTupleGo target (.ref I) v = pure () := by intro _ _; rfl) :
    wpAny (model prog w) A (pyIter (.ref l)) (fun it s₂ => AtFor prog w A env target body E Q it s₂) E s := by
  have hne : l ≠ s.heap.objs.size := by
    obtain ⟨o, ho, _⟩ := hl
    exact Nat.ne_of_lt (Heap.lt_size ho)
  refine wpAny_pyIter_list hl ?_
  have W := Walks.list (prog := prog) (w := w) hh s.heap.objs.size l hne items
  refine for_code (s := { s with heap := _ }) (m := m) (imm := imm) (news := news) W (next_new F) (Nat.ne_of_gt (fr_lt F)) ⟨⟨_, Heap.get?_push_size _ rfl, rfl, rfl⟩, hl.at fun o e => Heap.get?_push_of_some _ e⟩
    (fun i h st => let ⟨o, ho, _⟩ := st.1; ⟨o, ho⟩) (fun b hb => ?_) (F.push _) (fun p hp => ⟨Heap.get?_push_of_some _ (N p hp).1, (N p hp).2⟩)
    (fun p hp => news_ne N p (List.mem_append_left _ hp)) (fun p hp => news_ne N p (List.mem_append_right _ hp)) ht1 J h0 turn done (ht _)
  rcases List.mem_cons.mp hb with e | hb
  · exact .inl e
  · rw [List.mem_singleton.mp hb]
    exact .inr hli

theorem for_str {target : Expr} {body : List Stmt} {x : Str} {t : Tok} {m : Str → Option Value} {news : Led'}
    (hh : A.handled = none)
    (F : Fr h₀ L s.heap m) (N : News h₀ L s.heap news) (ht1 : 1 ≤ s.toks)
    (J : Nat → (Str → Option Value) → Led' → Prop) (h0 : J 0 m news)
    (turn : ∀ i c u m₁ news₁ oI h tk, i < x.cps.size → x.cps[i]? = some c → J i m₁ news₁ → 1 ≤ tk → (∀ p ∈ news₁, p.1 ≠ s.heap.objs.size) → Fr h₀ L h m₁ → News h₀ L h ((s.heap.objs.size, oI) :: news₁) →
      wpAny (model prog w) A (assign target env (.str ⟨#[c]⟩ u)) (fun _ s₂ => wpAny (model prog w) A (execs body env) (TurnEnd h₀ L s [(s.heap.objs.size, oI)] (J (i + 1)) s.heap.objs.size (fun r s' => match r with | .ok f => Q f s' | .error e => cameBackBy (model prog w) A env E e s')) NoE s₂) NoE { s with heap := h, toks := tk })
    (done : ∀ h' tk' m' news', 1 ≤ tk' → Fr h₀ L h' m' → News h₀ L h' news' → J x.cps.size m' news' → Q .next { s with heap := h', toks := tk' })
    (ht : ∀ I v, letOwnedTupleGo target (.ref I) v = pure () := by intro _ _; rfl) :
    wpAny (model prog w) A (pyIter (.str x t)) (fun it s₂ => AtFor prog w A env target body E Q it s₂) E s := by
  have go : ∀ (o : Obj) (St : Nat → Heap → Prop), (∀ i h, St i h → ∃ o, h.get? s.heap.objs.size = some o) → Walks prog w A s.heap.objs.size [s.heap.objs.size] [s.heap.objs.size] x.cps.size (SignAt x) St → o.isFreed = false → St 0 (s.heap.push o) →
      AtFor prog w A env target body E Q (.ref s.heap.objs.size) { s with heap := s.heap.push o } := fun o St hSt W hof hst => by
    refine for_code (s := { s with heap := _ }) (m := m) (imm := []) (news := news) W (next_new F) (Nat.ne_of_gt (fr_lt F)) hst hSt (fun b hb => .inl (List.mem_singleton.mp hb)) (F.push _) (fun p hp => ⟨Heap.get?_push_of_some _ (N p hp).1, (N p hp).2⟩)
      (fun _ h => nomatch h) (fun p hp => news_ne N p hp) ht1 J h0 ?_ done (ht _)
    rintro i v m₁ news₁ oI h tk hi ⟨c, u, hc, rfl⟩ hJ htk hn F₁ N₁
    exact turn i c u m₁ news₁ oI h tk hi hc hJ htk hn F₁ N₁
  cases ha : x.cps.all (· < 128)
  · exact wpAny_pyIter_wide ha (go _ _ (fun i h st => let ⟨o, ho, _⟩ := st; ⟨o, ho⟩) (Walks.strWide hh _ x t) rfl ⟨_, Heap.get?_push_size _ rfl, rfl, rfl⟩)
  · exact wpAny_pyIter_ascii ha (go _ _ (fun i h st => let ⟨o, ho, _⟩ := st; ⟨o, ho⟩) (Walks.strAscii hh _ x t) rfl ⟨_, Heap.get?_push_size _ rfl, rfl, rfl⟩)

theorem for_keys {target : Expr} {body : List Stmt} {d : Addr} {es : List DictEntry} {ep : Nat} {m : Str → Option Value} {imm news : Led'}
    (hh : A.handled = none) (hd : s.heap.get? d = some (dictOf es ep)) (hds : (d == sysModules) = false) (hk : StrEnts w es) (hnd : (es.map (fun e => e.key)).Pairwise (fun a b => ∀ x, ¬ (a.isStr x = true ∧ b.isStr x = true)))
    (hli : (∃ o, h₀.get? d = some o) ∨ ∃ o, (d, o) ∈ imm)
    (F : Fr h₀ L s.heap m) (N : News h₀ L s.heap (imm ++ news)) (ht1 : 1 ≤ s.toks)
    (J : Nat → (Str → Option Value) → Led' → Prop) (h0 : J 0 m news)
    (turn : ∀ i e m₁ news₁ oI h tk, i < es.length → es[i]? = some e → J i m₁ news₁ → 1 ≤ tk → (∀ p ∈ news₁, p.1 ≠ s.heap.objs.size) → Fr h₀ L h m₁ → News h₀ L h ((s.heap.objs.size, oI) :: (imm ++ news₁)) →
      wpAny (model prog w) A (assign target env e.key) (fun _ s₂ => wpAny (model prog w) A (execs body env) (TurnEnd h₀ L s ((s.heap.objs.size, oI) :: imm) (J (i + 1)) s.heap.objs.size (fun r s' => match r with | .ok f => Q f s' | .error e => cameBackBy (model prog w) A env E e s')) NoE s₂) NoE { s with heap := h, toks := tk })
    (done : ∀ h' tk' m' news', 1 ≤ tk' → Fr h₀ L h' m' → News h₀ L h' (imm ++ news') → J es.length m' news' → Q .next { s with heap := h', toks := tk' })
    (ht : ∀ I v, letOwnedTupleGo target (.ref I) v = pure () := by intro _ _; rfl) :
    wpAny (model prog w) A (pyIter (.ref d)) (fun it s₂ => AtFor prog w A env target body E Q it s₂) E s := by
  have hne : d ≠ s.heap.objs.size := Nat.ne_of_lt (Heap.lt_size hd)
  have hat : s.heap.DictAt (PySem.strKind prog w) d (es.map fun e => ((match e.key with | .str x _ => x | _ => Str.empty), e.val)) ep := ents_at hd hk hnd
  refine wpAny_pyIter_dict hds hat ?_
  rw [List.length_map]
  have W := keyWalks (prog := prog) (w := w) hh s.heap.objs.size d hne es hk hnd ep
  refine for_code (s := { s with heap := _ }) (m := m) (imm := imm) (news := news) W (next_new F) (Nat.ne_of_gt (fr_lt F)) ⟨⟨_, Heap.get?_push_size _ rfl, rfl, rfl⟩, Heap.get?_push_of_some _ hd⟩
    (fun i h st => let ⟨o, ho, _⟩ := st.1; ⟨o, ho⟩) (fun b hb => ?_) (F.push _) (fun p hp => ⟨Heap.get?_push_of_some _ (N p hp).1, (N p hp).2⟩)
    (fun p hp => news_ne N p (List.mem_append_left _ hp)) (fun p hp => news_ne N p (List.mem_append_right _ hp)) ht1 J h0 ?_ done (ht _)
  · rcases List.mem_cons.mp hb with e | hb
    · exact .inl e
    · rw [List.mem_singleton.mp hb]
      exact .inr hli
  · rintro i v m₁ news₁ oI h tk hi ⟨e, he, rfl⟩ hJ htk hn F₁ N₁
    exact turn i e m₁ news₁ oI h tk hi he hJ htk hn F₁ N₁
end
end Mine
set_option maxHeartbeats 4000000
namespace Mine
section
variable {prog : Program} {w : World} {A : Around} {E : Value → Shared → Prop} {s : Shared} {h₀ : Heap} {L d : Addr} {m : Str → Option Value} {news : Led} {es : List DictEntry} {n : Nat} {x y : Str} {t : Tok} {v : Value}
theorem dict_oneK {k1 k2 : Nat} {p1 p2 p3 : Pos} {env : Env} {Q : Value → Shared → Prop} (F : Fr h₀ L s.heap m) (N : News h₀ L s.heap news) (hlim : h₀.NoLimit)
    (hQ : ∀ d h', Fr h₀ L h' m → News h₀ L h' ((d, dictOf [ent w x s.toks (.str y (s.toks + 1))] 1) :: news) → (∀ p ∈ news, p.1 < d) → (d == sysModules) = false → Q (.ref d) { s with heap := h', toks := s.toks + 1 + 1 + 1 }) :
    wpAny (model prog w) A (eval (.Dict [some (.Constant (.str x) k1 p1)] [.Constant (.str y) k2 p2] p3) env) Q E s := by
  refine dict_one fun h' ho hs => ?_
  have N1 := News.push F N (dictOf [] 0)
  have F1 := F.push (dictOf [] 0)
  have z := N1 _ (.head _)
  exact hQ _ h' (F1.change hs z.2.1 z.2.2) (news_set (pre := []) N1 (fun _ h => nomatch h) (fun p hp => Nat.ne_of_lt (Heap.lt_size (N p hp).1)) hs ho) (fun p hp => Heap.lt_size (N p hp).1) (F.notModules (modules_low hlim))
theorem setItem_newK {Q : Unit → Shared → Prop} {news' : Led} (F : Fr h₀ L s.heap m) (N : News h₀ L s.heap news) (U : Upd d (dictOf es n) (dictOf (es ++ [ent w x t v]) (n + 1)) news news') (hk : StrEnts w es) (hnew : es.any (fun e => e.key.isStr x) = false) (hsz : es.length ≤ 100)
    (hQ : ∀ h', Fr h₀ L h' m → News h₀ L h' news' → Q () { s with heap := h', toks := s.toks + 1 }) :
    wpAny (model prog w) A (setItem (.ref d) (.str x t) v) Q E s := by
  obtain ⟨pre, post, rfl, rfl, a, b⟩ := U.split
  have z := N (d, dictOf es n) (List.mem_append.mpr (.inr (.head _)))
  exact setItem_new z.1 hk hnew hsz fun h' ho hs => hQ h' (F.change hs z.2.1 z.2.2) (news_set N a b hs ho)
theorem news_fresh {h : Heap} {a : Addr} {o : Obj} (N : News h₀ L h news) (hm : (a, o) ∈ news) : h₀.get? a = none := (N _ hm).2.2
theorem strEnts_nil : StrEnts w [] := fun _ h => nomatch h
theorem strEnts_cons (h : StrEnts w es) : StrEnts w (ent w x t v :: es) := fun e he => by
  rcases List.mem_cons.mp he with rfl | he
  · exact ⟨x, t, rfl, rfl⟩
  · exact h e he
/-- the entries of a table of references -/
inductive TabOk (w : World) : List (Nat × List Nat) → List DictEntry → Prop where
  | nil : TabOk w [] []
  | cons {c : Nat} {r : List Nat} {t u : Tok} {tb : List (Nat × List Nat)} {es : List DictEntry} : t ≠ 0 → u ≠ 0 → u ≠ t → TabOk w tb es → TabOk w ((c, r) :: tb) (ent w (S [c]) t (.str (S r) u) :: es)
theorem TabOk.cons' {c : Nat} {r : List Nat} {u : Tok} {tb : List (Nat × List Nat)} (hx : x = S [c]) (hy : y = S r) (ht : t ≠ 0) (hu : u ≠ 0) (hut : u ≠ t) (h : TabOk w tb es) : TabOk w ((c, r) :: tb) (ent w x t (.str y u) :: es) := by
  subst hx hy
  exact .cons ht hu hut h
end
section
variable {w : World} {p : Program} {loose : List Str} {mean : ExcName → Option Value} {mg mb : Str → Option Value}
local macro_rules | `(tactic| walk_at "execs cons") => `(tactic| (k_here; (refine wpAny_execs_cons ?_); try dsimp only))
local macro_rules | `(tactic| walk_at "execs nil") => `(tactic| (k_here; (refine wpAny_execs_nil ?_); try dsimp only))
local macro_rules | `(tactic| walk_at "exec If") => `(tactic| (k_here; refine wpAny_If ?_))
local macro_rules | `(tactic| walk_at "eval Dict") => `(tactic| (k_here; k_dflt (refine' dict_oneK ?F ?N ?l ?_; (case F => k_asm); (case N => k_asm); (case l => exact Top.nolimit (by assumption)); k_whole; intro d9 h9 F9 N9 l9 lo9; (try k_lt l9); (try dsimp only))))
local macro_rules | `(tactic| walk_at "setItem ref str") => `(tactic| (k_here; k_dflt (refine' setItem_newK ?F ?N ?U ?hk ?hn ?hz ?_; (case F => k_asm); (case N => k_asm); (case U => k_upd); (case hk => repeat (first | exact strEnts_nil | refine strEnts_cons ?_)); (case hn => first | rfl | decide +kernel); (case hz => exact Nat.le_of_ble_eq_true rfl); k_whole; intro h9 F9 N9; (try dsimp only [List.cons_append, List.nil_append] at N9); (try k_sweep); (try dsimp only))))

/-- the told tables -/
noncomputable def tabL : Nat → List (Nat × List Nat)
  | 0 => [(38, [38, 97, 109, 112, 59]), (60, [38, 108, 116, 59]), (62, [38, 103, 116, 59])]
  | 1 => [(38, [38, 97, 109, 112, 59]), (60, [38, 108, 116, 59]), (62, [38, 103, 116, 59]), (34, [38, 113, 117, 111, 116, 59]), (13, [38, 35, 49, 51, 59]), (10, [38, 35, 49, 48, 59]), (9, [38, 35, 48, 57, 59])]
  | 2 => [(38, [38, 97, 109, 112, 59]), (62, [38, 103, 116, 59]), (34, [38, 113, 117, 111, 116, 59])]
  | 3 => [(38, [38, 97, 109, 112, 59]), (60, [38, 108, 116, 59]), (62, [38, 103, 116, 59]), (13, [38, 35, 120, 68, 59])]
  | _ => [(38, [38, 97, 109, 112, 59]), (60, [38, 108, 116, 59]), (34, [38, 113, 117, 111, 116, 59]), (13, [38, 35, 120, 68, 59]), (10, [38, 35, 120, 65, 59]), (9, [38, 35, 120, 57, 59])]
theorem does_table0 (tk : Tok) : Does w p loose mean mg mb 4 125 [.int 0 tk] (fun _ => True) (fun r g h' => ∃ d es n, r = .ref d ∧ h'.get? d = some (dictOf es n) ∧ g.get? d = none ∧ (d == sysModules) = false ∧ TabOk w (tabL 0) es) := by
  refine does_of ?_
  unfold Does0
  k_fill
  intro dp un gd cn cs a ccd cl outer A₀ base h₀ L m g s Q E hs B F X T hk hp ht hd hu hret
  refine wpAny_call ?_
  refine' my_def (binds := [(Str.ofString "kind", .int 0 tk)]) hs B F X T ?kA ?kF ?kK ?k6 ?k7 ?k8 ?k9 ?kB ?_ ?c2 ?c3 ?c4 ?c5; (case kA => exact rfl); (case kF => exact rfl); (case kK => exact hk); (case k6 => k_is); (case k7 => k_is); (case k8 => ktr_room); (case k9 => exact BindsTo.of_eq rfl); (case kB => exact locs rfl); (case c2 => exact rfl); (case c3 => exact rfl); (case c4 => exact rfl); (case c5 => decide)
  intro L' h' F' N' B' X' T'
  dsimp only [List.length]
  k_steps
  (try dsimp only)
  rename News _ _ _ _ => N9
  rename Fr _ _ _ _ => F9
  refine' hret _ _ _ F9.keep ⟨_, _, _, rfl, News.get N9 ?h1, news_fresh N9 ?h1, by assumption, ?_⟩; (case h1 => k_mem)
  (try dsimp only [List.cons_append, List.nil_append])
  (try dsimp only [tabL])
  repeat' (first | exact TabOk.nil | (refine' TabOk.cons' ?hx ?hy ?a ?b ?c ?_; (case hx => decide +kernel); (case hy => decide +kernel); (case a => ((show @Ne Nat _ _); omega)); (case b => ((show @Ne Nat _ _); omega)); (case c => ((show @Ne Nat _ _); omega))))
theorem does_table1 (tk : Tok) : Does w p loose mean mg mb 4 125 [.int 1 tk] (fun _ => True) (fun r g h' => ∃ d es n, r = .ref d ∧ h'.get? d = some (dictOf es n) ∧ g.get? d = none ∧ (d == sysModules) = false ∧ TabOk w (tabL 1) es) := by
  refine does_of ?_
  unfold Does0
  k_fill
  intro dp un gd cn cs a ccd cl outer A₀ base h₀ L m g s Q E hs B F X T hk hp ht hd hu hret
  refine wpAny_call ?_
  refine' my_def (binds := [(Str.ofString "kind", .int 1 tk)]) hs B F X T ?kA ?kF ?kK ?k6 ?k7 ?k8 ?k9 ?kB ?_ ?c2 ?c3 ?c4 ?c5; (case kA => exact rfl); (case kF => exact rfl); (case kK => exact hk); (case k6 => k_is); (case k7 => k_is); (case k8 => ktr_room); (case k9 => exact BindsTo.of_eq rfl); (case kB => exact locs rfl); (case c2 => exact rfl); (case c3 => exact rfl); (case c4 => exact rfl); (case c5 => decide)
  intro L' h' F' N' B' X' T'
  dsimp only [List.length]
  k_steps
  (try dsimp only)
  rename News _ _ _ _ => N9
  rename Fr _ _ _ _ => F9
  refine' hret _ _ _ F9.keep ⟨_, _, _, rfl, News.get N9 ?h1, news_fresh N9 ?h1, by assumption, ?_⟩; (case h1 => k_mem)
  (try dsimp only [List.cons_append, List.nil_append])
  (try dsimp only [tabL])
  repeat' (first | exact TabOk.nil | (refine' TabOk.cons' ?hx ?hy ?a ?b ?c ?_; (case hx => decide +kernel); (case hy => decide +kernel); (case a => ((show @Ne Nat _ _); omega)); (case b => ((show @Ne Nat _ _); omega)); (case c => ((show @Ne Nat _ _); omega))))
theorem does_table2 (tk : Tok) : Does w p loose mean mg mb 4 125 [.int 2 tk] (fun _ => True) (fun r g h' => ∃ d es n, r = .ref d ∧ h'.get? d = some (dictOf es n) ∧ g.get? d = none ∧ (d == sysModules) = false ∧ TabOk w (tabL 2) es) := by
  refine does_of ?_
  unfold Does0
  k_fill
  intro dp un gd cn cs a ccd cl outer A₀ base h₀ L m g s Q E hs B F X T hk hp ht hd hu hret
  refine wpAny_call ?_
  refine' my_def (binds := [(Str.ofString "kind", .int 2 tk)]) hs B F X T ?kA ?kF ?kK ?k6 ?k7 ?k8 ?k9 ?kB ?_ ?c2 ?c3 ?c4 ?c5; (case kA => exact rfl); (case kF => exact rfl); (case kK => exact hk); (case k6 => k_is); (case k7 => k_is); (case k8 => ktr_room); (case k9 => exact BindsTo.of_eq rfl); (case kB => exact locs rfl); (case c2 => exact rfl); (case c3 => exact rfl); (case c4 => exact rfl); (case c5 => decide)
  intro L' h' F' N' B' X' T'
  dsimp only [List.length]
  k_steps
  (try dsimp only)
  rename News _ _ _ _ => N9
  rename Fr _ _ _ _ => F9
  refine' hret _ _ _ F9.keep ⟨_, _, _, rfl, News.get N9 ?h1, news_fresh N9 ?h1, by assumption, ?_⟩; (case h1 => k_mem)
  (try dsimp only [List.cons_append, List.nil_append])
  (try dsimp only [tabL])
  repeat' (first | exact TabOk.nil | (refine' TabOk.cons' ?hx ?hy ?a ?b ?c ?_; (case hx => decide +kernel); (case hy => decide +kernel); (case a => ((show @Ne Nat _ _); omega)); (case b => ((show @Ne Nat _ _); omega)); (case c => ((show @Ne Nat _ _); omega))))
theorem does_table3 (tk : Tok) : Does w p loose mean mg mb 4 125 [.int 3 tk] (fun _ => True) (fun r g h' => ∃ d es n, r = .ref d ∧ h'.get? d = some (dictOf es n) ∧ g.get? d = none ∧ (d == sysModules) = false ∧ TabOk w (tabL 3) es) := by
  refine does_of ?_
  unfold Does0
  k_fill
  intro dp un gd cn cs a ccd cl outer A₀ base h₀ L m g s Q E hs B F X T hk hp ht hd hu hret
  refine wpAny_call ?_
  refine' my_def (binds := [(Str.ofString "kind", .int 3 tk)]) hs B F X T ?kA ?kF ?kK ?k6 ?k7 ?k8 ?k9 ?kB ?_ ?c2 ?c3 ?c4 ?c5; (case kA => exact rfl); (case kF => exact rfl); (case kK => exact hk); (case k6 => k_is); (case k7 => k_is); (case k8 => ktr_room); (case k9 => exact BindsTo.of_eq rfl); (case kB => exact locs rfl); (case c2 => exact rfl); (case c3 => exact rfl); (case c4 => exact rfl); (case c5 => decide)
  intro L' h' F' N' B' X' T'
  dsimp only [List.length]
  k_steps
  (try dsimp only)
  rename News _ _ _ _ => N9
  rename Fr _ _ _ _ => F9
  refine' hret _ _ _ F9.keep ⟨_, _, _, rfl, News.get N9 ?h1, news_fresh N9 ?h1, by assumption, ?_⟩; (case h1 => k_mem)
  (try dsimp only [List.cons_append, List.nil_append])
  (try dsimp only [tabL])
  repeat' (first | exact TabOk.nil | (refine' TabOk.cons' ?hx ?hy ?a ?b ?c ?_; (case hx => decide +kernel); (case hy => decide +kernel); (case a => ((show @Ne Nat _ _); omega)); (case b => ((show @Ne Nat _ _); omega)); (case c => ((show @Ne Nat _ _); omega))))
theorem does_table4 (tk : Tok) : Does w p loose mean mg mb 4 125 [.int 4 tk] (fun _ => True) (fun r g h' => ∃ d es n, r = .ref d ∧ h'.get? d = some (dictOf es n) ∧ g.get? d = none ∧ (d == sysModules) = false ∧ TabOk w (tabL 4) es) := by
  refine does_of ?_
  unfold Does0
  k_fill
  intro dp un gd cn cs a ccd cl outer A₀ base h₀ L m g s Q E hs B F X T hk hp ht hd hu hret
  refine wpAny_call ?_
  refine' my_def (binds := [(Str.ofString "kind", .int 4 tk)]) hs B F X T ?kA ?kF ?kK ?k6 ?k7 ?k8 ?k9 ?kB ?_ ?c2 ?c3 ?c4 ?c5; (case kA => exact rfl); (case kF => exact rfl); (case kK => exact hk); (case k6 => k_is); (case k7 => k_is); (case k8 => ktr_room); (case k9 => exact BindsTo.of_eq rfl); (case kB => exact locs rfl); (case c2 => exact rfl); (case c3 => exact rfl); (case c4 => exact rfl); (case c5 => decide)
  intro L' h' F' N' B' X' T'
  dsimp only [List.length]
  k_steps
  (try dsimp only)
  rename News _ _ _ _ => N9
  rename Fr _ _ _ _ => F9
  refine' hret _ _ _ F9.keep ⟨_, _, _, rfl, News.get N9 ?h1, news_fresh N9 ?h1, by assumption, ?_⟩; (case h1 => k_mem)
  (try dsimp only [List.cons_append, List.nil_append])
  (try dsimp only [tabL])
  repeat' (first | exact TabOk.nil | (refine' TabOk.cons' ?hx ?hy ?a ?b ?c ?_; (case hx => decide +kernel); (case hy => decide +kernel); (case a => ((show @Ne Nat _ _); omega)); (case b => ((show @Ne Nat _ _); omega)); (case c => ((show @Ne Nat _ _); omega))))
end
end Mine
set_option maxHeartbeats 4000000
namespace Mine
/-- replace, on signs -/
noncomputable def replM (y z l : List Nat) : List Nat := (Txt.replace (S l) (S y) (S z)).cps.toList
theorem replM_S (y z l : List Nat) : Txt.replace (S l) (S y) (S z) = S (replM y z l) := S_of _
theorem replM_length (y z l : List Nat) : (replM y z l).length ≤ l.length + (l.length + 1) * z.length := by
  have e : (replM y z l).length = (Txt.replace (S l) (S y) (S z)).length := by simp [replM, Str.length]
  rw [e]
  unfold Txt.replace
  split
  · rw [S_length]; omega
  · have h1 := StrLaws.occ_length_le (S l) (S y) 0 (S l).length ((S l).length + 1)
    have hy : (Builtin.Str.glued (S y) (Builtin.Str.partsBetween (S l) (Builtin.Str.occurrences (S l) (S y) 0 (S l).length ((S l).length + 1)) (S y).length)).length = (S l).length := by rw [StrLaws.glued_between_self]
    rw [size_glued, length_partsBetween, Nat.add_sub_cancel] at hy
    rw [size_glued, length_partsBetween, Nat.add_sub_cancel]
    have h2 : (Builtin.Str.occurrences (S l) (S y) 0 (S l).length ((S l).length + 1)).length * (S z).length ≤ ((S l).length + 1) * (S z).length := Nat.mul_le_mul_right _ h1
    simp only [S_length] at h2 hy ⊢
    omega
/-- what the written text is without its references -/
noncomputable def unwStep (acc : List Nat) (p : Nat × List Nat) : List Nat := if p.1 = 38 then acc else replM p.2 [p.1] acc
noncomputable def unwL (tb : List (Nat × List Nat)) (l : List Nat) : List Nat := replM [38, 97, 109, 112, 59] [38] (tb.foldl unwStep l)
theorem unwStep_length (acc : List Nat) (p : Nat × List Nat) : (unwStep acc p).length ≤ 2 * acc.length + 1 := by
  unfold unwStep
  split
  · omega
  · have := replM_length p.2 [p.1] acc
    simp at this
    omega
theorem unwFold_length : ∀ (tb : List (Nat × List Nat)) (l : List Nat), (tb.foldl unwStep l).length + 1 ≤ 2 ^ tb.length * (l.length + 1)
  | [], l => by simp
  | p :: r, l => by
    have h := unwFold_length r (unwStep l p)
    have h1 := unwStep_length l p
    rw [List.foldl_cons, List.length_cons, Nat.pow_succ, Nat.mul_assoc]
    refine Nat.le_trans h (Nat.mul_le_mul_left _ ?_)
    omega

section
variable {w : World} {tb : List (Nat × List Nat)} {es : List DictEntry}
theorem TabOk.strEnts (h : TabOk w tb es) : StrEnts w es := by
  induction h with
  | nil => exact strEnts_nil
  | cons _ _ _ _ ih => exact strEnts_cons ih
theorem TabOk.get {i : Nat} {e : DictEntry} (h : TabOk w tb es) (he : es[i]? = some e) : ∃ c r t u, tb[i]? = some (c, r) ∧ e = ent w (S [c]) t (.str (S r) u) ∧ t ≠ 0 ∧ u ≠ 0 ∧ u ≠ t := by
  induction h generalizing i with
  | nil => simp at he
  | @cons c r t u tb es h1 h2 h3 _ ih =>
    cases i with
    | zero =>
      simp only [List.getElem?_cons_zero, Option.some.injEq] at he
      exact ⟨c, r, t, u, rfl, he.symm, h1, h2, h3⟩
    | succ j => simpa using ih (by simpa using he)
theorem TabOk.length (h : TabOk w tb es) : es.length = tb.length := by
  induction h with
  | nil => rfl
  | cons _ _ _ _ ih => simp [ih]
theorem TabOk.key {c : Nat} {e : DictEntry} (h : TabOk w tb es) (he : e ∈ es) (hc : e.key.isStr (S [c]) = true) : ∃ r, (c, r) ∈ tb := by
  induction h with
  | nil => simp at he
  | @cons c' r t u tb es _ _ _ _ ih =>
    rcases List.mem_cons.mp he with rfl | he
    · have : S [c'] = S [c] := by simpa [Value.isStr] using hc
      have := S_inj this
      simp only [List.cons.injEq, and_true] at this
      subst this
      exact ⟨r, List.mem_cons_self ..⟩
    · obtain ⟨r', hr⟩ := ih he
      exact ⟨r', List.mem_cons_of_mem _ hr⟩
theorem TabOk.apart (h : TabOk w tb es) (hn : (tb.map (·.1)).Nodup) : (es.map (fun e => e.key)).Pairwise (fun a b => ∀ x, ¬ (a.isStr x = true ∧ b.isStr x = true)) := by
  induction h with
  | nil => exact List.Pairwise.nil
  | @cons c r t u tb es _ _ _ h ih =>
    rw [List.map_cons, List.nodup_cons] at hn
    refine List.Pairwise.cons ?_ (ih hn.2)
    rintro k hk x ⟨h1, h2⟩
    obtain ⟨e, he, rfl⟩ := List.mem_map.mp hk
    have hx : S [c] = x := by simpa [Value.isStr] using h1
    subst hx
    obtain ⟨r', hr⟩ := h.key he h2
    exact hn.1 (List.mem_map.mpr ⟨(c, r'), hr, rfl⟩)
theorem find_ent {i : Nat} {x : Str} {t : Tok} {v : Value} (hn : (es.map (fun e => e.key)).Pairwise (fun a b => ∀ x, ¬ (a.isStr x = true ∧ b.isStr x = true))) (he : es[i]? = some (ent w x t v)) : findBy Value.isStrOf es.toArray x = some v := by
  induction es generalizing i with
  | nil => simp at he
  | cons e r ih =>
    rw [List.map_cons, List.pairwise_cons] at hn
    unfold findBy
    rw [List.find?_toArray, List.find?_cons]
    cases i with
    | zero =>
      simp only [List.getElem?_cons_zero, Option.some.injEq] at he
      subst he
      simp [Value.isStrOf]
    | succ j =>
      have he' : r[j]? = some (ent w x t v) := by simpa using he
      have hm := List.mem_of_getElem? he'
      have : Value.isStrOf x e.key = false := by
        rw [isStrOf_eq]
        cases hq : e.key.isStr x with
        | false => rfl
        | true => exact absurd ⟨hq, by simp [Value.isStr]⟩ (hn.1 _ (List.mem_map.mpr ⟨_, hm, rfl⟩) x)
      rw [this]
      have := ih hn.2 he'
      unfold findBy at this
      rw [List.find?_toArray] at this
      exact this
end

section
variable {prog : Program} {w : World} {A : Around} {E : Value → Shared → Prop} {s : Shared} {h₀ : Heap} {L : Addr}
/-- str.replace, the tokens known -/
theorem replace_K {x y z : List Nat} {t u v : Tok} {Q : Value → Shared → Prop} (hu : u ≠ 0) (hv : v ≠ 0) (huv : u ≠ v) (hyz : y ≠ z) (hx : x.length ≤ 1048576) (hz : z.length ≤ 14) (ht : 1 ≤ s.toks)
    (hq : ∀ t' k, 1 ≤ k → Q (.str (S (replM y z x)) t') { s with toks := k }) : wpAny (model prog w) A (call (.builtin "str.replace") [.str (S x) t, .str (S y) u, .str (S z) v]) Q E s := by
  refine wpAny_with_toks (n := 1) ht ?_
  refine SC.replaceW hu hv huv (by rw [S_beq]; exact beq_eq_false_iff_ne.mpr hyz) (by rw [S_length]; exact hx) (by rw [S_length]; exact hz) fun t' k hk => ?_
  rw [replM_S]
  exact hq t' k hk
theorem item_exact {d : Addr} {es : List DictEntry} {n i : Nat} {x : Str} {t t' : Tok} {v : Value} {value slice : Expr} {Q : Value → Shared → Prop} (hd : s.heap.get? d = some (dictOf es n)) (hk : StrEnts w es)
    (hn : (es.map (fun e => e.key)).Pairwise (fun a b => ∀ x, ¬ (a.isStr x = true ∧ b.isStr x = true))) (he : es[i]? = some (ent w x t v)) (h : Q v { s with toks := s.toks + 1 })
    (hs : subscripted slice false (.ref d) (.str x t') = operate [.ref d, .str x t'] (getItem (.ref d) (.str x t')) := by with_unfolding_all rfl) :
    wpAny (model prog w) A (subscriptTail value slice (.ref d) (.str x t')) Q E s :=
  tail_any (dict_typeIs hd) slot_dict_getitem.lookup (wpAny_getItem_of (strKind_is prog w x t') (ent_mapOf hd hk) (find_ent hn he) h) hs
end

section
variable {w : World} {p : Program} {loose : List Str} {mean : ExcName → Option Value} {mg mb : Str → Option Value}
theorem does_unwritten (tb : List (Nat × List Nat)) (l : List Nat) (t : Tok) (d : Addr) (hl : l.length ≤ 64) (hb : tb.length ≤ 8) (hnd : (tb.map (·.1)).Nodup) (hne : ∀ q ∈ tb, q.2 ≠ [q.1]) :
    Does w p loose mean mg mb 4 139 [.str (S l) t, .ref d] (fun g => ∃ es n, g.get? d = some (dictOf es n) ∧ (d == sysModules) = false ∧ TabOk w tb es) (fun r _ _ => ∃ t', r = .str (S (unwL tb l)) t') := by
  refine does_of ?_
  unfold Does0
  k_fill
  intro dp un gd cn cs a ccd cl outer A₀ base h₀ L m g s Q E hs B F X T hk hp ht hd hu hret
  obtain ⟨es, n, hde, hds, hok⟩ := hp
  have hse := hok.strEnts
  have hap := hok.apart hnd
  refine wpAny_call ?_
  refine' my_def (binds := [(Str.ofString "text", .str (S l) t), (Str.ofString "table", .ref d)]) hs B F X T ?kA ?kF ?kK ?k6 ?k7 ?k8 ?k9 ?kB ?_ ?c2 ?c3 ?c4 ?c5; (case kA => exact rfl); (case kF => exact rfl); (case kK => exact hk); (case k6 => k_is); (case k7 => k_is); (case k8 => ktr_room); (case k9 => exact BindsTo.of_eq rfl); (case kB => exact locs rfl); (case c2 => exact rfl); (case c3 => exact rfl); (case c4 => exact rfl); (case c5 => decide)
  intro L' h' F' N' B' X' T'
  dsimp only [List.length]
  refine wpAny_execs_cons (wpAny_For (nameX_L F' rfl ?_))
  refine for_keys (h₀ := g) (L := L') (imm := []) (news := []) rfl (F'.keep _ _ hde) hds hse hap (.inl ⟨_, hde⟩) F' N' (by (try dsimp only); omega)
    (fun i m₁ nx => nx = [] ∧ (∃ t', m₁ "text" = some (.str (S ((tb.take i).foldl unwStep l)) t')) ∧ m₁ "table" = some (.ref d)) ⟨rfl, ⟨t, rfl⟩, rfl⟩ ?_ ?_
  · rintro i e m₁ news₁ oI h tk hi he ⟨rfl, ⟨t', hm1⟩, hm2⟩ htk hnI F₁ N₁
    obtain ⟨c, r, t0, u0, htb, rfl, ht0, hu0, hut0⟩ := hok.get he
    have hlen : ((tb.take i).foldl unwStep l).length + 1 ≤ 2 ^ 8 * 65 := by
      refine Nat.le_trans (unwFold_length _ _) (Nat.mul_le_mul (Nat.pow_le_pow_right (by decide) ?_) (by omega))
      rw [List.length_take]; omega
    have hstep : (tb.take (i + 1)).foldl unwStep l = unwStep ((tb.take i).foldl unwStep l) (c, r) := by
      rw [List.take_add_one, htb]; simp
    refine wpAny_assign_Name (storeX_L F₁ N₁ (fun h' F' N' => ?_) rfl rfl)
    refine wpAny_execs_cons (wpAny_If (wpAny_isTrue_Compare1 (nameX_L F' rfl (Calls.Constant_str (ne_str (wpAny_truthy_bool ?_))))))
    by_cases hc : c = 38
    · subst hc
      rw [if_neg (by decide +kernel)]
      refine wpAny_execs_nil (wpAny_execs_nil (TurnEnd.go (by (try dsimp only); omega) F' N' (fun _ h => nomatch h) ⟨rfl, ⟨t', ?_⟩, hm2⟩))
      rw [hstep]
      exact hm1
    · rw [if_pos (by rw [show Str.ofString "&" = S [38] from by decide +kernel, bne, S_beq]; simp [hc])]
      refine wpAny_execs_cons (wpAny_Assign_Name (MethodCall_ (nameX_L F' hm1 (GM.replace (callWith_method1 (args_cons (Subscript_ (nameX_L F' hm2 (nameX_L F' rfl
        (item_exact (F'.keep _ _ hde) hse hap he (args_cons (nameX_L F' rfl (args_nil ?_)))))))))))))
      refine replace_K hu0 ht0 hut0 (hne _ (List.mem_of_getElem? htb)) (by omega) (by simp) (by (try dsimp only); omega) fun t1 k1 hk1 => ?_
      refine storeX_L F' N' (fun h'' F'' N'' => ?_) rfl rfl
      refine wpAny_execs_nil (wpAny_execs_nil (TurnEnd.go (by (try dsimp only); omega) F'' N'' (fun _ h => nomatch h) ⟨rfl, ⟨t1, ?_⟩, hm2⟩))
      rw [hstep]
      unfold unwStep
      rw [if_neg hc]
      rfl
  · rintro h' tk' m' news' htk F'' N'' ⟨rfl, ⟨t', hm1⟩, hm2⟩
    rw [hok.length, List.take_length] at hm1
    have hlen : (tb.foldl unwStep l).length + 1 ≤ 2 ^ 8 * 65 :=
      Nat.le_trans (unwFold_length _ _) (Nat.mul_le_mul (Nat.pow_le_pow_right (by decide) hb) (by omega))
    refine wpAny_execs_cons (wpAny_Return_some (MethodCall_ (nameX_L F'' hm1 (GM.replace (callWith_method1 (args_cons (Calls.Constant_str (args_cons (Calls.Constant_str (args_nil ?_))))))))))
    rw [show Str.ofString "&amp;" = S [38, 97, 109, 112, 59] from by decide +kernel, show Str.ofString "&" = S [38] from by decide +kernel]
    refine replace_K (Nat.ne_of_gt htk) (Nat.succ_ne_zero _) (Nat.ne_of_lt (Nat.lt_succ_self _)) (by decide) (by omega) (by decide) (by (try dsimp only); omega) fun t1 k1 hk1 => ?_
    exact hret _ _ _ F''.keep ⟨_, rfl⟩
end
end Mine
set_option maxHeartbeats 4000000
namespace Mine
theorem sub_Key_Lookup : isSubtype (.type "KeyError") (.type "LookupError") = pure true := by rw [isSubtype_type]; kernel_rfl
section
variable {prog : Program} {w : World} {A : Around} {E : Value → Shared → Prop} {s : Shared}
theorem lookup_hit {c : Nat} {d : Addr} {x : Str} {t : Tok} {f : Int → Option Value} {Q : Builtin.Str.Mapped → Shared → Prop} (hm : s.heap.MapOf (PySem.intKind prog w) d f) (hf : f (c : Int) = some (.str x t))
    (h : ∀ tk, Q (.text x) { s with toks := tk }) : wpAny (model prog w) A (Builtin.Str.tableLookup (.ref d) c) Q E s := by
  unfold Builtin.Str.tableLookup
  refine wpAny_bind (wpAny_attempt (wpAny_bind (wpAny_mkInt (wpAny_getItem_of (intKind_is prog w _ _) hm hf ?_))))
  exact wpAny_bind (wpAny_pure (wpAny_bind (wpAny_pure (wpAny_pure (h _)))))
theorem lookup_miss {c : Nat} {d : Addr} {f : Int → Option Value} {Q : Builtin.Str.Mapped → Shared → Prop} (hds : (d == sysModules) = false) (hh : A.handled = none) (hm : s.heap.MapOf (PySem.intKind prog w) d f) (hf : f (c : Int) = none)
    (h : ∀ h' tk, (∀ b o, s.heap.get? b = some o → h'.get? b = some o) → Q .keep { s with heap := h', toks := tk }) : wpAny (model prog w) A (Builtin.Str.tableLookup (.ref d) c) Q E s := by
  unfold Builtin.Str.tableLookup
  refine wpAny_bind (wpAny_attempt (wpAny_bind (wpAny_mkInt (wpAny_getItem_missing_of (intKind_is prog w _ _) hds hh hm hf fun h' e hx => ?_))))
  refine wpAny_bind (wpAny_isInstance (let ⟨ob, _, h1, h2, _⟩ := hx.there; ⟨ob, h1, h2⟩) sub_Key_Lookup ?_)
  rw [if_pos rfl]
  exact wpAny_bind (wpAny_rule (wpAny_pure (h _ _ hx.keeps)))
theorem translate_one {c : Nat} {t : Tok} {d : Addr} {f : Int → Option Value} {Q : Value → Shared → Prop} (hc : c < 128) (hds : (d == sysModules) = false) (hh : A.handled = none) (hm : s.heap.MapOf (PySem.intKind prog w) d f)
    (hf : (∃ u, f (c : Int) = some (.str (S [92, c]) u)) ∨ f (c : Int) = none)
    (h : ∀ t' h' tk, (∀ b o, s.heap.get? b = some o → h'.get? b = some o) → Q (.str (S (if f (c : Int) = none then [c] else [92, c])) t') { s with heap := h', toks := tk }) :
    wpAny (model prog w) A (call (.builtin "str.translate") [.str (S [c]) t, .ref d]) Q E s := by
  refine wpAny_call (codeAny_call_builtin F.slot_str_translate.plain F.entry_str_translate (F.slot_str_translate.check _ _ _ _ _ _ _ _ (typeIs_str _ _ _) (F.args_str_translate_2 _ _) ?_))
  unfold Builtin.«str.translate»
  refine wpAny_bind (m := Builtin.Str.strOneArg "translate" _) ?_
  refine wpAny_of_eq (a := (Value.str (S [c]) t, S [c], Value.ref d)) rfl ?_
  dsimp only
  rw [if_neg (by simp [S_length])]
  have e1 : (S [c]).cps = #[c] := rfl
  have e2 : (#[c].all fun x => decide (x < 128)) = true := by simp [hc]
  have e3 : Builtin.Str.tooLong 0 = false := by decide
  rw [e1]
  simp only [List.forIn_toArray, List.forIn_cons, e2, e3, Bool.false_eq_true, if_false, if_true, List.lookup_nil]
  rcases hf with ⟨u, hf⟩ | hf
  · have e4 : ((S [92, c]).length == 1) = false := by rw [S_length]; rfl
    refine wpAny_bind (wpAny_bind (wpAny_bind (lookup_hit hm hf fun tk => ?_)))
    simp only [e4, Bool.false_and, Bool.false_eq_true, if_false]
    refine wpAny_bind (wpAny_pure (wpAny_bind (wpAny_rule (wpAny_bind (lookup_hit hm hf fun tk2 => wpAny_pure ?_)))))
    simp only [List.forIn_nil]
    refine wpAny_pure ?_
    have e5 : Builtin.Str.tooLong (0 + (S [92, c]).length) = false := by rw [S_length]; rfl
    have e6 : (⟨[S [92, c]].reverse.foldl (fun acc p => acc ++ p.cps) #[]⟩ : Str) = S [92, c] := by simp [S]
    simp only [e5, e6, Bool.false_eq_true, if_false]
    refine wpAny_bind (wpAny_mkStr (wpAny_pure ?_) (by rw [S_length, sizeLine_eq]; exact Nat.le_of_ble_eq_true rfl))
    have := h tk2 s.heap (tk2 + 1) fun _ _ e => e
    rw [hf, if_neg (by simp)] at this
    exact this
  · refine wpAny_bind (wpAny_bind (wpAny_bind (lookup_miss hds hh hm hf fun h' tk hk => ?_)))
    dsimp only
    refine wpAny_bind (wpAny_pure (wpAny_pure ?_))
    simp only [List.forIn_nil]
    refine wpAny_pure ?_
    have e5 : Builtin.Str.tooLong (0 + 1) = false := by decide
    have e6 : (⟨[(⟨#[c]⟩ : Str)].reverse.foldl (fun acc p => acc ++ p.cps) #[]⟩ : Str) = S [c] := by simp [S]
    simp only [e5, e6, Bool.false_eq_true, if_false]
    refine wpAny_bind (wpAny_mkStr (wpAny_pure ?_) (by rw [S_length, sizeLine_eq]; exact Nat.le_of_ble_eq_true rfl))
    have := h tk h' (tk + 1) hk
    rw [hf, if_pos rfl] at this
    exact this
end
noncomputable def specials : List Nat := [40, 41, 91, 93, 123, 125, 63, 42, 43, 45, 124, 94, 36, 92, 46, 38, 126, 35, 32, 9, 10, 13, 11, 12]
/-- re.escape, of one sign -/
noncomputable def escRe (c : Nat) : List Nat := if specials.contains c then [92, c] else [c]
noncomputable def chkMap (es : List DictEntry) : Bool := es.all (fun e => match e.key with | .int k _ => e.hash == hashInt k | _ => false) &&
  (List.range 128).all fun c => match findBy Value.isInt es.toArray (c : Int) with
    | some (.str x _) => specials.contains c && x == S [92, c]
    | none => !specials.contains c
    | _ => false
theorem map87 (P : Params) : ∃ es n, (KK P).lookup 87 = some (dictOf es n) ∧ chkMap es = true := by
  have q : (match (KK P).lookup 87 with | some ⟨.type "dict", none, .dict es _, sl⟩ => sl.isEmpty && chkMap es.toList | _ => false) = true := by kernel_rfl
  split at q
  · rename_i es n sl hk
    rw [Bool.and_eq_true] at q
    refine ⟨es.toList, n, ?_, q.2⟩
    have hsl : sl = #[] := by simpa using q.1
    rw [hk, hsl]
  · cases q
theorem chk_mapOf {prog : Program} {w : World} {h : Heap} {d : Addr} {es : List DictEntry} {n : Nat} (hd : h.get? d = some (dictOf es n)) (hc : chkMap es = true) : h.MapOf (PySem.intKind prog w) d (fun k => findBy Value.isInt es.toArray k) := by
  unfold chkMap at hc
  rw [Bool.and_eq_true] at hc
  refine ⟨_, es.toArray, n, hd, ⟨rfl, rfl, rfl⟩, rfl, fun e he => ?_, fun _ => rfl⟩
  have := List.all_eq_true.mp hc.1 e (by simpa using he)
  split at this
  · rename_i k tk hk
    exact ⟨k, by rw [hk]; exact intKind_is prog w k tk, by show e.hash = hashInt k; simpa using this⟩
  · cases this
theorem chk_at {es : List DictEntry} (hc : chkMap es = true) {c : Nat} (h : c < 128) : (∃ u, findBy Value.isInt es.toArray (c : Int) = some (.str (S [92, c]) u) ∧ specials.contains c = true) ∨ (findBy Value.isInt es.toArray (c : Int) = none ∧ specials.contains c = false) := by
  unfold chkMap at hc
  rw [Bool.and_eq_true] at hc
  have := List.all_eq_true.mp hc.2 c (List.mem_range.mpr h)
  split at this
  · rename_i x t hx
    rw [Bool.and_eq_true] at this
    have hx' : x = S [92, c] := by simpa using this.2
    subst hx'
    exact .inl ⟨t, hx, this.1⟩
  · rename_i hx
    exact .inr ⟨hx, by simpa using this⟩
  · cases this
section
variable {M : Model} {A : Around} {E : Value → Shared → Prop} {s : Shared} {x : Str} {t : Tok} {pl : Sem Bool} {Q : Value × List Value → Shared → Prop}
theorem gm_translate (h : Q (.builtin "str.translate", [.str x t]) s) : wpAny M A (getMethod (.str x t) "translate" pl) Q E s := by
  with_reducible exact GM.of (.str x t) (typeIs_str _ _ _) F.slot_str_translate F.type_str_translate GM.noRef h
end
section
variable {w : World} {p : Program} {loose : List Str} {mean : ExcName → Option Value} {mg mb : Str → Option Value}
theorem does_escape (c : Nat) (t : Tok) (hc : c < 128) : Does w p loose mean mg mb 2 97 [.str (S [c]) t] (fun _ => True) (fun r _ _ => ∃ t', r = .str (S (escRe c)) t') := by
  refine does_of ?_
  unfold Does0
  k_fill
  intro dp un gd cn cs a ccd cl outer A₀ base h₀ L m g s Q E hs B F X T hk hp ht hd hu hret
  obtain ⟨es, n, h87, hchk⟩ := map87 w.params
  refine wpAny_call ?_
  refine' my_def (binds := [(Str.ofString "pattern", .str (S [c]) t)]) hs B F X T ?kA ?kF ?kK ?k6 ?k7 ?k8 ?k9 ?kB ?_ ?c2 ?c3 ?c4 ?c5; (case kA => exact rfl); (case kF => exact rfl); (case kK => exact hk); (case k6 => k_is); (case k7 => k_is); (case k8 => ktr_room); (case k9 => exact BindsTo.of_eq rfl); (case kB => exact locs rfl); (case c2 => exact rfl); (case c3 => exact rfl); (case c4 => exact rfl); (case c5 => decide)
  intro L' h' F' N' B' X' T'
  dsimp only [List.length]
  k_steps
  refine gm_translate ?_
  k_steps
  rename Fr g _ _ _ => F9
  have hd87 := X'.keeps F9.keep _ _ h87
  have hat := chk_at hchk hc
  refine translate_one hc (by decide) rfl (chk_mapOf hd87 hchk) (hat.imp (fun ⟨u, h, _⟩ => ⟨u, h⟩) fun h => h.1) fun t' h9 tk9 k9 => ?_
  have e : (if findBy Value.isInt es.toArray (c : Int) = none then [c] else [92, c]) = escRe c := by
    unfold escRe
    rcases hat with ⟨u, h1, h2⟩ | ⟨h1, h2⟩
    · rw [h1, h2]; simp
    · rw [h1, h2]; simp
  rw [e]
  (try k_steps)
  exact hret _ _ _ (fun b o q => k9 _ _ (F9.keep _ _ q)) ⟨_, rfl⟩
end
end Mine
set_option maxHeartbeats 4000000
namespace Mine
theorem slot_md_get : Slot "method_descriptor" "__get__" "method_descriptor.__get__" :=
  .of (owner := "method_descriptor") (n := "__get__") (by rw [typeLookup_type, builtinLookup_eq_fast]; kernel_rfl) (by decide +kernel) (by decide +kernel) (by decide +kernel)
    (by first | exact .inl (by decide +kernel) | exact .inr (by decide +kernel)) (by rw [isSubtype_type]; kernel_rfl)
theorem lk_md_set : typeLookup (.type "method_descriptor") "__set__" = pure none := by rw [typeLookup_type, builtinLookup_eq_fast]; kernel_rfl
theorem lk_md_delete : typeLookup (.type "method_descriptor") "__delete__" = pure none := by rw [typeLookup_type, builtinLookup_eq_fast]; kernel_rfl
theorem entry_md_get : entryFor table "method_descriptor.__get__" = some Builtin.«method_descriptor.__get__» := entryFor_of_tree (by kernel_rfl)
theorem args_md_get (a b c : Value) : argsOk "method_descriptor.__get__" ⟨[a, b, c], []⟩ := by unfold argsOk; kernel_rfl
theorem lk_list_append : typeLookup (.type "list") "append" = pure (some (.builtin "list.append")) := by rw [typeLookup_type, builtinLookup_eq_fast]; kernel_rfl

section
variable {prog : Program} {w : World} {A : Around} {E : Value → Shared → Prop} {h : Heap} {g : Array GenState} {d : Drawn} {t : Nat} {os : OsState} {a : Addr} {o : Obj}
noncomputable abbrev bfm (f self : Value) : Obj := { cls := .type "builtin_function_or_method", data := .fields #[f, self] }
theorem md_get {R : Result → Shared → Prop} {xs : Array Value} {n : Nat} (hx : h.get? a = some (listOf xs n)) (hq : R (.ok (.ret (.ref h.objs.size))) ⟨h.push (bfm (.builtin "list.append") (.ref a)), g, d, t, os⟩) :
    codeAny (model prog w) A (.call (.builtin "method_descriptor.__get__") ⟨[.builtin "list.append", .ref a, .type "list"], []⟩) R ⟨h, g, d, t, os⟩ := by
  have hT : (⟨h, g, d, t, os⟩ : Shared).TypeIs (.ref a) "list" := ⟨_, hx, rfl⟩
  have hT5 : (⟨h, g, d, t, os⟩ : Shared).TypeIs (.builtin "list.append") "method_descriptor" := F.type_list_append
  have f1 : isSubtype (.type "list") (.type (".".intercalate ("list.append".cutAt '.').dropLast)) = pure true := by
    rw [show ".".intercalate ("list.append".cutAt '.').dropLast = "list" from by decide +kernel, isSubtype_type]; kernel_rfl
  refine codeAny_call_builtin slot_md_get.plain entry_md_get (slot_md_get.check _ _ _ _ _ _ _ _ hT5 (args_md_get _ _ _) ?_)
  unfold Builtin.«method_descriptor.__get__»
  repeat (any_goals (first | assumption | wp_step))

theorem append_entry {tk : Tok} {Q : Fin → Shared → Prop} {xs : Array Value} {n : Nat} (hx : h.get? a = some (listOf xs n))
    (hq : Q (.done (.ret (.ref h.objs.size))) ⟨h.push (bfm (.builtin "list.append") (.ref a)), g, d, t, os⟩) :
    wpAny (model prog w) A (Builtin.«object.__getattribute__» ⟨[.ref a, .str "append" tk], []⟩) Q E ⟨h, g, d, t, os⟩ := by
  have hT : (⟨h, g, d, t, os⟩ : Shared).TypeIs (.ref a) "list" := ⟨_, hx, rfl⟩
  have hT5 : (⟨h, g, d, t, os⟩ : Shared).TypeIs (.builtin "list.append") "method_descriptor" := F.type_list_append
  have f4 := lk_list_append
  have f5 := F.type_list_append
  have f6 := slot_md_get.lookup
  have f7 := lk_md_set
  have f8 := lk_md_delete
  unfold Builtin.«object.__getattribute__»
  repeat (any_goals (first | assumption | wp_step))
  refine md_get hx ?_
  repeat (any_goals (first | assumption | wp_step))
theorem append_attr {Q : Value → Shared → Prop} {xs : Array Value} {n : Nat} (hx : h.get? a = some (listOf xs n))
    (hq : Q (.ref h.objs.size) ⟨h.push (bfm (.builtin "list.append") (.ref a)), g, d, t + 1, os⟩) :
    wpAny (model prog w) A (getAttr (.ref a) "append" true) Q E ⟨h, g, d, t, os⟩ := by
  have hT : ∀ tk', (⟨h, g, d, tk', os⟩ : Shared).TypeIs (.ref a) "list" := fun _ => ⟨_, hx, rfl⟩
  have f3 := F.slot_list_getattribute.lookup
  have f4 := F.slot_list_getattribute.bind (.ref a)
  unfold getAttr getAttrBy
  repeat (any_goals (first | assumption | exact hT _ | ((with_reducible show wpAny _ _ (call (Value.builtin "list.__getattribute__") _ _) _ _ _); refine wpAny_call (codeAny_call_builtin F.slot_list_getattribute.plain F.entry_list_ga (F.slot_list_getattribute.check _ _ _ _ _ _ _ _ (hT _) (F.args_list_getattribute_2 _ _) (append_entry hx ?_)))) | wp_step))
end
end Mine
set_option maxHeartbeats 4000000
namespace Mine
theorem kind_append : builtinKind "list.append" = some .method := by kernel_rfl
theorem sub_list_module : isSubtype (.type "list") (.type "module") = pure false := by rw [isSubtype_type]; kernel_rfl
theorem va_append : Manifest.varargsMethods.contains "list.append" = false := by kernel_rfl
theorem sig_append : Manifest.signature? "list.append" = some ((Manifest.signature? "list.append").get (by kernel_rfl)) := by kernel_rfl
theorem check_append (a b : Value) : Bind.checkArgs "list.append" { ((Manifest.signature? "list.append").get (by kernel_rfl)) with full := s!"{Bind.lastOf "list"}.{Bind.lastOf "list.append"}" } ⟨[a, b], []⟩ = pure () := by kernel_rfl
section
variable {prog : Program} {w : World} {A : Around} {E : Value → Shared → Prop} {s : Shared} {q l : Addr}
theorem bound_append {x : Value} {Q : Unit → Shared → Prop} {its : Array Value} {n : Nat} (hl : s.heap.get? l = some (listOf its n)) (h : Q () s) :
    wpAny (model prog w) A (checkBoundCall "list.append" ⟨[.ref l, x], []⟩) Q E s := by
  have hT : s.TypeIs (.ref l) "list" := ⟨_, hl, rfl⟩
  unfold checkBoundCall
  rw [sig_append, kind_append]
  dsimp only
  rw [if_neg (by decide)]
  refine wpAny_bind (wpAny_isInstance hT sub_list_module ?_)
  rw [va_append, if_neg (by decide)]
  refine wpAny_bind ?_
  simp only [isType, loadHead]
  refine wpAny_bind (wpAny_loadPart hl ?_)
  refine wpAny_pure ?_
  dsimp only [W.listOf]
  rw [if_neg (by decide)]
  refine wpAny_bind (wpAny_typeOf hT ?_)
  show wpAny _ _ (Bind.checkArgs _ _ _) _ _ _
  rw [check_append]
  exact wpAny_pure h
theorem call_bfm {its : Array Value} {n : Nat} {x : Value} {Q : Value → Shared → Prop} (hq : s.heap.get? q = some (bfm (.builtin "list.append") (.ref l))) (hl : s.heap.get? l = some (listOf its n))
    (h : ∀ h', Heap.SameBut l s.heap h' → h'.get? l = some (listOf (its.push x) (n + 1)) → Q .none { s with heap := h' }) (hsz : its.size ≤ sizeLine) :
    wpAny (model prog w) A (call (.ref q) [x]) Q E s := by
  refine wpAny_call (codeAny_of_tree ?_)
  show wpAny _ _ (callAny (.ref q) ⟨[x], []⟩) _ _ _
  unfold callAny
  refine wpAny_bind (wpAny_load hq ?_)
  dsimp only
  rw [if_pos (by rfl)]
  show wpAny _ _ (checkBoundCall "list.append" ⟨[.ref l, x], []⟩ >>= fun _ => again (.builtin "list.append" ⟨[.ref l, x], []⟩)) _ _ _
  refine wpAny_bind (bound_append hl ?_)
  refine wpAny_pure ⟨by kernel_rfl, ?_⟩
  refine codeAny_builtin F.entry_list_append ?_
  show wpAny _ _ (updateSeq l (·.push x) >>= fun _ => ret .none) _ _ s
  refine wpAny_bind ?_
  refine wpAny_updateSeq hl rfl (wpAny_pure ?_)
  refine h _ (Heap.SameBut.update ..) ?_
  rw [Heap.get?_update_self _ hl (by rw [mapSeq_push]; rfl), mapSeq_push]
end
end Mine
set_option maxHeartbeats 4000000
namespace Mine
section
variable {prog : Program} {w : World} {A : Around} {s : Shared} {env : Env} {h₀ : Heap} {L : Addr}
/-- how a turn of a while ends -/
noncomputable def WEnd (h₀ : Heap) (L : Addr) (s : Shared) (J : Nat → (Str → Option Value) → Led' → Prop) (n : Nat) (Q : Flow → Shared → Prop) (f : Flow) (s₃ : Shared) : Prop :=
  match f with
  | .ret v => Q (.ret v) s₃
  | .brk => Q .next s₃
  | _ => ∃ h' tk' m' news' k, s₃ = { s with heap := h', toks := tk' } ∧ 1 ≤ tk' ∧ k < n ∧ Fr h₀ L h' m' ∧ News h₀ L h' news' ∧ J k m' news'
theorem WEnd.go {J : Nat → (Str → Option Value) → Led' → Prop} {n k : Nat} {Q : Flow → Shared → Prop} {h' : Heap} {tk' : Nat} {m' : Str → Option Value} {news' : Led'}
    (ht : 1 ≤ tk') (hk : k < n) (F : Fr h₀ L h' m') (N : News h₀ L h' news') (hj : J k m' news') : WEnd h₀ L s J n Q .next { s with heap := h', toks := tk' } :=
  ⟨h', tk', m', news', k, rfl, ht, hk, F, N, hj⟩

theorem while_go {E : Value → Shared → Prop} {Q : Flow → Shared → Prop} {test : Expr} {body : List Stmt} {pos : Pos} {m : Str → Option Value} {news : Led'}
    (F : Fr h₀ L s.heap m) (N : News h₀ L s.heap news) (ht1 : 1 ≤ s.toks)
    (J : Nat → (Str → Option Value) → Led' → Prop) (n : Nat) (h0 : J n m news)
    (turn : ∀ n m₁ news₁ h tk, J n m₁ news₁ → 1 ≤ tk → Fr h₀ L h m₁ → News h₀ L h news₁ →
      wpAny (model prog w) A (isTrue test env (eval test env)) (fun b s₂ => if b = true then wpAny (model prog w) A (execs body env) (WEnd h₀ L s J n Q) NoE s₂ else Q .next s₂) NoE { s with heap := h, toks := tk }) :
    wpAny (model prog w) A (exec (.While test body [] pos) env) Q E s := by
  refine wpAny_While (codeAny_whileLoop (fun k s' => ∃ h' tk m' news', s' = { s with heap := h', toks := tk } ∧ 1 ≤ tk ∧ Fr h₀ L h' m' ∧ News h₀ L h' news' ∧ J k m' news') ?_ n
    ⟨s.heap, s.toks, m, news, rfl, ht1, F, N, h0⟩)
  rintro k s' ⟨h', tk, m', news', rfl, htk, F', N', hJ⟩
  refine wpAny_mono (turn k m' news' h' tk hJ htk F' N') (fun b s₂ h₂ => ?_) fun _ _ e => e.elim
  cases b with
  | false =>
    simp only [Bool.false_eq_true, if_false] at h₂ ⊢
    exact wpAny_execs_nil h₂
  | true =>
    simp only [if_true] at h₂ ⊢
    refine wpAny_mono h₂ (fun f s₃ h₃ => ?_) fun _ _ e => e.elim
    have fin : (∃ h' tk' m' news' k', s₃ = { s with heap := h', toks := tk' } ∧ 1 ≤ tk' ∧ k' < k ∧ Fr h₀ L h' m' ∧ News h₀ L h' news' ∧ J k' m' news') →
        ∃ k', k' < k ∧ ∃ h' tk m' news', s₃ = { s with heap := h', toks := tk } ∧ 1 ≤ tk ∧ Fr h₀ L h' m' ∧ News h₀ L h' news' ∧ J k' m' news' := by
      rintro ⟨h₃', tk₃, m₃, news₃, k', rfl, htk₃, hk', F₃, N₃, hJ₃⟩
      exact ⟨k', hk', h₃', tk₃, m₃, news₃, rfl, htk₃, F₃, N₃, hJ₃⟩
    cases f with
    | ret v => exact h₃
    | brk => exact h₃
    | next => exact fin h₃
    | cont => exact fin h₃
end
/-- a goal that the stepper leaves alone -/
noncomputable def Stop (P : Prop) : Prop := P
theorem while_stop {M : Model} {A : Around} {test : Expr} {body : List Stmt} {pos : Pos} {env : Env} {Q : Flow → Shared → Prop} {E : Value → Shared → Prop} {s : Shared} (h : Stop (wpAny M A (exec (.While test body [] pos) env) Q E s)) :
    wpAny M A (exec (.While test body [] pos) env) Q E s := h
theorem if_stop {M : Model} {A : Around} {test : Expr} {b1 b2 : List Stmt} {pos : Pos} {env : Env} {Q : Flow → Shared → Prop} {E : Value → Shared → Prop} {s : Shared} (h : Stop (wpAny M A (exec (.If test b1 b2 pos) env) Q E s)) :
    wpAny M A (exec (.If test b1 b2 pos) env) Q E s := h
theorem for_stop {M : Model} {A : Around} {t i : Expr} {b1 b2 : List Stmt} {pos : Pos} {env : Env} {Q : Flow → Shared → Prop} {E : Value → Shared → Prop} {s : Shared} (h : Stop (wpAny M A (exec (.For t i b1 b2 pos) env) Q E s)) :
    wpAny M A (exec (.For t i b1 b2 pos) env) Q E s := h
theorem Stop.go {P : Prop} (h : P) : Stop P := h
end Mine
set_option maxHeartbeats 4000000
namespace Mine
section
variable {prog : Program} {w : World} {A : Around} {s : Shared} {E : Value → Shared → Prop}
theorem is_ref {a : Addr} {Q : Value → Shared → Prop} (h : Q (.bool true) s) : wpAny (model prog w) A (compareOp .Is (.ref a) (.ref a)) Q E s := by
  show wpAny _ _ (isSame (.ref a) (.ref a) >>= fun b => pure (Value.bool b)) _ _ _
  refine wpAny_bind ?_
  unfold isSame
  dsimp only
  rw [if_pos (by simp)]
  exact wpAny_pure (wpAny_pure h)
theorem is_str_ref {x : Str} {t : Tok} {a : Addr} {Q : Value → Shared → Prop} (h : Q (.bool false) s) : wpAny (model prog w) A (compareOp .Is (.str x t) (.ref a)) Q E s :=
  wpAny_of_eq (rfl : compareOp .Is (.str x t) (.ref a) = pure (.bool false)) h
theorem isnot_ref {a : Addr} {Q : Value → Shared → Prop} (h : Q (.bool false) s) : wpAny (model prog w) A (compareOp .IsNot (.ref a) (.ref a)) Q E s := by
  show wpAny _ _ (isSame (.ref a) (.ref a) >>= fun b => pure (Value.bool (!b))) _ _ _
  refine wpAny_bind ?_
  unfold isSame
  dsimp only
  rw [if_pos (by simp)]
  exact wpAny_pure (wpAny_pure h)
theorem isnot_str_ref {x : Str} {t : Tok} {a : Addr} {Q : Value → Shared → Prop} (h : Q (.bool true) s) : wpAny (model prog w) A (compareOp .IsNot (.str x t) (.ref a)) Q E s :=
  wpAny_of_eq (rfl : compareOp .IsNot (.str x t) (.ref a) = pure (.bool true)) h
theorem look_object_new : typeLookup (.type "object") "__new__" = pure (some (.builtin "object.__new__")) := by rw [typeLookup_type, builtinLookup_eq_fast]; kernel_rfl
theorem slot_object_init : Slot "object" "__init__" "object.__init__" :=
  .of (owner := "object") (n := "__init__") (by rw [typeLookup_type, builtinLookup_eq_fast]; kernel_rfl) (by decide +kernel) (by decide +kernel) (by decide +kernel)
    (by first | exact .inl (by decide +kernel) | exact .inr (by decide +kernel)) (by rw [isSubtype_type]; kernel_rfl)
theorem called_object : TypeCalled "object" "object.__new__" "object.__init__" :=
  ⟨by decide +kernel, by decide +kernel, ⟨_, _, F.mro_object⟩, madeBy_type F.mro_object look_object_new (by decide +kernel), by decide +kernel, by rw [isSubtype_type]; kernel_rfl, slot_object_init⟩
theorem typeCall_object : checkTypeCall "object" ⟨[], []⟩ = pure () := by kernel_rfl
theorem newCall_object : checkBuiltinCall "object.__new__" ⟨[.type "object"], []⟩ = pure () := by kernel_rfl
theorem args_object_init (a : Value) : argsOk "object.__init__" ⟨[a], []⟩ := by unfold argsOk; kernel_rfl
theorem entry_object_init : entryFor table "object.__init__" = some Builtin.«object.__init__» := entryFor_of_tree (by kernel_rfl)
theorem plain_object_new : plainId "object.__new__" = true := by decide +kernel
theorem sub_object : isSubtype (.type "object") (.type "object") = pure true := by rw [isSubtype_type]; kernel_rfl
noncomputable abbrev objOf : Obj := { cls := .type "object", data := .plain }
theorem code_object_new {Q₁ : Value → Shared → Prop}
    (h : Q₁ (.ref s.heap.objs.size) { s with heap := s.heap.push objOf }) :
    codeAny (model prog w) A (.call (.builtin "object.__new__") ⟨[.type "object"], []⟩) (wants Q₁ E) s := by
  refine codeAny_of_tree ?_
  show wpAny _ A.in1 (do checkBuiltinCall "object.__new__" ⟨[.type "object"], []⟩; again (.builtin "object.__new__" ⟨[.type "object"], []⟩)) _ _ s
  refine wpAny_bind (wpAny_of_eq newCall_object (wpAny_pure ⟨plainId_quiet plain_object_new _, codeAny_builtin F.entry_object_new ?_⟩))
  rw [Around.under_plainId plain_object_new _]
  unfold Builtin.«object.__new__»
  have f1 := called_object.made
  repeat (any_goals (first | assumption | wp_step))
theorem call_object {Q : Value → Shared → Prop} (h : Q (.ref s.heap.objs.size) { s with heap := s.heap.push objOf }) : wpAny (model prog w) A (call (.type "object") []) Q E s := by
  refine callType_codes (Q₁ := fun obj s₁ => s₁.TypeIs obj "object" ∧ Q obj s₁) called_object typeCall_object entry_object_init (code_object_new ⟨⟨_, Heap.get?_push_size _ rfl, rfl⟩, h⟩) ?_
  rintro obj s₁ ⟨hT, hq⟩
  refine ⟨hT, args_object_init _, ?_⟩
  unfold Builtin.«object.__init__»
  repeat (any_goals (first | assumption | wp_step))
  exact ⟨rfl, hq⟩
end
end Mine
set_option maxHeartbeats 4000000
namespace Mine
section
variable {prog : Program} {w : World} {A : Around} {s : Shared} {E : Value → Shared → Prop} {l : List Nat} {t u : Tok} {value slice : Expr}
theorem item_S {k c : Nat} {Q : Value → Shared → Prop} (hl : l.length ≤ 2 ^ 40) (hc : l[k]? = some c) (h : ∀ t', Q (.str (S [c]) t') { s with toks := s.toks + 1 })
    (hs : subscripted slice false (.str (S l) t) (.int k u) = operate [.str (S l) t, .int k u] (getItem (.str (S l) t) (.int k u)) := by with_unfolding_all rfl)
    (ht : ∀ r, letTemporaryGo value (.str (S l) t) r = pure () := by intro _; with_unfolding_all rfl) :
    wpAny (model prog w) A (subscriptTail value slice (.str (S l) t) (.int k u)) Q E s := by
  have hk : k < l.length := (List.getElem?_eq_some_iff.mp hc).1
  refine item_str (by unfold fitsSsize; simp; omega) (by omega) (by rw [S_length]; omega) (fun _ => ?_) hs ht
  have e : Txt.item (S l) (k : Int) = S [c] := by
    unfold Txt.item
    have e1 : Txt.charAt (S l) (k : Int) = some c := by
      unfold Txt.charAt seqIndex?
      have h1 : ¬ ((k : Int) < 0) := by omega
      have h2 : (0 ≤ (k : Int) ∧ (k : Int) < ((S l).length : Int)) := ⟨by omega, by rw [S_length]; omega⟩
      simp only [if_neg h1, Bool.and_eq_true, decide_eq_true_eq, if_pos h2]
      show (S l).cps[(k : Int).toNat]? = some c
      rw [Int.toNat_natCast]
      show (l.toArray)[k]? = some c
      simpa using hc
    rw [e1]
    rfl
  rw [e]
  exact h _
end
section
variable {prog : Program} {w : World} {A : Around} {E : Value → Shared → Prop} {s : Shared} {env : Env}
theorem callWith_bfm {pos : Pos} {q : Addr} {f l : Value} {e : Expr} {Q : Value → Shared → Prop}
    (h : wpAny (model prog w) A (spliced (backTo pos (starEach [e] env))) (fun vs s₁ => s₁.heap.get? q = some (bfm f l) ∧ wpAny (model prog w) A (call (.ref q) vs) Q E s₁) E s)
    (he : starEach [e] env = [(false, eval e env)] := by rfl) :
    wpAny (model prog w) A (callWith pos (.ref q) [] (backTo pos (starEach [e] env)) []) Q E s := by
  rw [he] at h ⊢
  unfold callWith
  refine wpAny_bind (wpAny_holding (Calls.evalArgs_plain (wpAny_mono h (fun vs s₁ h₁ => ?_) fun _ _ x => x)))
  refine wpAny_bind (wpAny_standAt ?_)
  show wpAny _ _ (keeperOf (.ref q) >>= _) _ _ _
  refine wpAny_bind ?_
  unfold keeperOf
  refine wpAny_bind (wpAny_load h₁.1 ?_)
  dsimp only
  rw [if_pos (by rfl), if_pos (by rfl)]
  refine wpAny_pure ?_
  show wpAny _ _ (call (.ref q) vs >>= _) _ _ _
  exact wpAny_bind (wpAny_mono h₁.2 (fun r s₂ hr => wpAny_bind (wpAny_holding (wpAny_point (wpAny_pure hr)))) fun _ _ x => x)
end
section
variable {prog : Program} {w : World} {A : Around} {E : Value → Shared → Prop} {s : Shared} {env : Env}
theorem item_L {l : Addr} {vs : List Value} {n k : Nat} {u : Tok} {v : Value} {value slice : Expr} {Q : Value → Shared → Prop} (hl : s.heap.get? l = some (listOf vs.toArray n)) (hfit : vs.length ≤ 2 ^ 40) (hv : vs[k]? = some v) (h : Q v s)
    (hs : subscripted slice false (.ref l) (.int k u) = operate [.ref l, .int k u] (getItem (.ref l) (.int k u)) := by with_unfolding_all rfl) (ht : ∀ r, letTemporaryGo value (.ref l) r = pure () := by intro _; with_unfolding_all rfl) :
    wpAny (model prog w) A (subscriptTail value slice (.ref l) (.int k u)) Q E s := by
  have hk : k < vs.length := (List.getElem?_eq_some_iff.mp hv).1
  exact item_list ⟨_, hl, rfl, _, rfl⟩ (by omega) (by omega) (by rw [Int.toNat_natCast]; simpa using hv) h hs ht
theorem item_last {l : Addr} {vs : List Value} {n : Nat} {u : Tok} {v : Value} {value slice : Expr} {Q : Value → Shared → Prop} (hl : s.heap.get? l = some (listOf (vs ++ [v]).toArray n)) (h : Q v s)
    (hs : subscripted slice false (.ref l) (.int (-1) u) = operate [.ref l, .int (-1) u] (getItem (.ref l) (.int (-1) u)) := by with_unfolding_all rfl) (ht : ∀ r, letTemporaryGo value (.ref l) r = pure () := by intro _; with_unfolding_all rfl) :
    wpAny (model prog w) A (subscriptTail value slice (.ref l) (.int (-1) u)) Q E s := by
  have hil : s.heap.IsList l (vs ++ [v]).toArray := ⟨_, hl, rfl, _, rfl⟩
  refine subscriptTail_builtin hil.typeIs F.slot_list_getitem.lookup (wpAny_getItem_list_neg hil (by decide) (by simp; omega) (by decide) ?_ h) hs ht
  have : ((-1 : Int) + ((vs ++ [v]).toArray.size : Nat)).toNat = vs.length := by simp; omega
  rw [this]
  simp
theorem truthy_L {l : Addr} {vs : List Value} {n : Nat} {Q : Bool → Shared → Prop} (hl : s.heap.get? l = some (listOf vs.toArray n)) (hfit : vs.length ≤ 2 ^ 40) (h : Q (!vs.isEmpty) { s with toks := s.toks + 1 + 1 }) : wpAny (model prog w) A (truthy (.ref l)) Q E s := by
  refine wpAny_truthy_list ⟨_, hl, rfl, _, rfl⟩ (by simp; omega) ?_
  simpa using h
end
section
variable {M : Model} {A : Around} {E : Value → Shared → Prop} {s : Shared} {h₀ : Heap} {L a : Addr} {m : Str → Option Value} {cn : Str} {cs : Scope} {ccd : Value} {cl : List (Str × Addr)} {x : Str} {v : Value} {Q : Value → Shared → Prop}
theorem loadX_L (F : Fr h₀ L s.heap m) (hv : m x = some v) (h : Q v s)
    (hk : cs.kind = .function := by rfl) (hx : (envX cn cs L a ccd cl).kindOf x = some .local := by rfl) :
    wpAny M A (loadName (envX cn cs L a ccd cl) x) Q E s := wpAny_loadName_local hk hx F.ns hv h
end
end Mine
set_option maxHeartbeats 4000000
namespace Mine
/-- one part of fnmatch's _translate: none is the STAR -/
noncomputable def trStep (acc : List (Option (List Nat))) (c : Nat) : List (Option (List Nat)) :=
  if c = 42 then (if acc.getLast? = some none then acc else acc ++ [none]) else acc ++ [some (escRe c)]
noncomputable def trL (l : List Nat) : List (Option (List Nat)) := l.foldl trStep []
noncomputable def PartIs (q : Addr) (p : Option (List Nat)) (v : Value) : Prop := match p with | none => v = .ref q | some x => ∃ t, v = .str (S x) t
inductive PartsAre (q : Addr) : List (Option (List Nat)) → List Value → Prop
  | nil : PartsAre q [] []
  | snoc {ps vs p v} : PartsAre q ps vs → PartIs q p v → PartsAre q (ps ++ [p]) (vs ++ [v])
local macro_rules | `(tactic| walk_at "execs cons") => `(tactic| (k_here; (refine wpAny_execs_cons ?_); try dsimp only))
local macro_rules | `(tactic| walk_at "execs nil") => `(tactic| (k_here; (refine wpAny_execs_nil ?_); try dsimp only))
local macro_rules | `(tactic| walk_at "exec If") => `(tactic| refine if_stop ?_)
local macro_rules | `(tactic| walk_at "exec While") => `(tactic| refine while_stop ?_)
local macro_rules | `(tactic| walk_at "eval Name") => `(tactic| (k_here; (refine' nameX_L ?F ?v ?_ ?a ?b; (case F => k_asm); (case a => rfl); (case b => rfl); (case v => assumption); k_whole)))
local macro_rules | `(tactic| walk_at "exec For") => `(tactic| refine for_stop ?_)
theorem trL_take {l : List Nat} {i c : Nat} (h : l[i]? = some c) : trL (l.take (i + 1)) = trStep (trL (l.take i)) c := by
  unfold trL
  rw [List.take_add_one, h]
  simp
theorem PartsAre.last {q : Addr} {ps : List (Option (List Nat))} {vs : List Value} (h : PartsAre q ps vs) : (ps = [] ∧ vs = []) ∨ ∃ ps' p vs' v, ps = ps' ++ [p] ∧ vs = vs' ++ [v] ∧ PartsAre q ps' vs' ∧ PartIs q p v := by
  cases h with
  | nil => exact .inl ⟨rfl, rfl⟩
  | snoc h1 h2 => exact .inr ⟨_, _, _, _, rfl, rfl, h1, h2⟩
section
variable {prog : Program} {w : World} {A : Around} {E : Value → Shared → Prop} {s : Shared} {h₀ : Heap} {L : Addr} {m : Str → Option Value} {news : Led'}
theorem append_attr_K {l : Addr} {xs : Array Value} {n : Nat} {Q : Value → Shared → Prop} (F : Fr h₀ L s.heap m) (N : News h₀ L s.heap news) (hm : (l, listOf xs n) ∈ news)
    (h : ∀ b h', Fr h₀ L h' m → News h₀ L h' ((b, bfm (.builtin "list.append") (.ref l)) :: news) → (∀ p ∈ news, p.1 < b) → Q (.ref b) { s with heap := h', toks := s.toks + 1 }) :
    wpAny (model prog w) A (getAttr (.ref l) "append" true) Q E s :=
  append_attr (N.get hm) (h _ _ (F.push _) (N.push F _) fun p hp => Heap.lt_size (N p hp).1)
theorem call_bfm_K {b l : Addr} {xs : Array Value} {n : Nat} {x : Value} {Q : Value → Shared → Prop} {post : Led'} (F : Fr h₀ L s.heap m) (N : News h₀ L s.heap ((b, bfm (.builtin "list.append") (.ref l)) :: (l, listOf xs n) :: post)) (hbl : l < b) (hp : ∀ p ∈ post, p.1 ≠ l)
    (h : ∀ h', Fr h₀ L h' m → News h₀ L h' ((b, bfm (.builtin "list.append") (.ref l)) :: (l, listOf (xs.push x) (n + 1)) :: post) → Q .none { s with heap := h' }) (hsz : xs.size ≤ sizeLine) :
    wpAny (model prog w) A (call (.ref b) [x]) Q E s := by
  have z := N (l, listOf xs n) (.tail _ (.head _))
  refine call_bfm (N.get (.head _)) z.1 (fun h' hs ho' => h h' (F.change hs z.2.1 z.2.2) ?_) hsz
  exact news_set (pre := [(b, bfm (.builtin "list.append") (.ref l))]) N (fun p hp => by rw [List.mem_singleton.mp hp]; exact Nat.ne_of_gt hbl) hp hs ho'
end
section
variable {w : World} {p : Program} {loose : List Str} {mean : ExcName → Option Value} {mg mb : Str → Option Value}
theorem does_translate_parts (l : List Nat) (t u : Tok) (q : Addr) (hl : l.length ≤ 64) (hc : ∀ c ∈ l, c < 128 ∧ c ≠ 63 ∧ c ≠ 91) :
    Does w p loose mean mg mb 4 104 [.str (S l) t, .ref q, .str (S [46]) u] (fun g => g.get? q = some objOf)
      (fun r g h' => ∃ d vs n, r = .ref d ∧ h'.get? d = some (listOf vs.toArray n) ∧ g.get? d = none ∧ PartsAre q (trL l) vs) := by
  refine does_of ?_
  unfold Does0
  k_fill
  intro dp un gd cn cs a ccd cl outer A₀ base h₀ L m g s Q E hs B F X T hk hp ht hd hu hret
  refine wpAny_call ?_
  refine' my_def (binds := [(Str.ofString "pat", .str (S l) t), (Str.ofString "STAR", .ref q), (Str.ofString "QUESTION_MARK", .str (S [46]) u)]) hs B F X T ?kA ?kF ?kK ?k6 ?k7 ?k8 ?k9 ?kB ?_ ?c2 ?c3 ?c4 ?c5; (case kA => exact rfl); (case kF => exact rfl); (case kK => exact hk); (case k6 => k_is); (case k7 => k_is); (case k8 => ktr_room); (case k9 => exact BindsTo.of_eq rfl); (case kB => exact locs rfl); (case c2 => exact rfl); (case c3 => exact rfl); (case c4 => exact rfl); (case c5 => decide)
  intro L' h' F' N' B' X' T'
  dsimp only [List.length]
  iterate 10 (first | (k_unfold; (try dsimp only)) | (k_end; wrow_close) | walk1 | (dsimp only; walk1) | (leave1; walk_say "STEP leave1"; try dsimp only))
  rename Fr _ _ _ _ => F1
  rename News _ _ _ _ => N1
  rename_i l0 _ _ _
  refine append_attr_K F1 N1 (List.mem_cons_self ..) fun b hb F2 N2 hbl => ?_
  iterate 13 (first | (k_unfold; (try dsimp only)) | (k_end; wrow_close) | walk1 | (dsimp only; walk1) | (leave1; walk_say "STEP leave1"; try dsimp only))
  refine P.len_str (by rw [S_length]; omega) ?_
  rw [S_length]
  k_steps
  refine Stop.go ?_
  rename Fr _ _ _ _ => F3
  rename News _ _ _ _ => N3
  have N4 : News g L' _ [(b, bfm (.builtin "list.append") (.ref l0)), (l0, listOf #[] 0)] := fun p hp => N3 p (.tail _ hp)
  clear N3
  refine while_go F3 N4 (by (try dsimp only); omega) (fun n m₁ nx => ∃ i vs k, n = l.length - i ∧ i ≤ l.length ∧ nx = [(b, bfm (.builtin "list.append") (.ref l0)), (l0, listOf vs.toArray k)] ∧ vs.length ≤ i ∧ PartsAre q (trL (l.take i)) vs ∧
    m₁ "pat" = some (.str (S l) t) ∧ m₁ "STAR" = some (.ref q) ∧ m₁ "res" = some (.ref l0) ∧ m₁ "add" = some (.ref b) ∧ (∃ t, m₁ "i" = some (.int i t)) ∧ ∃ t, m₁ "n" = some (.int l.length t))
    l.length ⟨0, [], 0, rfl, Nat.zero_le _, rfl, Nat.le_refl _, .nil, rfl, rfl, rfl, rfl, ⟨_, rfl⟩, ⟨_, rfl⟩⟩ ?_
  rintro n m₁ news₁ h tk ⟨i, vs, k, rfl, hi, rfl, hvs, hpa, hm1, hm2, hm3, hm4, ⟨ti, hm5⟩, ⟨tn, hm6⟩⟩ htk F5 N5
  refine wpAny_isTrue_Compare1 (nameX_L F5 hm5 (nameX_L F5 hm6 (wpAny_lt_int (wpAny_truthy_bool ?_))))
  by_cases hlt : i < l.length
  · have hc1 := List.getElem?_eq_getElem hlt
    have hcc := hc _ (List.getElem_mem hlt)
    generalize l[i] = c at hc1 hcc
    rw [if_pos (by simpa using hlt)]
    refine wpAny_execs_cons (wpAny_Assign_Name (Subscript_ (nameX_L F5 hm1 (nameX_L F5 hm5 (item_S (by omega) hc1 fun t1 => ?_)))))
    refine storeX_L F5 N5 (fun h6 F6 N6 => ?_) rfl rfl
    k_steps
    refine Stop.go (wpAny_If (wpAny_isTrue_Compare1 ?_))
    rename Fr _ _ _ _ => F7
    rename News _ _ _ _ => N7
    refine nameX_L F7 rfl (Calls.Constant_str (eq_str (wpAny_truthy_bool ?_)))
    rw [show Str.ofString "*" = S [42] from by decide +kernel, S_beq]
    by_cases h42 : c = 42
    · subst h42
      rw [if_pos (by decide)]
      k_steps
      refine Stop.go (wpAny_If (isTrue_or (isTrue_not (isTrue_plain ?_))))
      refine nameX_L F7 hm3 (truthy_L (N7.get (.tail _ (.head _))) (by omega) ?_)
      rcases hpa.last with ⟨h1, rfl⟩ | ⟨ps', pp, vs', v, h1, rfl, h2, h3⟩
      · refine ite_pos rfl (ite_pos rfl ?_)
        iterate 4 (first | (k_unfold; (try dsimp only)) | (k_end; wrow_close) | walk1 | (dsimp only; walk1) | (leave1; walk_say "STEP leave1"; try dsimp only))
        refine callWith_bfm (f := .builtin "list.append") (l := .ref l0) (args_cons (nameX_L F7 hm2 ?_))
        refine args_nil ⟨N7.get (.head _), call_bfm_K F7 N7 (hbl _ (.head _)) (fun _ h => nomatch h) (fun h9 F9 N9 => ?_) (by rw [List.size_toArray, sizeLine_eq]; decide)⟩
        k_steps
        refine WEnd.go (by (try dsimp only); omega) (by omega) F9 N9 ⟨i + 1, [.ref q], k + 1, rfl, hlt, by simp, by simp, ?_, hm1, hm2, hm3, hm4, ⟨_, rfl⟩, ⟨_, hm6⟩⟩
        rw [trL_take hc1, trStep, if_pos rfl, h1, if_neg (by simp)]
        exact .snoc (vs := []) .nil rfl
      · rw [if_neg (by simp)]
        refine isTrue_or (wpAny_isTrue_Compare1 (Subscript_ (nameX_L F7 hm3 ?_)))
        iterate 3 (first | (k_unfold; (try dsimp only)) | (k_end; wrow_close) | walk1 | (dsimp only; walk1) | (leave1; walk_say "STEP leave1"; try dsimp only))
        refine item_last (N7.get (.tail _ (.head _))) (nameX_L F7 hm2 ?_)
        cases pp with
        | none =>
          have h3' : v = .ref q := h3
          subst h3'
          refine isnot_ref (wpAny_truthy_bool ?_)
          rw [if_neg (by decide)]
          refine isTrue_or_nil ?_
          rw [if_neg (by decide)]
          k_steps
          refine WEnd.go (by (try dsimp only); omega) (by omega) F7 N7 ⟨i + 1, _, k, rfl, hlt, rfl, by omega, ?_, hm1, hm2, hm3, hm4, ⟨_, rfl⟩, ⟨_, hm6⟩⟩
          rw [trL_take hc1, trStep, if_pos rfl, h1, if_pos (by simp)]
          exact .snoc h2 rfl
        | some x =>
          obtain ⟨tx, h3'⟩ := (h3 : ∃ t, v = .str (S x) t)
          subst h3'
          refine isnot_str_ref (wpAny_truthy_bool ?_)
          rw [if_pos rfl, if_pos rfl]
          iterate 4 (first | (k_unfold; (try dsimp only)) | (k_end; wrow_close) | walk1 | (dsimp only; walk1) | (leave1; walk_say "STEP leave1"; try dsimp only))
          refine callWith_bfm (f := .builtin "list.append") (l := .ref l0) (args_cons (nameX_L F7 hm2 ?_))
          refine args_nil ⟨N7.get (.head _), call_bfm_K F7 N7 (hbl _ (.head _)) (fun _ h => nomatch h) (fun h9 F9 N9 => ?_) (by rw [List.size_toArray, sizeLine_eq]; omega)⟩
          k_steps
          refine WEnd.go (by (try dsimp only); omega) (by omega) F9 N9 ⟨i + 1, (vs' ++ [.str (S x) tx]) ++ [.ref q], k + 1, rfl, hlt, by simp, by rw [List.length_append]; simp only [List.length_singleton]; omega, ?_, hm1, hm2, hm3, hm4, ⟨_, rfl⟩, ⟨_, hm6⟩⟩
          rw [trL_take hc1, trStep, if_pos rfl, h1, if_neg (by simp)]
          exact .snoc (.snoc h2 ⟨_, rfl⟩) rfl
    · rw [if_neg (by simp [h42])]
      k_steps
      refine Stop.go (wpAny_If (wpAny_isTrue_Compare1 (nameX_L F7 rfl (Calls.Constant_str (eq_str (wpAny_truthy_bool ?_))))))
      rw [show Str.ofString "?" = S [63] from by decide +kernel, S_beq, if_neg (by simp [hcc.2.1])]
      k_steps
      refine Stop.go (wpAny_If (wpAny_isTrue_Compare1 (nameX_L F7 rfl (Calls.Constant_str (eq_str (wpAny_truthy_bool ?_))))))
      rw [show Str.ofString "[" = S [91] from by decide +kernel, S_beq, if_neg (by simp [hcc.2.2])]
      iterate 4 (first | (k_unfold; (try dsimp only)) | (k_end; wrow_close) | walk1 | (dsimp only; walk1) | (leave1; walk_say "STEP leave1"; try dsimp only))
      refine callWith_bfm (f := .builtin "list.append") (l := .ref l0) (args_cons ?_)
      iterate 7 (first | (k_unfold; (try dsimp only)) | (k_end; wrow_close) | walk1 | (dsimp only; walk1) | (leave1; walk_say "STEP leave1"; try dsimp only))
      refine (does_escape c t1 hcc.1).use B' F7 N7 X' T' rfl trivial (by (try dsimp only); omega) (by ktr_room) (by ktr_units) ?_
      rintro r h8 tk8 k8 htk8 htk8' F8 N8 ⟨t8, rfl⟩
      refine args_nil ⟨N8.get (.head _), call_bfm_K F8 N8 (hbl _ (.head _)) (fun _ h => nomatch h) (fun h9 F9 N9 => ?_) (by rw [List.size_toArray, sizeLine_eq]; omega)⟩
      k_steps
      refine WEnd.go htk8' (by omega) F9 N9 ⟨i + 1, vs ++ [.str (S (escRe c)) t8], k + 1, rfl, hlt, by simp, by simp; omega, ?_, hm1, hm2, hm3, hm4, ⟨_, rfl⟩, ⟨_, hm6⟩⟩
      rw [trL_take hc1, trStep, if_neg h42]
      exact .snoc hpa ⟨_, rfl⟩
  · rw [if_neg (by simpa using hlt)]
    have hil : i = l.length := by omega
    subst hil
    k_steps
    rw [List.take_length] at hpa
    dsimp only
    exact hret _ _ _ F5.keep ⟨l0, vs, k, rfl, N5.get (.tail _ (.head _)), N5.fresh (.tail _ (.head _)), hpa⟩
end
end Mine
set_option maxHeartbeats 4000000
namespace Mine
/-- a list of strs -/
inductive Txts : List Value → List (List Nat) → Prop
  | nil : Txts [] []
  | cons {x t vs xs} : Txts vs xs → Txts (.str (S x) t :: vs) (x :: xs)
theorem Txts.snoc {vs : List Value} {xs : List (List Nat)} (h : Txts vs xs) (x : List Nat) (t : Tok) : Txts (vs ++ [.str (S x) t]) (xs ++ [x]) := by
  induction h with
  | nil => exact .cons .nil
  | cons _ ih => exact .cons ih
theorem Txts.strs {vs : List Value} {xs : List (List Nat)} (h : Txts vs xs) : StrsAre vs (xs.map S) := by
  induction h with
  | nil => exact .nil
  | cons _ ih => exact .cons _ _ ih
theorem Txts.len {vs : List Value} {xs : List (List Nat)} (h : Txts vs xs) : vs.length = xs.length := by
  induction h with
  | nil => rfl
  | cons _ ih => simp [ih]
theorem Txts.get {vs : List Value} {xs : List (List Nat)} (h : Txts vs xs) {i : Nat} {x : List Nat} (hx : xs[i]? = some x) : ∃ t, vs[i]? = some (.str (S x) t) := by
  induction h generalizing i with
  | nil => simp at hx
  | @cons y t vs xs _ ih =>
    cases i with
    | zero => (have e : y = x := by simpa using hx); subst e; exact ⟨t, rfl⟩
    | succ j => exact ih (by simpa using hx)
theorem Txts.last {vs : List Value} {xs : List (List Nat)} {x : List Nat} (h : Txts vs (xs ++ [x])) : ∃ vs' t, vs = vs' ++ [.str (S x) t] ∧ Txts vs' xs := by
  induction xs generalizing vs with
  | nil =>
    cases h with
    | cons h => cases h; exact ⟨[], _, rfl, .nil⟩
  | cons y ys ih =>
    cases h with
    | cons h =>
      obtain ⟨vs', t, rfl, h'⟩ := ih h
      exact ⟨_ :: vs', t, rfl, .cons h'⟩
theorem Txts.take {vs : List Value} {xs : List (List Nat)} (h : Txts vs xs) : ∀ k : Nat, Txts (vs.take k) (xs.take k) := by
  induction h with
  | nil => intro k; simpa using Txts.nil
  | cons _ ih =>
    intro k
    cases k with
    | zero => exact .nil
    | succ k => exact .cons (ih k)
theorem Txts.drop {vs : List Value} {xs : List (List Nat)} (h : Txts vs xs) : ∀ k : Nat, Txts (vs.drop k) (xs.drop k) := by
  induction h with
  | nil => intro k; simpa using Txts.nil
  | cons h ih =>
    intro k
    cases k with
    | zero => exact .cons h
    | succ k => exact ih k
theorem join_flat (xs : List (List Nat)) : Str.join (S []) (xs.map S) = S xs.flatten := by
  induction xs with
  | nil => rfl
  | cons x r ih =>
    show Str.join ⟨#[]⟩ (S x :: r.map S) = _
    rw [join_nil_cons]
    have ih' : Str.join ⟨#[]⟩ (r.map S) = S r.flatten := ih
    rw [ih', S_app]
    rfl
theorem sum_flat (xs : List (List Nat)) : ((xs.map S).map (·.length)).sum = xs.flatten.length := by
  rw [List.map_map]
  induction xs with
  | nil => rfl
  | cons x r ih => simp only [List.map_cons, List.sum_cons, List.flatten_cons, List.length_append, ih, Function.comp, S_length]
section
variable {prog : Program} {w : World} {A : Around} {E : Value → Shared → Prop} {s : Shared} {h₀ : Heap} {L : Addr} {m : Str → Option Value}
theorem join_S {D : Addr} {vs : List Value} {n : Nat} {xs : List (List Nat)} {t : Tok} {Q : Value → Shared → Prop} (hl : s.heap.get? D = some (listOf vs.toArray n)) (hi : Txts vs xs) (hw : xs.flatten.length + xs.length ≤ 1048576) (ht : 1 ≤ s.toks)
    (h : ∀ t' k, 1 ≤ k → Q (.str (S xs.flatten) t') { s with toks := k }) : wpAny (model prog w) A (call (.builtin "str.join") [.str (S []) t, .ref D]) Q E s := by
  refine wpAny_with_toks (n := 1) ht ?_
  refine join_listW (ys := xs.map S) ⟨_, hl, rfl, _, rfl⟩ hi.strs (by decide) (by rw [sum_flat, List.length_map]; exact hw) fun t' k hk => ?_
  have e : Txt.join (S []) (xs.map S) = S xs.flatten := by
    show Builtin.Str.glued (S []) (xs.map S) = _
    rw [StrLaws.glued_eq_join, join_flat]
  rw [e]
  exact h t' k hk
/-- append to a list that stands first in the ledger -/
theorem append_first {D : Addr} {its : Array Value} {n : Nat} {x : Value} {Q : Value → Shared → Prop} {post : Led'} (F : Fr h₀ L s.heap m) (N : News h₀ L s.heap ((D, listOf its n) :: post)) (hp : ∀ p ∈ post, p.1 ≠ D)
    (h : ∀ h', Fr h₀ L h' m → News h₀ L h' ((D, listOf (its.push x) (n + 1)) :: post) → Q .none { s with heap := h' }) (hsz : its.size ≤ sizeLine) :
    wpAny (model prog w) A (call (.builtin "list.append") [.ref D, x]) Q E s := append_head F N hp h hsz
end
section
variable {prog : Program} {w : World} {A : Around} {E : Value → Shared → Prop} {s : Shared} {h₀ : Heap} {L a : Addr} {m : Str → Option Value} {cn : Str} {cs : Scope} {ccd : Value} {cl : List (Str × Addr)}
theorem fstr3 {ca cc xn : Str} {la lc f : List Nat} {t : Tok} {n1 n2 : Nat} {p1 p2 p3 p4 p5 : Pos} {Q : Value → Shared → Prop} (F : Fr h₀ L s.heap m) (hv : m xn = some (.str (S f) t)) (ha : ca = S la) (hc : cc = S lc) (hlen : la.length + f.length + lc.length ≤ 1048576) (ht : 1 ≤ s.toks)
    (h : ∀ t' k, 1 ≤ k → Q (.str (S (la ++ f ++ lc)) t') { s with toks := k })
    (hk : cs.kind = .function := by rfl) (hx : (envX cn cs L a ccd cl).kindOf xn = some .local := by rfl) (hd : (xn == ("__debug__" : Str)) = false := by decide) :
    wpAny (model prog w) A (eval (.JoinedStr [.Constant (.str ca) n1 p1, .FormattedValue (.Name xn p2) (-1) none p3, .Constant (.str cc) n2 p4] p5) (envX cn cs L a ccd cl)) Q E s := by
  subst ha hc
  have e0 : Str.empty ++ S la = S la := by show S [] ++ S la = _; rw [S_app]; rfl
  refine wpAny_with_toks (n := 1) ht ?_
  refine JoinedStr_many (joinParts_cons (Calls.Constant_str ⟨by rw [e0, S_length, sizeLine_eq]; omega, ?_⟩))
  rw [e0]
  refine joinParts_cons (FormattedValue_plain (nameX_L F hv (formatField_str (fun t' tk => ⟨by rw [S_app, S_length, List.length_append, sizeLine_eq]; omega, ?_⟩) (by rw [S_length, sizeLine_eq]; omega)) hk hx hd))
  rw [S_app]
  refine joinParts_consE (joinParts_cons (Calls.Constant_str ⟨by rw [S_app, S_length, List.length_append, List.length_append, sizeLine_eq]; omega, ?_⟩))
  rw [S_app]
  refine joinParts_nil (fun hk2 => h _ _ hk2) (by rw [S_length, List.length_append, List.length_append, sizeLine_eq]; omega)
end
theorem news_add {h₀ h h' : Heap} {L d : Addr} {m : Str → Option Value} {news : Led'} {o : Obj} (F : Fr h₀ L h m) (N : News h₀ L h' news) (hd : h'.get? d = some o) (hf : h.get? d = none) : News h₀ L h' ((d, o) :: news) := by
  have h1 : d ≠ L := fun e => by
    obtain ⟨_, _, _, ho1, _⟩ := F.ns
    rw [e, ho1] at hf
    cases hf
  have h2 : h₀.get? d = none := by
    cases e : h₀.get? d with
    | none => rfl
    | some o' => rw [F.keep _ _ e] at hf; cases hf
  intro p hp
  rcases List.mem_cons.mp hp with rfl | hp
  · exact ⟨hd, h1, h2⟩
  · exact N p hp
end Mine
set_option maxHeartbeats 4000000
namespace Mine
noncomputable abbrev Parts := List (Option (List Nat))
/-- ".*" -/
noncomputable abbrev dotStar : List Nat := [46, 42]
/-- "(?>.*?" -/
noncomputable abbrev opens : List Nat := [40, 63, 62, 46, 42, 63]
noncomputable def jseg (f : List Nat) : Parts → List Nat
  | [] => dotStar ++ f
  | some x :: r => jseg (f ++ x) r
  | none :: r => opens ++ f ++ [41] ++ jseg [] r
noncomputable def jhead : Parts → List Nat
  | [] => []
  | some x :: r => x ++ jhead r
  | none :: r => jseg [] r
noncomputable def jtail : Parts → List Nat
  | none :: r => jseg [] r
  | _ => []
/-- "(?s:" ... ")\Z" -/
noncomputable def joinL (ps : Parts) : List Nat := [40, 63, 115, 58] ++ jhead ps ++ [41, 92, 90]
noncomputable def NoAdj (ps : Parts) : Prop := ∀ i : Nat, ps[i]? = some none → ps[i + 1]? ≠ some none
theorem PartsAre.get {q : Addr} {ps : Parts} {vs : List Value} (h : PartsAre q ps vs) : ps.length = vs.length ∧ ∀ (i : Nat) (p : Option (List Nat)), ps[i]? = some p → ∃ v, vs[i]? = some v ∧ PartIs q p v := by
  induction h with
  | nil => exact ⟨rfl, fun i p h => by simp at h⟩
  | @snoc ps vs p v _ hp ih =>
    refine ⟨by simp [ih.1], fun i p' h => ?_⟩
    rw [List.getElem?_append] at h
    rw [List.getElem?_append, ← ih.1]
    split at h
    · rename_i hlt
      rw [if_pos hlt]; exact ih.2 i p' h
    · rename_i hlt
      rw [if_neg hlt]
      cases hi : i - ps.length with
      | zero => rw [hi] at h; simp at h; exact ⟨v, rfl, h ▸ hp⟩
      | succ j => rw [hi] at h; simp at h
theorem drop_at {α : Type} {l : List α} {i : Nat} {a : α} (h : l[i]? = some a) : l.drop i = a :: l.drop (i + 1) := by
  obtain ⟨hi, e⟩ := List.getElem?_eq_some_iff.mp h
  rw [List.drop_eq_getElem_cons hi, e]
theorem drop_end {α : Type} {l : List α} {i : Nat} (h : l.length ≤ i) : l.drop i = [] := List.drop_eq_nil_of_le h
theorem jhead_some {ps : Parts} {i : Nat} {x : List Nat} (h : ps[i]? = some (some x)) : jhead (ps.drop i) = x ++ jhead (ps.drop (i + 1)) := by rw [drop_at h]; rfl
theorem jhead_none {ps : Parts} {i : Nat} (h : ps[i]? = some none) : jhead (ps.drop i) = jtail (ps.drop i) := by rw [drop_at h]; rfl
theorem jseg_some {ps : Parts} {i : Nat} {f x : List Nat} (h : ps[i]? = some (some x)) : jseg f (ps.drop i) = jseg (f ++ x) (ps.drop (i + 1)) := by rw [drop_at h]; rfl
theorem jseg_none {ps : Parts} {i : Nat} {f : List Nat} (h : ps[i]? = some none) : jseg f (ps.drop i) = opens ++ f ++ [41] ++ jtail (ps.drop i) := by rw [drop_at h]; rfl
theorem jseg_end {ps : Parts} {i : Nat} {f : List Nat} (h : ps.length ≤ i) : jseg f (ps.drop i) = dotStar ++ f := by rw [drop_end h]; rfl
theorem jtail_none {ps : Parts} {i : Nat} (h : ps[i]? = some none) : jtail (ps.drop i) = jseg [] (ps.drop (i + 1)) := by rw [drop_at h]; rfl
theorem jseg_len (r : Parts) : ∀ f : List Nat, f.length ≤ (jseg f r).length := by
  induction r with
  | nil => intro f; simp only [jseg, List.length_append]; omega
  | cons p r ih =>
    intro f
    cases p with
    | none => simp only [jseg, List.length_append]; omega
    | some x => exact Nat.le_trans (by simp) (ih (f ++ x))
noncomputable def JnB (d q l0 b : Addr) (len i : Nat) (m : Str → Option Value) : Prop :=
  m "inp" = some (.ref d) ∧ m "STAR" = some (.ref q) ∧ m "res" = some (.ref l0) ∧ m "add" = some (.ref b) ∧ (∃ t, m "i" = some (.int i t)) ∧ ∃ t, m "n" = some (.int len t)
theorem part_some {ps : Parts} {i : Nat} (h : i < ps.length) (h' : ¬ ps[i]? = some none) : ∃ x, ps[i]? = some (some x) := by
  rw [List.getElem?_eq_getElem h] at h' ⊢
  cases e : ps[i] with
  | none => exact absurd (by rw [e]) h'
  | some x => exact ⟨x, rfl⟩
local macro_rules | `(tactic| walk_at "execs cons") => `(tactic| (k_here; (refine wpAny_execs_cons ?_); try dsimp only))
local macro_rules | `(tactic| walk_at "execs nil") => `(tactic| (k_here; (refine wpAny_execs_nil ?_); try dsimp only))
local macro_rules | `(tactic| walk_at "exec If") => `(tactic| refine if_stop ?_)
local macro_rules | `(tactic| walk_at "exec While") => `(tactic| refine while_stop ?_)
local macro_rules | `(tactic| walk_at "eval Name") => `(tactic| (k_here; (refine' nameX_L ?F ?v ?_ ?a ?b; (case F => k_asm); (case a => rfl); (case b => rfl); (case v => assumption); k_whole)))
local macro_rules | `(tactic| walk_at "exec For") => `(tactic| refine for_stop ?_)
local macro_rules | `(tactic| walk_at "loadName") => `(tactic| (k_here; (refine' loadX_L ?F ?v ?_ ?a ?b; (case F => k_asm); (case a => rfl); (case b => rfl); (case v => first | rfl | assumption); k_whole)))
section
variable {w : World} {p : Program} {loose : List Str} {mean : ExcName → Option Value} {mg mb : Str → Option Value}
theorem does_join_parts (ps : Parts) (d q : Addr) (hps : ps.length ≤ 64) (hna : NoAdj ps) (htot : (jhead ps).length ≤ 4096) :
    Does w p loose mean mg mb 2 111 [.ref d, .ref q] (fun g => ∃ vs n, g.get? d = some (listOf vs.toArray n) ∧ PartsAre q ps vs)
      (fun r _ _ => ∃ t, r = .str (S (joinL ps)) t) := by
  refine does_of ?_
  unfold Does0
  k_fill
  intro dp un gd cn cs a ccd cl outer A₀ base h₀ L m g s Q E hs B F X T hk hp ht hd hu hret
  obtain ⟨vs, n0, hvd, hpa⟩ := hp
  have hlen := hpa.get.1
  have hget := hpa.get.2
  refine wpAny_call ?_
  refine' my_def (binds := [(Str.ofString "inp", .ref d), (Str.ofString "STAR", .ref q)]) hs B F X T ?kA ?kF ?kK ?k6 ?k7 ?k8 ?k9 ?kB ?_ ?c2 ?c3 ?c4 ?c5; (case kA => exact rfl); (case kF => exact rfl); (case kK => exact hk); (case k6 => k_is); (case k7 => k_is); (case k8 => ktr_room); (case k9 => exact BindsTo.of_eq rfl); (case kB => exact locs rfl); (case c2 => exact rfl); (case c3 => exact rfl); (case c4 => exact rfl); (case c5 => decide)
  intro L' h' F' N' B' X' T'
  dsimp only [List.length]
  iterate 10 (first | (k_unfold; (try dsimp only)) | (k_end; wrow_close) | walk1 | (dsimp only; walk1) | (leave1; walk_say "STEP leave1"; try dsimp only))
  rename Fr _ _ _ _ => F1
  rename News _ _ _ _ => N1
  rename_i l0 _ _ _
  refine append_attr_K F1 N1 (List.mem_cons_self ..) fun b hb F2 N2 hbl => ?_
  iterate 13 (first | (k_unfold; (try dsimp only)) | (k_end; wrow_close) | walk1 | (dsimp only; walk1) | (leave1; walk_say "STEP leave1"; try dsimp only))
  refine len_list (items := vs.toArray) ⟨_, (Fr.keep (by assumption)) _ _ hvd, rfl, _, rfl⟩ (by simp; omega) ?_
  rw [List.size_toArray, ← hlen]
  k_steps
  refine Stop.go ?_
  rename Fr _ _ _ _ => F3
  rename News _ _ _ _ => N3
  have N4 : News g L' _ [(b, bfm (.builtin "list.append") (.ref l0)), (l0, listOf #[] 0)] := fun p hp => N3 p (.tail _ hp)
  clear N3
  have hbl0 : l0 < b := hbl _ (.head _)
  clear hbl
  refine wpAny_mono (Q := fun f s' => f = .next ∧ ∃ h' tk' m' i rvs xs k, s' = { s with heap := h', toks := tk' } ∧ 1 ≤ tk' ∧ i ≤ ps.length ∧ Fr g L' h' m' ∧ News g L' h' [(b, bfm (.builtin "list.append") (.ref l0)), (l0, listOf rvs.toArray k)] ∧ Txts rvs xs ∧ xs.length ≤ i ∧
    xs.flatten ++ jtail (ps.drop i) = jhead ps ∧ (i < ps.length → ps[i]? = some none) ∧ JnB d q l0 b ps.length i m') (E := fun _ _ => False) ?_ ?_ (fun _ _ e => e.elim)
  · refine while_go F3 N4 (by (try dsimp only); omega) (fun n m₁ nx => ∃ i rvs xs k, n = ps.length - i ∧ i ≤ ps.length ∧ nx = [(b, bfm (.builtin "list.append") (.ref l0)), (l0, listOf rvs.toArray k)] ∧ Txts rvs xs ∧ xs.length ≤ i ∧
      xs.flatten ++ jhead (ps.drop i) = jhead ps ∧ JnB d q l0 b ps.length i m₁) ps.length ⟨0, [], [], 0, rfl, Nat.zero_le _, rfl, .nil, Nat.le_refl _, rfl, rfl, rfl, rfl, rfl, ⟨_, rfl⟩, ⟨_, rfl⟩⟩ ?_
    rintro n m₁ news₁ h tk ⟨i, rvs, xs, k, rfl, hi, rfl, htx, hxl, hcat, hb'⟩ htk F5 N5
    obtain ⟨hm1, hm2, hm3, hm4, ⟨ti, hm5⟩, ⟨tn, hm6⟩⟩ := id hb'
    refine wpAny_mono (Q := fun b s₂ => (b = true ↔ ∃ x, ps[i]? = some (some x)) ∧ s₂ = { s with heap := h, toks := tk }) (E := NoE) ?_ ?_ (fun _ _ e => e)
    · refine isTrue_and (wpAny_isTrue_Compare1 (nameX_L F5 hm5 (nameX_L F5 hm6 (wpAny_lt_int (wpAny_truthy_bool ?_)))))
      by_cases hlt : i < ps.length
      · rw [if_pos (by simpa using hlt)]
        refine isTrue_and (wpAny_isTrue_Compare1 (Subscript_ (nameX_L F5 hm1 (nameX_L F5 hm5 ?_))))
        by_cases hn : ps[i]? = some none
        · obtain ⟨v, hv, hpv⟩ := hget _ _ hn
          have hpv' : v = .ref q := hpv
          subst hpv'
          refine item_L (F5.keep _ _ hvd) (by omega) hv (nameX_L F5 hm2 (isnot_ref (wpAny_truthy_bool ?_)))
          rw [if_neg (by decide)]
          exact ⟨by simp [hn], rfl⟩
        · obtain ⟨x, hx⟩ := part_some hlt hn
          obtain ⟨v, hv, tx, hpv⟩ := hget _ _ hx
          subst hpv
          refine item_L (F5.keep _ _ hvd) (by omega) hv (nameX_L F5 hm2 (isnot_str_ref (wpAny_truthy_bool ?_)))
          rw [if_pos rfl]
          exact isTrue_and_nil ⟨by simp [hx], rfl⟩
      · rw [if_neg (by simpa using hlt)]
        exact ⟨by simp; intro x hx; exact absurd (List.getElem?_eq_some_iff.mp hx).1 hlt, rfl⟩
    · rintro bb s₂ ⟨hbb, rfl⟩
      cases bb with
      | true =>
        obtain ⟨x, hx⟩ := hbb.mp rfl
        obtain ⟨v, hv, tx, hpv⟩ := hget _ _ hx
        subst hpv
        rw [if_pos rfl]
        iterate 4 (first | (k_unfold; (try dsimp only)) | (k_end; wrow_close) | walk1 | (dsimp only; walk1) | (leave1; walk_say "STEP leave1"; try dsimp only))
        refine callWith_bfm (f := .builtin "list.append") (l := .ref l0) (args_cons (Subscript_ (nameX_L F5 hm1 (nameX_L F5 hm5 (item_L (F5.keep _ _ hvd) (by omega) hv ?_)))))
        refine args_nil ⟨N5.get (.head _), call_bfm_K F5 N5 hbl0 (fun _ h => nomatch h) (fun h9 F9 N9 => ?_) (by rw [List.size_toArray, htx.len, sizeLine_eq]; omega)⟩
        k_steps
        rename Fr _ _ _ _ => F10
        rename News _ _ _ _ => N10
        have hlt := (List.getElem?_eq_some_iff.mp hx).1
        refine WEnd.go (by (try dsimp only); omega) (by omega) F10 N10 ⟨i + 1, rvs ++ [.str (S x) tx], xs ++ [x], k + 1, rfl, hlt, by simp, htx.snoc _ _, by simp; omega, ?_, hm1, hm2, hm3, hm4, ⟨_, rfl⟩, ⟨_, hm6⟩⟩
        rw [jhead_some hx] at hcat
        rw [← hcat]
        simp
      | false =>
        rw [if_neg (by decide)]
        have hno : i < ps.length → ps[i]? = some none := fun hlt => by
          by_cases hn : ps[i]? = some none
          · exact hn
          · exact absurd (hbb.mpr (part_some hlt hn)) (by decide)
        refine ⟨rfl, h, tk, m₁, i, rvs, xs, k, rfl, htk, hi, F5, N5, htx, hxl, ?_, hno, hb'⟩
        by_cases hlt : i < ps.length
        · rw [← jhead_none (hno hlt)]; exact hcat
        · rw [drop_end (by omega)] at hcat ⊢; exact hcat
  · rintro f s' ⟨rfl, h6, tk6, m6, i6, rvs, xs, k6, rfl, htk6, hi6, F6, N6, htx, hxl, hcat, hno, hb'⟩
    dsimp only
    k_steps
    refine Stop.go ?_
    refine wpAny_mono (Q := fun f s' => f = .next ∧ ∃ h' tk' m' rvs xs k, s' = { s with heap := h', toks := tk' } ∧ 1 ≤ tk' ∧ Fr g L' h' m' ∧ News g L' h' [(b, bfm (.builtin "list.append") (.ref l0)), (l0, listOf rvs.toArray k)] ∧ Txts rvs xs ∧ xs.length ≤ 256 ∧
      xs.flatten = jhead ps ∧ JnB d q l0 b ps.length ps.length m') (E := fun _ _ => False) ?_ ?_ (fun _ _ e => e.elim)
    · refine while_go F6 N6 (by (try dsimp only); omega) (fun n m₁ nx => ∃ i rvs xs k, n = ps.length - i ∧ i ≤ ps.length ∧ nx = [(b, bfm (.builtin "list.append") (.ref l0)), (l0, listOf rvs.toArray k)] ∧ Txts rvs xs ∧ xs.length ≤ 2 * i ∧
        xs.flatten ++ jtail (ps.drop i) = jhead ps ∧ (i < ps.length → ps[i]? = some none) ∧ JnB d q l0 b ps.length i m₁) (ps.length - i6) ⟨i6, rvs, xs, k6, rfl, hi6, rfl, htx, by omega, hcat, hno, hb'⟩ ?_
      clear hb' hno hcat hxl htx F6 hi6 htk6 N6
      clear rvs xs
      rintro n m₁ news₁ h tk ⟨i, rvs, xs, k, rfl, hi, rfl, htx, hxl, hcat, hno, hb'⟩ htk F5 N5
      obtain ⟨hm1, hm2, hm3, hm4, ⟨ti, hm5⟩, ⟨tn, hm6⟩⟩ := id hb'
      refine wpAny_isTrue_Compare1 (nameX_L F5 hm5 (nameX_L F5 hm6 (wpAny_lt_int (wpAny_truthy_bool ?_))))
      by_cases hlt : i < ps.length
      · rw [if_pos (by simpa using hlt)]
        have hnn := hno hlt
        have hxl2 : xs.flatten.length ≤ 4096 := by
          have := congrArg List.length hcat
          rw [List.length_append] at this
          omega
        obtain ⟨v, hv, hpv⟩ := hget _ _ hnn
        have hpv' : v = .ref q := hpv
        subst hpv'
        iterate 6 (first | (k_unfold; (try dsimp only)) | (k_end; wrow_close) | walk1 | (dsimp only; walk1) | (leave1; walk_say "STEP leave1"; try dsimp only))
        refine item_L (F5.keep _ _ hvd) (by omega) hv (nameX_L F5 hm2 (is_ref (wpAny_truthy_bool ?_)))
        k_steps
        rename Fr _ _ _ _ => F7
        rename News _ _ _ _ => N7
        refine Stop.go (wpAny_If (wpAny_isTrue_Compare1 (nameX_L F7 rfl (nameX_L F7 hm6 (eq_int (wpAny_truthy_bool ?_))))))
        by_cases hend : i + 1 = ps.length
        · rw [if_pos (by simp; omega)]
          iterate 4 (first | (k_unfold; (try dsimp only)) | (k_end; wrow_close) | walk1 | (dsimp only; walk1) | (leave1; walk_say "STEP leave1"; try dsimp only))
          refine callWith_bfm (f := .builtin "list.append") (l := .ref l0) (args_cons (Calls.Constant_str ?_))
          refine args_nil ⟨N7.get (.head _), call_bfm_K F7 N7 hbl0 (fun _ h => nomatch h) (fun h9 F9 N9 => ?_) (by rw [List.size_toArray, htx.len, sizeLine_eq]; omega)⟩
          k_steps
          rw [show Str.ofString ".*" = S dotStar from by decide +kernel, List.push_toArray] at N9
          refine ⟨rfl, h9, _, _, _, xs ++ [dotStar], k + 1, rfl, by (try dsimp only); omega, F9, N9, htx.snoc _ _, by simp; omega, ?_, ?_⟩
          · rw [← hcat, jtail_none hnn, drop_end (by omega)]
            simp [jseg]
          · exact ⟨hm1, hm2, hm3, hm4, by rw [← hend]; exact ⟨_, rfl⟩, ⟨_, hm6⟩⟩
        · rw [if_neg (by simp; omega)]
          have hlt1 : i + 1 < ps.length := by omega
          obtain ⟨x, hx⟩ := part_some hlt1 (hna _ hnn)
          obtain ⟨v1, hv1, tx, hpv1⟩ := hget _ _ hx
          subst hpv1
          iterate 7 (first | (k_unfold; (try dsimp only)) | (k_end; wrow_close) | walk1 | (dsimp only; walk1) | (leave1; walk_say "STEP leave1"; try dsimp only))
          refine item_L (k := i + 1) (F7.keep _ _ hvd) (by omega) hv1 (nameX_L F7 hm2 (isnot_str_ref (wpAny_truthy_bool ?_)))
          k_steps
          rename Fr _ _ _ _ => F8
          rename News _ _ _ _ => N8
          rename_i fl _ hfl _
          refine Stop.go ?_
          refine wpAny_mono (Q := fun f s' => f = .next ∧ ∃ h' tk' m' j fvs fs k', s' = { s with heap := h', toks := tk' } ∧ 1 ≤ tk' ∧ i < j ∧ j ≤ ps.length ∧ Fr g L' h' m' ∧ News g L' h' [(fl, listOf fvs.toArray k'), (b, bfm (.builtin "list.append") (.ref l0)), (l0, listOf rvs.toArray k)] ∧ Txts fvs fs ∧ fs.length ≤ 64 ∧
            jseg fs.flatten (ps.drop j) = jseg [] (ps.drop (i + 1)) ∧ (j < ps.length → ps[j]? = some none) ∧ JnB d q l0 b ps.length j m' ∧ m' "fixed" = some (.ref fl)) (E := NoE) ?_ ?_ (fun _ _ e => e.elim)
          · refine while_go F8 N8 (by (try dsimp only); omega) (fun n m₁ nx => ∃ j fvs fs k', n = ps.length - j ∧ i < j ∧ j ≤ ps.length ∧ nx = [(fl, listOf fvs.toArray k'), (b, bfm (.builtin "list.append") (.ref l0)), (l0, listOf rvs.toArray k)] ∧ Txts fvs fs ∧ fs.length ≤ j ∧
              jseg fs.flatten (ps.drop j) = jseg [] (ps.drop (i + 1)) ∧ JnB d q l0 b ps.length j m₁ ∧ m₁ "fixed" = some (.ref fl)) (ps.length - (i + 1)) ⟨i + 1, [], [], 0, rfl, by omega, by omega, rfl, .nil, Nat.zero_le _, rfl, ⟨hm1, hm2, hm3, hm4, ⟨_, rfl⟩, ⟨_, hm6⟩⟩, rfl⟩ ?_
            clear F8 N8 hm1 hm2 hm3 hm4 hm5 hm6 hx hv1
            rintro n m₁ news₁ h tk ⟨j, fvs, fs, k', rfl, hij, hj, rfl, hftx, hfl', hseg, hb', hm7⟩ htk F5 N5
            obtain ⟨hm1, hm2, hm3, hm4, ⟨ti, hm5⟩, ⟨tn, hm6⟩⟩ := id hb'
            refine wpAny_mono (Q := fun b s₂ => (b = true ↔ ∃ x, ps[j]? = some (some x)) ∧ s₂ = { s with heap := h, toks := tk }) (E := NoE) ?_ ?_ (fun _ _ e => e)
            · refine isTrue_and (wpAny_isTrue_Compare1 (nameX_L F5 hm5 (nameX_L F5 hm6 (wpAny_lt_int (wpAny_truthy_bool ?_)))))
              by_cases hlt : j < ps.length
              · rw [if_pos (by simpa using hlt)]
                refine isTrue_and (wpAny_isTrue_Compare1 (Subscript_ (nameX_L F5 hm1 (nameX_L F5 hm5 ?_))))
                by_cases hn : ps[j]? = some none
                · obtain ⟨v, hv, hpv⟩ := hget _ _ hn
                  have hpv' : v = .ref q := hpv
                  subst hpv'
                  refine item_L (F5.keep _ _ hvd) (by omega) hv (nameX_L F5 hm2 (isnot_ref (wpAny_truthy_bool ?_)))
                  rw [if_neg (by decide)]
                  exact ⟨by simp [hn], rfl⟩
                · obtain ⟨x, hx⟩ := part_some hlt hn
                  obtain ⟨v, hv, tx, hpv⟩ := hget _ _ hx
                  subst hpv
                  refine item_L (F5.keep _ _ hvd) (by omega) hv (nameX_L F5 hm2 (isnot_str_ref (wpAny_truthy_bool ?_)))
                  rw [if_pos rfl]
                  exact isTrue_and_nil ⟨by simp [hx], rfl⟩
              · rw [if_neg (by simpa using hlt)]
                exact ⟨by simp; intro x hx; exact absurd (List.getElem?_eq_some_iff.mp hx).1 hlt, rfl⟩
            · rintro bb s₂ ⟨hbb, rfl⟩
              cases bb with
              | true =>
                obtain ⟨x, hx⟩ := hbb.mp rfl
                obtain ⟨v, hv, tx, hpv⟩ := hget _ _ hx
                subst hpv
                rw [if_pos rfl]
                iterate 10 (first | (k_unfold; (try dsimp only)) | (k_end; wrow_close) | walk1 | (dsimp only; walk1) | (leave1; walk_say "STEP leave1"; try dsimp only))
                refine item_L (F5.keep _ _ hvd) (by omega) hv (args_nil ?_)
                refine append_first F5 N5 (fun p hp => ?_) (fun h9 F9 N9 => ?_) (by rw [List.size_toArray, hftx.len, sizeLine_eq]; omega)
                · rcases List.mem_cons.mp hp with rfl | hp
                  · exact Nat.ne_of_lt hfl.1
                  · rw [List.mem_singleton.mp hp]; exact Nat.ne_of_lt hfl.2
                · k_steps
                  rename Fr _ _ _ _ => F10
                  rename News _ _ _ _ => N10
                  have hlt := (List.getElem?_eq_some_iff.mp hx).1
                  rw [List.push_toArray] at N10
                  refine WEnd.go (by (try dsimp only); omega) (by omega) F10 N10 ⟨j + 1, _, fs ++ [x], _, rfl, by omega, hlt, rfl, hftx.snoc _ _, by simp; omega, ?_, ⟨hm1, hm2, hm3, hm4, ⟨_, rfl⟩, ⟨_, hm6⟩⟩, hm7⟩
                  rw [← hseg, jseg_some hx]
                  simp
              | false =>
                rw [if_neg (by decide)]
                have hno : j < ps.length → ps[j]? = some none := fun hlt => by
                  by_cases hn : ps[j]? = some none
                  · exact hn
                  · exact absurd (hbb.mpr (part_some hlt hn)) (by decide)
                exact ⟨rfl, h, tk, m₁, j, fvs, fs, k', rfl, htk, hij, hj, F5, N5, hftx, by omega, hseg, hno, hb', hm7⟩
          · clear F8 N8 hm1 hm2 hm3 hm4 hm5 hm6 hx hv1
            rintro f s' ⟨rfl, h', tk', m', j, fvs, fs, k', rfl, htk, hij, hj, F5, N5, hftx, hfl', hseg, hno', ⟨hm1, hm2, hm3, hm4, ⟨ti, hm5⟩, ⟨tn, hm6⟩⟩, hm7⟩
            dsimp only
            iterate 9 (first | (k_unfold; (try dsimp only)) | (k_end; wrow_close) | walk1 | (dsimp only; walk1) | (leave1; walk_say "STEP leave1"; try dsimp only))
            have hfe : jhead ps = xs.flatten ++ jseg fs.flatten (ps.drop j) := by rw [hseg, ← hcat, jtail_none hnn]
            have hfl2 : fs.flatten.length ≤ 4096 := by
              have := congrArg List.length hfe
              rw [List.length_append] at this
              have := jseg_len (ps.drop j) fs.flatten
              omega
            rw [show Str.ofString "" = S [] from rfl]
            refine join_S (N5.get (.head _)) hftx (by omega) (by (try dsimp only); omega) fun t8 k8 hk8 => ?_
            have N6 : News g L' h' [(b, bfm (.builtin "list.append") (.ref l0)), (l0, listOf rvs.toArray k)] := fun p hp => N5 p (.tail _ hp)
            clear N5
            refine storeX_L F5 N6 (fun h9 F9 N9 => ?_) rfl rfl
            k_steps
            refine Stop.go (wpAny_If (wpAny_isTrue_Compare1 (nameX_L F9 hm5 (nameX_L F9 hm6 (eq_int (wpAny_truthy_bool ?_))))))
            by_cases hend : j = ps.length
            · rw [if_pos (by simp; omega)]
              subst hend
              iterate 4 (first | (k_unfold; (try dsimp only)) | (k_end; wrow_close) | walk1 | (dsimp only; walk1) | (leave1; walk_say "STEP leave1"; try dsimp only))
              refine callWith_bfm (f := .builtin "list.append") (l := .ref l0) (args_cons (Calls.Constant_str ?_))
              refine args_nil ⟨N9.get (.head _), call_bfm_K F9 N9 hbl0 (fun _ h => nomatch h) (fun h10 F10 N10 => ?_) (by rw [List.size_toArray, htx.len, sizeLine_eq]; omega)⟩
              iterate 4 (first | (k_unfold; (try dsimp only)) | (k_end; wrow_close) | walk1 | (dsimp only; walk1) | (leave1; walk_say "STEP leave1"; try dsimp only))
              refine callWith_bfm (f := .builtin "list.append") (l := .ref l0) (args_cons (nameX_L F10 rfl ?_))
              refine args_nil ⟨N10.get (.head _), call_bfm_K F10 N10 hbl0 (fun _ h => nomatch h) (fun h11 F11 N11 => ?_) (by rw [Array.size_push, List.size_toArray, htx.len, sizeLine_eq]; omega)⟩
              k_steps
              rw [show Str.ofString ".*" = S dotStar from by decide +kernel, List.push_toArray, List.push_toArray] at N11
              refine WEnd.go (by (try dsimp only); omega) (by omega) F11 N11 ⟨ps.length, _, xs ++ [dotStar] ++ [fs.flatten], _, rfl, hj, rfl, (htx.snoc _ _).snoc _ _, by simp; omega, ?_, fun h => absurd h (Nat.lt_irrefl _), ⟨hm1, hm2, hm3, hm4, ⟨_, hm5⟩, ⟨_, hm6⟩⟩⟩
              rw [hfe, drop_end (Nat.le_refl _)]
              simp [jseg, jtail]
            · rw [if_neg (by simp; omega)]
              have hjn := hno' (by omega)
              iterate 4 (first | (k_unfold; (try dsimp only)) | (k_end; wrow_close) | walk1 | (dsimp only; walk1) | (leave1; walk_say "STEP leave1"; try dsimp only))
              refine callWith_bfm (f := .builtin "list.append") (l := .ref l0) (args_cons (fstr3 F9 rfl (show Str.ofString "(?>.*?" = S opens from by decide +kernel) (show Str.ofString ")" = S [41] from by decide +kernel) (by simp only [List.length_cons, List.length_nil]; omega) (by (try dsimp only); omega) fun t10 k10 hk10 => ?_))
              refine args_nil ⟨N9.get (.head _), call_bfm_K F9 N9 hbl0 (fun _ h => nomatch h) (fun h10 F10 N10 => ?_) (by rw [List.size_toArray, htx.len, sizeLine_eq]; omega)⟩
              k_steps
              rw [List.push_toArray] at N10
              refine WEnd.go hk10 (by omega) F10 N10 ⟨j, _, xs ++ [opens ++ fs.flatten ++ [41]], _, rfl, hj, rfl, htx.snoc _ _, by simp; omega, ?_, hno', ⟨hm1, hm2, hm3, hm4, ⟨_, hm5⟩, ⟨_, hm6⟩⟩⟩
              rw [hfe, jseg_none hjn]
              simp
      · rw [if_neg (by simpa using hlt)]
        have hil : i = ps.length := by omega
        subst hil
        refine ⟨rfl, h, tk, m₁, rvs, xs, k, rfl, htk, F5, N5, htx, by omega, ?_, hb'⟩
        rw [← hcat, drop_end (Nat.le_refl _)]
        simp [jtail]
    · rintro f s' ⟨rfl, h', tk', m', rvs, xs, k, rfl, htk, F5, N5, htx, hxl, hcat, ⟨hm1, hm2, hm3, hm4, ⟨ti, hm5⟩, ⟨tn, hm6⟩⟩⟩
      dsimp only
      k_steps
      have hfl2 : xs.flatten.length ≤ 4096 := by rw [hcat]; exact htot
      rw [show Str.ofString "" = S [] from rfl]
      refine join_S (N5.get (.tail _ (.head _))) htx (by omega) (by (try dsimp only); omega) fun t8 k8 hk8 => ?_
      refine storeX_L F5 N5 (fun h9 F9 N9 => ?_) rfl rfl
      refine wpAny_execs_cons (wpAny_Return_some ?_)
      refine fstr3 F9 rfl (show Str.ofString "(?s:" = S [40, 63, 115, 58] from by decide +kernel) (show Str.ofString ")\\Z" = S [41, 92, 90] from by decide +kernel) (by simp only [List.length_cons, List.length_nil]; omega) (by (try dsimp only); omega) fun t10 k10 hk10 => ?_
      rw [hcat]
      exact hret _ _ _ F9.keep ⟨_, rfl⟩
end
end Mine
set_option maxHeartbeats 4000000
namespace Mine
theorem noAdj_snoc {acc : Parts} {p : Option (List Nat)} (h : NoAdj acc) (hp : p = none → acc.getLast? ≠ some none) : NoAdj (acc ++ [p]) := by
  intro i h1 h2
  rw [List.getElem?_append] at h1 h2
  by_cases h3 : i + 1 < acc.length
  · rw [if_pos h3] at h2
    rw [if_pos (by omega)] at h1
    exact h i h1 h2
  · rw [if_neg h3] at h2
    by_cases h4 : i + 1 = acc.length
    · rw [if_pos (by omega)] at h1
      rw [h4, Nat.sub_self] at h2
      have h2' : p = none := by simpa using h2
      refine hp h2' ?_
      rw [List.getLast?_eq_getElem?, ← h4, Nat.add_sub_cancel]
      exact h1
    · have h5 : 1 ≤ i + 1 - acc.length := by omega
      have : ([p] : Parts)[i + 1 - acc.length]? = none := by rw [List.getElem?_eq_none]; simpa using h5
      rw [this] at h2
      cases h2
theorem trL_ind {P : Parts → Prop} (l : List Nat) (h0 : P []) (h1 : ∀ acc c, P acc → P (trStep acc c)) : P (trL l) := by
  unfold trL
  suffices h : ∀ acc, P acc → P (l.foldl trStep acc) from h _ h0
  induction l with
  | nil => intro acc h; exact h
  | cons c r ih => intro acc h; exact ih _ (h1 _ _ h)
theorem trL_noAdj (l : List Nat) : NoAdj (trL l) := by
  refine trL_ind l (fun i h => by simp at h) fun acc c h => ?_
  unfold trStep
  split
  · split
    · exact h
    · rename_i h2; exact noAdj_snoc h fun _ => h2
  · exact noAdj_snoc h fun e => by cases e
theorem trL_small (l : List Nat) : ∀ p ∈ trL l, ∀ x, p = some x → x.length ≤ 2 := by
  refine trL_ind (P := fun ps => ∀ p ∈ ps, ∀ x, p = some x → x.length ≤ 2) l (fun p h => by simp at h) fun acc c h => ?_
  have he : (escRe c).length ≤ 2 := by unfold escRe; split <;> simp
  unfold trStep
  intro p hp x hx
  split at hp
  · split at hp
    · exact h p hp x hx
    · rcases List.mem_append.mp hp with hp | hp
      · exact h p hp x hx
      · rw [List.mem_singleton.mp hp] at hx; cases hx
  · rcases List.mem_append.mp hp with hp | hp
    · exact h p hp x hx
    · rw [List.mem_singleton.mp hp] at hx; cases hx; exact he
theorem trL_length (l : List Nat) : (trL l).length ≤ l.length := by
  unfold trL
  suffices h : ∀ acc : Parts, (l.foldl trStep acc).length ≤ acc.length + l.length from by simpa using h []
  induction l with
  | nil => intro acc; simp
  | cons c r ih =>
    intro acc
    refine Nat.le_trans (ih _) ?_
    have : (trStep acc c).length ≤ acc.length + 1 := by
      unfold trStep
      split
      · split <;> simp
      · simp
    simp only [List.length_cons]; omega
theorem jseg_bound (r : Parts) (h : ∀ p ∈ r, ∀ x, p = some x → x.length ≤ 2) : ∀ f : List Nat, (jseg f r).length ≤ f.length + 9 * r.length + 2 := by
  induction r with
  | nil => intro f; simp only [jseg, List.length_append, List.length_cons, List.length_nil]; omega
  | cons p r ih =>
    intro f
    have ih := ih fun p hp => h p (List.mem_cons_of_mem _ hp)
    cases p with
    | none => have := ih []; simp only [jseg, List.length_append, List.length_cons, List.length_nil] at this ⊢; omega
    | some x =>
      have h1 := h _ (List.mem_cons_self ..) x rfl
      have := ih (f ++ x); simp only [jseg, List.length_append, List.length_cons] at this ⊢; omega
theorem jhead_bound (r : Parts) (h : ∀ p ∈ r, ∀ x, p = some x → x.length ≤ 2) : (jhead r).length ≤ 9 * r.length + 2 := by
  induction r with
  | nil => simp [jhead]
  | cons p r ih =>
    have ih := ih fun p hp => h p (List.mem_cons_of_mem _ hp)
    cases p with
    | none => have := jseg_bound r (fun p hp => h p (List.mem_cons_of_mem _ hp)) []; simp only [jhead, List.length_cons, List.length_nil] at this ⊢; omega
    | some x =>
      have h1 := h _ (List.mem_cons_self ..) x rfl
      simp only [jhead, List.length_append, List.length_cons]; omega
theorem trL_total (l : List Nat) (hl : l.length ≤ 64) : (jhead (trL l)).length ≤ 4096 := by
  have := jhead_bound (trL l) (trL_small l)
  have := trL_length l
  omega
local macro_rules | `(tactic| walk_at "execs cons") => `(tactic| (k_here; (refine wpAny_execs_cons ?_); try dsimp only))
local macro_rules | `(tactic| walk_at "execs nil") => `(tactic| (k_here; (refine wpAny_execs_nil ?_); try dsimp only))
local macro_rules | `(tactic| walk_at "exec If") => `(tactic| refine if_stop ?_)
local macro_rules | `(tactic| walk_at "exec While") => `(tactic| refine while_stop ?_)
local macro_rules | `(tactic| walk_at "eval Name") => `(tactic| (k_here; (refine' nameX_L ?F ?v ?_ ?a ?b; (case F => k_asm); (case a => rfl); (case b => rfl); (case v => assumption); k_whole)))
local macro_rules | `(tactic| walk_at "exec For") => `(tactic| refine for_stop ?_)
local macro_rules | `(tactic| walk_at "loadName") => `(tactic| (k_here; (refine' loadX_L ?F ?v ?_ ?a ?b; (case F => k_asm); (case a => rfl); (case b => rfl); (case v => first | rfl | assumption); k_whole)))
section
variable {w : World} {p : Program} {loose : List Str} {mean : ExcName → Option Value} {mg mb : Str → Option Value}
theorem does_translate (l : List Nat) (t : Tok) (hl : l.length ≤ 64) (hc : ∀ c ∈ l, c < 128 ∧ c ≠ 63 ∧ c ≠ 91) :
    Does w p loose mean mg mb 6 85 [.str (S l) t] (fun _ => True) (fun r _ _ => ∃ t, r = .str (S (joinL (trL l))) t) := by
  refine does_of ?_
  unfold Does0
  k_fill
  intro dp un gd cn cs a ccd cl outer A₀ base h₀ L m g s Q E hs B F X T hk hp ht hd hu hret
  refine wpAny_call ?_
  refine' my_def (binds := [(Str.ofString "pat", .str (S l) t)]) hs B F X T ?kA ?kF ?kK ?k6 ?k7 ?k8 ?k9 ?kB ?_ ?c2 ?c3 ?c4 ?c5; (case kA => exact rfl); (case kF => exact rfl); (case kK => exact hk); (case k6 => k_is); (case k7 => k_is); (case k8 => ktr_room); (case k9 => exact BindsTo.of_eq rfl); (case kB => exact locs rfl); (case c2 => exact rfl); (case c3 => exact rfl); (case c4 => exact rfl); (case c5 => decide)
  intro L' h' F' N' B' X' T'
  dsimp only [List.length]
  k_steps
  refine call_object ?_
  have F1 := F'.push objOf
  have N1 := N'.push F' objOf
  clear F' N'
  refine storeX_L (s := { s with heap := _, toks := _ }) F1 N1 (fun h2 F2 N2 => ?_) rfl rfl
  iterate 13 (first | (k_unfold; (try dsimp only)) | (k_end; wrow_close) | walk1 | (dsimp only; walk1) | (leave1; walk_say "STEP leave1"; try dsimp only))
  rw [show Str.ofString "." = S [46] from by decide +kernel]
  refine (does_translate_parts l t _ _ hl hc).use B' F2 N2 X' T' rfl (N2.get (.head _)) (by (try dsimp only); omega) (by ktr_room) (by ktr_units) ?_
  rintro r h8 tk8 k8 htk8 htk8' F8 N8 ⟨d, vs, n, rfl, hd8, hf8, hpa⟩
  have N9 := news_add F2 N8 hd8 hf8
  refine storeX_L (s := { s with heap := _, toks := _ }) F8 N9 (fun h10 F10 N10 => ?_) rfl rfl
  iterate 11 (first | (k_unfold; (try dsimp only)) | (k_end; wrow_close) | walk1 | (dsimp only; walk1) | (leave1; walk_say "STEP leave1"; try dsimp only))
  refine (does_join_parts (trL l) d _ (Nat.le_trans (trL_length l) hl) (trL_noAdj l) (trL_total l hl)).use B' F10 N10 X' T' rfl ⟨vs, n, N10.get (.head _), hpa⟩ (by (try dsimp only); omega) (by ktr_room) (by ktr_units) ?_
  rintro r h11 tk11 k11 htk11 htk11' F11 N11 ⟨t11, rfl⟩
  (try k_steps)
  exact hret _ _ _ F11.keep ⟨_, rfl⟩
end
end Mine
set_option maxHeartbeats 4000000
namespace Mine
noncomputable def clipI (v : Option Int) (dflt n : Int) : Int := match v with
  | none => dflt
  | some i => max 0 (min (if i < 0 then i + n else i) n)
theorem strSlice_eq (lo hi : Option Int) (n : Nat) : Builtin.Str.strSliceIndices lo hi 1 n = sliceRange (clipI lo 0 n) (clipI hi n n) 1 := by
  cases lo <;> cases hi <;> rfl
theorem pick_run (l : List Nat) (a k : Nat) : ((List.range k).map (a + ·)).filterMap (fun i : Nat => l[i]?) = (l.drop a).take k := by
  induction k with
  | zero => simp
  | succ k ih =>
    rw [List.range_succ, List.map_append, List.filterMap_append, ih, List.take_add_one, List.getElem?_drop]
    cases h : l[a + k]? <;> simp [h]
theorem slice_S {l : List Nat} {lo hi : Option Int} {a b : Nat} (ha : clipI lo 0 l.length = a) (hb : clipI hi l.length l.length = b) (hbn : b ≤ l.length) : Txt.slice (S l) lo hi = S ((l.take b).drop a) := by
  unfold Txt.slice
  rw [S_length, strSlice_eq, ha, hb, sliceRange_one]
  have e : ((List.range (b - a)).map (a + ·)).filterMap (fun i : Nat => (S l).cps[i]?) = (l.take b).drop a := by
    have : (fun i : Nat => (S l).cps[i]?) = fun i : Nat => l[i]? := by
      funext i
      show l.toArray[i]? = l[i]?
      simp
    rw [this, pick_run, ← List.drop_take]
  rw [e]
  split
  · rename_i h
    simp only [List.length_map, List.length_range, Bool.and_eq_true, beq_iff_eq] at h
    have h2 := h.2
    by_cases h0 : l.length = 0
    · have : l = [] := List.length_eq_zero_iff.mp h0
      subst this
      simp
    · have h3 : a = 0 := by omega
      have h4 : b = l.length := by omega
      subst h3 h4
      simp
  · rfl
theorem slicePick_clip {vs : List Value} {lo hi : Option Int} {a b : Nat} (ha : clipI lo 0 vs.length = a) (hb : clipI hi vs.length vs.length = b) : slicePick vs.toArray lo hi none = ((vs.take b).drop a).toArray := by
  have e : sliceBounds lo hi none vs.toArray.size = ((a : Int), (b : Int), 1) := by
    have : sliceBounds lo hi none vs.toArray.size = (clipI lo 0 (vs.toArray.size : Nat), clipI hi (vs.toArray.size : Nat) (vs.toArray.size : Nat), 1) := by cases lo <;> cases hi <;> rfl
    rw [this, List.size_toArray, ha, hb]
  unfold slicePick
  rw [e]
  simp only [sliceRange_one, PySem.pick_run, List.drop_take]
theorem flat_len {xs : List (List Nat)} {B : Nat} (h : ∀ x ∈ xs, x.length ≤ B) : xs.flatten.length ≤ B * xs.length := by
  induction xs with
  | nil => simp
  | cons x r ih =>
    have h1 := h x (List.mem_cons_self ..)
    have h2 := ih fun y hy => h y (List.mem_cons_of_mem _ hy)
    simp only [List.flatten_cons, List.length_append, List.length_cons, Nat.mul_add, Nat.mul_one]
    omega
section
variable {prog : Program} {w : World} {A : Around} {E : Value → Shared → Prop} {s : Shared} {h₀ : Heap} {L : Addr} {m : Str → Option Value} {news : Led'} {l : List Nat} {t : Tok} {value slice : Expr} {Q : Value → Shared → Prop}
theorem slice_ss {i j : Int} {ui uj : Tok} {a b : Nat} (F : Fr h₀ L s.heap m) (N : News h₀ L s.heap news) (ht1 : 1 ≤ s.toks) (hl : l.length ≤ 1048576) (ha : clipI (some i) 0 l.length = a) (hb : clipI (some j) l.length l.length = b) (hbn : b ≤ l.length)
    (h : ∀ h' t' k, 1 ≤ k → Fr h₀ L h' m → News h₀ L h' news → Q (.str (S ((l.take b).drop a)) t') { s with heap := h', toks := k })
    (hs : subscripted slice false (.str (S l) t) (.ref s.heap.objs.size) = operate [.ref s.heap.objs.size, .str (S l) t] (getItem (.str (S l) t) (.ref s.heap.objs.size)) := by with_unfolding_all rfl)
    (ht : ∀ r, letTemporaryGo value (.str (S l) t) r = pure () := by intro _; with_unfolding_all rfl) :
    wpAny (model prog w) A (subscriptTail value slice (.str (S l) t) (.ref s.heap.objs.size)) Q E { s with heap := s.heap.push { cls := .type "slice", data := .fields #[.int i ui, .int j uj, .none] } } := by
  refine wpAny_with_toks (n := 1) ht1 (slice_strN_ss F N (fun h' t' k F' N' hk => ?_) hs ht (by rw [S_length, sizeLine_eq]; omega))
  rw [slice_S ha hb hbn]
  exact h h' t' k hk F' N'
theorem slice_sn {i : Int} {ui : Tok} {a : Nat} (F : Fr h₀ L s.heap m) (N : News h₀ L s.heap news) (ht1 : 1 ≤ s.toks) (hl : l.length ≤ 1048576) (ha : clipI (some i) 0 l.length = a)
    (h : ∀ h' t' k, 1 ≤ k → Fr h₀ L h' m → News h₀ L h' news → Q (.str (S (l.drop a)) t') { s with heap := h', toks := k })
    (hs : subscripted slice false (.str (S l) t) (.ref s.heap.objs.size) = operate [.ref s.heap.objs.size, .str (S l) t] (getItem (.str (S l) t) (.ref s.heap.objs.size)) := by with_unfolding_all rfl)
    (ht : ∀ r, letTemporaryGo value (.str (S l) t) r = pure () := by intro _; with_unfolding_all rfl) :
    wpAny (model prog w) A (subscriptTail value slice (.str (S l) t) (.ref s.heap.objs.size)) Q E { s with heap := s.heap.push { cls := .type "slice", data := .fields #[.int i ui, .none, .none] } } := by
  refine wpAny_with_toks (n := 1) ht1 (slice_strN_sn F N (fun h' t' k F' N' hk => ?_) hs ht (by rw [S_length, sizeLine_eq]; omega))
  rw [slice_S ha rfl (Nat.le_refl _), List.take_length]
  exact h h' t' k hk F' N'
theorem slice_ns {j : Int} {uj : Tok} {b : Nat} (F : Fr h₀ L s.heap m) (N : News h₀ L s.heap news) (ht1 : 1 ≤ s.toks) (hl : l.length ≤ 1048576) (hb : clipI (some j) l.length l.length = b) (hbn : b ≤ l.length)
    (h : ∀ h' t' k, 1 ≤ k → Fr h₀ L h' m → News h₀ L h' news → Q (.str (S (l.take b)) t') { s with heap := h', toks := k })
    (hs : subscripted slice false (.str (S l) t) (.ref s.heap.objs.size) = operate [.ref s.heap.objs.size, .str (S l) t] (getItem (.str (S l) t) (.ref s.heap.objs.size)) := by with_unfolding_all rfl)
    (ht : ∀ r, letTemporaryGo value (.str (S l) t) r = pure () := by intro _; with_unfolding_all rfl) :
    wpAny (model prog w) A (subscriptTail value slice (.str (S l) t) (.ref s.heap.objs.size)) Q E { s with heap := s.heap.push { cls := .type "slice", data := .fields #[.none, .int j uj, .none] } } := by
  refine wpAny_with_toks (n := 1) ht1 (slice_strN_ns F N (fun h' t' k F' N' hk => ?_) hs ht (by rw [S_length, sizeLine_eq]; omega))
  rw [slice_S (a := 0) rfl hb hbn, List.drop_zero]
  exact h h' t' k hk F' N'
/-- the last item of a list is read -/
theorem getLast_L {D : Addr} {vs : List Value} {n : Nat} {u : Tok} {v : Value} (hl : s.heap.get? D = some (listOf (vs ++ [v]).toArray n)) (h : Q v s) : wpAny (model prog w) A (getItem (.ref D) (.int (-1) u)) Q E s := by
  have hil : s.heap.IsList D (vs ++ [v]).toArray := ⟨_, hl, rfl, _, rfl⟩
  refine wpAny_getItem_list_neg hil (by decide) (by simp; omega) (by decide) ?_ h
  have : ((-1 : Int) + ((vs ++ [v]).toArray.size : Nat)).toNat = vs.length := by simp; omega
  rw [this]
  simp
theorem setLast_L {D : Addr} {vs : List Value} {n : Nat} {u : Tok} {v x : Value} {Q : Unit → Shared → Prop} (hl : s.heap.get? D = some (listOf (vs ++ [v]).toArray n)) (hfit : vs.length ≤ 1048576)
    (h : ∀ h' n', Heap.SameBut D s.heap h' → h'.get? D = some (listOf (vs ++ [x]).toArray n') → Q () { s with heap := h' }) : wpAny (model prog w) A (setItem (.ref D) (.int (-1) u) x) Q E s := by
  have hil : s.heap.IsList D (vs ++ [v]).toArray := ⟨_, hl, rfl, _, rfl⟩
  unfold setItem
  try with_reducible refine wpAny_holding ?_
  first | refine wpAny_bind (wpAny_pure ?_) | skip
  refine wpAny_bind (wpAny_sequenceKey hil.typeIs (by decide) ?_)
  refine wpAny_bind (wpAny_callSpecial?_slot (name := Str.ofString "__setitem__") hil.typeIs slot_list_setitem
    (wpAny_call_entry slot_list_setitem hil.typeIs entry_list_setitem ?_ (args_list_setitem _ _ _)))
  show wpAny _ _ (Builtin.List.listSubscript? (.int (-1) u) >>= _) _ _ s
  refine wpAny_bind (wpAny_listSubscript_int (fitsIndex_neg (by decide) (by decide)) ?_)
  have hidx : seqIndex? (Int.negSucc 0) (vs ++ [v]).toArray.size = some vs.length := by
    rw [seqIndex_neg (by decide) (by simp; omega)]
    simp
    omega
  show wpAny _ _ ((Builtin.List.listItems (.ref D) >>= fun xs => pure ((seqIndex? (Int.negSucc 0) xs.size).bind fun i => xs[i]?.map (i, ·))) >>= _) _ _ s
  refine wpAny_bind (wpAny_bind ?_)
  show wpAny _ _ (seqItems? (.ref D) >>= _) _ _ s
  refine wpAny_bind (wpAny_seqItems hl rfl (wpAny_pure (wpAny_pure ?_)))
  rw [hidx]
  have hx : (vs ++ [v]).toArray[vs.length]? = some v := by simp
  simp only [Option.bind_some, hx, Option.map_some]
  show wpAny _ _ (setSeqItemAt D vs.length x >>= _) _ _ s
  obtain ⟨n', hd'⟩ := Obj.data_mapSeq (o := listOf (vs ++ [v]).toArray n) rfl (·.setIfInBounds vs.length x)
  have hset : (vs ++ [v]).toArray.setIfInBounds vs.length x = (vs ++ [x]).toArray := by simp
  rw [hset] at hd'
  have hfin : (s.heap.update D (Obj.mapSeq (·.setIfInBounds vs.length x))).get? D = some (listOf (vs ++ [x]).toArray n') := by
    rw [Heap.get?_update_self _ hl (Obj.isFreed_of_seq hd')]
    have : Obj.mapSeq (·.setIfInBounds vs.length x) (listOf (vs ++ [v]).toArray n) = { listOf (vs ++ [v]).toArray n with data := (Obj.mapSeq (·.setIfInBounds vs.length x) (listOf (vs ++ [v]).toArray n)).data } := rfl
    rw [this, hd']
  refine wpAny_bind (wpAny_setSeqItemAt hl rfl ?_)
  first
    | exact wpAny_bind (wpAny_pure (wpAny_pure ⟨.none, rfl, wpAny_pure (h _ _ (Heap.SameBut.update ..) hfin)⟩))
    | exact wpAny_pure ⟨.none, rfl, wpAny_pure (h _ _ (Heap.SameBut.update ..) hfin)⟩
theorem iadd_S {x y : List Nat} {t u : Tok} (hsz : x.length + y.length ≤ 1048576) (ht : 1 ≤ s.toks) (h : ∀ t' k, 1 ≤ k → Q (.str (S (x ++ y)) t') { s with toks := k }) : wpAny (model prog w) A (inplaceOp .Add (.str (S x) t) (.str (S y) u)) Q E s := by
  refine wpAny_with_toks (n := 1) ht (SB.iadd (fun t' k hk => ?_) (by rw [S_length, S_length, sizeLine_eq]; omega))
  rw [S_app]
  exact h t' k hk
theorem add_S {x y : List Nat} {t u : Tok} (hsz : x.length + y.length ≤ 1048576) (ht : 1 ≤ s.toks) (h : ∀ t' k, 1 ≤ k → Q (.str (S (x ++ y)) t') { s with toks := k }) : wpAny (model prog w) A (binaryOp .Add (.str (S x) t) (.str (S y) u)) Q E s := by
  refine wpAny_with_toks (n := 1) ht (SB.add (fun t' k hk => ?_) (by rw [S_length, S_length, sizeLine_eq]; omega))
  rw [S_app]
  exact h t' k hk
theorem setLast_K {D : Addr} {vs : List Value} {n : Nat} {u : Tok} {v x : Value} {post : Led'} {R : Unit → Shared → Prop} (F : Fr h₀ L s.heap m) (N : News h₀ L s.heap ((D, listOf (vs ++ [v]).toArray n) :: post)) (hp : ∀ p ∈ post, p.1 ≠ D) (hfit : vs.length ≤ 1048576)
    (h : ∀ h' n', Fr h₀ L h' m → News h₀ L h' ((D, listOf (vs ++ [x]).toArray n') :: post) → R () { s with heap := h' }) : wpAny (model prog w) A (setItem (.ref D) (.int (-1) u) x) R E s := by
  have z := N _ (.head _)
  exact setLast_L z.1 hfit fun h' n' hs ho => h h' n' (F.change hs z.2.1 z.2.2) (news_set (pre := []) N (fun _ h => nomatch h) hp hs ho)
end
end Mine
set_option maxHeartbeats 4000000
namespace Mine
noncomputable abbrev opens' : List Nat := [40, 63, 62, 46, 42, 63]
noncomputable def readGo : Nat → List (List Nat) → List Nat → List Nat → List (List Nat)
  | 0, rs, cur, _ => rs ++ [cur]
  | n + 1, rs, cur, r =>
    if r = [] then rs ++ [cur]
    else if r.take 6 = opens' then readGo n (rs ++ [cur]) [] (r.drop 6)
    else if r.take 2 = [46, 42] then readGo n (rs ++ [cur]) [] (r.drop 2)
    else if r.take 1 = [92] then readGo n rs (cur ++ (r.drop 1).take 1) (r.drop 2)
    else if r.take 1 = [41] then readGo n rs cur (r.drop 1)
    else readGo n rs (cur ++ r.take 1) (r.drop 1)
noncomputable def readL (text : List Nat) : List (List Nat) :=
  let body := (text.take (text.length - 3)).drop 4
  readGo body.length [] [] body
theorem sl_take (l : List Nat) (a k : Nat) : (l.take (min (a + k) l.length)).drop a = (l.drop a).take k := by
  rw [List.drop_take]
  by_cases h : a + k ≤ l.length
  · rw [Nat.min_eq_left h, Nat.add_sub_cancel_left]
  · rw [Nat.min_eq_right (by omega), List.take_of_length_le (by simp), List.take_of_length_le (by simp; omega)]
theorem clip_nat {i n d : Nat} (h : i ≤ n) : clipI (some (i : Int)) d n = (i : Nat) := by
  show max 0 (min (if (i : Int) < 0 then (i : Int) + n else i) n) = _
  rw [if_neg (by omega)]
  omega
theorem clip_add {i k n : Nat} {d : Int} : clipI (some ((i : Int) + (k : Int))) d n = (min (i + k) n : Nat) := by
  show max 0 (min (if (i : Int) + k < 0 then (i : Int) + k + n else (i : Int) + k) n) = _
  rw [if_neg (by omega)]
  omega
local macro_rules | `(tactic| walk_at "execs cons") => `(tactic| (k_here; (refine wpAny_execs_cons ?_); try dsimp only))
local macro_rules | `(tactic| walk_at "execs nil") => `(tactic| (k_here; (refine wpAny_execs_nil ?_); try dsimp only))
local macro_rules | `(tactic| walk_at "exec If") => `(tactic| refine if_stop ?_)
local macro_rules | `(tactic| walk_at "exec While") => `(tactic| refine while_stop ?_)
local macro_rules | `(tactic| walk_at "eval Name") => `(tactic| (k_here; (refine' nameX_L ?F ?v ?_ ?a ?b; (case F => k_asm); (case a => rfl); (case b => rfl); (case v => assumption); k_whole)))
local macro_rules | `(tactic| walk_at "exec For") => `(tactic| refine for_stop ?_)
local macro_rules | `(tactic| walk_at "loadName") => `(tactic| (k_here; (refine' loadX_L ?F ?v ?_ ?a ?b; (case F => k_asm); (case a => rfl); (case b => rfl); (case v => first | rfl | assumption); k_whole)))
section
variable {w : World} {p : Program} {loose : List Str} {mean : ExcName → Option Value} {mg mb : Str → Option Value}
theorem does_read (l : List Nat) (t : Tok) (hl : l.length ≤ 1024) (hl2 : 7 ≤ l.length) :
    Does w p loose mean mg mb 2 146 [.str (S l) t] (fun _ => True) (fun r g h' => ∃ d vs n, r = .ref d ∧ h'.get? d = some (listOf vs.toArray n) ∧ g.get? d = none ∧ Txts vs (readL l)) := by
  refine does_of ?_
  unfold Does0
  k_fill
  intro dp un gd cn cs a ccd cl outer A₀ base h₀ L m g s Q E hs B F X T hk hp ht hd hu hret
  refine wpAny_call ?_
  refine' my_def (binds := [(Str.ofString "text", .str (S l) t)]) hs B F X T ?kA ?kF ?kK ?k6 ?k7 ?k8 ?k9 ?kB ?_ ?c2 ?c3 ?c4 ?c5; (case kA => exact rfl); (case kF => exact rfl); (case kK => exact hk); (case k6 => k_is); (case k7 => k_is); (case k8 => ktr_room); (case k9 => exact BindsTo.of_eq rfl); (case kB => exact locs rfl); (case c2 => exact rfl); (case c3 => exact rfl); (case c4 => exact rfl); (case c5 => decide)
  intro L' h' F' N' B' X' T'
  dsimp only [List.length]
  iterate 12 (first | (k_unfold; (try dsimp only)) | (k_end; wrow_close) | walk1 | (dsimp only; walk1) | (leave1; walk_say "STEP leave1"; try dsimp only))
  rename Fr _ _ _ _ => F1
  rename News _ _ _ _ => N1
  have hb1 : l.length - 3 ≤ l.length := by omega
  refine slice_ss (s := ⟨_, _, _, _, _⟩) (a := 4) (b := l.length - 3) F1 N1 (by (try dsimp only); omega) (by omega) (by rw [show (4 : Int) = ((4 : Nat) : Int) from rfl]; exact clip_nat (d := 0) (by omega)) ?_ hb1 fun h2 t2 k2 hk2 F2 N2 => ?_
  · show max 0 (min (if (-3 : Int) < 0 then (-3 : Int) + l.length else -3) l.length) = _
    rw [if_pos (by decide)]
    omega
  generalize hbody : (l.take (l.length - 3)).drop 4 = body
  have hbl : body.length ≤ 1024 := by rw [← hbody]; simp; omega
  have hR : readL l = readGo body.length [] [] body := by unfold readL; rw [hbody]
  rw [hR] at hret
  refine storeX_L F2 N2 (fun h3 F3 N3 => ?_) rfl rfl
  k_steps
  refine Stop.go ?_
  rename Fr _ _ _ _ => F4
  rename News _ _ _ _ => N4
  rename_i rl _ _ _ _
  rw [show Str.ofString "" = S [] from rfl] at N4
  refine while_go F4 N4 (by (try dsimp only); omega) (fun n m₁ nx => ∃ i f rv rs k cur tc, n = body.length - i ∧ nx = [(rl, listOf (rv ++ [.str (S cur) tc]).toArray k)] ∧ Txts rv rs ∧ rs.length ≤ i ∧ cur.length ≤ i ∧ body.length - i ≤ f ∧ readGo f rs cur (body.drop i) = readGo body.length [] [] body ∧
    (∃ t, m₁ "body" = some (.str (S body) t)) ∧ m₁ "runs" = some (.ref rl) ∧ ∃ t, m₁ "place" = some (.int i t)) body.length
    ⟨0, body.length, [], [], 0, [], _, rfl, rfl, .nil, Nat.le_refl _, Nat.le_refl _, Nat.le_refl _, rfl, ⟨_, rfl⟩, rfl, ⟨_, rfl⟩⟩ ?_
  rintro n m₁ news₁ h tk ⟨i, f, rv, rs, k, cur, tc, rfl, rfl, htx, hrl, hcl, hf, hgo, ⟨tb, hm1⟩, hm2, ⟨tp, hm3⟩⟩ htk F5 N5
  refine wpAny_isTrue_Compare1 (nameX_L F5 hm3 ?_)
  iterate 6 (first | (k_unfold; (try dsimp only)) | (k_end; wrow_close) | walk1 | (dsimp only; walk1) | (leave1; walk_say "STEP leave1"; try dsimp only))
  refine P.len_str (by rw [S_length]; omega) ?_
  rw [S_length]
  refine wpAny_lt_int (wpAny_truthy_bool ?_)
  by_cases hlt : i < body.length
  · rw [if_pos (by simpa using hlt)]
    have hne : body.drop i ≠ [] := by intro e; have := congrArg List.length e; simp at this; omega
    obtain ⟨f, rfl⟩ : ∃ f', f = f' + 1 := ⟨f - 1, by omega⟩
    rw [readGo, if_neg hne] at hgo
    k_steps
    refine Stop.go (wpAny_If (wpAny_isTrue_Compare1 (Subscript_ (nameX_L F5 hm1 ?_))))
    iterate 9 (first | (k_unfold; (try dsimp only)) | (k_end; wrow_close) | walk1 | (dsimp only; walk1) | (leave1; walk_say "STEP leave1"; try dsimp only))
    refine slice_ss (s := ⟨_, _, _, _, _⟩) (a := i) (b := min (i + 6) body.length) F5 N5 (by (try dsimp only); omega) (by omega) (clip_nat (d := 0) (by omega)) (clip_add (k := 6)) (by omega) fun h2 t2 k2 hk2 F6 N6 => ?_
    refine Calls.Constant_str (eq_str (wpAny_truthy_bool ?_))
    rw [sl_take, show Str.ofString "(?>.*?" = S opens' from by decide +kernel, S_beq]
    by_cases h6 : (body.drop i).take 6 = opens'
    · rw [if_pos (by simp [h6])]
      rw [if_pos h6] at hgo
      iterate 9 (first | (k_unfold; (try dsimp only)) | (k_end; wrow_close) | walk1 | (dsimp only; walk1) | (leave1; walk_say "STEP leave1"; try dsimp only))
      rw [List.drop_drop] at hgo
      refine append_first F6 N6 (fun _ h => nomatch h) (fun h9 F9 N9 => ?_) (by rw [List.size_toArray, List.length_append, htx.len, sizeLine_eq]; simp only [List.length_singleton]; omega)
      rw [List.push_toArray, show Str.ofString "" = S [] from rfl] at N9
      k_steps
      rename Fr _ _ _ _ => F10
      rename News _ _ _ _ => N10
      exact WEnd.go (by (try dsimp only); omega) (by omega) F10 N10 ⟨i + 6, f, _, rs ++ [cur], _, [], _, rfl, rfl, htx.snoc _ _, by simp; omega, Nat.zero_le _, by omega, hgo, ⟨_, hm1⟩, hm2, ⟨_, rfl⟩⟩
    · rw [if_neg (by simp [h6])]
      rw [if_neg h6] at hgo
      k_steps
      refine Stop.go (wpAny_If (wpAny_isTrue_Compare1 (Subscript_ (nameX_L F6 hm1 ?_))))
      iterate 9 (first | (k_unfold; (try dsimp only)) | (k_end; wrow_close) | walk1 | (dsimp only; walk1) | (leave1; walk_say "STEP leave1"; try dsimp only))
      refine slice_ss (s := ⟨_, _, _, _, _⟩) (a := i) (b := min (i + 2) body.length) F6 N6 (by (try dsimp only); omega) (by omega) (clip_nat (d := 0) (by omega)) (clip_add (k := 2)) (by omega) fun h7 t7 k7 hk7 F7 N7 => ?_
      refine Calls.Constant_str (eq_str (wpAny_truthy_bool ?_))
      rw [sl_take, show Str.ofString ".*" = S [46, 42] from by decide +kernel, S_beq]
      by_cases h2 : (body.drop i).take 2 = [46, 42]
      · rw [if_pos (by simp [h2])]
        rw [if_pos h2] at hgo
        iterate 9 (first | (k_unfold; (try dsimp only)) | (k_end; wrow_close) | walk1 | (dsimp only; walk1) | (leave1; walk_say "STEP leave1"; try dsimp only))
        rw [List.drop_drop] at hgo
        refine append_first F7 N7 (fun _ h => nomatch h) (fun h9 F9 N9 => ?_) (by rw [List.size_toArray, List.length_append, htx.len, sizeLine_eq]; simp only [List.length_singleton]; omega)
        rw [List.push_toArray, show Str.ofString "" = S [] from rfl] at N9
        k_steps
        rename Fr _ _ _ _ => F10
        rename News _ _ _ _ => N10
        exact WEnd.go (by (try dsimp only); omega) (by omega) F10 N10 ⟨i + 2, f, _, rs ++ [cur], _, [], _, rfl, rfl, htx.snoc _ _, by simp; omega, Nat.zero_le _, by omega, hgo, ⟨_, hm1⟩, hm2, ⟨_, rfl⟩⟩
      · rw [if_neg (by simp [h2])]
        rw [if_neg h2] at hgo
        k_steps
        obtain ⟨c, hc⟩ : ∃ c, body[i]? = some c := ⟨body[i], List.getElem?_eq_getElem hlt⟩
        have ht1 : (body.drop i).take 1 = [c] := by rw [drop_at hc]; rfl
        refine Stop.go (wpAny_If (wpAny_isTrue_Compare1 (Subscript_ (nameX_L F7 hm1 (nameX_L F7 hm3 (item_S (by omega) hc fun t8 => Calls.Constant_str (eq_str (wpAny_truthy_bool ?_))))))))
        rw [show Str.ofString "\\" = S [92] from by decide +kernel, S_beq]
        rw [ht1] at hgo
        by_cases h92 : c = 92
        · rw [if_pos (by simp [h92])]
          rw [if_pos (by rw [h92])] at hgo
          refine wpAny_execs_cons (wpAny_AugAssign_Subscript_any (nameX_L F7 hm2 ?_))
          iterate 3 (first | (k_unfold; (try dsimp only)) | (k_end; wrow_close) | walk1 | (dsimp only; walk1) | (leave1; walk_say "STEP leave1"; try dsimp only))
          refine getLast_L (N7.get (.head _)) (Subscript_ (nameX_L F7 hm1 ?_))
          iterate 12 (first | (k_unfold; (try dsimp only)) | (k_end; wrow_close) | walk1 | (dsimp only; walk1) | (leave1; walk_say "STEP leave1"; try dsimp only))
          dsimp only
          refine slice_ss (s := ⟨_, _, _, _, _⟩) (a := i + 1) (b := min (i + 1 + 1) body.length) F7 N7 (by (try dsimp only); omega) (by omega) ((clip_add (i := i) (k := 1) (n := body.length) (d := 0)).trans (by omega)) (clip_add (k := 2)) (by omega) fun h8 t8 k8 hk8 F8 N8 => ?_
          rw [sl_take]
          rw [List.drop_drop, List.drop_drop] at hgo
          refine iadd_S (by rw [List.length_take]; omega) hk8 fun t9 k9 hk9 => ?_
          refine setLast_K F8 N8 (fun _ h => nomatch h) (by rw [htx.len]; omega) fun h9 n9 F9 N9 => ?_
          k_steps
          rename Fr _ _ _ _ => F10
          rename News _ _ _ _ => N10
          exact WEnd.go (by (try dsimp only); omega) (by omega) F10 N10 ⟨i + 2, f, rv, rs, n9, _, _, rfl, rfl, htx, by omega, by rw [List.length_append, List.length_take]; omega, by omega, hgo, ⟨_, hm1⟩, hm2, ⟨_, rfl⟩⟩
        · rw [if_neg (by simp [h92])]
          rw [if_neg (by simp [h92])] at hgo
          k_steps
          refine Stop.go (wpAny_If (wpAny_isTrue_Compare1 (Subscript_ (nameX_L F7 hm1 (nameX_L F7 hm3 (item_S (by omega) hc fun t9 => Calls.Constant_str (ne_str (wpAny_truthy_bool ?_))))))))
          rw [show Str.ofString ")" = S [41] from by decide +kernel, bne, S_beq]
          by_cases h41 : c = 41
          · rw [if_neg (by simp [h41])]
            rw [if_pos (by rw [h41]), List.drop_drop] at hgo
            k_steps
            rename Fr _ _ _ _ => F10
            rename News _ _ _ _ => N10
            exact WEnd.go (by (try dsimp only); omega) (by omega) F10 N10 ⟨i + 1, f, rv, rs, k, cur, tc, rfl, rfl, htx, by omega, by omega, by omega, hgo, ⟨_, hm1⟩, hm2, ⟨_, rfl⟩⟩
          · rw [if_pos (by simp [h41])]
            rw [if_neg (by simp [h41]), List.drop_drop] at hgo
            refine wpAny_execs_cons (wpAny_AugAssign_Subscript_any (nameX_L F7 hm2 ?_))
            iterate 3 (first | (k_unfold; (try dsimp only)) | (k_end; wrow_close) | walk1 | (dsimp only; walk1) | (leave1; walk_say "STEP leave1"; try dsimp only))
            refine getLast_L (N7.get (.head _)) (Subscript_ (nameX_L F7 hm1 (nameX_L F7 hm3 (item_S (by omega) hc fun t9 => ?_))))
            refine iadd_S (by simp only [List.length_singleton]; omega) (by (try dsimp only); omega) fun t9 k9 hk9 => ?_
            refine setLast_K F7 N7 (fun _ h => nomatch h) (by rw [htx.len]; omega) fun h9 n9 F9 N9 => ?_
            k_steps
            rename Fr _ _ _ _ => F10
            rename News _ _ _ _ => N10
            exact WEnd.go (by (try dsimp only); omega) (by omega) F10 N10 ⟨i + 1, f, rv, rs, n9, _, _, rfl, rfl, htx, by omega, by rw [List.length_append, List.length_singleton]; omega, by omega, hgo, ⟨_, hm1⟩, hm2, ⟨_, rfl⟩⟩
  · rw [if_neg (by simpa using hlt)]
    have hd0 : body.drop i = [] := List.drop_eq_nil_of_le (by omega)
    have hgo' : rs ++ [cur] = readGo body.length [] [] body := by
      rw [← hgo, hd0]
      cases f <;> simp [readGo]
    k_steps
    exact hret _ _ _ F5.keep ⟨rl, _, k, rfl, N5.get (.head _), N5.fresh (.head _), hgo' ▸ htx.snoc _ _⟩
end
end Mine
set_option maxHeartbeats 4000000
namespace Mine
section
variable {prog : Program} {w : World} {A : Around} {s : Shared} {env : Env} {h₀ : Heap} {L : Addr} {m : Str → Option Value} {news : Led'} {scope : Scope} {cl : List (Str × Addr)} {x : Str} {elt : Expr} {Q : Value → Shared → Prop}
theorem keep_fr {h h' : Heap} (F : Fr h₀ L h m) (k : Keep h h') : Fr h₀ L h' m := ⟨F.ns.keeps k, fun b o e => k _ _ (F.keep b o e), F.above⟩
theorem keep_news {h h' : Heap} (N : News h₀ L h news) (k : Keep h h') : News h₀ L h' news := fun p hp => ⟨k _ _ (N p hp).1, (N p hp).2⟩
/-- what stands behind a comprehension -/
noncomputable abbrev CompThen (prog : Program) (w : World) (A : Around) (env : Env) (scope : Scope) (cl : List (Str × Addr)) (x : Str) (elt : Expr) (G : Value → Value → Prop) (Q : Value → Shared → Prop) (it : Value) (s₂ : Shared) : Prop :=
  ∃ I fp wr n P St, it = .ref I ∧ Walks prog w A I fp wr n P St ∧ n ≤ sizeLine ∧ St 0 s₂.heap ∧ (∀ b ∈ fp, b < s₂.heap.objs.size) ∧
      QuietOnC prog w A env scope cl x [] elt wr P (fun _ => true) G s₂ ∧
      (∀ D h' tk ys (vs : List Value), s₂.heap.get? D = none → h'.IsList D ys → h'.PlainList D ys → vs.length = n → (∀ j v, vs[j]? = some v → P j v) → Paired G (vs.filter fun _ => true) ys.toList →
        (∀ b o, b ∉ wr → s₂.heap.get? b = some o → h'.get? b = some o) → Q (.ref D) { s₂ with heap := h', toks := tk })
theorem comp_walk {o : Obj} {fp : List Addr} {n : Nat} {P : Nat → Value → Prop} {St : Nat → Heap → Prop} (F : Fr h₀ L s.heap m) (N : News h₀ L s.heap news) (W : Walks prog w A s.heap.objs.size fp [s.heap.objs.size] n P St) (hsz : n ≤ sizeLine)
    (hst : St 0 (s.heap.push o)) (hfp : ∀ b ∈ fp, b < (s.heap.push o).objs.size) (G : Value → Value → Prop)
    (helt : ∀ C i v (s₃ : Shared) m₃ E', P i v → s₃.heap.Ns C m₃ → m₃ x = some v → Fr h₀ L s₃.heap m → News h₀ L s₃.heap news → s.toks ≤ s₃.toks → Keep s.heap s₃.heap →
      wpAny (model prog w) A (eval elt (compEnvC scope cl C env)) (fun y s₄ => G v y ∧ Keeps s₃ s₄) E' s₃)
    (hQ : ∀ D h' tk ys k vs, Fr h₀ L h' m → News h₀ L h' ((D, listOf ys.toArray k) :: news) → vs.length = n → (∀ j v, vs[j]? = some v → P j v) → Paired G vs ys → Keep s.heap h' → Q (.ref D) { s with heap := h', toks := tk }) :
    CompThen prog w A env scope cl x elt G Q (.ref s.heap.objs.size) { s with heap := s.heap.push o } := by
  have up : ∀ {h' : Heap}, (∀ b o', b ∉ [s.heap.objs.size] → (s.heap.push o).get? b = some o' → h'.get? b = some o') → Keep s.heap h' := fun hk b o' e =>
    hk b o' (fun hb => absurd (Heap.lt_size e) (by rw [List.mem_singleton.mp hb]; exact Nat.lt_irrefl _)) (Heap.get?_push_of_some _ e)
  refine ⟨_, fp, _, n, P, St, rfl, W, hsz, hst, hfp, ⟨fun C i v s₃ m₃ E' _ _ _ _ _ _ => ?_, fun C i v s₃ m₃ E' _ hv _ hn hx hk htk => ?_⟩, ?_⟩
  · exact wpAny_pure ⟨rfl, s₃.heap, s₃.toks, rfl, fun _ _ e => e⟩
  · have k := up hk
    exact helt C i v s₃ m₃ E' hv hn hx (keep_fr F k) (keep_news N k) htk k
  · intro D h' tk ys vs hD hl ⟨k, hpl⟩ hlen hP hF hk
    have kk := up hk
    have hD' : s.heap.get? D = none := by
      cases e : s.heap.get? D with
      | none => rfl
      | some o' => rw [Heap.get?_push_of_some _ e] at hD; cases hD
    have hfl : vs.filter (fun _ => true) = vs := by simp
    rw [hfl] at hF
    exact hQ D h' tk ys.toList k vs (keep_fr F kk) (news_add F (keep_news N kk) (by simpa using hpl) hD') hlen hP hF kk
theorem list_of_at {α : Type} {l l' : List α} (h1 : l'.length = l.length) (h2 : ∀ (j : Nat) v, l'[j]? = some v → l[j]? = some v) : l' = l := by
  refine List.ext_getElem h1 fun i hi hi' => ?_
  have := h2 i _ (List.getElem?_eq_getElem hi)
  rw [List.getElem?_eq_getElem hi'] at this
  exact (Option.some.inj this).symm
theorem comp_items {E : Value → Shared → Prop} {l : Addr} {vs : List Value} {n : Nat} (hh : A.handled = none) (hl : s.heap.get? l = some (listOf vs.toArray n)) (hsz : vs.length ≤ 1048576) (F : Fr h₀ L s.heap m) (N : News h₀ L s.heap news) (G : Value → Value → Prop)
    (helt : ∀ C v (s₃ : Shared) m₃ E', v ∈ vs → s₃.heap.Ns C m₃ → m₃ x = some v → Fr h₀ L s₃.heap m → News h₀ L s₃.heap news → s.toks ≤ s₃.toks → Keep s.heap s₃.heap →
      wpAny (model prog w) A (eval elt (compEnvC scope cl C env)) (fun y s₄ => G v y ∧ Keeps s₃ s₄) E' s₃)
    (hQ : ∀ D h' tk ys k, Fr h₀ L h' m → News h₀ L h' ((D, listOf ys.toArray k) :: news) → Paired G vs ys → Keep s.heap h' → Q (.ref D) { s with heap := h', toks := tk }) :
    wpAny (model prog w) A (pyIter (.ref l)) (CompThen prog w A env scope cl x elt G Q) E s := by
  have hil : s.heap.IsList l vs.toArray := ⟨_, hl, rfl, _, rfl⟩
  have hne : l ≠ s.heap.objs.size := Nat.ne_of_lt (Heap.lt_size hl)
  refine wpAny_pyIter_list hil ?_
  refine comp_walk F N (Walks.list hh s.heap.objs.size l hne vs.toArray) (by rw [List.size_toArray, sizeLine_eq]; omega) ⟨⟨_, Heap.get?_push_size _ rfl, rfl, rfl⟩, hil.at fun o e => Heap.get?_push_of_some _ e⟩ (fun b hb => ?_) G (fun C i v s₃ m₃ E' hv => helt C v s₃ m₃ E' ?_) fun D h' tk ys k vs' F' N' hlen hP hp hkp => ?_
  · rw [Heap.size_push]
    rcases List.mem_cons.mp hb with rfl | hb
    · exact Nat.lt_succ_self _
    · rw [List.mem_singleton.mp hb]; exact Nat.lt_succ_of_lt (Heap.lt_size hl)
  · exact List.mem_of_getElem? (by simpa using hv)
  · have : vs' = vs := list_of_at (by simpa using hlen) fun j v e => by simpa using hP j v e
    subst this
    exact hQ D h' tk ys k F' N' hp hkp
theorem comp_chars {E : Value → Shared → Prop} {l : List Nat} {t : Tok} (hh : A.handled = none) (hsz : l.length ≤ 1048576) (F : Fr h₀ L s.heap m) (N : News h₀ L s.heap news) (R : Nat → Value → Prop)
    (helt : ∀ C c u (s₃ : Shared) m₃ E', c ∈ l → s₃.heap.Ns C m₃ → m₃ x = some (.str (S [c]) u) → Fr h₀ L s₃.heap m → News h₀ L s₃.heap news → s.toks ≤ s₃.toks → Keep s.heap s₃.heap →
      wpAny (model prog w) A (eval elt (compEnvC scope cl C env)) (fun y s₄ => R c y ∧ Keeps s₃ s₄) E' s₃)
    (hQ : ∀ D h' tk ys k, Fr h₀ L h' m → News h₀ L h' ((D, listOf ys.toArray k) :: news) → Paired R l ys → Keep s.heap h' → Q (.ref D) { s with heap := h', toks := tk }) :
    wpAny (model prog w) A (pyIter (.str (S l) t)) (CompThen prog w A env scope cl x elt (fun v y => ∃ c u, v = .str (S [c]) u ∧ R c y) Q) E s := by
  have hcps : ∀ (i : Nat) (c : Nat), (S l).cps[i]? = some c → l[i]? = some c := fun i c e => by
    have e' : l.toArray[i]? = some c := e
    simpa using e'
  have hsize : (S l).cps.size = l.length := by show l.toArray.size = _; simp
  have fin : ∀ D h' tk ys k vs', Fr h₀ L h' m → News h₀ L h' ((D, listOf ys.toArray k) :: news) → vs'.length = (S l).cps.size → (∀ (j : Nat) v, vs'[j]? = some v → SignAt (S l) j v) → Paired (fun v y => ∃ c u, v = .str (S [c]) u ∧ R c y) vs' ys → Keep s.heap h' → Q (.ref D) { s with heap := h', toks := tk } := by
    intro D h' tk ys k vs' F' N' hlen hP hp hkp
    refine hQ D h' tk ys k F' N' ?_ hkp
    have gen : ∀ (l' : List Nat) (vs' ys : List Value), vs'.length = l'.length → (∀ (j : Nat) v, vs'[j]? = some v → ∃ c u, l'[j]? = some c ∧ v = .str (S [c]) u) → Paired (fun v y => ∃ c u, v = .str (S [c]) u ∧ R c y) vs' ys → Paired R l' ys := by
      intro l' vs' ys hl' hP' hp'
      induction hp' generalizing l' with
      | nil => cases l' with
        | nil => exact .nil
        | cons _ _ => simp at hl'
      | cons h1 h2 ih =>
        cases l' with
        | nil => simp at hl'
        | cons c r =>
          obtain ⟨c', u, e1, e2⟩ := h1
          obtain ⟨c'', u', e3, e4⟩ := hP' 0 _ rfl
          have e5 : c'' = c := by simpa using e3.symm
          subst e5
          rw [e1] at e4
          have e6 : S [c'] = S [c''] := by injection e4
          have e7 : [c'] = [c''] := S_inj e6
          have e8 : c' = c'' := by simpa using e7
          subst e8
          exact .cons e2 (ih r (by simpa using hl') fun j v e => by simpa using hP' (j + 1) v (by simpa using e))
    refine gen l vs' ys (by rw [hlen, hsize]) (fun j v e => ?_) hp
    obtain ⟨c, u, hc, rfl⟩ := hP j v e
    exact ⟨c, u, hcps _ _ hc, rfl⟩
  have go : ∀ (o : Obj) (St : Nat → Heap → Prop), Walks prog w A s.heap.objs.size [s.heap.objs.size] [s.heap.objs.size] (S l).cps.size (SignAt (S l)) St → St 0 (s.heap.push o) →
      CompThen prog w A env scope cl x elt (fun v y => ∃ c u, v = .str (S [c]) u ∧ R c y) Q (.ref s.heap.objs.size) { s with heap := s.heap.push o } := fun o St W hst => by
    refine comp_walk F N W (by rw [hsize, sizeLine_eq]; omega) hst (fun b hb => ?_) _ (fun C i v s₃ m₃ E' hv hn hx F' N' htk k => ?_) fin
    · rw [List.mem_singleton.mp hb, Heap.size_push]; exact Nat.lt_succ_self _
    · obtain ⟨c, u, hc, rfl⟩ := hv
      refine wpAny_mono (helt C c u s₃ m₃ E' (List.mem_of_getElem? (hcps _ _ hc)) hn hx F' N' htk k) (fun y s₄ h => ⟨⟨c, u, rfl, h.1⟩, h.2⟩) fun _ _ e => e
  cases ha : (S l).cps.all (· < 128)
  · exact wpAny_pyIter_wide ha (go _ _ (Walks.strWide hh _ (S l) t) ⟨_, Heap.get?_push_size _ rfl, rfl, rfl⟩)
  · exact wpAny_pyIter_ascii ha (go _ _ (Walks.strAscii hh _ (S l) t) ⟨_, Heap.get?_push_size _ rfl, rfl, rfl⟩)
/-- what stands behind a comprehension whose list goes to a local name -/
noncomputable abbrev CompThenA (prog : Program) (w : World) (A : Around) (env : Env) (scope : Scope) (cl : List (Str × Addr)) (x y : Str) (elt : Expr) (G : Value → Value → Prop) (Q : Flow → Shared → Prop) (it : Value) (s₂ : Shared) : Prop :=
  ∃ I fp wr n P St m, it = .ref I ∧ Walks prog w A I fp wr n P St ∧ n ≤ sizeLine ∧ St 0 s₂.heap ∧ (∀ b ∈ fp, b < s₂.heap.objs.size) ∧
      env.locals ∉ wr ∧ s₂.heap.Ns env.locals m ∧ QuietOnC prog w A env scope cl x [] elt wr P (fun _ => true) G s₂ ∧
      (∀ D h' tk ys (vs : List Value), s₂.heap.get? D = none → h'.IsList D ys → h'.PlainList D ys → vs.length = n → (∀ j v, vs[j]? = some v → P j v) → Paired G (vs.filter fun _ => true) ys.toList →
        h'.Ns env.locals (fun z => if z = y then some (.ref D) else m z) → (∀ b o, b ≠ env.locals → b ∉ wr → s₂.heap.get? b = some o → h'.get? b = some o) → Q .next { s₂ with heap := h', toks := tk })
theorem comp_itemsA {E : Value → Shared → Prop} {QF : Flow → Shared → Prop} {y : Str} {l : Addr} {vs : List Value} {n : Nat} (hh : A.handled = none) (hl : s.heap.get? l = some (listOf vs.toArray n)) (hsz : vs.length ≤ 1048576) (henv : env.locals = L) (F : Fr h₀ L s.heap m) (N : News h₀ L s.heap news) (G : Value → Value → Prop)
    (helt : ∀ C v (s₃ : Shared) m₃ E', v ∈ vs → s₃.heap.Ns C m₃ → m₃ x = some v → Fr h₀ L s₃.heap m → News h₀ L s₃.heap news → s.toks ≤ s₃.toks → Keep s.heap s₃.heap →
      wpAny (model prog w) A (eval elt (compEnvC scope cl C env)) (fun y s₄ => G v y ∧ Keeps s₃ s₄) E' s₃)
    (hQ : ∀ D h' tk ys k, Fr h₀ L h' (fun z => if z = y then some (.ref D) else m z) → News h₀ L h' ((D, listOf ys.toArray k) :: news) → Paired G vs ys → QF .next { s with heap := h', toks := tk }) :
    wpAny (model prog w) A (pyIter (.ref l)) (CompThenA prog w A env scope cl x y elt G QF) E s := by
  have hil : s.heap.IsList l vs.toArray := ⟨_, hl, rfl, _, rfl⟩
  have hne : l ≠ s.heap.objs.size := Nat.ne_of_lt (Heap.lt_size hl)
  refine wpAny_pyIter_list hil ?_
  have up : ∀ {h' : Heap}, (∀ b o', b ∉ [s.heap.objs.size] → (s.heap.push { cls := .type "list_iterator", data := .fields #[.ref l, .int 0 0] }).get? b = some o' → h'.get? b = some o') → Keep s.heap h' := fun hk b o' e =>
    hk b o' (fun hb => absurd (Heap.lt_size e) (by rw [List.mem_singleton.mp hb]; exact Nat.lt_irrefl _)) (Heap.get?_push_of_some _ e)
  refine ⟨_, _, _, _, _, _, m, rfl, Walks.list hh s.heap.objs.size l hne vs.toArray, by rw [List.size_toArray, sizeLine_eq]; omega, ?_, fun b hb => ?_, ?_, ?_, ⟨fun C i v s₃ m₃ E' _ _ _ _ _ _ => ?_, fun C i v s₃ m₃ E' _ hv _ hn hx hk htk => ?_⟩, ?_⟩
  · exact ⟨⟨_, Heap.get?_push_size _ rfl, rfl, rfl⟩, hil.at fun o e => Heap.get?_push_of_some _ e⟩
  · rw [Heap.size_push]
    rcases List.mem_cons.mp hb with rfl | hb
    · exact Nat.lt_succ_self _
    · rw [List.mem_singleton.mp hb]; exact Nat.lt_succ_of_lt (Heap.lt_size hl)
  · rw [henv]
    intro e
    exact Nat.lt_irrefl _ ((List.mem_singleton.mp e) ▸ F.ns.lt)
  · rw [henv]
    exact (F.push _).ns
  · exact wpAny_pure ⟨rfl, s₃.heap, s₃.toks, rfl, fun _ _ e => e⟩
  · have k := up hk
    exact helt C v s₃ m₃ E' (List.mem_of_getElem? (by simpa using hv)) hn hx (keep_fr F k) (keep_news N k) htk k
  · intro D h' tk ys vs' hD hl' ⟨k, hpl⟩ hlen hP hF hns hk
    have hD' : s.heap.get? D = none := by
      cases e : s.heap.get? D with
      | none => rfl
      | some o' => rw [Heap.get?_push_of_some _ e] at hD; cases hD
    have hfl : vs'.filter (fun _ => true) = vs' := by simp
    rw [hfl] at hF
    have : vs' = vs := list_of_at (by simpa using hlen) fun j v e => by simpa using hP j v e
    subst this
    rw [henv] at hns hk
    have kk : ∀ b o', b ≠ L → s.heap.get? b = some o' → h'.get? b = some o' := fun b o' hb e =>
      hk b o' hb (fun hb => absurd (Heap.lt_size e) (by rw [List.mem_singleton.mp hb]; exact Nat.lt_irrefl _)) (Heap.get?_push_of_some _ e)
    have F' : Fr h₀ L h' (fun z => if z = y then some (.ref D) else m z) := ⟨hns, fun b ob e => kk b ob (fun q => by
      have := Heap.lt_size e
      rw [q] at this
      exact absurd F.above (Nat.not_le.mpr this)) (F.keep b ob e), F.above⟩
    have N' : News h₀ L h' news := fun p hp => ⟨kk _ _ (N p hp).2.1 (N p hp).1, (N p hp).2⟩
    exact hQ D h' tk ys.toList k F' (news_add F N' (by simpa using hpl) hD') hF
end
section
variable {M : Model} {A : Around} {E : Value → Shared → Prop} {s : Shared} {h₀ : Heap} {L C : Addr} {m : Str → Option Value} {env : Env} {scope : Scope} {cl : List (Str × Addr)} {x : Str} {v : Value} {Q : Value → Shared → Prop} {pos : Pos} {news : Led'} {c : Addr} {o : Obj}
theorem nameE_L (hn : s.heap.Ns C m) (hv : m x = some v) (h : Q v s) (hk : (compEnvC scope cl C env).scope.kind = .function := by rfl) (hx : (compEnvC scope cl C env).kindOf x = some .local := by rfl) (hd : (x == ("__debug__" : Str)) = false := by decide) :
    wpAny M A (eval (.Name x pos) (compEnvC scope cl C env)) Q E s := wpAny_Name (wpAny_loadName_local hk hx hn hv h) hd
theorem nameE_C (N : News h₀ L s.heap news) (hc : cl.lookup x = some c) (hm : (c, o) ∈ news) (hd : o.data = .cell (some v)) (h : Q v s)
    (hk : (compEnvC scope cl C env).scope.kind = .function := by rfl) (hx : (compEnvC scope cl C env).kindOf x = some .cell := by rfl) (hb : (x == ("__debug__" : Str)) = false := by decide) :
    wpAny M A (eval (.Name x pos) (compEnvC scope cl C env)) Q E s := wpAny_Name (wpAny_loadName_cell hk hx hc ⟨o, N.get hm, hd⟩ h) hb
variable {K : Frag} {p : Program} {loose : List Str} {mg mb : Str → Option Value}
theorem nameE_K (F : Fr h₀ L s.heap m) (X : K.In h₀) (T : TopRead p loose mg mb h₀) (e : nsIn K mainGlobals x = some (some v)) (h : Q v s)
    (hg : env.globals = mainGlobals := by rfl) (hk : (compEnvC scope cl C env).scope.kind = .function := by rfl) (hx : (compEnvC scope cl C env).kindOf x = some .globalImplicit := by rfl) (hd : (x == ("__debug__" : Str)) = false := by decide) :
    wpAny M A (eval (.Name x pos) (compEnvC scope cl C env)) Q E s := Name_function_global hk hx (loadGlobal_global (env := compEnvC scope cl C env) (by show s.heap.Ns env.globals _; rw [hg]; exact T.g.keeps F.keep) (mg_of X T.g e) h) hd
end
section
variable {prog : Program} {w : World} {A : Around} {s : Shared} {env : Env} {h₀ : Heap} {L : Addr} {m : Str → Option Value} {news : Led'} {scope : Scope} {cl : List (Str × Addr)} {x y : Str} {elt iter : Expr} {px py pos spos : Pos} {E : Value → Shared → Prop}
theorem assign_items {QF : Flow → Shared → Prop} {l : Addr} {vs : List Value} {n : Nat} (hiter : ∀ Q E : Value → Shared → Prop, Q (.ref l) s → wpAny (model prog w) A (eval iter env) Q E s) (hl : s.heap.get? l = some (listOf vs.toArray n)) (hsz : vs.length ≤ 1048576)
    (F : Fr h₀ L s.heap m) (N : News h₀ L s.heap news) (ht1 : 1 ≤ s.toks) (G : Value → Value → Prop)
    (helt : ∀ C v (s₃ : Shared) m₃ E', v ∈ vs → s₃.heap.Ns C m₃ → m₃ x = some v → Fr h₀ L s₃.heap m → News h₀ L s₃.heap news → 1 ≤ s₃.toks → Keep s.heap s₃.heap →
      wpAny (model prog w) A (eval elt (compEnvC scope cl C env)) (fun y s₄ => G v y ∧ Keeps s₃ s₄) E' s₃)
    (hQ : ∀ D h' tk ys k, 1 ≤ tk → Fr h₀ L h' (fun z => if z = y then some (.ref D) else m z) → News h₀ L h' ((D, listOf ys.toArray k) :: news) → Paired G vs ys → QF .next { s with heap := h', toks := tk })
    (hh : A.handled = none := by rfl) (henv : env.locals = L := by rfl)
    (hsw : swapsWith (.ListComp elt [⟨.Name x px, iter, [], 0⟩] scope pos) (some (.Name y py)) spos.line env = pure true := by rfl)
    (hclos : closureFor scope env = pure cl := by rfl) (hcell : ∀ z ∈ scope.names, z.2 ≠ .cell := by decide) (hkind : scope.kind = .function := by rfl)
    (hnames : ∀ z ∈ scope.names, z.2 = .local → scope.names.lookup z.1 = some .local := by decide) (hx : scope.names.lookup x = some .local := by rfl)
    (hy : env.kindOf y = some .local := by rfl) (hp : (env.scope.kind == .class || (env.scope.kind == .module && env.locals != env.globals)) = false := by rfl)
    (hs : ∀ x, foldedSetIterable iter env x = pure x := by intro _; rfl) :
    wpAny (model prog w) A (exec (.Assign [.Name y py] (.ListComp elt [⟨.Name x px, iter, [], 0⟩] scope pos) spos) env) QF E s := by
  refine wpAny_with_toks (n := 1) ht1 ?_
  refine wpAny_Assign_ListComp_free (cl := cl) (fun _ => true) G hsw hclos hcell hkind hnames hx hy hp (hiter _ _ ?_) hs
  exact comp_itemsA (QF := fun a s' => 1 ≤ s'.toks → QF a s') (env := env) (scope := scope) (cl := cl) (x := x) (y := y) (elt := elt) hh hl hsz henv F N G (fun C v s₃ m₃ E' hv hn hx F3 N3 htk hk => helt C v s₃ m₃ E' hv hn hx F3 N3 (Nat.le_trans ht1 htk) hk) fun D h' tk ys k F' N' hp htk => hQ D h' tk ys k htk F' N' hp
theorem list_items {Q : Value → Shared → Prop} {l : Addr} {vs : List Value} {n : Nat} (hiter : ∀ Q E : Value → Shared → Prop, Q (.ref l) s → wpAny (model prog w) A (eval iter env) Q E s) (hl : s.heap.get? l = some (listOf vs.toArray n)) (hsz : vs.length ≤ 1048576)
    (F : Fr h₀ L s.heap m) (N : News h₀ L s.heap news) (ht1 : 1 ≤ s.toks) (G : Value → Value → Prop)
    (helt : ∀ C v (s₃ : Shared) m₃ E', v ∈ vs → s₃.heap.Ns C m₃ → m₃ x = some v → Fr h₀ L s₃.heap m → News h₀ L s₃.heap news → 1 ≤ s₃.toks → Keep s.heap s₃.heap →
      wpAny (model prog w) A (eval elt (compEnvC scope cl C env)) (fun y s₄ => G v y ∧ Keeps s₃ s₄) E' s₃)
    (hQ : ∀ D h' tk ys k, 1 ≤ tk → Fr h₀ L h' m → News h₀ L h' ((D, listOf ys.toArray k) :: news) → Paired G vs ys → Keep s.heap h' → Q (.ref D) { s with heap := h', toks := tk })
    (hh : A.handled = none := by rfl)
    (hclos : closureFor scope env = pure cl := by rfl) (hcell : ∀ z ∈ scope.names, z.2 ≠ .cell := by decide) (hkind : scope.kind = .function := by rfl)
    (hnames : ∀ z ∈ scope.names, z.2 = .local → scope.names.lookup z.1 = some .local := by decide) (hx : scope.names.lookup x = some .local := by rfl)
    (hs : ∀ x, foldedSetIterable iter env x = pure x := by intro _; rfl) :
    wpAny (model prog w) A (eval (.ListComp elt [⟨.Name x px, iter, [], 0⟩] scope pos) env) Q E s := by
  refine wpAny_with_toks (n := 1) ht1 ?_
  refine wpAny_ListComp_free (cl := cl) (fun _ => true) G hclos hcell hkind hnames hx (hiter _ _ ?_) hs
  exact comp_items (Q := fun a s' => 1 ≤ s'.toks → Q a s') (env := env) (scope := scope) (cl := cl) (x := x) (elt := elt) hh hl hsz F N G (fun C v s₃ m₃ E' hv hn hx F3 N3 htk hk => helt C v s₃ m₃ E' hv hn hx F3 N3 (Nat.le_trans ht1 htk) hk) fun D h' tk ys k F' N' hp hkp htk => hQ D h' tk ys k htk F' N' hp hkp
theorem list_chars {Q : Value → Shared → Prop} {l : List Nat} {t : Tok} (hiter : ∀ Q E : Value → Shared → Prop, Q (.str (S l) t) s → wpAny (model prog w) A (eval iter env) Q E s) (hsz : l.length ≤ 1048576)
    (F : Fr h₀ L s.heap m) (N : News h₀ L s.heap news) (ht1 : 1 ≤ s.toks) (R : Nat → Value → Prop)
    (helt : ∀ C c u (s₃ : Shared) m₃ E', c ∈ l → s₃.heap.Ns C m₃ → m₃ x = some (.str (S [c]) u) → Fr h₀ L s₃.heap m → News h₀ L s₃.heap news → 1 ≤ s₃.toks → Keep s.heap s₃.heap →
      wpAny (model prog w) A (eval elt (compEnvC scope cl C env)) (fun y s₄ => R c y ∧ Keeps s₃ s₄) E' s₃)
    (hQ : ∀ D h' tk ys k, 1 ≤ tk → Fr h₀ L h' m → News h₀ L h' ((D, listOf ys.toArray k) :: news) → Paired R l ys → Keep s.heap h' → Q (.ref D) { s with heap := h', toks := tk })
    (hh : A.handled = none := by rfl)
    (hclos : closureFor scope env = pure cl := by rfl) (hcell : ∀ z ∈ scope.names, z.2 ≠ .cell := by decide) (hkind : scope.kind = .function := by rfl)
    (hnames : ∀ z ∈ scope.names, z.2 = .local → scope.names.lookup z.1 = some .local := by decide) (hx : scope.names.lookup x = some .local := by rfl)
    (hs : ∀ x, foldedSetIterable iter env x = pure x := by intro _; rfl) :
    wpAny (model prog w) A (eval (.ListComp elt [⟨.Name x px, iter, [], 0⟩] scope pos) env) Q E s := by
  refine wpAny_with_toks (n := 1) ht1 ?_
  refine wpAny_ListComp_free (cl := cl) (fun _ => true) (fun v y => ∃ c u, v = .str (S [c]) u ∧ R c y) hclos hcell hkind hnames hx (hiter _ _ ?_) hs
  exact comp_chars (Q := fun a s' => 1 ≤ s'.toks → Q a s') (env := env) (scope := scope) (cl := cl) (x := x) (elt := elt) hh hsz F N R (fun C c u s₃ m₃ E' hv hn hx F3 N3 htk hk => helt C c u s₃ m₃ E' hv hn hx F3 N3 (Nat.le_trans ht1 htk) hk) fun D h' tk ys k F' N' hp hkp htk => hQ D h' tk ys k htk F' N' hp hkp
theorem paired_txts {α : Type} {R : α → Value → Prop} {f : α → List Nat} {l : List α} {ys : List Value} (h : Paired R l ys) (hf : ∀ a y, R a y → ∃ t, y = .str (S (f a)) t) : Txts ys (l.map f) := by
  induction h with
  | nil => exact .nil
  | cons h _ ih =>
    obtain ⟨t, rfl⟩ := hf _ _ h
    exact .cons ih
theorem Txts.mem {vs : List Value} {xs : List (List Nat)} (h : Txts vs xs) {v : Value} (hv : v ∈ vs) : ∃ x t, v = .str (S x) t ∧ x ∈ xs := by
  induction h with
  | nil => simp at hv
  | cons _ ih =>
    rcases List.mem_cons.mp hv with rfl | hv
    · exact ⟨_, _, rfl, List.mem_cons_self ..⟩
    · obtain ⟨x, t, rfl, hx⟩ := ih hv
      exact ⟨x, t, rfl, List.mem_cons_of_mem _ hx⟩
/-- a list of texts goes to a list of texts -/
theorem Txts.paired {vs ys : List Value} {xs : List (List Nat)} {f : List Nat → List Nat} (h : Txts vs xs) (hp : Paired (fun v y => ∃ x t t', v = .str (S x) t ∧ x ∈ xs ∧ y = .str (S (f x)) t') vs ys) : Txts ys (xs.map f) := by
  suffices gen : ∀ zs, Paired (fun v y => ∃ x t t', v = .str (S x) t ∧ x ∈ zs ∧ y = .str (S (f x)) t') vs ys → Txts ys (xs.map f) from gen _ hp
  clear hp
  intro zs hp
  induction h generalizing ys with
  | nil => cases hp; exact .nil
  | cons _ ih =>
    cases hp with
    | cons h1 h2 =>
      obtain ⟨x, t, t', e, _, rfl⟩ := h1
      injection e with e1 e2
      have e3 := S_inj e1
      subst e3
      exact .cons (ih h2)
end
end Mine
set_option maxHeartbeats 4000000
namespace Mine
open StrLaws Builtin.Str in
theorem occ_stay (s sub : Str) (hi : Nat) : ∀ (l : List Nat) (st : Array Nat × Nat), ¬ st.fst.size < 1 → (forIn l st (occBody s sub hi 1)).run.fst = st.fst
  | [], _, _ => rfl
  | a :: l, st, h => by
    rw [List.forIn_cons]
    unfold occBody
    rw [if_neg (fun q => h q.1.1.1)]
    exact occ_stay s sub hi l _ h
open StrLaws Builtin.Str in
theorem occ_find (s sub : Str) (hi : Nat) : ∀ (l : List Nat) (free : Nat), (∀ i ∈ l, free ≤ i) →
    (forIn l ((#[] : Array Nat), free) (occBody s sub hi 1)).run.fst.toList = (l.find? fun i => decide (i + sub.length ≤ hi) && subAt s sub i).toList
  | [], _, _ => rfl
  | a :: l, free, hf => by
    rw [List.forIn_cons]
    unfold occBody
    have ha : free ≤ a := hf a (List.mem_cons_self ..)
    by_cases hc : a + sub.length ≤ hi ∧ subAt s sub a = true
    · have c1 : (((#[] : Array Nat), free).fst.size < 1 ∧ ((#[] : Array Nat), free).snd ≤ a) ∧ a + sub.length ≤ hi := ⟨⟨by simp, ha⟩, hc.1⟩
      rw [if_pos ⟨c1, hc.2⟩]
      have e : (decide (a + sub.length ≤ hi) && subAt s sub a) = true := by simp [hc.1, hc.2]
      rw [List.find?_cons, e]
      have := occ_stay s sub hi l ((#[] : Array Nat).push a, a + sub.length) (by simp)
      show ((forIn l ((#[] : Array Nat).push a, a + sub.length) (occBody s sub hi 1)).run.fst).toList = _
      rw [this]
      rfl
    · have c2 : ¬ (((((#[] : Array Nat), free).fst.size < 1 ∧ ((#[] : Array Nat), free).snd ≤ a) ∧ a + sub.length ≤ hi) ∧ subAt s sub a = true) := fun h => hc ⟨h.1.2, h.2⟩
      rw [if_neg c2]
      have e : (decide (a + sub.length ≤ hi) && subAt s sub a) = false := by
        cases h : (decide (a + sub.length ≤ hi) && subAt s sub a) with
        | false => rfl
        | true => simp only [Bool.and_eq_true, decide_eq_true_eq] at h; exact absurd h hc
      rw [List.find?_cons, e]
      exact occ_find s sub hi l free fun i hi' => hf i (List.mem_cons_of_mem _ hi')
/-- str.find from a place on -/
noncomputable def findL (r l : List Nat) (lo : Nat) : Option Nat := (List.range' lo (l.length + 1 - lo)).find? fun i => decide (i + r.length ≤ l.length) && ((l.drop i).take r.length == r)
theorem subAt_S (l r : List Nat) (i : Nat) : Builtin.Str.subAt (S l) (S r) i = ((l.drop i).take r.length == r) := by
  rw [StrLaws.subAt_eq, S_cps, S_cps, S_length]
theorem find3_S (l r : List Nat) (k : Nat) : Txt.find3 (S l) (S r) (k : Int) = match findL r l k with | some i => (i : Int) | none => -1 := by
  unfold Txt.find3
  have e0 : fromIndex (S l).length (k : Int) = k := by
    rw [S_length]
    unfold fromIndex
    rw [if_neg (by omega)]
    omega
  rw [e0, StrLaws.occ_eq]
  have e1 : (forIn (List.range' k ((S l).length + 1 - k)) ((#[] : Array Nat), k) (StrLaws.occBody (S l) (S r) (S l).length 1)).run.fst.toList = (findL r l k).toList := by
    rw [occ_find _ _ _ _ _ (fun i hi => (List.mem_range'_1.mp hi).1)]
    unfold findL
    simp only [S_length, subAt_S]
  rw [e1]
  cases findL r l k <;> rfl
theorem endswith_S (l r : List Nat) : Txt.endswith (S l) (S r) = (decide (r.length ≤ l.length) && (l.drop (l.length - r.length) == r)) := by
  unfold Txt.endswith
  rw [subAt_S, S_length, S_length, Nat.zero_add]
  by_cases h : r.length ≤ l.length
  · have : (l.drop (l.length - r.length)).take r.length = l.drop (l.length - r.length) := List.take_of_length_le (by simp; omega)
    rw [this]
  · simp [h]
end Mine
set_option maxHeartbeats 4000000
namespace Mine
theorem range_paired {R : Nat → Value → Prop} {p : Nat → Bool} : ∀ (vs : List Value) (a : Nat) (ys : List Value), (∀ (j : Nat) v, vs[j]? = some v → ∃ t, v = .int ((a + j : Nat) : Int) t) →
    Paired (fun v y => ∃ (i : Nat) (u : Tok), v = .int i u ∧ R i y) (vs.filter fun v => match v with | .int i _ => p i.toNat | _ => false) ys → Paired R ((List.range' a vs.length).filter p) ys
  | [], _, ys, _, h => by
    cases h
    exact .nil
  | v :: r, a, ys, hv, h => by
    obtain ⟨t, e⟩ := hv 0 v rfl
    subst e
    have hr : ∀ (j : Nat) v, r[j]? = some v → ∃ t, v = .int ((a + 1 + j : Nat) : Int) t := fun j v e => by
      obtain ⟨t', e'⟩ := hv (j + 1) v (by simpa using e)
      exact ⟨t', by rw [e']; congr 1; omega⟩
    rw [List.length_cons, List.range'_succ]
    rw [Nat.add_zero] at h
    by_cases hp : p a = true
    · rw [List.filter_cons_of_pos (by simpa using hp)] at h
      rw [List.filter_cons_of_pos hp]
      cases h with
      | cons h1 h2 =>
        obtain ⟨i, u, e1, e2⟩ := h1
        injection e1 with e3 _
        have e4 : a = i := by omega
        subst e4
        exact .cons e2 (range_paired r (a + 1) _ hr h2)
    · rw [List.filter_cons_of_neg (by simpa using hp)] at h
      rw [List.filter_cons_of_neg hp]
      exact range_paired r (a + 1) _ hr h
section
variable {prog : Program} {w : World} {A : Around} {s : Shared} {env : Env} {h₀ : Heap} {L : Addr} {m : Str → Option Value} {news : Led'} {scope : Scope} {cl : List (Str × Addr)} {x : Str} {elt : Expr} {Q : Value → Shared → Prop} {ifs : List Expr}
/-- the tests of a comprehension -/
noncomputable abbrev testsOf (ifs : List Expr) (env : Env) : Sem Bool := forIn ifs true fun c r => if r = true then do let ok ← isTrue c env (eval c env); pure (ForInStep.yield ok) else pure (ForInStep.yield r)
noncomputable abbrev CompThenT (prog : Program) (w : World) (A : Around) (env : Env) (scope : Scope) (cl : List (Str × Addr)) (x : Str) (ifs : List Expr) (elt : Expr) (p : Value → Bool) (G : Value → Value → Prop) (Q : Value → Shared → Prop) (it : Value) (s₂ : Shared) : Prop :=
  ∃ I fp wr n P St, it = .ref I ∧ Walks prog w A I fp wr n P St ∧ n ≤ sizeLine ∧ St 0 s₂.heap ∧ (∀ b ∈ fp, b < s₂.heap.objs.size) ∧
      QuietOnC prog w A env scope cl x ifs elt wr P p G s₂ ∧
      (∀ D h' tk ys (vs : List Value), s₂.heap.get? D = none → h'.IsList D ys → h'.PlainList D ys → vs.length = n → (∀ j v, vs[j]? = some v → P j v) → Paired G (vs.filter p) ys.toList →
        (∀ b o, b ∉ wr → s₂.heap.get? b = some o → h'.get? b = some o) → Q (.ref D) { s₂ with heap := h', toks := tk })
theorem comp_walkT {o : Obj} {fp : List Addr} {n : Nat} {P : Nat → Value → Prop} {St : Nat → Heap → Prop} (F : Fr h₀ L s.heap m) (N : News h₀ L s.heap news) (W : Walks prog w A s.heap.objs.size fp [s.heap.objs.size] n P St) (hsz : n ≤ sizeLine)
    (hst : St 0 (s.heap.push o)) (hfp : ∀ b ∈ fp, b < (s.heap.push o).objs.size) (p : Value → Bool) (G : Value → Value → Prop)
    (htest : ∀ C i v (s₃ : Shared) m₃ E', P i v → s₃.heap.Ns C m₃ → m₃ x = some v → Fr h₀ L s₃.heap m → News h₀ L s₃.heap news → s.toks ≤ s₃.toks → Keep s.heap s₃.heap →
      wpAny (model prog w) A (testsOf ifs (compEnvC scope cl C env)) (fun ok s₄ => ok = p v ∧ Keeps s₃ s₄) E' s₃)
    (helt : ∀ C i v (s₃ : Shared) m₃ E', P i v → p v = true → s₃.heap.Ns C m₃ → m₃ x = some v → Fr h₀ L s₃.heap m → News h₀ L s₃.heap news → s.toks ≤ s₃.toks → Keep s.heap s₃.heap →
      wpAny (model prog w) A (eval elt (compEnvC scope cl C env)) (fun y s₄ => G v y ∧ Keeps s₃ s₄) E' s₃)
    (hQ : ∀ D h' tk (ys : List Value) k (vs : List Value), Fr h₀ L h' m → News h₀ L h' ((D, listOf ys.toArray k) :: news) → vs.length = n → (∀ j v, vs[j]? = some v → P j v) → Paired G (vs.filter p) ys → Keep s.heap h' → Q (.ref D) { s with heap := h', toks := tk }) :
    CompThenT prog w A env scope cl x ifs elt p G Q (.ref s.heap.objs.size) { s with heap := s.heap.push o } := by
  have up : ∀ {h' : Heap}, (∀ b o', b ∉ [s.heap.objs.size] → (s.heap.push o).get? b = some o' → h'.get? b = some o') → Keep s.heap h' := fun hk b o' e =>
    hk b o' (fun hb => absurd (Heap.lt_size e) (by rw [List.mem_singleton.mp hb]; exact Nat.lt_irrefl _)) (Heap.get?_push_of_some _ e)
  refine ⟨_, fp, _, n, P, St, rfl, W, hsz, hst, hfp, ⟨fun C i v s₃ m₃ E' _ hv hn hx hk htk => ?_, fun C i v s₃ m₃ E' _ hv hpv hn hx hk htk => ?_⟩, ?_⟩
  · have k := up hk
    exact htest C i v s₃ m₃ E' hv hn hx (keep_fr F k) (keep_news N k) htk k
  · have k := up hk
    exact helt C i v s₃ m₃ E' hv hpv hn hx (keep_fr F k) (keep_news N k) htk k
  · intro D h' tk ys vs hD hl ⟨k, hpl⟩ hlen hP hF hk
    have kk := up hk
    have hD' : s.heap.get? D = none := by
      cases e : s.heap.get? D with
      | none => rfl
      | some o' => rw [Heap.get?_push_of_some _ e] at hD; cases hD
    exact hQ D h' tk ys.toList k vs (keep_fr F kk) (news_add F (keep_news N kk) (by simpa using hpl) hD') hlen hP hF kk
theorem walks_lt {I : Addr} {fp wr : List Addr} {n : Nat} {P : Nat → Value → Prop} {St : Nat → Heap → Prop} (W : Walks prog w A I fp wr n P St) : Walks prog w A I fp wr n (fun i v => i < n ∧ P i v) St where
  sub := W.sub
  frame := W.frame
  item := fun i s Q E hi st hQ => W.item i s Q E hi st fun v h' tk hP => hQ v h' tk ⟨hi, hP⟩
  done := W.done
  self := W.self
/-- the walk over a range(n) of the base or the ledger -/
theorem comp_range {E : Value → Shared → Prop} {r : Addr} {n : Nat} {t u v : Tok} (hh : A.handled = none) (hr : IsRange s.heap r 0 n 1 t u v) (hn : n ≤ 1048576) (F : Fr h₀ L s.heap m) (N : News h₀ L s.heap news) (p : Nat → Bool) (R : Nat → Value → Prop)
    (htest : ∀ C (i : Nat) u (s₃ : Shared) m₃ E', i < n → s₃.heap.Ns C m₃ → m₃ x = some (.int i u) → Fr h₀ L s₃.heap m → News h₀ L s₃.heap news → s.toks ≤ s₃.toks → Keep s.heap s₃.heap →
      wpAny (model prog w) A (testsOf ifs (compEnvC scope cl C env)) (fun ok s₄ => ok = p i ∧ Keeps s₃ s₄) E' s₃)
    (helt : ∀ C (i : Nat) u (s₃ : Shared) m₃ E', i < n → p i = true → s₃.heap.Ns C m₃ → m₃ x = some (.int i u) → Fr h₀ L s₃.heap m → News h₀ L s₃.heap news → s.toks ≤ s₃.toks → Keep s.heap s₃.heap →
      wpAny (model prog w) A (eval elt (compEnvC scope cl C env)) (fun y s₄ => R i y ∧ Keeps s₃ s₄) E' s₃)
    (hQ : ∀ D h' tk (ys : List Value) k, Fr h₀ L h' m → News h₀ L h' ((D, listOf ys.toArray k) :: news) → Paired R ((List.range n).filter p) ys → Keep s.heap h' → Q (.ref D) { s with heap := h', toks := tk }) :
    wpAny (model prog w) A (pyIter (.ref r)) (CompThenT prog w A env scope cl x ifs elt (fun v => match v with | .int i _ => p i.toNat | _ => false) (fun v y => ∃ (i : Nat) (u : Tok), v = .int i u ∧ R i y) Q) E s := by
  have hrs : Builtin.Range.rangeSize 0 n 1 = n := by
    unfold Builtin.Range.rangeSize
    simp
    try omega
  have hsm : Builtin.Range.small 0 n 1 = true := by
    unfold Builtin.Range.small
    rw [hrs]
    unfold Builtin.Range.rangeFitsLong
    simp
    omega
  refine wpAny_pyIter_range hr hsm ?_
  rw [hrs]
  refine comp_walkT F N (walks_lt (Walks.range hh s.heap.objs.size 0 1 n)) (by rw [sizeLine_eq]; omega) ?_ (fun b hb => by rw [List.mem_singleton.mp hb, Heap.size_push]; exact Nat.lt_succ_self _) _ _ ?_ ?_ ?_
  · have e1 : (0 : Int) + ((0 : Nat) : Int) * 1 = 0 := by omega
    have e2 : (n : Int) - ((0 : Nat) : Int) = n := by omega
    show IsRangeIter _ _ _ _ _
    rw [e1, e2]
    exact Heap.get?_push_size _ rfl
  · rintro C i v s₃ m₃ E' ⟨hi, t', rfl⟩ hn' hx F3 N3 htk hk
    have e : (0 : Int) + (i : Int) * 1 = i := by omega
    rw [e] at hx ⊢
    exact htest C i t' s₃ m₃ E' hi hn' hx F3 N3 htk hk
  · rintro C i v s₃ m₃ E' ⟨hi, t', rfl⟩ hp hn' hx F3 N3 htk hk
    have e : (0 : Int) + (i : Int) * 1 = i := by omega
    rw [e] at hx hp ⊢
    exact wpAny_mono (helt C i t' s₃ m₃ E' hi hp hn' hx F3 N3 htk hk) (fun y s₄ h => ⟨⟨i, t', rfl, h.1⟩, h.2⟩) fun _ _ e => e
  · intro D h' tk ys k vs F' N' hlen hP hp hk
    refine hQ D h' tk ys k F' N' ?_ hk
    have := range_paired (R := R) (p := p) vs 0 ys (fun j v e => by
      obtain ⟨_, t', rfl⟩ := hP j v e
      exact ⟨t', by rw [show (0 : Int) + (j : Int) * 1 = ((0 + j : Nat) : Int) from by omega]⟩) hp
    rw [hlen, ← List.range_eq_range'] at this
    exact this
end
section
variable {prog : Program} {w : World} {A : Around} {s : Shared} {env : Env} {h₀ : Heap} {L : Addr} {m : Str → Option Value} {news : Led'} {scope : Scope} {cl : List (Str × Addr)} {x : Str} {elt iter : Expr} {px pos : Pos} {E : Value → Shared → Prop} {ifs : List Expr}
theorem list_range {Q : Value → Shared → Prop} {n : Nat} (_ : Fr h₀ L s.heap m) (_ : News h₀ L s.heap news)
    (hiter : ∀ Q E : Value → Shared → Prop, (∀ r h' tk t u v, IsRange h' r 0 n 1 t u v → Fr h₀ L h' m → News h₀ L h' news → Keep s.heap h' → s.toks ≤ tk → Q (.ref r) { s with heap := h', toks := tk }) → wpAny (model prog w) A (eval iter env) Q E s)
    (hn : n ≤ 1048576) (ht1 : 1 ≤ s.toks) (p : Nat → Bool) (R : Nat → Value → Prop)
    (htest : ∀ C (i : Nat) u (s₃ : Shared) m₃ E', i < n → s₃.heap.Ns C m₃ → m₃ x = some (.int i u) → Fr h₀ L s₃.heap m → News h₀ L s₃.heap news → 1 ≤ s₃.toks →
      wpAny (model prog w) A (testsOf ifs (compEnvC scope cl C env)) (fun ok s₄ => ok = p i ∧ Keeps s₃ s₄) E' s₃)
    (helt : ∀ C (i : Nat) u (s₃ : Shared) m₃ E', i < n → p i = true → s₃.heap.Ns C m₃ → m₃ x = some (.int i u) → Fr h₀ L s₃.heap m → News h₀ L s₃.heap news → 1 ≤ s₃.toks →
      wpAny (model prog w) A (eval elt (compEnvC scope cl C env)) (fun y s₄ => R i y ∧ Keeps s₃ s₄) E' s₃)
    (hQ : ∀ D h' tk (ys : List Value) k, 1 ≤ tk → Fr h₀ L h' m → News h₀ L h' ((D, listOf ys.toArray k) :: news) → Paired R ((List.range n).filter p) ys → Keep s.heap h' → Q (.ref D) { s with heap := h', toks := tk })
    (hh : A.handled = none := by rfl)
    (hclos : closureFor scope env = pure cl := by rfl) (hcell : ∀ z ∈ scope.names, z.2 ≠ .cell := by decide) (hkind : scope.kind = .function := by rfl)
    (hnames : ∀ z ∈ scope.names, z.2 = .local → scope.names.lookup z.1 = some .local := by decide) (hx : scope.names.lookup x = some .local := by rfl)
    (hs : ∀ x, foldedSetIterable iter env x = pure x := by intro _; rfl) :
    wpAny (model prog w) A (eval (.ListComp elt [⟨.Name x px, iter, ifs, 0⟩] scope pos) env) Q E s := by
  refine wpAny_with_toks (n := 1) ht1 ?_
  refine wpAny_ListComp_free (cl := cl) (fun v => match v with | .int i _ => p i.toNat | _ => false) (fun v y => ∃ (i : Nat) (u : Tok), v = .int i u ∧ R i y) hclos hcell hkind hnames hx (hiter _ _ fun r h' tk t u v hr F N hk htk => ?_) hs
  exact comp_range (s := { s with heap := h', toks := tk }) (Q := fun a s' => 1 ≤ s'.toks → Q a s') (env := env) (scope := scope) (cl := cl) (x := x) (elt := elt) (ifs := ifs) hh hr hn F N p R
    (fun C i u s₃ m₃ E' hi hn hx F3 N3 ht _ => htest C i u s₃ m₃ E' hi hn hx F3 N3 (Nat.le_trans ht1 (Nat.le_trans htk ht)))
    (fun C i u s₃ m₃ E' hi hp hn hx F3 N3 ht _ => helt C i u s₃ m₃ E' hi hp hn hx F3 N3 (Nat.le_trans ht1 (Nat.le_trans htk ht)))
    fun D h' tk ys k F' N' hp hkp ht => hQ D h' tk ys k ht F' N' hp fun b o e => hkp b o (hk b o e)
end
end Mine
set_option maxHeartbeats 4000000
namespace Mine
/-- text.split(c) -/
noncomputable def splitL (c : Nat) : List Nat → List (List Nat)
  | [] => [[]]
  | a :: r => if a = c then [] :: splitL c r else match splitL c r with | h :: t => (a :: h) :: t | [] => [[a]]
theorem splitL_ne (c : Nat) (l : List Nat) : splitL c l ≠ [] := by
  cases l with
  | nil => simp [splitL]
  | cons a r =>
    unfold splitL
    split
    · simp
    · split <;> simp
theorem splitL_free (c : Nat) (p : List Nat) (h : c ∉ p) : splitL c p = [p] := by
  induction p with
  | nil => rfl
  | cons a r ih =>
    have h1 : ¬ a = c := fun e => h (by rw [e]; exact List.mem_cons_self ..)
    rw [splitL, if_neg h1, ih fun q => h (List.mem_cons_of_mem _ q)]
theorem splitL_cons (c : Nat) (p r : List Nat) (h : c ∉ p) : splitL c (p ++ c :: r) = p :: splitL c r := by
  induction p with
  | nil => rw [List.nil_append, splitL, if_pos rfl]
  | cons a q ih =>
    have h1 : ¬ a = c := fun e => h (by rw [e]; exact List.mem_cons_self ..)
    rw [List.cons_append, splitL, if_neg h1, ih fun z => h (List.mem_cons_of_mem _ z)]
theorem join_splitL (c : Nat) : ∀ ps : List Str, ps ≠ [] → (∀ p ∈ ps, c ∉ p.cps.toList) → splitL c (Str.join (S [c]) ps).cps.toList = ps.map (·.cps.toList)
  | [], h, _ => absurd rfl h
  | [x], _, hf => by
    show splitL c x.cps.toList = _
    exact splitL_free c _ (hf x (List.mem_cons_self ..))
  | x :: y :: r, _, hf => by
    rw [join_cons_cons]
    have e : (x ++ S [c] ++ Str.join (S [c]) (y :: r)).cps.toList = x.cps.toList ++ c :: (Str.join (S [c]) (y :: r)).cps.toList := by
      show ((x.cps ++ (S [c]).cps) ++ (Str.join (S [c]) (y :: r)).cps).toList = _
      rw [Array.toList_append, Array.toList_append, S_cps]
      simp
    rw [e, splitL_cons c _ _ (hf x (List.mem_cons_self ..)), join_splitL c (y :: r) (by simp) fun p hp => hf p (List.mem_cons_of_mem _ hp)]
    rfl
theorem split_S (c : Nat) (l : List Nat) (hne : Txt.split (S l) (S [c]) ≠ []) : Txt.split (S l) (S [c]) = (splitL c l).map S := by
  have h1 := join_splitL c (Txt.split (S l) (S [c])) hne (StrLaws.split_free (S l) c)
  rw [StrLaws.join_split, S_cps] at h1
  rw [h1, List.map_map]
  have : (S ∘ fun x : Str => x.cps.toList) = id := by
    funext x
    show S x.cps.toList = x
    exact (S_of x).symm
  rw [this, List.map_id]
end Mine
set_option maxHeartbeats 4000000
namespace Mine
/-- the signs that carry a backslash: & # . \ CR LF TAB -/
noncomputable def dressC (c : Nat) : List Nat := if ([38, 35, 46, 92, 13, 10, 9] : List Nat).contains c then [92, c] else [c]
noncomputable def dressL (l : List Nat) : List Nat := (l.map dressC).flatten
theorem dressL_length (l : List Nat) : (dressL l).length ≤ 2 * l.length := by
  unfold dressL
  induction l with
  | nil => simp
  | cons c r ih =>
    have : (dressC c).length ≤ 2 := by unfold dressC; split <;> simp
    simp only [List.map_cons, List.flatten_cons, List.length_append, List.length_cons]
    omega
/-- what _law_together answers -/
noncomputable def togL (rs : List (List Nat)) : List Nat :=
  let d := rs.map dressL
  [40, 63, 115, 58] ++ ((d.headD [] ++ (((d.take (d.length - 1)).drop 1).map fun r => opens ++ r ++ [41]).flatten) ++ (if 1 < rs.length then dotStar ++ d.getLastD [] else [])) ++ [41, 92, 90]
theorem as_stop {M : Model} {A : Around} {ts : List Expr} {v : Expr} {pos : Pos} {env : Env} {Q : Flow → Shared → Prop} {E : Value → Shared → Prop} {s : Shared} (h : Stop (wpAny M A (exec (.Assign ts v pos) env) Q E s)) :
    wpAny M A (exec (.Assign ts v pos) env) Q E s := h
local macro_rules | `(tactic| walk_at "execs cons") => `(tactic| (k_here; (refine wpAny_execs_cons ?_); try dsimp only))
local macro_rules | `(tactic| walk_at "execs nil") => `(tactic| (k_here; (refine wpAny_execs_nil ?_); try dsimp only))
local macro_rules | `(tactic| walk_at "exec If") => `(tactic| refine if_stop ?_)
local macro_rules | `(tactic| walk_at "exec While") => `(tactic| refine while_stop ?_)
local macro_rules | `(tactic| walk_at "eval Name") => `(tactic| (k_here; (refine' nameX_L ?F ?v ?_ ?a ?b; (case F => k_asm); (case a => rfl); (case b => rfl); (case v => assumption); k_whole)))
local macro_rules | `(tactic| walk_at "exec For") => `(tactic| refine for_stop ?_)
local macro_rules | `(tactic| walk_at "loadName") => `(tactic| (k_here; (refine' loadX_L ?F ?v ?_ ?a ?b; (case F => k_asm); (case a => rfl); (case b => rfl); (case v => first | rfl | assumption); k_whole)))
section
variable {w : World} {p : Program} {loose : List Str} {mean : ExcName → Option Value} {mg mb : Str → Option Value}
theorem does_together (rs : List (List Nat)) (d : Addr) (hne : rs ≠ []) (hl : rs.length ≤ 64) (hl2 : ∀ r ∈ rs, r.length ≤ 256) :
    Does w p loose mean mg mb 2 151 [.ref d] (fun g => ∃ vs n, g.get? d = some (listOf vs.toArray n) ∧ Txts vs rs) (fun r g h' => ∃ t, r = .str (S (togL rs)) t) := by
  refine does_of ?_
  unfold Does0
  k_fill
  intro dp un gd cn cs a ccd cl outer A₀ base h₀ L m g s Q E hs B F X T hk hp ht hd hu hret
  obtain ⟨vs, n0, hvd, htx⟩ := hp
  refine wpAny_call ?_
  refine' my_def (binds := [(Str.ofString "runs", .ref d)]) hs B F X T ?kA ?kF ?kK ?k6 ?k7 ?k8 ?k9 ?kB ?_ ?c2 ?c3 ?c4 ?c5; (case kA => exact rfl); (case kF => exact rfl); (case kK => exact hk); (case k6 => k_is); (case k7 => k_is); (case k8 => ktr_room); (case k9 => exact BindsTo.of_eq rfl); (case kB => exact locs rfl); (case c2 => exact rfl); (case c3 => exact rfl); (case c4 => exact rfl); (case c5 => decide)
  intro L' h' F' N' B' X' T'
  dsimp only [List.length]
  refine wpAny_execs_cons (assign_items (cl := []) (fun Q E h => nameX_L F' rfl h) (F'.keep _ _ hvd) (by rw [htx.len]; omega) F' N' (by (try dsimp only); omega) (fun v y => ∃ x t t', v = .str (S x) t ∧ x ∈ rs ∧ y = .str (S (dressL x)) t') (fun C v s₃ m₃ E' hv hn hx F3 N3 htk3 hk3 => ?_) fun D h4 tk4 ys k4 htk4 F4 N4 hp => ?_)
  · obtain ⟨x, t, rfl, hx2⟩ := htx.mem hv
    refine MethodCall_ (Calls.Constant_str (GM.join (callWith_method1 (args_cons (list_chars (cl := []) (fun Q E h => nameE_L hn hx h) (by have := hl2 x hx2; omega) F3 N3 (Nat.le_succ_of_le htk3) (fun c y => ∃ t, y = .str (S (dressC c)) t) (fun C2 c u s5 m5 E5 hc hn5 hx5 F5 N5 htk5 hk5 => ?_) fun D2 h6 tk6 ys6 k6 htk6 F6 N6 hp6 hkp6 => ?_)))))
    · refine IfExp_ (wpAny_isTrue_Compare1 (nameE_L hn5 hx5 (Calls.Constant_str (P.in_str (wpAny_truthy_bool ?_)))))
      rw [show Str.ofString "&#.\\\r\n\t" = S [38, 35, 46, 92, 13, 10, 9] from by decide +kernel, contains_S]
      by_cases hin : c ∈ ([38, 35, 46, 92, 13, 10, 9] : List Nat)
      · rw [if_pos (by simpa using hin)]
        refine wpAny_BinOp (Calls.Constant_str (nameE_L hn5 hx5 ?_))
        rw [show Str.ofString "\\" = S [92] from by decide +kernel]
        refine add_S (by simp) (by (try dsimp only); omega) fun t' k' hk' => ⟨⟨t', ?_⟩, _, _, rfl, fun _ _ e => e⟩
        unfold dressC
        rw [if_pos (by simpa using hin)]
        rfl
      · rw [if_neg (by simpa using hin)]
        refine nameE_L hn5 hx5 ⟨⟨u, ?_⟩, _, _, rfl, fun _ _ e => e⟩
        unfold dressC
        rw [if_neg (by simpa using hin)]
    · have hty := paired_txts (f := dressC) hp6 fun _ _ h => h
      refine args_nil ?_
      rw [show Str.ofString "" = S [] from rfl]
      have hb := dressL_length x
      have := hl2 x hx2
      refine join_S (N6.get (.head _)) hty (by rw [List.length_map]; unfold dressL at hb; omega) htk6 fun t7 k7 hk7 => ?_
      exact ⟨⟨x, t, t7, rfl, hx2, rfl⟩, h6, k7, rfl, hkp6⟩
  · have hty := htx.paired hp
    dsimp only
    have hlen : ys.length = rs.length := by rw [hty.len, List.length_map]
    have hdl : ∀ x ∈ rs.map dressL, x.length ≤ 512 := fun x hx => by
      obtain ⟨r, hr, rfl⟩ := List.mem_map.mp hx
      have h1 := dressL_length r
      have h2 := hl2 r hr
      omega
    obtain ⟨r0, rr, hrs⟩ : ∃ r0 rr, rs = r0 :: rr := by cases rs with | nil => exact absurd rfl hne | cons a b => exact ⟨a, b, rfl⟩
    have hg0 : (rs.map dressL)[0]? = some (dressL r0) := by rw [hrs]; rfl
    obtain ⟨t0, hy0⟩ := hty.get hg0
    iterate 5 (first | (k_unfold; (try dsimp only)) | (k_end; wrow_close) | walk1 | (dsimp only; walk1) | (leave1; walk_say "STEP leave1"; try dsimp only))
    refine item_L (k := 0) (N4.get (.head _)) (by omega) hy0 ?_
    refine storeX_L F4 N4 (fun h5 F5 N5 => ?_) rfl rfl
    k_steps
    refine Stop.go (wpAny_For (Subscript_ (nameX_L F5 rfl ?_)))
    iterate 9 (first | (k_unfold; (try dsimp only)) | (k_end; wrow_close) | walk1 | (dsimp only; walk1) | (leave1; walk_say "STEP leave1"; try dsimp only))
    rename Fr _ _ _ _ => F6
    rename News _ _ _ _ => N6
    dsimp only at F6 N6 ⊢
    have hmid : slicePick ys.toArray (some 1) (some (-1)) none = ((ys.take (ys.length - 1)).drop 1).toArray := by
      by_cases h1 : ys.length = 1
      · have e := slicePick_clip (vs := ys) (lo := some 1) (hi := some (-1)) (a := 1) (b := 0) (by rw [h1]; rfl) (by rw [h1]; rfl)
        rw [e, h1]
      · have h0 : ys.length ≠ 0 := by rw [hlen, hrs]; simp
        refine slicePick_clip (clip_nat (i := 1) (d := 0) (by omega)) ?_
        show max 0 (min (if (-1 : Int) < 0 then (-1 : Int) + ys.length else -1) ys.length) = _
        rw [if_pos (by decide)]
        omega
    rw [hmid] at N6
    generalize hmv : (ys.take (ys.length - 1)).drop 1 = mv at N6
    generalize h5.objs.size + 1 = sl at N6 ⊢
    have htm : Txts mv (((rs.map dressL).take ((rs.map dressL).length - 1)).drop 1) := by
      rw [← hmv, hty.len]
      exact (hty.take _).drop _
    generalize hmx : ((rs.map dressL).take ((rs.map dressL).length - 1)).drop 1 = mx at htm
    refine for_list (h₀ := g) (L := L') (l := sl) (items := mv.toArray) (imm := [(sl, _), (D, _)]) (news := []) rfl ⟨_, N6.get (.head _), rfl, _, rfl⟩ (.inr ⟨_, .head _⟩) F6 N6 (by (try dsimp only); omega)
      (fun i m₁ nx => nx = [] ∧ m₁ "dressed" = some (.ref D) ∧ m₁ "runs" = some (.ref d) ∧ ∃ t, m₁ "text" = some (.str (S (dressL r0 ++ ((mx.take i).map fun r => opens ++ r ++ [41]).flatten)) t)) ⟨rfl, rfl, rfl, ⟨_, by simp; rfl⟩⟩ ?_ ?_
    · rintro i v m₁ news₁ oI h tk hi hv ⟨rfl, hm1, hm2, ⟨tt, hm3⟩⟩ htk hnI F7 N7
      have hix : mx[i]? = some (mx[i]'(by have := htm.len; simp at hi; omega)) := List.getElem?_eq_getElem _
      generalize mx[i]'(by have := htm.len; simp at hi; omega) = x at hix
      obtain ⟨tv, hvx⟩ := htm.get hix
      have hvv : v = .str (S x) tv := by
        have : mv[i]? = some v := by simpa using hv
        rw [hvx] at this
        exact (Option.some.inj this).symm
      subst hvv
      have hxm : x ∈ rs.map dressL := by
        have h1 := List.mem_of_getElem? hix
        rw [← hmx] at h1
        exact List.mem_of_mem_take (List.mem_of_mem_drop h1)
      have hxl := hdl x hxm
      have hpre : (((mx.take i).map fun r => opens ++ r ++ [41]).flatten).length ≤ 600 * 64 := by
        refine Nat.le_trans (flat_len (B := 600) fun z hz => ?_) (Nat.mul_le_mul_left _ ?_)
        · obtain ⟨r, hr, rfl⟩ := List.mem_map.mp hz
          have h1 := List.mem_of_mem_take hr
          rw [← hmx] at h1
          have := hdl r (List.mem_of_mem_take (List.mem_of_mem_drop h1))
          simp only [List.length_append, List.length_cons, List.length_nil]
          omega
        · rw [List.length_map, List.length_take]
          have h1 : mx.length ≤ rs.length := by rw [← hmx, List.length_drop, List.length_take, List.length_map]; omega
          omega
      have hr0 := hdl (dressL r0) (by rw [hrs]; exact List.mem_cons_self ..)
      refine wpAny_assign_Name (storeX_L F7 N7 (fun h8 F8 N8 => ?_) rfl rfl)
      refine wpAny_execs_cons (wpAny_AugAssign_Name (loadX_L F8 hm3 (wpAny_BinOp (wpAny_BinOp (Calls.Constant_str (nameX_L F8 rfl ?_))))))
      rw [show Str.ofString "(?>.*?" = S opens from by decide +kernel]
      refine add_S (by simp only [List.length_cons, List.length_nil]; omega) (by (try dsimp only); omega) fun t1 k1 hk1 => Calls.Constant_str ?_
      rw [show Str.ofString ")" = S [41] from by decide +kernel]
      refine add_S (by simp only [List.length_append, List.length_cons, List.length_nil]; omega) (by (try dsimp only); omega) fun t2 k2 hk2 => ?_
      refine iadd_S (by simp only [List.length_append, List.length_cons, List.length_nil] at *; omega) hk2 fun t3 k3 hk3 => ?_
      refine storeX_L F8 N8 (fun h9 F9 N9 => ?_) rfl rfl
      refine wpAny_execs_nil (TurnEnd.go (by (try dsimp only); omega) F9 N9 (fun _ h => nomatch h) ⟨rfl, hm1, hm2, t3, ?_⟩)
      rw [List.take_add_one, hix]
      simp [List.append_assoc]
    · rintro h' tk' m' news' htk F7 N7 ⟨rfl, hm1, hm2, ⟨tt, hm3⟩⟩
      have hms : mv.toArray.size = mx.length := by rw [List.size_toArray, htm.len]
      rw [hms, List.take_length] at hm3
      dsimp only
      k_steps
      refine Stop.go (wpAny_If (wpAny_isTrue_Compare1 ?_))
      iterate 6 (first | (k_unfold; (try dsimp only)) | (k_end; wrow_close) | walk1 | (dsimp only; walk1) | (leave1; walk_say "STEP leave1"; try dsimp only))
      refine len_list (items := vs.toArray) ⟨_, F7.keep _ _ hvd, rfl, _, rfl⟩ (by rw [List.size_toArray, htx.len]; omega) ?_
      rw [List.size_toArray, htx.len]
      refine wpAny_Constant_int (gt_int (wpAny_truthy_bool ?_))
      have hr0 := hdl (dressL r0) (by rw [hrs]; exact List.mem_cons_self ..)
      have hpre : ((mx.map fun r => opens ++ r ++ [41]).flatten).length ≤ 600 * 64 := by
        refine Nat.le_trans (flat_len (B := 600) fun z hz => ?_) (Nat.mul_le_mul_left _ ?_)
        · obtain ⟨r, hr, rfl⟩ := List.mem_map.mp hz
          rw [← hmx] at hr
          have := hdl r (List.mem_of_mem_take (List.mem_of_mem_drop hr))
          simp only [List.length_append, List.length_cons, List.length_nil]
          omega
        · rw [List.length_map, ← hmx, List.length_drop, List.length_take, List.length_map]; omega
      have hd0 : (rs.map dressL).headD [] = dressL r0 := by rw [hrs]; rfl
      by_cases h1 : 1 < rs.length
      · rw [if_pos (by simp; omega)]
        obtain ⟨xs', xl, hxe⟩ : ∃ xs' xl, rs.map dressL = xs' ++ [xl] := ⟨_, _, (List.dropLast_concat_getLast (by simpa using hne)).symm⟩
        obtain ⟨ys', tl, hye, _⟩ := (hxe ▸ hty).last
        have hxl := hdl xl (by rw [hxe]; simp)
        refine wpAny_execs_cons (wpAny_AugAssign_Name (loadX_L F7 hm3 (wpAny_BinOp (Calls.Constant_str (Subscript_ (nameX_L F7 hm1 ?_))))))
        iterate 3 (first | (k_unfold; (try dsimp only)) | (k_end; wrow_close) | walk1 | (dsimp only; walk1) | (leave1; walk_say "STEP leave1"; try dsimp only))
        refine item_last (hye ▸ N7.get (.tail _ (.head _))) ?_
        rw [show Str.ofString ".*" = S dotStar from by decide +kernel]
        refine add_S (by simp only [List.length_cons, List.length_nil]; omega) (by (try dsimp only); omega) fun t1 k1 hk1 => ?_
        refine iadd_S (by simp only [List.length_append, List.length_cons, List.length_nil] at *; omega) hk1 fun t3 k3 hk3 => ?_
        refine storeX_L F7 N7 (fun h9 F9 N9 => wpAny_execs_nil ?_) rfl rfl
        dsimp only
        refine wpAny_execs_cons (wpAny_Return_some (wpAny_BinOp (wpAny_BinOp (Calls.Constant_str (nameX_L F9 rfl ?_)))))
        rw [show Str.ofString "(?s:" = S [40, 63, 115, 58] from by decide +kernel]
        refine add_S (by simp only [List.length_append, List.length_cons, List.length_nil] at *; omega) (by (try dsimp only); omega) fun t1 k1 hk1 => Calls.Constant_str ?_
        rw [show Str.ofString ")\\Z" = S [41, 92, 90] from by decide +kernel]
        refine add_S (by simp only [List.length_append, List.length_cons, List.length_nil] at *; omega) (by (try dsimp only); omega) fun t2 k2 hk2 => ?_
        refine hret _ _ _ F9.keep ⟨t2, ?_⟩
        have hlast : (rs.map dressL).getLastD [] = xl := by rw [hxe]; simp
        simp only [togL, if_pos h1, hd0, hmx, hlast, List.append_assoc]
      · rw [if_neg (by simp; omega)]
        refine wpAny_execs_nil ?_
        dsimp only
        refine wpAny_execs_cons (wpAny_Return_some (wpAny_BinOp (wpAny_BinOp (Calls.Constant_str (nameX_L F7 hm3 ?_)))))
        rw [show Str.ofString "(?s:" = S [40, 63, 115, 58] from by decide +kernel]
        refine add_S (by simp only [List.length_append, List.length_cons, List.length_nil] at *; omega) (by (try dsimp only); omega) fun t1 k1 hk1 => Calls.Constant_str ?_
        rw [show Str.ofString ")\\Z" = S [41, 92, 90] from by decide +kernel]
        refine add_S (by simp only [List.length_append, List.length_cons, List.length_nil] at *; omega) (by (try dsimp only); omega) fun t2 k2 hk2 => ?_
        refine hret _ _ _ F7.keep ⟨t2, ?_⟩
        simp only [togL, if_neg h1, hd0, hmx, List.append_assoc, List.append_nil, List.nil_append]
end
end Mine
set_option maxHeartbeats 4000000
namespace Mine
noncomputable def fitsMid (l : List Nat) : List (List Nat) → Nat → Option Nat
  | [], p => some p
  | r :: rs, p => match findL r l p with | none => none | some i => fitsMid l rs (i + r.length)
theorem findL_le {r l : List Nat} {k i : Nat} (h : findL r l k = some i) : i + r.length ≤ l.length := by
  have := List.find?_some h
  simp only [Bool.and_eq_true, decide_eq_true_eq] at this
  exact this.1
noncomputable def fitsL (rs : List (List Nat)) (l : List Nat) : Bool :=
  if rs.length = 1 then l == rs.headD []
  else if l.take (rs.headD []).length != rs.headD [] then false
  else match fitsMid l ((rs.take (rs.length - 1)).drop 1) (rs.headD []).length with
    | none => false
    | some p => decide (p + (rs.getLastD []).length ≤ l.length) && (decide ((rs.getLastD []).length ≤ l.length) && (l.drop (l.length - (rs.getLastD []).length) == rs.getLastD []))
local macro_rules | `(tactic| walk_at "execs cons") => `(tactic| (k_here; (refine wpAny_execs_cons ?_); try dsimp only))
local macro_rules | `(tactic| walk_at "execs nil") => `(tactic| (k_here; (refine wpAny_execs_nil ?_); try dsimp only))
local macro_rules | `(tactic| walk_at "exec If") => `(tactic| refine if_stop ?_)
local macro_rules | `(tactic| walk_at "exec While") => `(tactic| refine while_stop ?_)
local macro_rules | `(tactic| walk_at "eval Name") => `(tactic| (k_here; (refine' nameX_L ?F ?v ?_ ?a ?b; (case F => k_asm); (case a => rfl); (case b => rfl); (case v => assumption); k_whole)))
local macro_rules | `(tactic| walk_at "exec For") => `(tactic| refine for_stop ?_)
local macro_rules | `(tactic| walk_at "loadName") => `(tactic| (k_here; (refine' loadX_L ?F ?v ?_ ?a ?b; (case F => k_asm); (case a => rfl); (case b => rfl); (case v => first | rfl | assumption); k_whole)))
section
variable {w : World} {p : Program} {loose : List Str} {mean : ExcName → Option Value} {mg mb : Str → Option Value}
theorem does_fits (rs : List (List Nat)) (l : List Nat) (d : Addr) (t : Tok) (hne : rs ≠ []) (hrl : rs.length ≤ 64) (hrl2 : ∀ r ∈ rs, r.length ≤ 256) (hl : l.length ≤ 1024) :
    Does w p loose mean mg mb 2 163 [.ref d, .str (S l) t] (fun g => ∃ vs n, g.get? d = some (listOf vs.toArray n) ∧ Txts vs rs) (fun r g h' => r = .bool (fitsL rs l)) := by
  refine does_of ?_
  unfold Does0
  k_fill
  intro dp un gd cn cs a ccd cl outer A₀ base h₀ L m g s Q E hs B F X T hk hp ht hd hu hret
  obtain ⟨vs, n0, hvd, htx⟩ := hp
  have hlen := htx.len
  obtain ⟨r0, rr, hrs⟩ : ∃ r0 rr, rs = r0 :: rr := by cases rs with | nil => exact absurd rfl hne | cons a b => exact ⟨a, b, rfl⟩
  obtain ⟨t0, hy0⟩ := htx.get (i := 0) (x := r0) (by rw [hrs]; rfl)
  have hr0 := hrl2 r0 (by rw [hrs]; exact List.mem_cons_self ..)
  refine wpAny_call ?_
  refine' my_def (binds := [(Str.ofString "runs", .ref d), (Str.ofString "name", .str (S l) t)]) hs B F X T ?kA ?kF ?kK ?k6 ?k7 ?k8 ?k9 ?kB ?_ ?c2 ?c3 ?c4 ?c5; (case kA => exact rfl); (case kF => exact rfl); (case kK => exact hk); (case k6 => k_is); (case k7 => k_is); (case k8 => ktr_room); (case k9 => exact BindsTo.of_eq rfl); (case kB => exact locs rfl); (case c2 => exact rfl); (case c3 => exact rfl); (case c4 => exact rfl); (case c5 => decide)
  intro L' h' F' N' B' X' T'
  dsimp only [List.length]
  k_steps
  refine Stop.go (wpAny_If (wpAny_isTrue_Compare1 ?_))
  iterate 6 (first | (k_unfold; (try dsimp only)) | (k_end; wrow_close) | walk1 | (dsimp only; walk1) | (leave1; walk_say "STEP leave1"; try dsimp only))
  refine len_list (items := vs.toArray) ⟨_, F'.keep _ _ hvd, rfl, _, rfl⟩ (by rw [List.size_toArray, hlen]; omega) ?_
  rw [List.size_toArray, hlen]
  refine wpAny_Constant_int (eq_int (wpAny_truthy_bool ?_))
  by_cases h1 : rs.length = 1
  · rw [if_pos (by simp [h1])]
    iterate 7 (first | (k_unfold; (try dsimp only)) | (k_end; wrow_close) | walk1 | (dsimp only; walk1) | (leave1; walk_say "STEP leave1"; try dsimp only))
    refine item_L (k := 0) (F'.keep _ _ hvd) (by omega) hy0 ?_
    refine eq_str ?_
    rw [S_beq]
    refine hret _ _ _ F'.keep ?_
    unfold fitsL
    rw [if_pos h1, hrs]
    rfl
  · rw [if_neg (by simp; omega)]
    k_steps
    refine Stop.go (wpAny_If (wpAny_isTrue_Compare1 ?_))
    iterate 12 (first | (k_unfold; (try dsimp only)) | (k_end; wrow_close) | walk1 | (dsimp only; walk1) | (leave1; walk_say "STEP leave1"; try dsimp only))
    refine item_L (k := 0) (F'.keep _ _ hvd) (by omega) hy0 (args_nil ?_)
    refine P.len_str (by rw [S_length]; omega) ?_
    rw [S_length]
    iterate 1 (first | (k_unfold; (try dsimp only)) | (k_end; wrow_close) | walk1 | (dsimp only; walk1) | (leave1; walk_say "STEP leave1"; try dsimp only))
    refine slice_ns (s := ⟨_, _, _, _, _⟩) (b := min r0.length l.length) F' N' (by (try dsimp only); omega) (by omega) ?_ (by omega) fun h2 t2 k2 hk2 F2 N2 => ?_
    · show max 0 (min (if (r0.length : Int) < 0 then (r0.length : Int) + l.length else r0.length) l.length) = _
      rw [if_neg (by omega)]
      omega
    have htk : l.take (min r0.length l.length) = l.take r0.length := by
      by_cases hc : r0.length ≤ l.length
      · rw [Nat.min_eq_left hc]
      · rw [Nat.min_eq_right (by omega), List.take_length, List.take_of_length_le (by omega)]
    rw [htk]
    iterate 3 (first | (k_unfold; (try dsimp only)) | (k_end; wrow_close) | walk1 | (dsimp only; walk1) | (leave1; walk_say "STEP leave1"; try dsimp only))
    refine item_L (k := 0) (F2.keep _ _ hvd) (by omega) hy0 (ne_str (wpAny_truthy_bool ?_))
    rw [bne, S_beq]
    have hf : fitsL rs l = if l.take r0.length != r0 then false else match fitsMid l ((rs.take (rs.length - 1)).drop 1) r0.length with
        | none => false
        | some p => decide (p + (rs.getLastD []).length ≤ l.length) && (decide ((rs.getLastD []).length ≤ l.length) && (l.drop (l.length - (rs.getLastD []).length) == rs.getLastD [])) := by
      unfold fitsL
      rw [if_neg h1, hrs]
      rfl
    by_cases htake : l.take r0.length = r0
    · rw [if_neg (by simp [htake])]
      rw [if_neg (by simp [htake])] at hf
      have hrl0 : r0.length ≤ l.length := by
        have := congrArg List.length htake
        rw [List.length_take] at this
        omega
      iterate 10 (first | (k_unfold; (try dsimp only)) | (k_end; wrow_close) | walk1 | (dsimp only; walk1) | (leave1; walk_say "STEP leave1"; try dsimp only))
      refine item_L (k := 0) (F2.keep _ _ hvd) (by omega) hy0 (args_nil ?_)
      refine P.len_str (by rw [S_length]; omega) ?_
      rw [S_length]
      refine storeX_L F2 N2 (fun h3 F3 N3 => ?_) rfl rfl
      k_steps
      refine Stop.go (wpAny_For (Subscript_ (nameX_L F3 rfl ?_)))
      iterate 8 (first | (k_unfold; (try dsimp only)) | (k_end; wrow_close) | walk1 | (dsimp only; walk1) | (leave1; walk_say "STEP leave1"; try dsimp only))
      dsimp only
      refine slice_list (s := ⟨_, _, _, _, _⟩) (lo := some 1) (hi := some (-1)) F3 N3 ⟨_, F3.keep _ _ hvd, rfl, _, rfl⟩ (by constructor) (by constructor) (fun h4 F4 N4 => ?_) (hsz := by rw [List.size_toArray, hlen, sizeLine_eq]; omega)
      dsimp only at F4 N4 ⊢
      have hmid : slicePick vs.toArray (some 1) (some (-1)) none = ((vs.take (vs.length - 1)).drop 1).toArray := by
        have h0 : rs.length ≠ 0 := by rw [hrs]; simp
        refine slicePick_clip (clip_nat (i := 1) (d := 0) (by omega)) ?_
        show max 0 (min (if (-1 : Int) < 0 then (-1 : Int) + vs.length else -1) vs.length) = _
        rw [if_pos (by decide)]
        omega
      rw [hmid] at N4
      have htm : Txts ((vs.take (vs.length - 1)).drop 1) ((rs.take (rs.length - 1)).drop 1) := by rw [hlen]; exact (htx.take _).drop _
      have hmem : ∀ x ∈ (rs.take (rs.length - 1)).drop 1, x.length ≤ 256 := fun x hx => hrl2 x (List.mem_of_mem_take (List.mem_of_mem_drop hx))
      generalize (vs.take (vs.length - 1)).drop 1 = mv at N4 htm
      generalize (rs.take (rs.length - 1)).drop 1 = mx at htm hf hmem
      generalize h3.objs.size + 1 = sl at N4 ⊢
      refine for_list (h₀ := g) (L := L') (l := sl) (items := mv.toArray) (imm := [(sl, _)]) (news := []) rfl ⟨_, N4.get (.head _), rfl, _, rfl⟩ (.inr ⟨_, .head _⟩) F4 N4 (by (try dsimp only); omega)
        (fun i m₁ nx => nx = [] ∧ m₁ "name" = some (.str (S l) t) ∧ m₁ "runs" = some (.ref d) ∧ ∃ pl tp, pl ≤ l.length ∧ m₁ "place" = some (.int (pl : Nat) tp) ∧ fitsMid l (mx.drop i) pl = fitsMid l mx r0.length) ⟨rfl, rfl, rfl, r0.length, _, hrl0, rfl, rfl⟩ ?_ ?_
      · rintro i v m₁ news₁ oI h tk hi hv ⟨rfl, hm1, hm2, pl, tp, hpl, hm3, hfm⟩ htk hnI F7 N7
        have hi' : i < mx.length := by rw [← htm.len]; simpa using hi
        have hix : mx[i]? = some mx[i] := List.getElem?_eq_getElem hi'
        have hxl := hmem _ (List.getElem_mem hi')
        generalize mx[i] = x at hix hxl
        obtain ⟨tv, hvx⟩ := htm.get hix
        have hvv : v = .str (S x) tv := by
          have : mv[i]? = some v := by simpa using hv
          rw [hvx] at this
          exact (Option.some.inj this).symm
        subst hvv
        rw [drop_at hix, fitsMid] at hfm
        refine wpAny_assign_Name (storeX_L F7 N7 (fun h8 F8 N8 => ?_) rfl rfl)
        refine wpAny_execs_cons (wpAny_Assign_Name (MethodCall_ (nameX_L F8 hm1 (GM.find (callWith_method1 (args_cons (nameX_L F8 rfl (args_cons (nameX_L F8 hm3 (args_nil ?_))))))))))
        refine SC.find3 ?_
        rw [find3_S]
        refine storeX_L F8 N8 (fun h9 F9 N9 => ?_) rfl rfl
        cases hfn : findL x l pl with
        | none =>
          rw [hfn] at hfm F9
          dsimp only at hfm F9
          k_steps
          refine Stop.go (wpAny_If (wpAny_isTrue_Compare1 (nameX_L F9 rfl (wpAny_Constant_int (wpAny_lt_int (wpAny_truthy_bool ?_))))))
          rw [if_pos (by decide)]
          k_steps
          exact hret _ _ _ F9.keep (by rw [hf, ← hfm])
        | some q =>
          rw [hfn] at hfm F9
          dsimp only at hfm F9
          have hq := findL_le hfn
          k_steps
          refine Stop.go (wpAny_If (wpAny_isTrue_Compare1 (nameX_L F9 rfl (wpAny_Constant_int (wpAny_lt_int (wpAny_truthy_bool ?_))))))
          rw [if_neg (by simp)]
          refine wpAny_execs_nil ?_
          dsimp only
          refine wpAny_execs_cons (wpAny_AugAssign_Name (loadX_L F9 rfl ?_))
          iterate 6 (first | (k_unfold; (try dsimp only)) | (k_end; wrow_close) | walk1 | (dsimp only; walk1) | (leave1; walk_say "STEP leave1"; try dsimp only))
          refine P.len_str (by rw [S_length]; omega) ?_
          rw [S_length]
          k_steps
          rename Fr _ _ _ _ => F10
          rename News _ _ _ _ => N10
          exact TurnEnd.go (by (try dsimp only); omega) F10 N10 (fun _ h => nomatch h) ⟨rfl, hm1, hm2, q + x.length, _, hq, rfl, hfm⟩
      · rintro h' tk' m' news' htk F7 N7 ⟨rfl, hm1, hm2, pl, tp, hpl, hm3, hfm⟩
        have hms : mv.toArray.size = mx.length := by rw [List.size_toArray, htm.len]
        rw [hms, List.drop_length, fitsMid] at hfm
        rw [← hfm] at hf
        dsimp only at hf ⊢
        obtain ⟨xs', xl, hxe⟩ : ∃ xs' xl, rs = xs' ++ [xl] := ⟨_, _, (List.dropLast_concat_getLast hne).symm⟩
        obtain ⟨vs', tl, hve, _⟩ := (hxe ▸ htx).last
        have hxl := hrl2 xl (by rw [hxe]; simp)
        have hla : rs.getLastD [] = xl := by rw [hxe]; simp
        rw [hla] at hf
        iterate 11 (first | (k_unfold; (try dsimp only)) | (k_end; wrow_close) | walk1 | (dsimp only; walk1) | (leave1; walk_say "STEP leave1"; try dsimp only))
        have hvd' : g.get? d = some (W.listOf (vs' ++ [Value.str (S xl) tl]).toArray n0) := by rw [← hve]; exact hvd
        refine P.len_str (by rw [S_length]; omega) ?_
        rw [S_length]
        iterate 11 (first | (k_unfold; (try dsimp only)) | (k_end; wrow_close) | walk1 | (dsimp only; walk1) | (leave1; walk_say "STEP leave1"; try dsimp only))
        refine item_last (F7.keep _ _ hvd') (args_nil ?_)
        refine P.len_str (by rw [S_length]; omega) ?_
        rw [S_length]
        k_steps
        · rename_i hc
          dsimp only
          refine item_last (F7.keep _ _ hvd') (args_nil ?_)
          refine SC.endswith ?_
          rw [endswith_S]
          refine hret _ _ _ F7.keep ?_
          have h9 : decide (pl + xl.length ≤ l.length) = true := by simp; omega
          rw [hf, h9, Bool.true_and]
        · rename_i hc
          refine hret _ _ _ F7.keep ?_
          have h9 : decide (pl + xl.length ≤ l.length) = false := by simp; omega
          have h8 : decide ((xl.length : Int) ≤ l.length - pl) = false := by simp; omega
          rw [hf, h9, Bool.false_and, h8]
    · rw [if_pos (by simp [htake])]
      rw [if_pos (by simp [htake])] at hf
      k_steps
      exact hret _ _ _ F2.keep (by rw [hf])
end
end Mine
set_option maxHeartbeats 4000000
namespace Mine

/-- a code over signs that no sign's word cuts -/
structure Code (f : Nat → List Nat) (al : List Nat) : Prop where
  ne : ∀ c ∈ al, f c ≠ []
  tail : ∀ c ∈ al, ∀ d ∈ al, ∀ h ∈ (f c).tail, (f d).head? ≠ some h
  pre : ∀ c ∈ al, ∀ d ∈ al, (f c).isPrefixOf (f d) = true → c = d

section
variable {f : Nat → List Nat} {al : List Nat}
theorem Code.cancel (C : Code f al) {c d : Nat} {s t : List Nat} (hc : c ∈ al) (hd : d ∈ al) (h : f c ++ s = f d ++ t) : c = d ∧ s = t := by
  have e : c = d := by
    rcases List.append_eq_append_iff.mp h with ⟨a, h1, _⟩ | ⟨a, h1, _⟩
    · exact C.pre c hc d hd (List.isPrefixOf_iff_prefix.mpr ⟨a, h1.symm⟩)
    · exact (C.pre d hd c hc (List.isPrefixOf_iff_prefix.mpr ⟨a, h1.symm⟩)).symm
  subst e
  exact ⟨rfl, List.append_cancel_left h⟩
theorem Code.prefix (C : Code f al) : ∀ (r l v : List Nat), (∀ c ∈ r, c ∈ al) → (∀ c ∈ l, c ∈ al) → l.flatMap f = r.flatMap f ++ v → ∃ l2, l = r ++ l2 ∧ v = l2.flatMap f
  | [], l, v, _, _, h => ⟨l, rfl, by simpa using h.symm⟩
  | c :: r, [], v, hr, _, h => by
    have h1 : f c ++ (r.flatMap f ++ v) = [] := by simpa [List.flatMap_cons, List.append_assoc] using h.symm
    exact absurd (List.append_eq_nil_iff.mp h1).1 (C.ne c (hr c (List.mem_cons_self ..)))
  | c :: r, d :: l, v, hr, hl, h => by
    rw [List.flatMap_cons, List.flatMap_cons, List.append_assoc] at h
    obtain ⟨e, h2⟩ := C.cancel (hl d (List.mem_cons_self ..)) (hr c (List.mem_cons_self ..)) h
    subst e
    obtain ⟨l2, rfl, hv⟩ := Code.prefix C r l v (fun c hc => hr c (List.mem_cons_of_mem _ hc)) (fun c hc => hl c (List.mem_cons_of_mem _ hc)) h2
    exact ⟨l2, rfl, hv⟩
theorem Code.factor (C : Code f al) : ∀ (l u r v : List Nat), r ≠ [] → (∀ c ∈ r, c ∈ al) → (∀ c ∈ l, c ∈ al) → l.flatMap f = u ++ (r.flatMap f ++ v) → ∃ l1 l2, l = l1 ++ r ++ l2 ∧ u = l1.flatMap f ∧ v = l2.flatMap f
  | l, [], r, v, _, hr, hl, h => by
    obtain ⟨l2, rfl, hv⟩ := C.prefix r l v hr hl (by simpa using h)
    exact ⟨[], l2, by simp, rfl, hv⟩
  | [], x :: u, r, v, _, _, _, h => by simp at h
  | d :: l, x :: u, r, v, hne, hr, hl, h => by
    rw [List.flatMap_cons] at h
    have hd := hl d (List.mem_cons_self ..)
    have hl' : ∀ c ∈ l, c ∈ al := fun c hc => hl c (List.mem_cons_of_mem _ hc)
    have go : ∀ a, x :: u = f d ++ a → l.flatMap f = a ++ (r.flatMap f ++ v) → ∃ l1 l2, d :: l = l1 ++ r ++ l2 ∧ x :: u = l1.flatMap f ∧ v = l2.flatMap f := by
      intro a h1 h2
      obtain ⟨l1, l2, rfl, h3, h4⟩ := Code.factor C l a r v hne hr hl' h2
      exact ⟨d :: l1, l2, by simp, by rw [h1, h3, List.flatMap_cons], h4⟩
    rcases List.append_eq_append_iff.mp h with ⟨a, h1, h2⟩ | ⟨a, h1, h2⟩
    · exact go a h1 h2
    · cases a with
      | nil => exact go [] (by simpa using h1.symm) (by simpa using h2.symm)
      | cons y a =>
        exfalso
        cases r with
        | nil => exact hne rfl
        | cons c0 r =>
          have hc0 := hr c0 (List.mem_cons_self ..)
          have hy : y ∈ (f d).tail := by rw [h1]; simp
          have hh : (f c0).head? = some y := by
            cases hf : f c0 with
            | nil => exact absurd hf (C.ne c0 hc0)
            | cons z t =>
              rw [List.flatMap_cons, hf] at h2
              simp at h2
              rw [h2.1]; rfl
          exact C.tail d hd c0 hc0 y hy hh
  termination_by l u => l.length
end

/-- a pattern with stars takes a text -/
noncomputable def M : List Nat → List Nat → Prop
  | [], l => l = []
  | c :: p, l => if c = 42 then ∃ u v, l = u ++ v ∧ M p v else ∃ v, l = c :: v ∧ M p v
theorem M_star {p l : List Nat} : M (42 :: p) l ↔ ∃ u v, l = u ++ v ∧ M p v := by rw [M, if_pos rfl]
theorem M_char {c : Nat} {p l : List Nat} (h : c ≠ 42) : M (c :: p) l ↔ ∃ v, l = c :: v ∧ M p v := by rw [M, if_neg h]
theorem M_append : ∀ (a b x : List Nat), M (a ++ b) x ↔ ∃ u v, x = u ++ v ∧ M a u ∧ M b v
  | [], b, x => ⟨fun h => ⟨[], x, rfl, rfl, h⟩, fun ⟨u, v, e, h1, h2⟩ => by
      have h1 : u = [] := h1
      subst h1
      rw [e]; exact h2⟩
  | c :: a, b, x => by
    rw [List.cons_append]
    by_cases hc : c = 42
    · subst hc
      simp only [M_star]
      constructor
      · rintro ⟨u, v, rfl, h⟩
        obtain ⟨u2, v2, rfl, h1, h2⟩ := (M_append a b v).mp h
        exact ⟨u ++ u2, v2, by simp, ⟨u, u2, rfl, h1⟩, h2⟩
      · rintro ⟨u, v, rfl, ⟨u1, u2, rfl, h1⟩, h2⟩
        exact ⟨u1, u2 ++ v, by simp, (M_append a b _).mpr ⟨u2, v, rfl, h1, h2⟩⟩
    · simp only [M_char hc]
      constructor
      · rintro ⟨v, rfl, h⟩
        obtain ⟨u2, v2, rfl, h1, h2⟩ := (M_append a b v).mp h
        exact ⟨c :: u2, v2, by simp, ⟨u2, rfl, h1⟩, h2⟩
      · rintro ⟨u, v, rfl, ⟨u2, rfl, h1⟩, h2⟩
        exact ⟨u2 ++ v, by simp, (M_append a b _).mpr ⟨u2, v, rfl, h1, h2⟩⟩

/-- the walk sign by sign -/
noncomputable def orScan : Bool → List Bool → List Bool
  | _, [] => []
  | s, b :: r => (s || b) :: orScan (s || b) r
noncomputable def stepL (l : List Nat) (row : List Bool) (c : Nat) : List Bool :=
  if c = 42 then orScan false row else false :: List.zipWith (fun b x => b && x == c) row l
noncomputable def takesL (p l : List Nat) : Bool := (p.foldl (stepL l) (true :: List.replicate l.length false)).getLastD false
theorem orScan_length : ∀ (s : Bool) (r : List Bool), (orScan s r).length = r.length
  | _, [] => rfl
  | s, b :: r => by rw [orScan, List.length_cons, orScan_length, List.length_cons]
theorem orScan_get : ∀ (r : List Bool) (s : Bool) (j : Nat), j < r.length → ((orScan s r)[j]? = some true ↔ s = true ∨ ∃ i, i ≤ j ∧ r[i]? = some true)
  | [], _, _, h => by simp at h
  | b :: r, s, 0, _ => by
    rw [orScan]
    simp only [List.getElem?_cons_zero, Option.some.injEq, Bool.or_eq_true]
    constructor
    · rintro (h | h)
      · exact .inl h
      · exact .inr ⟨0, Nat.le_refl _, by simpa using h⟩
    · rintro (h | ⟨i, hi, h⟩)
      · exact .inl h
      · have : i = 0 := by omega
        subst this
        exact .inr (by simpa using h)
  | b :: r, s, j + 1, h => by
    rw [orScan, List.getElem?_cons_succ, orScan_get r (s || b) j (by simpa using h), Bool.or_eq_true]
    constructor
    · rintro ((h | h) | ⟨i, hi, h⟩)
      · exact .inl h
      · exact .inr ⟨0, Nat.zero_le _, by simpa using h⟩
      · exact .inr ⟨i + 1, by omega, by simpa using h⟩
    · rintro (h | ⟨i, hi, h⟩)
      · exact .inl (.inl h)
      · cases i with
        | zero => exact .inl (.inr (by simpa using h))
        | succ i => exact .inr ⟨i, by omega, by simpa using h⟩
noncomputable def RowOk (l pre : List Nat) (row : List Bool) : Prop := row.length = l.length + 1 ∧ ∀ j, j ≤ l.length → (row[j]? = some true ↔ M pre (l.take j))
theorem row_init (l : List Nat) : RowOk l [] (true :: List.replicate l.length false) := by
  refine ⟨by simp, fun j hj => ?_⟩
  cases j with
  | zero => simp [M]
  | succ j =>
    have h1 : (List.replicate l.length false)[j]? = some false := by rw [List.getElem?_replicate, if_pos (by omega)]
    rw [List.getElem?_cons_succ, h1]
    constructor
    · intro h; cases h
    · intro h
      have h : l.take (j + 1) = [] := h
      have := congrArg List.length h
      rw [List.length_take, List.length_nil] at this
      omega
theorem row_step {l pre : List Nat} {row : List Bool} {c : Nat} (h : RowOk l pre row) : RowOk l (pre ++ [c]) (stepL l row c) := by
  obtain ⟨hlen, hrow⟩ := h
  unfold stepL
  by_cases hc : c = 42
  · subst hc
    rw [if_pos rfl]
    refine ⟨by rw [orScan_length, hlen], fun j hj => ?_⟩
    rw [orScan_get _ _ _ (by omega), M_append]
    constructor
    · rintro (h | ⟨i, hi, h⟩)
      · cases h
      · refine ⟨l.take i, (l.take j).drop i, ?_, (hrow i (by omega)).mp h, M_star.mpr ⟨_, [], (List.append_nil _).symm, rfl⟩⟩
        have : l.take i = (l.take j).take i := by rw [List.take_take, Nat.min_eq_left hi]
        rw [this, List.take_append_drop]
    · rintro ⟨u, v, e, h1, _⟩
      refine .inr ⟨u.length, ?_, (hrow _ ?_).mpr ?_⟩
      · have := congrArg List.length e
        rw [List.length_take, List.length_append] at this
        omega
      · have := congrArg List.length e
        rw [List.length_take, List.length_append] at this
        omega
      · have h2 : l.take u.length = u := by
          have h3 : u.length ≤ j := by
            have := congrArg List.length e
            rw [List.length_take, List.length_append] at this
            omega
          have : l.take u.length = (l.take j).take u.length := by rw [List.take_take, Nat.min_eq_left h3]
          rw [this, e, List.take_left']
          rfl
        rw [h2]; exact h1
  · rw [if_neg hc]
    refine ⟨by rw [List.length_cons, List.length_zipWith, hlen]; omega, fun j hj => ?_⟩
    cases j with
    | zero =>
      rw [List.getElem?_cons_zero, M_append]
      constructor
      · intro h; cases h
      · rintro ⟨u, v, e, _, h2⟩
        obtain ⟨w, e2, _⟩ := (M_char hc).mp h2
        rw [e2] at e
        simp at e
    | succ j =>
      have hj' : j < l.length := by omega
      rw [List.getElem?_cons_succ, List.getElem?_zipWith, M_append]
      have hr : j < row.length := by omega
      rw [List.getElem?_eq_getElem hr, List.getElem?_eq_getElem hj']
      have hrj := hrow j (by omega)
      rw [List.getElem?_eq_getElem hr] at hrj
      have htk : l.take (j + 1) = l.take j ++ [l[j]] := by rw [List.take_add_one, List.getElem?_eq_getElem hj']; rfl
      simp only [Option.some.injEq, Bool.and_eq_true, beq_iff_eq] at hrj ⊢
      rw [htk]
      constructor
      · rintro ⟨h1, h2⟩
        exact ⟨_, _, rfl, hrj.mp h1, (M_char hc).mpr ⟨[], by rw [h2], rfl⟩⟩
      · rintro ⟨u, v, e, h1, h2⟩
        obtain ⟨w, rfl, hw⟩ := (M_char hc).mp h2
        have hw : w = [] := hw
        subst hw
        obtain ⟨e1, e2⟩ := List.append_inj' e rfl
        simp only [List.cons.injEq, and_true] at e2
        exact ⟨hrj.mpr (e1 ▸ h1), e2⟩
theorem rows_ok (l : List Nat) : ∀ (p pre : List Nat) (row : List Bool), RowOk l pre row → RowOk l (pre ++ p) (p.foldl (stepL l) row)
  | [], pre, row, h => by rw [List.append_nil]; exact h
  | c :: p, pre, row, h => by
    have := rows_ok l p (pre ++ [c]) (stepL l row c) (row_step h)
    rw [List.append_assoc] at this
    exact this
theorem takesL_iff (p l : List Nat) : takesL p l = true ↔ M p l := by
  obtain ⟨hlen, h⟩ := rows_ok l p [] _ (row_init l)
  have := h l.length (Nat.le_refl _)
  rw [List.take_length, List.nil_append] at this
  rw [← this]
  unfold takesL
  generalize p.foldl (stepL l) (true :: List.replicate l.length false) = row at hlen
  rw [List.getLastD_eq_getLast?, List.getLast?_eq_getElem?, hlen, Nat.add_sub_cancel]
  cases hr : row[l.length]? with
  | none => simp
  | some b => simp

/-- runs between stars -/
noncomputable def Dt : List (List Nat) → List Nat → Prop
  | [], l => l = []
  | r :: rs, l => ∃ u v, l = u ++ (r ++ v) ∧ Dt rs v
noncomputable def Df : List (List Nat) → List Nat → Prop
  | [], _ => False
  | r :: rs, l => ∃ v, l = r ++ v ∧ Dt rs v
theorem Dt_mono {r : List Nat} {rs : List (List Nat)} {w l : List Nat} (h : Dt (r :: rs) l) : Dt (r :: rs) (w ++ l) := by
  obtain ⟨u, v, rfl, h⟩ := h
  exact ⟨w ++ u, v, by simp, h⟩
theorem Dt_iff_Df {r : List Nat} {rs : List (List Nat)} {l : List Nat} : Dt (r :: rs) l ↔ ∃ u v, l = u ++ v ∧ Df (r :: rs) v :=
  ⟨fun ⟨u, v, e, h⟩ => ⟨u, r ++ v, e, v, rfl, h⟩, fun ⟨u, _, e, v, e2, h⟩ => ⟨u, v, by rw [e, e2], h⟩⟩
theorem Dt_nil {r : List Nat} {rs : List (List Nat)} {l : List Nat} : Dt ([] :: r :: rs) l ↔ Dt (r :: rs) l :=
  ⟨fun ⟨u, v, e, h⟩ => by rw [e]; exact Dt_mono h, fun h => ⟨[], l, rfl, h⟩⟩
end Mine
set_option maxHeartbeats 4000000
namespace Mine
noncomputable def keepT : List (List Nat) → List (List Nat)
  | [] => []
  | [r] => [r]
  | r :: r2 :: rs => if r = [] then keepT (r2 :: rs) else r :: keepT (r2 :: rs)
theorem keepT_cons {r r2 : List Nat} {rs : List (List Nat)} : keepT (r :: r2 :: rs) = if r = [] then keepT (r2 :: rs) else r :: keepT (r2 :: rs) := by rw [keepT]
theorem keepT_ne {r : List Nat} {t : List (List Nat)} (h : r ≠ []) : keepT (r :: t) = r :: keepT t := by
  cases t with
  | nil => rfl
  | cons a t => rw [keepT_cons, if_neg h]
/-- what _law_runs answers -/
noncomputable def runsL (pieces : List (List Nat)) : List (List Nat) :=
  ((List.range pieces.length).filter fun k => decide (k = 0 ∨ k = pieces.length - 1 ∨ pieces[k]? ≠ some [])).map fun k => pieces.getD k []
theorem runs_tail (pieces : List (List Nat)) : ∀ (t pre : List (List Nat)), pre ≠ [] → pieces = pre ++ t →
    ((List.range' pre.length t.length).filter fun k => decide (k = 0 ∨ k = pieces.length - 1 ∨ pieces[k]? ≠ some [])).map (fun k => pieces.getD k []) = keepT t
  | [], pre, _, _ => rfl
  | r :: t, pre, hp, e => by
    have hpl : pre.length ≠ 0 := fun h => hp (List.length_eq_zero_iff.mp h)
    have hg : pieces[pre.length]? = some r := by rw [e]; simp
    have hd : pieces.getD pre.length [] = r := by rw [List.getD_eq_getElem?_getD, hg]; rfl
    have ih := runs_tail pieces t (pre ++ [r]) (by simp) (by rw [e]; simp)
    rw [List.length_append, List.length_cons, List.length_nil] at ih
    have hl : pieces.length = pre.length + (t.length + 1) := by rw [e]; simp
    rw [List.length_cons, List.range'_succ]
    cases t with
    | nil =>
      rw [List.filter_cons_of_pos (by rw [hl]; simp)]
      show [pieces.getD pre.length []] = [r]
      rw [hd]
    | cons r2 t =>
      rw [keepT_cons]
      by_cases hr : r = []
      · rw [if_pos hr, List.filter_cons_of_neg ?_]
        · exact ih
        · rw [hg, hl, hr]
          simp
          omega
      · rw [if_neg hr, List.filter_cons_of_pos ?_]
        · rw [List.map_cons, hd]
          exact congrArg (r :: ·) ih
        · rw [hg]
          simp [hr]
theorem runsL_cons (h : List Nat) (t : List (List Nat)) : runsL (h :: t) = h :: keepT t := by
  have := runs_tail (h :: t) t [h] (by simp) rfl
  unfold runsL
  rw [List.range_eq_range', List.length_cons, List.range'_succ, List.filter_cons_of_pos (by simp), List.map_cons]
  exact congrArg (h :: ·) this
theorem Dt_keepT : ∀ (t : List (List Nat)) (l : List Nat), Dt (keepT t) l ↔ Dt t l
  | [], _ => Iff.rfl
  | [r], _ => Iff.rfl
  | r :: r2 :: rs, l => by
    rw [keepT_cons]
    by_cases hr : r = []
    · rw [if_pos hr, Dt_keepT (r2 :: rs) l, hr, Dt_nil]
    · rw [if_neg hr]
      have ih := Dt_keepT (r2 :: rs)
      constructor
      · rintro ⟨u, v, e, h⟩
        exact ⟨u, v, e, (ih v).mp h⟩
      · rintro ⟨u, v, e, h⟩
        exact ⟨u, v, e, (ih v).mpr h⟩
theorem keepT_full : ∀ (t : List (List Nat)), t.getLast? ≠ some [] → ∀ r ∈ keepT t, r ≠ []
  | [], _, r, hr => by simp [keepT] at hr
  | [a], h, r, hr => by
    have : r = a := by simpa [keepT] using hr
    subst this
    intro e
    exact h (by rw [e]; rfl)
  | a :: b :: t, h, r, hr => by
    have ih := keepT_full (b :: t) (by rw [List.getLast?_cons_cons] at h; exact h)
    rw [keepT_cons] at hr
    by_cases ha : a = []
    · rw [if_pos ha] at hr
      exact ih r hr
    · rw [if_neg ha] at hr
      rcases List.mem_cons.mp hr with rfl | hr
      · exact ha
      · exact ih r hr
theorem keepT_mem : ∀ (t : List (List Nat)) (r : List Nat), r ∈ keepT t → r ∈ t
  | [], r, hr => hr
  | [a], r, hr => hr
  | a :: b :: t, r, hr => by
    have ih := keepT_mem (b :: t) r
    rw [keepT_cons] at hr
    by_cases ha : a = []
    · rw [if_pos ha] at hr
      exact List.mem_cons_of_mem _ (ih hr)
    · rw [if_neg ha] at hr
      rcases List.mem_cons.mp hr with rfl | hr
      · exact List.mem_cons_self ..
      · exact List.mem_cons_of_mem _ (ih hr)
theorem keepT_some : ∀ (t : List (List Nat)), t ≠ [] → keepT t ≠ []
  | [], h => absurd rfl h
  | [a], _ => by simp [keepT]
  | a :: b :: t, _ => by
    have ih := keepT_some (b :: t) (by simp)
    rw [keepT_cons]
    split
    · exact ih
    · simp
theorem splitL_some (c : Nat) (l : List Nat) : ∃ h t, splitL c l = h :: t := by
  cases hs : splitL c l with
  | nil => exact absurd hs (splitL_ne c l)
  | cons h t => exact ⟨h, t, rfl⟩
theorem splitL_sep (c : Nat) (r : List Nat) : splitL c (c :: r) = [] :: splitL c r := by rw [splitL, if_pos rfl]
theorem splitL_char {c a : Nat} {r h : List Nat} {t : List (List Nat)} (ha : a ≠ c) (e : splitL c r = h :: t) : splitL c (a :: r) = (a :: h) :: t := by rw [splitL, if_neg ha, e]
theorem M_split : ∀ (p l : List Nat), M p l ↔ Df (splitL 42 p) l
  | [], l => by
    show l = [] ↔ ∃ v, l = [] ++ v ∧ v = []
    simp
  | c :: p, l => by
    obtain ⟨h, t, e⟩ := splitL_some 42 p
    by_cases hc : c = 42
    · subst hc
      rw [M_star, splitL_sep, e]
      show _ ↔ ∃ v, l = [] ++ v ∧ Dt (h :: t) v
      simp only [List.nil_append]
      constructor
      · rintro ⟨u, v, rfl, hm⟩
        exact ⟨_, rfl, Dt_iff_Df.mpr ⟨u, v, rfl, e ▸ (M_split p v).mp hm⟩⟩
      · rintro ⟨v, rfl, hd⟩
        obtain ⟨u, v, rfl, hd2⟩ := Dt_iff_Df.mp hd
        exact ⟨u, v, rfl, (M_split p v).mpr (e ▸ hd2)⟩
    · rw [M_char hc, splitL_char hc e]
      constructor
      · rintro ⟨v, rfl, hm⟩
        have := (M_split p v).mp hm
        rw [e] at this
        obtain ⟨x, rfl, hx⟩ := this
        exact ⟨x, rfl, hx⟩
      · rintro ⟨v, rfl, hd⟩
        exact ⟨h ++ v, rfl, (M_split p _).mpr (by rw [e]; exact ⟨v, rfl, hd⟩)⟩
theorem M_runs (p l : List Nat) : M p l ↔ Df (runsL (splitL 42 p)) l := by
  obtain ⟨h, t, e⟩ := splitL_some 42 p
  rw [M_split, e, runsL_cons]
  constructor
  · rintro ⟨v, e, hd⟩
    exact ⟨v, e, (Dt_keepT t v).mpr hd⟩
  · rintro ⟨v, e, hd⟩
    exact ⟨v, e, (Dt_keepT t v).mp hd⟩

section
variable {f : Nat → List Nat} {al : List Nat}
/-- runs through the code -/
theorem Code.dt (C : Code f al) : ∀ (rs : List (List Nat)) (l : List Nat), (∀ r ∈ rs, r ≠ [] ∧ ∀ c ∈ r, c ∈ al) → (∀ c ∈ l, c ∈ al) → (Dt (rs.map fun r => r.flatMap f) (l.flatMap f) ↔ Dt rs l)
  | [], l, _, hl => by
    show l.flatMap f = [] ↔ l = []
    constructor
    · intro h
      cases l with
      | nil => rfl
      | cons c l =>
        rw [List.flatMap_cons] at h
        exact absurd (List.append_eq_nil_iff.mp h).1 (C.ne c (hl c (List.mem_cons_self ..)))
    · rintro rfl; rfl
  | r :: rs, l, hr, hl => by
    have hr0 := hr r (List.mem_cons_self ..)
    have hrs := fun x hx => hr x (List.mem_cons_of_mem _ hx)
    constructor
    · rintro ⟨u, v, e, hd⟩
      obtain ⟨l1, l2, rfl, rfl, rfl⟩ := C.factor l u r v hr0.1 hr0.2 hl e
      exact ⟨l1, l2, by simp, (Code.dt C rs l2 hrs fun c hc => hl c (by simp [hc])).mp hd⟩
    · rintro ⟨u, v, rfl, hd⟩
      exact ⟨u.flatMap f, v.flatMap f, by simp, (Code.dt C rs v hrs fun c hc => hl c (by simp [hc])).mpr hd⟩
theorem Code.df (C : Code f al) (r : List Nat) (rs : List (List Nat)) (l : List Nat) (h0 : ∀ c ∈ r, c ∈ al) (hr : ∀ r ∈ rs, r ≠ [] ∧ ∀ c ∈ r, c ∈ al) (hl : ∀ c ∈ l, c ∈ al) : Df ((r :: rs).map fun r => r.flatMap f) (l.flatMap f) ↔ Df (r :: rs) l := by
  constructor
  · rintro ⟨v, e, hd⟩
    obtain ⟨l2, rfl, rfl⟩ := C.prefix r l v h0 hl e
    exact ⟨l2, rfl, (C.dt rs l2 hr fun c hc => hl c (by simp [hc])).mp hd⟩
  · rintro ⟨v, rfl, hd⟩
    exact ⟨v.flatMap f, by simp, (C.dt rs v hr fun c hc => hl c (by simp [hc])).mpr hd⟩
end

/-- the greedy walk finds what there is -/
theorem at_iff {r l : List Nat} {i : Nat} : (i + r.length ≤ l.length ∧ (l.drop i).take r.length = r) ↔ i ≤ l.length ∧ ∃ v, l.drop i = r ++ v := by
  constructor
  · rintro ⟨h1, h2⟩
    exact ⟨by omega, (l.drop i).drop r.length, by rw [← h2, List.length_take, List.length_drop, Nat.min_eq_left (by omega)]; exact (List.take_append_drop ..).symm⟩
  · rintro ⟨h1, v, h2⟩
    refine ⟨?_, by rw [h2, List.take_left' rfl]⟩
    have := congrArg List.length h2
    rw [List.length_drop, List.length_append] at this
    omega
theorem findL_none {r l : List Nat} {p : Nat} (h : findL r l p = none) : ∀ i, p ≤ i → i ≤ l.length → ¬ ∃ v, l.drop i = r ++ v := by
  intro i hp hi hv
  have h1 := at_iff.mpr ⟨hi, hv⟩
  have h2 := List.find?_eq_none.mp h i (List.mem_range'_1.mpr ⟨hp, by omega⟩)
  simp only [Bool.and_eq_true, decide_eq_true_eq, beq_iff_eq] at h2
  exact h2 h1
theorem findL_some {r l : List Nat} {p q : Nat} (h : findL r l p = some q) : p ≤ q ∧ q + r.length ≤ l.length ∧ (l.drop q).take r.length = r ∧ ∀ i, p ≤ i → i < q → ¬ ∃ v, l.drop i = r ++ v := by
  unfold findL at h
  obtain ⟨h1, as, bs, e, h2⟩ := List.find?_eq_some_iff_append.mp h
  simp only [Bool.and_eq_true, decide_eq_true_eq, beq_iff_eq] at h1
  have hs := StrLaws.range'_split_from e
  refine ⟨hs.1, h1.1, h1.2, fun i hi hq hv => ?_⟩
  have h3 := h2 i (hs.2 i hi hq)
  have h4 := at_iff.mpr ⟨by omega, hv⟩
  simp [h4.1, h4.2] at h3
theorem fits_tail (l last : List Nat) : ∀ (mids : List (List Nat)) (p : Nat), p ≤ l.length →
    ((match fitsMid l mids p with
      | none => false
      | some q => decide (q + last.length ≤ l.length) && (decide (last.length ≤ l.length) && (l.drop (l.length - last.length) == last))) = true ↔ Dt (mids ++ [last]) (l.drop p))
  | [], p, hp => by
    simp only [fitsMid, Bool.and_eq_true, decide_eq_true_eq, beq_iff_eq, List.nil_append]
    constructor
    · rintro ⟨h1, h2, h3⟩
      refine ⟨(l.drop p).take (l.length - last.length - p), [], ?_, rfl⟩
      have e : (l.drop p).drop (l.length - last.length - p) = last := by rw [List.drop_drop, ← h3]; congr 1; rw [h3]; omega
      rw [List.append_nil]
      conv => rhs; rw [← e]
      rw [List.length_drop, List.length_drop]
      have e2 : l.length - (l.length - p - (l.length - last.length - p)) - p = l.length - last.length - p := by omega
      rw [e2]
      exact (List.take_append_drop ..).symm
    · rintro ⟨u, v, e, hv⟩
      have hv : v = [] := hv
      subst hv
      rw [List.append_nil] at e
      have hl := congrArg List.length e
      rw [List.length_drop, List.length_append] at hl
      refine ⟨by omega, by omega, ?_⟩
      have : l.length - last.length = p + u.length := by omega
      rw [this, ← List.drop_drop, e, List.drop_left' rfl]
  | r :: mids, p, hp => by
    rw [fitsMid]
    cases hf : findL r l p with
    | none =>
      simp only [Bool.false_eq_true, false_iff]
      rintro ⟨u, v, e, _⟩
      have hl := congrArg List.length e
      rw [List.length_drop, List.length_append] at hl
      refine findL_none hf (p + u.length) (by omega) (by omega) ⟨v, ?_⟩
      rw [← List.drop_drop, e, List.drop_left' rfl]
    | some q =>
      obtain ⟨h1, h2, h3, h4⟩ := findL_some hf
      dsimp only
      rw [fits_tail l last mids (q + r.length) h2]
      have hdr : l.drop q = r ++ l.drop (q + r.length) := by
        rw [← List.drop_drop]
        conv => lhs; rw [← List.take_append_drop r.length (l.drop q), h3]
      constructor
      · intro h
        refine ⟨(l.drop p).take (q - p), _, ?_, h⟩
        rw [← hdr]
        have : l.drop q = (l.drop p).drop (q - p) := by rw [List.drop_drop]; congr 1; omega
        rw [this, List.take_append_drop]
      · rintro ⟨u, v, e, h⟩
        have hl := congrArg List.length e
        rw [List.length_drop, List.length_append, List.length_append] at hl
        have hq : q ≤ p + u.length := by
          refine Nat.le_of_not_lt fun hlt => h4 (p + u.length) (by omega) hlt ⟨v, ?_⟩
          rw [← List.drop_drop, e, List.drop_left' rfl]
        have hv : v = l.drop (p + u.length + r.length) := by
          rw [← List.drop_drop, ← List.drop_drop, e, List.drop_left' rfl, List.drop_left' rfl]
        have hw : l.drop (q + r.length) = (l.drop (q + r.length)).take (p + u.length - q) ++ v := by
          have : v = (l.drop (q + r.length)).drop (p + u.length - q) := by rw [hv, List.drop_drop]; congr 1; omega
          conv => rhs; rw [this]
          exact (List.take_append_drop ..).symm
        rw [hw]
        cases hm : mids ++ [last] with
        | nil => simp at hm
        | cons a b =>
          have h' : Dt (mids ++ [last]) v := h
          rw [hm] at h'
          exact Dt_mono h'
theorem fitsL_iff (r : List Nat) (rs : List (List Nat)) (l : List Nat) (h : rs ≠ []) : fitsL (r :: rs) l = true ↔ Df (r :: rs) l := by
  obtain ⟨mids, last, rfl⟩ : ∃ mids last, rs = mids ++ [last] := ⟨_, _, (List.dropLast_concat_getLast h).symm⟩
  unfold fitsL
  rw [if_neg (by simp)]
  have e1 : (r :: (mids ++ [last])).headD [] = r := rfl
  have e2 : (r :: (mids ++ [last])).getLastD [] = last := by
    rw [List.getLastD_eq_getLast?, ← List.cons_append, List.getLast?_concat]
    rfl
  have e3 : ((r :: (mids ++ [last])).take ((r :: (mids ++ [last])).length - 1)).drop 1 = mids := by simp
  rw [e1, e2, e3]
  by_cases ht : l.take r.length = r
  · rw [if_neg (by simp [ht])]
    have hr : r.length ≤ l.length := by
      have := congrArg List.length ht
      rw [List.length_take] at this
      omega
    refine (fits_tail l last mids r.length hr).trans ?_
    constructor
    · intro hd
      refine ⟨l.drop r.length, ?_, hd⟩
      conv => lhs; rw [← List.take_append_drop r.length l, ht]
    · rintro ⟨v, rfl, hd⟩
      rw [List.drop_left' rfl]
      exact hd
  · rw [if_pos (by simp [ht])]
    simp only [Bool.false_eq_true, false_iff]
    rintro ⟨v, rfl, _⟩
    exact ht (List.take_left' rfl)
end Mine
set_option maxHeartbeats 4000000
namespace Mine
/-! reading back what translate wrote -/
theorem read_nil (n : Nat) (rs : List (List Nat)) (cur : List Nat) : readGo n rs cur [] = rs ++ [cur] := by
  cases n with
  | zero => rfl
  | succ n => rw [readGo, if_pos rfl]
theorem read_fuel : ∀ (n m : Nat) (rs : List (List Nat)) (cur r : List Nat), r.length ≤ n → r.length ≤ m → readGo n rs cur r = readGo m rs cur r
  | 0, m, rs, cur, r, h, _ => by
    have : r = [] := List.length_eq_zero_iff.mp (by omega)
    subst this
    rw [read_nil, read_nil]
  | n + 1, 0, rs, cur, r, _, h => by
    have : r = [] := List.length_eq_zero_iff.mp (by omega)
    subst this
    rw [read_nil, read_nil]
  | n + 1, m + 1, rs, cur, r, h1, h2 => by
    rw [readGo, readGo]
    by_cases hr : r = []
    · rw [if_pos hr, if_pos hr]
    · have hl : r.length ≠ 0 := fun e => hr (List.length_eq_zero_iff.mp e)
      rw [if_neg hr, if_neg hr]
      rw [read_fuel n m (rs ++ [cur]) [] (r.drop 6) (by rw [List.length_drop]; omega) (by rw [List.length_drop]; omega),
        read_fuel n m (rs ++ [cur]) [] (r.drop 2) (by rw [List.length_drop]; omega) (by rw [List.length_drop]; omega),
        read_fuel n m rs (cur ++ (r.drop 1).take 1) (r.drop 2) (by rw [List.length_drop]; omega) (by rw [List.length_drop]; omega),
        read_fuel n m rs cur (r.drop 1) (by rw [List.length_drop]; omega) (by rw [List.length_drop]; omega),
        read_fuel n m rs (cur ++ r.take 1) (r.drop 1) (by rw [List.length_drop]; omega) (by rw [List.length_drop]; omega)]
noncomputable def readW (rs : List (List Nat)) (cur r : List Nat) : List (List Nat) := readGo r.length rs cur r
theorem readW_go {n : Nat} {rs : List (List Nat)} {cur r : List Nat} (h : r.length ≤ n) : readGo n rs cur r = readW rs cur r := read_fuel _ _ _ _ _ h (Nat.le_refl _)
theorem readW_nil (rs : List (List Nat)) (cur : List Nat) : readW rs cur [] = rs ++ [cur] := rfl
theorem readW_opens (rs : List (List Nat)) (cur x : List Nat) : readW rs cur (opens ++ x) = readW (rs ++ [cur]) [] x := by
  show readGo (x.length + 6) rs cur (40 :: 63 :: 62 :: 46 :: 42 :: 63 :: x) = _
  rw [readGo, if_neg (by simp), if_pos (by simp)]
  exact readW_go (by simp)
theorem readW_dot (rs : List (List Nat)) (cur x : List Nat) : readW rs cur (dotStar ++ x) = readW (rs ++ [cur]) [] x := by
  show readGo (x.length + 2) rs cur (46 :: 42 :: x) = _
  rw [readGo, if_neg (by simp), if_neg (by simp), if_pos (by simp)]
  exact readW_go (by simp)
theorem readW_back (rs : List (List Nat)) (cur x : List Nat) (c : Nat) : readW rs cur (92 :: c :: x) = readW rs (cur ++ [c]) x := by
  show readGo (x.length + 2) rs cur (92 :: c :: x) = _
  rw [readGo, if_neg (by simp), if_neg (by simp), if_neg (by simp), if_pos (by simp)]
  exact readW_go (by simp)
theorem readW_close (rs : List (List Nat)) (cur x : List Nat) : readW rs cur (41 :: x) = readW rs cur x := by
  show readGo (x.length + 1) rs cur (41 :: x) = _
  rw [readGo, if_neg (by simp), if_neg (by simp), if_neg (by simp), if_neg (by simp), if_pos (by simp)]
  exact readW_go (by simp)
theorem readW_plain (rs : List (List Nat)) (cur x : List Nat) (c : Nat) (h1 : c ≠ 40) (h2 : c ≠ 46) (h3 : c ≠ 92) (h4 : c ≠ 41) : readW rs cur (c :: x) = readW rs (cur ++ [c]) x := by
  show readGo (x.length + 1) rs cur (c :: x) = _
  rw [readGo, if_neg (by simp), if_neg (by simp [h1]), if_neg (by simp [h2]), if_neg (by simp [h3]), if_neg (by simp [h4])]
  exact readW_go (by simp)
theorem readW_esc (rs : List (List Nat)) (cur x : List Nat) (c : Nat) : readW rs cur (escRe c ++ x) = readW rs (cur ++ [c]) x := by
  unfold escRe
  split
  · exact readW_back rs cur x c
  · rename_i h
    have : ∀ k ∈ specials, c ≠ k := fun k hk e => h (by subst e; simpa using hk)
    exact readW_plain rs cur x c (this 40 (by decide)) (this 46 (by decide)) (this 92 (by decide)) (this 41 (by decide))
theorem readW_escs : ∀ (f x : List Nat) (rs : List (List Nat)) (cur : List Nat), readW rs cur (f.flatMap escRe ++ x) = readW rs (cur ++ f) x
  | [], x, rs, cur => by simp
  | c :: f, x, rs, cur => by
    rw [List.flatMap_cons, List.append_assoc, readW_esc, readW_escs f x rs (cur ++ [c])]
    simp
noncomputable def dd : Bool → List Nat → List (Option Nat)
  | _, [] => []
  | b, c :: r => if c = 42 then (if b then dd true r else none :: dd true r) else some c :: dd false r
noncomputable abbrev om (ps : List (Option Nat)) : Parts := ps.map (Option.map escRe)
theorem tr_dd : ∀ (p : List Nat) (acc : Parts) (b : Bool), (b = true ↔ acc.getLast? = some none) → p.foldl trStep acc = acc ++ om (dd b p)
  | [], acc, b, _ => by simp [dd]
  | c :: p, acc, b, hb => by
    rw [List.foldl_cons, dd]
    by_cases hc : c = 42
    · rw [if_pos hc]
      by_cases hl : acc.getLast? = some none
      · have hbt := hb.mpr hl
        have e : trStep acc c = acc := by unfold trStep; rw [if_pos hc, if_pos hl]
        rw [e, if_pos hbt, tr_dd p acc true (by simp [hl])]
      · have hbf : ¬ b = true := fun h => hl (hb.mp h)
        have e : trStep acc c = acc ++ [none] := by unfold trStep; rw [if_pos hc, if_neg hl]
        rw [e, if_neg hbf, tr_dd p (acc ++ [none]) true (by simp)]
        simp
    · have e : trStep acc c = acc ++ [some (escRe c)] := by unfold trStep; rw [if_neg hc]
      rw [e, if_neg hc, tr_dd p (acc ++ [some (escRe c)]) false (by simp)]
      simp
theorem trL_dd (p : List Nat) : trL p = om (dd false p) := by
  unfold trL
  rw [tr_dd p [] false (by simp)]
  rfl
noncomputable def rn : List Nat → List (Option Nat) → List (List Nat)
  | g, [] => [g]
  | g, some c :: r => rn (g ++ [c]) r
  | g, none :: r => g :: rn [] r
theorem read_seg : ∀ (ps : List (Option Nat)) (f : List Nat) (rs : List (List Nat)) (cur : List Nat), readW rs cur (jseg (f.flatMap escRe) (om ps)) = rs ++ cur :: rn f ps
  | [], f, rs, cur => by
    show readW rs cur (dotStar ++ f.flatMap escRe) = _
    rw [readW_dot, ← List.append_nil (f.flatMap escRe), readW_escs, readW_nil]
    simp [rn]
  | some c :: ps, f, rs, cur => by
    show readW rs cur (jseg (f.flatMap escRe ++ escRe c) (om ps)) = _
    have e : f.flatMap escRe ++ escRe c = (f ++ [c]).flatMap escRe := by simp
    rw [e, read_seg ps (f ++ [c])]
    rfl
  | none :: ps, f, rs, cur => by
    show readW rs cur (opens ++ f.flatMap escRe ++ [41] ++ jseg ([] : List Nat) (om ps)) = _
    rw [List.append_assoc, List.append_assoc, readW_opens, readW_escs]
    show readW _ _ (41 :: jseg (([] : List Nat).flatMap escRe) (om ps)) = _
    rw [readW_close, read_seg ps []]
    simp [rn]
theorem read_head : ∀ (ps : List (Option Nat)) (rs : List (List Nat)) (cur : List Nat), readW rs cur (jhead (om ps)) = rs ++ rn cur ps
  | [], rs, cur => by simp [jhead, readW_nil, rn]
  | some c :: ps, rs, cur => by
    show readW rs cur (escRe c ++ jhead (om ps)) = _
    rw [readW_esc, read_head ps]
    rfl
  | none :: ps, rs, cur => by
    show readW rs cur (jseg (([] : List Nat).flatMap escRe) (om ps)) = _
    rw [read_seg ps []]
    rfl
theorem readL_trL (p : List Nat) : readL (joinL (trL p)) = rn [] (dd false p) := by
  rw [trL_dd]
  unfold readL joinL
  have e : (([40, 63, 115, 58] ++ jhead (om (dd false p)) ++ [41, 92, 90]).take (([40, 63, 115, 58] ++ jhead (om (dd false p)) ++ [41, 92, 90]).length - 3)).drop 4 = jhead (om (dd false p)) := by
    rw [List.take_left' (by simp), List.drop_left' (by simp)]
  simp only [e]
  exact (read_head (dd false p) [] []).trans (by simp)
/-! and putting it together again -/
noncomputable def tgT : List (List Nat) → List Nat
  | [] => []
  | [r] => dotStar ++ r
  | r :: r2 :: rs => opens ++ r ++ [41] ++ tgT (r2 :: rs)
theorem rn_some : ∀ (ps : List (Option Nat)) (g : List Nat), ∃ h t, rn g ps = h :: t
  | [], g => ⟨g, [], rfl⟩
  | some c :: ps, g => rn_some ps (g ++ [c])
  | none :: ps, g => ⟨g, _, rfl⟩
theorem tog_seg : ∀ (ps : List (Option Nat)) (f : List Nat), jseg (f.flatMap escRe) (om ps) = tgT ((rn f ps).map fun r => r.flatMap escRe)
  | [], f => rfl
  | some c :: ps, f => by
    show jseg (f.flatMap escRe ++ escRe c) (om ps) = _
    have e : f.flatMap escRe ++ escRe c = (f ++ [c]).flatMap escRe := by simp
    rw [e, tog_seg ps (f ++ [c])]
    rfl
  | none :: ps, f => by
    show opens ++ f.flatMap escRe ++ [41] ++ jseg (([] : List Nat).flatMap escRe) (om ps) = _
    rw [tog_seg ps []]
    obtain ⟨h, t, e⟩ := rn_some ps []
    rw [rn, e]
    rfl
theorem tog_head : ∀ (ps : List (Option Nat)) (g h : List Nat) (t : List (List Nat)), rn g ps = h :: t → g.flatMap escRe ++ jhead (om ps) = h.flatMap escRe ++ tgT (t.map fun r => r.flatMap escRe)
  | [], g, h, t, e => by
    have e : [g] = h :: t := e
    injection e with e1 e2
    subst e1 e2
    rfl
  | some c :: ps, g, h, t, e => by
    have := tog_head ps (g ++ [c]) h t e
    rw [← this]
    show g.flatMap escRe ++ (escRe c ++ jhead (om ps)) = _
    simp
  | none :: ps, g, h, t, e => by
    have e : g :: rn [] ps = h :: t := e
    injection e with e1 e2
    subst e1 e2
    rw [← tog_seg]
    rfl
theorem tgT_last : ∀ (mids : List (List Nat)) (last : List Nat), tgT (mids ++ [last]) = (mids.map fun r => opens ++ r ++ [41]).flatten ++ (dotStar ++ last)
  | [], last => rfl
  | [a], last => by simp [tgT]
  | a :: b :: mids, last => by
    have ih := tgT_last (b :: mids) last
    rw [List.cons_append, List.cons_append, tgT, ← List.cons_append, ih]
    simp
theorem togL_cons (h : List Nat) (t : List (List Nat)) : togL (h :: t) = [40, 63, 115, 58] ++ (dressL h ++ tgT (t.map dressL)) ++ [41, 92, 90] := by
  have e0 : togL (h :: t) = [40, 63, 115, 58] ++ (dressL h ++ (((((h :: t).map dressL).take (((h :: t).map dressL).length - 1)).drop 1).map fun r => opens ++ r ++ [41]).flatten ++ (if 1 < (h :: t).length then dotStar ++ ((h :: t).map dressL).getLastD [] else [])) ++ [41, 92, 90] := rfl
  rw [e0]
  rcases List.eq_nil_or_concat t with rfl | ⟨mids, last, rfl⟩
  · simp [tgT]
  · have e1 : ((h :: mids.concat last).map dressL).getLastD [] = dressL last := by
      rw [List.concat_eq_append, List.map_cons, List.map_append, List.getLastD_eq_getLast?, ← List.cons_append, List.map_cons, List.map_nil, List.getLast?_concat]
      rfl
    have e2 : (((h :: mids.concat last).map dressL).take (((h :: mids.concat last).map dressL).length - 1)).drop 1 = mids.map dressL := by simp
    have e3 : (mids.concat last).map dressL = mids.map dressL ++ [dressL last] := by simp
    rw [e1, e2, e3, tgT_last, if_pos (by simp)]
    simp
theorem dressL_esc (l : List Nat) (h : ∀ c ∈ l, dressC c = escRe c) : dressL l = l.flatMap escRe := by
  unfold dressL
  rw [List.flatMap_def]
  congr 1
  exact List.map_congr_left h
theorem rn_mem : ∀ (ps : List (Option Nat)) (g : List Nat) (P : Nat → Prop), (∀ c, some c ∈ ps → P c) → (∀ c ∈ g, P c) → ∀ r ∈ rn g ps, ∀ c ∈ r, P c
  | [], g, P, _, hg, r, hr => by
    have : r = g := by simpa [rn] using hr
    subst this
    exact hg
  | some c :: ps, g, P, hp, hg, r, hr => by
    refine rn_mem ps (g ++ [c]) P (fun c hc => hp c (List.mem_cons_of_mem _ hc)) (fun d hd => ?_) r hr
    rcases List.mem_append.mp hd with hd | hd
    · exact hg d hd
    · rw [List.mem_singleton.mp hd]; exact hp c (List.mem_cons_self ..)
  | none :: ps, g, P, hp, hg, r, hr => by
    rcases List.mem_cons.mp hr with rfl | hr
    · exact hg
    · exact rn_mem ps [] P (fun c hc => hp c (List.mem_cons_of_mem _ hc)) (fun _ h => nomatch h) r hr
theorem dd_mem : ∀ (p : List Nat) (b : Bool) (c : Nat), some c ∈ dd b p → c ∈ p ∧ c ≠ 42
  | [], _, _, h => by simp [dd] at h
  | a :: p, b, c, h => by
    rw [dd] at h
    by_cases ha : a = 42
    · rw [if_pos ha] at h
      have : some c ∈ dd true p := by
        split at h
        · exact h
        · simpa using h
      have := dd_mem p true c this
      exact ⟨List.mem_cons_of_mem _ this.1, this.2⟩
    · rw [if_neg ha] at h
      rcases List.mem_cons.mp h with e | h
      · injection e with e
        subst e
        exact ⟨List.mem_cons_self .., ha⟩
      · have := dd_mem p false c h
        exact ⟨List.mem_cons_of_mem _ this.1, this.2⟩
theorem tog_read (p : List Nat) (h : ∀ c ∈ p, c ≠ 42 → dressC c = escRe c) : togL (readL (joinL (trL p))) = joinL (trL p) := by
  rw [readL_trL, trL_dd]
  obtain ⟨r, t, e⟩ := rn_some (dd false p) []
  have hm := rn_mem (dd false p) [] (fun c => dressC c = escRe c) (fun c hc => h c (dd_mem p false c hc).1 (dd_mem p false c hc).2) (fun _ h => nomatch h)
  rw [e] at hm
  have h1 := tog_head (dd false p) [] r t e
  rw [e, togL_cons, dressL_esc r (hm r (List.mem_cons_self ..))]
  have h2 : t.map dressL = t.map fun r => r.flatMap escRe := List.map_congr_left fun x hx => dressL_esc x (hm x (List.mem_cons_of_mem _ hx))
  rw [h2, ← h1]
  rfl
/-! the runs of what was read -/
theorem rn_split : ∀ (p : List Nat) (h : List Nat) (t : List (List Nat)), splitL 42 p = h :: t → (∀ g, rn g (dd false p) = (g ++ h) :: keepT t) ∧ rn [] (dd true p) = keepT (h :: t)
  | [], h, t, e => by
    have e : [[]] = h :: t := e
    injection e with e1 e2
    subst e1 e2
    exact ⟨fun g => by simp [dd, rn, keepT], rfl⟩
  | c :: p, h, t, e => by
    obtain ⟨h', t', e'⟩ := splitL_some 42 p
    have ih := rn_split p h' t' e'
    by_cases hc : c = 42
    · subst hc
      rw [splitL_sep, e'] at e
      injection e with e1 e2
      subst e1 e2
      refine ⟨fun g => ?_, ?_⟩
      · rw [dd, if_pos rfl, if_neg (by decide), rn, ih.2]
        simp
      · rw [dd, if_pos rfl, if_pos rfl, ih.2, keepT_cons, if_pos rfl]
    · rw [splitL_char hc e'] at e
      injection e with e1 e2
      subst e1 e2
      refine ⟨fun g => ?_, ?_⟩
      · rw [dd, if_neg hc, rn, ih.1]
        simp
      · rw [dd, if_neg hc, rn, ih.1, keepT_ne (by simp)]
        rfl
theorem readL_runs (p : List Nat) : readL (joinL (trL p)) = runsL (splitL 42 p) := by
  obtain ⟨h, t, e⟩ := splitL_some 42 p
  rw [readL_trL, (rn_split p h t e).1, e, runsL_cons]
  rfl
theorem splitL_word : ∀ (w x h : List Nat) (t : List (List Nat)), 42 ∉ w → splitL 42 x = h :: t → splitL 42 (w ++ x) = (w ++ h) :: t
  | [], x, h, t, _, e => e
  | a :: w, x, h, t, hw, e => by
    rw [List.cons_append, splitL_char (fun q => hw (by rw [q]; exact List.mem_cons_self ..)) (splitL_word w x h t (fun q => hw (List.mem_cons_of_mem _ q)) e)]
    rfl
theorem splitL_code {f : Nat → List Nat} (hs : f 42 = [42]) : ∀ p : List Nat, (∀ c ∈ p, c ≠ 42 → 42 ∉ f c) → splitL 42 (p.flatMap f) = (splitL 42 p).map fun r => r.flatMap f
  | [], _ => rfl
  | c :: p, h => by
    have ih := splitL_code hs p fun c hc => h c (List.mem_cons_of_mem _ hc)
    rw [List.flatMap_cons]
    obtain ⟨r, t, e⟩ := splitL_some 42 p
    rw [e, List.map_cons] at ih
    by_cases hc : c = 42
    · subst hc
      rw [hs, splitL_sep, e]
      show splitL 42 (42 :: p.flatMap f) = _
      rw [splitL_sep, ih]
      rfl
    · rw [splitL_char hc e, splitL_word (f c) _ _ _ (h c (List.mem_cons_self ..) hc) ih]
      rfl
theorem keepT_map {f : Nat → List Nat} : ∀ t : List (List Nat), (∀ r ∈ t, r.flatMap f = [] → r = []) → keepT (t.map fun r => r.flatMap f) = (keepT t).map fun r => r.flatMap f
  | [], _ => rfl
  | [a], _ => rfl
  | a :: b :: t, h => by
    have ih := keepT_map (b :: t) fun r hr => h r (List.mem_cons_of_mem _ hr)
    rw [List.map_cons, List.map_cons] at *
    rw [keepT_cons, keepT_cons]
    by_cases ha : a = []
    · rw [if_pos ha, if_pos (by rw [ha]; rfl), ← ih]
    · rw [if_neg ha, if_neg (fun e => ha (h a (List.mem_cons_self ..) e)), List.map_cons, ← ih]
theorem runsL_map {f : Nat → List Nat} (ps : List (List Nat)) (h : ∀ r ∈ ps, r.flatMap f = [] → r = []) : runsL (ps.map fun r => r.flatMap f) = (runsL ps).map fun r => r.flatMap f := by
  cases ps with
  | nil => rfl
  | cons a t =>
    rw [List.map_cons, runsL_cons, runsL_cons, List.map_cons, keepT_map t fun r hr => h r (List.mem_cons_of_mem _ hr)]
end Mine
set_option maxHeartbeats 4000000
namespace Mine
noncomputable def codeB (f : Nat → List Nat) (al : List Nat) : Bool :=
  al.all fun c => !(f c).isEmpty && al.all fun d => ((f c).tail.all fun h => (f d).head? != some h) && (!((f c).isPrefixOf (f d)) || c == d)
theorem codeB_code {f : Nat → List Nat} {al : List Nat} (h : codeB f al = true) : Code f al := by
  unfold codeB at h
  simp only [List.all_eq_true, Bool.and_eq_true, Bool.or_eq_true, Bool.not_eq_true', bne_iff_ne, beq_iff_eq] at h
  refine ⟨fun c hc e => ?_, fun c hc d hd x hx => ((h c hc).2 d hd).1 x hx, fun c hc d hd e => ?_⟩
  · have := (h c hc).1
    rw [e] at this
    cases this
  · rcases ((h c hc).2 d hd).2 with h1 | h1
    · rw [e] at h1; cases h1
    · exact h1
theorem sub_S (l : List Nat) (a b : Nat) : (Builtin.Str.strSub (S l) a b).cps.toList = (l.drop a).take (b - a) := by
  rw [StrLaws.strSub_toList, S_cps]
theorem at_S {l y : List Nat} {k : Nat} : StrLaws.At (S l) (S y) l.length k ↔ k + y.length ≤ l.length ∧ (l.drop k).take y.length = y := by
  unfold StrLaws.At
  rw [subAt_S, S_length, beq_iff_eq]
theorem join_two (z p : Str) (ps : List Str) (h : ps ≠ []) : (Str.join z (p :: ps)).cps.toList = p.cps.toList ++ (z.cps.toList ++ (Str.join z ps).cps.toList) := by
  cases ps with
  | nil => exact absurd rfl h
  | cons q ps =>
    rw [join_cons_cons]
    show ((p.cps ++ z.cps) ++ (Str.join z (q :: ps)).cps).toList = _
    simp
theorem partsFrom_some (x : Str) (w a : Nat) (cuts : List Nat) : StrLaws.partsFrom x w a cuts ≠ [] := by
  obtain ⟨p, r, e⟩ := StrLaws.partsFrom_ne x w a cuts
  rw [e]; simp
section
variable {f : Nat → List Nat} {al : List Nat}
theorem repl_chain (C : Code f al) {c0 : Nat} (h0 : c0 ∈ al) (z : List Nat) : ∀ (xs pre : List Nat) (cuts : List Nat) (fe : Nat), (∀ c ∈ xs, c ∈ al) →
    StrLaws.ChainG (S (pre ++ xs.flatMap f)) (S (f c0)) (pre ++ xs.flatMap f).length pre.length cuts fe → (∀ k, fe ≤ k → ¬ StrLaws.At (S (pre ++ xs.flatMap f)) (S (f c0)) (pre ++ xs.flatMap f).length k) →
    (Str.join (S z) (StrLaws.partsFrom (S (pre ++ xs.flatMap f)) (f c0).length pre.length cuts)).cps.toList = xs.flatMap fun c => if c = c0 then z else f c
  | [], pre, cuts, fe, _, hC, hE => by
    have hy : 1 ≤ (f c0).length := by
      cases hf : f c0 with
      | nil => exact absurd hf (C.ne c0 h0)
      | cons a b => simp
    cases cuts with
    | nil =>
      show (Builtin.Str.strSub _ pre.length _).cps.toList = _
      rw [sub_S]
      simp
    | cons c r =>
      have h1 := (at_S.mp hC.2.1).1
      have h2 := hC.1
      simp at h1
      omega
  | d :: xs, pre, cuts, fe, hxs, hC, hE => by
    have hd := hxs d (List.mem_cons_self ..)
    have hxs' := fun c hc => hxs c (List.mem_cons_of_mem _ hc)
    have hy : 1 ≤ (f c0).length := by
      cases hf : f c0 with
      | nil => exact absurd hf (C.ne c0 h0)
      | cons a b => simp
    have he : pre ++ (d :: xs).flatMap f = (pre ++ f d) ++ xs.flatMap f := by simp
    have hlen : (pre ++ f d).length = pre.length + (f d).length := List.length_append
    have hdrop : (pre ++ (d :: xs).flatMap f).drop pre.length = f d ++ xs.flatMap f := by rw [List.drop_left' rfl, List.flatMap_cons]
    by_cases hdc : d = c0
    · subst hdc
      have hat : StrLaws.At (S (pre ++ (d :: xs).flatMap f)) (S (f d)) (pre ++ (d :: xs).flatMap f).length pre.length :=
        at_S.mpr ⟨by simp, by rw [hdrop, List.take_left' rfl]⟩
      cases cuts with
      | nil =>
        have h1 : fe = pre.length := hC
        exact absurd hat (hE _ (by omega))
      | cons c r =>
        have hc : c = pre.length := by
          refine Nat.le_antisymm (Nat.le_of_not_lt fun h => hC.2.2.1 pre.length (Nat.le_refl _) h hat) hC.1
        subst hc
        have hC2 := hC.2.2.2
        rw [S_length] at hC2
        have ih := repl_chain C h0 z xs (pre ++ f d) r fe hxs' (by rw [← he, hlen]; exact hC2) (by rw [← he]; exact hE)
        rw [← he, hlen] at ih
        show (Str.join (S z) (Builtin.Str.strSub _ pre.length pre.length :: StrLaws.partsFrom _ _ (pre.length + (f d).length) r)).cps.toList = _
        rw [join_two _ _ _ (partsFrom_some _ _ _ _), ih, sub_S, S_cps]
        simp
    · have hno : ∀ k, pre.length ≤ k → k < pre.length + (f d).length → ¬ StrLaws.At (S (pre ++ (d :: xs).flatMap f)) (S (f c0)) (pre ++ (d :: xs).flatMap f).length k := by
        intro k h1 h2 hA
        obtain ⟨h3, h4⟩ := at_S.mp hA
        obtain ⟨v, h5⟩ := (at_iff.mp ⟨h3, h4⟩).2
        have hk : (pre ++ (d :: xs).flatMap f).drop k = (f d).drop (k - pre.length) ++ xs.flatMap f := by
          have : k = pre.length + (k - pre.length) := by omega
          conv => lhs; rw [this]
          rw [← List.drop_drop, hdrop, List.drop_append_of_le_length (by omega)]
        rw [hk] at h5
        by_cases hk0 : k - pre.length = 0
        · rw [hk0, List.drop_zero] at h5
          exact hdc (C.cancel hd h0 h5).1
        · cases hf : f c0 with
          | nil => exact C.ne c0 h0 hf
          | cons y ys =>
            have hm : y ∈ (f d).tail := by
              cases hq : (f d).drop (k - pre.length) with
              | nil =>
                have := congrArg List.length hq
                rw [List.length_drop, List.length_nil] at this
                omega
              | cons a b =>
                rw [hq, hf] at h5
                have ha : a = y := by simpa using (List.cons.inj h5).1
                subst ha
                have h6 : a ∈ (f d).drop (k - pre.length) := by rw [hq]; exact List.mem_cons_self ..
                rw [← List.drop_one]
                have h7 : (f d).drop (k - pre.length) = ((f d).drop 1).drop (k - pre.length - 1) := by rw [List.drop_drop]; congr 1; omega
                rw [h7] at h6
                exact List.mem_of_mem_drop h6
            exact C.tail d hd c0 h0 y hm (by rw [hf]; rfl)
      rw [List.flatMap_cons (f := fun c => if c = c0 then z else f c), if_neg hdc]
      cases cuts with
      | nil =>
        have h1 : fe = pre.length := hC
        subst h1
        have ih := repl_chain C h0 z xs (pre ++ f d) [] _ hxs' rfl (by rw [← he]; exact fun k hk => hE k (by rw [hlen] at hk; omega))
        rw [← ih, ← he]
        show (Builtin.Str.strSub _ pre.length _).cps.toList = f d ++ (Builtin.Str.strSub _ (pre ++ f d).length _).cps.toList
        rw [sub_S, sub_S, S_length, hdrop]
        have : (pre ++ (d :: xs).flatMap f).drop (pre ++ f d).length = xs.flatMap f := by rw [he, List.drop_left' rfl]
        rw [this, List.take_of_length_le (by simp), List.take_of_length_le (by simp; omega)]
      | cons c r =>
        have hc : pre.length + (f d).length ≤ c := by
          refine Nat.le_of_not_lt fun h => hno c hC.1 h hC.2.1
        have ih := repl_chain C h0 z xs (pre ++ f d) (c :: r) fe hxs' (by
          rw [← he, hlen]
          exact ⟨hc, hC.2.1, fun k h1 h2 => hC.2.2.1 k (by omega) h2, hC.2.2.2⟩) (by rw [← he]; exact hE)
        rw [← ih, ← he]
        show (Str.join (S z) (Builtin.Str.strSub _ pre.length c :: StrLaws.partsFrom _ _ _ r)).cps.toList = f d ++ (Str.join (S z) (Builtin.Str.strSub _ (pre ++ f d).length c :: StrLaws.partsFrom _ _ _ r)).cps.toList
        rw [join_two _ _ _ (partsFrom_some _ _ _ _), join_two _ _ _ (partsFrom_some _ _ _ _), sub_S, sub_S, hdrop]
        have h8 : (pre ++ (d :: xs).flatMap f).drop (pre ++ f d).length = xs.flatMap f := by rw [he, List.drop_left' rfl]
        have h9 : c - pre.length = (f d).length + (c - (pre ++ f d).length) := by rw [List.length_append]; omega
        rw [h8, h9, List.take_length_add_append, List.append_assoc]
theorem repl_code (C : Code f al) {c0 : Nat} (h0 : c0 ∈ al) (z : List Nat) (xs : List Nat) (hxs : ∀ c ∈ xs, c ∈ al) : replM (f c0) z (xs.flatMap f) = xs.flatMap fun c => if c = c0 then z else f c := by
  have hy : 1 ≤ (f c0).length := by
    cases hf : f c0 with
    | nil => exact absurd hf (C.ne c0 h0)
    | cons a b => simp
  obtain ⟨fe, hG, hE⟩ := StrLaws.occ_tight (S (xs.flatMap f)) (S (f c0)) (by rw [S_length]; exact hy)
  have key := repl_chain C h0 z xs [] (Builtin.Str.occurrences (S (xs.flatMap f)) (S (f c0)) 0 (S (xs.flatMap f)).length ((S (xs.flatMap f)).length + 1)) fe hxs (by rw [S_length] at hG; rw [S_length]; exact hG) (by rw [S_length] at hE; exact hE)
  unfold replM Txt.replace
  split
  · rename_i hc
    rw [Bool.or_eq_true, List.isEmpty_iff] at hc
    rcases hc with hc | hc
    · rw [hc] at key
      rw [S_cps, ← key]
      show _ = (Builtin.Str.strSub _ 0 _).cps.toList
      rw [sub_S, S_length]
      simp only [List.nil_append, List.drop_zero, Nat.sub_zero, List.take_length]
    · rw [S_length] at hc
      simp at hc
      exact absurd hc.1 (C.ne c0 h0)
  · rw [StrLaws.glued_eq_join, StrLaws.partsBetween_eq, S_length (f c0)]
    exact key
end
/-! the tables -/
noncomputable def look (tb : List (Nat × List Nat)) (c : Nat) : List Nat := match tb.lookup c with | some r => r | none => [c]
noncomputable abbrev al0 : List Nat := [38, 60, 62, 34, 13, 10, 9, 98, 99, 46, 92]
noncomputable abbrev amp : Nat × List Nat := (38, [38, 97, 109, 112, 59])
noncomputable def okT (al : List Nat) : List (Nat × List Nat) → Bool
  | [] => codeB (look [amp]) al && al.contains 38
  | (c, r) :: t => codeB (look (amp :: (c, r) :: t)) al && al.contains c && c != 38 && (t.lookup c).isNone && okT al t
theorem unw_fold (al : List Nat) : ∀ (tb : List (Nat × List Nat)) (xs : List Nat), okT al tb = true → (∀ c ∈ xs, c ∈ al) → tb.foldl unwStep (xs.flatMap (look (amp :: tb))) = xs.flatMap (look [amp])
  | [], xs, _, _ => rfl
  | (c, r) :: t, xs, h, hxs => by
    rw [okT] at h
    simp only [Bool.and_eq_true, bne_iff_ne, List.contains_iff_mem, Option.isNone_iff_eq_none] at h
    obtain ⟨⟨⟨⟨h1, h2⟩, h3⟩, h4⟩, h5⟩ := h
    have hc : look (amp :: (c, r) :: t) c = r := by
      unfold look
      have h3' : (c == 38) = false := by simp [h3]
      simp [List.lookup_cons, h3']
    have := repl_code (codeB_code h1) h2 [c] xs hxs
    rw [hc] at this
    rw [List.foldl_cons, unwStep, if_neg h3, this]
    have he : (fun d => if d = c then [c] else look (amp :: (c, r) :: t) d) = look (amp :: t) := by
      funext d
      by_cases hd : d = c
      · subst hd
        have h3' : (d == 38) = false := by simp [h3]
        simp [look, List.lookup_cons, h3', h4]
      · have hd' : (d == c) = false := by simp [hd]
        simp [look, List.lookup_cons, hd, hd']
    rw [he]
    exact unw_fold al t xs h5 hxs
theorem okT_amp (al : List Nat) : ∀ tb, okT al tb = true → codeB (look [amp]) al = true ∧ 38 ∈ al
  | [], h => by rw [okT] at h; simpa using h
  | (c, r) :: t, h => by
    rw [okT, Bool.and_eq_true] at h
    exact okT_amp al t h.2
theorem unw_code (al : List Nat) (tb : List (Nat × List Nat)) (xs : List Nat) (h : okT al tb = true) (hxs : ∀ c ∈ xs, c ∈ al) : unwL (amp :: tb) (xs.flatMap (look (amp :: tb))) = xs := by
  obtain ⟨h1, h2⟩ := okT_amp al tb h
  unfold unwL
  rw [List.foldl_cons, unwStep, if_pos rfl, unw_fold al tb xs h hxs]
  have := repl_code (codeB_code h1) h2 [38] xs hxs
  rw [show look [amp] 38 = [38, 97, 109, 112, 59] from rfl] at this
  rw [this]
  have he : (fun d => if d = 38 then [38] else look [amp] d) = fun d => [d] := by
    funext d
    by_cases hd : d = 38
    · rw [if_pos hd, hd]
    · have hd' : (d == 38) = false := by simp [hd]
      rw [if_neg hd]
      simp [look, List.lookup_cons, hd']
  rw [he]
  simp
/-- the tables behind the ampersand -/
noncomputable def tabT (k : Nat) : List (Nat × List Nat) := (tabL k).tail
theorem tabL_amp (k : Nat) : tabL k = amp :: tabT k := by
  unfold tabT tabL
  split <;> rfl
theorem okT_all (k : Nat) : okT al0 (tabT k) = true := by
  unfold tabT tabL
  split <;> decide +kernel
theorem unw_tab (k : Nat) (xs : List Nat) (hxs : ∀ c ∈ xs, c ∈ al0) : unwL (tabL k) (xs.flatMap (look (tabL k))) = xs := by
  rw [tabL_amp]
  exact unw_code al0 _ xs (okT_all k) hxs
theorem code_tab (k : Nat) : Code (look (tabL k)) al0 := by
  refine codeB_code ?_
  unfold tabL
  split <;> decide +kernel
theorem rep1_flat (c : Nat) (r : List Nat) (g : Nat → List Nat) (l : List Nat) : rep1 c r (l.flatMap g) = l.flatMap fun a => rep1 c r (g a) := by
  unfold rep1
  rw [List.flatMap_assoc]
theorem rep1_flat0 (c : Nat) (r l : List Nat) : rep1 c r l = l.flatMap fun a => rep1 c r [a] := by
  have := rep1_flat c r (fun a => [a]) l
  rw [← this]
  simp
theorem flat_key {f g : Nat → List Nat} {l : List Nat} (h : ∀ a, f a = g a) : l.flatMap f = l.flatMap g := by rw [funext h]
theorem look_esc_cdataL (l : List Nat) : esc_cdataL l = l.flatMap (look [(38, [38, 97, 109, 112, 59]), (60, [38, 108, 116, 59]), (62, [38, 103, 116, 59])]) := by
  unfold esc_cdataL
  rw [rep1_flat0 38, rep1_flat, rep1_flat]
  refine flat_key fun a => ?_
  by_cases h38 : a = 38
  · subst h38; decide
  by_cases h60 : a = 60
  · subst h60; decide
  by_cases h62 : a = 62
  · subst h62; decide
  have g38 : (a == 38) = false := beq_false_of_ne h38
  have g60 : (a == 60) = false := beq_false_of_ne h60
  have g62 : (a == 62) = false := beq_false_of_ne h62
  simp [rep1, look, List.lookup_cons, h38, g38, h60, g60, h62, g62]
theorem look_esc_attribL (l : List Nat) : esc_attribL l = l.flatMap (look [(38, [38, 97, 109, 112, 59]), (60, [38, 108, 116, 59]), (62, [38, 103, 116, 59]), (34, [38, 113, 117, 111, 116, 59]), (13, [38, 35, 49, 51, 59]), (10, [38, 35, 49, 48, 59]), (9, [38, 35, 48, 57, 59])]) := by
  unfold esc_attribL
  rw [rep1_flat0 38, rep1_flat, rep1_flat, rep1_flat, rep1_flat, rep1_flat, rep1_flat]
  refine flat_key fun a => ?_
  by_cases h38 : a = 38
  · subst h38; decide
  by_cases h60 : a = 60
  · subst h60; decide
  by_cases h62 : a = 62
  · subst h62; decide
  by_cases h34 : a = 34
  · subst h34; decide
  by_cases h13 : a = 13
  · subst h13; decide
  by_cases h10 : a = 10
  · subst h10; decide
  by_cases h9 : a = 9
  · subst h9; decide
  have g38 : (a == 38) = false := beq_false_of_ne h38
  have g60 : (a == 60) = false := beq_false_of_ne h60
  have g62 : (a == 62) = false := beq_false_of_ne h62
  have g34 : (a == 34) = false := beq_false_of_ne h34
  have g13 : (a == 13) = false := beq_false_of_ne h13
  have g10 : (a == 10) = false := beq_false_of_ne h10
  have g9 : (a == 9) = false := beq_false_of_ne h9
  simp [rep1, look, List.lookup_cons, h38, g38, h60, g60, h62, g62, h34, g34, h13, g13, h10, g10, h9, g9]
theorem look_esc_htmlL (l : List Nat) : esc_htmlL l = l.flatMap (look [(38, [38, 97, 109, 112, 59]), (62, [38, 103, 116, 59]), (34, [38, 113, 117, 111, 116, 59])]) := by
  unfold esc_htmlL
  rw [rep1_flat0 38, rep1_flat, rep1_flat]
  refine flat_key fun a => ?_
  by_cases h38 : a = 38
  · subst h38; decide
  by_cases h62 : a = 62
  · subst h62; decide
  by_cases h34 : a = 34
  · subst h34; decide
  have g38 : (a == 38) = false := beq_false_of_ne h38
  have g62 : (a == 62) = false := beq_false_of_ne h62
  have g34 : (a == 34) = false := beq_false_of_ne h34
  simp [rep1, look, List.lookup_cons, h38, g38, h62, g62, h34, g34]
theorem look_esc_cdatacL (l : List Nat) : esc_cdatacL l = l.flatMap (look [(38, [38, 97, 109, 112, 59]), (60, [38, 108, 116, 59]), (62, [38, 103, 116, 59]), (13, [38, 35, 120, 68, 59])]) := by
  unfold esc_cdatacL
  rw [rep1_flat0 38, rep1_flat, rep1_flat, rep1_flat]
  refine flat_key fun a => ?_
  by_cases h38 : a = 38
  · subst h38; decide
  by_cases h60 : a = 60
  · subst h60; decide
  by_cases h62 : a = 62
  · subst h62; decide
  by_cases h13 : a = 13
  · subst h13; decide
  have g38 : (a == 38) = false := beq_false_of_ne h38
  have g60 : (a == 60) = false := beq_false_of_ne h60
  have g62 : (a == 62) = false := beq_false_of_ne h62
  have g13 : (a == 13) = false := beq_false_of_ne h13
  simp [rep1, look, List.lookup_cons, h38, g38, h60, g60, h62, g62, h13, g13]
theorem look_esc_attribcL (l : List Nat) : esc_attribcL l = l.flatMap (look [(38, [38, 97, 109, 112, 59]), (60, [38, 108, 116, 59]), (34, [38, 113, 117, 111, 116, 59]), (13, [38, 35, 120, 68, 59]), (10, [38, 35, 120, 65, 59]), (9, [38, 35, 120, 57, 59])]) := by
  unfold esc_attribcL
  rw [rep1_flat0 38, rep1_flat, rep1_flat, rep1_flat, rep1_flat, rep1_flat]
  refine flat_key fun a => ?_
  by_cases h38 : a = 38
  · subst h38; decide
  by_cases h60 : a = 60
  · subst h60; decide
  by_cases h34 : a = 34
  · subst h34; decide
  by_cases h13 : a = 13
  · subst h13; decide
  by_cases h10 : a = 10
  · subst h10; decide
  by_cases h9 : a = 9
  · subst h9; decide
  have g38 : (a == 38) = false := beq_false_of_ne h38
  have g60 : (a == 60) = false := beq_false_of_ne h60
  have g34 : (a == 34) = false := beq_false_of_ne h34
  have g13 : (a == 13) = false := beq_false_of_ne h13
  have g10 : (a == 10) = false := beq_false_of_ne h10
  have g9 : (a == 9) = false := beq_false_of_ne h9
  simp [rep1, look, List.lookup_cons, h38, g38, h60, g60, h34, g34, h13, g13, h10, g10, h9, g9]
theorem esc_look : ∀ (k : Nat) (l : List Nat), escL k l = l.flatMap (look (tabL k))
  | 0, l => look_esc_cdataL l
  | 1, l => look_esc_attribL l
  | 2, l => look_esc_htmlL l
  | 3, l => look_esc_cdatacL l
  | _ + 4, l => look_esc_attribcL l
end Mine
set_option maxHeartbeats 4000000
namespace Mine
/-- what _law_pair gives: a pattern and a name -/
noncomputable def PatOk (p : List Nat) : Prop := p.length ≤ 9 ∧ (∀ c ∈ p, c = 42 ∨ c ∈ al0) ∧ ∃ q, p = q ++ [42, 38]
noncomputable def NamOk (l : List Nat) : Prop := l.length ≤ 9 ∧ ∀ c ∈ l, c ∈ al0
noncomputable abbrev runsK (k : Nat) (p : List Nat) : List (List Nat) := readL (joinL (trL (escL k p)))
noncomputable def chkS (tb : List (Nat × List Nat)) : Bool := (42 :: al0).all fun d => (look tb d).all (fun c => (c == 42 || dressC c == escRe c) && (decide (c < 128) && c != 63 && c != 91) && (c != 42 || d == 42)) && decide ((look tb d).length ≤ 6)
theorem chkS_all : ∀ k : Nat, chkS (tabL k) = true
  | 0 => by decide +kernel
  | 1 => by decide +kernel
  | 2 => by decide +kernel
  | 3 => by decide +kernel
  | _ + 4 => by
    show chkS (tabL 4) = true
    decide +kernel
theorem look_star : ∀ k : Nat, look (tabL k) 42 = [42]
  | 0 => by decide
  | 1 => by decide
  | 2 => by decide
  | 3 => by decide
  | _ + 4 => by
    show look (tabL 4) 42 = [42]
    decide
theorem look_ok (k d : Nat) (hd : d = 42 ∨ d ∈ al0) : (∀ c ∈ look (tabL k) d, (c ≠ 42 → dressC c = escRe c) ∧ (c < 128 ∧ c ≠ 63 ∧ c ≠ 91) ∧ (d ≠ 42 → c ≠ 42)) ∧ (look (tabL k) d).length ≤ 6 := by
  have h := chkS_all k
  unfold chkS at h
  have h1 := List.all_eq_true.mp h d (by rcases hd with rfl | hd; exact List.mem_cons_self ..; exact List.mem_cons_of_mem _ hd)
  rw [Bool.and_eq_true, List.all_eq_true, decide_eq_true_eq] at h1
  refine ⟨fun c hc => ?_, h1.2⟩
  have h2 := h1.1 c hc
  simp only [Bool.and_eq_true, Bool.or_eq_true, beq_iff_eq, bne_iff_ne, decide_eq_true_eq] at h2
  refine ⟨fun hn => h2.1.1.resolve_left hn, ⟨h2.1.2.1.1, h2.1.2.1.2, h2.1.2.2⟩, fun hne => ?_⟩
  rcases h2.2 with h3 | h3
  · exact h3
  · exact absurd h3 hne
theorem flat_len6 (k : Nat) : ∀ l : List Nat, (∀ c ∈ l, c = 42 ∨ c ∈ al0) → (l.flatMap (look (tabL k))).length ≤ 6 * l.length
  | [], _ => by simp
  | c :: l, h => by
    have ih := flat_len6 k l fun d hd => h d (List.mem_cons_of_mem _ hd)
    have := (look_ok k c (h c (List.mem_cons_self ..))).2
    rw [List.flatMap_cons, List.length_append, List.length_cons]
    omega
theorem esc_mem {k : Nat} {l : List Nat} (h : ∀ c ∈ l, c = 42 ∨ c ∈ al0) {c : Nat} (hc : c ∈ escL k l) : (c ≠ 42 → dressC c = escRe c) ∧ c < 128 ∧ c ≠ 63 ∧ c ≠ 91 := by
  rw [esc_look] at hc
  obtain ⟨d, hd, hc⟩ := List.mem_flatMap.mp hc
  have := (look_ok k d (h d hd)).1 c hc
  exact ⟨this.1, this.2.1⟩
theorem esc_len {k : Nat} {l : List Nat} (h : ∀ c ∈ l, c = 42 ∨ c ∈ al0) : (escL k l).length ≤ 6 * l.length := by
  rw [esc_look]
  exact flat_len6 k l h
theorem splitL_mem : ∀ (p : List Nat) (r : List Nat), r ∈ splitL 42 p → r.length ≤ p.length ∧ ∀ c ∈ r, c ∈ p ∧ c ≠ 42
  | [], r, h => by
    have : r = [] := by simpa [splitL] using h
    subst this
    simp
  | a :: p, r, h => by
    obtain ⟨x, t, e⟩ := splitL_some 42 p
    have ih := splitL_mem p
    by_cases ha : a = 42
    · subst ha
      rw [splitL_sep] at h
      rcases List.mem_cons.mp h with rfl | h
      · simp
      · have := ih r h
        exact ⟨Nat.le_succ_of_le this.1, fun c hc => ⟨List.mem_cons_of_mem _ (this.2 c hc).1, (this.2 c hc).2⟩⟩
    · rw [splitL_char ha e] at h
      rw [e] at ih
      rcases List.mem_cons.mp h with rfl | h
      · have := ih x (List.mem_cons_self ..)
        refine ⟨by simpa using this.1, fun c hc => ?_⟩
        rcases List.mem_cons.mp hc with rfl | hc
        · exact ⟨List.mem_cons_self .., ha⟩
        · exact ⟨List.mem_cons_of_mem _ (this.2 c hc).1, (this.2 c hc).2⟩
      · have := ih r (List.mem_cons_of_mem _ h)
        exact ⟨Nat.le_succ_of_le this.1, fun c hc => ⟨List.mem_cons_of_mem _ (this.2 c hc).1, (this.2 c hc).2⟩⟩
theorem keepT_len : ∀ t : List (List Nat), (keepT t).length ≤ t.length
  | [] => Nat.le_refl _
  | [_] => Nat.le_refl _
  | a :: b :: t => by
    have ih := keepT_len (b :: t)
    rw [keepT_cons]
    split
    · exact Nat.le_succ_of_le ih
    · exact Nat.succ_le_succ ih
theorem runsL_mem (ps : List (List Nat)) (r : List Nat) (h : r ∈ runsL ps) : r ∈ ps := by
  cases ps with
  | nil => simp [runsL] at h
  | cons a t =>
    rw [runsL_cons] at h
    rcases List.mem_cons.mp h with rfl | h
    · exact List.mem_cons_self ..
    · exact List.mem_cons_of_mem _ (keepT_mem t r h)
theorem runsL_len (ps : List (List Nat)) : (runsL ps).length ≤ ps.length := by
  cases ps with
  | nil => simp [runsL]
  | cons a t =>
    rw [runsL_cons]
    exact Nat.succ_le_succ (keepT_len t)
theorem splitL_length : ∀ l : List Nat, (splitL 42 l).length ≤ l.length + 1
  | [] => by simp [splitL]
  | a :: r => by
    have ih := splitL_length r
    obtain ⟨x, t, e⟩ := splitL_some 42 r
    by_cases ha : a = 42
    · subst ha; rw [splitL_sep]; simp; omega
    · rw [splitL_char ha e]
      rw [e] at ih
      simp at ih ⊢
      omega
section
variable {p : List Nat}
theorem PatOk.al (h : PatOk p) {r : List Nat} (hr : r ∈ runsL (splitL 42 p)) : r.length ≤ 9 ∧ ∀ c ∈ r, c ∈ al0 := by
  have := splitL_mem p r (runsL_mem _ _ hr)
  refine ⟨Nat.le_trans this.1 h.1, fun c hc => ?_⟩
  obtain ⟨h1, h2⟩ := this.2 c hc
  rcases h.2.1 c h1 with h3 | h3
  · exact absurd h3 h2
  · exact h3
theorem flat_nil {k : Nat} {r : List Nat} (hr : ∀ c ∈ r, c ∈ al0) (h : r.flatMap (look (tabL k)) = []) : r = [] := by
  cases r with
  | nil => rfl
  | cons c r =>
    rw [List.flatMap_cons] at h
    exact absurd (List.append_eq_nil_iff.mp h).1 ((code_tab k).ne c (hr c (List.mem_cons_self ..)))
theorem runsK_eq (k : Nat) (h : PatOk p) : runsK k p = (runsL (splitL 42 p)).map fun r => r.flatMap (look (tabL k)) := by
  unfold runsK
  rw [readL_runs, esc_look, splitL_code (look_star k) p (fun c hc h42 hm => ((look_ok k c (h.2.1 c hc)).1 42 hm).2.2 h42 rfl), runsL_map]
  intro r hr
  refine flat_nil fun c hc => ?_
  obtain ⟨h1, h2⟩ := (splitL_mem p r hr).2 c hc
  rcases h.2.1 c h1 with h3 | h3
  · exact absurd h3 h2
  · exact h3
theorem law_tog (k : Nat) (h : PatOk p) : togL (runsK k p) = joinL (trL (escL k p)) := tog_read _ fun _ hc => (esc_mem h.2.1 hc).1
theorem law_unw (k : Nat) (h : PatOk p) : (runsK k p).map (unwL (tabL k)) = runsL (splitL 42 p) := by
  rw [runsK_eq k h, List.map_map]
  conv => rhs; rw [← List.map_id (runsL (splitL 42 p))]
  refine List.map_congr_left fun r hr => ?_
  exact unw_tab k r (h.al hr).2
theorem runs_two (q : List Nat) : ∃ h t, splitL 42 (q ++ [42, 38]) = h :: t ∧ t ≠ [] ∧ t.getLast? ≠ some [] := by
  induction q with
  | nil => exact ⟨[], [[38]], rfl, by simp, by simp⟩
  | cons a q ih =>
    obtain ⟨h, t, e, h1, h2⟩ := ih
    by_cases ha : a = 42
    · subst ha
      refine ⟨[], h :: t, by rw [List.cons_append, splitL_sep, e], by simp, ?_⟩
      cases t with
      | nil => exact absurd rfl h1
      | cons b t => rw [List.getLast?_cons_cons]; exact h2
    · exact ⟨a :: h, t, splitL_char ha e, h1, h2⟩
theorem law_fits (k : Nat) (h : PatOk p) {l : List Nat} (hl : ∀ c ∈ l, c ∈ al0) : fitsL (runsK k p) (escL k l) = takesL p l := by
  obtain ⟨q, hq⟩ := h.2.2
  obtain ⟨r, t, e, ht, hlast⟩ := runs_two q
  rw [← hq] at e
  have hal := fun x hx => h.al (r := x) hx
  rw [Bool.eq_iff_iff, takesL_iff, M_runs, runsK_eq k h, esc_look]
  rw [e, runsL_cons] at hal ⊢
  rw [List.map_cons, fitsL_iff _ _ _ (by simp [keepT_some t ht])]
  exact (code_tab k).df r (keepT t) l (hal r (List.mem_cons_self ..)).2 (fun x hx => ⟨keepT_full t hlast x hx, (hal x (List.mem_cons_of_mem _ hx)).2⟩) hl
theorem runsK_ne (k : Nat) (h : PatOk p) : runsK k p ≠ [] := by
  rw [runsK_eq k h]
  obtain ⟨x, t, e⟩ := splitL_some 42 p
  rw [e, runsL_cons]
  simp
theorem runsK_length (k : Nat) (h : PatOk p) : (runsK k p).length ≤ 10 := by
  rw [runsK_eq k h, List.length_map]
  have h1 := runsL_len (splitL 42 p)
  have h2 := splitL_length p
  have h3 := h.1
  omega
theorem runsK_small (k : Nat) (h : PatOk p) : ∀ r ∈ runsK k p, r.length ≤ 54 := by
  rw [runsK_eq k h]
  intro r hr
  obtain ⟨x, hx, rfl⟩ := List.mem_map.mp hr
  have h1 := h.al hx
  have := flat_len6 k x fun c hc => .inr (h1.2 c hc)
  omega
theorem pat_esc (k : Nat) (h : PatOk p) : (escL k p).length ≤ 54 := by
  have h1 := esc_len (k := k) h.2.1
  have := h.1
  omega
theorem join_len (k : Nat) (h : PatOk p) : (joinL (trL (escL k p))).length ≤ 1024 ∧ 7 ≤ (joinL (trL (escL k p))).length := by
  have h1 := jhead_bound (trL (escL k p)) (trL_small _)
  have h2 := trL_length (escL k p)
  have h3 := pat_esc k h
  unfold joinL
  simp only [List.length_append, List.length_cons, List.length_nil]
  omega
theorem NamOk.tail {l : List Nat} (h : NamOk l) : NamOk (l.drop 1) := ⟨by have := h.1; rw [List.length_drop]; omega, fun c hc => h.2 c (List.mem_of_mem_drop hc)⟩
theorem NamOk.rep (h : PatOk p) (r : List Nat) (hr : r = [98] ∨ r = []) : NamOk (rep1 42 r p) := by
  refine ⟨?_, fun c hc => ?_⟩
  · have := rep1_length 42 r 1 (Nat.le_refl _) (by rcases hr with rfl | rfl <;> simp) p
    have := h.1
    omega
  · unfold rep1 at hc
    obtain ⟨d, hd, hc⟩ := List.mem_flatMap.mp hc
    by_cases h42 : d = 42
    · rw [if_pos h42] at hc
      rcases hr with rfl | rfl
      · rw [List.mem_singleton.mp hc]; decide
      · simp at hc
    · rw [if_neg h42] at hc
      rw [List.mem_singleton.mp hc]
      exact (h.2.1 d hd).resolve_left h42
end
end Mine
set_option maxHeartbeats 4000000
namespace Mine
section
variable {M : Model} {A : Around} {E : Value → Shared → Prop} {s : Shared} {h₀ : Heap} {L C : Addr} {m : Str → Option Value} {env : Env} {scope : Scope} {cl : List (Str × Addr)} {x : Str} {v : Value} {Q : Value → Shared → Prop} {pos : Pos} {news : Led'} {c : Addr} {o : Obj}
theorem nameE_F (N : News h₀ L s.heap news) (hc : cl.lookup x = some c) (hm : (c, o) ∈ news) (hd : o.data = .cell (some v)) (h : Q v s)
    (hk : (compEnvC scope cl C env).scope.kind = .function := by rfl) (hx : (compEnvC scope cl C env).kindOf x = some .free := by rfl) (hb : (x == ("__debug__" : Str)) = false := by decide) (hn : (x == ("__classdict__" : Str)) = false := by decide) :
    wpAny M A (eval (.Name x pos) (compEnvC scope cl C env)) Q E s := wpAny_Name (wpAny_loadName_free hk hx hc ⟨o, N.get hm, hd⟩ h hn) hb
variable {K : Frag} {p : Program} {loose : List Str} {mg mb : Str → Option Value}
theorem nameE_B (F : Fr h₀ L s.heap m) (X : K.In h₀) (T : TopRead p loose mg mb h₀) (e : nsIn K mainGlobals x = some none) (hv : bootBuiltins x = some v) (hn : x ≠ "__name__") (h : Q v s)
    (hg : env.globals = mainGlobals := by rfl) (hbi : env.builtins = builtinsNs := by rfl) (hk : (compEnvC scope cl C env).scope.kind = .function := by rfl) (hx : (compEnvC scope cl C env).kindOf x = some .globalImplicit := by rfl) (hd : (x == ("__debug__" : Str)) = false := by decide) :
    wpAny M A (eval (.Name x pos) (compEnvC scope cl C env)) Q E s :=
  Name_function_global hk hx (loadGlobal_builtin (env := compEnvC scope cl C env) (by show s.heap.Ns env.globals _; rw [hg]; exact T.g.keeps F.keep) (mg_none_of X T.g e) (by show s.heap.Ns env.builtins _; rw [hbi]; exact T.b.keeps F.keep) ((T.builtins x hn).trans hv) h) hd
theorem tests_one {ts : Expr} {env : Env} {Q : Bool → Shared → Prop} (h : wpAny M A (isTrue ts env (eval ts env)) Q E s) : wpAny M A (testsOf [ts] env) Q E s := by
  unfold testsOf
  rw [List.forIn_cons]
  refine wpAny_bind ?_
  rw [if_pos rfl]
  refine wpAny_bind (wpAny_mono h (fun b s₁ h₁ => wpAny_pure ?_) fun _ _ e => e)
  dsimp only
  rw [List.forIn_nil]
  exact wpAny_pure h₁
theorem tests_nil {env : Env} {Q : Bool → Shared → Prop} (h : Q true s) : wpAny M A (testsOf [] env) Q E s := by
  unfold testsOf
  rw [List.forIn_nil]
  exact wpAny_pure h
theorem newList_P {vs : List Value} (h : Q (.ref s.heap.objs.size) { s with heap := s.heap.push (listOf vs.toArray 0) }) (hsz : vs.length ≤ sizeLine := by size_fits) : wpAny M A (newList vs) Q E s :=
  wpAny_newObj_type h (by show vs.toArray.size ≤ sizeLine; rw [List.size_toArray]; exact hsz)
end
theorem keep_push (h : Heap) (o : Obj) : Keep h (h.push o) := fun _ _ e => Heap.get?_push_of_some _ e
theorem keep_trans {h h' h'' : Heap} (k : Keep h h') (k' : Keep h' h'') : Keep h h'' := fun b o e => k' b o (k b o e)
theorem split_some (x y : Str) : Txt.split x y ≠ [] := by
  unfold Txt.split
  split
  · simp
  · split
    · simp
    · rw [StrLaws.partsBetween_eq]
      obtain ⟨p, r, e⟩ := StrLaws.partsFrom_ne x y.length 0 (Builtin.Str.occurrences x y 0 x.length (x.length + 1))
      rw [e]; simp
theorem strVals_txts : ∀ (lv : List (Str × Tok)) (xs : List (List Nat)), lv.map (·.1) = xs.map S → Txts (strValues lv) xs
  | [], [], _ => .nil
  | [], _ :: _, h => by simp at h
  | _ :: _, [], h => by simp at h
  | (x, t) :: lv, y :: xs, h => by
    simp only [List.map_cons, List.cons.injEq] at h
    have e : x = S y := h.1
    subst e
    exact .cons (strVals_txts lv xs h.2)
theorem splitL_len (c : Nat) : ∀ l : List Nat, (splitL c l).length ≤ l.length + 1
  | [] => by simp [splitL]
  | a :: r => by
    have ih := splitL_len c r
    unfold splitL
    split
    · simp; omega
    · split
      · rename_i e; rw [e] at ih; simp at ih ⊢; omega
      · simp
end Mine
set_option maxHeartbeats 4000000
namespace Mine
theorem Txts.carried {vs : List Value} {xs : List (List Nat)} (h : Txts vs xs) : CarriedAll vs (xs.map fun x => PyData.str (S x)) := by
  induction h with
  | nil => exact .nil
  | cons _ ih => exact .cons (.str _ _) ih
theorem bools_carried : ∀ bs : List Bool, CarriedAll (bs.map Value.bool) (bs.map PyData.bool)
  | [] => .nil
  | b :: bs => .cons (.bool b) (bools_carried bs)
theorem lay_strs : ∀ xs : List (List Nat), (∀ x ∈ xs, PyData.strOk (S x) = true) → PyData.canLayAll0 (xs.map fun x => PyData.str (S x)) = true ∧ PyData.depthAll (xs.map fun x => PyData.str (S x)) = 0
  | [], _ => ⟨rfl, rfl⟩
  | x :: r, h => by
    have := lay_strs r fun y hy => h y (List.mem_cons_of_mem _ hy)
    simp [PyData.canLayAll0, PyData.canLay0, PyData.depthAll, PyData.depth, this.1, this.2, h x (List.mem_cons_self ..)]
theorem lay_bools : ∀ xs : List Bool, PyData.canLayAll0 (xs.map PyData.bool) = true ∧ PyData.depthAll (xs.map PyData.bool) = 0
  | [] => ⟨rfl, rfl⟩
  | _ :: r => by
    have := lay_bools r
    simp [PyData.canLayAll0, PyData.canLay0, PyData.depthAll, PyData.depth, this.1, this.2]
theorem shaped_strs (xs : List (List Nat)) (h : ∀ x ∈ xs, PyData.strOk (S x) = true) : SeqAt.shaped (.list (xs.map fun x => PyData.str (S x))) = true := by
  simp [SeqAt.shaped, PyData.canLay0, PyData.depth, (lay_strs xs h).1, (lay_strs xs h).2]
theorem shaped_bools (xs : List Bool) : SeqAt.shaped (.list (xs.map PyData.bool)) = true := by
  simp [SeqAt.shaped, PyData.canLay0, PyData.depth, (lay_bools xs).1, (lay_bools xs).2]
theorem same_strs : ∀ xs ys : List (List Nat), PySem.Spec.sameAll (xs.map fun x => PyData.str (S x)) (ys.map fun x => PyData.str (S x)) = decide (xs = ys)
  | [], [] => by simp [PySem.Spec.sameAll]
  | [], _ :: _ => by simp [PySem.Spec.sameAll]
  | _ :: _, [] => by simp [PySem.Spec.sameAll]
  | a :: r, b :: t => by
    have e : decide (S a = S b) = decide (a = b) := by
      by_cases h : a = b
      · simp [h]
      · have : ¬ S a = S b := fun q => h (S_inj q)
        simp [h, this]
    simp only [List.map_cons, PySem.Spec.sameAll, PySem.Spec.same, same_strs r t]
    by_cases h : a = b
    · subst h
      by_cases h' : r = t <;> simp [h']
    · have : ¬ S a = S b := fun q => h (S_inj q)
      simp [h, this]
theorem same_bools : ∀ xs ys : List Bool, PySem.Spec.sameAll (xs.map PyData.bool) (ys.map PyData.bool) = decide (xs = ys)
  | [], [] => by simp [PySem.Spec.sameAll]
  | [], _ :: _ => by simp [PySem.Spec.sameAll]
  | _ :: _, [] => by simp [PySem.Spec.sameAll]
  | a :: r, b :: t => by
    simp only [List.map_cons, PySem.Spec.sameAll, PySem.Spec.same, same_bools r t]
    by_cases h : a = b <;> by_cases h' : r = t <;> simp [h, h']
section
variable {prog : Program} {w : World} {A : Around} {E : Value → Shared → Prop} {s : Shared} {a b : Addr} {vs us : List Value} {n k : Nat} {Q : Value → Shared → Prop}
theorem ne_txts {xs ys : List (List Nat)} (ha : s.heap.get? a = some (listOf vs.toArray n)) (hb : s.heap.get? b = some (listOf us.toArray k)) (hv : Txts vs xs) (hw : Txts us ys) (hx : ∀ x ∈ xs, PyData.strOk (S x) = true) (hy : ∀ x ∈ ys, PyData.strOk (S x) = true) (hu : A.units + 64 < cLine) (h : Q (.bool (!decide (xs = ys))) s) :
    wpAny (model prog w) A (compareOp .NotEq (.ref a) (.ref b)) Q E s :=
  ne_dataH_same (reads_newData ⟨_, ha, rfl, _, rfl⟩ hv.carried) (reads_newData ⟨_, hb, rfl, _, rfl⟩ hw.carried) (shaped_strs _ hx) (shaped_strs _ hy) hu (SeqAt.noMix_of_shape (.list .str) rfl _ _ (list_map_has fun _ => rfl) (list_map_has fun _ => rfl)) (by simp only [PySem.Spec.same]; rw [same_strs]; exact h)
theorem ne_bools {xs ys : List Bool} (ha : s.heap.get? a = some (listOf (xs.map Value.bool).toArray n)) (hb : s.heap.get? b = some (listOf (ys.map Value.bool).toArray k)) (hu : A.units + 64 < cLine) (h : Q (.bool (!decide (xs = ys))) s) :
    wpAny (model prog w) A (compareOp .NotEq (.ref a) (.ref b)) Q E s :=
  ne_dataH_same (reads_newData ⟨_, ha, rfl, _, rfl⟩ (bools_carried _)) (reads_newData ⟨_, hb, rfl, _, rfl⟩ (bools_carried _)) (shaped_bools _) (shaped_bools _) hu (SeqAt.noMix_of_shape (.list .bool) rfl _ _ (list_map_has fun _ => rfl) (list_map_has fun _ => rfl)) (by simp only [PySem.Spec.same]; rw [same_bools]; exact h)
end
end Mine
set_option maxHeartbeats 4000000
namespace Mine
section
variable {w : World} {p : Program} {loose : List Str} {mean : ExcName → Option Value} {mg mb : Str → Option Value}
theorem does_runs (l : List Nat) (t : Tok) (hl : l.length ≤ 64) :
    Does w p loose mean mg mb 2 156 [.str (S l) t] (fun _ => True) (fun r g h' => ∃ d vs n, r = .ref d ∧ h'.get? d = some (listOf vs.toArray n) ∧ g.get? d = none ∧ Txts vs (runsL (splitL 42 l))) := by
  refine does_of ?_
  unfold Does0
  k_fill
  intro dp un gd cn cs a ccd cl outer A₀ base h₀ L m g s Q E hs B F X T hk hp ht hd hu hret
  refine wpAny_call ?_
  refine' my_defC (binds := [(Str.ofString "pattern", .str (S l) t)]) hs B F X T ?kA ?kF ?kK ?k6 ?k7 ?k8 ?k9 ?kB ?kC ?_ ?c2 ?c3 ?c4; (case kA => exact rfl); (case kF => exact rfl); (case kK => exact hk); (case k6 => k_is); (case k7 => k_is); (case k8 => ktr_room); (case k9 => exact BindsTo.of_eq rfl); (case kB => exact rfl); (case kC => decide); (case c2 => exact rfl); (case c3 => exact rfl); (case c4 => exact rfl)
  intro L' h' tk1 cells F' N' Y B' X' T' htk1
  obtain ⟨oc, rfl, hoc⟩ := CellsAre.one (n := Str.ofString "pieces") (c := L' + 1) Y
  refine wpAny_execs_cons (wpAny_Assign_Name (MethodCall_ (nameX_L F' rfl (GM.split (callWith_method1 (args_cons (Calls.Constant_str (args_nil ?_))))))))
  rw [show Str.ofString "*" = S [42] from by decide +kernel]
  refine wpAny_with_toks (n := 1) (show 1 ≤ tk1 + 1 from Nat.le_add_left 1 tk1) (splitN1 F' N' rfl (fun lv h2 k2 hlv F2 N2 => ?_) (by rw [S_length, sizeLine_eq]; omega))
  intro hk2
  dsimp only at hk2 N2 ⊢
  have hlt : L' + 1 < h'.objs.size := Heap.lt_size (N' _ (.head _)).1
  generalize h'.objs.size = pl at N2 hlt ⊢
  refine storeX_C F2 N2 rfl (UpdF.tail (Nat.ne_of_gt hlt) (UpdF.head (fun _ h => nomatch h))) hoc (fun h3 o' F3 N3 ho' => ?_) rfl rfl
  dsimp only
  refine wpAny_execs_cons (wpAny_Return_some ?_)
  rw [split_S 42 l (split_some _ _)] at hlv
  have htx := strVals_txts lv (splitL 42 l) hlv
  generalize strValues lv = pv at N3 htx
  have hpn : (splitL 42 l).length ≤ 65 := by have := splitL_len 42 l; omega
  have TR := topRead_of T'
  refine list_range (cl := [(Str.ofString "pieces", L' + 1)]) (h₀ := g) (L := L') (n := (splitL 42 l).length) F3 N3 (fun Q E h => ?_) (by omega) hk2 (fun k => decide (k = 0 ∨ k = (splitL 42 l).length - 1 ∨ (splitL 42 l)[k]? ≠ some [])) (fun k y => ∃ t, y = .str (S ((splitL 42 l).getD k [])) t) ?_ ?_ ?_
  · refine Call_ (nameX_B F3 X' TR (by k_is) (by boot_by_name) (by decide) (callWith_type1 (args_cons (Call_ (nameX_B F3 X' TR (by k_is) (by boot_by_name) (by decide) (callWith_builtin1 (args_cons (nameX_C N3 rfl (.tail _ (.head _)) ho' (args_nil ?_)))))))))
    refine len_list (items := pv.toArray) ⟨_, N3.get (.head _), rfl, _, rfl⟩ (by rw [List.size_toArray, htx.len]; omega) (args_nil (call_range_1 ?_))
    rw [show pv.toArray.size = (splitL 42 l).length from by rw [List.size_toArray, htx.len]]
    exact h _ _ _ _ _ _ (IsRange.new _ _ _ _ _ _ _) (F3.push _) (fun p hp => ⟨Heap.get?_push_of_some _ (N3 p hp).1, (N3 p hp).2⟩) (keep_push _ _) (by (try dsimp only); omega)
  · intro C i u s4 m4 E4 hi hn hx F4 N4 ht4
    have hpi : (splitL 42 l)[i]? = some (splitL 42 l)[i] := List.getElem?_eq_getElem hi
    generalize (splitL 42 l)[i] = x at hpi
    obtain ⟨tv, hv⟩ := htx.get hpi
    refine tests_one (isTrue_or (wpAny_isTrue_Compare1 (nameE_L hn hx (List_ (args_cons (wpAny_Constant_int (args_cons (wpAny_BinOp (Call_ (nameE_B F4 X' TR (by k_is) (by boot_by_name) (by decide) (callWith_builtin1 (args_cons (nameE_C N4 rfl (.tail _ (.head _)) ho' (args_nil ?_))))))))))))))
    refine len_list (items := pv.toArray) ⟨_, N4.get (.head _), rfl, _, rfl⟩ (by rw [List.size_toArray, htx.len]; omega) (wpAny_Constant_int ?_)
    rw [show pv.toArray.size = (splitL 42 l).length from by rw [List.size_toArray, htx.len]]
    refine sub_int (args_nil (newList_P (in_list_ints ⟨_, Heap.get?_push_size _ rfl, rfl, _, rfl⟩ (.cons _ _ (.cons _ _ .nil)) (wpAny_truthy_bool ?_)) (by simp [sizeLine_eq])))
    have e1 : ([(0 : Int), ((splitL 42 l).length : Int) - 1].any (· == (i : Int))) = decide (i = 0 ∨ i = (splitL 42 l).length - 1) := by
      rw [Bool.eq_iff_iff]
      simp only [List.any_cons, List.any_nil, Bool.or_false, Bool.or_eq_true, beq_iff_eq, decide_eq_true_eq]
      omega
    rw [e1]
    by_cases h1 : i = 0 ∨ i = (splitL 42 l).length - 1
    · rw [if_pos (by simpa using h1)]
      exact ⟨(decide_eq_true (by rcases h1 with h1 | h1; exact .inl h1; exact .inr (.inl h1))).symm, _, _, rfl, keep_push _ _⟩
    · rw [if_neg (by simpa using h1)]
      refine isTrue_or (wpAny_isTrue_Compare1 (Subscript_ (nameE_C (h₀ := g) (L := L') (news := [(pl, listOf pv.toArray 0), (L' + 1, o')]) (fun p hp => ⟨Heap.get?_push_of_some _ (N4 p hp).1, (N4 p hp).2⟩) rfl (.tail _ (.head _)) ho' (nameE_L (hn.push _) hx (item_L (k := i) (Heap.get?_push_of_some _ (N4.get (.head _))) (by rw [htx.len]; omega) hv (Calls.Constant_str (ne_str (wpAny_truthy_bool ?_))))))))
      rw [show Str.ofString "" = S [] from rfl, bne, S_beq]
      by_cases h2 : x = []
      · rw [if_neg (by simp [h2])]
        refine isTrue_or_nil ⟨(decide_eq_false ?_).symm, _, _, rfl, keep_push _ _⟩
        rintro (h3 | h3 | h3)
        · exact h1 (.inl h3)
        · exact h1 (.inr h3)
        · exact h3 (by rw [hpi, h2])
      · rw [if_pos (by simp [h2])]
        refine ⟨(decide_eq_true (.inr (.inr ?_))).symm, _, _, rfl, keep_push _ _⟩
        rw [hpi]
        simpa using h2
  · intro C i u s4 m4 E4 hi hpp hn hx F4 N4 ht4
    have hpi : (splitL 42 l)[i]? = some (splitL 42 l)[i] := List.getElem?_eq_getElem hi
    generalize (splitL 42 l)[i] = x at hpi
    obtain ⟨tv, hv⟩ := htx.get hpi
    refine Subscript_ (nameE_C N4 rfl (.tail _ (.head _)) ho' (nameE_L hn hx (item_L (k := i) (N4.get (.head _)) (by rw [htx.len]; omega) hv ⟨⟨tv, ?_⟩, _, _, rfl, fun _ _ e => e⟩)))
    rw [List.getD_eq_getElem?_getD, hpi]
    rfl
  · intro D h5 tk5 ys k5 htk5 F5 N5 hp5 hkp5
    refine hret _ _ _ F5.keep ⟨D, ys, k5, rfl, N5.get (.head _), (N5 _ (.head _)).2.2, ?_⟩
    exact paired_txts (f := fun k => (splitL 42 l).getD k []) hp5 fun _ _ h => h
end
end Mine
set_option maxHeartbeats 4000000
namespace Mine
noncomputable abbrev bl (r : List Bool) : Array Value := (r.map Value.bool).toArray
theorem bl_push (r : List Bool) (b : Bool) : (bl r).push (.bool b) = bl (r ++ [b]) := by simp [bl]
theorem bools_paired {f : Nat → Bool} : ∀ (ks : List Nat) (ys : List Value), Paired (fun k y => y = .bool (f k)) ks ys → ys = (ks.map f).map Value.bool
  | [], _, h => by cases h; rfl
  | k :: ks, _, h => by
    cases h with
    | cons h1 h2 => rw [h1, bools_paired ks _ h2]; rfl
theorem range_zip {row : List Bool} {l : List Nat} {c : Nat} (h : row.length = l.length + 1) : (List.range l.length).map (fun k => row.getD k false && (l.getD k 0 == c)) = List.zipWith (fun b x => b && x == c) row l := by
  refine List.ext_getElem (by simp [h]) fun i h1 h2 => ?_
  have hi : i < l.length := by simpa using h1
  have hr : i < row.length := by omega
  simp [hi, hr]
theorem stepL_length {l : List Nat} {row : List Bool} {c : Nat} (h : row.length = l.length + 1) : (stepL l row c).length = l.length + 1 := by
  unfold stepL
  split
  · rw [orScan_length, h]
  · rw [List.length_cons, List.length_zipWith, h]; omega
theorem fold_length {l : List Nat} : ∀ (p : List Nat) (row : List Bool), row.length = l.length + 1 → (p.foldl (stepL l) row).length = l.length + 1
  | [], _, h => h
  | _ :: p, _, h => fold_length p _ (stepL_length h)
theorem fold_take {l : List Nat} {row : List Bool} {p : List Nat} {i c : Nat} (h : p[i]? = some c) : (p.take (i + 1)).foldl (stepL l) row = stepL l ((p.take i).foldl (stepL l) row) c := by
  rw [List.take_add_one, h]
  simp
theorem orScan_at : ∀ (row : List Bool) (s b : Bool) (j : Nat), row[j]? = some b → (orScan s row)[j]? = some ((s || (row.take j).any id) || b)
  | [], _, _, _, h => by simp at h
  | a :: row, s, b, 0, h => by
    have : a = b := by simpa using h
    subst this
    simp [orScan]
  | a :: row, s, b, j + 1, h => by
    have := orScan_at row (s || a) b j (by simpa using h)
    rw [orScan, List.getElem?_cons_succ, this]
    simp [Bool.or_assoc]
theorem CellsAre.three' {cm : Str → Option Value} {n₁ n₂ n₃ : Str} {c₁ c₂ c₃ : Addr} {cells : List (Addr × Obj)} (x : CellsAre cm [(n₁, c₁), (n₂, c₂), (n₃, c₃)] cells) :
    ∃ o₁ o₂ o₃, cells = [(c₁, o₁), (c₂, o₂), (c₃, o₃)] ∧ o₁.data = .cell (cm n₁) ∧ o₂.data = .cell (cm n₂) ∧ o₃.data = .cell (cm n₃) := by
  cases x with | cons h r => obtain ⟨o₂, o₃, rfl, h2, h3⟩ := r.two; exact ⟨_, o₂, o₃, rfl, h, h2, h3⟩
theorem ne_far {a b : Nat} (k : Nat) (h : b + 3 < a) (hk : k ≤ 3) : a ≠ b + k := by omega
section
variable {M : Model} {A : Around} {E : Value → Shared → Prop} {s : Shared} {h₀ : Heap} {L a : Addr} {m : Str → Option Value} {cn : Str} {cs : Scope} {ccd : Value} {cl : List (Str × Addr)}
theorem or_names {x y : Str} {b c : Bool} {p1 p2 pos : Pos} {Q : Value → Shared → Prop} (F : Fr h₀ L s.heap m) (hb : m x = some (.bool b)) (hc : m y = some (.bool c)) (h : Q (.bool (b || c)) s)
    (hk : cs.kind = .function := by rfl) (hx : (envX cn cs L a ccd cl).kindOf x = some .local := by rfl) (hx' : (x == ("__debug__" : Str)) = false := by decide)
    (hy : (envX cn cs L a ccd cl).kindOf y = some .local := by rfl) (hy' : (y == ("__debug__" : Str)) = false := by decide) :
    wpAny M A (eval (.BoolOp .Or [.Name x p1, .Name y p2] pos) (envX cn cs L a ccd cl)) Q E s := by
  refine BoolOp_or (nameX_L F hb (wpAny_truthy_bool ?_) hk hx hx')
  cases b
  · exact BoolOp_one (nameX_L F hc h hk hy hy')
  · exact h
end
theorem orScan_take {row : List Bool} {j : Nat} {b : Bool} (h : row[j]? = some b) : (orScan false row).take (j + 1) = (orScan false row).take j ++ [(row.take j).any id || b] := by
  rw [List.take_add_one, orScan_at row false b j h]
  simp
theorem any_take {row : List Bool} {j : Nat} {b : Bool} (h : row[j]? = some b) : (row.take (j + 1)).any id = ((row.take j).any id || b) := by
  rw [List.take_add_one, h]
  simp
/-- the state of _law_takes -/
noncomputable def TkN (L' rl : Addr) (row : List Bool) (n : Nat) (o1 o2 o3 : Obj) : Led' := [(rl, listOf (bl row) n), (L' + 3, o3), (L' + 2, o2), (L' + 1, o1)]
section
variable {w : World} {p : Program} {loose : List Str} {mean : ExcName → Option Value} {mg mb : Str → Option Value}
theorem does_takes (pt l : List Nat) (t u : Tok) (hpl : pt.length ≤ 64) (hl : l.length ≤ 64) :
    Does w p loose mean mg mb 2 168 [.str (S pt) t, .str (S l) u] (fun _ => True) (fun r g h' => r = .bool (takesL pt l)) := by
  refine does_of ?_
  unfold Does0
  k_fill
  intro dp un gd cn cs a ccd cl outer A₀ base h₀ L m g s Q E hs B F X T hk hp ht hd hu hret
  refine wpAny_call ?_
  refine' my_defC (binds := [(Str.ofString "pattern", .str (S pt) t), (Str.ofString "name", .str (S l) u)]) hs B F X T ?kA ?kF ?kK ?k6 ?k7 ?k8 ?k9 ?kB ?kC ?_ ?c2 ?c3 ?c4; (case kA => exact rfl); (case kF => exact rfl); (case kK => exact hk); (case k6 => k_is); (case k7 => k_is); (case k8 => ktr_room); (case k9 => exact BindsTo.of_eq rfl); (case kB => exact rfl); (case kC => decide); (case c2 => exact rfl); (case c3 => exact rfl); (case c4 => exact rfl)
  intro L' h1 tk1 cells F1 N1 Y B' X' T' htk1
  obtain ⟨o3, o2, o1, rfl, ho3, ho2, ho1⟩ := CellsAre.three' (n₁ := Str.ofString "part") (c₁ := L' + 3) (n₂ := Str.ofString "row") (c₂ := L' + 2) (n₃ := Str.ofString "name") (c₃ := L' + 1) Y
  have TR := topRead_of T'
  have n32 : L' + 3 ≠ L' + 2 := by show @Ne Nat _ _; omega
  have n12 : L' + 1 ≠ L' + 2 := by show @Ne Nat _ _; omega
  have n23 : L' + 2 ≠ L' + 3 := by show @Ne Nat _ _; omega
  have n13 : L' + 1 ≠ L' + 3 := by show @Ne Nat _ _; omega
  have hlt3 : L' + 3 < h1.objs.size := Heap.lt_size (N1 _ (.head _)).1
  refine wpAny_execs_cons (wpAny_Assign_Name (wpAny_BinOp (List_ (args_cons (wpAny_Constant_bool (args_nil (newList_K F1 N1 (fun rt h2 F2 N2 hr2 => ?_))))))))
  refine wpAny_BinOp (List_ (args_cons (wpAny_Constant_bool (args_nil (newList_K F2 N2 (fun rf h3 F3 N3 hr3 => ?_))))))
  refine Call_ (nameX_B F3 X' TR (by k_is) (by boot_by_name) (by decide) (callWith_builtin1 (args_cons (nameX_C N3 rfl (.tail _ (.tail _ (.tail _ (.tail _ (.head _))))) ho1 (args_nil ?_)))))
  refine P.len_str (by rw [S_length]; omega) ?_
  rw [S_length]
  refine mul_list_is (ds := [PyData.bool false]) F3 N3 ⟨_, N3.get (.head _), rfl, _, rfl⟩ (.cons (.bool false) .nil) (by omega) (by omega) (by simp; omega) (fun h4 F4 N4 hne4 hl4 _ => ?_)
  have hrep : (List.replicate ((l.length : Int)).toNat [Value.bool false]).flatten = (List.replicate l.length false).map Value.bool := by
    rw [Int.toNat_natCast]
    induction l.length with
    | zero => rfl
    | succ n ih => rw [List.replicate_succ, List.flatten_cons, ih, List.replicate_succ]; rfl
  rw [hrep] at hl4
  refine add_arrays F4 N4 ⟨_, N4.get (.tail _ (.head _)), rfl, _, rfl⟩ hl4 (fun h5 F5 N5 => ?_) (by simp [sizeLine_eq]; omega)
  have hlt5 : L' + 3 < h4.objs.size := Heap.lt_size (N4 _ (.tail _ (.tail _ (.head _)))).1
  dsimp only at N5 ⊢
  generalize h4.objs.size = rl at N5 hlt5 ⊢
  have N6 : News g L' h5 (TkN L' rl (true :: List.replicate l.length false) 0 o1 o2 o3) := fun q hq => by
    rcases List.mem_cons.mp hq with rfl | hq
    · exact N5 _ (.head _)
    · exact N5 q (.tail _ (.tail _ (.tail _ hq)))
  refine storeX_C F5 N6 rfl (UpdF.tail (ne_far 2 hlt5 (by decide)) (UpdF.tail n32 (UpdF.head (fun q hq => by rw [List.mem_singleton.mp hq]; exact n12)))) ho2 (fun h7 o2' F7 N7 ho2' => ?_) rfl rfl
  clear N6 N5 hl4 N4 F4 N3 F3 N2 F2 F5 hne4 ho2
  dsimp only
  refine wpAny_execs_cons (wpAny_For (nameX_L F7 rfl ?_))
  refine for_str (h₀ := g) (L := L') rfl F7 N7 (by (try dsimp only); omega)
    (fun i m₁ nx => ∃ rl n o1 o2 o3, nx = TkN L' rl ((pt.take i).foldl (stepL l) (true :: List.replicate l.length false)) n o1 o2 o3 ∧ o1.data = .cell (some (.str (S l) u)) ∧ o2.data = .cell (some (.ref rl)) ∧ (∃ v, o3.data = .cell v) ∧ L' + 3 < rl)
    ⟨rl, 0, o1, o2', o3, rfl, ho1, ho2', ⟨_, ho3⟩, hlt5⟩ ?_ ?_
  · rintro i c tc m₁ news₁ oI h8 tk8 hi hc ⟨rl, n, o1, o2, o3, rfl, ho1, ho2, ⟨v3, ho3⟩, hrl⟩ htk8 hnI F8 N8
    have hci : pt[i]? = some c := by
      have e' : (S pt).cps[i]? = some c := hc
      have e'' : pt.toArray[i]? = some c := e'
      simpa using e''
    rw [fold_take hci]
    have hrow := fold_length (l := l) (pt.take i) (true :: List.replicate l.length false) (by simp)
    generalize (pt.take i).foldl (stepL l) (true :: List.replicate l.length false) = row at N8 hnI hrow ⊢
    generalize h7.objs.size = I at N8 hnI ⊢
    have hI3 := hnI _ (.tail _ (.head _))
    have hI2 := hnI _ (.tail _ (.tail _ (.head _)))
    have hI1 := hnI _ (.tail _ (.tail _ (.tail _ (.head _))))
    have hIr := hnI _ (.head _)
    dsimp only at hI1 hI2 hI3 hIr
    refine wpAny_assign_Name (storeX_C F8 N8 rfl (UpdF.tail (Ne.symm hI3) (UpdF.tail (ne_far 3 hrl (by decide)) (UpdF.head (fun q hq => by rcases List.mem_cons.mp hq with rfl | hq; exact n23; rw [List.mem_singleton.mp hq]; exact n13)))) ho3 (fun h9 o3' F9 N9 ho3' => ?_) rfl rfl)
    refine wpAny_execs_cons (wpAny_Assign_Name (List_ (args_nil (newList_K F9 N9 (fun al h10 F10 N10 hal => ?_)))))
    refine storeX_L F10 N10 (fun h11 F11 N11 => ?_) rfl rfl
    have hal1 := hal _ (.head _)
    have hal2 := hal _ (.tail _ (.head _))
    dsimp only at hal1 hal2 ⊢
    refine wpAny_execs_cons (wpAny_mono (Q := fun fl s' => fl = .next ∧ ∃ h5 tk5 m5 al na, s' = { s with heap := h5, toks := tk5 } ∧ 1 ≤ tk5 ∧ Fr g L' h5 m5 ∧ m5 "after" = some (.ref al) ∧ L' + 3 < al ∧ I < al ∧ rl < al ∧
      News g L' h5 ((al, listOf (bl (stepL l row c)) na) :: (I, oI) :: TkN L' rl row n o1 o2 o3')) ?_ ?_ fun _ _ e => e)
    · refine wpAny_If (wpAny_isTrue_Compare1 (nameX_C N11 rfl (.tail _ (.tail _ (.tail _ (.head _)))) ho3' (Calls.Constant_str (eq_str (wpAny_truthy_bool ?_)))))
      rw [show Str.ofString "*" = S [42] from by decide +kernel, show (⟨#[c]⟩ : Str) = S [c] from rfl, S_beq]
      by_cases hc42 : c = 42
      · rw [if_pos (by simp [hc42])]
        refine wpAny_execs_cons (wpAny_Assign_Name (wpAny_Constant_bool (storeX_L F11 N11 (fun h12 F12 N12 => ?_) rfl rfl)))
        dsimp only
        refine wpAny_execs_cons (wpAny_For (nameX_C N12 rfl (.tail _ (.tail _ (.tail _ (.tail _ (.head _))))) ho2 ?_))
        have N13 : News g L' h12 (((I, oI) :: TkN L' rl row n o1 o2 o3') ++ [(al, listOf (bl []) 0)]) := fun q hq => by
          rcases List.mem_append.mp hq with hq | hq
          · exact N12 q (.tail _ hq)
          · rw [List.mem_singleton.mp hq]
            exact N12 _ (.head _)
        have hst : stepL l row c = orScan false row := by unfold stepL; rw [if_pos hc42]
        refine for_list (h₀ := g) (L := L') (l := rl) (items := bl row) (imm := (I, oI) :: TkN L' rl row n o1 o2 o3') (news := [(al, listOf (bl []) 0)]) rfl ⟨_, N12.get (.tail _ (.tail _ (.head _))), rfl, _, rfl⟩ (.inr ⟨_, .tail _ (.head _)⟩) F12 N13 (by (try dsimp only); omega)
          (fun j m₂ nx => ∃ na, nx = [(al, listOf (bl ((orScan false row).take j)) na)] ∧ m₂ "after" = some (.ref al) ∧ m₂ "seen" = some (.bool ((row.take j).any id))) ⟨0, rfl, rfl, rfl⟩ ?_ ?_
        · rintro j v m₂ nx₂ oI2 h13 tk13 hj hv ⟨na, rfl, hm1, hm2⟩ htk13 hnI2 F13 N13
          have hjr : j < row.length := by simpa [bl] using hj
          have hb : row[j]? = some row[j] := List.getElem?_eq_getElem hjr
          generalize row[j] = b at hb
          have hvb : v = .bool b := by
            have hv' : ((row.map Value.bool).toArray)[j]? = some v := hv
            rw [List.getElem?_toArray, List.getElem?_map, hb] at hv'
            exact (Option.some.inj hv').symm
          subst hvb
          generalize h12.objs.size = I2 at hnI2 N13 ⊢
          have hI2a := hnI2 _ (.head _)
          dsimp only at hI2a
          refine wpAny_assign_Name (storeX_L F13 N13 (fun h14 F14 N14 => ?_) rfl rfl)
          refine wpAny_execs_cons (wpAny_Assign_Name (or_names F14 hm2 rfl ?_))
          refine storeX_L F14 N14 (fun h15 F15 N15 => ?_) rfl rfl
          dsimp only
          have N16 : News g L' h15 ((al, listOf (bl ((orScan false row).take j)) na) :: (I2, oI2) :: ((I, oI) :: TkN L' rl row n o1 o2 o3')) := fun q hq => by
            rcases List.mem_cons.mp hq with rfl | hq
            · exact N15 _ (.tail _ (List.mem_append_right _ (.head _)))
            · rcases List.mem_cons.mp hq with rfl | hq
              · exact N15 _ (.head _)
              · exact N15 q (.tail _ (List.mem_append_left _ hq))
          refine wpAny_execs_cons (wpAny_Expr_any (MethodCall_ (nameX_L F15 hm1 (listMethod_K N16 (.head _) PySem.F.slot_list_append PySem.F.type_list_append (callWith_method1 (args_cons (nameX_L F15 rfl (args_nil ?_))))))))
          refine append_first F15 N16 (fun q hq => ?_) (fun h17 F17 N17 => ?_) (by simp only [bl, List.size_toArray, List.length_map, List.length_take, orScan_length, sizeLine_eq]; omega)
          · rcases List.mem_cons.mp hq with rfl | hq
            · exact Ne.symm hI2a
            · exact Nat.ne_of_lt (hal q hq)
          · rw [bl_push, ← orScan_take hb] at N17
            refine wpAny_execs_nil (TurnEnd.go (news' := [(al, listOf (bl ((orScan false row).take (j + 1))) (na + 1))]) (by (try dsimp only); omega) F17 (fun q hq => ?_) (fun q hq => ?_) ⟨na + 1, rfl, hm1, ?_⟩)
            · rcases List.mem_append.mp hq with hq | hq
              · exact N17 q (.tail _ hq)
              · rw [List.mem_singleton.mp hq]
                exact N17 _ (.head _)
            · rw [List.mem_singleton.mp hq]
              exact hI2a
            · rw [any_take hb]
              rfl
        · rintro h13 tk13 m13 nx htk13 F13 N13 ⟨na, rfl, hm1, hm2⟩
          refine wpAny_execs_nil ⟨rfl, h13, tk13, m13, al, na, rfl, htk13, F13, hm1, ?_, hal1, hal2, fun q hq => ?_⟩
          · exact hal _ (.tail _ (.tail _ (.head _)))
          · rw [hst] at hq
            have e1 : (orScan false row).take (bl row).size = orScan false row := by
              rw [List.take_of_length_le (by simp [bl, orScan_length])]
            rw [e1] at N13
            rcases List.mem_cons.mp hq with rfl | hq
            · exact N13 _ (List.mem_append_right _ (.head _))
            · exact N13 q (List.mem_append_left _ hq)
      · rw [if_neg (by simp [hc42])]
        have hst : stepL l row c = false :: List.zipWith (fun b x => b && x == c) row l := by unfold stepL; rw [if_neg hc42]
        refine wpAny_execs_cons (wpAny_Assign_Name (wpAny_BinOp (List_ (args_cons (wpAny_Constant_bool (args_nil (newList_K F11 N11 (fun rf h12 F12 N12 hrf => ?_))))))))
        refine list_range (cl := [(Str.ofString "row", L' + 2), (Str.ofString "part", L' + 3), (Str.ofString "name", L' + 1)]) (h₀ := g) (L := L') (n := l.length) F12 N12 (fun Q E h => ?_) (by omega) (by (try dsimp only); omega) (fun _ => true) (fun k y => y = .bool (row.getD k false && (l.getD k 0 == c))) ?_ ?_ ?_
        · refine Call_ (nameX_B F12 X' TR (by k_is) (by boot_by_name) (by decide) (callWith_type1 (args_cons (Call_ (nameX_B F12 X' TR (by k_is) (by boot_by_name) (by decide) (callWith_builtin1 (args_cons (nameX_C N12 rfl (.tail _ (.tail _ (.tail _ (.tail _ (.tail _ (.tail _ (.head _))))))) ho1 (args_nil ?_)))))))))
          refine P.len_str (by rw [S_length]; omega) ?_
          rw [S_length]
          refine args_nil (call_range_1 ?_)
          exact h _ _ _ _ _ _ (IsRange.new _ _ _ _ _ _ _) (F12.push _) (fun p hp => ⟨Heap.get?_push_of_some _ (N12 p hp).1, (N12 p hp).2⟩) (keep_push _ _) (by (try dsimp only); omega)
        · intro C k uk s4 m4 E4 hk hn hx F4 N4 ht4
          exact tests_nil ⟨rfl, _, _, rfl, fun _ _ e => e⟩
        · intro C k uk s4 m4 E4 hk _ hn hx F4 N4 ht4
          have hkr : k < row.length := by omega
          have hrk : row[k]? = some row[k] := List.getElem?_eq_getElem hkr
          have hlk : l[k]? = some l[k] := List.getElem?_eq_getElem hk
          generalize row[k] = b at hrk
          generalize l[k] = x at hlk
          have e1 : row.getD k false = b := by rw [List.getD_eq_getElem?_getD, hrk]; rfl
          have e2 : l.getD k 0 = x := by rw [List.getD_eq_getElem?_getD, hlk]; rfl
          rw [e1, e2]
          refine BoolOp_and (Subscript_ (nameE_C N4 rfl (.tail _ (.tail _ (.tail _ (.tail _ (.tail _ (.head _)))))) ho2 (nameE_L hn hx (item_L (k := k) (vs := row.map Value.bool) (v := .bool b) (N4.get (.tail _ (.tail _ (.tail _ (.head _))))) (by rw [List.length_map]; omega) (by rw [List.getElem?_map, hrk]; rfl) (wpAny_truthy_bool ?_)))))
          cases b
          · exact ⟨rfl, _, _, rfl, fun _ _ e => e⟩
          · refine BoolOp_one (wpAny_Compare1 (Subscript_ (nameE_C N4 rfl (.tail _ (.tail _ (.tail _ (.tail _ (.tail _ (.tail _ (.head _))))))) ho1 (nameE_L hn hx (item_S (k := k) (by omega) hlk (fun t' => nameE_C N4 rfl (.tail _ (.tail _ (.tail _ (.tail _ (.head _))))) ho3' (eq_str ?_)))))))
            rw [show (⟨#[c]⟩ : Str) = S [c] from rfl, S_beq]
            refine ⟨?_, _, _, rfl, fun _ _ e => e⟩
            simp
        · intro D h13 tk13 ys k13 htk13 F13 N13 hp13 hkp13
          have hys := bools_paired _ _ hp13
          rw [List.filter_eq_self.mpr (fun _ _ => rfl), range_zip hrow] at hys
          subst hys
          refine add_arrays F13 N13 ⟨_, N13.get (.tail _ (.head _)), rfl, _, rfl⟩ ⟨_, N13.get (.head _), rfl, _, rfl⟩ (fun h14 F14 N14 => ?_) (by simp only [List.size_toArray, List.length_map, List.length_zipWith, List.length_cons, List.length_nil, sizeLine_eq]; omega)
          have hA3 : L' + 3 < h13.objs.size := Heap.lt_size (N13 _ (.tail _ (.tail _ (.tail _ (.tail _ (.tail _ (.head _))))))).1
          have hAI : I < h13.objs.size := Heap.lt_size (N13 _ (.tail _ (.tail _ (.tail _ (.head _))))).1
          have hAr : rl < h13.objs.size := Heap.lt_size (N13 _ (.tail _ (.tail _ (.tail _ (.tail _ (.head _)))))).1
          dsimp only at N14 ⊢
          generalize h13.objs.size = al2 at N14 hA3 hAI hAr ⊢
          refine storeX_L F14 N14 (fun h15 F15 N15 => ?_) rfl rfl
          refine wpAny_execs_nil ⟨rfl, h15, _, _, al2, 0, rfl, by (try dsimp only); omega, F15, rfl, hA3, hAI, hAr, fun q hq => ?_⟩
          rcases List.mem_cons.mp hq with rfl | hq
          · have := N15 _ (.head _)
            rw [hst]
            simpa [bl] using this
          · exact N15 q (.tail _ (.tail _ (.tail _ (.tail _ hq))))
    · rintro fl s' ⟨rfl, h5, tk5, m5, al, na, rfl, htk5, F5, hm5, hala, halI, halr, N5⟩
      dsimp only
      refine wpAny_execs_cons (wpAny_Assign_Name (nameX_L F5 hm5 ?_))
      refine storeX_C F5 N5 rfl (UpdF.tail (ne_far 2 hala (by decide)) (UpdF.tail (Ne.symm hI2) (UpdF.tail (ne_far 2 hrl (by decide)) (UpdF.tail n32 (UpdF.head (fun q hq => by rw [List.mem_singleton.mp hq]; exact n12)))))) ho2 (fun h6 o2' F6 N6 ho2' => ?_) rfl rfl
      refine wpAny_execs_nil (TurnEnd.go (news' := TkN L' al (stepL l row c) na o1 o2' o3') htk5 F6 (fun q hq => N6 q ?_) (fun q hq => ?_) ⟨al, na, o1, o2', o3', rfl, ho1, ho2', ⟨_, ho3'⟩, hala⟩)
      · rcases List.mem_cons.mp hq with rfl | hq
        · exact .tail _ (.head _)
        · rcases List.mem_cons.mp hq with rfl | hq
          · exact .head _
          · exact .tail _ (.tail _ (.tail _ hq))
      · rcases List.mem_cons.mp hq with rfl | hq
        · exact Nat.ne_of_gt halI
        · rcases List.mem_cons.mp hq with rfl | hq
          · exact hI3
          · rcases List.mem_cons.mp hq with rfl | hq
            · exact hI2
            · rw [List.mem_singleton.mp hq]
              exact hI1
  · rintro h8 tk8 m8 nx htk8 F8 N8 ⟨rl, n, o1, o2, o3, rfl, ho1, ho2, ⟨v3, ho3⟩, hrl⟩
    have e1 : (S pt).cps.size = pt.length := S_length pt
    rw [e1, List.take_length] at N8
    have hrow := fold_length (l := l) pt (true :: List.replicate l.length false) (by simp)
    have hta : takesL pt l = (pt.foldl (stepL l) (true :: List.replicate l.length false)).getLastD false := rfl
    generalize pt.foldl (stepL l) (true :: List.replicate l.length false) = row at N8 hrow hta
    have hne : row ≠ [] := fun e => by rw [e] at hrow; simp at hrow
    obtain ⟨r', b, hrb⟩ : ∃ r' b, row = r' ++ [b] := ⟨_, _, (List.dropLast_concat_getLast hne).symm⟩
    refine wpAny_execs_cons (wpAny_Return_some (Subscript_ (nameX_C N8 rfl (.tail _ (.tail _ (.head _))) ho2 ?_)))
    iterate 3 (first | (k_unfold; (try dsimp only)) | (k_end; wrow_close) | walk1 | (dsimp only; walk1) | (leave1; walk_say "STEP leave1"; try dsimp only))
    refine item_last (vs := r'.map Value.bool) (v := .bool b) (n := n) ?_ ?_
    · have := N8.get (.head _)
      rw [hrb] at this
      simpa [bl] using this
    · refine hret _ _ _ F8.keep ?_
      rw [hta, hrb]
      simp
end
end Mine
set_option maxHeartbeats 1000000
namespace Mine
section
variable {M : Model} {A : Around} {E : Value → Shared → Prop} {s : Shared} {h₀ : Heap} {L : Addr} {m : Str → Option Value} {news : Led'}
theorem newList_T {vs : List Value} {xs : List (List Nat)} {Q : Value → Shared → Prop} (F : Fr h₀ L s.heap m) (N : News h₀ L s.heap news) (ht : Txts vs xs)
    (h : ∀ vs l h', Txts vs xs → Fr h₀ L h' m → News h₀ L h' ((l, listOf vs.toArray 0) :: news) → (∀ p ∈ news, p.1 < l) → Q (.ref l) { s with heap := h' }) (hsz : vs.length ≤ sizeLine := by size_fits) : wpAny M A (newList vs) Q E s :=
  newList_K F N (fun l h' F' N' hl => h vs l h' ht F' N' hl) hsz
end
theorem Txts.cons' {x : Str} {l : List Nat} {t : Tok} {vs : List Value} {xs : List (List Nat)} (e : x = S l) (h : Txts vs xs) : Txts (.str x t :: vs) (l :: xs) := by
  subst e
  exact .cons h
theorem ints_get : ∀ {vs : List Value} {ns : List Int}, IntsAre vs ns → ∀ {i : Nat} {v : Value}, vs[i]? = some v → ∃ z t, v = .int z t
  | _, _, .nil, _, _, h => by simp at h
  | _, _, .cons z t r, 0, v, h => ⟨z, t, by simpa using h.symm⟩
  | _, _, .cons z t r, i + 1, v, h => ints_get r (by simpa using h)
section
variable {w : World} {p : Program} {loose : List Str} {mean : ExcName → Option Value} {mg mb : Str → Option Value}
theorem does_pair (d : Addr) :
    Does w p loose mean mg mb 2 118 [.ref d] (fun g => ∃ vs n ns, g.get? d = some (listOf vs.toArray n) ∧ IntsAre vs ns ∧ vs.length ≤ 7) (fun r g h' => ∃ d' x y t1 t2 n, r = .ref d' ∧ h'.get? d' = some (listOf [.str (S x) t1, .str (S y) t2].toArray n) ∧ g.get? d' = none ∧ NamOk x ∧ PatOk y) := by
  refine does_of ?_
  unfold Does0
  k_fill
  intro dp un gd cn cs a ccd cl outer A₀ base h₀ L m g s Q E hs B F X T hk hp ht hd hu hret
  obtain ⟨vs, n0, ns, hvd, hin, hvl⟩ := hp
  refine wpAny_call ?_
  refine' my_def (binds := [(Str.ofString "script", .ref d)]) hs B F X T ?kA ?kF ?kK ?k6 ?k7 ?k8 ?k9 ?kB ?_ ?c2 ?c3 ?c4 ?c5; (case kA => exact rfl); (case kF => exact rfl); (case kK => exact hk); (case k6 => k_is); (case k7 => k_is); (case k8 => ktr_room); (case k9 => exact BindsTo.of_eq rfl); (case kB => exact locs rfl); (case c2 => exact rfl); (case c3 => exact rfl); (case c4 => exact rfl); (case c5 => decide)
  intro L' h1 F1 N1 B' X' T'
  dsimp only [List.length]
  refine wpAny_execs_cons (wpAny_Assign_Name (Calls.Constant_str (storeX_L F1 N1 (fun h2 F2 N2 => ?_) rfl rfl)))
  refine wpAny_execs_cons (wpAny_Assign_Name (Calls.Constant_str (storeX_L F2 N2 (fun h3 F3 N3 => ?_) rfl rfl)))
  dsimp only
  refine wpAny_execs_cons (wpAny_For (nameX_L F3 rfl ?_))
  refine for_list (h₀ := g) (L := L') (l := d) (items := vs.toArray) (imm := []) (news := []) rfl ⟨_, F3.keep _ _ hvd, rfl, _, rfl⟩ (.inl ⟨_, hvd⟩) F3 N3 (by (try dsimp only); omega)
    (fun i m₁ nx => nx = [] ∧ ∃ x y t1 t2, m₁ "name" = some (.str (S x) t1) ∧ m₁ "pattern" = some (.str (S y) t2) ∧ x.length ≤ i ∧ y.length ≤ i ∧ (∀ c ∈ x, c ∈ al0) ∧ ∀ c ∈ y, c = 42 ∨ c ∈ al0)
    ⟨rfl, [], [], _, _, rfl, rfl, Nat.le_refl _, Nat.le_refl _, (fun _ h => nomatch h), (fun _ h => nomatch h)⟩ ?_ ?_
  · rintro i v m₁ news₁ oI h4 tk4 hi hv ⟨rfl, x, y, t1, t2, hm1, hm2, hxl, hyl, hxa, hya⟩ htk4 hnI F4 N4
    obtain ⟨z, tz, rfl⟩ := ints_get hin (i := i) (v := v) (by simpa using hv)
    have hi7 : i < 7 := by simp at hi; omega
    generalize h3.objs.size = I at N4 hnI ⊢
    refine wpAny_assign_Name (storeX_L F4 N4 (fun h5 F5 N5 => ?_) rfl rfl)
    refine wpAny_execs_cons (wpAny_Assign_Name (wpAny_BinOp (nameX_L F5 rfl (wpAny_BinOp (wpAny_Constant_int (wpAny_Constant_int (pow_int_small (by decide) (by decide) (by decide) (mod_int' (by decide) ?_))))))))
    have hr0 : 0 ≤ z.fmod ((10 : Int) ^ (6 : Int).toNat) := Int.fmod_nonneg_of_pos _ (by decide)
    have hr1 : z.fmod ((10 : Int) ^ (6 : Int).toNat) < 1000000 := Int.fmod_lt_of_pos _ (by decide)
    generalize z.fmod ((10 : Int) ^ (6 : Int).toNat) = r at hr0 hr1 ⊢
    refine storeX_L F5 N5 (fun h6 F6 N6 => ?_) rfl rfl
    dsimp only
    refine wpAny_execs_cons ?_
    refine wpAny_Assign_Name ?_
    refine Subscript_ ?_
    refine List_ ?_
    iterate 11 refine args_cons (Calls.Constant_str ?_)
    refine args_nil ?_
    refine newList_T (xs := al0.map fun c => [c]) F6 N6 ?_ (fun sv sl h7 hsv F7 N7 hsl => ?_) (by simp only [List.length_cons, List.length_nil, sizeLine_eq]; decide)
    · iterate 11 refine Txts.cons' (by decide +kernel) ?_
      exact .nil
    dsimp only
    refine wpAny_BinOp (wpAny_BinOp (nameX_L F7 rfl (wpAny_Constant_int (floordiv_int (by decide) (wpAny_Constant_int (mod_int' (by decide) ?_))))))
    obtain ⟨k, hk11, hke⟩ : ∃ k : Nat, k < 11 ∧ (r.fdiv 3).fmod 11 = (k : Int) := by
      have h1 : 0 ≤ (r.fdiv 3).fmod 11 := Int.fmod_nonneg_of_pos _ (by decide)
      have h2 : (r.fdiv 3).fmod 11 < 11 := Int.fmod_lt_of_pos _ (by decide)
      exact ⟨((r.fdiv 3).fmod 11).toNat, by omega, by omega⟩
    rw [hke]
    obtain ⟨c, hca, hcc⟩ : ∃ c, c ∈ al0 ∧ (al0.map fun c => [c])[k]? = some [c] := by
      have h1 : k < al0.length := hk11
      exact ⟨al0[k], List.getElem_mem h1, by rw [List.getElem?_map, List.getElem?_eq_getElem h1]; rfl⟩
    obtain ⟨tc, hvc⟩ := hsv.get hcc
    refine kba_turn (value' := PySem.Expr.Name (PySem.Str.ofString "_") ⟨0, 0, 0, 0⟩) (fun _ => rfl) ?_
    refine item_L (k := k) (N7.get (.head _)) (by rw [hsv.len]; decide) hvc ?_
    refine storeX_L F7 N7 (fun h8 F8 N8 => ?_) rfl rfl
    dsimp only
    refine wpAny_execs_cons (wpAny_Assign_Name (wpAny_Compare1 (wpAny_BinOp (wpAny_BinOp (nameX_L F8 rfl (wpAny_Constant_int (floordiv_int (by decide) (wpAny_Constant_int (mod_int' (by decide) (wpAny_Constant_int (eq_int ?_)))))))))))
    generalize ((r.fdiv 33).fmod 2 == 0) = ev
    refine storeX_L F8 N8 (fun h9 F9 N9 => ?_) rfl rfl
    dsimp only
    refine wpAny_execs_cons (wpAny_mono (Q := fun fl s' => fl = .next ∧ ∃ h' tk' m' x' t', s' = { s with heap := h', toks := tk' } ∧ 1 ≤ tk' ∧ Fr g L' h' m' ∧ News g L' h' [(I, oI)] ∧ m' "name" = some (.str (S x') t') ∧ x'.length ≤ i + 1 ∧ (∀ c ∈ x', c ∈ al0) ∧
      m' "pattern" = some (.str (S y) t2) ∧ m' "sign" = some (.str (S [c]) tc) ∧ (∃ tr, m' "rest" = some (.int r tr)) ∧ m' "even" = some (.bool ev)) ?_ ?_ fun _ _ e => e)
    · refine wpAny_If (wpAny_mono (Q := fun b s' => ∃ tk', s' = { s with heap := h9, toks := tk' } ∧ 1 ≤ tk') ?_ ?_ fun _ _ e => e)
      · refine isTrue_or (wpAny_isTrue_Compare1 (wpAny_BinOp (nameX_L F9 rfl (wpAny_Constant_int (mod_int' (by decide) (wpAny_Constant_int (eq_int (wpAny_truthy_bool ?_))))))))
        split
        · exact ⟨_, rfl, by (try dsimp only); omega⟩
        · refine isTrue_or (isTrue_and (wpAny_isTrue_Compare1 (wpAny_BinOp (nameX_L F9 rfl (wpAny_Constant_int (mod_int' (by decide) (wpAny_Constant_int (gt_int (wpAny_truthy_bool ?_)))))))))
          split
          · refine isTrue_and (isTrue_plain (nameX_L F9 rfl (wpAny_truthy_bool ?_)))
            split
            · refine isTrue_and_nil ?_
              dsimp only
              exact ⟨_, rfl, by (try dsimp only); omega⟩
            · refine isTrue_or_nil ⟨_, rfl, by (try dsimp only); omega⟩
          · refine isTrue_or_nil ⟨_, rfl, by (try dsimp only); omega⟩
      · rintro b s' ⟨tk', rfl, htk'⟩
        have N9' : News g L' h9 [(I, oI)] := fun q hq => N9 q (.tail _ (by rw [List.mem_singleton.mp hq]; exact .head _))
        cases b
        · exact wpAny_execs_nil ⟨rfl, h9, tk', _, x, t1, rfl, htk', F9, N9', hm1, by omega, hxa, hm2, rfl, ⟨_, rfl⟩, rfl⟩
        · refine wpAny_execs_cons (wpAny_AugAssign_Name (loadX_L F9 hm1 (nameX_L F9 rfl ?_)))
          refine iadd_S (by simp only [List.length_cons, List.length_nil]; omega) htk' fun t3 k3 hk3 => ?_
          refine storeX_L F9 N9' (fun h10 F10 N10 => ?_) rfl rfl
          refine wpAny_execs_nil ⟨rfl, h10, _, _, x ++ [c], t3, rfl, by (try dsimp only); omega, F10, N10, rfl, by simp only [List.length_append, List.length_cons, List.length_nil]; omega, fun e he => ?_, hm2, rfl, ⟨_, rfl⟩, rfl⟩
          rcases List.mem_append.mp he with he | he
          · exact hxa e he
          · rw [List.mem_singleton.mp he]; exact hca
    · rintro fl s' ⟨rfl, h10, tk10, m10, x', t10, rfl, htk10, F10, N10, hn1, hx'l, hx'a, hn2, hn3, ⟨tr, hn4⟩, hn5⟩
      dsimp only
      refine wpAny_execs_cons (wpAny_mono (Q := fun fl s' => fl = .next ∧ ∃ h' tk' m' y' t', s' = { s with heap := h', toks := tk' } ∧ 1 ≤ tk' ∧ Fr g L' h' m' ∧ News g L' h' [(I, oI)] ∧ m' "name" = some (.str (S x') t10) ∧ m' "pattern" = some (.str (S y') t') ∧
        y'.length ≤ i + 1 ∧ ∀ c ∈ y', c = 42 ∨ c ∈ al0) ?_ ?_ fun _ _ e => e)
      · refine wpAny_If (wpAny_isTrue_Compare1 (wpAny_BinOp (nameX_L F10 hn4 (wpAny_Constant_int (mod_int' (by decide) (wpAny_Constant_int (eq_int (wpAny_truthy_bool ?_))))))))
        split
        · refine wpAny_execs_cons (wpAny_AugAssign_Name (loadX_L F10 hn2 (Calls.Constant_str ?_)))
          rw [show Str.ofString "*" = S [42] from by decide +kernel]
          refine iadd_S (by simp only [List.length_cons, List.length_nil]; omega) (by (try dsimp only); omega) fun t3 k3 hk3 => ?_
          refine storeX_L F10 N10 (fun h11 F11 N11 => ?_) rfl rfl
          refine wpAny_execs_nil ⟨rfl, h11, _, _, y ++ [42], t3, rfl, by (try dsimp only); omega, F11, N11, hn1, rfl, by simp only [List.length_append, List.length_cons, List.length_nil]; omega, fun e he => ?_⟩
          rcases List.mem_append.mp he with he | he
          · exact hya e he
          · exact .inl (List.mem_singleton.mp he)
        · refine wpAny_execs_cons (wpAny_If (wpAny_mono (Q := fun b s' => ∃ tk', s' = { s with heap := h10, toks := tk' } ∧ 1 ≤ tk') ?_ ?_ fun _ _ e => e))
          · refine isTrue_or (wpAny_isTrue_Compare1 (wpAny_BinOp (nameX_L F10 hn4 (wpAny_Constant_int (mod_int' (by decide) (wpAny_Constant_int (eq_int (wpAny_truthy_bool ?_))))))))
            split
            · exact ⟨_, rfl, by (try dsimp only); omega⟩
            · refine isTrue_or (isTrue_not (isTrue_plain (nameX_L F10 hn5 (wpAny_truthy_bool ?_))))
              split
              · exact ⟨_, rfl, by (try dsimp only); omega⟩
              · exact isTrue_or_nil ⟨_, rfl, by (try dsimp only); omega⟩
          · rintro b s' ⟨tk', rfl, htk'⟩
            cases b
            · refine wpAny_execs_nil ?_
              dsimp only
              exact wpAny_execs_nil ⟨rfl, h10, tk', m10, y, t2, rfl, htk', F10, N10, hn1, hn2, by omega, hya⟩
            · refine wpAny_execs_cons (wpAny_AugAssign_Name (loadX_L F10 hn2 (nameX_L F10 hn3 ?_)))
              refine iadd_S (by simp only [List.length_cons, List.length_nil]; omega) htk' fun t3 k3 hk3 => ?_
              refine storeX_L F10 N10 (fun h11 F11 N11 => ?_) rfl rfl
              refine wpAny_execs_nil ?_
              dsimp only
              refine wpAny_execs_nil ⟨rfl, h11, _, _, y ++ [c], t3, rfl, by (try dsimp only); omega, F11, N11, hn1, rfl, by simp only [List.length_append, List.length_cons, List.length_nil]; omega, fun e he => ?_⟩
              rcases List.mem_append.mp he with he | he
              · exact hya e he
              · rw [List.mem_singleton.mp he]; exact .inr hca
      · rintro fl s' ⟨rfl, h11, tk11, m11, y', t11, rfl, htk11, F11, N11, hq1, hq2, hy'l, hy'a⟩
        refine wpAny_execs_nil (TurnEnd.go (news' := []) htk11 F11 N11 (fun _ h => nomatch h) ⟨rfl, x', y', t10, t11, hq1, hq2, hx'l, hy'l, hx'a, hy'a⟩)
  · rintro h4 tk4 m4 nx htk4 F4 N4 ⟨rfl, x, y, t1, t2, hm1, hm2, hxl, hyl, hxa, hya⟩
    have hv7 : vs.toArray.size ≤ 7 := by rw [List.size_toArray]; exact hvl
    generalize vs.toArray.size = vn at hxl hyl hv7
    refine wpAny_execs_cons (wpAny_Return_some (List_ (args_cons (wpAny_BinOp (nameX_L F4 hm1 (Calls.Constant_str ?_))))))
    rw [show Str.ofString "b&" = S [98, 38] from by decide +kernel]
    refine add_S (by simp only [List.length_cons, List.length_nil]; omega) (by (try dsimp only); omega) fun t5 k5 hk5 => ?_
    refine args_cons (wpAny_BinOp (nameX_L F4 hm2 (Calls.Constant_str ?_)))
    rw [show Str.ofString "*&" = S [42, 38] from by decide +kernel]
    refine add_S (by simp only [List.length_cons, List.length_nil]; omega) (by (try dsimp only); omega) fun t6 k6 hk6 => ?_
    refine args_nil (newList_K F4 N4 (fun dl h7 F7 N7 hdl => ?_))
    refine hret _ _ _ F7.keep ⟨dl, x ++ [98, 38], y ++ [42, 38], t5, t6, 0, rfl, N7.get (.head _), (N7 _ (.head _)).2.2, ⟨?_, ?_⟩, ⟨?_, ?_, y, rfl⟩⟩
    · simp only [List.length_append, List.length_cons, List.length_nil]; omega
    · intro c hc
      rcases List.mem_append.mp hc with hc | hc
      · exact hxa c hc
      · have : c = 98 ∨ c = 38 := by simpa using hc
        rcases this with rfl | rfl <;> decide
    · simp only [List.length_append, List.length_cons, List.length_nil]; omega
    · intro c hc
      rcases List.mem_append.mp hc with hc | hc
      · exact hya c hc
      · have : c = 42 ∨ c = 38 := by simpa using hc
        rcases this with rfl | rfl <;> decide
end
end Mine
set_option maxHeartbeats 4000000
namespace Mine
theorem CellsAre.all {cm : Str → Option Value} {cs : List (Str × Addr)} {cells : List (Addr × Obj)} (x : CellsAre cm cs cells) : ∀ p ∈ cells, ∃ v, p.2.data = .cell v := by
  induction x with
  | nil => exact fun _ h => nomatch h
  | cons h _ ih =>
    intro p hp
    rcases List.mem_cons.mp hp with rfl | hp
    · exact ⟨_, h⟩
    · exact ih p hp
theorem TabOk.find {w : World} {tb : List (Nat × List Nat)} {es : List DictEntry} (h : TabOk w tb es) (c : Nat) : (∃ r u, tb.lookup c = some r ∧ findBy Value.isStrOf es.toArray (S [c]) = some (.str (S r) u)) ∨ (tb.lookup c = none ∧ findBy Value.isStrOf es.toArray (S [c]) = none) := by
  induction h with
  | nil => exact .inr ⟨rfl, rfl⟩
  | @cons c' r t u tb es h1 h2 h3 _ ih =>
    unfold findBy at ih ⊢
    rw [List.find?_toArray] at ih ⊢
    rw [List.find?_cons, List.lookup_cons]
    by_cases hc : c = c'
    · subst hc
      have e1 : Value.isStrOf (S [c]) (ent w (S [c]) t (.str (S r) u)).key = true := by rw [isStrOf_eq]; simp [Value.isStr]
      rw [e1]
      exact .inl ⟨r, u, by simp, rfl⟩
    · have e1 : Value.isStrOf (S [c]) (ent w (S [c']) t (.str (S r) u)).key = false := by
        rw [isStrOf_eq]
        have : ¬ S [c'] = S [c] := fun e => hc (by have := S_inj e; simpa using this.symm)
        simp [Value.isStr, this]
      have e2 : (c == c') = false := beq_false_of_ne hc
      rw [e1, e2]
      exact ih
section
variable {prog : Program} {w : World} {A : Around} {E : Value → Shared → Prop} {s : Shared} {d : Addr} {es : List DictEntry} {n : Nat}
theorem gm_dict_get {pl : Sem Bool} {Q : Value × List Value → Shared → Prop} (hd : s.heap.get? d = some (dictOf es n)) (hk : StrEnts w es) (h : Q (.builtin "dict.get", [.ref d]) s) : wpAny (model prog w) A (getMethod (.ref d) "get" pl) Q E s :=
  getMethod_builtin (dict_typeIs hd) PySem.F.plainAttrs_dict PySem.F.slot_dict_get PySem.F.type_dict_get (ent_mapOf (prog := prog) hd hk).noDict h
theorem get2_K {tb : List (Nat × List Nat)} {c : Nat} {t u : Tok} {Q : Value → Shared → Prop} (hd : s.heap.get? d = some (dictOf es n)) (hds : (d == sysModules) = false) (hok : TabOk w tb es) (h : ∀ t', Q (.str (S (look tb c)) t') { s with toks := s.toks + 1 }) :
    wpAny (model prog w) A (call (.builtin "dict.get") [.ref d, .str (S [c]) t, .str (S [c]) u]) Q E s := by
  refine call_meetsIn PySem.F.slot_dict_get (dict_typeIs hd) PySem.F.entry_dict_get (PySem.F.args_dict_get_3 _ _ _) (meets_dict_get_default (PySem.strKind prog w) d (strKind_is prog w (S [c]) t) hds _) ⟨_, ent_mapOf hd hok.strEnts, ?_⟩
  rcases hok.find c with ⟨r, u', e1, e2⟩ | ⟨e1, e2⟩
  · rw [e2]
    have := h u'
    unfold look at this
    rw [e1] at this
    exact this
  · rw [e2]
    have := h u
    unfold look at this
    rw [e1] at this
    exact this
end
section
variable {prog : Program} {w : World} {A : Around} {E : Value → Shared → Prop} {s : Shared}
theorem rep1_K {c : Nat} {r l : List Nat} {t u v : Tok} {x y : Str} {Q : Value → Shared → Prop} (hx : x = S [c]) (hy : y = S r) (hu : u ≠ 0) (hv : v ≠ 0) (huv : u ≠ v) (hcr : r ≠ [c]) (hl : l.length ≤ 1048576) (hr : r.length ≤ 14) (ht : 1 ≤ s.toks)
    (hq : ∀ t' k, 1 ≤ k → Q (.str (S (rep1 c r l)) t') { s with toks := k }) : wpAny (model prog w) A (call (.builtin "str.replace") [.str (S l) t, .str x u, .str y v]) Q E s := by
  subst hx hy
  refine wpAny_with_toks (n := 1) ht ?_
  refine SC.replaceW hu hv huv (by rw [S_beq]; exact beq_eq_false_iff_ne.mpr fun e => hcr e.symm) (by rw [S_length]; exact hl) (by rw [S_length]; exact hr) fun t' k hk => ?_
  rw [replace_S]
  exact hq t' k hk
theorem clip_one {n : Nat} : clipI (some 1) 0 n = (min 1 n : Nat) := by
  show max 0 (min (if (1 : Int) < 0 then (1 : Int) + n else 1) n) = _
  rw [if_neg (by decide)]
  omega
theorem drop_min (l : List Nat) : l.drop (min 1 l.length) = l.drop 1 := by
  cases l with
  | nil => rfl
  | cons a l => simp
theorem clip_seven {n : Nat} : clipI (some 7) n n = (min 7 n : Nat) := by
  show max 0 (min (if (7 : Int) < 0 then (7 : Int) + n else 7) n) = _
  rw [if_neg (by decide)]
  omega
theorem clip_zero {n : Nat} : clipI none 0 n = (0 : Nat) := rfl
theorem ints_take : ∀ {vs : List Value} {ns : List Int}, IntsAre vs ns → ∀ k : Nat, IntsAre (vs.take k) (ns.take k)
  | _, _, .nil, k => by simpa using IntsAre.nil
  | _, _, .cons z t r, 0 => .nil
  | _, _, .cons z t r, k + 1 => .cons z t (ints_take r k)
theorem ints_len : ∀ {vs : List Value} {ns : List Int}, IntsAre vs ns → vs.length = ns.length
  | _, _, .nil => rfl
  | _, _, .cons _ _ r => by simp [ints_len r]
end
section
variable {prog : Program} {w : World} {A : Around} {s : Shared} {env : Env} {h₀ : Heap} {L : Addr} {E : Value → Shared → Prop} {Q : Flow → Shared → Prop}
theorem for_range {target : Expr} {body : List Stmt} {r : Addr} {n : Nat} {t u v : Tok} {m : Str → Option Value} {imm news : Led'}
    (hh : A.handled = none) (hr : IsRange s.heap r 0 n 1 t u v) (hn : n ≤ 1048576)
    (F : Fr h₀ L s.heap m) (N : News h₀ L s.heap (imm ++ news)) (ht1 : 1 ≤ s.toks)
    (J : Nat → (Str → Option Value) → Led' → Prop) (h0 : J 0 m news)
    (turn : ∀ (i : Nat) u m₁ news₁ oI h tk, i < n → J i m₁ news₁ → 1 ≤ tk → (∀ p ∈ news₁, p.1 ≠ s.heap.objs.size) → Fr h₀ L h m₁ → News h₀ L h ((s.heap.objs.size, oI) :: (imm ++ news₁)) →
      wpAny (model prog w) A (assign target env (.int i u)) (fun _ s₂ => wpAny (model prog w) A (execs body env) (TurnEnd h₀ L s ((s.heap.objs.size, oI) :: imm) (J (i + 1)) s.heap.objs.size (fun r s' => match r with | .ok f => Q f s' | .error e => cameBackBy (model prog w) A env E e s')) NoE s₂) NoE { s with heap := h, toks := tk })
    (done : ∀ h' tk' m' news', 1 ≤ tk' → Fr h₀ L h' m' → News h₀ L h' (imm ++ news') → J n m' news' → Q .next { s with heap := h', toks := tk' })
    (ht : ∀ I v, letOwnedTupleGo target (.ref I) v = pure () := by intro _ _; rfl) :
    wpAny (model prog w) A (pyIter (.ref r)) (fun it s₂ => AtFor prog w A env target body E Q it s₂) E s := by
  have hrs : Builtin.Range.rangeSize 0 n 1 = n := by
    unfold Builtin.Range.rangeSize
    simp
    try omega
  have hsm : Builtin.Range.small 0 n 1 = true := by
    unfold Builtin.Range.small
    rw [hrs]
    unfold Builtin.Range.rangeFitsLong
    simp
    omega
  refine wpAny_pyIter_range hr hsm ?_
  rw [hrs]
  refine for_code (s := { s with heap := _ }) (m := m) (imm := imm) (news := news) (walks_lt (Walks.range hh s.heap.objs.size 0 1 n)) (next_new F) (Nat.ne_of_gt (fr_lt F)) ?_ ?_ (fun b hb => .inl (List.mem_singleton.mp hb)) (F.push _) (fun p hp => ⟨Heap.get?_push_of_some _ (N p hp).1, (N p hp).2⟩)
    (fun p hp => news_ne N p (List.mem_append_left _ hp)) (fun p hp => news_ne N p (List.mem_append_right _ hp)) ht1 J h0 ?_ done (ht _)
  · have e1 : (0 : Int) + ((0 : Nat) : Int) * 1 = 0 := by omega
    have e2 : (n : Int) - ((0 : Nat) : Int) = n := by omega
    show IsRangeIter _ _ _ _ _
    rw [e1, e2]
    exact Heap.get?_push_size _ rfl
  · intro i h st
    exact ⟨_, st⟩
  · rintro i x m₁ news₁ oI h tk hi ⟨_, t', rfl⟩ hJ htk hn F₁ N₁
    have e : (0 : Int) + (i : Int) * 1 = i := by omega
    rw [e]
    exact turn i t' m₁ news₁ oI h tk hi hJ htk hn F₁ N₁
end
section
variable {M : Model} {A : Around} {E : Value → Shared → Prop} {s : Shared} {h₀ : Heap} {L a : Addr} {m : Str → Option Value} {cn : Str} {cs : Scope} {ccd : Value} {cl : List (Str × Addr)}
  {x : Str} {v : Value} {Q : Unit → Shared → Prop} {news : Led'} {c : Addr} {o : Obj} {v₀ : Option Value}
theorem storeX_Cm (rest : Led') (F : Fr h₀ L s.heap m) (N : News h₀ L s.heap news) (hc : cl.lookup x = some c) (hm : (c, o) ∈ news) (hr : ∀ p ∈ rest, p ∈ news ∧ p.1 ≠ c) (hd : o.data = .cell v₀)
    (h : ∀ h' o', Fr h₀ L h' m → News h₀ L h' ((c, o') :: rest) → o'.data = .cell (some v) → Q () { s with heap := h' })
    (hk : cs.kind = .function := by rfl) (hx : (envX cn cs L a ccd cl).kindOf x = some .cell := by rfl) : wpAny M A (storeName (envX cn cs L a ccd cl) x v) Q E s :=
  storeX_C F (news := (c, o) :: rest) (fun p hp => by
    rcases List.mem_cons.mp hp with rfl | hp
    · exact N _ hm
    · exact N p (hr p hp).1) hc (UpdF.head fun p hp => (hr p hp).2) hd h hk hx
theorem ne_cell {h : Heap} {b : Addr} {ob : Obj} (N : News h₀ L h news) (hb : (b, ob) ∈ news) (hc : (c, o) ∈ news) (hcd : o.data = .cell v₀) (hbd : ∀ z, ob.data ≠ .cell z) : b ≠ c := by
  rintro rfl
  have h1 := (N _ hb).1
  have h2 := (N _ hc).1
  dsimp only at h1 h2
  rw [h1] at h2
  have := Option.some.inj h2
  subst this
  exact hbd _ hcd
end
theorem tab_small : ∀ k : Nat, (tabL k).length ≤ 8 ∧ ((tabL k).map (·.1)).Nodup ∧ ∀ q ∈ tabL k, q.2 ≠ [q.1]
  | 0 => by decide
  | 1 => by decide
  | 2 => by decide
  | 3 => by decide
  | _ + 4 => by
    show (tabL 4).length ≤ 8 ∧ ((tabL 4).map (·.1)).Nodup ∧ ∀ q ∈ tabL 4, q.2 ≠ [q.1]
    decide
theorem strOk_S {l : List Nat} (h : ∀ c ∈ l, c < 128) : PyData.strOk (S l) = true := by
  unfold PyData.strOk S
  rw [List.all_toArray, List.all_eq_true]
  intro c hc
  have := h c hc
  simp
  omega
theorem al0_small {c : Nat} (h : c ∈ al0) : c < 128 := by
  have : al0.all (fun c => decide (c < 128)) = true := by decide
  simpa using List.all_eq_true.mp this c h
theorem strOk_runs {p : List Nat} (h : PatOk p) : ∀ r ∈ runsL (splitL 42 p), PyData.strOk (S r) = true := fun _ hr => strOk_S fun _ hc => al0_small ((h.al hr).2 _ hc)
theorem strOk_esc {k : Nat} {names : List (List Nat)} (h : ∀ z ∈ names, NamOk z) : ∀ r ∈ names.map (escL k), PyData.strOk (S r) = true := fun r hr => by
  obtain ⟨z, hz, rfl⟩ := List.mem_map.mp hr
  exact strOk_S fun c hc => (esc_mem (fun c hc => .inr ((h z hz).2 c hc)) hc).2.1
theorem nam_esc {k : Nat} {z : List Nat} (h : NamOk z) : (escL k z).length ≤ 54 := by
  have h1 := esc_len (k := k) (l := z) fun c hc => .inr (h.2 c hc)
  have := h.1
  omega
theorem paired_bools {f : List Nat → Bool} {vs : List Value} {xs : List (List Nat)} {ys : List Value} (h : Txts vs xs) (hp : Paired (fun v b => ∃ z t, v = .str (S z) t ∧ b = .bool (f z)) vs ys) : ys = (xs.map f).map Value.bool := by
  induction h generalizing ys with
  | nil => cases hp; rfl
  | cons _ ih =>
    cases hp with
    | cons h1 h2 =>
      obtain ⟨z, t, e, rfl⟩ := h1
      injection e with e1 e2
      have e3 := S_inj e1
      subst e3
      rw [ih h2]
      rfl
section
variable {w : World} {p : Program} {loose : List Str} {mean : ExcName → Option Value} {mg mb : Str → Option Value}
theorem does_table (k : Nat) (hk : k < 5) (tk : Tok) : Does w p loose mean mg mb 4 125 [.int (k : Int) tk] (fun _ => True) (fun r g h' => ∃ d es n, r = .ref d ∧ h'.get? d = some (dictOf es n) ∧ g.get? d = none ∧ (d == sysModules) = false ∧ TabOk w (tabL k) es) := by
  have h5 : k = 0 ∨ k = 1 ∨ k = 2 ∨ k = 3 ∨ k = 4 := by omega
  rcases h5 with rfl | rfl | rfl | rfl | rfl
  · exact does_table0 tk
  · exact does_table1 tk
  · exact does_table2 tk
  · exact does_table3 tk
  · exact does_table4 tk
end
end Mine
set_option maxHeartbeats 2000000
namespace Mine
theorem lawX : PySem.Challenge.rw_ij0046_01.Holds := by
  w_on
  o_law
  refine holds_open (q := vw) (loose := [Str.ofString "_twin_re_1", Str.ofString "_special_chars_map"]) (Xt := fun s => xlAt vw [] s && recOk PySem.Challenge.rw_ij0046_01.row.records s) (XP := XL vw []) (Yf := Hook.obs HH) (Ya := Hook.val HH) (YP := Hook.says HH) (N := 4090) (leftO_of lay1 looked) (Hook.of HH) (Hook.keeps HH) (fun s e => xl_of s (Bool.and_eq_true_iff.mp e).1) XL.keeps (by rfl) (by rfl) (by rfl) (fun s e => recFacts_of (Bool.and_eq_true_iff.mp e).2) (by rfl) (by first | assumption | decide +kernel) (by decide +kernel) ⟨rfl, rfl, rfl, rfl, rfl, by decide +kernel⟩ ?hw ?hc
  case hw => w_witness2
  delta HH
  k_go0
  rename News _ _ _ _ => N1
  rename Fr _ _ _ _ => F1
  rename Below _ _ _ _ => B1
  rename Top _ _ _ _ _ _ => T1
  rename Frag.In _ _ => X1
  rename CellsAre _ _ _ => C1
  rename IntsAre _ _ => I1
  rename Heap.IsList _ _ _ => L1
  rename List Value => w5
  rename Shared => s₁
  rename_i h₁ tk₁ o4 o3 o2 o1 e4 e3 e2 e1 l0
  have hcells := Mine.CellsAre.all C1
  clear e4 e3 e2 e1 C1
  dsimp only at F1 N1 ⊢
  have TR := topRead_of T1
  refine wpAny_mono (Q := fun fl s' => fl = .ret (.bool true) ∧ ∃ h' tk' m', s' = { s₁ with heap := h', toks := tk' } ∧ Fr (ghostOf s₁.heap [(103, 99)]) s₁.heap.objs.size h' m' ∧ News (ghostOf s₁.heap [(103, 99)]) s₁.heap.objs.size h' [(99, tabObj #[])]) (E := fun _ _ => False) ?main ?post ?exc
  case exc => exact fun _ _ h => h.elim
  case post =>
    rintro fl s' ⟨rfl, h', tk', m', rfl, F', N'⟩
    dsimp only
    refine ⟨goodW_bool (s₁ := { s₁ with heap := ghostOf s₁.heap [(103, 99)] }) F' (by assumption) (raisesW_false ?_) ?_, GrownAt.of N' (.head _), trivial⟩
    · wrow_none_raised
    · wrow_post
  case main =>
    show wpAny (model _ _) (ktrTop (1 + claimMargin + 1) 7 (some []) (Str.ofString "law") _ _ _ _ _ []) _ _ _ _
    generalize hgg : ghostOf s₁.heap [(103, 99)] = g at N1 F1 B1 T1 X1 L1 TR ⊢
    generalize hLL : s₁.heap.objs.size = L at N1 F1 l0 hcells ⊢
    have hlen63 : w5.length ≤ 63 := by have h1 := ints_len I1; omega
    obtain ⟨ol, hol, hlc, nl0, hld⟩ := L1
    refine wpAny_execs_cons (Assign_Tuple (Call_ (nameX_K F1 X1 TR (by k_is) (callWith_K X1 (by k_is) (args_cons (Subscript_ (nameX_L F1 rfl (wpAny_Slice ?_))))))))
    show wpAny _ _ (pure Value.none) _ _ _
    refine wpAny_pure ?_
    show wpAny _ _ (eval _ _) _ _ _
    refine wpAny_Constant_int ?_
    show wpAny _ _ (pure Value.none) _ _ _
    refine wpAny_pure ?_
    refine slice_list (s := ⟨_, _, _, _, _⟩) (lo := none) (hi := some 7) F1 N1 ⟨ol, F1.keep _ _ hol, hlc, nl0, hld⟩ (by constructor) (by constructor) (fun h2 F2 N2 => ?_) (hsz := by rw [List.size_toArray, sizeLine_eq]; omega)
    rw [slicePick_clip clip_zero clip_seven, List.drop_zero] at N2
    dsimp only at N2 ⊢
    generalize h₁.objs.size + 1 = sl at N2 ⊢
    refine args_nil ⟨X1.keeps F2.keep, ?_⟩
    refine (does_pair _).use B1 F2 N2 X1 T1 rfl ⟨_, 0, _, N2.get (.head _), ints_take I1 _, by rw [List.length_take]; omega⟩ (by (try dsimp only); omega) (by decide) (by decide) ?_
    rintro r h3 tk3 k3 ht3 ht3' F3 N3 ⟨d', x, y, t1, t2, n0, rfl, hd3, hf3, hx, hy⟩
    refine kun_list F3 (news_add F2 N3 hd3 hf3) ⟨_, hd3, rfl, _, rfl⟩ rfl rfl rfl (fun h5 F5 N5 => ?_)
    refine assignInOrder_cons (wpAny_assign_Name (storeX_L F5 N5 (fun h6 F6 N6 => ?_) rfl rfl))
    have n34 : @Ne Nat (L + 1 + 1 + 1 + 1) (L + 1) := by omega
    have n33 : @Ne Nat (L + 1 + 1 + 1) (L + 1) := by omega
    have n32 : @Ne Nat (L + 1 + 1) (L + 1) := by omega
    have n99 : @Ne Nat 99 (L + 1) := by omega
    have N7 : News g L h6 [(L + 1, o1), (L + 1 + 1 + 1 + 1, o4), (L + 1 + 1 + 1, o3), (L + 1 + 1, o2), (99, tabObj #[])] := fun q hq => N6 q (by
      simp only [List.mem_cons, List.mem_nil_iff, or_false] at hq ⊢
      rcases hq with rfl | rfl | rfl | rfl | rfl <;> simp)
    obtain ⟨v1, hv1⟩ := hcells (L + 1, o1) (by simp)
    obtain ⟨v2, hv2⟩ := hcells (L + 1 + 1, o2) (by simp)
    obtain ⟨v3, hv3⟩ := hcells (L + 1 + 1 + 1, o3) (by simp)
    obtain ⟨v4, hv4⟩ := hcells (L + 1 + 1 + 1 + 1, o4) (by simp)
    refine assignInOrder_cons (wpAny_assign_Name (storeX_C F6 N7 rfl (UpdF.head ?_) hv1 (fun h8 o1' F8 N8 ho1 => ?_) rfl rfl))
    · intro q hq
      simp only [List.mem_cons, List.mem_nil_iff, or_false] at hq
      rcases hq with rfl | rfl | rfl | rfl
      · exact n34
      · exact n33
      · exact n32
      · exact n99
    refine assignInOrder_nil ?_
    dsimp only
    clear N7 N6 N5 F5 N3 F3 N2 F2 N1
    refine wpAny_execs_cons (wpAny_Assign_Name (List_ ?_))
    refine args_cons (nameX_L F8 rfl ?_)
    refine args_cons (Subscript_ (nameX_L F8 rfl (wpAny_Slice ?_)))
    show wpAny _ _ (eval _ _) _ _ _
    refine wpAny_Constant_int ?_
    show wpAny _ _ (pure Value.none) _ _ _
    refine wpAny_pure ?_
    show wpAny _ _ (pure Value.none) _ _ _
    refine wpAny_pure ?_
    have hxl := hx.1
    have hyl := hy.1
    refine slice_sn (s := ⟨_, _, _, _, _⟩) (a := min 1 x.length) F8 N8 (by (try dsimp only); omega) (by omega) clip_one (fun h9 t9 k9 hk9 F9 N9 => ?_)
    rw [drop_min]
    refine args_cons (MethodCall_ (nameX_C N9 rfl (.head _) ho1 (GM.replace (callWith_method1 (args_cons (Calls.Constant_str (args_cons (Calls.Constant_str (args_nil ?_)))))))))
    refine rep1_K (c := 42) (r := [98]) (by decide +kernel) (by decide +kernel) (Nat.ne_of_gt hk9) (Nat.succ_ne_zero _) (Nat.ne_of_lt (Nat.lt_succ_self _)) (by decide) (by omega) (by decide) (by (try dsimp only); omega) (fun t10 k10 hk10 => ?_)
    refine args_cons (MethodCall_ (nameX_C N9 rfl (.head _) ho1 (GM.replace (callWith_method1 (args_cons (Calls.Constant_str (args_cons (Calls.Constant_str (args_nil ?_)))))))))
    refine rep1_K (c := 42) (r := []) (by decide +kernel) (by decide +kernel) (Nat.ne_of_gt hk10) (Nat.succ_ne_zero _) (Nat.ne_of_lt (Nat.lt_succ_self _)) (by decide) (by omega) (by decide) (by (try dsimp only); omega) (fun t11 k11 hk11 => ?_)
    refine args_nil ?_
    refine newList_T (xs := [x, x.drop 1, rep1 42 [98] y, rep1 42 [] y]) F9 N9 (.cons (.cons (.cons (.cons .nil)))) (fun nv nl h12 hnv F12 N12 hnl => ?_) (by simp only [List.length_cons, List.length_nil, sizeLine_eq]; decide)
    have hnames : ∀ z ∈ [x, x.drop 1, rep1 42 [98] y, rep1 42 [] y], NamOk z := by
      intro z hz
      simp only [List.mem_cons, List.mem_nil_iff, or_false] at hz
      rcases hz with rfl | rfl | rfl | rfl
      · exact hx
      · exact hx.tail
      · exact NamOk.rep hy _ (.inl rfl)
      · exact NamOk.rep hy _ (.inr rfl)
    have hnl4 : [x, x.drop 1, rep1 42 [98] y, rep1 42 [] y].length = 4 := rfl
    generalize [x, x.drop 1, rep1 42 [98] y, rep1 42 [] y] = names at hnv hnames hnl4
    refine storeX_L F12 N12 (fun h13 F13 N13 => ?_) rfl rfl
    dsimp only
    refine wpAny_execs_cons (assign_items (cl := [(Str.ofString "pattern", L + 1)]) (fun Q E h => nameX_L F13 rfl h) (N13.get (.head _)) (by rw [hnv.len]; omega) F13 N13 (by (try dsimp only); omega) (fun v b => ∃ z t, v = .str (S z) t ∧ b = .bool (takesL y z)) (fun C v s3 m3 E3 hv hn hx3 F3 N3 ht3 hk3 => ?_) fun D h14 tk14 ys k14 htk14 F14 N14 hp14 => ?_)
    · obtain ⟨z, t, rfl, hz⟩ := hnv.mem hv
      have hzl := (hnames z hz).1
      refine Call_ (nameE_K F3 X1 TR (by k_is) (callWith_K X1 (by k_is) (args_cons (nameE_C N3 rfl (.tail _ (.head _)) ho1 (args_cons (nameE_L hn hx3 (args_nil ⟨X1.keeps F3.keep, ?_⟩)))))))
      exact (does_takes y z _ _ (by omega) (by omega)).use B1 F3 N3 X1 T1 rfl trivial ht3 (by decide) (by decide) (fun r h' tk' k _ _ _ _ hr => ⟨⟨z, t, rfl, hr⟩, h', tk', rfl, k⟩)
    · have hbo := paired_bools hnv hp14
      subst hbo
      dsimp only
      refine wpAny_execs_cons (wpAny_For (Call_ (nameX_B F14 X1 TR (by k_is) (by boot_by_name) (by decide) (callWith_type1 (args_cons (wpAny_Constant_int (args_nil (call_range_1 ?_))))))))
      dsimp only at F14 N14 ⊢
      have N15 : News g L (h14.push { cls := .type "range", data := .fields #[.int 0 (tk14 + 1), .int 5 tk14, .int 1 (tk14 + 1 + 1)] }) ([(D, listOf (((names.map (takesL y)).map Value.bool).toArray) k14), (nl, listOf nv.toArray 0), (L + 1, o1'), (99, tabObj #[])] ++ [(L + 1 + 1 + 1 + 1, o4), (L + 1 + 1 + 1, o3), (L + 1 + 1, o2)]) := fun q hq => by
        have hq' : q ∈ [(D, listOf (((names.map (takesL y)).map Value.bool).toArray) k14), (nl, listOf nv.toArray 0), (L + 1, o1'), (L + 1 + 1 + 1 + 1, o4), (L + 1 + 1 + 1, o3), (L + 1 + 1, o2), (99, tabObj #[])] := by
          simp only [List.mem_append, List.mem_cons, List.not_mem_nil, or_false] at hq ⊢
          rcases hq with (hq | hq | hq | hq) | hq | hq | hq <;> simp [hq]
        exact ⟨Heap.get?_push_of_some _ (N14 q hq').1, (N14 q hq').2⟩
      refine for_range (h₀ := g) (L := L) (n := 5) (imm := [(D, listOf (((names.map (takesL y)).map Value.bool).toArray) k14), (nl, listOf nv.toArray 0), (L + 1, o1'), (99, tabObj #[])]) (news := [(L + 1 + 1 + 1 + 1, o4), (L + 1 + 1 + 1, o3), (L + 1 + 1, o2)]) rfl (IsRange.new _ _ _ _ _ _ _) (by decide) (F14.push _) N15 (by (try dsimp only); omega)
        (fun i m₁ nx => ∃ o4 o3 o2, nx = [(L + 1 + 1 + 1 + 1, o4), (L + 1 + 1 + 1, o3), (L + 1 + 1, o2)] ∧ (∃ v, o4.data = .cell v) ∧ (∃ v, o3.data = .cell v) ∧ (∃ v, o2.data = .cell v) ∧ m₁ "names" = some (.ref nl) ∧ m₁ "taken" = some (.ref D))
        ⟨o4, o3, o2, rfl, ⟨_, hv4⟩, ⟨_, hv3⟩, ⟨_, hv2⟩, rfl, rfl⟩ ?_ ?_
      · clear hv4 hv3 hv2 N15 N14 F14 hp14 N13 F13 N12 F12
        rintro k u m₁ nx oI h16 tk16 hk ⟨o4, o3, o2, rfl, ⟨v4, hv4⟩, ⟨v3, hv3⟩, ⟨v2, hv2⟩, hm1, hm2⟩ htk16 hnI F16 N16
        generalize Array.size _ = I at hnI N16 ⊢
        generalize hbs : names.map (takesL y) = bs at N16 ⊢
        have N17 : News g L h16 [(I, oI), (D, listOf ((bs.map Value.bool).toArray) k14), (nl, listOf nv.toArray 0), (L + 1, o1'), (99, tabObj #[]), (L + 1 + 1 + 1 + 1, o4), (L + 1 + 1 + 1, o3), (L + 1 + 1, o2)] := N16
        have hI4 : L + 1 + 1 + 1 + 1 ≠ I := hnI _ (.head _)
        have hI3 : L + 1 + 1 + 1 ≠ I := hnI _ (.tail _ (.head _))
        have hI2 : L + 1 + 1 ≠ I := hnI _ (.tail _ (.tail _ (.head _)))
        have n12 : @Ne Nat (L + 1) (L + 1 + 1) := by omega
        have n32 : @Ne Nat (L + 1 + 1 + 1) (L + 1 + 1) := by omega
        have n42 : @Ne Nat (L + 1 + 1 + 1 + 1) (L + 1 + 1) := by omega
        have n13 : @Ne Nat (L + 1) (L + 1 + 1 + 1) := by omega
        have n23 : @Ne Nat (L + 1 + 1) (L + 1 + 1 + 1) := by omega
        have n43 : @Ne Nat (L + 1 + 1 + 1 + 1) (L + 1 + 1 + 1) := by omega
        have n14 : @Ne Nat (L + 1) (L + 1 + 1 + 1 + 1) := by omega
        have n24 : @Ne Nat (L + 1 + 1) (L + 1 + 1 + 1 + 1) := by omega
        have n34 : @Ne Nat (L + 1 + 1 + 1) (L + 1 + 1 + 1 + 1) := by omega
        have n92 : @Ne Nat 99 (L + 1 + 1) := by omega
        have n93 : @Ne Nat 99 (L + 1 + 1 + 1) := by omega
        have n94 : @Ne Nat 99 (L + 1 + 1 + 1 + 1) := by omega
        have hD2 := ne_cell N17 (.tail _ (.head _)) (.tail _ (.tail _ (.tail _ (.tail _ (.tail _ (.tail _ (.tail _ (.head _)))))))) hv2 (fun _ e => by cases e)
        have hN2 := ne_cell N17 (.tail _ (.tail _ (.head _))) (.tail _ (.tail _ (.tail _ (.tail _ (.tail _ (.tail _ (.tail _ (.head _)))))))) hv2 (fun _ e => by cases e)
        have hD3 := ne_cell N17 (.tail _ (.head _)) (.tail _ (.tail _ (.tail _ (.tail _ (.tail _ (.tail _ (.head _))))))) hv3 (fun _ e => by cases e)
        have hN3 := ne_cell N17 (.tail _ (.tail _ (.head _))) (.tail _ (.tail _ (.tail _ (.tail _ (.tail _ (.tail _ (.head _))))))) hv3 (fun _ e => by cases e)
        have hD4 := ne_cell N17 (.tail _ (.head _)) (.tail _ (.tail _ (.tail _ (.tail _ (.tail _ (.head _)))))) hv4 (fun _ e => by cases e)
        have hN4 := ne_cell N17 (.tail _ (.tail _ (.head _))) (.tail _ (.tail _ (.tail _ (.tail _ (.tail _ (.head _)))))) hv4 (fun _ e => by cases e)
        have hr2 : ∀ q ∈ ([(I, oI), (D, listOf ((bs.map Value.bool).toArray) k14), (nl, listOf nv.toArray 0), (L + 1, o1'), (99, tabObj #[]), (L + 1 + 1 + 1 + 1, o4), (L + 1 + 1 + 1, o3)] : Led'), q ∈ ([(I, oI), (D, listOf ((bs.map Value.bool).toArray) k14), (nl, listOf nv.toArray 0), (L + 1, o1'), (99, tabObj #[]), (L + 1 + 1 + 1 + 1, o4), (L + 1 + 1 + 1, o3), (L + 1 + 1, o2)] : Led') ∧ q.1 ≠ L + 1 + 1 := by
          intro q hq
          simp only [List.mem_cons, List.not_mem_nil, or_false] at hq
          rcases hq with rfl | rfl | rfl | rfl | rfl | rfl | rfl
          · exact ⟨by simp, Ne.symm hI2⟩
          · exact ⟨by simp, hD2⟩
          · exact ⟨by simp, hN2⟩
          · exact ⟨by simp, n12⟩
          · exact ⟨by simp, n92⟩
          · exact ⟨by simp, n42⟩
          · exact ⟨by simp, n32⟩
        refine wpAny_assign_Name (storeX_Cm [(I, oI), (D, listOf ((bs.map Value.bool).toArray) k14), (nl, listOf nv.toArray 0), (L + 1, o1'), (99, tabObj #[]), (L + 1 + 1 + 1 + 1, o4), (L + 1 + 1 + 1, o3)] F16 N17 rfl (.tail _ (.tail _ (.tail _ (.tail _ (.tail _ (.tail _ (.tail _ (.head _)))))))) hr2 hv2 (fun h17 o2' F17 N18 ho2 => ?_) rfl rfl)
        dsimp only
        refine wpAny_execs_cons (wpAny_Assign_Name (Call_ (nameX_K F17 X1 TR (by k_is) (callWith_K X1 (by k_is) (args_cons (nameX_C N18 rfl (.head _) ho2 (args_nil ⟨X1.keeps F17.keep, ?_⟩)))))))
        refine (does_table k hk u).use B1 F17 N18 X1 T1 rfl trivial htk16 (by decide) (by decide) ?_
        rintro r h19 tk19 k19 htk19 htk19' F19 N19 ⟨d, es, nd, rfl, hd19, hdf, hds, hok⟩
        have N20 := news_add F17 N19 hd19 hdf
        have hd3 := ne_cell N20 (.head _) (.tail _ (.tail _ (.tail _ (.tail _ (.tail _ (.tail _ (.tail _ (.tail _ (.head _))))))))) hv3 (fun _ e => by cases e)
        have hd4 := ne_cell N20 (.head _) (.tail _ (.tail _ (.tail _ (.tail _ (.tail _ (.tail _ (.tail _ (.head _)))))))) hv4 (fun _ e => by cases e)
        have hr3 : ∀ q ∈ ([(d, dictOf es nd), (L + 1 + 1, o2'), (I, oI), (D, listOf ((bs.map Value.bool).toArray) k14), (nl, listOf nv.toArray 0), (L + 1, o1'), (99, tabObj #[]), (L + 1 + 1 + 1 + 1, o4)] : Led'), q ∈ ([(d, dictOf es nd), (L + 1 + 1, o2'), (I, oI), (D, listOf ((bs.map Value.bool).toArray) k14), (nl, listOf nv.toArray 0), (L + 1, o1'), (99, tabObj #[]), (L + 1 + 1 + 1 + 1, o4), (L + 1 + 1 + 1, o3)] : Led') ∧ q.1 ≠ L + 1 + 1 + 1 := by
          intro q hq
          simp only [List.mem_cons, List.not_mem_nil, or_false] at hq
          rcases hq with rfl | rfl | rfl | rfl | rfl | rfl | rfl | rfl
          · exact ⟨by simp, hd3⟩
          · exact ⟨by simp, n23⟩
          · exact ⟨by simp, Ne.symm hI3⟩
          · exact ⟨by simp, hD3⟩
          · exact ⟨by simp, hN3⟩
          · exact ⟨by simp, n13⟩
          · exact ⟨by simp, n93⟩
          · exact ⟨by simp, n43⟩
        refine storeX_Cm [(d, dictOf es nd), (L + 1 + 1, o2'), (I, oI), (D, listOf ((bs.map Value.bool).toArray) k14), (nl, listOf nv.toArray 0), (L + 1, o1'), (99, tabObj #[]), (L + 1 + 1 + 1 + 1, o4)] F19 N20 rfl (.tail _ (.tail _ (.tail _ (.tail _ (.tail _ (.tail _ (.tail _ (.tail _ (.head _))))))))) hr3 hv3 (fun h21 o3' F21 N21 ho3 => ?_) rfl rfl
        dsimp only
        refine wpAny_execs_cons (wpAny_Assign_Name (Call_ (nameX_K F21 X1 TR (by k_is) (callWith_K X1 (by k_is) (args_cons (Call_ (nameX_K F21 X1 TR (by k_is) (callWith_K X1 (by k_is) (args_cons (nameX_C N21 rfl (.tail _ (.tail _ (.head _))) ho2 (args_cons (nameX_C N21 rfl (.tail _ (.tail _ (.tail _ (.tail _ (.tail _ (.tail _ (.head _))))))) ho1 (args_nil ⟨X1.keeps F21.keep, ?_⟩)))))))))))))
        refine (does_writing k hk y u t2 (by omega)).use B1 F21 N21 X1 T1 rfl trivial htk19' (by decide) (by decide) ?_
        rintro r h22 tk22 k22 htk22 htk22' F22 N22 ⟨t22, rfl⟩
        refine args_nil ⟨X1.keeps F22.keep, ?_⟩
        refine (does_translate (escL k y) t22 (by have := pat_esc k hy; omega) (fun c hc => (esc_mem hy.2.1 hc).2)).use B1 F22 N22 X1 T1 rfl trivial htk22' (by decide) (by decide) ?_
        rintro r h23 tk23 k23 htk23 htk23' F23 N23 ⟨t23, rfl⟩
        refine storeX_L F23 N23 (fun h24 F24 N24 => ?_) rfl rfl
        dsimp only
        refine wpAny_execs_cons (wpAny_Assign_Name (Call_ (nameX_K F24 X1 TR (by k_is) (callWith_K X1 (by k_is) (args_cons (nameX_L F24 rfl (args_nil ⟨X1.keeps F24.keep, ?_⟩)))))))
        refine (does_read _ t23 (join_len k hy).1 (join_len k hy).2).use B1 F24 N24 X1 T1 rfl trivial (by (try dsimp only); omega) (by decide) (by decide) ?_
        rintro r h25 tk25 k25 htk25 htk25' F25 N25 ⟨rl, rv, nr, rfl, hr25, hrf, hrt⟩
        have N26 := news_add F24 N25 hr25 hrf
        have hl4 := ne_cell N26 (.head _) (.tail _ (.tail _ (.tail _ (.tail _ (.tail _ (.tail _ (.tail _ (.tail _ (.tail _ (.head _)))))))))) hv4 (fun _ e => by cases e)
        have hr4 : ∀ q ∈ ([(rl, listOf rv.toArray nr), (L + 1 + 1 + 1, o3'), (d, dictOf es nd), (L + 1 + 1, o2'), (I, oI), (D, listOf ((bs.map Value.bool).toArray) k14), (nl, listOf nv.toArray 0), (L + 1, o1'), (99, tabObj #[])] : Led'), q ∈ ([(rl, listOf rv.toArray nr), (L + 1 + 1 + 1, o3'), (d, dictOf es nd), (L + 1 + 1, o2'), (I, oI), (D, listOf ((bs.map Value.bool).toArray) k14), (nl, listOf nv.toArray 0), (L + 1, o1'), (99, tabObj #[]), (L + 1 + 1 + 1 + 1, o4)] : Led') ∧ q.1 ≠ L + 1 + 1 + 1 + 1 := by
          intro q hq
          simp only [List.mem_cons, List.not_mem_nil, or_false] at hq
          rcases hq with rfl | rfl | rfl | rfl | rfl | rfl | rfl | rfl | rfl
          · exact ⟨by simp, hl4⟩
          · exact ⟨by simp, n34⟩
          · exact ⟨by simp, hd4⟩
          · exact ⟨by simp, n24⟩
          · exact ⟨by simp, Ne.symm hI4⟩
          · exact ⟨by simp, hD4⟩
          · exact ⟨by simp, hN4⟩
          · exact ⟨by simp, n14⟩
          · exact ⟨by simp, n94⟩
        refine storeX_Cm [(rl, listOf rv.toArray nr), (L + 1 + 1 + 1, o3'), (d, dictOf es nd), (L + 1 + 1, o2'), (I, oI), (D, listOf ((bs.map Value.bool).toArray) k14), (nl, listOf nv.toArray 0), (L + 1, o1'), (99, tabObj #[])] F25 N26 rfl (.tail _ (.tail _ (.tail _ (.tail _ (.tail _ (.tail _ (.tail _ (.tail _ (.tail _ (.head _)))))))))) hr4 hv4 (fun h26 o4' F27 N27 ho4 => ?_) rfl rfl
        dsimp only
        replace hrt : Txts rv (runsK k y) := hrt
        have hrl := runsK_length k hy
        refine wpAny_execs_cons (wpAny_If (wpAny_isTrue_Compare1 (Call_ (nameX_K F27 X1 TR (by k_is) (callWith_K X1 (by k_is) (args_cons (nameX_C N27 rfl (.head _) ho4 (args_nil ⟨X1.keeps F27.keep, ?_⟩))))))))
        refine (does_together (runsK k y) rl (runsK_ne k hy) (by omega) (fun r hr => by have := runsK_small k hy r hr; omega)).use B1 F27 N27 X1 T1 rfl ⟨rv, nr, N27.get (.tail _ (.head _)), hrt⟩ htk25' (by decide) (by decide) ?_
        rintro r h28 tk28 k28 htk28 htk28' F28 N28 ⟨t28, rfl⟩
        refine nameX_L F28 rfl (ne_str (wpAny_truthy_bool ?_))
        rw [law_tog k hy, bne, S_beq, if_neg (by simp)]
        refine wpAny_execs_nil ?_
        dsimp only
        refine wpAny_execs_cons (wpAny_If (wpAny_isTrue_Compare1 (list_items (cl := [(Str.ofString "table", L + 1 + 1 + 1)]) (fun Q E h => nameX_C N28 rfl (.head _) ho4 h) (N28.get (.tail _ (.head _))) (by rw [hrt.len]; omega) F28 N28 htk28' (fun v y' => ∃ z t t', v = .str (S z) t ∧ z ∈ runsK k y ∧ y' = .str (S (unwL (tabL k) z)) t') (fun C v s3 m3 E3 hv hn hx3 F3 N3 ht3 hk3 => ?_) fun D2 h29 tk29 ys k29 htk29 F29 N29 hp29 hkp29 => ?_)))
        · obtain ⟨z, t, rfl, hz⟩ := hrt.mem hv
          refine Call_ (nameE_K F3 X1 TR (by k_is) (callWith_K X1 (by k_is) (args_cons (nameE_L hn hx3 (args_cons (nameE_C N3 rfl (.tail _ (.tail _ (.head _))) ho3 (args_nil ⟨X1.keeps F3.keep, ?_⟩)))))))
          exact (does_unwritten (tabL k) z t d (by have := runsK_small k hy z hz; omega) (tab_small k).1 (tab_small k).2.1 (tab_small k).2.2).use B1 F3 N3 X1 T1 rfl ⟨es, nd, N3.get (.tail _ (.tail _ (.tail _ (.head _)))), hds, hok⟩ ht3 (by decide) (by decide) (fun r h' tk' k' _ _ _ _ ⟨t', e⟩ => ⟨⟨z, t, t', rfl, hz, e⟩, h', tk', rfl, k'⟩)
        have hut := hrt.paired hp29
        rw [law_unw k hy] at hut
        refine Call_ (nameX_K F29 X1 TR (by k_is) (callWith_K X1 (by k_is) (args_cons (nameX_C N29 rfl (.tail _ (.tail _ (.tail _ (.tail _ (.tail _ (.tail _ (.tail _ (.tail _ (.tail _ (.head _)))))))))) ho1 (args_nil ⟨X1.keeps F29.keep, ?_⟩)))))
        refine (does_runs y t2 (by omega)).use B1 F29 N29 X1 T1 rfl trivial htk29 (by decide) (by decide) ?_
        rintro r h30 tk30 k30 htk30 htk30' F30 N30 ⟨d30, v30, n30, rfl, hd30, hf30, ht30⟩
        refine ne_txts (N30.get (.head _)) hd30 hut ht30 (strOk_runs hy) (strOk_runs hy) (show (7 : Nat) + 64 < cLine by decide) (wpAny_truthy_bool ?_)
        rw [if_neg (by simp)]
        refine wpAny_execs_nil ?_
        dsimp only
        have N31 := fun q hq => N30 q (.tail _ hq)
        replace N31 : News g L h30 [(L + 1 + 1 + 1 + 1, o4'), (rl, listOf rv.toArray nr), (L + 1 + 1 + 1, o3'), (d, dictOf es nd), (L + 1 + 1, o2'), (I, oI), (D, listOf ((bs.map Value.bool).toArray) k14), (nl, listOf nv.toArray 0), (L + 1, o1'), (99, tabObj #[])] := N31
        refine wpAny_execs_cons (assign_items (cl := [(Str.ofString "kind", L + 1 + 1)]) (fun Q E h => nameX_L F30 hm1 h) (N31.get (.tail _ (.tail _ (.tail _ (.tail _ (.tail _ (.tail _ (.tail _ (.head _))))))))) (by rw [hnv.len]; omega) F30 N31 htk30' (fun v y' => ∃ z t t', v = .str (S z) t ∧ z ∈ names ∧ y' = .str (S (escL k z)) t') (fun C v s3 m3 E3 hv hn hx3 F3 N3 ht3 hk3 => ?_) fun W h32 tk32 wv k32 htk32 F32 N32 hp32 => ?_)
        · obtain ⟨z, t, rfl, hz⟩ := hnv.mem hv
          have hzl := (hnames z hz).1
          refine Call_ (nameE_K F3 X1 TR (by k_is) (callWith_K X1 (by k_is) (args_cons (nameE_C N3 rfl (.tail _ (.tail _ (.tail _ (.tail _ (.head _))))) ho2 (args_cons (nameE_L hn hx3 (args_nil ⟨X1.keeps F3.keep, ?_⟩)))))))
          exact (does_writing k hk z u t (by omega)).use B1 F3 N3 X1 T1 rfl trivial ht3 (by decide) (by decide) (fun r h' tk' k' _ _ _ _ ⟨t', e⟩ => ⟨⟨z, t, t', rfl, hz, e⟩, h', tk', rfl, k'⟩)
        have hwt := hnv.paired hp32
        dsimp only
        refine wpAny_execs_cons (wpAny_If (wpAny_isTrue_Compare1 (nameX_L F32 rfl (list_items (cl := [(Str.ofString "table", L + 1 + 1 + 1)]) (fun Q E h => nameX_L F32 hm1 h) (N32.get (.tail _ (.tail _ (.tail _ (.tail _ (.tail _ (.tail _ (.tail _ (.tail _ (.head _)))))))))) (by rw [hnv.len]; omega) F32 N32 htk32 (fun v y' => ∃ z t t', v = .str (S z) t ∧ z ∈ names ∧ y' = .str (S (z.flatMap (look (tabL k)))) t') (fun C v s3 m3 E3 hv hn hx3 F3 N3 ht3 hk3 => ?_) fun D4 h33 tk33 ys k33 htk33 F33 N33 hp33 hkp33 => ?_))))
        · obtain ⟨z, t, rfl, hz⟩ := hnv.mem hv
          have hzl := (hnames z hz).1
          refine MethodCall_ (Calls.Constant_str (GM.join (callWith_method1 (args_cons (list_chars (cl := [(Str.ofString "table", L + 1 + 1 + 1)]) (fun Q E h => nameE_L hn hx3 h) (by omega) F3 N3 (Nat.le_succ_of_le ht3) (fun c y' => ∃ t, y' = .str (S (look (tabL k) c)) t) (fun C2 c u2 s5 m5 E5 hc hn5 hx5 F5 N5 ht5 hk5 => ?_) fun D5 h6 tk6 ys6 k6 htk6 F6 N6 hp6 hkp6 => ?_)))))
          · refine MethodCall_ (nameE_C N5 rfl (.tail _ (.tail _ (.tail _ (.head _)))) ho3 (gm_dict_get (N5.get (.tail _ (.tail _ (.tail _ (.tail _ (.head _)))))) hok.strEnts (callWith_method1 (args_cons (nameE_L hn5 hx5 (args_cons (nameE_L hn5 hx5 (args_nil ?_))))))))
            exact get2_K (N5.get (.tail _ (.tail _ (.tail _ (.tail _ (.head _)))))) hds hok (fun t' => ⟨⟨t', rfl⟩, _, _, rfl, fun _ _ e => e⟩)
          · have hty := paired_txts (f := look (tabL k)) hp6 fun _ _ h => h
            refine args_nil ?_
            rw [show Str.ofString "" = S [] from rfl]
            have hb := flat_len6 k z fun c hc => .inr ((hnames z hz).2 c hc)
            rw [List.flatMap_def] at hb
            refine join_S (N6.get (.head _)) hty (by rw [List.length_map]; omega) htk6 fun t7 k7 hk7 => ?_
            exact ⟨⟨z, t, t7, rfl, hz, by rw [List.flatMap_def]⟩, h6, k7, rfl, hkp6⟩
        have hjt := hnv.paired hp33
        rw [show (names.map fun z => z.flatMap (look (tabL k))) = names.map (escL k) from List.map_congr_left fun z _ => (esc_look k z).symm] at hjt
        refine ne_txts (N33.get (.tail _ (.head _))) (N33.get (.head _)) hwt hjt (strOk_esc hnames) (strOk_esc hnames) (show (7 : Nat) + 64 < cLine by decide) (wpAny_truthy_bool ?_)
        rw [if_neg (by simp)]
        refine wpAny_execs_nil ?_
        dsimp only
        refine wpAny_execs_cons (wpAny_If (wpAny_isTrue_Compare1 (list_items (cl := [(Str.ofString "runs", L + 1 + 1 + 1 + 1)]) (fun Q E h => nameX_L F33 rfl h) (N33.get (.tail _ (.head _))) (by rw [hwt.len, List.length_map]; omega) F33 N33 htk33 (fun v b => ∃ z t, v = .str (S z) t ∧ b = .bool (fitsL (runsK k y) z)) (fun C v s3 m3 E3 hv hn hx3 F3 N3 ht3 hk3 => ?_) fun D6 h34 tk34 ys k34 htk34 F34 N34 hp34 hkp34 => ?_)))
        · obtain ⟨z0, t, rfl, hz0⟩ := hwt.mem hv
          obtain ⟨z, hz, rfl⟩ := List.mem_map.mp hz0
          have hzl := nam_esc (k := k) (hnames z hz)
          refine Call_ (nameE_K F3 X1 TR (by k_is) (callWith_K X1 (by k_is) (args_cons (nameE_C N3 rfl (.tail _ (.tail _ (.head _))) ho4 (args_cons (nameE_L hn hx3 (args_nil ⟨X1.keeps F3.keep, ?_⟩)))))))
          exact (does_fits (runsK k y) _ rl t (runsK_ne k hy) (by omega) (fun r hr => by have := runsK_small k hy r hr; omega) (by omega)).use B1 F3 N3 X1 T1 rfl ⟨rv, nr, N3.get (.tail _ (.tail _ (.tail _ (.head _)))), hrt⟩ ht3 (by decide) (by decide) (fun r h' tk' k' _ _ _ _ e => ⟨⟨_, t, rfl, e⟩, h', tk', rfl, k'⟩)
        have hfb := paired_bools hwt hp34
        subst hfb
        rw [show (names.map (escL k)).map (fitsL (runsK k y)) = bs from by rw [List.map_map, ← hbs]; exact List.map_congr_left fun z hz => law_fits k hy (hnames z hz).2] at N34
        refine nameX_L F34 hm2 (ne_bools (N34.get (.head _)) (N34.get (.tail _ (.tail _ (.tail _ (.tail _ (.tail _ (.tail _ (.tail _ (.tail _ (.tail _ (.head _))))))))))) (show (7 : Nat) + 64 < cLine by decide) (wpAny_truthy_bool ?_))
        rw [if_neg (by simp)]
        refine wpAny_execs_nil ?_
        dsimp only
        refine wpAny_execs_nil (TurnEnd.go (news' := [(L + 1 + 1 + 1 + 1, o4'), (L + 1 + 1 + 1, o3'), (L + 1 + 1, o2')]) htk34 F34 (fun q hq => N34 q ?_) (fun q hq => ?_) ⟨o4', o3', o2', rfl, ⟨_, ho4⟩, ⟨_, ho3⟩, ⟨_, ho2⟩, hm1, hm2⟩)
        · simp only [List.mem_append, List.mem_cons, List.not_mem_nil, or_false] at hq ⊢
          rcases hq with (hq | hq | hq | hq | hq) | hq | hq | hq <;> simp [hq]
        · simp only [List.mem_cons, List.not_mem_nil, or_false] at hq
          rcases hq with rfl | rfl | rfl
          · exact hI4
          · exact hI3
          · exact hI2
      · rintro h16 tk16 m16 nx htk16 F16 N16 ⟨o4, o3, o2, rfl, _⟩
        exact wpAny_execs_cons (wpAny_Return_some (wpAny_Constant_bool ⟨rfl, h16, tk16, m16, rfl, F16, fun q hq => N16 q (by rw [List.mem_singleton.mp hq]; simp)⟩))
end Mine
set_option maxHeartbeats 4000000
theorem PySem.Challenge.cw_ij0046_01_holds : PySem.Challenge.rw_ij0046_01.Holds := by
  exact Mine.lawX
