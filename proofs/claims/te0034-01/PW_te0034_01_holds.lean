import PyProof.Rows.All
import Wide.All
import OpenK.AllK
import Wide.FinOn
import KE.KEqDict
import Lean
import PySem.Challenge.RW_te0034_01
open PySem PySem.W PySem.Calls PyProof.Rows
set_option Elab.async false
set_option maxRecDepth 100000
set_option linter.all false
set_option compiler.extract_closed false
namespace Mine
-- N0
section
noncomputable section
/-! ### the head: the top is run in one go, over a tree -/
theorem top_of_seg {tb : String → Option Builtin} {p : Program} {w : World} {n₀ : Nat} {ann : Option Value} : ∀ {n : Nat} {s s' : Shared} {t : Thread} {f : Flow} {c : PySem.Code} {q : PySem.Pos}, segRun tb p w n₀ ann 0 n s t = some (f, s', c, q) → topRun tb p w n₀ ann n s t = some s'
  | 0, _, _, _, _, _, _, h => by cases h
  | n + 1, s, s', t, f, c, q, h => by
    unfold segRun at h
    unfold topRun
    obtain ⟨cur, code, pos, st⟩ := t
    cases st with
    | nil =>
      cases he : endAt 0 (⟨cur, code, pos, []⟩ : Thread) with
      | some g =>
        rw [he] at h
        cases h
        have : through (⟨cur, code, pos, []⟩ : Thread) = true := by
          unfold endAt at he
          unfold through
          cases cur with
          | pure x => cases x with
            | done _ => rfl
            | again _ => simp at he
          | _ => simp at he
        rw [this]
      | none =>
        rw [he] at h
        have : through (⟨cur, code, pos, []⟩ : Thread) = false := by
          unfold endAt at he
          unfold through
          cases cur with
          | pure x => cases x with
            | done _ => simp at he
            | again _ => rfl
          | _ => rfl
        rw [this]
        dsimp only at h ⊢
        cases hk : stepOk n₀ ann (⟨cur, code, pos, []⟩ : Thread) with
        | false => rw [hk] at h; cases h
        | true =>
          rw [hk] at h
          dsimp only at h ⊢
          cases hs : step (denote tb) p w s (⟨cur, code, pos, []⟩ : Thread) with
          | halt o s₂ => rw [hs] at h; cases h
          | go s₂ t₂ => rw [hs] at h; exact top_of_seg h
    | cons fr st =>
      have he : endAt 0 (⟨cur, code, pos, fr :: st⟩ : Thread) = none := rfl
      have ht : through (⟨cur, code, pos, fr :: st⟩ : Thread) = false := rfl
      rw [he] at h
      rw [ht]
      dsimp only at h ⊢
      cases hk : stepOk n₀ ann (⟨cur, code, pos, fr :: st⟩ : Thread) with
      | false => rw [hk] at h; cases h
      | true =>
        rw [hk] at h
        dsimp only at h ⊢
        cases hs : step (denote tb) p w s (⟨cur, code, pos, fr :: st⟩ : Thread) with
        | halt o s₂ => rw [hs] at h; cases h
        | go s₂ t₂ => rw [hs] at h; exact top_of_seg h
noncomputable def bootTree (P : Params) : BT :=
  .node (boot_o_0 P) (.node (boot_o_1 P) (.node (boot_o_3 P) (.node (boot_o_7 P) .nil .nil) .nil) (.node (boot_o_5 P) (.node (boot_o_9 P) .nil .nil) .nil))
    (.node (boot_o_2 P) (.node (boot_o_4 P) (.node (boot_o_8 P) .nil .nil) .nil) (.node (boot_o_6 P) (.node (boot_o_10 P) .nil .nil) .nil))
theorem boot_abs (P : Params) : absHeap (bootTree P) 11 {} = boot_heap P := by kernel_rfl
noncomputable abbrev boot0 (w : World) (os : OsState) : SharedT := ⟨bootTree w.params, 11, {}, #[], boot_drawn, boot_toks, os⟩
noncomputable def looksF (p q : Program) (loose : List Str) (Xt : Shared → Bool) {α : Type} (Yf : Shared → α) (P : Params) (s : Shared) :=
  ((staticsOk (importedModules p.main.body) (boot_heap P) s.heap && namesBound p s.heap && gensDone s && laidKept (boot_heap P) s.heap), openSeen q loose (importedModules p.main.body) Xt true s, Yf s)
theorem left_of {p q : Program} {loose : List Str} {Xt : Shared → Bool} {α : Type} {Yf : Shared → α} {Ya : World → α} {N M : Nat} {ann : Option Value}
    (e : opening p = plainProg p.main.scope.names) (hN : Nat.ble 600 N = true) (f : ∀ s, fenceModules? p s = some s)
    (size : ∀ w : World, ((boot_heap w.params).isNs mainGlobals && (#[] : Array GenState).size == 0, (boot_heap w.params).objs.size, (boot_heap w.params).nsMap mainGlobals "__annotations__") = (true, 11, ann))
    (run : ∀ w : World, (fun os => (segRunT treeTable p w 11 ann 0 M (boot0 w os) (topStub p)).map fun r => looksF p q loose Xt Yf w.params r.2.1.abs) = fun _ => some (true, openGood q loose, Ya w))
    (le : Nat.ble M N = true) : LeftO p q loose Xt Yf Ya N := fun w => by
  obtain ⟨⟨h, gs, d, k, os⟩, e, e'⟩ := Option.map_eq_some_iff.mp (boot_open e hN f w)
  obtain ⟨rfl, rfl, rfl, rfl⟩ : h = boot_heap w.params ∧ gs = Array.mk [] ∧ d = boot_drawn ∧ k = boot_toks := by simpa using e'
  obtain ⟨z1, z2, z3⟩ : _ ∧ _ ∧ _ := by simpa only [Prod.mk.injEq] using size w
  obtain ⟨⟨fl, sT, c, q'⟩, hr, hl⟩ := Option.map_eq_some_iff.mp (congrFun (run w) os)
  have hr := top_of_seg (segRun_of hr)
  have eb : (boot0 w os).abs = ⟨boot_heap w.params, #[], boot_drawn, boot_toks, os⟩ := by show Shared.mk (absHeap (bootTree w.params) 11 {}) _ _ _ _ = _; rw [boot_abs]
  rw [eb] at hr
  have l1 := congrArg (·.1) hl
  have l23 := congrArg (·.2) hl
  dsimp only [looksF] at l1 l23
  have r := topRun_mono (N - M) _ _ _ _ hr
  rw [show M + (N - M) = N by have := Nat.le_of_ble_eq_true le; omega] at r
  have t : topFrom treeTable p w N ⟨boot_heap w.params, Array.mk [], boot_drawn, boot_toks, os⟩ = some sT.abs := by
    unfold topFrom
    dsimp only
    rw [z1, z2, z3, r]
    show (match staticsOk (importedModules p.main.body) (boot_heap w.params) sT.abs.heap && namesBound p sT.abs.heap && gensDone sT.abs && laidKept (boot_heap w.params) sT.abs.heap with | true => _ | false => _) = _
    rw [l1]
  unfold openEnds
  rw [e]
  show (topFrom treeTable p w N _).map _ = _
  rw [t]
  exact congrArg some l23
end
end
-- N1
section
noncomputable section
@[reducible] noncomputable def keepFst {α : Type} (b c : α) (_ : b = c) : α := b
noncomputable abbrev pw : Program := PySem.Challenge.pw_te0034_01
noncomputable abbrev rw1 : OpenLaw := PySem.Challenge.rw_te0034_01
noncomputable def stAt (i : Nat) : Stmt := pw.main.body.getD i (.Pass default)
noncomputable def bodyOf : Stmt → List Stmt
  | .FunctionDef _ _ b .. => b
  | .ClassDef _ _ _ b .. => b
  | _ => []
noncomputable def argsOf : Stmt → Arguments
  | .FunctionDef _ a .. => a
  | _ => ⟨[], [], none, [], [], none, []⟩
noncomputable def scopeOf : Stmt → Scope
  | .FunctionDef _ _ _ _ _ _ s .. => s
  | _ => default
noncomputable def inAt (i j : Nat) : Stmt := (bodyOf (stAt i)).getD j (.Pass default)
noncomputable def st_63 : Stmt := by
  refine keepFst ?b (inAt 13 0) ?h
  case h => (conv => rhs; whnf)
noncomputable def st_70 : Stmt := by
  refine keepFst ?b (inAt 13 1) ?h
  case h => (conv => rhs; whnf)
noncomputable def st_84 : Stmt := by
  refine keepFst ?b (stAt 14) ?h
  case h => (conv => rhs; whnf)
noncomputable def st_98 : Stmt := by
  refine keepFst ?b (inAt 15 1) ?h
  case h => (conv => rhs; whnf)
noncomputable def st_105 : Stmt := by
  refine keepFst ?b (inAt 15 2) ?h
  case h => (conv => rhs; whnf)
noncomputable def st_112 : Stmt := by
  refine keepFst ?b (inAt 15 3) ?h
  case h => (conv => rhs; whnf)
noncomputable def st_119 : Stmt := by
  refine keepFst ?b (inAt 15 4) ?h
  case h => (conv => rhs; whnf)
noncomputable def st_126 : Stmt := by
  refine keepFst ?b (inAt 15 5) ?h
  case h => (conv => rhs; whnf)
noncomputable def st_133 : Stmt := by
  refine keepFst ?b (inAt 15 6) ?h
  case h => (conv => rhs; whnf)
noncomputable def st_141 : Stmt := by
  refine keepFst ?b (inAt 15 7) ?h
  case h => (conv => rhs; whnf)
noncomputable def st_148 : Stmt := by
  refine keepFst ?b (inAt 15 8) ?h
  case h => (conv => rhs; whnf)
noncomputable def st_156 : Stmt := by
  refine keepFst ?b (inAt 15 9) ?h
  case h => (conv => rhs; whnf)
noncomputable def st_163 : Stmt := by
  refine keepFst ?b (inAt 15 10) ?h
  case h => (conv => rhs; whnf)
noncomputable def st_261 : Stmt := by
  refine keepFst ?b (inAt 21 0) ?h
  case h => (conv => rhs; whnf)
noncomputable def st_268 : Stmt := by
  refine keepFst ?b (inAt 21 1) ?h
  case h => (conv => rhs; whnf)
noncomputable def st_304 : Stmt := by
  refine keepFst ?b (inAt 21 6) ?h
  case h => (conv => rhs; whnf)
noncomputable def st_346 : Stmt := by
  refine keepFst ?b (inAt 21 12) ?h
  case h => (conv => rhs; whnf)
noncomputable def st_773 : Stmt := by
  refine keepFst ?b (stAt 25) ?h
  case h => (conv => rhs; whnf)
noncomputable def theK (P : Params) : Frag := [
  (3, { cls := .type "dict", dict := none, data := .dict #[⟨PyData.keyHash P (Str.ofString "__name__"), .str (Str.ofString "__name__") 165, .str (Str.ofString "law_te0034_01") 1445⟩, ⟨PyData.keyHash P (Str.ofString "__doc__"), .str (Str.ofString "__doc__") 166, .none⟩, ⟨PyData.keyHash P (Str.ofString "__package__"), .str (Str.ofString "__package__") 167, .none⟩, ⟨PyData.keyHash P (Str.ofString "__loader__"), .str (Str.ofString "__loader__") 168, .builtin "__main__.__loader__#opaque"⟩, ⟨PyData.keyHash P (Str.ofString "__spec__"), .str (Str.ofString "__spec__") 169, .none⟩, ⟨PyData.keyHash P (Str.ofString "__annotations__"), .str (Str.ofString "__annotations__") 170, .ref 6⟩, ⟨PyData.keyHash P (Str.ofString "__builtins__"), .str (Str.ofString "__builtins__") 171, .ref 4⟩, ⟨PyData.keyHash P (Str.ofString "__file__"), .str (Str.ofString "__file__") 173, .str (Str.ofString "/claim/cut.py") 172⟩, ⟨PyData.keyHash P (Str.ofString "__cached__"), .str (Str.ofString "__cached__") 174, .none⟩, ⟨PyData.keyHash P (Str.ofString "_wall"), .str (Str.ofString "_wall") 193, .ref 21⟩, ⟨PyData.keyHash P (Str.ofString "EOF"), .str (Str.ofString "EOF") 196, .none⟩, ⟨PyData.keyHash P (Str.ofString "spaceCharacters"), .str (Str.ofString "spaceCharacters") 202, .ref 22⟩, ⟨PyData.keyHash P (Str.ofString "asciiLetters"), .str (Str.ofString "asciiLetters") 256, .ref 27⟩, ⟨PyData.keyHash P (Str.ofString "digits"), .str (Str.ofString "digits") 268, .ref 32⟩, ⟨PyData.keyHash P (Str.ofString "hexDigits"), .str (Str.ofString "hexDigits") 292, .ref 37⟩, ⟨PyData.keyHash P (Str.ofString "asciiLower"), .str (Str.ofString "asciiLower") 298, .ref 42⟩, ⟨PyData.keyHash P (Str.ofString "entities"), .str (Str.ofString "entities") 428, .ref 43⟩, ⟨PyData.keyHash P (Str.ofString "replacementCharacters"), .str (Str.ofString "replacementCharacters") 531, .ref 46⟩, ⟨PyData.keyHash P (Str.ofString "tokenTypes"), .str (Str.ofString "tokenTypes") 556, .ref 48⟩, ⟨PyData.keyHash P (Str.ofString "tagTokenTypes"), .str (Str.ofString "tagTokenTypes") 563, .ref 49⟩, ⟨PyData.keyHash P (Str.ofString "Text"), .str (Str.ofString "Text") 604, .ref 73⟩, ⟨PyData.keyHash P (Str.ofString "_is_invalid"), .str (Str.ofString "_is_invalid") 611, .ref 84⟩, ⟨PyData.keyHash P (Str.ofString "HTMLUnicodeInputStream"), .str (Str.ofString "HTMLUnicodeInputStream") 737, .ref 166⟩, ⟨PyData.keyHash P (Str.ofString "bisect_left"), .str (Str.ofString "bisect_left") 751, .ref 178⟩, ⟨PyData.keyHash P (Str.ofString "Trie"), .str (Str.ofString "Trie") 826, .ref 230⟩, ⟨PyData.keyHash P (Str.ofString "entitiesTrie"), .str (Str.ofString "entitiesTrie") 843, .ref 236⟩, ⟨PyData.keyHash P (Str.ofString "HTMLTokenizer"), .str (Str.ofString "HTMLTokenizer") 1444, .ref 762⟩, ⟨PyData.keyHash P (Str.ofString "_law_PIECES"), .str (Str.ofString "_law_PIECES") 1463, .ref 767⟩, ⟨PyData.keyHash P (Str.ofString "_law_FAULTY"), .str (Str.ofString "_law_FAULTY") 1468, .ref 768⟩, ⟨PyData.keyHash P (Str.ofString "law"), .str (Str.ofString "law") 1474, .ref 773⟩] 30, slots := #[] }),
  (22, { cls := .type "tuple", dict := none, data := .seq #[.str (Str.ofString "\t") 197, .str (Str.ofString "\n") 198, .str (Str.ofString "\x0c") 199, .str (Str.ofString " ") 200, .str (Str.ofString "\r") 201] 0, slots := #[] }),
  (27, { cls := .type "tuple", dict := none, data := .seq #[.str (Str.ofString "a") 204, .str (Str.ofString "b") 205, .str (Str.ofString "c") 206, .str (Str.ofString "d") 207, .str (Str.ofString "e") 208, .str (Str.ofString "f") 209, .str (Str.ofString "g") 210, .str (Str.ofString "h") 211, .str (Str.ofString "i") 212, .str (Str.ofString "j") 213, .str (Str.ofString "k") 214, .str (Str.ofString "l") 215, .str (Str.ofString "m") 216, .str (Str.ofString "n") 217, .str (Str.ofString "o") 218, .str (Str.ofString "p") 219, .str (Str.ofString "q") 220, .str (Str.ofString "r") 221, .str (Str.ofString "s") 222, .str (Str.ofString "t") 223, .str (Str.ofString "u") 224, .str (Str.ofString "v") 225, .str (Str.ofString "w") 226, .str (Str.ofString "x") 227, .str (Str.ofString "y") 228, .str (Str.ofString "z") 229, .str (Str.ofString "A") 230, .str (Str.ofString "B") 231, .str (Str.ofString "C") 232, .str (Str.ofString "D") 233, .str (Str.ofString "E") 234, .str (Str.ofString "F") 235, .str (Str.ofString "G") 236, .str (Str.ofString "H") 237, .str (Str.ofString "I") 238, .str (Str.ofString "J") 239, .str (Str.ofString "K") 240, .str (Str.ofString "L") 241, .str (Str.ofString "M") 242, .str (Str.ofString "N") 243, .str (Str.ofString "O") 244, .str (Str.ofString "P") 245, .str (Str.ofString "Q") 246, .str (Str.ofString "R") 247, .str (Str.ofString "S") 248, .str (Str.ofString "T") 249, .str (Str.ofString "U") 250, .str (Str.ofString "V") 251, .str (Str.ofString "W") 252, .str (Str.ofString "X") 253, .str (Str.ofString "Y") 254, .str (Str.ofString "Z") 255] 0, slots := #[] }),
  (48, { cls := .type "dict", dict := none, data := .dict #[⟨PyData.keyHash P (Str.ofString "Doctype"), .str (Str.ofString "Doctype") 532, .int 0 533⟩, ⟨PyData.keyHash P (Str.ofString "Characters"), .str (Str.ofString "Characters") 534, .int 1 535⟩, ⟨PyData.keyHash P (Str.ofString "SpaceCharacters"), .str (Str.ofString "SpaceCharacters") 536, .int 2 537⟩, ⟨PyData.keyHash P (Str.ofString "StartTag"), .str (Str.ofString "StartTag") 538, .int 3 539⟩, ⟨PyData.keyHash P (Str.ofString "EndTag"), .str (Str.ofString "EndTag") 540, .int 4 541⟩, ⟨PyData.keyHash P (Str.ofString "EmptyTag"), .str (Str.ofString "EmptyTag") 542, .int 5 543⟩, ⟨PyData.keyHash P (Str.ofString "Comment"), .str (Str.ofString "Comment") 544, .int 6 545⟩, ⟨PyData.keyHash P (Str.ofString "ParseError"), .str (Str.ofString "ParseError") 546, .int 7 547⟩] 8, slots := #[] }),
  (62, { cls := .type "code", dict := none, data := .fields #[.str (Str.ofString "__init__") 578, .str (Str.ofString "Text.__init__") 579, .str (Str.ofString "/claim/cut.py") 580, .int 19 0, .int 2 0, .int 0 0, .int 0 0, .int 3 0, .ref 57, .bool true, .int 181 0, .ref 58, .none, .ref 59, .ref 60, .ref 61, .int 583 0, .int 19 0, .str (Str.ofString "/claim/cut.py") 584], slots := #[] }),
  (63, { cls := .type "function", dict := none, data := .func { name := (Str.ofString "__init__"), qualname := (Str.ofString "Text.__init__"), params := argsOf st_63, body := .stmts (bodyOf st_63), scope := scopeOf st_63, globals := 3, closure := [], defaults := .none, kwdefaults := .none, doc := .none, pyModule := .str (Str.ofString "html5lib._inputstream") 564, annotations := none, code := .ref 62, closureTuple := .none, builtins := 0 }, slots := #[] }),
  (69, { cls := .type "code", dict := none, data := .fields #[.str (Str.ofString "read") 586, .str (Str.ofString "Text.read") 587, .str (Str.ofString "/claim/cut.py") 588, .int 23 0, .int 2 0, .int 0 0, .int 0 0, .int 3 0, .ref 64, .bool true, .int 181 0, .ref 65, .none, .ref 66, .ref 67, .ref 68, .int 592 0, .int 23 0, .str (Str.ofString "/claim/cut.py") 593], slots := #[] }),
  (70, { cls := .type "function", dict := none, data := .func { name := (Str.ofString "read"), qualname := (Str.ofString "Text.read"), params := argsOf st_70, body := .stmts (bodyOf st_70), scope := scopeOf st_70, globals := 3, closure := [], defaults := .none, kwdefaults := .none, doc := .none, pyModule := .str (Str.ofString "html5lib._inputstream") 564, annotations := none, code := .ref 69, closureTuple := .none, builtins := 0 }, slots := #[] }),
  (72, { cls := .type "dict", dict := none, data := .dict #[⟨PyData.keyHash P (Str.ofString "__module__"), .str (Str.ofString "__module__") 573, .str (Str.ofString "html5lib._inputstream") 564⟩, ⟨PyData.keyHash P (Str.ofString "__firstlineno__"), .str (Str.ofString "__firstlineno__") 577, .int 17 576⟩, ⟨PyData.keyHash P (Str.ofString "__init__"), .str (Str.ofString "__init__") 585, .ref 63⟩, ⟨PyData.keyHash P (Str.ofString "read"), .str (Str.ofString "read") 594, .ref 70⟩, ⟨PyData.keyHash P (Str.ofString "__static_attributes__"), .str (Str.ofString "__static_attributes__") 597, .ref 71⟩, ⟨PyData.keyHash P (Str.ofString "__dict__"), .str (Str.ofString "__dict__") 599, .ref 74⟩, ⟨PyData.keyHash P (Str.ofString "__weakref__"), .str (Str.ofString "__weakref__") 601, .ref 75⟩, ⟨PyData.keyHash P (Str.ofString "__doc__"), .str (Str.ofString "__doc__") 602, .none⟩] 4, slots := #[] }),
  (73, { cls := .type "type", dict := none, data := .cls { name := (Str.ofString "Text"), bases := [.type "object"], mro := [.ref 73, .type "object"], ns := 72, qualname := (Str.ofString "Text"), hasDict := true, slotNames := [], subclasses := [], abstract := false, collection := none, hasDel := false }, slots := #[some (.ref 50), none, some (.str (Str.ofString "Text") 566), some (.str (Str.ofString "Text") 574), some (.builtin "object.__new__"), some (.bool true)] }),
  (83, { cls := .type "code", dict := none, data := .fields #[.str (Str.ofString "_is_invalid") 605, .str (Str.ofString "_is_invalid") 606, .str (Str.ofString "/claim/cut.py") 607, .int 27 0, .int 1 0, .int 0 0, .int 0 0, .int 3 0, .ref 78, .bool true, .int 181 0, .ref 79, .none, .ref 80, .ref 81, .ref 82, .int 609 0, .int 27 0, .str (Str.ofString "/claim/cut.py") 610], slots := #[] }),
  (84, { cls := .type "function", dict := none, data := .func { name := (Str.ofString "_is_invalid"), qualname := (Str.ofString "_is_invalid"), params := argsOf st_84, body := .stmts (bodyOf st_84), scope := scopeOf st_84, globals := 3, closure := [], defaults := .none, kwdefaults := .none, doc := .none, pyModule := .str (Str.ofString "html5lib._inputstream") 564, annotations := none, code := .ref 83, closureTuple := .none, builtins := 0 }, slots := #[] }),
  (97, { cls := .type "code", dict := none, data := .fields #[.str (Str.ofString "__init__") 626, .str (Str.ofString "HTMLUnicodeInputStream.__init__") 627, .str (Str.ofString "/claim/cut.py") 628, .int 32 0, .int 2 0, .int 0 0, .int 0 0, .int 3 0, .ref 92, .bool true, .int 181 0, .ref 93, .none, .ref 94, .ref 95, .ref 96, .int 631 0, .int 32 0, .str (Str.ofString "/claim/cut.py") 632], slots := #[] }),
  (98, { cls := .type "function", dict := none, data := .func { name := (Str.ofString "__init__"), qualname := (Str.ofString "HTMLUnicodeInputStream.__init__"), params := argsOf st_98, body := .stmts (bodyOf st_98), scope := scopeOf st_98, globals := 3, closure := [], defaults := .none, kwdefaults := .none, doc := .none, pyModule := .str (Str.ofString "html5lib._inputstream") 564, annotations := none, code := .ref 97, closureTuple := .none, builtins := 0 }, slots := #[] }),
  (104, { cls := .type "code", dict := none, data := .fields #[.str (Str.ofString "reset") 634, .str (Str.ofString "HTMLUnicodeInputStream.reset") 635, .str (Str.ofString "/claim/cut.py") 636, .int 38 0, .int 1 0, .int 0 0, .int 0 0, .int 3 0, .ref 99, .bool true, .int 181 0, .ref 100, .none, .ref 101, .ref 102, .ref 103, .int 638 0, .int 38 0, .str (Str.ofString "/claim/cut.py") 639], slots := #[] }),
  (105, { cls := .type "function", dict := none, data := .func { name := (Str.ofString "reset"), qualname := (Str.ofString "HTMLUnicodeInputStream.reset"), params := argsOf st_105, body := .stmts (bodyOf st_105), scope := scopeOf st_105, globals := 3, closure := [], defaults := .none, kwdefaults := .none, doc := .none, pyModule := .str (Str.ofString "html5lib._inputstream") 564, annotations := none, code := .ref 104, closureTuple := .none, builtins := 0 }, slots := #[] }),
  (111, { cls := .type "code", dict := none, data := .fields #[.str (Str.ofString "openStream") 641, .str (Str.ofString "HTMLUnicodeInputStream.openStream") 642, .str (Str.ofString "/claim/cut.py") 643, .int 47 0, .int 2 0, .int 0 0, .int 0 0, .int 3 0, .ref 106, .bool true, .int 181 0, .ref 107, .none, .ref 108, .ref 109, .ref 110, .int 647 0, .int 47 0, .str (Str.ofString "/claim/cut.py") 648], slots := #[] }),
  (112, { cls := .type "function", dict := none, data := .func { name := (Str.ofString "openStream"), qualname := (Str.ofString "HTMLUnicodeInputStream.openStream"), params := argsOf st_112, body := .stmts (bodyOf st_112), scope := scopeOf st_112, globals := 3, closure := [], defaults := .none, kwdefaults := .none, doc := .none, pyModule := .str (Str.ofString "html5lib._inputstream") 564, annotations := none, code := .ref 111, closureTuple := .none, builtins := 0 }, slots := #[] }),
  (118, { cls := .type "code", dict := none, data := .fields #[.str (Str.ofString "_position") 650, .str (Str.ofString "HTMLUnicodeInputStream._position") 651, .str (Str.ofString "/claim/cut.py") 652, .int 51 0, .int 2 0, .int 0 0, .int 0 0, .int 3 0, .ref 113, .bool true, .int 181 0, .ref 114, .none, .ref 115, .ref 116, .ref 117, .int 660 0, .int 51 0, .str (Str.ofString "/claim/cut.py") 661], slots := #[] }),
  (119, { cls := .type "function", dict := none, data := .func { name := (Str.ofString "_position"), qualname := (Str.ofString "HTMLUnicodeInputStream._position"), params := argsOf st_119, body := .stmts (bodyOf st_119), scope := scopeOf st_119, globals := 3, closure := [], defaults := .none, kwdefaults := .none, doc := .none, pyModule := .str (Str.ofString "html5lib._inputstream") 564, annotations := none, code := .ref 118, closureTuple := .none, builtins := 0 }, slots := #[] }),
  (125, { cls := .type "code", dict := none, data := .fields #[.str (Str.ofString "position") 663, .str (Str.ofString "HTMLUnicodeInputStream.position") 664, .str (Str.ofString "/claim/cut.py") 665, .int 62 0, .int 1 0, .int 0 0, .int 0 0, .int 3 0, .ref 120, .bool true, .int 181 0, .ref 121, .none, .ref 122, .ref 123, .ref 124, .int 669 0, .int 62 0, .str (Str.ofString "/claim/cut.py") 670], slots := #[] }),
  (126, { cls := .type "function", dict := none, data := .func { name := (Str.ofString "position"), qualname := (Str.ofString "HTMLUnicodeInputStream.position"), params := argsOf st_126, body := .stmts (bodyOf st_126), scope := scopeOf st_126, globals := 3, closure := [], defaults := .none, kwdefaults := .none, doc := .none, pyModule := .str (Str.ofString "html5lib._inputstream") 564, annotations := none, code := .ref 125, closureTuple := .none, builtins := 0 }, slots := #[] }),
  (132, { cls := .type "code", dict := none, data := .fields #[.str (Str.ofString "char") 672, .str (Str.ofString "HTMLUnicodeInputStream.char") 673, .str (Str.ofString "/claim/cut.py") 674, .int 66 0, .int 1 0, .int 0 0, .int 0 0, .int 3 0, .ref 127, .bool true, .int 181 0, .ref 128, .none, .ref 129, .ref 130, .ref 131, .int 678 0, .int 66 0, .str (Str.ofString "/claim/cut.py") 679], slots := #[] }),
  (133, { cls := .type "function", dict := none, data := .func { name := (Str.ofString "char"), qualname := (Str.ofString "HTMLUnicodeInputStream.char"), params := argsOf st_133, body := .stmts (bodyOf st_133), scope := scopeOf st_133, globals := 3, closure := [], defaults := .none, kwdefaults := .none, doc := .none, pyModule := .str (Str.ofString "html5lib._inputstream") 564, annotations := none, code := .ref 132, closureTuple := .none, builtins := 0 }, slots := #[] }),
  (134, { cls := .type "tuple", dict := none, data := .seq #[.none] 0, slots := #[] }),
  (140, { cls := .type "code", dict := none, data := .fields #[.str (Str.ofString "readChunk") 681, .str (Str.ofString "HTMLUnicodeInputStream.readChunk") 682, .str (Str.ofString "/claim/cut.py") 683, .int 75 0, .int 2 0, .int 0 0, .int 0 0, .int 3 0, .ref 135, .bool true, .int 181 0, .ref 136, .none, .ref 137, .ref 138, .ref 139, .int 688 0, .int 75 0, .str (Str.ofString "/claim/cut.py") 689], slots := #[] }),
  (141, { cls := .type "function", dict := none, data := .func { name := (Str.ofString "readChunk"), qualname := (Str.ofString "HTMLUnicodeInputStream.readChunk"), params := argsOf st_141, body := .stmts (bodyOf st_141), scope := scopeOf st_141, globals := 3, closure := [], defaults := .ref 134, kwdefaults := .none, doc := .none, pyModule := .str (Str.ofString "html5lib._inputstream") 564, annotations := none, code := .ref 140, closureTuple := .none, builtins := 0 }, slots := #[] }),
  (147, { cls := .type "code", dict := none, data := .fields #[.str (Str.ofString "characterErrorsUCS4") 691, .str (Str.ofString "HTMLUnicodeInputStream.characterErrorsUCS4") 692, .str (Str.ofString "/claim/cut.py") 693, .int 101 0, .int 2 0, .int 0 0, .int 0 0, .int 3 0, .ref 142, .bool true, .int 181 0, .ref 143, .none, .ref 144, .ref 145, .ref 146, .int 697 0, .int 101 0, .str (Str.ofString "/claim/cut.py") 698], slots := #[] }),
  (148, { cls := .type "function", dict := none, data := .func { name := (Str.ofString "characterErrorsUCS4"), qualname := (Str.ofString "HTMLUnicodeInputStream.characterErrorsUCS4"), params := argsOf st_148, body := .stmts (bodyOf st_148), scope := scopeOf st_148, globals := 3, closure := [], defaults := .none, kwdefaults := .none, doc := .none, pyModule := .str (Str.ofString "html5lib._inputstream") 564, annotations := none, code := .ref 147, closureTuple := .none, builtins := 0 }, slots := #[] }),
  (149, { cls := .type "tuple", dict := none, data := .seq #[.bool false] 0, slots := #[] }),
  (155, { cls := .type "code", dict := none, data := .fields #[.str (Str.ofString "charsUntil") 700, .str (Str.ofString "HTMLUnicodeInputStream.charsUntil") 701, .str (Str.ofString "/claim/cut.py") 702, .int 106 0, .int 3 0, .int 0 0, .int 0 0, .int 3 0, .ref 150, .bool true, .int 181 0, .ref 151, .none, .ref 152, .ref 153, .ref 154, .int 709 0, .int 106 0, .str (Str.ofString "/claim/cut.py") 710], slots := #[] }),
  (156, { cls := .type "function", dict := none, data := .func { name := (Str.ofString "charsUntil"), qualname := (Str.ofString "HTMLUnicodeInputStream.charsUntil"), params := argsOf st_156, body := .stmts (bodyOf st_156), scope := scopeOf st_156, globals := 3, closure := [], defaults := .ref 149, kwdefaults := .none, doc := .none, pyModule := .str (Str.ofString "html5lib._inputstream") 564, annotations := none, code := .ref 155, closureTuple := .none, builtins := 0 }, slots := #[] }),
  (162, { cls := .type "code", dict := none, data := .fields #[.str (Str.ofString "unget") 712, .str (Str.ofString "HTMLUnicodeInputStream.unget") 713, .str (Str.ofString "/claim/cut.py") 714, .int 125 0, .int 2 0, .int 0 0, .int 0 0, .int 3 0, .ref 157, .bool true, .int 181 0, .ref 158, .none, .ref 159, .ref 160, .ref 161, .int 717 0, .int 125 0, .str (Str.ofString "/claim/cut.py") 718], slots := #[] }),
  (163, { cls := .type "function", dict := none, data := .func { name := (Str.ofString "unget"), qualname := (Str.ofString "HTMLUnicodeInputStream.unget"), params := argsOf st_163, body := .stmts (bodyOf st_163), scope := scopeOf st_163, globals := 3, closure := [], defaults := .none, kwdefaults := .none, doc := .none, pyModule := .str (Str.ofString "html5lib._inputstream") 564, annotations := none, code := .ref 162, closureTuple := .none, builtins := 0 }, slots := #[] }),
  (165, { cls := .type "dict", dict := none, data := .dict #[⟨PyData.keyHash P (Str.ofString "__module__"), .str (Str.ofString "__module__") 619, .str (Str.ofString "html5lib._inputstream") 564⟩, ⟨PyData.keyHash P (Str.ofString "__firstlineno__"), .str (Str.ofString "__firstlineno__") 623, .int 29 622⟩, ⟨PyData.keyHash P (Str.ofString "_defaultChunkSize"), .str (Str.ofString "_defaultChunkSize") 625, .int 10240 624⟩, ⟨PyData.keyHash P (Str.ofString "__init__"), .str (Str.ofString "__init__") 633, .ref 98⟩, ⟨PyData.keyHash P (Str.ofString "reset"), .str (Str.ofString "reset") 640, .ref 105⟩, ⟨PyData.keyHash P (Str.ofString "openStream"), .str (Str.ofString "openStream") 649, .ref 112⟩, ⟨PyData.keyHash P (Str.ofString "_position"), .str (Str.ofString "_position") 662, .ref 119⟩, ⟨PyData.keyHash P (Str.ofString "position"), .str (Str.ofString "position") 671, .ref 126⟩, ⟨PyData.keyHash P (Str.ofString "char"), .str (Str.ofString "char") 680, .ref 133⟩, ⟨PyData.keyHash P (Str.ofString "readChunk"), .str (Str.ofString "readChunk") 690, .ref 141⟩, ⟨PyData.keyHash P (Str.ofString "characterErrorsUCS4"), .str (Str.ofString "characterErrorsUCS4") 699, .ref 148⟩, ⟨PyData.keyHash P (Str.ofString "charsUntil"), .str (Str.ofString "charsUntil") 711, .ref 156⟩, ⟨PyData.keyHash P (Str.ofString "unget"), .str (Str.ofString "unget") 719, .ref 163⟩, ⟨PyData.keyHash P (Str.ofString "__static_attributes__"), .str (Str.ofString "__static_attributes__") 730, .ref 164⟩, ⟨PyData.keyHash P (Str.ofString "__dict__"), .str (Str.ofString "__dict__") 732, .ref 167⟩, ⟨PyData.keyHash P (Str.ofString "__weakref__"), .str (Str.ofString "__weakref__") 734, .ref 168⟩, ⟨PyData.keyHash P (Str.ofString "__doc__"), .str (Str.ofString "__doc__") 735, .none⟩] 4, slots := #[] }),
  (166, { cls := .type "type", dict := none, data := .cls { name := (Str.ofString "HTMLUnicodeInputStream"), bases := [.type "object"], mro := [.ref 166, .type "object"], ns := 165, qualname := (Str.ofString "HTMLUnicodeInputStream"), hasDict := true, slotNames := [], subclasses := [], abstract := false, collection := none, hasDel := false }, slots := #[some (.ref 85), none, some (.str (Str.ofString "HTMLUnicodeInputStream") 612), some (.str (Str.ofString "HTMLUnicodeInputStream") 620), some (.builtin "object.__new__"), some (.bool true)] }),
  (254, { cls := .type "tuple", dict := none, data := .seq #[.none] 0, slots := #[] }),
  (260, { cls := .type "code", dict := none, data := .fields #[.str (Str.ofString "__init__") 856, .str (Str.ofString "HTMLTokenizer.__init__") 857, .str (Str.ofString "/claim/cut.py") 858, .int 184 0, .int 3 0, .int 0 0, .int 0 0, .int 3 0, .ref 255, .bool true, .int 181 0, .ref 256, .none, .ref 257, .ref 258, .ref 259, .int 862 0, .int 184 0, .str (Str.ofString "/claim/cut.py") 863], slots := #[] }),
  (261, { cls := .type "function", dict := none, data := .func { name := (Str.ofString "__init__"), qualname := (Str.ofString "HTMLTokenizer.__init__"), params := argsOf st_261, body := .stmts (bodyOf st_261), scope := scopeOf st_261, globals := 3, closure := [], defaults := .ref 254, kwdefaults := .none, doc := .none, pyModule := .str (Str.ofString "html5lib._tokenizer") 827, annotations := none, code := .ref 260, closureTuple := .none, builtins := 0 }, slots := #[] }),
  (267, { cls := .type "code", dict := none, data := .fields #[.str (Str.ofString "__iter__") 865, .str (Str.ofString "HTMLTokenizer.__iter__") 866, .str (Str.ofString "/claim/cut.py") 867, .int 193 0, .int 1 0, .int 0 0, .int 0 0, .int 35 0, .ref 262, .bool true, .int 181 0, .ref 263, .none, .ref 264, .ref 265, .ref 266, .int 869 0, .int 193 0, .str (Str.ofString "/claim/cut.py") 870], slots := #[] }),
  (268, { cls := .type "function", dict := none, data := .func { name := (Str.ofString "__iter__"), qualname := (Str.ofString "HTMLTokenizer.__iter__"), params := argsOf st_268, body := .stmts (bodyOf st_268), scope := scopeOf st_268, globals := 3, closure := [], defaults := .none, kwdefaults := .none, doc := .none, pyModule := .str (Str.ofString "html5lib._tokenizer") 827, annotations := none, code := .ref 267, closureTuple := .none, builtins := 0 }, slots := #[] }),
  (303, { cls := .type "code", dict := none, data := .fields #[.str (Str.ofString "dataState") 920, .str (Str.ofString "HTMLTokenizer.dataState") 921, .str (Str.ofString "/claim/cut.py") 922, .int 304 0, .int 1 0, .int 0 0, .int 0 0, .int 3 0, .ref 298, .bool true, .int 181 0, .ref 299, .none, .ref 300, .ref 301, .ref 302, .int 926 0, .int 304 0, .str (Str.ofString "/claim/cut.py") 927], slots := #[] }),
  (304, { cls := .type "function", dict := none, data := .func { name := (Str.ofString "dataState"), qualname := (Str.ofString "HTMLTokenizer.dataState"), params := argsOf st_304, body := .stmts (bodyOf st_304), scope := scopeOf st_304, globals := 3, closure := [], defaults := .none, kwdefaults := .none, doc := .none, pyModule := .str (Str.ofString "html5lib._tokenizer") 827, annotations := none, code := .ref 303, closureTuple := .none, builtins := 0 }, slots := #[] }),
  (345, { cls := .type "code", dict := none, data := .fields #[.str (Str.ofString "plaintextState") 964, .str (Str.ofString "HTMLTokenizer.plaintextState") 965, .str (Str.ofString "/claim/cut.py") 966, .int 339 0, .int 1 0, .int 0 0, .int 0 0, .int 3 0, .ref 340, .bool true, .int 181 0, .ref 341, .none, .ref 342, .ref 343, .ref 344, .int 969 0, .int 339 0, .str (Str.ofString "/claim/cut.py") 970], slots := #[] }),
  (346, { cls := .type "function", dict := none, data := .func { name := (Str.ofString "plaintextState"), qualname := (Str.ofString "HTMLTokenizer.plaintextState"), params := argsOf st_346, body := .stmts (bodyOf st_346), scope := scopeOf st_346, globals := 3, closure := [], defaults := .none, kwdefaults := .none, doc := .none, pyModule := .str (Str.ofString "html5lib._tokenizer") 827, annotations := none, code := .ref 345, closureTuple := .none, builtins := 0 }, slots := #[] }),
  (761, { cls := .type "dict", dict := none, data := .dict #[⟨PyData.keyHash P (Str.ofString "__module__"), .str (Str.ofString "__module__") 851, .str (Str.ofString "html5lib._tokenizer") 827⟩, ⟨PyData.keyHash P (Str.ofString "__firstlineno__"), .str (Str.ofString "__firstlineno__") 855, .int 182 854⟩, ⟨PyData.keyHash P (Str.ofString "__init__"), .str (Str.ofString "__init__") 864, .ref 261⟩, ⟨PyData.keyHash P (Str.ofString "__iter__"), .str (Str.ofString "__iter__") 871, .ref 268⟩, ⟨PyData.keyHash P (Str.ofString "consumeNumberEntity"), .str (Str.ofString "consumeNumberEntity") 886, .ref 275⟩, ⟨PyData.keyHash P (Str.ofString "consumeEntity"), .str (Str.ofString "consumeEntity") 901, .ref 283⟩, ⟨PyData.keyHash P (Str.ofString "processEntityInAttribute"), .str (Str.ofString "processEntityInAttribute") 909, .ref 290⟩, ⟨PyData.keyHash P (Str.ofString "emitCurrentToken"), .str (Str.ofString "emitCurrentToken") 919, .ref 297⟩, ⟨PyData.keyHash P (Str.ofString "dataState"), .str (Str.ofString "dataState") 928, .ref 304⟩, ⟨PyData.keyHash P (Str.ofString "entityDataState"), .str (Str.ofString "entityDataState") 935, .ref 311⟩, ⟨PyData.keyHash P (Str.ofString "rcdataState"), .str (Str.ofString "rcdataState") 942, .ref 318⟩, ⟨PyData.keyHash P (Str.ofString "characterReferenceInRcdata"), .str (Str.ofString "characterReferenceInRcdata") 949, .ref 325⟩, ⟨PyData.keyHash P (Str.ofString "rawtextState"), .str (Str.ofString "rawtextState") 956, .ref 332⟩, ⟨PyData.keyHash P (Str.ofString "scriptDataState"), .str (Str.ofString "scriptDataState") 963, .ref 339⟩, ⟨PyData.keyHash P (Str.ofString "plaintextState"), .str (Str.ofString "plaintextState") 971, .ref 346⟩, ⟨PyData.keyHash P (Str.ofString "tagOpenState"), .str (Str.ofString "tagOpenState") 979, .ref 353⟩, ⟨PyData.keyHash P (Str.ofString "closeTagOpenState"), .str (Str.ofString "closeTagOpenState") 987, .ref 360⟩, ⟨PyData.keyHash P (Str.ofString "tagNameState"), .str (Str.ofString "tagNameState") 995, .ref 367⟩, ⟨PyData.keyHash P (Str.ofString "rcdataLessThanSignState"), .str (Str.ofString "rcdataLessThanSignState") 1002, .ref 374⟩, ⟨PyData.keyHash P (Str.ofString "rcdataEndTagOpenState"), .str (Str.ofString "rcdataEndTagOpenState") 1009, .ref 381⟩, ⟨PyData.keyHash P (Str.ofString "rcdataEndTagNameState"), .str (Str.ofString "rcdataEndTagNameState") 1016, .ref 388⟩, ⟨PyData.keyHash P (Str.ofString "rawtextLessThanSignState"), .str (Str.ofString "rawtextLessThanSignState") 1023, .ref 395⟩, ⟨PyData.keyHash P (Str.ofString "rawtextEndTagOpenState"), .str (Str.ofString "rawtextEndTagOpenState") 1030, .ref 402⟩, ⟨PyData.keyHash P (Str.ofString "rawtextEndTagNameState"), .str (Str.ofString "rawtextEndTagNameState") 1037, .ref 409⟩, ⟨PyData.keyHash P (Str.ofString "scriptDataLessThanSignState"), .str (Str.ofString "scriptDataLessThanSignState") 1044, .ref 416⟩, ⟨PyData.keyHash P (Str.ofString "scriptDataEndTagOpenState"), .str (Str.ofString "scriptDataEndTagOpenState") 1051, .ref 423⟩, ⟨PyData.keyHash P (Str.ofString "scriptDataEndTagNameState"), .str (Str.ofString "scriptDataEndTagNameState") 1058, .ref 430⟩, ⟨PyData.keyHash P (Str.ofString "scriptDataEscapeStartState"), .str (Str.ofString "scriptDataEscapeStartState") 1065, .ref 437⟩, ⟨PyData.keyHash P (Str.ofString "scriptDataEscapeStartDashState"), .str (Str.ofString "scriptDataEscapeStartDashState") 1072, .ref 444⟩, ⟨PyData.keyHash P (Str.ofString "scriptDataEscapedState"), .str (Str.ofString "scriptDataEscapedState") 1079, .ref 451⟩, ⟨PyData.keyHash P (Str.ofString "scriptDataEscapedDashState"), .str (Str.ofString "scriptDataEscapedDashState") 1086, .ref 458⟩, ⟨PyData.keyHash P (Str.ofString "scriptDataEscapedDashDashState"), .str (Str.ofString "scriptDataEscapedDashDashState") 1093, .ref 465⟩, ⟨PyData.keyHash P (Str.ofString "scriptDataEscapedLessThanSignState"), .str (Str.ofString "scriptDataEscapedLessThanSignState") 1100, .ref 472⟩, ⟨PyData.keyHash P (Str.ofString "scriptDataEscapedEndTagOpenState"), .str (Str.ofString "scriptDataEscapedEndTagOpenState") 1107, .ref 479⟩, ⟨PyData.keyHash P (Str.ofString "scriptDataEscapedEndTagNameState"), .str (Str.ofString "scriptDataEscapedEndTagNameState") 1114, .ref 486⟩, ⟨PyData.keyHash P (Str.ofString "scriptDataDoubleEscapeStartState"), .str (Str.ofString "scriptDataDoubleEscapeStartState") 1121, .ref 493⟩, ⟨PyData.keyHash P (Str.ofString "scriptDataDoubleEscapedState"), .str (Str.ofString "scriptDataDoubleEscapedState") 1128, .ref 500⟩, ⟨PyData.keyHash P (Str.ofString "scriptDataDoubleEscapedDashState"), .str (Str.ofString "scriptDataDoubleEscapedDashState") 1135, .ref 507⟩, ⟨PyData.keyHash P (Str.ofString "scriptDataDoubleEscapedDashDashState"), .str (Str.ofString "scriptDataDoubleEscapedDashDashState") 1142, .ref 514⟩, ⟨PyData.keyHash P (Str.ofString "scriptDataDoubleEscapedLessThanSignState"), .str (Str.ofString "scriptDataDoubleEscapedLessThanSignState") 1149, .ref 521⟩, ⟨PyData.keyHash P (Str.ofString "scriptDataDoubleEscapeEndState"), .str (Str.ofString "scriptDataDoubleEscapeEndState") 1156, .ref 528⟩, ⟨PyData.keyHash P (Str.ofString "beforeAttributeNameState"), .str (Str.ofString "beforeAttributeNameState") 1164, .ref 535⟩, ⟨PyData.keyHash P (Str.ofString "attributeNameState"), .str (Str.ofString "attributeNameState") 1176, .ref 542⟩, ⟨PyData.keyHash P (Str.ofString "afterAttributeNameState"), .str (Str.ofString "afterAttributeNameState") 1184, .ref 549⟩, ⟨PyData.keyHash P (Str.ofString "beforeAttributeValueState"), .str (Str.ofString "beforeAttributeValueState") 1192, .ref 556⟩, ⟨PyData.keyHash P (Str.ofString "attributeValueDoubleQuotedState"), .str (Str.ofString "attributeValueDoubleQuotedState") 1200, .ref 563⟩, ⟨PyData.keyHash P (Str.ofString "attributeValueSingleQuotedState"), .str (Str.ofString "attributeValueSingleQuotedState") 1208, .ref 570⟩, ⟨PyData.keyHash P (Str.ofString "attributeValueUnQuotedState"), .str (Str.ofString "attributeValueUnQuotedState") 1216, .ref 577⟩, ⟨PyData.keyHash P (Str.ofString "afterAttributeValueState"), .str (Str.ofString "afterAttributeValueState") 1224, .ref 584⟩, ⟨PyData.keyHash P (Str.ofString "selfClosingStartTagState"), .str (Str.ofString "selfClosingStartTagState") 1232, .ref 591⟩, ⟨PyData.keyHash P (Str.ofString "bogusCommentState"), .str (Str.ofString "bogusCommentState") 1240, .ref 598⟩, ⟨PyData.keyHash P (Str.ofString "markupDeclarationOpenState"), .str (Str.ofString "markupDeclarationOpenState") 1250, .ref 605⟩, ⟨PyData.keyHash P (Str.ofString "commentStartState"), .str (Str.ofString "commentStartState") 1258, .ref 612⟩, ⟨PyData.keyHash P (Str.ofString "commentStartDashState"), .str (Str.ofString "commentStartDashState") 1266, .ref 619⟩, ⟨PyData.keyHash P (Str.ofString "commentState"), .str (Str.ofString "commentState") 1274, .ref 626⟩, ⟨PyData.keyHash P (Str.ofString "commentEndDashState"), .str (Str.ofString "commentEndDashState") 1282, .ref 633⟩, ⟨PyData.keyHash P (Str.ofString "commentEndState"), .str (Str.ofString "commentEndState") 1290, .ref 640⟩, ⟨PyData.keyHash P (Str.ofString "commentEndBangState"), .str (Str.ofString "commentEndBangState") 1298, .ref 647⟩, ⟨PyData.keyHash P (Str.ofString "doctypeState"), .str (Str.ofString "doctypeState") 1306, .ref 654⟩, ⟨PyData.keyHash P (Str.ofString "beforeDoctypeNameState"), .str (Str.ofString "beforeDoctypeNameState") 1314, .ref 661⟩, ⟨PyData.keyHash P (Str.ofString "doctypeNameState"), .str (Str.ofString "doctypeNameState") 1322, .ref 668⟩, ⟨PyData.keyHash P (Str.ofString "afterDoctypeNameState"), .str (Str.ofString "afterDoctypeNameState") 1332, .ref 675⟩, ⟨PyData.keyHash P (Str.ofString "afterDoctypePublicKeywordState"), .str (Str.ofString "afterDoctypePublicKeywordState") 1340, .ref 682⟩, ⟨PyData.keyHash P (Str.ofString "beforeDoctypePublicIdentifierState"), .str (Str.ofString "beforeDoctypePublicIdentifierState") 1348, .ref 689⟩, ⟨PyData.keyHash P (Str.ofString "doctypePublicIdentifierDoubleQuotedState"), .str (Str.ofString "doctypePublicIdentifierDoubleQuotedState") 1356, .ref 696⟩, ⟨PyData.keyHash P (Str.ofString "doctypePublicIdentifierSingleQuotedState"), .str (Str.ofString "doctypePublicIdentifierSingleQuotedState") 1364, .ref 703⟩, ⟨PyData.keyHash P (Str.ofString "afterDoctypePublicIdentifierState"), .str (Str.ofString "afterDoctypePublicIdentifierState") 1372, .ref 710⟩, ⟨PyData.keyHash P (Str.ofString "betweenDoctypePublicAndSystemIdentifiersState"), .str (Str.ofString "betweenDoctypePublicAndSystemIdentifiersState") 1380, .ref 717⟩, ⟨PyData.keyHash P (Str.ofString "afterDoctypeSystemKeywordState"), .str (Str.ofString "afterDoctypeSystemKeywordState") 1388, .ref 724⟩, ⟨PyData.keyHash P (Str.ofString "beforeDoctypeSystemIdentifierState"), .str (Str.ofString "beforeDoctypeSystemIdentifierState") 1396, .ref 731⟩, ⟨PyData.keyHash P (Str.ofString "doctypeSystemIdentifierDoubleQuotedState"), .str (Str.ofString "doctypeSystemIdentifierDoubleQuotedState") 1404, .ref 738⟩, ⟨PyData.keyHash P (Str.ofString "doctypeSystemIdentifierSingleQuotedState"), .str (Str.ofString "doctypeSystemIdentifierSingleQuotedState") 1412, .ref 745⟩, ⟨PyData.keyHash P (Str.ofString "afterDoctypeSystemIdentifierState"), .str (Str.ofString "afterDoctypeSystemIdentifierState") 1420, .ref 752⟩, ⟨PyData.keyHash P (Str.ofString "bogusDoctypeState"), .str (Str.ofString "bogusDoctypeState") 1428, .ref 759⟩, ⟨PyData.keyHash P (Str.ofString "__static_attributes__"), .str (Str.ofString "__static_attributes__") 1437, .ref 760⟩, ⟨PyData.keyHash P (Str.ofString "__dict__"), .str (Str.ofString "__dict__") 1439, .ref 763⟩, ⟨PyData.keyHash P (Str.ofString "__weakref__"), .str (Str.ofString "__weakref__") 1441, .ref 764⟩, ⟨PyData.keyHash P (Str.ofString "__doc__"), .str (Str.ofString "__doc__") 1442, .none⟩] 4, slots := #[] }),
  (762, { cls := .type "type", dict := none, data := .cls { name := (Str.ofString "HTMLTokenizer"), bases := [.type "object"], mro := [.ref 762, .type "object"], ns := 761, qualname := (Str.ofString "HTMLTokenizer"), hasDict := true, slotNames := [], subclasses := [], abstract := false, collection := none, hasDel := false }, slots := #[some (.ref 247), none, some (.str (Str.ofString "HTMLTokenizer") 844), some (.str (Str.ofString "HTMLTokenizer") 852), some (.builtin "object.__new__"), some (.bool true)] }),
  (767, { cls := .type "list", dict := none, data := .seq #[.str (Str.ofString "a") 1447, .str (Str.ofString " ") 1448, .str (Str.ofString "\n") 1449, .str (Str.ofString "\r") 1450, .str (Str.ofString "\x00") 1451, .str (Str.ofString "<") 1452, .str (Str.ofString "&amp;") 1453, .str (Str.ofString "</plaintext>") 1454, .str (Str.ofString "<!--") 1455, .str (Str.ofString "\x01") 1456, .str (Str.ofString "\x7f") 1457, .str (Str.ofString "﷐") 1458, .str (Str.ofString "é") 1459, .str (Str.ofString "\r\n") 1460, .str (Str.ofString "🿾") 1461, .str (Str.ofString "\t") 1462] 0, slots := #[] }),
  (768, { cls := .type "tuple", dict := none, data := .seq #[.str (Str.ofString "\x01") 1464, .str (Str.ofString "\x7f") 1465, .str (Str.ofString "﷐") 1466, .str (Str.ofString "🿾") 1467] 0, slots := #[] }),
  (772, { cls := .type "code", dict := none, data := .fields #[.str (Str.ofString "law") 1469, .str (Str.ofString "law") 1470, .str (Str.ofString "/claim/cut.py") 1471, .int 1196 0, .int 1 0, .int 0 0, .int 0 0, .int 3 0, .ref 769, .bool true, .int 181 0, .ref 770, .none, .none, .none, .ref 771, .int 1472 0, .int 1196 0, .str (Str.ofString "/claim/cut.py") 1473], slots := #[] }),
  (773, { cls := .type "function", dict := none, data := .func { name := (Str.ofString "law"), qualname := (Str.ofString "law"), params := argsOf st_773, body := .stmts (bodyOf st_773), scope := scopeOf st_773, globals := 3, closure := [], defaults := .none, kwdefaults := .none, doc := .none, pyModule := .str (Str.ofString "law_te0034_01") 1445, annotations := none, code := .ref 772, closureTuple := .none, builtins := 0 }, slots := #[] })]
noncomputable def theAs : List Addr := [3, 22, 27, 48, 62, 63, 69, 70, 72, 73, 83, 84, 97, 98, 104, 105, 111, 112, 118, 119, 125, 126, 132, 133, 134, 140, 141, 147, 148, 149, 155, 156, 162, 163, 165, 166, 254, 260, 261, 267, 268, 303, 304, 345, 346, 761, 762, 767, 768, 772, 773]
noncomputable def looseL : List Str := [Str.ofString "_wall", Str.ofString "EOF", Str.ofString "spaceCharacters", Str.ofString "asciiLetters", Str.ofString "digits", Str.ofString "hexDigits", Str.ofString "asciiLower", Str.ofString "entities", Str.ofString "replacementCharacters", Str.ofString "tokenTypes", Str.ofString "tagTokenTypes", Str.ofString "Text", Str.ofString "_is_invalid", Str.ofString "HTMLUnicodeInputStream", Str.ofString "bisect_left", Str.ofString "Trie", Str.ofString "entitiesTrie", Str.ofString "HTMLTokenizer", Str.ofString "_law_PIECES", Str.ofString "_law_FAULTY"]
noncomputable def theView : Program := PySem.W.view pw [25]
theorem as_eq (P : Params) : theAs = (theK P).map (·.1) := by kernel_rfl
noncomputable def theHook : Hook := kHook theK theAs as_eq
noncomputable abbrev theXt (s : Shared) : Bool := xlAt theView [] s && recOk (RowW.records (OpenRow.toRowW rw1.row)) s
end
end
-- N2
section
theorem run_f (w : World) : (fun os => (PySem.W.Fast.tw10110043849684766642 PySem.W.Fast.tw14364793385576792824 pw (w.withFollow "special-get-raises" false) 11 (some (.ref 6)) 0 8300 (boot0 (w.withFollow "special-get-raises" false) os) (topStub pw)).map fun r => looksF pw theView looseL theXt theHook.obs (w.withFollow "special-get-raises" false).params r.2.1.abs) = fun _ => some (true, openGood theView looseL, theHook.val (w.withFollow "special-get-raises" false)) := by kernel_rfl
theorem run_t (w : World) : (fun os => (PySem.W.Fast.tw10110043849684766642 PySem.W.Fast.tw14364793385576792824 pw (w.withFollow "special-get-raises" true) 11 (some (.ref 6)) 0 8300 (boot0 (w.withFollow "special-get-raises" true) os) (topStub pw)).map fun r => looksF pw theView looseL theXt theHook.obs (w.withFollow "special-get-raises" true).params r.2.1.abs) = fun _ => some (true, openGood theView looseL, theHook.val (w.withFollow "special-get-raises" true)) := by kernel_rfl
end
-- N3
section
set_option maxHeartbeats 0 in
theorem leaf_a : namesResolve pw = true := by
  rw [PySem.W.Fast.te8377067652309620493]; kernel_rfl
set_option maxHeartbeats 0 in
theorem leaf_b : noRoadLSs { strict := !(importedModules pw.main.body).all cThrough.contains, foot := none, bare := (["vars","dir","locals"] : List Str).filter (readsOut pw pw.main.body) } pw.main.body = true := by
  rw [PySem.W.Fast.te8326940854005059898]; kernel_rfl
set_option maxHeartbeats 0 in
theorem leaf_c : (namesMeet pw pw.main.body fun _ n => attrL n) = true := by
  rw [PySem.W.Fast.te17119622794617984870]; kernel_rfl
set_option maxHeartbeats 0 in
theorem look1 : looksOpen rw1.row.prog = true := by
  unfold looksOpen
  repeat' (with_reducible refine look_both ?_ ?_)
  · rw [PySem.W.Fast.te11788848310118352699]; kernel_rfl
  · kernel_rfl
  · exact leaf_a
  · rw [PySem.W.Fast.te18344453789297297638]; kernel_rfl
  · exact leaf_b
  · exact leaf_c
set_option maxHeartbeats 0 in
theorem said1 : rw1.wellSaid = true := by
  unfold OpenLaw.wellSaid OpenRow.wellSaid OpenRow.partSaid
  repeat' (with_reducible first | exact look1 | refine look_both ?_ ?_)
  all_goals first
    | (rw [PySem.W.Fast.te17119622794617984870]; kernel_rfl)
    | (rw [PySem.W.Fast.te8326940854005059898]; kernel_rfl)
    | (rw [PySem.W.Fast.te8179353310426384613]; kernel_rfl)
    | (rw [PySem.W.Fast.te9558739934217749035]; kernel_rfl)
    | (rw [PySem.W.Fast.te16286561074155671207]; kernel_rfl)
    | (rw [PySem.W.Fast.te5318747976498570220]; kernel_rfl)
    | (rw [PySem.W.Fast.te18344453789297297638]; kernel_rfl)
    | (rw [PySem.W.Fast.te797321630700447069]; kernel_rfl)
    | (rw [PySem.W.Fast.te10501279942588096481]; kernel_rfl)
    | kernel_rfl
end
-- N4
section
theorem run_all (w : World) : (fun os => (segRunT treeTable pw w 11 (some (.ref 6)) 0 8300 (boot0 w os) (topStub pw)).map fun r => looksF pw theView looseL theXt theHook.obs w.params r.2.1.abs) = fun _ => some (true, openGood theView looseL, theHook.val w) := by
  rw [PySem.W.Fast.te10110043849684766642, PySem.W.Fast.te14364793385576792824]
  exact byRow2 "special-get-raises" (P := fun w => (fun os => (PySem.W.Fast.tw10110043849684766642 PySem.W.Fast.tw14364793385576792824 pw w 11 (some (.ref 6)) 0 8300 (boot0 w os) (topStub pw)).map fun r => looksF pw theView looseL theXt theHook.obs w.params r.2.1.abs) = fun _ => some (true, openGood theView looseL, theHook.val w)) run_f run_t w
theorem open1 : opening pw = plainProg pw.main.scope.names := by kernel_rfl
theorem fence1 (s : Shared) : fenceModules? pw s = some s := by kernel_rfl
theorem size1 (w : World) : ((boot_heap w.params).isNs mainGlobals && (#[] : Array GenState).size == 0, (boot_heap w.params).objs.size, (boot_heap w.params).nsMap mainGlobals "__annotations__") = (true, 11, some (.ref 6)) := by kernel_rfl
theorem left1 : LeftO pw theView looseL theXt theHook.obs theHook.val 8300 := left_of open1 (by decide) fence1 size1 run_all (by decide)
set_option maxHeartbeats 4000000 in
theorem theHead (h : ∀ d kwd, d.name = rw1.row.name → WalkO theView looseL (XL theView []) theHook.says rw1.row.toRowW d kwd fun f vs => PySem.call f vs) : PySem.Challenge.rw_te0034_01.Holds := by
  refine holds_law said1 fun said => ?_
  refine holds_open (q := theView) (loose := looseL) (Xt := theXt) (XP := XL theView []) (Yf := theHook.obs) (Ya := theHook.val) (YP := theHook.says) (N := 8300) left1 theHook.of theHook.keeps (fun s e => xl_of s (Bool.and_eq_true_iff.mp e).1) XL.keeps (by rfl) (by rfl) (by rfl) (fun s e => recFacts_of (Bool.and_eq_true_iff.mp e).2) ?d said ?e ?f ?hw (h _ _ (defOf_name (p := theView) (by rfl)))
  case d => rfl
  case e => decide +kernel
  case f => exact ⟨rfl, rfl, rfl, rfl, rfl, by decide +kernel⟩
  case hw => w_witness2
end
-- La1
section
/-- a text out of its signs' numbers -/
noncomputable abbrev S (l : List Nat) : Str := ⟨l.toArray⟩

/-- what is known of a value -/
inductive AV where
  | none | bool (b : Bool) | int (i : Int) | str (l : List Nat) | lit (v : Value) | ref (a : Addr)
  | tup (l : List AV) | lst (l : List AV) | dct (l : List (Str × AV)) | meth (f self : Addr) | obj (p : Obj → Prop) | any

noncomputable abbrev Fz := Addr → Option Obj

noncomputable abbrev tupObj (vs : List Value) (n : Nat) : Obj := { cls := .type "tuple", data := .seq vs.toArray n }
noncomputable abbrev lstObj (vs : List Value) (n : Nat) : Obj := { cls := .type "list", data := .seq vs.toArray n }
mutual
inductive Is (P : Params) (F : Fz) : Value → AV → Prop
  | none : Is P F .none .none
  | bool (b) : Is P F (.bool b) (.bool b)
  | int (i t) : Is P F (.int i t) (.int i)
  | str (l t) : Is P F (.str (S l) t) (.str l)
  | lit (v) : Is P F v (.lit v)
  | ref (a) : Is P F (.ref a) (.ref a)
  | tup {a vs n l} : F a = some (tupObj vs n) → IsAll P F vs l → Is P F (.ref a) (.tup l)
  | lst {a vs n l} : F a = some (lstObj vs n) → IsAll P F vs l → Is P F (.ref a) (.lst l)
  | dct {a es n l} : F a = some (dictOf es n) → IsEnts P F es l → (l.map (·.1)).Nodup → (a == sysModules) = false → Is P F (.ref a) (.dct l)
  | meth {a f self} : F a = some (methodObj (.ref f) (.ref self)) → Is P F (.ref a) (.meth f self)
  | obj {a o p} : F a = some o → p o → Is P F (.ref a) (.obj p)
  | any (v) : Is P F v .any
inductive IsAll (P : Params) (F : Fz) : List Value → List AV → Prop
  | nil : IsAll P F [] []
  | cons {v d vs l} : Is P F v d → IsAll P F vs l → IsAll P F (v :: vs) (d :: l)
inductive IsEnts (P : Params) (F : Fz) : List DictEntry → List (Str × AV) → Prop
  | nil : IsEnts P F [] []
  | cons {x t v d es l} : Is P F v d → IsEnts P F es l → IsEnts P F (⟨PyData.keyHash P x, .str x t, v⟩ :: es) ((x, d) :: l)
end

noncomputable def Fz.le (F F' : Fz) : Prop := ∀ b o, F b = some o → F' b = some o
theorem Fz.le.refl (F : Fz) : F.le F := fun _ _ e => e
theorem Fz.le.trans {F G H : Fz} (a : F.le G) (b : G.le H) : F.le H := fun x o e => b x o (a x o e)

section
variable {P : Params} {F F' : Fz}
mutual
theorem Is.mono (k : F.le F') : ∀ {v : Value} {d : AV}, Is P F v d → Is P F' v d
  | _, _, .none => .none
  | _, _, .bool b => .bool b
  | _, _, .int i t => .int i t
  | _, _, .str l t => .str l t
  | _, _, .lit v => .lit v
  | _, _, .ref a => .ref a
  | _, _, .tup h r => .tup (k _ _ h) (IsAll.mono k r)
  | _, _, .lst h r => .lst (k _ _ h) (IsAll.mono k r)
  | _, _, .dct h r n q => .dct (k _ _ h) (IsEnts.mono k r) n q
  | _, _, .meth h => .meth (k _ _ h)
  | _, _, .obj h q => .obj (k _ _ h) q
  | _, _, .any v => .any v
theorem IsAll.mono (k : F.le F') : ∀ {vs : List Value} {l : List AV}, IsAll P F vs l → IsAll P F' vs l
  | _, _, .nil => .nil
  | _, _, .cons h r => .cons (Is.mono k h) (IsAll.mono k r)
theorem IsEnts.mono (k : F.le F') : ∀ {es : List DictEntry} {l : List (Str × AV)}, IsEnts P F es l → IsEnts P F' es l
  | _, _, .nil => .nil
  | _, _, .cons h r => .cons (Is.mono k h) (IsEnts.mono k r)
end
end

/-- a tracked object, which may be changed -/
inductive AO where
  | inst (C dx : Addr) (fs : List (Str × AV))
  | list (l : List AV)
  | dict (l : List (Str × AV))
  | cell (v : Option AV)
  | is (p : Obj → Prop)
noncomputable def AO.more : AO → List Addr
  | .inst _ dx _ => [dx]
  | _ => []
noncomputable def owns : List (Addr × AO) → List Addr
  | [] => []
  | p :: r => p.1 :: (p.2.more ++ owns r)

noncomputable def OAt (P : Params) (F : Fz) (h : Heap) (a : Addr) : AO → Prop
  | .inst C dx fs => h.get? a = some (instObj C dx) ∧ ∃ es n, h.get? dx = some (dictOf es n) ∧ IsEnts P F es fs
  | .list l => ∃ vs n, h.get? a = some (lstObj vs n) ∧ IsAll P F vs l
  | .dict l => (∃ es n, h.get? a = some (dictOf es n) ∧ IsEnts P F es l) ∧ (l.map (·.1)).Nodup ∧ (a == sysModules) = false
  | .cell none => h.IsCell a none
  | .cell (some d) => ∃ v, h.IsCell a (some v) ∧ Is P F v d
  | .is p => ∃ o, h.get? a = some o ∧ p o

structure St where
  /-- the frame's names; of a name with none nothing is known -/
  loc : List (Str × Option AV)
  objs : List (Addr × AO)

structure Holds (P : Params) (G : Heap) (L : Addr) (F : Fz) (H : List (Value × AV)) (σ : St) (h : Heap) : Prop where
  core : ∀ b o, G.get? b = some o → F b = some o
  sub : ∀ b o, F b = some o → h.get? b = some o
  loc : ∃ m, h.Ns L m ∧ ∀ x d, (x, some d) ∈ σ.loc → ∃ v, m x = some v ∧ Is P F v d
  names : (σ.loc.map (·.1)).Nodup
  objs : ∀ p ∈ σ.objs, OAt P F h p.1 p.2
  nodup : (L :: owns σ.objs).Nodup
  apart : ∀ b ∈ L :: owns σ.objs, F b = none
  held : ∀ p ∈ H, Is P F p.1 p.2
  low : G.objs.size ≤ L

/-- generators are made, and those are at an end; the older ones stand -/
structure GensTo (a b : Array GenState) : Prop where
  keep : ∀ (g : Nat) (x : GenState), a[g]? = some x → b[g]? = some x
  bare : ∀ (g : Nat) (x : GenState), b[g]? = some x → a[g]? = some x ∨ x.bare = true
theorem GensTo.refl (a : Array GenState) : GensTo a a := ⟨fun _ _ e => e, fun _ _ e => .inl e⟩
theorem GensTo.of {a b : Array GenState} (h : b = a) : GensTo a b := h ▸ .refl a
theorem GensTo.trans {a b c : Array GenState} (x : GensTo a b) (y : GensTo b c) : GensTo a c := ⟨fun g z e => y.keep g z (x.keep g z e), fun g z e => (y.bare g z e).elim (x.bare g z) .inr⟩
/-- what a step leaves as it was -/
structure Pres (O : List Addr) (F : Fz) (s : Shared) (O' : List Addr) (F' : Fz) (s' : Shared) : Prop where
  keep : ∀ b o, b ∉ O → s.heap.get? b = some o → s'.heap.get? b = some o
  own : ∀ b ∈ O', b ∈ O ∨ s.heap.get? b = none
  frz : ∀ b o, F' b = some o → F b = some o ∨ b ∈ O ∨ s.heap.get? b = none
  mono : F.le F'
  gens : GensTo s.gens s'.gens
  os : s'.os = s.os

theorem Pres.refl (O : List Addr) (F : Fz) (s : Shared) : Pres O F s O F s :=
  ⟨fun _ _ _ e => e, fun _ h => .inl h, fun _ _ e => .inl e, .refl F, .refl _, rfl⟩
theorem Pres.trans {O F s O' F' s' O'' F'' s''} (a : Pres O F s O' F' s') (b : Pres O' F' s' O'' F'' s'') : Pres O F s O'' F'' s'' := by
  have key : ∀ x, s'.heap.get? x = none → x ∈ O ∨ s.heap.get? x = none := fun x hx => by
    cases q : s.heap.get? x with
    | none => exact .inr rfl
    | some o =>
      by_cases hm : x ∈ O
      · exact .inl hm
      · rw [a.keep x o hm q] at hx; cases hx
  refine ⟨fun x o hx e => b.keep x o (fun hm => ?_) (a.keep x o hx e), fun x hx => ?_, fun x o e => ?_, a.mono.trans b.mono, a.gens.trans b.gens, b.os.trans a.os⟩
  · rcases a.own x hm with h | h
    · exact hx h
    · rw [h] at e; cases e
  · rcases b.own x hx with h | h
    · exact a.own x h
    · exact key x h
  · rcases b.frz x o e with h | h | h
    · exact a.frz x o h
    · rcases a.own x h with h | h
      · exact .inr (.inl h)
      · exact .inr (.inr h)
    · rcases key x h with h | h
      · exact .inr (.inl h)
      · exact .inr (.inr h)

theorem owns_mem {objs : List (Addr × AO)} {b : Addr} : b ∈ owns objs ↔ ∃ p ∈ objs, b = p.1 ∨ b ∈ p.2.more := by
  induction objs with
  | nil => simp [owns]
  | cons p r ih =>
    simp only [owns, List.mem_cons, List.mem_append, ih]
    constructor
    · rintro (h | h | ⟨q, hq, h⟩)
      · exact ⟨p, .inl rfl, .inl h⟩
      · exact ⟨p, .inl rfl, .inr h⟩
      · exact ⟨q, .inr hq, h⟩
    · rintro ⟨q, rfl | hq, h⟩
      · rcases h with h | h
        · exact .inl h
        · exact .inr (.inl h)
      · exact .inr (.inr ⟨q, hq, h⟩)
theorem owns_append (a b : List (Addr × AO)) : owns (a ++ b) = owns a ++ owns b := by
  induction a with
  | nil => rfl
  | cons p r ih => simp [owns, ih]

theorem OAt.there {P : Params} {F : Fz} {h : Heap} {a : Addr} {o : AO} (H : OAt P F h a o) : ∀ b, b = a ∨ b ∈ o.more → ∃ x, h.get? b = some x := by
  intro b hb
  cases o with
  | inst C dx fs =>
    obtain ⟨h1, es, n, h2, _⟩ := H
    rcases hb with rfl | hb
    · exact ⟨_, h1⟩
    · rw [List.mem_singleton.mp hb]; exact ⟨_, h2⟩
  | list l => obtain ⟨vs, n, h1, _⟩ := H; rcases hb with rfl | hb; exact ⟨_, h1⟩; cases hb
  | dict l => obtain ⟨⟨vs, n, h1, _⟩, _⟩ := H; rcases hb with rfl | hb; exact ⟨_, h1⟩; cases hb
  | cell v =>
    cases v with
    | none => obtain ⟨o, h1, _⟩ := H; rcases hb with rfl | hb; exact ⟨_, h1⟩; cases hb
    | some d => obtain ⟨v, ⟨o, h1, _⟩, _⟩ := H; rcases hb with rfl | hb; exact ⟨_, h1⟩; cases hb
  | is p => obtain ⟨o, h1, _⟩ := H; rcases hb with rfl | hb; exact ⟨_, h1⟩; cases hb

/-- an object looked at through other heaps that agree on its places, and more frozen -/
theorem OAt.move {P : Params} {F F' : Fz} {h h' : Heap} {a : Addr} {o : AO} (H : OAt P F h a o) (k : F.le F') (e : ∀ b x, b = a ∨ b ∈ o.more → h.get? b = some x → h'.get? b = some x) : OAt P F' h' a o := by
  cases o with
  | inst C dx fs =>
    obtain ⟨h1, es, n, h2, h3⟩ := H
    exact ⟨e _ _ (.inl rfl) h1, es, n, e _ _ (.inr (List.mem_singleton.mpr rfl)) h2, h3.mono k⟩
  | list l => obtain ⟨vs, n, h1, h2⟩ := H; exact ⟨vs, n, e _ _ (.inl rfl) h1, h2.mono k⟩
  | dict l => obtain ⟨⟨vs, n, h1, h2⟩, h3⟩ := H; exact ⟨⟨vs, n, e _ _ (.inl rfl) h1, h2.mono k⟩, h3⟩
  | cell v =>
    cases v with
    | none => obtain ⟨o, h1, h2⟩ := H; exact ⟨o, e _ _ (.inl rfl) h1, h2⟩
    | some d => obtain ⟨v, ⟨o, h1, h3⟩, h2⟩ := H; exact ⟨v, ⟨o, e _ _ (.inl rfl) h1, h3⟩, h2.mono k⟩
  | is p => obtain ⟨o, h1, h2⟩ := H; exact ⟨o, e _ _ (.inl rfl) h1, h2⟩

section
variable {P : Params} {G : Heap} {L : Addr} {F F' : Fz} {H : List (Value × AV)} {σ : St} {h h' : Heap}

theorem Holds.there (x : Holds P G L F H σ h) : ∀ b ∈ L :: owns σ.objs, ∃ o, h.get? b = some o := by
  intro b hb
  rcases List.mem_cons.mp hb with rfl | hb
  · obtain ⟨m, ⟨o, _, _, ho, _⟩, _⟩ := x.loc; exact ⟨o, ho⟩
  · obtain ⟨p, hp, hb⟩ := owns_mem.mp hb
    exact (x.objs p hp).there b hb

/-- everything stands as it stood, more objects may be there -/
theorem Holds.grow (x : Holds P G L F H σ h) (k : ∀ b o, h.get? b = some o → h'.get? b = some o) : Holds P G L F H σ h' :=
  ⟨x.core, fun b o e => k _ _ (x.sub b o e), let ⟨m, hm, r⟩ := x.loc; ⟨m, hm.keeps k, r⟩, x.names, fun p hp => (x.objs p hp).move (.refl F) fun b o _ e => k _ _ e, x.nodup, x.apart, x.held, x.low⟩

noncomputable def Fz.put (F : Fz) (a : Addr) (o : Obj) : Fz := fun b => if b = a then some o else F b
theorem Fz.put_self (F : Fz) (a : Addr) (o : Obj) : F.put a o a = some o := by simp [Fz.put]
theorem Fz.le_put {F : Fz} {a : Addr} {o : Obj} (n : F a = none) : F.le (F.put a o) := fun b o' e => by
  unfold Fz.put
  split
  · rename_i q; rw [q, n] at e; cases e
  · exact e

/-- a new object that nobody will change -/
theorem Holds.frozen (x : Holds P G L F H σ h) (k : ∀ b o, h.get? b = some o → h'.get? b = some o) {a : Addr} {o : Obj} (hn : h.get? a = none) (ha : h'.get? a = some o) :
    Holds P G L (F.put a o) H σ h' ∧ F.le (F.put a o) := by
  have hF : F a = none := by
    cases q : F a with
    | none => rfl
    | some o' => rw [x.sub _ _ q] at hn; cases hn
  have le := Fz.le_put (o := o) hF
  refine ⟨⟨fun b o' e => le _ _ (x.core b o' e), fun b o' e => ?_, ?_, x.names, fun p hp => (x.objs p hp).move le fun b o' _ e => k _ _ e, x.nodup, fun b hb => ?_, fun p hp => (x.held p hp).mono le, x.low⟩, le⟩
  · unfold Fz.put at e
    split at e
    · rename_i q; subst q; cases e; exact ha
    · exact k _ _ (x.sub _ _ e)
  · obtain ⟨m, hm, r⟩ := x.loc
    exact ⟨m, hm.keeps k, fun y d hy => let ⟨v, e, q⟩ := r y d hy; ⟨v, e, q.mono le⟩⟩
  · unfold Fz.put
    split
    · rename_i q
      obtain ⟨o', ho'⟩ := x.there b hb
      rw [q, hn] at ho'; cases ho'
    · exact x.apart b hb

theorem Holds.weaken (x : Holds P G L F H σ h) {H' : List (Value × AV)} (e : ∀ p ∈ H', p ∈ H) : Holds P G L F H' σ h :=
  ⟨x.core, x.sub, x.loc, x.names, x.objs, x.nodup, x.apart, fun p hp => x.held p (e p hp), x.low⟩
theorem Holds.push (x : Holds P G L F H σ h) {v : Value} {d : AV} (q : Is P F v d) : Holds P G L F ((v, d) :: H) σ h :=
  ⟨x.core, x.sub, x.loc, x.names, x.objs, x.nodup, x.apart, fun p hp => by rcases List.mem_cons.mp hp with rfl | hp; exact q; exact x.held p hp, x.low⟩
theorem Holds.hold (x : Holds P G L F H σ h) {v : Value} {d : AV} (q : (v, d) ∈ H) : Is P F v d := x.held _ q
end
end
-- La2
section
/-- the text's top: what stands there and is never changed -/
structure Base where
  prog : Program
  w : World
  G : Heap
  K : Frag
  X : K.In G
  g : ∃ mg, G.Ns mainGlobals mg
  b : ∃ mb, G.Ns builtinsNs mb ∧ ∀ x, x ≠ ("__name__" : Str) → mb x = bootBuiltins x
  nolimit : G.NoLimit

noncomputable abbrev Base.M (B : Base) : Model := model B.prog B.w
noncomputable abbrev Base.P (B : Base) : Params := B.w.params

structure Room (n : Nat) (A : Around) : Prop where
  handled : A.handled = none
  depth : A.depth + n ≤ 900
  units : A.units + 8 * n ≤ 9000
theorem Room.le {n m : Nat} {A : Around} (h : Room n A) (e : m ≤ n) : Room m A := ⟨h.1, by have := h.2; omega, by have := h.3; omega⟩

noncomputable def After (B : Base) (L : Addr) (H : List (Value × AV)) (σ : St) (F : Fz) (s s' : Shared) (Ψ : Fz → St → Prop) : Prop :=
  ∃ F' σ', Holds B.P B.G L F' H σ' s'.heap ∧ Pres (L :: owns σ.objs) F s (L :: owns σ'.objs) F' s' ∧ Ψ F' σ'

/-- from a state that σ tells, the tree ends in one that Ψ tells -/
structure W {α : Type} (B : Base) (n : Nat) (L : Addr) (t : Sem α) (H : List (Value × AV)) (σ : St) (Ψ : α → Fz → St → Prop) : Prop where
  run : ∀ A F s, Room n A → Holds B.P B.G L F H σ s.heap → wpAny B.M A t (fun a s' => After B L H σ F s s' (Ψ a)) (fun _ _ => False) s
theorem W_of {α : Type} {B : Base} {n : Nat} {L : Addr} {t : Sem α} {H : List (Value × AV)} {σ : St} {Ψ : α → Fz → St → Prop}
    (h : ∀ A F s, Room n A → Holds B.P B.G L F H σ s.heap → wpAny B.M A t (fun a s' => After B L H σ F s s' (Ψ a)) (fun _ _ => False) s) : W B n L t H σ Ψ := ⟨h⟩

/-- the same for a tree that gives a value -/
noncomputable abbrev WV (B : Base) (n : Nat) (L : Addr) (t : Sem Value) (H : List (Value × AV)) (σ : St) (Φ : Value → AV → St → Prop) : Prop :=
  W B n L t H σ (fun v F' σ' => ∃ d, Is B.P F' v d ∧ Φ v d σ')
noncomputable abbrev WB (B : Base) (n : Nat) (L : Addr) (t : Sem Bool) (H : List (Value × AV)) (σ : St) (Φ : Bool → St → Prop) : Prop :=
  W B n L t H σ (fun b _ σ' => Φ b σ')
noncomputable abbrev WU (B : Base) (n : Nat) (L : Addr) (t : Sem Unit) (H : List (Value × AV)) (σ : St) (Φ : St → Prop) : Prop :=
  W B n L t H σ (fun _ _ σ' => Φ σ')

inductive Fl where
  | next | brk | cont | ret (d : AV)
noncomputable def FlIs (P : Params) (F : Fz) : Flow → Fl → Prop
  | .next, .next => True
  | .brk, .brk => True
  | .cont, .cont => True
  | .ret v, .ret d => Is P F v d
  | _, _ => False
noncomputable abbrev WF (B : Base) (n : Nat) (L : Addr) (t : Sem Flow) (H : List (Value × AV)) (σ : St) (Φ : Fl → St → Prop) : Prop :=
  W B n L t H σ (fun f F' σ' => ∃ e, FlIs B.P F' f e ∧ Φ e σ')

section
variable {B : Base} {n : Nat} {L : Addr} {H : List (Value × AV)} {σ : St} {α β : Type}

theorem After.here {F : Fz} {s : Shared} {Ψ : Fz → St → Prop} (h : Holds B.P B.G L F H σ s.heap) (q : Ψ F σ) : After B L H σ F s s Ψ := ⟨F, σ, h, .refl _ _ _, q⟩
theorem After.mono {F : Fz} {s s' : Shared} {Ψ Ψ' : Fz → St → Prop} (h : After B L H σ F s s' Ψ) (k : ∀ F' σ', Ψ F' σ' → Ψ' F' σ') : After B L H σ F s s' Ψ' :=
  let ⟨F', σ', a, b, c⟩ := h; ⟨F', σ', a, b, k _ _ c⟩

theorem W_mono {t : Sem α} {Ψ Ψ' : α → Fz → St → Prop} (h : W B n L t H σ Ψ) (k : ∀ a F σ, Ψ a F σ → Ψ' a F σ) : W B n L t H σ Ψ' :=
  W_of fun A F s hA x => wpAny_mono (h.run A F s hA x) (fun _ _ y => y.mono fun _ _ z => k _ _ _ z) fun _ _ y => y

/-- what comes behind -/
theorem W_bindG {t : Sem α} {k : α → Sem β} {Ψ₁ : α → Fz → St → Prop} {Ψ : β → Fz → St → Prop} (h : W B n L t H σ Ψ₁)
    (hk : ∀ a F σ₁, Ψ₁ a F σ₁ → ∃ H', (∀ p ∈ H, p ∈ H') ∧ (∀ p ∈ H', p ∈ H ∨ Is B.P F p.1 p.2) ∧ W B n L (k a) H' σ₁ Ψ) : W B n L (t >>= k) H σ Ψ := by
  refine W_of fun A F s hA x => ?_
  refine wpAny_bind (wpAny_mono (h.run A F s hA x) (fun a s₁ y => ?_) fun _ _ y => y)
  obtain ⟨F₁, σ₁, x₁, p₁, q⟩ := y
  obtain ⟨H', e1, e2, w⟩ := hk a F₁ σ₁ q
  have x₁' : Holds B.P B.G L F₁ H' σ₁ s₁.heap := ⟨x₁.core, x₁.sub, x₁.loc, x₁.names, x₁.objs, x₁.nodup, x₁.apart, fun p hp => (e2 p hp).elim (x₁.held p) id, x₁.low⟩
  refine wpAny_mono (w.run A F₁ s₁ hA x₁') (fun b s₂ y => ?_) fun _ _ y => y
  obtain ⟨F₂, σ₂, x₂, p₂, q₂⟩ := y
  exact ⟨F₂, σ₂, x₂.weaken e1, p₁.trans p₂, q₂⟩

theorem W_bindV {t : Sem Value} {k : Value → Sem β} {Ψ : β → Fz → St → Prop} (h : WV B n L t H σ (fun v d σ₁ => W B n L (k v) ((v, d) :: H) σ₁ Ψ)) : W B n L (t >>= k) H σ Ψ :=
  W_bindG h fun a F σ₁ q => by
    obtain ⟨d, hd, w⟩ := q
    exact ⟨(a, d) :: H, fun p hp => .tail _ hp, fun p hp => by rcases List.mem_cons.mp hp with rfl | hp; exact .inr hd; exact .inl hp, w⟩
theorem W_bindB {t : Sem Bool} {k : Bool → Sem β} {Ψ : β → Fz → St → Prop} (h : WB B n L t H σ (fun b σ₁ => W B n L (k b) H σ₁ Ψ)) : W B n L (t >>= k) H σ Ψ :=
  W_bindG h fun a F σ₁ q => ⟨H, fun _ h => h, fun _ h => .inl h, q⟩
theorem W_bindU {t : Sem Unit} {k : Unit → Sem β} {Ψ : β → Fz → St → Prop} (h : WU B n L t H σ (fun σ₁ => W B n L (k ()) H σ₁ Ψ)) : W B n L (t >>= k) H σ Ψ :=
  W_bindG h fun a F σ₁ q => ⟨H, fun _ h => h, fun _ h => .inl h, q⟩

theorem W_holding {vs : List Value} {t : Sem α} {Ψ : α → Fz → St → Prop} (h : W B n L t H σ Ψ) : W B n L (holding vs t) H σ Ψ := W_of fun A F s hA x => wpAny_holding (h.run A F s hA x)
theorem W_standB {p : Pos} {k : Unit → Sem β} {Ψ : β → Fz → St → Prop} (h : W B n L (k ()) H σ Ψ) : W B n L (standAt p >>= k) H σ Ψ := W_of fun A F s hA x => wpAny_bind (wpAny_standAt (h.run A F s hA x))

/-- an end: the state is the same but for the tokens -/
theorem After.toks {F : Fz} {s : Shared} {tk : Nat} {Ψ : Fz → St → Prop} (h : Holds B.P B.G L F H σ s.heap) (q : Ψ F σ) : After B L H σ F s { s with toks := tk } Ψ :=
  ⟨F, σ, h, ⟨fun _ _ _ e => e, fun _ h => .inl h, fun _ _ e => .inl e, .refl F, .refl _, rfl⟩, q⟩
/-- an end: more objects are there, none of them told -/
theorem After.more {F : Fz} {s s' : Shared} {Ψ : Fz → St → Prop} (h : Holds B.P B.G L F H σ s.heap) (k : ∀ b o, s.heap.get? b = some o → s'.heap.get? b = some o) (g : s'.gens = s.gens) (o : s'.os = s.os) (q : Ψ F σ) : After B L H σ F s s' Ψ :=
  ⟨F, σ, h.grow k, ⟨fun b o _ e => k b o e, fun _ h => .inl h, fun _ _ e => .inl e, .refl F, .of g, o⟩, q⟩
/-- an end: a new object that stays as it is -/
theorem After.fresh {F : Fz} {s s' : Shared} {Ψ : Fz → St → Prop} (h : Holds B.P B.G L F H σ s.heap) {a : Addr} {o : Obj} (k : ∀ b o, s.heap.get? b = some o → s'.heap.get? b = some o)
    (hn : s.heap.get? a = none) (ha : s'.heap.get? a = some o) (g : s'.gens = s.gens) (os : s'.os = s.os) (q : F.le (F.put a o) → Ψ (F.put a o) σ) : After B L H σ F s s' Ψ := by
  obtain ⟨x, le⟩ := h.frozen k hn ha
  refine ⟨_, σ, x, ⟨fun b o _ e => k b o e, fun _ h => .inl h, fun b o' e => ?_, le, .of g, os⟩, q le⟩
  unfold Fz.put at e
  split at e
  · rename_i z; subst z; exact .inr (.inr hn)
  · exact .inl e
end
section
variable {B : Base} {n : Nat} {L : Addr} {H : List (Value × AV)} {σ : St} {α β : Type}
theorem After.weaken {F : Fz} {s s' : Shared} {Ψ : Fz → St → Prop} {H' : List (Value × AV)} (y : After B L H' σ F s s' Ψ) (e : ∀ p ∈ H, p ∈ H') : After B L H σ F s s' Ψ :=
  let ⟨F', σ', a, b, c⟩ := y; ⟨F', σ', a.weaken e, b, c⟩
/-- and then -/
theorem After.then {A : Around} {t : Sem β} {F : Fz} {s s₁ : Shared} {Ψ₁ : Fz → St → Prop} {Ψ : β → Fz → St → Prop} (y : After B L H σ F s s₁ Ψ₁)
    (k : ∀ F₁ σ₁, Holds B.P B.G L F₁ H σ₁ s₁.heap → Ψ₁ F₁ σ₁ → wpAny B.M A t (fun b s₂ => After B L H σ₁ F₁ s₁ s₂ (Ψ b)) (fun _ _ => False) s₁) :
    wpAny B.M A t (fun b s₂ => After B L H σ F s s₂ (Ψ b)) (fun _ _ => False) s₁ := by
  obtain ⟨F₁, σ₁, x₁, p₁, q⟩ := y
  refine wpAny_mono (k F₁ σ₁ x₁ q) (fun b s₂ y => ?_) fun _ _ z => z
  obtain ⟨F₂, σ₂, x₂, p₂, q₂⟩ := y
  exact ⟨F₂, σ₂, x₂, p₁.trans p₂, q₂⟩
theorem After.fin {F : Fz} {s s₁ s₂ : Shared} {Ψ₁ Ψ : Fz → St → Prop} (y : After B L H σ F s s₁ Ψ₁)
    (k : ∀ F₁ σ₁, Holds B.P B.G L F₁ H σ₁ s₁.heap → Ψ₁ F₁ σ₁ → After B L H σ₁ F₁ s₁ s₂ Ψ) : After B L H σ F s s₂ Ψ := by
  obtain ⟨F₁, σ₁, x₁, p₁, q⟩ := y
  obtain ⟨F₂, σ₂, x₂, p₂, q₂⟩ := k F₁ σ₁ x₁ q
  exact ⟨F₂, σ₂, x₂, p₁.trans p₂, q₂⟩
/-- of the value itself nothing is said -/
theorem W_dropV {t : Sem β} {v : Value} {d : AV} {Ψ : β → Fz → St → Prop} (w : W B n L t H σ Ψ) : W B n L t ((v, d) :: H) σ Ψ :=
  W_of fun A F s hA x => by
    have y := w.run A F s hA (x.weaken fun _ hp => .tail _ hp)
    refine wpAny_mono y (fun b s' z => ?_) fun _ _ z => z
    obtain ⟨F', σ', a, b', c⟩ := z
    exact ⟨F', σ', ⟨a.core, a.sub, a.loc, a.names, a.objs, a.nodup, a.apart, fun p hp => (x.held p hp).mono b'.mono, x.low⟩, b', c⟩
end
section
variable {B : Base} {n : Nat} {L : Addr} {H : List (Value × AV)} {σ : St} {α β : Type}
theorem W_monoV {t : Sem Value} {Φ Φ' : Value → AV → St → Prop} (h : WV B n L t H σ Φ) (k : ∀ v d σ, Φ v d σ → Φ' v d σ) : WV B n L t H σ Φ' :=
  W_mono h fun _ _ _ ⟨d, hd, q⟩ => ⟨d, hd, k _ _ _ q⟩
theorem W_monoB {t : Sem Bool} {Φ Φ' : Bool → St → Prop} (h : WB B n L t H σ Φ) (k : ∀ b σ, Φ b σ → Φ' b σ) : WB B n L t H σ Φ' := W_mono h fun _ _ _ q => k _ _ q
theorem W_monoU {t : Sem Unit} {Φ Φ' : St → Prop} (h : WU B n L t H σ Φ) (k : ∀ σ, Φ σ → Φ' σ) : WU B n L t H σ Φ' := W_mono h fun _ _ _ q => k _ q
theorem W_monoF {t : Sem Flow} {Φ Φ' : Fl → St → Prop} (h : WF B n L t H σ Φ) (k : ∀ f σ, Φ f σ → Φ' f σ) : WF B n L t H σ Φ' := W_mono h fun _ _ _ ⟨d, hd, q⟩ => ⟨d, hd, k _ _ q⟩
theorem W_operate {vs : List Value} {m : Sem Value} {Ψ : Value → Fz → St → Prop} (h : W B n L m H σ Ψ) : W B n L (operate vs m) H σ Ψ := W_of fun A F s hA x => wpAny_operateT (h.run A F s hA x)
theorem W_release {vs ks : List Value} {k : Unit → Sem β} {Ψ : β → Fz → St → Prop} (h : W B n L (k ()) H σ Ψ) : W B n L (release vs ks >>= k) H σ Ψ := W_of fun A F s hA x => wpAny_bind (wpAny_release (h.run A F s hA x))
theorem W_releaseU {vs ks : List Value} {Φ : St → Prop} (h : Φ σ) : WU B n L (release vs ks) H σ Φ := W_of fun A F s hA x => wpAny_release (.here x h)
theorem W_retV {v : Value} {d : AV} {Φ : Value → AV → St → Prop} (m : (v, d) ∈ H) (h : Φ v d σ) : WV B n L (pure v) H σ Φ := W_of fun _ _ _ _ x => wpAny_pure (.here x ⟨d, x.hold m, h⟩)
theorem W_ret {a : α} {Φ : α → St → Prop} (h : Φ a σ) : W B n L (pure a) H σ (fun a _ σ => Φ a σ) := W_of fun _ _ _ _ x => wpAny_pure (.here x h)
theorem W_next {Φ : Fl → St → Prop} (h : Φ .next σ) : WF B n L (pure .next) H σ Φ := W_of fun _ _ _ _ x => wpAny_pure (.here x ⟨.next, trivial, h⟩)
/-- a value already held may be told otherwise too -/
theorem W_weakenH {H' : List (Value × AV)} {t : Sem α} {Ψ : α → Fz → St → Prop} (h : W B n L t H' σ Ψ) (e : ∀ p ∈ H', p ∈ H) : W B n L t H σ Ψ := W_of fun A F s hA x => by
  refine wpAny_mono (h.run A F s hA (x.weaken e)) (fun b s' z => ?_) fun _ _ z => z
  obtain ⟨F', σ', a, b', c⟩ := z
  exact ⟨F', σ', ⟨a.core, a.sub, a.loc, a.names, a.objs, a.nodup, a.apart, fun p hp => (x.held p hp).mono b'.mono, x.low⟩, b', c⟩
end
end
-- La3
section
/-- a value of the top, told the same whatever else is frozen -/
noncomputable def CoreIs (B : Base) (v : Value) (d : AV) : Prop := ∀ F : Fz, (∀ b o, B.G.get? b = some o → F b = some o) → Is B.P F v d
theorem CoreIs.lit (B : Base) (v : Value) : CoreIs B v (.lit v) := fun _ _ => .lit v

section
variable {B : Base} {n : Nat} {L : Addr} {H : List (Value × AV)} {σ : St} {env : Env}

/-! ### values -/
theorem E_none {k pos} {Φ : Value → AV → St → Prop} (h : Φ .none .none σ) : WV B n L (eval (.Constant .none k pos) env) H σ Φ :=
  W_of fun _ _ _ _ x => wpAny_Constant_none (.here x ⟨_, .none, h⟩)
theorem E_bool {b k pos} {Φ : Value → AV → St → Prop} (h : Φ (.bool b) (.bool b) σ) : WV B n L (eval (.Constant (.bool b) k pos) env) H σ Φ :=
  W_of fun _ _ _ _ x => wpAny_Constant_bool (.here x ⟨_, .bool b, h⟩)
theorem E_int {i k pos} {Φ : Value → AV → St → Prop} (h : ∀ v, Φ v (.int i) σ) : WV B n L (eval (.Constant (.int i) k pos) env) H σ Φ :=
  W_of fun _ _ _ _ x => wpAny_Constant_int (.toks x ⟨_, .int i _, h _⟩)
theorem E_str {x : Str} {l : List Nat} {k pos} {Φ : Value → AV → St → Prop} (e : x = S l) (h : ∀ v, Φ v (.str l) σ) : WV B n L (eval (.Constant (.str x) k pos) env) H σ Φ :=
  W_of fun _ _ _ _ y => wpAny_Constant_str (.toks y ⟨_, e ▸ .str l _, h _⟩)
theorem E_local {x : Str} {pos d} {Φ : Value → AV → St → Prop} (hm : (x, some d) ∈ σ.loc) (h : ∀ v, Φ v d σ) (hk : env.scope.kind = .function := by rfl) (hl : env.kindOf x = some .local := by rfl)
    (hL : env.locals = L := by rfl) (hd : (x == ("__debug__" : Str)) = false := by decide) : WV B n L (eval (.Name x pos) env) H σ Φ := by
  refine W_of fun A F s hA X => ?_
  obtain ⟨m, hns, r⟩ := X.loc
  obtain ⟨v, e, q⟩ := r x d hm
  exact wpAny_Name (wpAny_loadName_local hk hl (hL.symm ▸ hns) e (.here X ⟨d, q, h v⟩)) hd
theorem E_global {x : Str} {pos} {v : Value} {d : AV} {Φ : Value → AV → St → Prop} (e : nsIn B.K mainGlobals x = some (some v)) (c : CoreIs B v d) (h : Φ v d σ) (hk : env.scope.kind = .function := by rfl)
    (hl : env.kindOf x = some .globalImplicit := by rfl) (hg : env.globals = mainGlobals := by rfl) (hd : (x == ("__debug__" : Str)) = false := by decide) : WV B n L (eval (.Name x pos) env) H σ Φ := by
  refine W_of fun A F s hA X => ?_
  obtain ⟨mg, g⟩ := B.g
  refine Calls.Name_function_global hk hl (Calls.loadGlobal_global (hg.symm ▸ (g.keeps fun b o e => X.sub _ _ (X.core b o e))) (mg_of B.X g e) ?_) hd
  exact .here X ⟨d, c F X.core, h⟩
theorem E_builtin {x : Str} {pos} {v : Value} {Φ : Value → AV → St → Prop} (e : nsIn B.K mainGlobals x = some none) (hb : bootBuiltins x = some v) (h : Φ v (.lit v) σ) (hk : env.scope.kind = .function := by rfl)
    (hl : env.kindOf x = some .globalImplicit := by rfl) (hg : env.globals = mainGlobals := by rfl) (hbl : env.builtins = builtinsNs := by rfl) (hn : x ≠ ("__name__" : Str) := by decide)
    (hd : (x == ("__debug__" : Str)) = false := by decide) : WV B n L (eval (.Name x pos) env) H σ Φ := by
  refine W_of fun A F s hA X => ?_
  obtain ⟨mg, g⟩ := B.g
  obtain ⟨mb, b, hmb⟩ := B.b
  have up : ∀ b o, B.G.get? b = some o → s.heap.get? b = some o := fun b o e => X.sub _ _ (X.core b o e)
  refine Calls.Name_function_global hk hl (Calls.loadGlobal_builtin (hg.symm ▸ (g.keeps up)) (mg_none_of B.X g e) (hbl.symm ▸ (b.keeps up)) ((hmb x hn).trans hb) ?_) hd
  exact .here X ⟨_, .lit v, h⟩

/-! ### the make of expressions -/
theorem E_binop {l r : Expr} {op pos} {Φ : Value → AV → St → Prop}
    (h : WV B n L (eval l env) H σ fun a x σ₁ => WV B n L (eval r env) ((a, x) :: H) σ₁ fun b y σ₂ => WV B n L (binaryOp op a b) ((b, y) :: (a, x) :: H) σ₂ Φ) :
    WV B n L (eval (.BinOp l op r pos) env) H σ Φ := by
  rw [eval_BinOp]
  exact W_bindV (W_monoV h fun a x σ₁ w => W_bindV (W_holding (W_monoV w fun b y σ₂ w₂ => W_standB (W_operate w₂))))
theorem E_compare {l r : Expr} {op pos} {Φ : Value → AV → St → Prop}
    (h : WV B n L (eval l env) H σ fun a x σ₁ => WV B n L (eval r env) ((a, x) :: H) σ₁ fun b y σ₂ => WV B n L (compareOp op a b) ((b, y) :: (a, x) :: H) σ₂ Φ)
    (hm : behindInMarks op r = false := by with_unfolding_all rfl) : WV B n L (eval (.Compare l [op] [r] pos) env) H σ Φ := by
  rw [eval_Compare1, markedBehindIn_of_false hm]
  exact W_bindV (W_monoV h fun a x σ₁ w => W_bindV (W_holding (W_monoV w fun b y σ₂ w₂ => W_standB (W_operate w₂))))
theorem T_bool {b : Bool} {v : Value} {Φ : Bool → St → Prop} (m : (v, .bool b) ∈ H) (h : Φ b σ) : WB B n L (truthy v) H σ Φ := W_of fun A F s hA x => by
  have := x.hold m
  cases this
  exact wpAny_truthy_bool (.here x h)
/-- a test of two values: what the comparison gives is a bool -/
theorem T_compare {l r : Expr} {op pos whole} {Φ : Bool → St → Prop}
    (h : WV B n L (eval l env) H σ fun a x σ₁ => WV B n L (eval r env) ((a, x) :: H) σ₁ fun b y σ₂ => WV B n L (compareOp op a b) ((b, y) :: (a, x) :: H) σ₂ fun _ z σ₃ => ∃ c, z = .bool c ∧ Φ c σ₃)
    (hm : behindInMarks op r = false := by with_unfolding_all rfl) : WB B n L (isTrue (.Compare l [op] [r] pos) env whole) H σ Φ := by
  rw [isTrue_Compare1, markedBehindIn_of_false hm]
  exact W_bindV (W_monoV h fun a x σ₁ w => W_bindV (W_holding (W_monoV w fun b y σ₂ w₂ => W_standB (W_bindV (W_operate (W_monoV w₂ fun c z σ₃ ⟨k, e, q⟩ => by
    subst e; exact W_holding (T_bool (.head _) q)))))))
theorem T_value {e : Expr} {Φ : Bool → St → Prop} (h : WV B n L (eval e env) H σ fun v d σ₁ => WB B n L (truthy v) ((v, d) :: H) σ₁ Φ)
    (hs : ∀ whole, isTrue e env whole = (do let v ← whole; standAt e.pos; holding [v] (truthy v)) := by with_unfolding_all exact fun _ => rfl) :
    WB B n L (isTrue e env (eval e env)) H σ Φ := by
  rw [hs]
  exact W_bindV (W_monoV h fun v d σ₁ w => W_standB (W_holding w))
theorem T_not {x : Expr} {pos whole} {Φ : Bool → St → Prop} (h : WB B n L (isTrue x env (eval x env)) H σ fun b σ₁ => Φ (!b) σ₁) : WB B n L (isTrue (.UnaryOp .Not x pos) env whole) H σ Φ :=
  W_bindB (k := fun b => pure !b) (W_monoB h fun _ _ q => W_ret q)
theorem T_and {x : Expr} {rest : List Expr} {pos whole} {Φ : Bool → St → Prop} (h : WB B n L (allTrue .And (x :: rest) env) H σ Φ) : WB B n L (isTrue (.BoolOp .And (x :: rest) pos) env whole) H σ Φ := h
theorem T_or {x : Expr} {rest : List Expr} {pos whole} {Φ : Bool → St → Prop} (h : WB B n L (allTrue .Or (x :: rest) env) H σ Φ) : WB B n L (isTrue (.BoolOp .Or (x :: rest) pos) env whole) H σ Φ := h
theorem T_andNil {Φ : Bool → St → Prop} (h : Φ true σ) : WB B n L (allTrue .And [] env) H σ Φ := W_ret h
theorem T_orNil {Φ : Bool → St → Prop} (h : Φ false σ) : WB B n L (allTrue .Or [] env) H σ Φ := W_ret h
theorem T_andCons {x : Expr} {rest : List Expr} {Φ : Bool → St → Prop} (h : WB B n L (isTrue x env (eval x env)) H σ fun b σ₁ => (b = true → WB B n L (allTrue .And rest env) H σ₁ Φ) ∧ (b = false → Φ false σ₁)) :
    WB B n L (allTrue .And (x :: rest) env) H σ Φ := by
  rw [arm_allTrue_cons]
  refine W_bindB (W_monoB h fun b σ₁ q => ?_)
  cases b with
  | true => exact q.1 rfl
  | false => exact W_ret (q.2 rfl)
theorem T_orCons {x : Expr} {rest : List Expr} {Φ : Bool → St → Prop} (h : WB B n L (isTrue x env (eval x env)) H σ fun b σ₁ => (b = true → Φ true σ₁) ∧ (b = false → WB B n L (allTrue .Or rest env) H σ₁ Φ)) :
    WB B n L (allTrue .Or (x :: rest) env) H σ Φ := by
  rw [arm_allTrue_cons]
  refine W_bindB (W_monoB h fun b σ₁ q => ?_)
  cases b with
  | false => exact q.2 rfl
  | true => exact W_ret (q.1 rfl)
theorem E_neg {x : Expr} {pos} {Φ : Value → AV → St → Prop} (h : WV B n L (eval x env) H σ fun _ d σ₁ => ∃ i, d = .int i ∧ ∀ v, Φ v (.int (-i)) σ₁) :
    WV B n L (eval (.UnaryOp .USub x pos) env) H σ Φ := by
  rw [arm_eval_UnaryOp]
  refine W_bindV (W_monoV h fun v d σ₁ ⟨i, e, q⟩ => W_standB (W_holding <| W_of fun A F s hA x => ?_))
  subst e
  have := x.hold (.head _)
  cases this
  exact neg_int (.toks x ⟨_, .int _ _, q _⟩)

/-! ### statements -/
theorem S_nil {Φ : Fl → St → Prop} (h : Φ .next σ) : WF B n L (execs [] env) H σ Φ := W_of fun _ _ _ _ x => wpAny_execs_nil (.here x ⟨.next, trivial, h⟩)
theorem S_cons {st : Stmt} {rest : List Stmt} {Φ : Fl → St → Prop} (h : WF B n L (exec st env) H σ fun f σ₁ => match f with | .next => WF B n L (execs rest env) H σ₁ Φ | f => Φ f σ₁) :
    WF B n L (execs (st :: rest) env) H σ Φ := W_of fun A F s hA x => by
  rw [execs_cons]
  refine wpAny_bind (wpAny_mono (h.run A F s hA x) (fun f s₁ z => z.then fun F₁ σ₁ x₁ ⟨e, he, q⟩ => ?_) fun _ _ z => z)
  cases f with
  | next => cases e <;> first | exact he.elim | exact q.run A F₁ s₁ hA x₁
  | brk => cases e <;> first | exact he.elim | exact wpAny_pure (.here x₁ ⟨.brk, trivial, q⟩)
  | cont => cases e <;> first | exact he.elim | exact wpAny_pure (.here x₁ ⟨.cont, trivial, q⟩)
  | ret v => cases e <;> first | exact he.elim | exact wpAny_pure (.here x₁ ⟨.ret _, he, q⟩)
theorem S_break {pos} {Φ : Fl → St → Prop} (h : Φ .brk σ) : WF B n L (exec (.Break pos) env) H σ Φ := W_of fun _ _ _ _ x => wpAny_Break (.here x ⟨.brk, trivial, h⟩)
theorem S_continue {pos} {Φ : Fl → St → Prop} (h : Φ .cont σ) : WF B n L (exec (.Continue pos) env) H σ Φ := W_of fun _ _ _ _ x => wpAny_Continue (.here x ⟨.cont, trivial, h⟩)
theorem S_return {e : Expr} {pos} {Φ : Fl → St → Prop} (h : WV B n L (eval e env) H σ fun _ d σ₁ => Φ (.ret d) σ₁) : WF B n L (exec (.Return (some e) pos) env) H σ Φ := W_of fun A F s hA x =>
  wpAny_Return_some (wpAny_mono (h.run A F s hA x) (fun v s₁ z => z.fin fun F₁ σ₁ x₁ ⟨d, hd, q⟩ => .here x₁ ⟨.ret d, hd, q⟩) fun _ _ z => z)
theorem S_if {t : Expr} {body orelse : List Stmt} {pos} {Φ : Fl → St → Prop}
    (h : WB B n L (isTrue t env (eval t env)) H σ fun b σ₁ => (b = true → WF B n L (execs body env) H σ₁ Φ) ∧ (b = false → WF B n L (execs orelse env) H σ₁ Φ)) : WF B n L (exec (.If t body orelse pos) env) H σ Φ := by
  rw [arm_exec_If]
  refine W_standB (W_bindB (W_monoB h fun b σ₁ q => ?_))
  cases b with
  | true => exact q.1 rfl
  | false => exact q.2 rfl
theorem S_expr {e : Expr} {pos} {Φ : Fl → St → Prop} (h : WV B n L (eval e env) H σ fun _ _ σ₁ => Φ .next σ₁) (hi : interactive env = false := by rfl) (hs : swapsWith e none pos.line env = pure false := by rfl) :
    WF B n L (exec (.Expr e pos) env) H σ Φ := by
  rw [exec_Expr env e pos hi hs]
  refine W_standB (W_bindV (W_monoV h fun v d σ₁ q => W_of fun A F s hA x => ?_))
  exact wpAny_dropValue (.here x ⟨.next, trivial, q⟩)
theorem W_bindName {x : Str} {v : Value} {Φ : St → Prop} (h : WU B n L (storeName env x v) H σ Φ) : WU B n L (bindName env x v) H σ Φ := W_of fun A F s hA x => wpAny_bindName (h.run A F s hA x)
theorem S_assign1 {x : Str} {p pos} {e : Expr} {Φ : Fl → St → Prop} (h : WV B n L (eval e env) H σ fun v d σ₁ => WU B n L (storeName env x v) ((v, d) :: H) σ₁ fun σ₂ => Φ .next σ₂)
    (hs : swapsWith e (some (.Name x p)) pos.line env = pure false := by rfl) : WF B n L (exec (.Assign [.Name x p] e pos) env) H σ Φ := by
  rw [exec_Assign_Name env x p e pos hs]
  exact W_standB (W_bindV (W_monoV h fun v d σ₁ w => W_standB (W_bindU (W_bindName (W_monoU w fun σ₂ q => W_next q)))))
theorem S_aug1 {x : Str} {p pos op} {e : Expr} {Φ : Fl → St → Prop}
    (h : WV B n L (loadName env x) H σ fun a d σ₁ => WV B n L (eval e env) ((a, d) :: H) σ₁ fun b y σ₂ => WV B n L (inplaceOp op a b) ((b, y) :: (a, d) :: H) σ₂ fun c z σ₃ => WU B n L (storeName env x c) ((c, z) :: H) σ₃ fun σ₄ => Φ .next σ₄) :
    WF B n L (exec (.AugAssign (.Name x p) op e pos) env) H σ Φ := by
  rw [exec_AugAssign_Name]
  refine W_standB (W_bindV (W_monoV h fun a d σ₁ w => ?_))
  refine W_bindV (W_holding (W_monoV w fun b y σ₂ w₂ => ?_))
  refine W_standB (W_bindV (W_operate (W_monoV w₂ fun c z σ₃ w₃ => ?_)))
  refine W_standB (W_bindU (W_bindName (W_weakenH (W_monoU w₃ fun σ₄ q => W_next q) fun q hq => ?_)))
  rcases List.mem_cons.mp hq with rfl | hq
  · exact .head _
  · exact .tail _ (.tail _ (.tail _ hq))
end
end
-- La4
section
theorem sizeLine_is : sizeLine = 16777216 := by decide
theorem S_append (a b : List Nat) : S a ++ S b = S (a ++ b) := by
  show Str.append (S a) (S b) = _
  simp [Str.append, S]
theorem S_length (a : List Nat) : (S a).length = a.length := by simp [Str.length, S]
theorem S_inj {a b : List Nat} : S a = S b ↔ a = b := by
  constructor
  · intro e; injection e with e; simpa using e
  · rintro rfl; rfl
theorem S_beq (a b : List Nat) : (S a == S b) = decide (a = b) := by
  rw [Bool.eq_iff_iff]; simp [S_inj]
/-- the texts of a list of texts -/
noncomputable def textsOf : List AV → Option (List (List Nat))
  | [] => some []
  | .str x :: r => (textsOf r).map (x :: ·)
  | _ => none
theorem strsAre_of {P : Params} {F : Fz} : ∀ {vs : List Value} {l : List AV} {ms : List (List Nat)}, IsAll P F vs l → textsOf l = some ms → StrsAre vs (ms.map S)
  | _, _, _, .nil, e => by cases e; exact .nil
  | _, _, _, .cons (d := d) h r, e => by
    cases h <;> try (simp [textsOf] at e; done)
    rename_i x t
    simp only [textsOf, Option.map_eq_some_iff] at e
    obtain ⟨ms, e1, rfl⟩ := e
    exact .cons (S x) t (strsAre_of r e1)
theorem any_S (ms : List (List Nat)) (x : List Nat) : ((ms.map S).any fun y => y == S x) = decide (x ∈ ms) := by
  induction ms with
  | nil => exact (decide_eq_false (nomatch ·)).symm
  | cons m r ih =>
    rw [List.map_cons, List.any_cons, ih, S_beq, Bool.eq_iff_iff, Bool.or_eq_true, decide_eq_true_iff, decide_eq_true_iff, decide_eq_true_iff]
    constructor
    · rintro (h | h)
      · exact h ▸ .head _
      · exact .tail _ h
    · intro h
      cases h with
      | head => exact .inl rfl
      | tail _ h => exact .inr h

mutual
noncomputable def dataOf : AV → Option PyData
  | .none => some .none
  | .bool b => some (.bool b)
  | .int i => some (.int i)
  | .str x => some (.str (S x))
  | .tup l => (dataAll l).map .tuple
  | .lst l => (dataAll l).map .list
  | _ => none
noncomputable def dataAll : List AV → Option (List PyData)
  | [] => some []
  | d :: r => match dataOf d, dataAll r with
    | some a, some b => some (a :: b)
    | _, _ => none
end
mutual
theorem reads_of {P : Params} {F : Fz} {h : Heap} (k : ∀ b o, F b = some o → h.get? b = some o) : ∀ {v : Value} {d : AV} {p : PyData}, Is P F v d → dataOf d = some p → ∃ as, Reads h v p as
  | _, _, _, .none, e => by cases e; exact ⟨_, .none⟩
  | _, _, _, .bool b, e => by cases e; exact ⟨_, .bool b⟩
  | _, _, _, .int i t, e => by cases e; exact ⟨_, .int i t⟩
  | _, _, _, .str x t, e => by cases e; exact ⟨_, .str _ t⟩
  | _, _, _, .lit v, e => by simp [dataOf] at e
  | _, _, _, .ref v, e => by simp [dataOf] at e
  | _, _, _, .tup h r, e => by
    simp only [dataOf, Option.map_eq_some_iff] at e
    obtain ⟨ps, e, rfl⟩ := e
    obtain ⟨as, q⟩ := readsAll_of k r e
    exact ⟨as, .tuple (k _ _ h) rfl rfl (by simpa using q)⟩
  | _, _, _, .lst h r, e => by
    simp only [dataOf, Option.map_eq_some_iff] at e
    obtain ⟨ps, e, rfl⟩ := e
    obtain ⟨as, q⟩ := readsAll_of k r e
    exact ⟨_, .list (k _ _ h) rfl rfl (by simpa using q)⟩
  | _, _, _, .dct h r _ _, e => by simp [dataOf] at e
  | _, _, _, .meth h, e => by simp [dataOf] at e
  | _, _, _, .obj h q, e => by simp [dataOf] at e
  | _, _, _, .any v, e => by simp [dataOf] at e
theorem readsAll_of {P : Params} {F : Fz} {h : Heap} (k : ∀ b o, F b = some o → h.get? b = some o) : ∀ {vs : List Value} {l : List AV} {ps : List PyData}, IsAll P F vs l → dataAll l = some ps → ∃ as, ReadsAll h vs ps as
  | _, _, _, .nil, e => by cases e; exact ⟨_, .nil⟩
  | _, _, _, .cons h r, e => by
    simp only [dataAll] at e
    split at e
    · rename_i a b ea eb
      cases e
      obtain ⟨as, q⟩ := reads_of k h ea
      obtain ⟨bs, q'⟩ := readsAll_of k r eb
      exact ⟨_, .cons q q'⟩
    · cases e
end
theorem IsAll.length {P : Params} {F : Fz} : ∀ {vs : List Value} {l : List AV}, IsAll P F vs l → vs.length = l.length
  | _, _, .nil => rfl
  | _, _, .cons _ r => by simp [r.length]

theorem inv_int {P : Params} {F : Fz} {v : Value} {i : Int} (h : Is P F v (.int i)) : ∃ t, v = .int i t := by cases h; exact ⟨_, rfl⟩
theorem inv_str {P : Params} {F : Fz} {v : Value} {x : List Nat} (h : Is P F v (.str x)) : ∃ t, v = .str (S x) t := by cases h; exact ⟨_, rfl⟩
theorem inv_none {P : Params} {F : Fz} {v : Value} (h : Is P F v .none) : v = .none := by cases h; rfl
theorem inv_ref {P : Params} {F : Fz} {v : Value} {a : Addr} (h : Is P F v (.ref a)) : v = .ref a := by cases h; rfl
theorem inv_tup {P : Params} {F : Fz} {v : Value} {l : List AV} (h : Is P F v (.tup l)) : ∃ a vs n, v = .ref a ∧ F a = some (tupObj vs n) ∧ IsAll P F vs l := by cases h with | tup h1 h2 => exact ⟨_, _, _, rfl, h1, h2⟩
theorem inv_lst {P : Params} {F : Fz} {v : Value} {l : List AV} (h : Is P F v (.lst l)) : ∃ a vs n, v = .ref a ∧ F a = some (lstObj vs n) ∧ IsAll P F vs l := by cases h with | lst h1 h2 => exact ⟨_, _, _, rfl, h1, h2⟩
theorem inv_dct {P : Params} {F : Fz} {v : Value} {l : List (Str × AV)} (h : Is P F v (.dct l)) : ∃ a es n, v = .ref a ∧ F a = some (dictOf es n) ∧ IsEnts P F es l ∧ (l.map (·.1)).Nodup := by cases h with | dct h1 h2 h3 => exact ⟨_, _, _, rfl, h1, h2, h3⟩
theorem inv_meth {P : Params} {F : Fz} {v : Value} {f self : Addr} (h : Is P F v (.meth f self)) : ∃ a, v = .ref a ∧ F a = some (methodObj (.ref f) (.ref self)) := by cases h with | meth h1 => exact ⟨_, rfl, h1⟩

section
variable {B : Base} {n : Nat} {L : Addr} {H : List (Value × AV)} {σ : St} {a b : Value} {i j : Int} {x y : List Nat} {Φ : Value → AV → St → Prop}
/-! ### numbers -/
theorem O_add (ma : (a, .int i) ∈ H) (mb : (b, .int j) ∈ H) (h : ∀ v, Φ v (.int (i + j)) σ) : WV B n L (binaryOp .Add a b) H σ Φ := W_of fun A F s hA X => by
  obtain ⟨t1, rfl⟩ := inv_int (X.hold ma); obtain ⟨t2, rfl⟩ := inv_int (X.hold mb)
  with_reducible exact P.add_int (.toks X ⟨_, .int _ _, h _⟩)
theorem O_sub (ma : (a, .int i) ∈ H) (mb : (b, .int j) ∈ H) (h : ∀ v, Φ v (.int (i - j)) σ) : WV B n L (binaryOp .Sub a b) H σ Φ := W_of fun A F s hA X => by
  obtain ⟨t1, rfl⟩ := inv_int (X.hold ma); obtain ⟨t2, rfl⟩ := inv_int (X.hold mb)
  with_reducible exact P.sub_int (.toks X ⟨_, .int _ _, h _⟩)
theorem O_mod (ma : (a, .int i) ∈ H) (mb : (b, .int j) ∈ H) (hb : j ≠ 0) (h : ∀ v, Φ v (.int (i.fmod j)) σ) : WV B n L (binaryOp .Mod a b) H σ Φ := W_of fun A F s hA X => by
  obtain ⟨t1, rfl⟩ := inv_int (X.hold ma); obtain ⟨t2, rfl⟩ := inv_int (X.hold mb)
  with_reducible exact mod_int' hb (.toks X ⟨_, .int _ _, h _⟩)
theorem O_iadd (ma : (a, .int i) ∈ H) (mb : (b, .int j) ∈ H) (h : ∀ v, Φ v (.int (i + j)) σ) : WV B n L (inplaceOp .Add a b) H σ Φ := W_of fun A F s hA X => by
  obtain ⟨t1, rfl⟩ := inv_int (X.hold ma); obtain ⟨t2, rfl⟩ := inv_int (X.hold mb)
  with_reducible exact P.iadd_int (.toks X ⟨_, .int _ _, h _⟩)
theorem O_le (ma : (a, .int i) ∈ H) (mb : (b, .int j) ∈ H) (h : ∀ v, Φ v (.bool (decide (i ≤ j))) σ) : WV B n L (compareOp .LtE a b) H σ Φ := W_of fun A F s hA X => by
  obtain ⟨t1, rfl⟩ := inv_int (X.hold ma); obtain ⟨t2, rfl⟩ := inv_int (X.hold mb)
  with_reducible exact P.le_int (.here X ⟨_, .bool _, h _⟩)
theorem O_gt (ma : (a, .int i) ∈ H) (mb : (b, .int j) ∈ H) (h : ∀ v, Φ v (.bool (decide (j < i))) σ) : WV B n L (compareOp .Gt a b) H σ Φ := W_of fun A F s hA X => by
  obtain ⟨t1, rfl⟩ := inv_int (X.hold ma); obtain ⟨t2, rfl⟩ := inv_int (X.hold mb)
  with_reducible exact P.gt_int (.here X ⟨_, .bool _, h _⟩)
theorem O_ge (ma : (a, .int i) ∈ H) (mb : (b, .int j) ∈ H) (h : ∀ v, Φ v (.bool (decide (j ≤ i))) σ) : WV B n L (compareOp .GtE a b) H σ Φ := W_of fun A F s hA X => by
  obtain ⟨t1, rfl⟩ := inv_int (X.hold ma); obtain ⟨t2, rfl⟩ := inv_int (X.hold mb)
  with_reducible exact P.ge_int (.here X ⟨_, .bool _, h _⟩)
theorem O_eq (ma : (a, .int i) ∈ H) (mb : (b, .int j) ∈ H) (h : ∀ v, Φ v (.bool (decide (i = j))) σ) : WV B n L (compareOp .Eq a b) H σ Φ := W_of fun A F s hA X => by
  obtain ⟨t1, rfl⟩ := inv_int (X.hold ma); obtain ⟨t2, rfl⟩ := inv_int (X.hold mb)
  have e : (i == j) = decide (i = j) := by rw [Bool.eq_iff_iff]; simp
  with_reducible exact P.eq_int (.here X ⟨_, .bool _, e ▸ h _⟩)
theorem O_ne (ma : (a, .int i) ∈ H) (mb : (b, .int j) ∈ H) (h : ∀ v, Φ v (.bool (!decide (i = j))) σ) : WV B n L (compareOp .NotEq a b) H σ Φ := W_of fun A F s hA X => by
  obtain ⟨t1, rfl⟩ := inv_int (X.hold ma); obtain ⟨t2, rfl⟩ := inv_int (X.hold mb)
  have e : (i != j) = !decide (i = j) := by rw [Bool.eq_iff_iff]; simp
  with_reducible exact P.ne_int (.here X ⟨_, .bool _, e ▸ h _⟩)
theorem T_none {Ψ : Bool → St → Prop} (ma : (a, .none) ∈ H) (h : Ψ false σ) : WB B n L (truthy a) H σ Ψ := W_of fun A F s hA X => by
  obtain rfl := inv_none (X.hold ma)
  with_reducible exact truthy_none (.here X h)

/-! ### texts -/
theorem O_addS (ma : (a, .str x) ∈ H) (mb : (b, .str y) ∈ H) (hz : x.length + y.length ≤ 16777216) (h : ∀ v, Φ v (.str (x ++ y)) σ) : WV B n L (binaryOp .Add a b) H σ Φ := W_of fun A F s hA X => by
  obtain ⟨t1, rfl⟩ := inv_str (X.hold ma); obtain ⟨t2, rfl⟩ := inv_str (X.hold mb)
  with_reducible exact add_str (fun _ _ => .toks X ⟨_, S_append x y ▸ .str _ _, h _⟩) (by rw [S_length, S_length, sizeLine_is]; exact hz)
theorem O_iaddS (ma : (a, .str x) ∈ H) (mb : (b, .str y) ∈ H) (hz : x.length + y.length ≤ 16777216) (h : ∀ v, Φ v (.str (x ++ y)) σ) : WV B n L (inplaceOp .Add a b) H σ Φ := W_of fun A F s hA X => by
  obtain ⟨t1, rfl⟩ := inv_str (X.hold ma); obtain ⟨t2, rfl⟩ := inv_str (X.hold mb)
  with_reducible exact iadd_str (fun _ _ => .toks X ⟨_, S_append x y ▸ .str _ _, h _⟩) (by rw [S_length, S_length, sizeLine_is]; exact hz)
theorem O_eqS (ma : (a, .str x) ∈ H) (mb : (b, .str y) ∈ H) (h : ∀ v, Φ v (.bool (decide (x = y))) σ) : WV B n L (compareOp .Eq a b) H σ Φ := W_of fun A F s hA X => by
  obtain ⟨t1, rfl⟩ := inv_str (X.hold ma); obtain ⟨t2, rfl⟩ := inv_str (X.hold mb)
  with_reducible exact eq_str (.here X ⟨_, .bool _, S_beq x y ▸ h _⟩)
theorem O_neS (ma : (a, .str x) ∈ H) (mb : (b, .str y) ∈ H) (h : ∀ v, Φ v (.bool (!decide (x = y))) σ) : WV B n L (compareOp .NotEq a b) H σ Φ := W_of fun A F s hA X => by
  obtain ⟨t1, rfl⟩ := inv_str (X.hold ma); obtain ⟨t2, rfl⟩ := inv_str (X.hold mb)
  have e : (S x != S y) = !decide (x = y) := by rw [bne, S_beq]
  with_reducible exact ne_str (.here X ⟨_, .bool _, e ▸ h _⟩)
theorem T_str {Ψ : Bool → St → Prop} (ma : (a, .str x) ∈ H) (hz : x.length ≤ 16777216) (h : Ψ (!decide (x = [])) σ) : WB B n L (truthy a) H σ Ψ := W_of fun A F s hA X => by
  obtain ⟨t1, rfl⟩ := inv_str (X.hold ma)
  have e : (((S x).length : Int) != 0) = !decide (x = []) := by rw [S_length, Bool.eq_iff_iff]; simp
  with_reducible exact P.truthy_str (by rw [S_length]; omega) (.toks X (e ▸ h))
theorem O_isNone {d : AV} (ma : (a, d) ∈ H) (mb : (b, .none) ∈ H) (hd : ∀ P F v, Is P F v d → (v == Value.none) = c) (h : ∀ v, Φ v (.bool c) σ) : WV B n L (compareOp .Is a b) H σ Φ := W_of fun A F s hA X => by
  have p := X.hold ma; obtain rfl := inv_none (X.hold mb)
  with_reducible exact is_none (.here X ⟨_, .bool _, hd _ _ _ p ▸ h _⟩)
theorem none_is (P : Params) (F : Fz) (v : Value) (h : Is P F v .none) : (v == Value.none) = true := by cases h; rfl
/-! ### in a tuple or a list of texts -/
theorem isTup_of {F : Fz} {h : Heap} (k : ∀ b o, F b = some o → h.get? b = some o) {t : Addr} {vs : List Value} {m : Nat} (e : F t = some (tupObj vs m)) : IsTup h t vs.toArray := ⟨_, k _ _ e, rfl, m, rfl⟩
theorem isList_of {F : Fz} {h : Heap} (k : ∀ b o, F b = some o → h.get? b = some o) {t : Addr} {vs : List Value} {m : Nat} (e : F t = some (lstObj vs m)) : h.IsList t vs.toArray := ⟨_, k _ _ e, rfl, m, rfl⟩
theorem O_inT {l : List AV} {ms : List (List Nat)} (ma : (a, .str x) ∈ H) (mb : (b, .tup l) ∈ H) (e : textsOf l = some ms) (h : ∀ v, Φ v (.bool (decide (x ∈ ms))) σ) : WV B n L (compareOp .In a b) H σ Φ := W_of fun A F s hA X => by
  obtain ⟨t1, rfl⟩ := inv_str (X.hold ma); obtain ⟨r2, vs, n1, rfl, h1, h2⟩ := inv_tup (X.hold mb)
  with_reducible exact in_tuple_strs (isTup_of X.sub h1) (by simpa using strsAre_of h2 e) (.here X ⟨_, .bool _, any_S ms x ▸ h _⟩)
/-- any two data without dicts -/
theorem O_eqD {d e : AV} {p q : PyData} {c : Bool} (ma : (a, d) ∈ H) (mb : (b, e) ∈ H) (hd : dataOf d = some p) (he : dataOf e = some q) (sp : SeqAt.shaped p = true) (sq : SeqAt.shaped q = true) (hc : PyData.eqv p q = c)
    (h : ∀ v, Φ v (.bool c) σ) : WV B n L (compareOp .Eq a b) H σ Φ := W_of fun A F s hA X => by
  obtain ⟨as, ra⟩ := reads_of X.sub (X.hold ma) hd
  obtain ⟨bs, rb⟩ := reads_of X.sub (X.hold mb) he
  refine eq_dataH ra rb sp sq ?_ (.here X ⟨_, .bool _, hc ▸ h _⟩)
  have := hA.units
  show A.units + 64 < 9900
  omega
theorem O_inTD {d : AV} {l : List AV} {p : PyData} {ps : List PyData} {c : Bool} (ma : (a, d) ∈ H) (mb : (b, .tup l) ∈ H) (hd : dataOf d = some p) (he : dataAll l = some ps) (sp : p.canLay0 = true) (sq : PyData.canLayAll0 ps = true)
    (dp : p.depth ≤ 64) (hc : (ps.any fun y => PyData.eqv y p) = c) (h : ∀ v, Φ v (.bool c) σ) : WV B n L (compareOp .In a b) H σ Φ := W_of fun A F s hA X => by
  obtain ⟨as, ra⟩ := reads_of X.sub (X.hold ma) hd
  obtain ⟨bs, rb⟩ := reads_of (p := .tuple ps) X.sub (X.hold mb) (by simp [dataOf, he])
  refine SeqAt.in_tuple_reads rb ra sq sp ?_ (.here X ⟨_, .bool _, hc ▸ h _⟩)
  have := hA.units
  show A.units + 1 + min (PyData.depthAll ps) p.depth < 9900
  omega
end
end
-- La5
section
/-! ### instances -/
noncomputable def getF (x : Str) (fs : List (Str × AV)) : Option AV := (fs.find? (fun p => p.1 == x)).map (·.2)
noncomputable def putF (x : Str) (d : AV) : List (Str × AV) → List (Str × AV)
  | [] => [(x, d)]
  | p :: r => if p.1 == x then (x, d) :: r else p :: putF x d r

section
variable {P : Params} {F : Fz}
theorem ents_get {x : Str} : ∀ {es : List DictEntry} {fs : List (Str × AV)} {d : AV}, IsEnts P F es fs → getF x fs = some d → ∃ v, getL x es = some (some v) ∧ Is P F v d
  | _, _, _, .nil, e => by cases e
  | _, _, d, .cons (x := y) (v := v) (d := c) h r, e => by
    simp only [getF, List.find?_cons] at e
    by_cases q : (y == x) = true
    · rw [q] at e
      cases e
      refine ⟨v, ?_, h⟩
      simp [getL, Value.isStr, q]
    · rw [Bool.not_eq_true] at q
      rw [q] at e
      obtain ⟨w, e1, e2⟩ := ents_get (x := x) r e
      refine ⟨w, ?_, e2⟩
      simp only [getL, List.find?_cons, Value.isStr, q] at e1 ⊢
      split at e1
      · rename_i en he; cases e1; rw [he]
      · split at e1 <;> cases e1
theorem ents_noref : ∀ {es : List DictEntry} {fs : List (Str × AV)}, IsEnts P F es fs → es.any (·.refKey) = false
  | _, _, .nil => rfl
  | _, _, .cons h r => by rw [List.any_cons, ents_noref r]; rfl
theorem ents_none {x : Str} : ∀ {es : List DictEntry} {fs : List (Str × AV)}, IsEnts P F es fs → getF x fs = none → es.find? (·.key.isStr x) = none
  | _, _, .nil, _ => rfl
  | _, _, .cons (x := y) h r, e => by
    simp only [getF, List.find?_cons] at e
    by_cases q : (y == x) = true
    · rw [q] at e; cases e
    · rw [Bool.not_eq_true] at q
      rw [q] at e
      rw [List.find?_cons]
      simp only [Value.isStr, q]
      exact ents_none r e
theorem ents_miss {x : Str} {es : List DictEntry} {fs : List (Str × AV)} (h : IsEnts P F es fs) (e : getF x fs = none) : getL x es = some none := by
  unfold getL
  rw [ents_none h e]
  dsimp only
  rw [ents_noref h]; rfl
theorem ents_some {x : Str} {es : List DictEntry} {fs : List (Str × AV)} (h : IsEnts P F es fs) : (getL x es).isSome = true := by
  cases e : getF x fs with
  | none => rw [ents_miss h e]; rfl
  | some d => obtain ⟨v, e1, _⟩ := ents_get h e; rw [e1]; rfl
theorem ents_put {x : Str} {t : Tok} {v : Value} {d : AV} (q : Is P F v d) : ∀ {es : List DictEntry} {fs : List (Str × AV)}, IsEnts P F es fs → IsEnts P F (putL x (PyData.keyHash P x) (.str x t) v es) (putF x d fs)
  | _, _, .nil => .cons q .nil
  | _, _, .cons (x := y) (t := u) h r => by
    unfold putL putF
    split
    · rename_i e
      have e : (y == x) = true := e
      rw [if_pos e]
      obtain rfl := beq_iff_eq.mp e
      exact .cons q r
    · rename_i e
      have e : ¬ (y == x) = true := e
      rw [if_neg e]
      exact .cons h (ents_put q r)
theorem ents_length : ∀ {es : List DictEntry} {fs : List (Str × AV)}, IsEnts P F es fs → es.length = fs.length
  | _, _, .nil => rfl
  | _, _, .cons _ r => by simp [ents_length r]
end

/-- the name is no method nor a taker of stores of the class C, whose instances have their own dicts -/
noncomputable def ownName (K : Frag) (C : Addr) (x : Str) : Bool := plainGet K C x && hasDictIn K C && (match findIn K (.ref C) x with | some a => noGet K a | none => false)
noncomputable def ownStore (K : Frag) (C : Addr) (x : Str) : Bool := (findIn K (.ref C) "__setattr__" == some (some (.builtin "object.__setattr__"))) && plainOver K C && (takerIn K C x == some none) && hasDictIn K C
/-- the name is the method f of the class C -/
noncomputable def methName (K : Frag) (C : Addr) (x : Str) (f : Addr) : Bool :=
  plainGet K C x && hasDictIn K C && (findIn K (.ref C) x == some (some (.ref f))) && isFn K (.ref f) && (specialIn K (.ref f) "__get__" == some (some (.builtin "function.__get__"))) && (takesIn K (.ref f) == some false) && !(copiedNames.contains x)
noncomputable def handedAV : AV → Bool
  | .lit v => handedIn v
  | .any => false
  | _ => true
theorem handed_of {P : Params} {F : Fz} {v : Value} {d : AV} (h : Is P F v d) (e : handedAV d = true) : handedIn v = true := by
  cases h <;> first | rfl | exact e | cases e

/-- all the objects that are not the top's, nor at L, nor at the places ex -/
noncomputable def others (G h : Heap) (L : Addr) (ex : List Addr) : List (Addr × Obj) :=
  (List.range h.objs.size).filterMap fun a => if a = L ∨ a ∈ ex ∨ (G.get? a).isSome = true then none else (h.get? a).map (a, ·)
theorem mem_others {G h : Heap} {L : Addr} {ex : List Addr} {a : Addr} {o : Obj} : (a, o) ∈ others G h L ex ↔ h.get? a = some o ∧ a ≠ L ∧ a ∉ ex ∧ G.get? a = none := by
  unfold others
  rw [List.mem_filterMap]
  constructor
  · rintro ⟨b, hb, e⟩
    split at e
    · cases e
    · rename_i q
      obtain ⟨o', h1, h2⟩ := Option.map_eq_some_iff.mp e
      cases h2
      simp only [not_or, Bool.not_eq_true, Option.isSome_eq_false_iff, Option.isNone_iff_eq_none] at q
      exact ⟨h1, q.1, q.2.1, q.2.2⟩
  · rintro ⟨h1, h2, h3, h4⟩
    refine ⟨a, List.mem_range.mpr (Heap.lt_size h1), ?_⟩
    rw [if_neg (by simp only [not_or, Bool.not_eq_true, Option.isSome_eq_false_iff, Option.isNone_iff_eq_none]; exact ⟨h2, h3, h4⟩), h1]; rfl
theorem news_others {G h : Heap} {L : Addr} {ex : List Addr} : News G L h (others G h L ex) := fun p hp => by
  obtain ⟨a, o⟩ := p
  obtain ⟨h1, h2, _, h4⟩ := mem_others.mp hp
  exact ⟨h1, h2, h4⟩
theorem kept_of {G h h' : Heap} {L : Addr} {ex : List Addr} {m : Str → Option Value} {news : List (Addr × Obj)} (low : ∀ b o, G.get? b = some o → h.get? b = some o) (F' : Fr G L h' m) (N' : News G L h' news) (sub : ∀ p ∈ others G h L ex, p ∈ news) :
    ∀ b o, b ≠ L → b ∉ ex → h.get? b = some o → h'.get? b = some o := by
  intro b o h1 h2 h3
  cases q : G.get? b with
  | none => exact (N' _ (sub (b, o) (mem_others.mpr ⟨h3, h1, h2, q⟩))).1
  | some o' =>
    have := low _ _ q
    rw [h3] at this
    cases this
    exact F'.keep _ _ q

section
variable {P : Params} {G : Heap} {L : Addr} {F : Fz} {H : List (Value × AV)} {h : Heap} {loc : List (Str × Option AV)} {objs pre post : List (Addr × AO)} {a : Addr} {o o' : AO}
theorem Holds.frame (x : Holds P G L F H ⟨loc, objs⟩ h) : ∃ m, Fr G L h m ∧ ∀ y d, (y, some d) ∈ loc → ∃ v, m y = some v ∧ Is P F v d := by
  obtain ⟨m, hm, r⟩ := x.loc
  exact ⟨m, ⟨hm, fun b o e => x.sub _ _ (x.core _ _ e), x.low⟩, r⟩
theorem Holds.outG (x : Holds P G L F H ⟨loc, objs⟩ h) {b : Addr} (hb : b ∈ L :: owns objs) : G.get? b = none := by
  cases q : G.get? b with
  | none => rfl
  | some o => have := x.apart b hb; rw [x.core _ _ q] at this; cases this
theorem Holds.obj (x : Holds P G L F H ⟨loc, objs⟩ h) (m : (a, o) ∈ objs) : OAt P F h a o := x.objs _ m

theorem owns_split : owns (pre ++ (a, o) :: post) = owns pre ++ (a :: (o.more ++ owns post)) := by rw [owns_append]; rfl
/-- one tracked object is changed, at one of its places -/
theorem Holds.change (x : Holds P G L F H ⟨loc, pre ++ (a, o) :: post⟩ h) {h' : Heap} {c : Addr} (hc : c = a ∨ c ∈ o.more) (em : o'.more = o.more)
    (k : ∀ b y, b ≠ L → b ≠ c → h.get? b = some y → h'.get? b = some y) (hl : ∃ m, h'.Ns L m ∧ ∀ x d, (x, some d) ∈ loc → ∃ v, m x = some v ∧ Is P F v d) (q : OAt P F h' a o') : Holds P G L F H ⟨loc, pre ++ (a, o') :: post⟩ h' := by
  have hcm : c ∈ a :: o.more := by rcases hc with rfl | hc; exact .head _; exact .tail _ hc
  have hnd := x.nodup
  have eo : owns (pre ++ (a, o') :: post) = owns (pre ++ (a, o) :: post) := by rw [owns_split, owns_split, em]
  have hco : c ∈ owns (pre ++ (a, o) :: post) := owns_mem.mpr ⟨(a, o), by simp, by rcases hc with h | h; exact .inl h; exact .inr h⟩
  have other : ∀ p : Addr × AO, p ∈ pre ∨ p ∈ post → ∀ b, b = p.1 ∨ b ∈ p.2.more → b ≠ c := by
    intro p hp b hb e
    rw [List.nodup_cons] at hnd
    have nd := hnd.2
    rw [show (⟨loc, pre ++ (a, o) :: post⟩ : St).objs = pre ++ (a, o) :: post from rfl, owns_split] at nd
    have nd2 := (List.nodup_append.mp nd)
    rcases hp with hp | hp
    · exact nd2.2.2 b (owns_mem.mpr ⟨p, hp, hb⟩) c (by
        rw [show a :: (o.more ++ owns post) = (a :: o.more) ++ owns post from rfl]
        exact List.mem_append_left _ hcm) e
    · have nd3 := nd2.2.1
      rw [show a :: (o.more ++ owns post) = (a :: o.more) ++ owns post from rfl, List.nodup_append] at nd3
      exact nd3.2.2 c hcm b (owns_mem.mpr ⟨p, hp, hb⟩) e.symm
  have neO : ∀ p : Addr × AO, p ∈ pre ∨ p ∈ post → ∀ b, b = p.1 ∨ b ∈ p.2.more → b ≠ L := by
    intro p hp b hb e
    rw [List.nodup_cons] at hnd
    exact hnd.1 (e ▸ owns_mem.mpr ⟨p, by rcases hp with hp | hp; exact List.mem_append_left _ hp; exact List.mem_append_right _ (.tail _ hp), hb⟩)
  refine ⟨x.core, fun b y e => k b y (fun z => ?_) (fun z => ?_) (x.sub _ _ e), hl, x.names, fun p hp => ?_, by rw [eo]; exact x.nodup, by rw [eo]; exact x.apart, x.held, x.low⟩
  · subst z
    have := x.apart b (.head _)
    rw [e] at this; cases this
  · subst z
    have := x.apart b (.tail _ hco)
    rw [e] at this; cases this
  · rcases List.mem_append.mp hp with hp | hp
    · exact (x.objs p (List.mem_append_left _ hp)).move (.refl F) fun b y hb e => k _ _ (neO p (.inl hp) b hb) (other p (.inl hp) b hb) e
    · rcases List.mem_cons.mp hp with rfl | hp
      · exact q
      · exact (x.objs p (List.mem_append_right _ (.tail _ hp))).move (.refl F) fun b y hb e => k _ _ (neO p (.inr hp) b hb) (other p (.inr hp) b hb) e
end

section
variable {B : Base} {n : Nat} {L : Addr} {H : List (Value × AV)} {loc : List (Str × Option AV)} {objs pre post : List (Addr × AO)} {a : Addr} {o o' : AO}
theorem After.change {F : Fz} {s s' : Shared} {Ψ : Fz → St → Prop} (x : Holds B.P B.G L F H ⟨loc, pre ++ (a, o) :: post⟩ s.heap) {c : Addr} (hc : c = a ∨ c ∈ o.more) (em : o'.more = o.more)
    (k : ∀ b y, b ≠ L → b ≠ c → s.heap.get? b = some y → s'.heap.get? b = some y) (hl : ∃ m, s'.heap.Ns L m ∧ ∀ x d, (x, some d) ∈ loc → ∃ v, m x = some v ∧ Is B.P F v d) (q : OAt B.P F s'.heap a o') (g : s'.gens = s.gens) (os : s'.os = s.os) (z : Ψ F ⟨loc, pre ++ (a, o') :: post⟩) :
    After B L H ⟨loc, pre ++ (a, o) :: post⟩ F s s' Ψ := by
  have hco : c ∈ L :: owns (pre ++ (a, o) :: post) := .tail _ (owns_mem.mpr ⟨(a, o), by simp, by rcases hc with h | h; exact .inl h; exact .inr h⟩)
  refine ⟨F, _, x.change hc em k hl q, ⟨fun b y hb e => k b y (fun z => hb (z ▸ .head _)) (fun z => hb (z ▸ hco)) e, fun b hb => .inl ?_, fun b y e => .inl e, .refl F, .of g, os⟩, z⟩
  rw [show owns (pre ++ (a, o') :: post) = owns (pre ++ (a, o) :: post) from by rw [owns_split, owns_split, em]] at hb
  exact hb
end
end
-- La6
section
/-! ### calls of the text's defs -/
structure CHolds (P : Params) (G : Heap) (F : Fz) (os : List (Addr × AO)) (h : Heap) : Prop where
  core : ∀ b o, G.get? b = some o → F b = some o
  sub : ∀ b o, F b = some o → h.get? b = some o
  objs : ∀ p ∈ os, OAt P F h p.1 p.2
  nodup : (owns os).Nodup
  apart : ∀ b ∈ owns os, F b = none
  big : G.objs.size ≤ h.objs.size

noncomputable def CallJ (B : Base) (n : Nat) (f : Addr) (args : List AV) (objs : List (Addr × AO)) (Φ : AV → List (Addr × AO) → Prop) : Prop :=
  ∀ A F s vs, Room n A → CHolds B.P B.G F objs s.heap → IsAll B.P F vs args →
    codeAny B.M A (.call (.ref f) ⟨vs, []⟩) (fun r s' => ∃ v d objs' F', r = .ok (.ret v) ∧ Is B.P F' v d ∧ CHolds B.P B.G F' objs' s'.heap ∧ Pres (owns objs) F s (owns objs') F' s' ∧ Φ d objs') s

theorem CallJ.mono {B : Base} {n : Nat} {f : Addr} {args : List AV} {objs : List (Addr × AO)} {Φ Φ' : AV → List (Addr × AO) → Prop} (h : CallJ B n f args objs Φ) (k : ∀ d o, Φ d o → Φ' d o) : CallJ B n f args objs Φ' :=
  fun A F s vs hA x hv => codeAny_mono (h A F s vs hA x hv) fun _ _ ⟨v, d, o, F', a, b, c, e, q⟩ => ⟨v, d, o, F', a, b, c, e, k _ _ q⟩
theorem CallJ.room {B : Base} {n m : Nat} {f : Addr} {args : List AV} {objs : List (Addr × AO)} {Φ : AV → List (Addr × AO) → Prop} (h : CallJ B m f args objs Φ) (e : m ≤ n) : CallJ B n f args objs Φ :=
  fun A F s vs hA x hv => h A F s vs (hA.le e) x hv

section
variable {P : Params} {G : Heap} {L : Addr} {F : Fz} {H : List (Value × AV)} {h : Heap} {σ : St}
theorem Holds.big (x : Holds P G L F H σ h) : G.objs.size ≤ h.objs.size := by
  obtain ⟨m, ⟨o, _, _, ho, _⟩, _⟩ := x.loc
  exact Nat.le_of_lt (Nat.lt_of_le_of_lt x.low (Heap.lt_size ho))
theorem Holds.call (x : Holds P G L F H σ h) : CHolds P G F σ.objs h :=
  ⟨x.core, x.sub, x.objs, (List.nodup_cons.mp x.nodup).2, fun b hb => x.apart b (.tail _ hb), x.big⟩
/-- back in the caller's frame -/
theorem Holds.back {B : Base} {s s' : Shared} {F' : Fz} {objs' : List (Addr × AO)} (x : Holds B.P B.G L F H σ s.heap) (y : CHolds B.P B.G F' objs' s'.heap) (p : Pres (owns σ.objs) F s (owns objs') F' s') :
    Holds B.P B.G L F' H ⟨σ.loc, objs'⟩ s'.heap ∧ Pres (L :: owns σ.objs) F s (L :: owns objs') F' s' := by
  have hL : L ∉ owns σ.objs := (List.nodup_cons.mp x.nodup).1
  obtain ⟨oL, hoL⟩ := x.there L (.head _)
  have hL' : L ∉ owns objs' := fun hm => by
    rcases p.own L hm with q | q
    · exact hL q
    · rw [hoL] at q; cases q
  refine ⟨⟨y.core, y.sub, ?_, x.names, y.objs, List.nodup_cons.mpr ⟨hL', y.nodup⟩, fun b hb => ?_, fun q hq => (x.held q hq).mono p.mono, x.low⟩, ⟨fun b o hb e => p.keep b o (fun hm => hb (.tail _ hm)) e, fun b hb => ?_, fun b o e => ?_, p.mono, p.gens, p.os⟩⟩
  · obtain ⟨m, ⟨o, es, ep, e1, r1⟩, r⟩ := x.loc
    exact ⟨m, ⟨o, es, ep, p.keep _ _ hL e1, r1⟩, fun z d hz => let ⟨v, e, q⟩ := r z d hz; ⟨v, e, q.mono p.mono⟩⟩
  · rcases List.mem_cons.mp hb with rfl | hb
    · cases q : F' b with
      | none => rfl
      | some o =>
        rcases p.frz b o q with z | z | z
        · rw [x.apart b (.head _)] at z; cases z
        · exact absurd z hL
        · rw [hoL] at z; cases z
    · exact y.apart b hb
  · rcases List.mem_cons.mp hb with rfl | hb
    · exact .inl (.head _)
    · exact (p.own b hb).imp_left (.tail _)
  · rcases p.frz b o e with z | z | z
    · exact .inl z
    · exact .inr (.inl (.tail _ z))
    · exact .inr (.inr z)
end

section
variable {B : Base} {n : Nat} {L : Addr} {H : List (Value × AV)} {σ : St} {env : Env}
theorem held_all {P : Params} {F : Fz} {G : Heap} {h : Heap} (x : Holds P G L F H σ h) : ∀ {vs : List Value} {ds : List AV}, vs.length = ds.length → (∀ p ∈ vs.zip ds, p ∈ H) → IsAll P F vs ds
  | [], [], _, _ => .nil
  | v :: vs, d :: ds, e, k => .cons (x.held _ (k _ (.head _))) (held_all x (Nat.succ.inj e) fun p hp => k p (.tail _ hp))

theorem W_callJ {f : Addr} {vs : List Value} {ds : List AV} {Φ : Value → AV → St → Prop} (e : vs.length = ds.length) (k : ∀ p ∈ vs.zip ds, p ∈ H)
    (c : CallJ B n f ds σ.objs fun d objs' => ∀ v, Φ v d ⟨σ.loc, objs'⟩) : WV B n L (call (.ref f) vs) H σ Φ := W_of fun A F s hA x => by
  refine wpAny_call (codeAny_mono (c A F s vs hA x.call (held_all x e k)) fun r s' z => ?_)
  obtain ⟨v, d, objs', F', rfl, hd, y, p, q⟩ := z
  obtain ⟨x', p'⟩ := x.back y p
  exact ⟨F', _, x', p', d, hd, q v⟩

/-! arguments -/
noncomputable abbrev WL (B : Base) (n : Nat) (L : Addr) (t : Sem (List Value)) (H : List (Value × AV)) (σ : St) (Φ : List Value → List AV → St → Prop) : Prop :=
  W B n L t H σ (fun vs F' σ' => ∃ ds, IsAll B.P F' vs ds ∧ Φ vs ds σ')
theorem W_args0 {pos} {Φ : List Value → List AV → St → Prop} (h : Φ [] [] σ) : WL B n L (spliced (backTo pos (starEach [] env))) H σ Φ := W_of fun _ _ _ _ x => spliced_nil (.here x ⟨[], .nil, h⟩)
theorem W_argsC {e : Expr} {rest : List Expr} {pos} {Φ : List Value → List AV → St → Prop}
    (h : WV B n L (eval e env) H σ fun v d σ₁ => WL B n L (spliced (backTo pos (starEach rest env))) ((v, d) :: H) σ₁ fun vs ds σ₂ => Φ (v :: vs) (d :: ds) σ₂)
    (he : starEach (e :: rest) env = (false, eval e env) :: starEach rest env := by rfl) : WL B n L (spliced (backTo pos (starEach (e :: rest) env))) H σ Φ := W_of fun A F s hA x => by
  rw [he]
  refine spliced_cons (wpAny_mono (h.run A F s hA x) (fun v s₁ z => z.then fun F₁ σ₁ x₁ ⟨d, hd, w⟩ => ?_) fun _ _ z => z)
  refine wpAny_mono (w.run A F₁ s₁ hA (x₁.push hd)) (fun vs s₂ z => ?_) fun _ _ z => z
  exact (z.fin fun F₂ σ₂ x₂ ⟨ds, hds, q⟩ => .here x₂ ⟨d :: ds, .cons (x₂.hold (.head _)) hds, q⟩).weaken fun _ hp => .tail _ hp
theorem evalArgs_all {M : Model} {A : Around} {E : Value → Shared → Prop} {s : Shared} {f : Value} {args : List (Bool × Sem Value)} {Q : Args → Shared → Prop} (hp : args.any (·.1) = false)
    (h : wpAny M A (spliced args) (fun vs s' => Q ⟨vs, []⟩ s') E s) : wpAny M A (evalArgs f true args []) Q E s := by
  cases args with
  | nil =>
    unfold evalArgs
    show wpAny M A (spliced [] >>= _) Q E s
    exact wpAny_bind (wpAny_mono h (fun vs s' z => wpAny_bind (wpAny_pure (wpAny_holding (wpAny_bind (wpAny_pure (wpAny_bind (wpAny_pure (wpAny_pure z)))))))) fun _ _ z => z)
  | cons a r =>
    obtain ⟨b, x⟩ := a
    cases b with
    | true => simp at hp
    | false => exact evalArgs_plain h
theorem W_callK {f : Addr} {first : List Value} {args : List Expr} {pos} {Φ : Value → AV → St → Prop} (hk : keepIn B.K (.ref f) = true)
    (h : WL B n L (spliced (backTo pos (starEach args env))) H σ fun vs ds σ₁ => WV B n L (call (.ref f) (first ++ vs)) (vs.zip ds ++ H) σ₁ Φ)
    (hp : (backTo pos (starEach args env)).any (·.1) = false := by rfl) : WV B n L (callWith pos (.ref f) first (backTo pos (starEach args env)) []) H σ Φ := W_of fun A F s hA x => by
  refine callWith_of (by rw [hp]; rfl) (keeps_K hk) (evalArgs_all hp (wpAny_mono (h.run A F s hA x) (fun vs s₁ z => ⟨?_, ?_⟩) fun _ _ z => z))
  · obtain ⟨_, _, x₁, _⟩ := z
    exact B.X.keeps fun b o e => x₁.sub _ _ (x₁.core _ _ e)
  · refine z.then fun F₁ σ₁ x₁ ⟨ds, hds, w⟩ => ?_
    have x₂ : Holds B.P B.G L F₁ (vs.zip ds ++ H) σ₁ s₁.heap := ⟨x₁.core, x₁.sub, x₁.loc, x₁.names, x₁.objs, x₁.nodup, x₁.apart, fun p hp => by
      rcases List.mem_append.mp hp with hp | hp
      · exact zip_is hds p hp
      · exact x₁.held p hp, x₁.low⟩
    exact wpAny_mono (w.run A F₁ s₁ hA x₂) (fun _ _ y => y.weaken fun _ hp => List.mem_append_right _ hp) fun _ _ z => z
where
  zip_is {P : Params} {F : Fz} : ∀ {vs : List Value} {ds : List AV}, IsAll P F vs ds → ∀ p ∈ vs.zip ds, Is P F p.1 p.2
    | _, _, .nil, _, hp => nomatch hp
    | _, _, .cons h r, p, hp => by
      rw [List.zip_cons_cons] at hp
      rcases List.mem_cons.mp hp with rfl | hp
      · exact h
      · exact zip_is r p hp
end

section
variable {B : Base} {n : Nat} {objs : List (Addr × AO)}
/-- what a def gives back: its body's own flow -/
noncomputable def BackJ (Φ : AV → List (Addr × AO) → Prop) : Fl → St → Prop
  | .ret d, σ => Φ d σ.objs
  | .next, σ => Φ .none σ.objs
  | _, _ => False
theorem C_def {name qual : Str} {params : Arguments} {body : List Stmt} {scope : Scope} {dV kV doc pm cdv ct oc : Value} {an od : Option Addr} {osl : Array (Option Value)} {f : Addr} {args : List AV} {loc : List (Str × Option AV)} {Φ : AV → List (Addr × AO) → Prop}
    (ho : B.K.lookup f = some ⟨oc, od, .func (fnOf name qual params body scope dV kV doc pm an cdv ct), osl⟩) (hcd : codeIn B.K cdv qual = true)
    (hb : ∀ (F : Fz) (s : Shared) (vs : List Value), IsAll B.P F vs args → B.K.In s.heap → (∀ b o, B.G.get? b = some o → F b = some o) → ∃ binds, BindsTo s (fnOf name qual params body scope dV kV doc pm an cdv ct) ⟨vs, []⟩ binds ∧ (∀ y ∈ binds, scope.names.lookup y.1 = some .local) ∧
      ∀ x d, (x, some d) ∈ loc → ∃ v, binds.reverse.lookup x = some v ∧ Is B.P F v d)
    (hn : (loc.map (·.1)).Nodup) (h : ∀ L, WF B n L (execs body (envOf qual scope L f cdv)) [] ⟨loc, objs⟩ (BackJ Φ))
    (hco : scope.isCoroutine = false := by rfl) (hgen : scope.isGenerator = false := by rfl) (hk : scope.kind = .function := by rfl) (hcell : ∀ x ∈ scope.names, x.2 ≠ .cell := by decide) : CallJ B (n + 1) f args objs Φ := by
  intro A F s vs hA x hvs
  have up : ∀ b o, B.G.get? b = some o → s.heap.get? b = some o := fun b o e => x.sub _ _ (x.core _ _ e)
  obtain ⟨binds, hbind, hloc, hl⟩ := hb F s vs hvs (B.X.keeps up) x.core
  refine codeAny_call_def (fd := fnOf name qual params body scope dV kV doc pm an cdv ct) (body := body) (binds := binds) (by have := hA.depth; show A.depth < 1000; omega) ((B.X.keeps up) _ _ ho) rfl (B.nolimit.keeps up)
    (codeRec_of (B.X.keeps up) hcd) rfl hbind hcell hloc (fun h₁ hns hk₁ => ?_) hco hgen hk
  have hL : s.heap.get? s.heap.objs.size = none := by
    cases q : s.heap.get? s.heap.objs.size with
    | none => rfl
    | some o => exact absurd (Heap.lt_size q) (Nat.lt_irrefl _)
  have there : ∀ b ∈ owns objs, ∃ o, s.heap.get? b = some o := fun b hb => by
    obtain ⟨p, hp, hb⟩ := owns_mem.mp hb
    exact (x.objs p hp).there b hb
  have hLo : s.heap.objs.size ∉ owns objs := fun hm => by obtain ⟨o, ho⟩ := there _ hm; rw [hL] at ho; cases ho
  have hLF : F s.heap.objs.size = none := by
    cases q : F s.heap.objs.size with
    | none => rfl
    | some o => have := x.sub _ _ q; rw [hL] at this; cases this
  have X : Holds B.P B.G s.heap.objs.size F [] ⟨loc, objs⟩ h₁ :=
    ⟨x.core, fun b o e => hk₁ _ _ (x.sub _ _ e), ⟨_, hns, hl⟩, hn, fun p hp => (x.objs p hp).move (.refl F) fun b o _ e => hk₁ _ _ e, List.nodup_cons.mpr ⟨hLo, x.nodup⟩,
      fun b hb => by rcases List.mem_cons.mp hb with rfl | hb; exact hLF; exact x.apart b hb, fun _ hp => (nomatch hp), x.big⟩
  have hA' : Room n (A.deeper (callEnv (fnOf name qual params body scope dV kV doc pm an cdv ct) s.heap.objs.size f)) :=
    ⟨hA.handled, by have := hA.depth; show A.depth + 1 + n ≤ 900; omega, by have := hA.units; show A.units + 3 + 8 * n ≤ 9000; omega⟩
  refine wpAny_mono ((h s.heap.objs.size).run _ F { s with heap := h₁, toks := s.toks + binds.length } hA' X) (fun fl s' z => ?_) fun _ _ z => z.elim
  obtain ⟨F', σ', x', p, e, he, q⟩ := z
  have fin : ∀ v d, Is B.P F' v d → Φ d σ'.objs → ∃ v' d' objs' F'', (Except.ok (.ret v) : Result) = .ok (.ret v') ∧ Is B.P F'' v' d' ∧ CHolds B.P B.G F'' objs' s'.heap ∧ Pres (owns objs) F s (owns objs') F'' s' ∧ Φ d' objs' := by
    intro v d hv hq
    refine ⟨v, d, σ'.objs, F', rfl, hv, x'.call, ⟨fun b o hb e => ?_, fun b hb => ?_, fun b o e => ?_, p.mono, p.gens, p.os⟩, hq⟩
    · refine p.keep b o (fun hm => ?_) (hk₁ _ _ e)
      rcases List.mem_cons.mp hm with rfl | hm
      · rw [hL] at e; cases e
      · exact hb hm
    · rcases p.own b (.tail _ hb) with z | z
      · rcases List.mem_cons.mp z with rfl | z
        · exact .inr hL
        · exact .inl z
      · refine .inr ?_
        cases w : s.heap.get? b with
        | none => rfl
        | some o => have := hk₁ _ _ w; rw [z] at this; cases this
    · rcases p.frz b o e with z | z | z
      · exact .inl z
      · rcases List.mem_cons.mp z with rfl | z
        · exact .inr (.inr hL)
        · exact .inr (.inl z)
      · refine .inr (.inr ?_)
        cases w : s.heap.get? b with
        | none => rfl
        | some o => have := hk₁ _ _ w; rw [z] at this; cases this
  cases fl with
  | ret v => cases e <;> first | exact he.elim | exact fin v _ he q
  | next => cases e <;> first | exact he.elim | exact fin .none .none .none q
  | brk => cases e <;> first | exact he.elim | exact q.elim
  | cont => cases e <;> first | exact he.elim | exact q.elim
end
end
-- La7
section
/-- the object at a is o, and o' in the other list -/
inductive Chg (a : Addr) (o o' : AO) : List (Addr × AO) → List (Addr × AO) → Prop
  | head {r} : Chg a o o' ((a, o) :: r) ((a, o') :: r)
  | tail {p r r'} : Chg a o o' r r' → Chg a o o' (p :: r) (p :: r')
theorem Chg.split {a : Addr} {o o' : AO} : ∀ {l l' : List (Addr × AO)}, Chg a o o' l l' → ∃ pre post, l = pre ++ (a, o) :: post ∧ l' = pre ++ (a, o') :: post
  | _, _, .head => ⟨[], _, rfl, rfl⟩
  | _, _, .tail (p := p) h => let ⟨pre, post, e, e'⟩ := h.split; ⟨p :: pre, post, by rw [e]; rfl, by rw [e']; rfl⟩

section
variable {B : Base} {n : Nat} {L : Addr} {H : List (Value × AV)} {σ : St} {env : Env}
theorem Holds.K {F : Fz} {h : Heap} (x : Holds B.P B.G L F H σ h) : B.K.In h := B.X.keeps fun b o e => x.sub _ _ (x.core _ _ e)

/-! ### attributes -/
theorem A_get {x : Addr} {C dx : Addr} {fs : List (Str × AV)} {name : Str} {expr : Bool} {v₀ : Value} {d : AV} {Φ : Value → AV → St → Prop} (mv : (v₀, .ref x) ∈ H) (m : (x, AO.inst C dx fs) ∈ σ.objs) (ho : ownName B.K C name = true)
    (hf : getF name fs = some d) (hd : handedAV d = true) (h : ∀ v, Φ v d σ) : WV B n L (getAttr v₀ name expr) H σ Φ := by
  refine W_of fun A F s hA X => ?_
  obtain rfl := inv_ref (X.hold mv)
  obtain ⟨h1, es, k, h2, h3⟩ := X.objs _ m
  obtain ⟨v, e1, e2⟩ := ents_get h3 hf
  simp only [ownName, Bool.and_eq_true] at ho
  obtain ⟨⟨hg, hh⟩, hn⟩ := ho
  cases ha : findIn B.K (.ref C) name with
  | none => rw [ha] at hn; cases hn
  | some attr =>
    rw [ha] at hn
    exact get_value X.K (⟨h1, rfl, rfl, h2⟩ : InstAt s.heap x (instObj C dx) C (some (dictOf es k))) (plainGet_of hg).1 (findObj_own hh ha hn (by rw [lookIn_dict]; exact e1)) (handed_of e2 hd) (.toks X ⟨d, e2, h v⟩)
theorem A_bound {x : Addr} {C dx f : Addr} {fs : List (Str × AV)} {name : Str} {expr : Bool} {v₀ : Value} {Φ : Value → AV → St → Prop} (mv : (v₀, .ref x) ∈ H) (m : (x, AO.inst C dx fs) ∈ σ.objs) (ho : methName B.K C name f = true)
    (hf : getF name fs = none) (h : ∀ v, Φ v (.meth f x) σ) : WV B n L (getAttr v₀ name expr) H σ Φ := by
  refine W_of fun A F s hA X => ?_
  obtain rfl := inv_ref (X.hold mv)
  obtain ⟨h1, es, k, h2, h3⟩ := X.objs _ m
  simp only [methName, Bool.and_eq_true, beq_iff_eq, Bool.not_eq_true'] at ho
  obtain ⟨⟨⟨⟨⟨⟨hg, hh⟩, ha⟩, hfn⟩, hgf⟩, ht⟩, hc⟩ := ho
  refine get_bind X.K (⟨h1, rfl, rfl, h2⟩ : InstAt s.heap x (instObj C dx) C (some (dictOf es k))) (plainGet_of hg).1 (findObj_fn hh ha hgf ht hc (by rw [lookIn_dict]; exact ents_miss h3 hf)) (plainGet_of hg).2
    (wpAny_call (fn_get (s := { s with toks := s.toks + 1 }) X.K (beq_iff_eq.mp hfn) (handed_on rfl ?_)))
  exact After.fresh X (fun b o e => Heap.get?_push_of_some _ e) (by
    show s.heap.get? s.heap.objs.size = none
    cases q : s.heap.get? s.heap.objs.size with
    | none => rfl
    | some o => exact absurd (Heap.lt_size q) (Nat.lt_irrefl _)) (Heap.get?_push_size _ rfl) rfl rfl fun le => ⟨_, .meth (Fz.put_self ..), h _⟩
theorem A_method {x : Addr} {C dx f : Addr} {fs : List (Str × AV)} {name : Str} {pl : Sem Bool} {v₀ : Value} {Ψ : Value × List Value → Fz → St → Prop} (mv : (v₀, .ref x) ∈ H) (m : (x, AO.inst C dx fs) ∈ σ.objs) (ho : methName B.K C name f = true)
    (hf : getF name fs = none) (h : ∀ F, Ψ (.ref f, [v₀]) F σ) : W B n L (getMethod v₀ name pl) H σ Ψ := by
  refine W_of fun A F s hA X => ?_
  obtain rfl := inv_ref (X.hold mv)
  obtain ⟨h1, es, k, h2, h3⟩ := X.objs _ m
  simp only [methName, Bool.and_eq_true, beq_iff_eq, Bool.not_eq_true'] at ho
  obtain ⟨⟨⟨⟨⟨⟨hg, hh⟩, ha⟩, hfn⟩, hgf⟩, ht⟩, hc⟩ := ho
  exact method_fn X.K (⟨h1, rfl, rfl, h2⟩ : InstAt s.heap x (instObj C dx) C (some (dictOf es k))) (plainGet_of hg).1 (plainGet_of hg).2 ha (beq_iff_eq.mp hfn) (by
    show (lookIn name (dictOf es k)).map _ = _
    rw [lookIn_dict, ents_miss h3 hf]; rfl) (.here X (h F))
/-- a method that lies in the object's own dict: no self is put ahead -/
theorem A_methodOwn {x : Addr} {C dx : Addr} {fs : List (Str × AV)} {name : Str} {pl : Sem Bool} {v₀ : Value} {d : AV} {Ψ : Value × List Value → Fz → St → Prop} (mv : (v₀, .ref x) ∈ H) (m : (x, AO.inst C dx fs) ∈ σ.objs)
    (ho : ownName B.K C name = true) (hn : findIn B.K (.ref C) name = some none) (hf : getF name fs = some d) (hd : handedAV d = true) (h : ∀ v F, Is B.P F v d → Ψ (v, []) F σ) : W B n L (getMethod v₀ name pl) H σ Ψ := by
  refine W_of fun A F s hA X => ?_
  have mv' := mv
  obtain rfl := inv_ref (X.hold mv)
  obtain ⟨h1, es, k, h2, h3⟩ := X.objs _ m
  have hg : plainGet B.K C name = true := by
    simp only [ownName, Bool.and_eq_true] at ho
    exact ho.1.1
  refine method_usual X.K (⟨h1, rfl, rfl, h2⟩ : InstAt s.heap x (instObj C dx) C (some (dictOf es k))) (plainGet_of hg).1 (plainGet_of hg).2 hn rfl ?_
  refine wpAny_mono ((A_get (n := n) (Φ := fun _ e σ' => e = d ∧ σ' = σ) mv m ho hf hd (fun _ => ⟨rfl, rfl⟩)).run A F s hA X) (fun v s' z => ?_) fun _ _ z => z
  obtain ⟨F', σ', X', p, e, he, rfl, rfl⟩ := z
  exact ⟨F', _, X', p, h v F' he⟩
theorem A_set {x : Addr} {C dx : Addr} {fs : List (Str × AV)} {name : Str} {v₀ v : Value} {d : AV} {objs' : List (Addr × AO)} {Φ : St → Prop} (mv : (v₀, .ref x) ∈ H) (md : (v, d) ∈ H) (m : Chg x (.inst C dx fs) (.inst C dx (putF name d fs)) σ.objs objs')
    (ho : ownStore B.K C name = true) (hz : fs.length ≤ 900) (h : Φ ⟨σ.loc, objs'⟩) : WU B n L (setAttr v₀ name v) H σ Φ := by
  refine W_of fun A F s hA X => ?_
  obtain ⟨loc, objs⟩ := σ
  obtain ⟨pre, post, rfl, rfl⟩ := m.split
  obtain rfl := inv_ref (X.hold mv)
  have hd := X.hold md
  obtain ⟨h1, es, k, h2, h3⟩ := X.objs (x, .inst C dx fs) (by simp)
  simp only [ownStore, Bool.and_eq_true, beq_iff_eq] at ho
  obtain ⟨⟨⟨hs, hp⟩, ht⟩, hh⟩ := ho
  obtain ⟨m₀, FR, hl⟩ := X.frame
  have hdo : dx ∈ owns (pre ++ (x, AO.inst C dx fs) :: post) := owns_mem.mpr ⟨(x, .inst C dx fs), by simp, .inr (.head _)⟩
  have hdx : dx ∈ L :: owns (pre ++ (x, AO.inst C dx fs) :: post) := .tail _ hdo
  have neL : dx ≠ L := fun e => (List.nodup_cons.mp X.nodup).1 (e ▸ hdo)
  have nex : x ≠ dx := fun e => by
    have := (List.nodup_cons.mp X.nodup).2
    rw [show (⟨loc, pre ++ (x, AO.inst C dx fs) :: post⟩ : St).objs = _ from rfl, owns_split] at this
    have := (List.nodup_append.mp this).2.1
    exact (List.nodup_cons.mp this).1 (by rw [e]; exact .head _)
  have nxL : x ≠ L := fun e => (List.nodup_cons.mp X.nodup).1 (e ▸ owns_mem.mpr ⟨(x, .inst C dx fs), by simp, .inl rfl⟩)
  have N : News B.G L s.heap ((dx, dictOf es k) :: others B.G s.heap L [dx]) := fun p hp => by
    rcases List.mem_cons.mp hp with rfl | hp
    · exact ⟨h2, neL, X.outG hdx⟩
    · exact news_others _ hp
  refine set_dict FR B.X N (⟨h1, rfl, rfl, h2⟩ : InstAt s.heap x (instObj C dx) C (some (dictOf es k))) rfl hs hp ht hh (ents_some h3) (es' := _) (n' := _) rfl
    (Upd.head fun p hp => by
      obtain ⟨a, o⟩ := p
      exact fun e => (mem_others.mp hp).2.2.1 (e ▸ .head _)) ?_ fun h' F' N' => ?_
  · have e1 := ents_length h3
    have e2 : (putL name (PyData.keyHash B.w.params name) (.str name (s.toks + 1)) v es).length = _ := ents_length (ents_put (x := name) (t := s.toks + 1) hd h3)
    have : ∀ fs : List (Str × AV), (putF name d fs).length ≤ fs.length + 1 := by
      intro fs
      induction fs with
      | nil => simp [putF]
      | cons p r ih =>
        unfold putF
        split
        · simp
        · simp only [List.length_cons]; omega
    have := this fs
    omega
  · have keep : ∀ b o, b ≠ L → b ≠ dx → s.heap.get? b = some o → h'.get? b = some o := fun b o q1 q2 e =>
      kept_of (fun b o e => X.sub _ _ (X.core _ _ e)) F' N' (ex := [dx]) (h := s.heap) (fun p hp => .tail _ hp) b o q1 (fun hm => q2 (List.mem_singleton.mp hm)) e
    exact After.change (o' := .inst C dx (putF name d fs)) X (c := dx) (.inr (.head _)) rfl (fun b o q1 q2 e => keep b o q1 q2 e) ⟨m₀, F'.ns, hl⟩ ⟨keep _ _ nxL nex h1, _, _, (N' _ (.head _)).1, ents_put hd h3⟩ rfl rfl h
end
end
-- La8
section
/-! ### the frame's names -/
inductive SetL (x : Str) (d : AV) : List (Str × Option AV) → List (Str × Option AV) → Prop
  | hit {o r} : SetL x d ((x, o) :: r) ((x, some d) :: r)
  | skip {p r r'} : SetL x d r r' → SetL x d (p :: r) (p :: r')
theorem SetL.keys {x : Str} {d : AV} : ∀ {l l' : List (Str × Option AV)}, SetL x d l l' → l'.map (·.1) = l.map (·.1)
  | _, _, .hit => rfl
  | _, _, .skip h => by rw [List.map_cons, List.map_cons, h.keys]
theorem SetL.isKey {x : Str} {d : AV} : ∀ {l l' : List (Str × Option AV)}, SetL x d l l' → x ∈ l.map (·.1)
  | _, _, .hit => .head _
  | _, _, .skip h => .tail _ h.isKey
theorem SetL.mem {x y : Str} {d e : AV} : ∀ {l l' : List (Str × Option AV)}, SetL x d l l' → (l.map (·.1)).Nodup → (y, some e) ∈ l' → (y = x ∧ e = d) ∨ (y ≠ x ∧ (y, some e) ∈ l)
  | _, _, .hit (r := r), n, h => by
    rw [List.map_cons, List.nodup_cons] at n
    cases h with
    | head => exact .inl ⟨rfl, rfl⟩
    | tail _ h => exact .inr ⟨fun z => n.1 (List.mem_map.mpr ⟨(y, some e), h, z⟩), .tail _ h⟩
  | _, _, .skip (p := p) s, n, h => by
    rw [List.map_cons, List.nodup_cons] at n
    cases h with
    | head => exact .inr ⟨fun z => n.1 (z ▸ s.isKey), .head _⟩
    | tail _ h => exact (s.mem n.2 h).imp_right fun q => ⟨q.1, .tail _ q.2⟩

section
variable {B : Base} {n : Nat} {L : Addr} {H : List (Value × AV)} {σ : St} {env : Env}
theorem V_store {x : Str} {v : Value} {d : AV} {loc' : List (Str × Option AV)} {Φ : St → Prop} (md : (v, d) ∈ H) (m : SetL x d σ.loc loc') (h : Φ ⟨loc', σ.objs⟩) (hl : env.kindOf x = some .local := by rfl)
    (hL : env.locals = L := by rfl) (hp : (env.scope.kind == .class || (env.scope.kind == .module && env.locals != env.globals)) = false := by rfl) : WU B n L (storeName env x v) H σ Φ := by
  refine W_of fun A F s hA X => ?_
  subst hL
  obtain ⟨m₀, hns, r⟩ := X.loc
  refine wpAny_storeName_local hl hns (fun h' hn hs => ?_) hp
  have keep : ∀ b o, b ≠ env.locals → s.heap.get? b = some o → h'.get? b = some o := fun b o q e => (hs.2 b q).trans e
  refine ⟨F, ⟨loc', σ.objs⟩, ⟨X.core, fun b o e => keep b o (fun z => ?_) (X.sub _ _ e), ⟨_, hn, fun y e hy => ?_⟩, by rw [m.keys]; exact X.names, fun p hp => (X.objs p hp).move (.refl F) fun b o hb e => keep b o (fun z => ?_) e,
    X.nodup, X.apart, X.held, X.low⟩, ⟨fun b o hb e => keep b o (fun z => hb (z ▸ .head _)) e, fun b hb => .inl hb, fun b o e => .inl e, .refl F, .refl _, rfl⟩, h⟩
  · have := X.apart b (z ▸ .head _)
    rw [e] at this; cases this
  · rcases m.mem X.names hy with ⟨rfl, rfl⟩ | ⟨q, hy⟩
    · exact ⟨v, if_pos rfl, X.hold md⟩
    · obtain ⟨w, e1, e2⟩ := r y e hy
      exact ⟨w, by rw [if_neg q]; exact e1, e2⟩
  · exact (List.nodup_cons.mp X.nodup).1 (z ▸ owns_mem.mpr ⟨p, hp, hb⟩)
theorem V_load {x : Str} {d} {Φ : Value → AV → St → Prop} (hm : (x, some d) ∈ σ.loc) (h : ∀ v, Φ v d σ) (hk : env.scope.kind = .function := by rfl) (hl : env.kindOf x = some .local := by rfl)
    (hL : env.locals = L := by rfl) : WV B n L (loadName env x) H σ Φ := by
  refine W_of fun A F s hA X => ?_
  obtain ⟨m, hns, r⟩ := X.loc
  obtain ⟨v, e, q⟩ := r x d hm
  exact wpAny_loadName_local hk hl (hL.symm ▸ hns) e (.here X ⟨d, q, h v⟩)

/-! ### syntax of attributes -/
theorem E_attr {e : Expr} {attr : Str} {pos} {Φ : Value → AV → St → Prop} (h : WV B n L (eval e env) H σ fun o d σ₁ => WV B n L (getAttr o attr true) ((o, d) :: H) σ₁ Φ)
    (he : eval (.Attribute e attr pos) env = (do
      let o ← eval e env
      standAt pos.atName
      let r ← holding [o] (getAttr o attr true)
      letTemporaryGo e o r
      pure r) := by with_unfolding_all rfl) : WV B n L (eval (.Attribute e attr pos) env) H σ Φ := by
  rw [he]
  refine W_bindV (W_monoV h fun o d σ₁ w => W_standB (W_bindV (W_holding (W_monoV w fun r d₂ σ₂ q => ?_))))
  exact W_of fun A F s hA x => wpAny_bind (wpAny_letTemporaryGo (wpAny_pure (.here x ⟨_, x.hold (.head _), q⟩)))
theorem E_meth {o : Expr} {name : Str} {apos pos} {args : List Expr} {pl : Sem Bool} {Φ : Value → AV → St → Prop}
    (h : WV B n L (eval o env) H σ fun ov d σ₁ => W B n L (getMethod ov name pl) ((ov, d) :: H) σ₁ fun p _ σ₂ => WV B n L (callWith pos p.1 p.2 (backTo pos (starEach args env)) []) ((ov, d) :: H) σ₂ Φ)
    (he : eval (.Call (.Attribute o name apos) args [] pos) env = (do
      let ov ← eval o env
      standAt apos.atName
      let (f, first) ← holding [ov] (getMethod ov name pl)
      callWith pos f first (backTo pos (starEach args env)) []) := by rfl) : WV B n L (eval (.Call (.Attribute o name apos) args [] pos) env) H σ Φ := by
  rw [he]
  refine W_bindV (W_monoV h fun ov d σ₁ w => W_standB ?_)
  exact W_bindG (W_holding w) fun p F σ₂ q => ⟨(ov, d) :: H, fun _ h => h, fun _ h => .inl h, q⟩
theorem E_call {f : Expr} {args : List Expr} {pos} {Φ : Value → AV → St → Prop}
    (h : WV B n L (eval f env) H σ fun fv d σ₁ => WV B n L (callWith pos fv [] (backTo pos (starEach args env)) []) ((fv, d) :: H) σ₁ Φ)
    (he : eval (.Call f args [] pos) env = (do callWith pos (← eval f env) [] (backTo pos (starEach args env)) []) := by rfl) : WV B n L (eval (.Call f args [] pos) env) H σ Φ := by
  rw [he]
  exact W_bindV h
theorem S_assignAttr {e o : Expr} {attr : Str} {p pos} {Φ : Fl → St → Prop}
    (h : WV B n L (eval e env) H σ fun v d σ₁ => WV B n L (eval o env) ((v, d) :: H) σ₁ fun ov od σ₂ => WU B n L (setAttr ov attr v) ((ov, od) :: (v, d) :: H) σ₂ fun σ₃ => Φ .next σ₃)
    (hs : swapsWith e (some (.Attribute o attr p)) pos.line env = pure false := by rfl) : WF B n L (exec (.Assign [.Attribute o attr p] e pos) env) H σ Φ := by
  rw [plainObj_exec_Assign_Attribute o attr p e pos hs]
  refine W_standB (W_bindV (W_monoV h fun v d σ₁ w => ?_))
  rw [arm_assign_Attribute]
  refine W_bindU (W_bindV (W_holding (W_monoV w fun ov od σ₂ w₂ => W_standB (W_bindU (W_holding (W_monoU w₂ fun σ₃ q => ?_))))))
  exact W_releaseU (W_next q)
theorem S_augAttr {o e : Expr} {attr : Str} {p pos op} {Φ : Fl → St → Prop}
    (h : WV B n L (eval o env) H σ fun ov od σ₁ => WV B n L (getAttr ov attr true) ((ov, od) :: H) σ₁ fun a d σ₂ => WV B n L (eval e env) ((a, d) :: (ov, od) :: H) σ₂ fun b y σ₃ =>
      WV B n L (inplaceOp op a b) ((b, y) :: (a, d) :: (ov, od) :: H) σ₃ fun c z σ₄ => WU B n L (setAttr ov attr c) ((c, z) :: (ov, od) :: H) σ₄ fun σ₅ => Φ .next σ₅) :
    WF B n L (exec (.AugAssign (.Attribute o attr p) op e pos) env) H σ Φ := by
  rw [arm_exec_AugAssign_2]
  refine W_standB (W_bindV (W_monoV h fun ov od σ₁ w => W_bindV (W_holding ?_)))
  refine W_standB (W_bindV (W_monoV w fun a d σ₂ w₂ => W_bindV (W_holding (W_monoV w₂ fun b y σ₃ w₃ => W_standB (W_operate (W_monoV w₃ fun c z σ₄ w₄ => ?_))))))
  refine W_standB (W_bindU (W_holding (W_monoU w₄ fun σ₅ q => ?_)))
  exact W_of fun A F s hA x => wpAny_bind (wpAny_release (wpAny_pure (.here x ⟨.next, trivial, q⟩)))
end
end
-- La9
section
/-! ### the count of tokens never falls -/
theorem setGen_toks (s : Shared) (g : Nat) (x : GenState) : (s.setGen g x).toks = s.toks := rfl
theorem runs_toks {M : Model} {Γ : Ctx} {p : Pos} {t : Sem Fin} {fs : List Frame} {s : Shared} {e : End} {s' : Shared} (h : Runs M Γ p t fs s e s') : s.toks ≤ s'.toks := by
  induction h <;> (try simp only [setGen_toks] at *) <;> (try dsimp only at *) <;> omega
theorem wakes_toks {M : Model} {Γ : Ctx} {p : Pos} {g : Nat} {r : Resume} {s : Shared} {res : GenResult} {s' : Shared} (h : Wakes M Γ p g r s res s') : s.toks ≤ s'.toks := by
  unfold Wakes at h
  split at h
  · exact h.elim
  · split at h
    · obtain ⟨e, s₁, h1, _, _, rfl⟩ := h
      have := runs_toks h1
      simpa only [setGen_toks] using this
    · obtain ⟨_, rfl⟩ := h; exact Nat.le_refl _
    · obtain ⟨_, rfl⟩ := h; exact Nat.le_refl _
  · obtain ⟨e, s₁, h1, _, _, rfl⟩ := h
    have := runs_toks h1
    simpa only [setGen_toks] using this
  · obtain ⟨_, rfl⟩ := h; exact Nat.le_refl _
  · obtain ⟨_, rfl⟩ := h; exact Nat.le_refl _
theorem wp_toks {α : Type} (M : Model) (Γ : Ctx) (t : Sem α) {Q : α → Pos → Shared → Prop} {E : Value → Pos → Shared → Prop} {p : Pos} {s : Shared} (n : Nat) (hn : n ≤ s.toks) (h : Sem.wp M Γ t Q E p s) : Sem.wp M Γ t (fun a p' s' => n ≤ s'.toks ∧ Q a p' s') E p s := by
  induction t generalizing p s with
  | pure a => exact ⟨hn, h⟩
  | raise e => exact h
  | call c hd g l k ih =>
    obtain ⟨r, s₁, h1, h2⟩ := h
    exact ⟨r, s₁, h1, ih r (Nat.le_trans hn (runs_toks h1)) h2⟩
  | resume g r l k ih =>
    obtain ⟨r, s₁, h1, h2⟩ := h
    exact ⟨r, s₁, h1, ih r (Nat.le_trans hn (wakes_toks h1)) h2⟩
  | fresh k ih => exact ih _ (Nat.le_succ_of_le hn) h
  | load a part k ih => obtain ⟨o, h1, h2⟩ := h; exact ⟨o, h1, ih _ hn h2⟩
  | genState g k ih => obtain ⟨o, h1, h2⟩ := h; exact ⟨o, h1, ih _ hn h2⟩
  | update a part f k ih => exact ⟨h.1, ih _ hn h.2⟩
  | choose src m k ih => exact ⟨h.1, ih _ hn h.2⟩
  | rule _ k ih => exact ih _ hn h
  | «at» _ k ih => exact ih _ hn h
  | loadIfAlive _ k ih => exact ih _ hn h
  | point _ k ih => exact ih _ hn h
  | alloc _ k ih => exact ih _ hn h
  | ask k ih => exact ih _ hn h
  | os _ _ k ih => exact ih _ hn h
  | handled _ k ih => exact ih _ hn h
  | newGen _ k ih => exact ih _ hn h
  | stack k ih => exact ih _ hn h
  | thread k ih => exact ih _ hn h
  | _ => exact h.elim
theorem wpAny_toks {α : Type} {M : Model} {A : Around} {t : Sem α} {Q : α → Shared → Prop} {E : Value → Shared → Prop} {s : Shared} (h : wpAny M A t Q E s) : wpAny M A t (fun a s' => s.toks ≤ s'.toks ∧ Q a s') E s :=
  fun Γ p hΓ => wp_toks M Γ t s.toks (Nat.le_refl _) (h Γ p hΓ)

theorem get_size (h : Heap) : h.get? h.objs.size = none := by
  cases q : h.get? h.objs.size with
  | none => rfl
  | some o => exact absurd (Heap.lt_size q) (Nat.lt_irrefl _)

section
variable {B : Base} {n : Nat} {L : Addr} {H : List (Value × AV)} {σ : St} {env : Env}
/-- a new object that is tracked -/
theorem After.track {F : Fz} {s s' : Shared} {Ψ : Fz → St → Prop} (x : Holds B.P B.G L F H σ s.heap) {a : Addr} {o : AO} (k : ∀ b y, s.heap.get? b = some y → s'.heap.get? b = some y)
    (hn : ∀ b ∈ a :: o.more, s.heap.get? b = none) (nd : (a :: o.more).Nodup) (q : OAt B.P F s'.heap a o) (g : s'.gens = s.gens) (os : s'.os = s.os) (z : Ψ F ⟨σ.loc, (a, o) :: σ.objs⟩) : After B L H σ F s s' Ψ := by
  have old : ∀ b ∈ L :: owns σ.objs, b ∉ a :: o.more := fun b hb hm => by obtain ⟨y, hy⟩ := x.there b hb; rw [hn b hm] at hy; cases hy
  have x' := x.grow k
  have eo : owns ((a, o) :: σ.objs) = (a :: o.more) ++ owns σ.objs := rfl
  refine ⟨F, ⟨σ.loc, (a, o) :: σ.objs⟩, ⟨x.core, x'.sub, x'.loc, x.names, fun p hp => ?_, ?_, fun b hb => ?_, x.held, x.low⟩, ⟨fun b o _ e => k b o e, fun b hb => ?_, fun b o e => .inl e, .refl F, .of g, os⟩, z⟩
  · rcases List.mem_cons.mp hp with rfl | hp
    · exact q
    · exact x'.objs p hp
  · have xn := List.nodup_cons.mp x.nodup
    rw [eo, List.nodup_cons, List.nodup_append]
    refine ⟨fun hm => ?_, nd, xn.2, fun b hb c hc e => old c (.tail _ hc) (e ▸ hb)⟩
    rcases List.mem_append.mp hm with hm | hm
    · exact old L (.head _) hm
    · exact xn.1 hm
  · rw [eo] at hb
    rcases List.mem_cons.mp hb with rfl | hb
    · exact x.apart b (.head _)
    rcases List.mem_append.mp hb with hb | hb
    · cases w : F b with
      | none => rfl
      | some y => have := x.sub _ _ w; rw [hn b hb] at this; cases this
    · exact x.apart b (.tail _ hb)
  · rw [eo] at hb
    rcases List.mem_cons.mp hb with rfl | hb
    · exact .inl (.head _)
    rcases List.mem_append.mp hb with hb | hb
    · exact .inr (hn b hb)
    · exact .inl (.tail _ hb)

/-! ### displays -/
theorem E_tuple {elts : List Expr} {k : Nat} {pos : Pos} {Φ : Value → AV → St → Prop} (h : WL B n L (spliced (backTo pos (starEach elts env))) H σ fun _ ds σ₁ => ds.length ≤ 16777216 ∧ ∀ v, Φ v (.tup ds) σ₁) :
    WV B n L (eval (.Tuple elts k pos) env) H σ Φ := W_of fun A F s hA x => by
  refine wpAny_Tuple (wpAny_mono (h.run A F s hA x) (fun vs s₁ z => ⟨?_, ?_⟩) fun _ _ z => z)
  · obtain ⟨_, _, _, _, ds, hds, hz, _⟩ := z
    rw [hds.length, sizeLine_is]; exact hz
  · refine z.fin fun F₁ σ₁ x₁ ⟨ds, hds, _, q⟩ => ?_
    exact After.fresh x₁ (fun b o e => Heap.get?_push_of_some _ e) (get_size _) (Heap.get?_push_size _ rfl) rfl rfl fun le => ⟨.tup ds, .tup (Fz.put_self ..) (hds.mono le), q _⟩
theorem E_listF {elts : List Expr} {pos : Pos} {Φ : Value → AV → St → Prop} (h : WL B n L (spliced (backTo pos (starEach elts env))) H σ fun _ ds σ₁ => ds.length ≤ 16777216 ∧ ∀ v, Φ v (.lst ds) σ₁) :
    WV B n L (eval (.List elts pos) env) H σ Φ := W_of fun A F s hA x => by
  refine wpAny_List (wpAny_mono (h.run A F s hA x) (fun vs s₁ z => ⟨?_, ?_⟩) fun _ _ z => z)
  · obtain ⟨_, _, _, _, ds, hds, hz, _⟩ := z
    rw [hds.length, sizeLine_is]; exact hz
  · refine z.fin fun F₁ σ₁ x₁ ⟨ds, hds, _, q⟩ => ?_
    exact After.fresh x₁ (fun b o e => Heap.get?_push_of_some _ e) (get_size _) (Heap.get?_push_size _ rfl) rfl rfl fun le => ⟨.lst ds, .lst (Fz.put_self ..) (hds.mono le), q _⟩
theorem E_list {elts : List Expr} {pos : Pos} {Φ : Value → AV → St → Prop} (h : WL B n L (spliced (backTo pos (starEach elts env))) H σ fun _ ds σ₁ => ds.length ≤ 16777216 ∧ ∀ a, Φ (.ref a) (.ref a) ⟨σ₁.loc, (a, .list ds) :: σ₁.objs⟩) :
    WV B n L (eval (.List elts pos) env) H σ Φ := W_of fun A F s hA x => by
  refine wpAny_List (wpAny_mono (h.run A F s hA x) (fun vs s₁ z => ⟨?_, ?_⟩) fun _ _ z => z)
  · obtain ⟨_, _, _, _, ds, hds, hz, _⟩ := z
    rw [hds.length, sizeLine_is]; exact hz
  · refine z.fin fun F₁ σ₁ x₁ ⟨ds, hds, _, q⟩ => ?_
    exact After.track (a := s₁.heap.objs.size) (o := .list ds) x₁ (fun b o e => Heap.get?_push_of_some _ e) (fun b hb => by rw [List.mem_singleton.mp hb]; exact get_size _) (by simp [AO.more]) ⟨_, _, Heap.get?_push_size _ rfl, hds⟩ rfl rfl ⟨_, .ref _, q _⟩

/-! ### objects dropped, or put in another order -/
theorem owns_perm {a b : List (Addr × AO)} (h : a.Perm b) : (owns a).Perm (owns b) := by
  induction h with
  | nil => exact .refl _
  | cons p _ ih => exact (List.Perm.append_left (p.1 :: p.2.more) ih)
  | swap p q r =>
    show ((q.1 :: q.2.more) ++ ((p.1 :: p.2.more) ++ owns r)).Perm ((p.1 :: p.2.more) ++ ((q.1 :: q.2.more) ++ owns r))
    rw [← List.append_assoc, ← List.append_assoc]
    exact List.Perm.append_right _ List.perm_append_comm
  | trans _ _ ih1 ih2 => exact ih1.trans ih2
theorem Holds.drop {P : Params} {G : Heap} {F : Fz} {h : Heap} {loc : List (Str × Option AV)} {objs objs' rest : List (Addr × AO)} (x : Holds P G L F H ⟨loc, objs⟩ h) (e : objs.Perm (objs' ++ rest)) : Holds P G L F H ⟨loc, objs'⟩ h := by
  have pe := owns_perm e
  rw [owns_append] at pe
  have sub : ∀ b ∈ owns objs', b ∈ owns objs := fun b hb => pe.mem_iff.mpr (List.mem_append_left _ hb)
  have nd := List.nodup_cons.mp x.nodup
  refine ⟨x.core, x.sub, x.loc, x.names, fun p hp => x.objs p (e.mem_iff.mpr (List.mem_append_left _ hp)), List.nodup_cons.mpr ⟨fun hm => nd.1 (sub _ hm), ?_⟩, fun b hb => ?_, x.held, x.low⟩
  · exact (List.nodup_append.mp (pe.nodup_iff.mp nd.2)).1
  · rcases List.mem_cons.mp hb with rfl | hb
    · exact x.apart b (.head _)
    · exact x.apart b (.tail _ (sub b hb))
theorem W_drop {α : Type} {t : Sem α} {Ψ : α → Fz → St → Prop} {loc : List (Str × Option AV)} {objs objs' rest : List (Addr × AO)} (e : objs.Perm (objs' ++ rest)) (h : W B n L t H ⟨loc, objs'⟩ Ψ) : W B n L t H ⟨loc, objs⟩ Ψ := W_of fun A F s hA x => by
  have pe := owns_perm e
  rw [owns_append] at pe
  have sub : ∀ b ∈ L :: owns objs', b ∈ L :: owns objs := fun b hb => by
    rcases List.mem_cons.mp hb with rfl | hb
    · exact .head _
    · exact .tail _ (pe.mem_iff.mpr (List.mem_append_left _ hb))
  refine wpAny_mono (h.run A F s hA (x.drop e)) (fun a s' z => ?_) fun _ _ z => z
  obtain ⟨F', σ', x', p, q⟩ := z
  refine ⟨F', σ', x', ⟨fun b o hb => p.keep b o fun hm => hb (sub b hm), fun b hb => (p.own b hb).imp_left (sub b), fun b o e => ?_, p.mono, p.gens, p.os⟩, q⟩
  rcases p.frz b o e with z | z | z
  · exact .inl z
  · exact .inr (.inl (sub b z))
  · exact .inr (.inr z)
end
end
-- La10
section
/-! ### the pure side -/
noncomputable def norm (n : Nat) (i : Int) : Nat := (max 0 (min (if i < 0 then i + n else i) n)).toNat
noncomputable def sl (l : List Nat) (lo hi : Option Int) : List Nat := (l.take ((hi.map (norm l.length)).getD l.length)).drop ((lo.map (norm l.length)).getD 0)
theorem norm_cast' (n : Nat) (i : Int) : ((norm n i : Nat) : Int) = max 0 (min (if i < 0 then i + n else i) n) := Int.toNat_of_nonneg (Int.le_max_left _ _)
theorem clamp_id {n m : Int} (h0 : 0 ≤ m) (h1 : m ≤ n) : max 0 (min m n) = m := by rw [Int.min_eq_left h1, Int.max_eq_right h0]
theorem norm_le (n : Nat) (i : Int) : norm n i ≤ n := by unfold norm; split <;> omega
theorem sliceIdx_norm (lo hi : Option Int) (n : Nat) :
    Builtin.Str.strSliceIndices lo hi 1 n = Builtin.Str.strSliceIndices (some (((lo.map (norm n)).getD 0 : Nat) : Int)) (some (((hi.map (norm n)).getD n : Nat) : Int)) 1 n := by
  have key : ∀ i : Int, max 0 (min (if i < 0 then i + n else i) (n : Int)) = max 0 (min (if ((norm n i : Nat) : Int) < 0 then ((norm n i : Nat) : Int) + n else ((norm n i : Nat) : Int)) (n : Int)) := fun i => by
    rw [if_neg (Int.not_lt.mpr (Int.natCast_nonneg (norm n i))), clamp_id (Int.natCast_nonneg _) (Int.ofNat_le.mpr (norm_le n i)), norm_cast']
  have k0 : (0 : Int) = max 0 (min (if (((0 : Nat) : Int) < 0) then ((0 : Nat) : Int) + n else ((0 : Nat) : Int)) (n : Int)) := (clamp_id (Int.le_refl _) (Int.natCast_nonneg n)).symm
  have kn : (n : Int) = max 0 (min (if ((n : Int) < 0) then (n : Int) + n else (n : Int)) (n : Int)) := by rw [if_neg (Int.not_lt.mpr (Int.natCast_nonneg n)), clamp_id (Int.natCast_nonneg n) (Int.le_refl _)]
  cases lo <;> cases hi <;> simp only [Builtin.Str.strSliceIndices, Option.map, Option.getD, show ((1 : Int) > 0) = True from by simp, if_true]
  · rw [← k0, ← kn]
  · rw [← k0, ← key]
  · rw [← key, ← kn]
  · rw [← key, ← key]
theorem slice_S (l : List Nat) (lo hi : Option Int) : Txt.slice (S l) lo hi = S (sl l lo hi) := by
  have e : Txt.slice (S l) lo hi = StrLaws.sliceText (S l) (some (((lo.map (norm l.length)).getD 0 : Nat) : Int)) (some (((hi.map (norm l.length)).getD l.length : Nat) : Int)) := by
    unfold Txt.slice StrLaws.sliceText
    rw [S_length, sliceIdx_norm]
  rw [e]
  unfold sl
  have hb : (hi.map (norm l.length)).getD l.length ≤ l.length := by cases hi; exact Nat.le_refl _; exact norm_le _ _
  generalize (lo.map (norm l.length)).getD 0 = a at *
  generalize (hi.map (norm l.length)).getD l.length = b at *
  by_cases hab : a ≤ b
  · rw [StrLaws.sliceText_nat _ hab (by rw [S_length]; exact hb), List.drop_take]
  · have h1 : (l.take b).drop a = [] := List.drop_eq_nil_of_le (by rw [List.length_take]; omega)
    rw [h1]
    have h2 : Builtin.Str.strSliceIndices (some (a : Int)) (some (b : Int)) 1 (S l).length = [] := by
      have h1 : ¬ ((a : Int) < 0) := by omega
      have h2 : ¬ ((b : Int) < 0) := by omega
      simp only [Builtin.Str.strSliceIndices, sliceRange, h1, h2, if_false, show ((1 : Int) > 0) = True from by simp, if_true, S_length]
      rw [if_neg (by omega)]
      rfl
    unfold StrLaws.sliceText
    rw [h2]
    split
    · rename_i q
      have : l = [] := by
        have : (0 : Nat) = (S l).length := by simpa using q
        rw [S_length] at this
        exact List.length_eq_zero_iff.mp this.symm
      rw [this]
    · rfl
noncomputable def at? (l : List Nat) (i : Int) : Option Nat := (seqIndex? i l.length).bind (l[·]?)
theorem at_nat {l : List Nat} {k : Nat} (h : k < l.length) : at? l k = some l[k] := by
  unfold at? seqIndex?
  rw [if_neg (show ¬ ((k : Nat) : Int) < 0 by omega)]
  simp [h]

section
variable {B : Base} {n : Nat} {L : Addr} {H : List (Value × AV)} {σ : St} {env : Env}

/-! ### calls of builtins -/
theorem W_callB {id : String} {first : List Value} {args : List Expr} {pos} {Φ : Value → AV → St → Prop}
    (h : WL B n L (spliced (backTo pos (starEach args env))) H σ fun vs ds σ₁ => WV B n L (call (.builtin id) (first ++ vs)) (vs.zip ds ++ H) σ₁ Φ)
    (hp : (backTo pos (starEach args env)).any (·.1) = false := by rfl) : WV B n L (callWith pos (.builtin id) first (backTo pos (starEach args env)) []) H σ Φ := W_of fun A F s hA x => by
  refine Calls.callWith_builtin hp (evalArgs_all hp (wpAny_mono (h.run A F s hA x) (fun vs s₁ z => ?_) fun _ _ z => z))
  refine z.then fun F₁ σ₁ x₁ ⟨ds, hds, w⟩ => ?_
  have x₂ : Holds B.P B.G L F₁ (vs.zip ds ++ H) σ₁ s₁.heap := ⟨x₁.core, x₁.sub, x₁.loc, x₁.names, x₁.objs, x₁.nodup, x₁.apart, fun p hp => by
    rcases List.mem_append.mp hp with hp | hp
    · exact W_callK.zip_is hds p hp
    · exact x₁.held p hp, x₁.low⟩
  exact wpAny_mono (w.run A F₁ s₁ hA x₂) (fun _ _ y => y.weaken fun _ hp => List.mem_append_right _ hp) fun _ _ z => z

/-! methods of texts and lists -/
theorem M_str {name : Str} {id : String} {v₀ : Value} {x : List Nat} {pl : Sem Bool} {Ψ : Value × List Value → Fz → St → Prop} (mv : (v₀, .str x) ∈ H) (slot : Slot "str" name id) (ty : typeOf (.builtin id) = pure (.type "method_descriptor"))
    (h : ∀ F, Ψ (.builtin id, [v₀]) F σ) : W B n L (getMethod v₀ name pl) H σ Ψ := W_of fun A F s hA X => by
  obtain ⟨t, rfl⟩ := inv_str (X.hold mv)
  exact getMethod_builtin (typeIs_str _ _ _) PySem.F.plainAttrs_str slot ty (fun _ e => nomatch e) (.here X (h _))
theorem M_list {name : Str} {id : String} {v₀ : Value} {a : Addr} {l : List AV} {pl : Sem Bool} {Ψ : Value × List Value → Fz → St → Prop} (mv : (v₀, .ref a) ∈ H) (m : (a, AO.list l) ∈ σ.objs) (slot : Slot "list" name id) (ty : typeOf (.builtin id) = pure (.type "method_descriptor"))
    (h : ∀ F, Ψ (.builtin id, [v₀]) F σ) : W B n L (getMethod v₀ name pl) H σ Ψ := W_of fun A F s hA X => by
  obtain rfl := inv_ref (X.hold mv)
  obtain ⟨vs, k, h1, _⟩ := X.objs _ m
  exact getMethod_builtin (T := "list") ⟨_, h1, rfl⟩ PySem.F.plainAttrs_list slot ty (fun b e => by cases e; exact ⟨_, h1, rfl⟩) (.here X (h _))

theorem B_append {a : Addr} {l : List AV} {v₀ v : Value} {d : AV} {objs' : List (Addr × AO)} {Φ : Value → AV → St → Prop} (mv : (v₀, .ref a) ∈ H) (md : (v, d) ∈ H) (m : Chg a (.list l) (.list (l ++ [d])) σ.objs objs') (hz : l.length ≤ 16777216)
    (h : Φ .none .none ⟨σ.loc, objs'⟩) : WV B n L (call (.builtin "list.append") [v₀, v]) H σ Φ := W_of fun A F s hA X => by
  obtain ⟨loc, objs⟩ := σ
  obtain ⟨pre, post, rfl, rfl⟩ := m.split
  obtain rfl := inv_ref (X.hold mv)
  have hd := X.hold md
  obtain ⟨vs, k, h1, h2⟩ := X.objs (a, .list l) (by simp)
  refine append_at h1 (fun h' hs ho => ?_) (by rw [sizeLine_is]; simpa [h2.length] using hz)
  refine After.change (o' := .list (l ++ [d])) X (c := a) (.inl rfl) rfl (fun b y _ q e => (hs.2 b q).trans e) ?_ ⟨vs ++ [v], k + 1, by rw [ho]; simp [lstObj], snoc h2 hd⟩ rfl rfl ⟨_, .none, h⟩
  obtain ⟨m₀, FR, hl⟩ := X.frame
  exact ⟨m₀, FR.ns.sameBut hs (fun e => (List.nodup_cons.mp X.nodup).1 (by rw [e]; exact owns_mem.mpr ⟨_, List.mem_append_right _ (.head _), .inl rfl⟩)), hl⟩
where
  snoc {P : Params} {F : Fz} {v : Value} {d : AV} : ∀ {vs : List Value} {l : List AV}, IsAll P F vs l → Is P F v d → IsAll P F (vs ++ [v]) (l ++ [d])
    | _, _, .nil, q => .cons q .nil
    | _, _, .cons h r, q => .cons h (snoc r q)
end
end
-- La11
section
/-- the number of c ahead of the place hi, and the last such place -/
noncomputable def cntTo (c : Nat) (l : List Nat) (hi : Int) : Nat := (Builtin.Str.occurrences (S l) (S [c]) 0 (min (norm l.length hi) l.length) (l.length + 1)).length
noncomputable def lastTo (c : Nat) (l : List Nat) (hi : Int) : Int := match Builtin.Str.lastOccurrence (S l) (S [c]) 0 (min (norm l.length hi) l.length) with | some i => (i : Int) | none => -1

section
variable {B : Base} {n : Nat} {L : Addr} {H : List (Value × AV)} {σ : St} {env : Env}
theorem B_pop {a : Addr} {l l' : List AV} {d : AV} {k : Nat} {i : Int} {v₀ v : Value} {objs' : List (Addr × AO)} {Φ : Value → AV → St → Prop} (mv : (v₀, .ref a) ∈ H) (md : (v, .int i) ∈ H) (hi : Builtin.List.listFitsIndex i = true) (hk : seqIndex? i l.length = some k) (hd : l[k]? = some d)
    (hl : l.eraseIdx k = l') (m : Chg a (.list l) (.list l') σ.objs objs') (hz : l.length ≤ 16777216)
    (h : ∀ v, Φ v d ⟨σ.loc, objs'⟩) : WV B n L (call (.builtin "list.pop") [v₀, v]) H σ Φ := W_of fun A F s hA X => by
  obtain ⟨loc, objs⟩ := σ
  obtain ⟨pre, post, rfl, rfl⟩ := m.split
  obtain rfl := inv_ref (X.hold mv)
  obtain ⟨t, rfl⟩ := inv_int (X.hold md)
  obtain ⟨vs, q, h1, h2⟩ := X.objs (a, .list l) (by simp)
  have hlen := h2.length
  obtain ⟨y, hy, hyd⟩ := nth h2 hd
  have hkl : k < l.length := (List.getElem?_eq_some_iff.mp hd).1
  refine call_meets PySem.F.slot_list_pop ⟨_, h1, rfl⟩ PySem.F.entry_list_pop (PySem.F.args_list_pop_2 _ _) (MeetsSeq.list_pop_at a vs.toArray q i t k y hi (by simpa [hlen] using hk) (by simpa using hy) (by rw [sizeLine_is]; simpa [hlen] using hz)) ⟨h1, ?_⟩
  have er : vs.toArray.eraseIdxIfInBounds k = (vs.eraseIdx k).toArray := by
    unfold Array.eraseIdxIfInBounds
    rw [dif_pos (by simpa [hlen] using hkl)]
    simp
  refine After.change (o' := .list l') X (c := a) (.inl rfl) rfl (fun b y _ q e => ((Heap.SameBut.update (h := s.heap) (a := a) (f := Obj.mapSeq fun xs => xs.eraseIdxIfInBounds k)).2 b q).trans e) ?_ ⟨vs.eraseIdx k, q + 1, ?_, hl ▸ era h2 k⟩ rfl rfl ⟨d, hyd, h _⟩
  · obtain ⟨m₀, FR, hl⟩ := X.frame
    exact ⟨m₀, FR.ns.sameBut (Heap.SameBut.update ..) (fun e => (List.nodup_cons.mp X.nodup).1 (by rw [e]; exact owns_mem.mpr ⟨_, List.mem_append_right _ (.head _), .inl rfl⟩)), hl⟩
  · have e : Obj.mapSeq (fun xs => xs.eraseIdxIfInBounds k) (lstObj vs q) = lstObj (vs.eraseIdx k) (q + 1) := by
      show (⟨_, _, .seq (vs.toArray.eraseIdxIfInBounds k) (if (vs.toArray.eraseIdxIfInBounds k).size == vs.toArray.size then q else q + 1), _⟩ : Obj) = _
      rw [er]
      have : ((vs.eraseIdx k).toArray.size == vs.toArray.size) = false := by
        simp only [List.size_toArray, List.length_eraseIdx]
        rw [if_pos (by omega)]
        exact beq_eq_false_iff_ne.mpr (by omega)
      rw [this]; rfl
    rw [Heap.get?_update_self _ h1 (by rw [e]; rfl), e]
where
  nth {P : Params} {F : Fz} : ∀ {vs : List Value} {l : List AV} {k : Nat} {d : AV}, IsAll P F vs l → l[k]? = some d → ∃ y, vs[k]? = some y ∧ Is P F y d
    | _, _, 0, _, .cons h r, e => by cases e; exact ⟨_, rfl, h⟩
    | _, _, k + 1, _, .cons h r, e => nth (k := k) r e
  era {P : Params} {F : Fz} : ∀ {vs : List Value} {l : List AV}, IsAll P F vs l → ∀ k, IsAll P F (vs.eraseIdx k) (l.eraseIdx k)
    | _, _, .nil, _ => .nil
    | _, _, .cons h r, 0 => r
    | _, _, .cons h r, k + 1 => .cons h (era r k)
theorem B_join {a : Addr} {l : List AV} {ms : List (List Nat)} {x : List Nat} {v₀ v : Value} {Φ : Value → AV → St → Prop} (mv : (v₀, .str x) ∈ H) (md : (v, .ref a) ∈ H) (m : (a, AO.list l) ∈ σ.objs) (e : textsOf l = some ms)
    (hz : (ms.map (·.length)).sum + ms.length * x.length ≤ 16777216) (h : ∀ v, Φ v (.str (List.intercalate x ms)) σ) : WV B n L (call (.builtin "str.join") [v₀, v]) H σ Φ := W_of fun A F s hA X => by
  obtain ⟨t, rfl⟩ := inv_str (X.hold mv)
  obtain rfl := inv_ref (X.hold md)
  obtain ⟨vs, k, h1, h2⟩ := X.objs _ m
  exact join_list (s := s) (D := a) (items := vs.toArray) ⟨_, h1, rfl, _, rfl⟩ (by simpa using strsAre_of h2 e) (by rw [lens, S_length, List.length_map]; exact hz) fun t' k => .toks X ⟨_, by rw [joined]; exact .str _ _, h _⟩
where
  lens {ms : List (List Nat)} : (ms.map S).map (·.length) = ms.map (·.length) := by rw [List.map_map]; exact List.map_congr_left fun a _ => S_length a
  inter {x a b : List Nat} {r : List (List Nat)} : List.intercalate x ((a ++ x ++ b) :: r) = List.intercalate x (a :: b :: r) := by
    cases r <;> simp [List.intercalate, List.intersperse]
  joined {x : List Nat} {ms : List (List Nat)} : Txt.join (S x) (ms.map S) = S (List.intercalate x ms) := by
    show Builtin.Str.glued _ _ = _
    rw [StrLaws.glued_eq_join]
    cases ms with
    | nil => rfl
    | cons a r =>
      rw [List.map_cons, ← StrLaws.glued_cons]
      induction r generalizing a with
      | nil => simp [List.intercalate]
      | cons b r ih =>
        rw [List.map_cons, List.foldl_cons]
        have := ih (a ++ x ++ b)
        simp only [S, List.append_toArray] at this ⊢
        rw [this, inter]
theorem B_lenS {x : List Nat} {v : Value} {Φ : Value → AV → St → Prop} (mv : (v, .str x) ∈ H) (hz : x.length ≤ 16777216) (h : ∀ v, Φ v (.int x.length) σ) : WV B n L (call (.builtin "len") [v]) H σ Φ := W_of fun A F s hA X => by
  obtain ⟨t, rfl⟩ := inv_str (X.hold mv)
  exact PyProof.Rows.len_str (by rw [S_length]; omega) (.toks X ⟨_, by rw [S_length]; exact .int _ _, h _⟩)
theorem B_lenL {a : Addr} {l : List AV} {v : Value} {Φ : Value → AV → St → Prop} (mv : (v, .ref a) ∈ H) (m : (a, AO.list l) ∈ σ.objs) (hz : l.length ≤ 16777216) (h : ∀ v, Φ v (.int l.length) σ) : WV B n L (call (.builtin "len") [v]) H σ Φ := W_of fun A F s hA X => by
  obtain rfl := inv_ref (X.hold mv)
  obtain ⟨vs, k, h1, h2⟩ := X.objs _ m
  have hlen := h2.length
  exact Calls.call_len_list (l := a) (items := vs.toArray) ⟨_, h1, rfl, _, rfl⟩ (by simp [hlen]; omega) (.toks X ⟨.int l.length, by simp only [List.size_toArray, hlen]; exact .int _ _, h _⟩)
theorem B_ord {c : Nat} {v : Value} {Φ : Value → AV → St → Prop} (mv : (v, .str [c]) ∈ H) (h : ∀ v, Φ v (.int c) σ) : WV B n L (call (.builtin "ord") [v]) H σ Φ := W_of fun A F s hA X => by
  obtain ⟨t, rfl⟩ := inv_str (X.hold mv)
  exact PySem.P.ord_of_char (c := c) (.toks X ⟨_, .int _ _, h _⟩)
theorem T_list {a : Addr} {l : List AV} {v : Value} {Ψ : Bool → St → Prop} (mv : (v, .ref a) ∈ H) (m : (a, AO.list l) ∈ σ.objs) (hz : l.length ≤ 16777216) (h : Ψ (!l.isEmpty) σ) : WB B n L (truthy v) H σ Ψ := W_of fun A F s hA X => by
  obtain rfl := inv_ref (X.hold mv)
  obtain ⟨vs, k, h1, h2⟩ := X.objs _ m
  have hlen := h2.length
  have e : vs.toArray.isEmpty = l.isEmpty := by
    cases vs with
    | nil => cases l with
      | nil => rfl
      | cons _ _ => cases hlen
    | cons _ _ => cases l with
      | nil => cases hlen
      | cons _ _ => simp [Array.isEmpty]
  exact wpAny_truthy_list (l := a) (items := vs.toArray) ⟨_, h1, rfl, _, rfl⟩ (by simp [hlen]; omega) (.toks X (e ▸ h))
theorem min_toNat (y : Int) (n : Nat) : min (max 0 y).toNat n = (max 0 (min y n)).toNat := by
  rcases Int.le_total y 0 with h | h
  · rw [Int.max_eq_left h, Int.max_eq_left (Int.le_trans (Int.min_le_left _ _) h)]; exact Nat.zero_min n
  · obtain ⟨m, rfl⟩ := Int.eq_ofNat_of_zero_le h
    rw [Int.max_eq_right h]
    rcases Nat.le_total m n with q | q
    · rw [Int.min_eq_left (Int.ofNat_le.mpr q), Int.max_eq_right h]; exact Nat.min_eq_left q
    · rw [Int.min_eq_right (Int.ofNat_le.mpr q), Int.max_eq_right (Int.natCast_nonneg n)]; exact Nat.min_eq_right q
theorem from_norm (n : Nat) (hi : Int) : min (fromIndex n hi) n = min (norm n hi) n := (min_toNat _ n).trans (Nat.min_eq_left (norm_le n hi)).symm
theorem B_count4 {c : Nat} {x : List Nat} {hi : Int} {v₀ v1 v2 v3 : Value} {Φ : Value → AV → St → Prop} (m0 : (v₀, .str x) ∈ H) (m1 : (v1, .str [c]) ∈ H) (m2 : (v2, .int 0) ∈ H) (m3 : (v3, .int hi) ∈ H) (h : ∀ v, Φ v (.int (cntTo c x hi)) σ) :
    WV B n L (call (.builtin "str.count") [v₀, v1, v2, v3]) H σ Φ := W_of fun A F s hA X => by
  obtain ⟨t0, rfl⟩ := inv_str (X.hold m0); obtain ⟨t1, rfl⟩ := inv_str (X.hold m1); obtain ⟨t2, rfl⟩ := inv_int (X.hold m2); obtain ⟨t3, rfl⟩ := inv_int (X.hold m3)
  refine call_gives (m := .int (cntTo c x hi)) PySem.F.slot_str_count (typeIs_str _ _ _) PySem.F.entry_str_count (PySem.F.args_str_count_4 _ _ _ _) ?_ (.toks X ⟨_, .int _ _, h _⟩)
  have e : fromIndex (S x).length 0 = 0 := by simp [fromIndex]
  have e2 : min (fromIndex (S x).length hi) (S x).length = min (norm x.length hi) x.length := by rw [S_length]; exact from_norm _ _
  show Gives (retInt (Builtin.Str.occurrences (S x) (S [c]) (fromIndex (S x).length 0) (min (fromIndex (S x).length hi) (S x).length) ((S x).length + 1)).length) _
  rw [e, e2, S_length]
  exact .of_eq rfl
theorem B_rfind4 {c : Nat} {x : List Nat} {hi : Int} {v₀ v1 v2 v3 : Value} {Φ : Value → AV → St → Prop} (m0 : (v₀, .str x) ∈ H) (m1 : (v1, .str [c]) ∈ H) (m2 : (v2, .int 0) ∈ H) (m3 : (v3, .int hi) ∈ H) (h : ∀ v, Φ v (.int (lastTo c x hi)) σ) :
    WV B n L (call (.builtin "str.rfind") [v₀, v1, v2, v3]) H σ Φ := W_of fun A F s hA X => by
  obtain ⟨t0, rfl⟩ := inv_str (X.hold m0); obtain ⟨t1, rfl⟩ := inv_str (X.hold m1); obtain ⟨t2, rfl⟩ := inv_int (X.hold m2); obtain ⟨t3, rfl⟩ := inv_int (X.hold m3)
  refine call_gives (m := .int (lastTo c x hi)) PySem.F.slot_str_rfind (typeIs_str _ _ _) PySem.F.entry_str_rfind (PySem.F.args_str_rfind_4 _ _ _ _) ?_ (.toks X ⟨_, .int _ _, h _⟩)
  have e : fromIndex (S x).length 0 = 0 := by simp [fromIndex]
  have e2 : min (fromIndex (S x).length hi) (S x).length = min (norm x.length hi) x.length := by rw [S_length]; exact from_norm _ _
  show Gives (match Builtin.Str.lastOccurrence (S x) (S [c]) (fromIndex (S x).length 0) (min (fromIndex (S x).length hi) (S x).length) with | some i => retInt i | none => (do rule "str.rfind.not-found"; retInt (-1))) _
  rw [e, e2]
  unfold lastTo
  cases Builtin.Str.lastOccurrence (S x) (S [c]) 0 (min (norm x.length hi) x.length) with
  | none => exact .rule (.of_eq rfl)
  | some i => exact .of_eq rfl
end
end
-- La12
section
theorem seqIndex_range {k : Int} {n j : Nat} (h : seqIndex? k n = some j) : -(n : Int) ≤ k ∧ k < n := by
  unfold seqIndex? at h
  by_cases hk : k < 0
  · simp only [hk, if_true] at h
    split at h
    · rename_i q
      simp only [Bool.and_eq_true, decide_eq_true_eq] at q
      omega
    · cases h
  · simp only [hk, if_false] at h
    split at h
    · rename_i q
      simp only [Bool.and_eq_true, decide_eq_true_eq] at q
      omega
    · cases h

section
variable {B : Base} {n : Nat} {L : Addr} {H : List (Value × AV)} {σ : St} {env : Env}

/-! ### subscripts -/
theorem W_subTail {value slice : Expr} {o i : Value} {T id : String} {Φ : Value → AV → St → Prop} (hT : ∀ F (s : Shared), Holds B.P B.G L F H σ s.heap → s.TypeIs o T) (hl : typeLookup (.type T) "__getitem__" = pure (some (.builtin id)))
    (h : WV B n L (getItem o i) H σ Φ) (hs : ∃ ops, subscripted slice false o i = operate ops (getItem o i) := by exact ⟨_, rfl⟩) : WV B n L (subscriptTail value slice o i) H σ Φ := W_of fun A F s hA X => by
  obtain ⟨ops, hs⟩ := hs
  unfold subscriptTail
  refine wpAny_bind ?_
  rw [getitemInPython_of_ne (hT F s X).not_modules]
  refine wpAny_bind (wpAny_specialOf (hT F s X) hl ?_)
  have fin : wpAny B.M A (subscripted slice false o i) (fun r s₃ => wpAny B.M A (letTemporaryGo value o r >>= fun _ => pure r) (fun a s' => After B L H σ F s s' ((fun v F' σ' => ∃ d, Is B.P F' v d ∧ Φ v d σ') a)) (fun _ _ => False) s₃) (fun _ _ => False) s := by
    rw [hs]
    exact wpAny_operateT (wpAny_mono (h.run A F s hA X) (fun r s₃ h₃ => wpAny_bind (wpAny_letTemporaryGo (wpAny_pure h₃))) fun _ _ x => x)
  first
    | exact wpAny_pure (wpAny_bind fin)
    | exact wpAny_bind (wpAny_pure (wpAny_bind fin))
    | exact wpAny_bind fin
theorem E_sub {value slice : Expr} {pos} {Φ : Value → AV → St → Prop} (h : WV B n L (eval value env) H σ fun o d σ₁ => WV B n L (eval slice env) ((o, d) :: H) σ₁ fun i e σ₂ => WV B n L (subscriptTail value slice o i) ((i, e) :: (o, d) :: H) σ₂ Φ) :
    WV B n L (eval (.Subscript value slice pos) env) H σ Φ := by
  rw [eval_Subscript]
  exact W_bindV (W_monoV h fun o d σ₁ w => W_bindV (W_holding (W_monoV w fun i e σ₂ w₂ => W_standB w₂)))
theorem U_str {value slice : Expr} {o i : Value} {x : List Nat} {k : Int} {c : Nat} {Φ : Value → AV → St → Prop} (mo : (o, .str x) ∈ H) (mi : (i, .int k) ∈ H) (hc : at? x k = some c) (hz : x.length ≤ 16777216) (h : ∀ v, Φ v (.str [c]) σ)
    (hs : ∃ ops, subscripted slice false o i = operate ops (getItem o i) := by exact ⟨_, rfl⟩) : WV B n L (subscriptTail value slice o i) H σ Φ := by
  refine W_subTail (T := "str") (fun F s X => ?_) PySem.F.slot_str_getitem.lookup (W_of fun A F s hA X => ?_) hs
  · obtain ⟨t, rfl⟩ := inv_str (X.hold mo); exact typeIs_str _ _ _
  · obtain ⟨t, rfl⟩ := inv_str (X.hold mo)
    obtain ⟨u, rfl⟩ := inv_int (X.hold mi)
    refine PyProof.Rows.getItem_str (c := c) ?_ ?_ (.toks X ⟨_, .str [c] _, h _⟩)
    · have : ∃ j, seqIndex? k x.length = some j := by
        unfold at? at hc
        cases q : seqIndex? k x.length with
        | none => rw [q] at hc; cases hc
        | some j => exact ⟨j, rfl⟩
      obtain ⟨j, hj⟩ := this
      have := seqIndex_range hj
      simp only [Bool.or_eq_false_iff, decide_eq_false_iff_not]
      omega
    · rw [S_length]
      unfold at? at hc
      simpa [S] using hc
theorem U_lst {value slice : Expr} {o i : Value} {l : List AV} {k : Int} {j : Nat} {d : AV} {Φ : Value → AV → St → Prop} (mo : (o, .lst l) ∈ H) (mi : (i, .int k) ∈ H) (hk : 0 ≤ k) (hj : k.toNat = j) (hd : l[j]? = some d) (hz : l.length ≤ 16777216) (h : ∀ v, Φ v d σ)
    (hs : ∃ ops, subscripted slice false o i = operate ops (getItem o i) := by exact ⟨_, rfl⟩) : WV B n L (subscriptTail value slice o i) H σ Φ := by
  refine W_subTail (T := "list") (fun F s X => ?_) slot_list_getitem.lookup (W_of fun A F s hA X => ?_) hs
  · obtain ⟨a, vs, m, rfl, h1, h2⟩ := inv_lst (X.hold mo); exact (isList_of X.sub h1).typeIs
  · obtain ⟨a, vs, m, rfl, h1, h2⟩ := inv_lst (X.hold mo)
    obtain ⟨u, rfl⟩ := inv_int (X.hold mi)
    obtain ⟨y, hy, hyd⟩ := B_pop.nth h2 hd
    have hlen := h2.length
    have hjl : j < l.length := (List.getElem?_eq_some_iff.mp hd).1
    exact wpAny_getItem_list (l := a) (items := vs.toArray) (isList_of X.sub h1) (by omega) (by omega) (by simpa [hj] using hy) (.here X ⟨d, hyd, h _⟩)

/-! ### slices of texts -/
noncomputable def bound : AV → Option (Option Int)
  | .none => some none
  | .int i => some (some i)
  | _ => none
theorem inv_bound {P : Params} {F : Fz} {v : Value} {d : AV} {i : Option Int} (h : Is P F v d) (e : bound d = some i) : ∃ p : Option (Int × Tok), v = partValue p ∧ p.map (·.1) = i := by
  cases h <;> try (cases e; done)
  · cases e; exact ⟨none, rfl, rfl⟩
  · cases e; exact ⟨some (_, _), rfl, rfl⟩
theorem sl_le (l : List Nat) (i j : Option Int) : (sl l i j).length ≤ l.length := by
  unfold sl
  rw [List.length_drop, List.length_take]
  omega
theorem made_slice {x : Str} {t : Tok} {pl pu : Option (Int × Tok)} {s : Shared} {Q : Value → Shared → Prop} (hl : (Txt.slice x (pl.map (·.1)) (pu.map (·.1))).length ≤ sizeLine)
    (h : ∀ t' k, Q (.str (Txt.slice x (pl.map (·.1)) (pu.map (·.1))) t') { s with toks := k }) : (sliceMade x t pl pu none).post Q s := by
  unfold sliceMade
  unfold Txt.slice at hl h
  exact post_val_or_str ⟨hl, h⟩
theorem E_part0 {Φ : Value → AV → St → Prop} (h : Φ .none .none σ) : WV B n L (evalPart none env) H σ Φ := W_of fun _ _ _ _ x => wpAny_pure (.here x ⟨_, .none, h⟩)
theorem E_slice {value : Expr} {lo hi : Option Expr} {p pos} {Φ : Value → AV → St → Prop}
    (h : WV B n L (eval value env) H σ fun o d σ₁ => WV B n L (evalPart lo env) ((o, d) :: H) σ₁ fun l dl σ₂ => WV B n L (evalPart hi env) ((l, dl) :: (o, d) :: H) σ₂ fun _ du σ₃ =>
      ∃ x i j, d = .str x ∧ bound dl = some i ∧ bound du = some j ∧ x.length ≤ 16777216 ∧ ∀ v, Φ v (.str (sl x i j)) σ₃) :
    WV B n L (eval (.Subscript value (.Slice lo hi none p) pos) env) H σ Φ := W_of fun A F s hA X => by
  rw [eval_Subscript]
  refine wpAny_bind (wpAny_mono (h.run A F s hA X) (fun o s₁ z => ?_) fun _ _ z => z)
  obtain ⟨F₁, σ₁, x₁, p₁, d, hd, w₁⟩ := z
  refine wpAny_bind (wpAny_holding (wpAny_Slice (wpAny_mono (w₁.run A F₁ s₁ hA (x₁.push hd)) (fun l s₂ z => ?_) fun _ _ z => z)))
  obtain ⟨F₂, σ₂, x₂, p₂, dl, hdl, w₂⟩ := z
  refine wpAny_mono (w₂.run A F₂ s₂ hA (x₂.push hdl)) (fun u s₃ z => ?_) fun _ _ z => z
  obtain ⟨F₃, σ₃, x₃, p₃, du, hdu, x, i, j, rfl, bi, bj, hz, q⟩ := z
  refine wpAny_pure (wpAny_bind (wpAny_standAt ?_))
  obtain ⟨t, rfl⟩ := inv_str (x₃.hold (.tail _ (.head _)))
  obtain ⟨pl, rfl, e1⟩ := inv_bound (x₃.hold (.head _)) bi
  obtain ⟨pu, rfl, e2⟩ := inv_bound hdu bj
  have x₃' := x₃.weaken (H' := H) fun p hp => .tail _ (.tail _ hp)
  have fin : wpAny B.M A (operate [.ref s₃.heap.objs.size, .str (S x) t] (getItem (.str (S x) t) (.ref s₃.heap.objs.size))) (fun r s₄ => wpAny B.M A (letTemporaryGo value (.str (S x) t) r >>= fun _ => pure r) (fun a s' => After B L H σ F s s' ((fun v F' σ' => ∃ d, Is B.P F' v d ∧ Φ v d σ') a)) (fun _ _ => False) s₄) (fun _ _ => False)
      { s₃ with heap := s₃.heap.push { cls := .type "slice", data := .fields #[partValue pl, partValue pu, .none] } } := by
    refine wpAny_operateT (wpAny_getItem_str_slice (l := pl) (u := pu) (st := none) ⟨_, Heap.get?_push_size _ rfl, rfl, rfl⟩ rfl ?_)
    have e : Txt.slice (S x) (pl.map (·.1)) (pu.map (·.1)) = S (sl x i j) := by rw [slice_S, e1, e2]
    refine made_slice (Q := fun r s₄ => wpAny B.M A (letTemporaryGo value (.str (S x) t) r >>= fun _ => pure r) (fun a s' => After B L H σ F s s' ((fun v F' σ' => ∃ d, Is B.P F' v d ∧ Φ v d σ') a)) (fun _ _ => False) s₄) ?_ fun t' k => ?_
    · rw [e, S_length, sizeLine_is]
      exact Nat.le_trans (sl_le x i j) hz
    · refine wpAny_bind (wpAny_letTemporaryGo (wpAny_pure ?_))
      rw [e]
      exact ⟨F₃, σ₃, x₃'.grow fun b o e => Heap.get?_push_of_some _ e, p₁.trans (p₂.trans (p₃.trans ⟨fun b o _ e => Heap.get?_push_of_some _ e, fun _ h => .inl h, fun _ _ e => .inl e, .refl _, .refl _, rfl⟩)), .str (sl x i j), .str _ _, q _⟩
  refine wpAny_bind ?_
  rw [getitemInPython_of_ne (typeIs_str s₃ (S x) t).not_modules]
  refine wpAny_bind (wpAny_specialOf (typeIs_str _ (S x) t) PySem.F.slot_str_getitem.lookup ?_)
  first
    | exact wpAny_pure (wpAny_bind fin)
    | exact wpAny_bind (wpAny_pure (wpAny_bind fin))
    | exact wpAny_bind fin
end
end
-- La13
section
/-! ### dict displays -/
noncomputable def dictPairs (env : Env) (pos : Pos) : List (Option Expr) → List Expr → List (Sem Value × Sem Value)
  | some k :: ks, v :: vs => (eval k env, do let x ← eval v env; standAt pos; pure x) :: dictPairs env pos ks vs
  | _, _ => []
inductive KV (P : Params) (F : Fz) : List (Value × Value) → List (Str × AV) → Prop
  | nil : KV P F [] []
  | cons {x t v d vs l} : Is P F v d → KV P F vs l → KV P F ((.str x t, v) :: vs) ((x, d) :: l)
theorem KV.mono {P : Params} {F F' : Fz} (k : F.le F') : ∀ {vs : List (Value × Value)} {l : List (Str × AV)}, KV P F vs l → KV P F' vs l
  | _, _, .nil => .nil
  | _, _, .cons h r => .cons (h.mono k) (KV.mono k r)
noncomputable def KV.vals : List (Value × Value) → List (Str × AV) → List (Str × Value)
  | (_, v) :: vs, (x, _) :: l => (x, v) :: KV.vals vs l
  | _, _ => []
theorem KV.carries {prog : Program} {w : World} {P : Params} {F : Fz} : ∀ {vs : List (Value × Value)} {l : List (Str × AV)}, KV P F vs l → Carries (strKind prog w) vs (KV.vals vs l)
  | _, _, .nil => trivial
  | _, _, .cons (x := x) _ r => ⟨beq_self_eq_true x, rfl, KV.carries r⟩
theorem KV.keys {P : Params} {F : Fz} : ∀ {vs : List (Value × Value)} {l : List (Str × AV)}, KV P F vs l → (KV.vals vs l).map (·.1) = l.map (·.1)
  | _, _, .nil => rfl
  | _, _, .cons _ r => by rw [vals, List.map_cons, List.map_cons, KV.keys r]
theorem KV.ents {prog : Program} {w : World} {F : Fz} : ∀ {vs : List (Value × Value)} {l : List (Str × AV)} {es : List DictEntry}, KV w.params F vs l → Pairs (strKind prog w) es (KV.vals vs l) →
    (∀ e ∈ es, ∃ k, (strKind prog w).is k e.key = true ∧ e.hash = (strKind prog w).hash k) → IsEnts w.params F es l
  | _, _, [], .nil, _, _ => .nil
  | _, _, _, .cons (x := x) (v := v) h r, .cons (e := e) h1 h2 rest, hk => by
    obtain ⟨t, ht⟩ := Value.isStrOf_shape h1
    obtain ⟨k, k1, k2⟩ := hk e (.head _)
    have ek : k = x := (strKind prog w).inj _ _ _ k1 h1
    subst ek
    obtain ⟨hh, key, val⟩ := e
    dsimp only at ht k2 h2
    subst ht k2 h2
    exact .cons h (KV.ents r rest fun e he => hk e (.tail _ he))

section
variable {B : Base} {n : Nat} {L : Addr} {H : List (Value × AV)} {σ : St} {env : Env}
noncomputable abbrev WD (B : Base) (n : Nat) (L : Addr) (t : Sem (List (Value × Value))) (H : List (Value × AV)) (σ : St) (Φ : List (Str × AV) → St → Prop) : Prop :=
  W B n L t H σ (fun vs F' σ' => ∃ l, KV B.P F' vs l ∧ Φ l σ')
theorem D_nil {pos} {Φ : List (Str × AV) → St → Prop} (h : Φ [] σ) : WD B n L (evalPairs (dictPairs env pos [] [])) H σ Φ := W_of fun _ _ _ _ x => evalPairs_nil (.here x ⟨[], .nil, h⟩)
theorem D_cons {x : Str} {kk kp pos} {ks : List (Option Expr)} {v : Expr} {vs : List Expr} {Φ : List (Str × AV) → St → Prop}
    (h : WV B n L (eval v env) H σ fun a d σ₁ => WD B n L (evalPairs (dictPairs env pos ks vs)) ((a, d) :: H) σ₁ fun l σ₂ => Φ ((x, d) :: l) σ₂) :
    WD B n L (evalPairs (dictPairs env pos (some (.Constant (.str x) kk kp) :: ks) (v :: vs))) H σ Φ := W_of fun A F s hA X => by
  show wpAny B.M A (evalPairs ((eval (.Constant (.str x) kk kp) env, do let x ← eval v env; standAt pos; pure x) :: dictPairs env pos ks vs)) _ _ s
  refine evalPairs_cons (wpAny_Constant_str (wpAny_bind ?_))
  refine wpAny_mono (h.run A F { s with toks := s.toks + 1 } hA X) (fun a s₁ z => wpAny_bind (wpAny_standAt (wpAny_pure ?_))) fun _ _ z => z
  obtain ⟨F₁, σ₁, x₁, p₁, d, hd, w⟩ := z
  refine wpAny_mono (w.run A F₁ s₁ hA (x₁.push hd)) (fun b s₂ z => ?_) fun _ _ z => z
  obtain ⟨F₂, σ₂, x₂, p₂, l, hl, q⟩ := z
  have pr := p₁.trans p₂
  exact ⟨F₂, σ₂, x₂.weaken fun _ hp => .tail _ hp, ⟨pr.keep, pr.own, pr.frz, pr.mono, pr.gens, pr.os⟩, (x, d) :: l, .cons (x₂.hold (.head _)) hl, q⟩
theorem dict_made {kvs : List (Str × Value)} {h : Heap} {a : Addr} (x : h.DictOf (strKind B.prog B.w) a kvs) : ∃ es m, h.get? a = some (dictOf es m) ∧ Pairs (strKind B.prog B.w) es kvs ∧
    ∀ e ∈ es, ∃ k, (strKind B.prog B.w).is k e.key = true ∧ e.hash = (strKind B.prog B.w).hash k := by
  obtain ⟨⟨cls, dict, data, slots⟩, es, ep, ho, ⟨h1, h2, h3⟩, hd, hk, hp, _⟩ := x
  dsimp only at h1 h2 h3 hd
  subst h1 h2 h3 hd
  exact ⟨es.toList, ep, ho, hp, fun e he => hk e (Array.mem_toList_iff.mp he)⟩
theorem Holds.frozenAt {P : Params} {G : Heap} {F : Fz} {h h' : Heap} {a : Addr} {o : Obj} (x : Holds P G L F H σ h) (hF : F a = none) (hO : a ∉ L :: owns σ.objs) (k : ∀ b o, b ≠ a → h.get? b = some o → h'.get? b = some o) (ha : h'.get? a = some o) :
    Holds P G L (F.put a o) H σ h' ∧ F.le (F.put a o) := by
  have le := Fz.le_put (o := o) hF
  have sub : ∀ b o, F b = some o → h'.get? b = some o := fun b o e => k b o (fun z => by rw [z, hF] at e; cases e) (x.sub _ _ e)
  refine ⟨⟨fun b o' e => le _ _ (x.core b o' e), fun b o' e => ?_, ?_, x.names, fun p hp => (x.objs p hp).move le fun b o' hb e => k _ _ (fun z => hO (z ▸ .tail _ (owns_mem.mpr ⟨p, hp, hb⟩))) e, x.nodup, fun b hb => ?_, fun p hp => (x.held p hp).mono le, x.low⟩, le⟩
  · unfold Fz.put at e
    split at e
    · rename_i q; subst q; cases e; exact ha
    · exact sub _ _ e
  · obtain ⟨m, ⟨o', es, ep, e1, e2⟩, r⟩ := x.loc
    exact ⟨m, ⟨o', es, ep, k _ _ (fun z => hO (z ▸ .head _)) e1, e2⟩, fun y d hy => let ⟨v, e, q⟩ := r y d hy; ⟨v, e, q.mono le⟩⟩
  · unfold Fz.put
    split
    · rename_i q; exact absurd (q ▸ hb) hO
    · exact x.apart b hb
theorem not_sys {n : Nat} (h : B.G.objs.size ≤ n) : (n == sysModules) = false := by
  obtain ⟨mg, g⟩ := B.g
  have := g.lt
  have h2 : mainGlobals = 3 := rfl
  rw [h2] at this
  refine beq_eq_false_iff_ne.mpr fun e => ?_
  have h3 : sysModules = 1 := rfl
  rw [h3] at e
  have h' : 3 < B.G.objs.size := this
  omega
/-- a display: the dict, made before its parts -/
theorem E_dict {keys : List (Option Expr)} {values : List Expr} {pos : Pos} {Φ : Value → AV → St → Prop}
    (h : WD B n L (evalPairs (dictPairs env pos keys values)) H σ fun l σ₁ => (l.map (·.1)).Nodup ∧ ∀ v, Φ v (.dct l) σ₁)
    (hs : (evalEachOpt keys env).zip ((evalEach values env).map fun v => do let x ← v; standAt pos; pure x) = (dictPairs env pos keys values).map fun p => (some p.1, p.2) := by rfl)
    (h0 : dictPairs env pos keys values ≠ [] := by exact List.cons_ne_nil _ _) (hl : (dictPairs env pos keys values).length ≤ 15 := by decide) : WV B n L (eval (.Dict keys values pos) env) H σ Φ := W_of fun A F s hA X => by
  refine wpAny_Dict_pairs (knd := strKind B.prog B.w) hs h0 hl ?_
  have hn := get_size s.heap
  have up : ∀ b o, s.heap.get? b = some o → (s.heap.push { cls := .type "dict", data := .dict #[] }).get? b = some o := fun b o e => Heap.get?_push_of_some _ e
  have aO : s.heap.objs.size ∉ L :: owns σ.objs := fun hm => by obtain ⟨o, ho⟩ := X.there _ hm; rw [hn] at ho; cases ho
  refine wpAny_mono (h.run A F _ hA (X.grow up)) (fun vs s₁ z => ?_) fun _ _ z => z
  obtain ⟨F₁, σ₁, x₁, p₁, l, hl, hnd, q⟩ := z
  have a0 : s₁.heap.get? s.heap.objs.size = some { cls := .type "dict", data := .dict #[] } := p₁.keep _ _ aO (Heap.get?_push_size _ rfl)
  refine ⟨KV.vals vs l, KV.carries hl, ⟨_, #[], _, a0, ⟨rfl, rfl, rfl⟩, rfl, (fun e he => by simp at he), .nil, List.nodup_nil⟩, fun h' hd hs' => ?_⟩
  rw [merged_nil_of_nodup _ (by rw [KV.keys hl]; exact hnd)] at hd
  obtain ⟨es, m, e1, e2, e3⟩ := dict_made hd
  have aF : F₁ s.heap.objs.size = none := by
    cases w : F₁ s.heap.objs.size with
    | none => rfl
    | some o =>
      rcases p₁.frz _ _ w with z | z | z
      · have := X.sub _ _ z; rw [hn] at this; cases this
      · exact absurd z aO
      · rw [Heap.get?_push_size _ rfl] at z; cases z
  have aO' : s.heap.objs.size ∉ L :: owns σ₁.objs := fun hm => by
    rcases p₁.own _ hm with z | z
    · exact aO z
    · rw [Heap.get?_push_size _ rfl] at z; cases z
  obtain ⟨x₂, le⟩ := x₁.frozenAt (h' := h') (o := dictOf es m) aF aO' (fun b o hb e => (hs'.2 b hb).trans e) e1
  refine ⟨_, σ₁, x₂, ⟨fun b o hb e => (hs'.2 b (fun z => by rw [z, hn] at e; cases e)).trans (p₁.keep _ _ hb (up _ _ e)), fun b hb => (p₁.own b hb).imp_right fun e => ?_, fun b o e => ?_, p₁.mono.trans le, p₁.gens, p₁.os⟩, .dct l, .dct (Fz.put_self ..) ((KV.ents hl e2 e3).mono le) hnd (not_sys X.big), q _⟩
  · cases w : s.heap.get? b with
    | none => rfl
    | some o => rw [up _ _ w] at e; cases e
  · unfold Fz.put at e
    split at e
    · rename_i z; exact .inr (.inr (by rw [z]; exact hn))
    · refine (p₁.frz _ _ e).imp_right (Or.imp_right fun e => ?_)
      cases w : s.heap.get? b with
      | none => rfl
      | some o => rw [up _ _ w] at e; cases e
end
end
-- La14
section
section
variable {B : Base} {n : Nat} {L : Addr} {H : List (Value × AV)} {σ : St} {env : Env}
/-! ### stores to more than one name -/
theorem G_name {x : Str} {p} {v : Value} {Φ : St → Prop} (h : WU B n L (storeName env x v) H σ Φ) : WU B n L (assign (.Name x p) env v) H σ Φ := W_of fun A F s hA X => wpAny_assign_Name (h.run A F s hA X)
theorem G_attr {o : Expr} {attr : Str} {p} {v : Value} {Φ : St → Prop} (h : WV B n L (eval o env) H σ fun ov d σ₁ => WU B n L (setAttr ov attr v) ((ov, d) :: H) σ₁ Φ) : WU B n L (assign (.Attribute o attr p) env v) H σ Φ := by
  rw [arm_assign_Attribute]
  refine W_bindV (W_holding (W_monoV h fun ov od σ₂ w => W_standB (W_bindU (W_holding (W_dropU w fun σ₃ q => ?_)))))
  exact W_releaseU q
where
  W_dropU {t : Sem Unit} {H' : List (Value × AV)} {Φ : St → Prop} {Ψ : St → Prop} {σ : St} (h : WU B n L t H' σ Φ) (k : ∀ σ, Φ σ → Ψ σ) : WU B n L t H' σ Ψ := W_monoU h k
theorem S_unpack2 {t1 t2 e : Expr} {k p pos} {Φ : Fl → St → Prop}
    (h : WV B n L (eval e env) H σ fun v d σ₁ => ∃ d1 d2, d = .tup [d1, d2] ∧ ∀ v1 v2, WU B n L (assign t1 env v1) ((v1, d1) :: (v2, d2) :: H) σ₁ fun σ₂ => WU B n L (assign t2 env v2) ((v1, d1) :: (v2, d2) :: H) σ₂ fun σ₃ => Φ .next σ₃)
    (hs : swapsWithSole [.Tuple [t1, t2] k p] e pos.line env = pure false := by rfl) (hw : swappedStores [.Tuple [t1, t2] k p] e env = pure none := by rfl)
    (he : assignEach [t1, t2] env = [(false, assign t1 env), (false, assign t2 env)] := by rfl) : WF B n L (exec (.Assign [.Tuple [t1, t2] k p] e pos) env) H σ Φ := W_of fun A F s hA X => by
  refine PyProof.Rows.Assign_Tuple (wpAny_mono (h.run A F s hA X) (fun v s₁ z => ?_) fun _ _ z => z) hs hw
  obtain ⟨F₁, σ₁, x₁, p₁, d, hd, d1, d2, rfl, w⟩ := z
  obtain ⟨a, vs, m, rfl, e1, e2⟩ := inv_tup hd
  obtain ⟨v1, v2, rfl, q1, q2⟩ := two e2
  refine assign_Tuple_tuple hA.handled (isTup_of x₁.sub e1) (by rw [he]; rfl) (by rw [he]; rfl) fun h' hk => ?_
  rw [he]
  have keep : ∀ b o, s₁.heap.get? b = some o → h'.get? b = some o := fun b o e => hk b o (Nat.ne_of_lt (Heap.lt_size e)) e
  have x₂ := ((x₁.grow keep).push q2).push q1
  refine assignInOrder_cons ?_
  refine wpAny_mono ((w v1 v2).run A F₁ { s₁ with heap := h' } hA x₂) (fun _ s₃ z => ?_) fun _ _ z => z
  obtain ⟨F₃, σ₃, x₃, p₃, w₃⟩ := z
  refine assignInOrder_cons (wpAny_mono (w₃.run A F₃ s₃ hA x₃) (fun _ s₄ z => ?_) fun _ _ z => z)
  obtain ⟨F₄, σ₄, x₄, p₄, q⟩ := z
  refine assignInOrder_nil ⟨F₄, σ₄, x₄.weaken fun _ hp => .tail _ (.tail _ hp), p₁.trans (Pres.trans (s' := { s₁ with heap := h' }) ⟨fun b o _ e => keep b o e, fun _ h => .inl h, fun _ _ e => .inl e, .refl F₁, .refl _, rfl⟩ (p₃.trans p₄)), .next, trivial, q⟩
where
  two {P : Params} {F : Fz} {vs : List Value} {d1 d2 : AV} (h : IsAll P F vs [d1, d2]) : ∃ v1 v2, vs = [v1, v2] ∧ Is P F v1 d1 ∧ Is P F v2 d2 := by
    cases h with | cons q1 r => cases r with | cons q2 r => cases r with | nil => exact ⟨_, _, rfl, q1, q2⟩

/-! ### while -/
noncomputable def LoopEnd (J : St → Prop) (Φ : Fl → St → Prop) : Fl → St → Prop
  | .next, σ => J σ
  | .cont, σ => J σ
  | .brk, σ => Φ .next σ
  | .ret d, σ => Φ (.ret d) σ
theorem S_while {test : Expr} {body : List Stmt} {pos} {Φ : Fl → St → Prop} (J : Nat → St → Prop) (k : Nat) (h0 : J k σ)
    (h : ∀ k σ, J k σ → WB B n L (isTrue test env (eval test env)) H σ fun b σ₁ => (b = true → WF B n L (execs body env) H σ₁ (LoopEnd (fun σ₂ => ∃ m, m < k ∧ J m σ₂) Φ)) ∧ (b = false → Φ .next σ₁)) :
    WF B n L (exec (.While test body [] pos) env) H σ Φ := W_of fun A F s hA X => by
  refine wpAny_While ?_
  refine codeAny_whileLoop (fun k s' => ∃ F' σ', Holds B.P B.G L F' H σ' s'.heap ∧ Pres (L :: owns σ.objs) F s (L :: owns σ'.objs) F' s' ∧ J k σ') (fun k s₁ hI => ?_) k ⟨F, σ, X, .refl _ _ _, h0⟩
  obtain ⟨F₁, σ₁, x₁, p₁, j₁⟩ := hI
  refine wpAny_mono ((h k σ₁ j₁).run A F₁ s₁ hA x₁) (fun b s₂ z => ?_) fun _ _ z => z.elim
  obtain ⟨F₂, σ₂, x₂, p₂, q⟩ := z
  cases b with
  | false => exact wpAny_execs_nil ⟨F₂, σ₂, x₂, p₁.trans p₂, .next, trivial, q.2 rfl⟩
  | true =>
    refine wpAny_mono ((q.1 rfl).run A F₂ s₂ hA x₂) (fun f s₃ z => ?_) fun _ _ z => z.elim
    obtain ⟨F₃, σ₃, x₃, p₃, e, he, q⟩ := z
    have pp := p₁.trans (p₂.trans p₃)
    cases f with
    | next => cases e <;> first | exact he.elim | (obtain ⟨m, hm, j⟩ := q; exact ⟨m, hm, F₃, σ₃, x₃, pp, j⟩)
    | cont => cases e <;> first | exact he.elim | (obtain ⟨m, hm, j⟩ := q; exact ⟨m, hm, F₃, σ₃, x₃, pp, j⟩)
    | brk => cases e <;> first | exact he.elim | exact ⟨F₃, σ₃, x₃, pp, .next, trivial, q⟩
    | ret v => cases e <;> first | exact he.elim | exact ⟨F₃, σ₃, x₃, pp, .ret _, he, q⟩

/-! ### for -/
/-- the value is gone through by N items -/
noncomputable def Iterable (B : Base) (n : Nat) (L : Addr) (xv : Value) (d : AV) (N : Nat) (item : Nat → AV) : Prop :=
  ∀ H σ, (xv, d) ∈ H → W B n L (pyIter xv) H σ fun r _ σ' => ∃ (a : Addr) (K : Nat → Obj → Prop), r = .ref a ∧ σ' = ⟨σ.loc, (a, .is (K 0)) :: σ.objs⟩ ∧
    (∀ L' i loc objs H, i < N → (xv, d) ∈ H → W B n L' (pyNext (.ref a)) H ⟨loc, (a, .is (K i)) :: objs⟩ fun r F σ' => ∃ v, r = some v ∧ Is B.P F v (item i) ∧ σ' = ⟨loc, (a, .is (K (i + 1))) :: objs⟩) ∧
    (∀ L' loc objs H, (xv, d) ∈ H → W B n L' (pyNext (.ref a)) H ⟨loc, (a, .is (K N)) :: objs⟩ fun r _ σ' => r = none ∧ σ' = ⟨loc, objs⟩) ∧
    (∀ L' loc objs H, W B n L' (pyIter (.ref a)) H ⟨loc, (a, .is (K 0)) :: objs⟩ fun r _ σ' => r = .ref a ∧ σ' = ⟨loc, (a, .is (K 0)) :: objs⟩)
noncomputable def ForEnd (a : Addr) (p : Obj → Prop) (J : St → Prop) (Φ : Fl → St → Prop) : Fl → St → Prop
  | .next, σ => ∃ loc objs, σ = ⟨loc, (a, .is p) :: objs⟩ ∧ J ⟨loc, objs⟩
  | .cont, σ => ∃ loc objs, σ = ⟨loc, (a, .is p) :: objs⟩ ∧ J ⟨loc, objs⟩
  | .brk, σ => Φ .next σ
  | .ret d, σ => Φ (.ret d) σ
theorem S_for {target iter : Expr} {body : List Stmt} {pos} {Φ : Fl → St → Prop} (J : Nat → St → Prop)
    (h : WV B n L (eval iter env) H σ fun xv d σ₁ => ∃ N item, Iterable B n L xv d N item ∧ J 0 σ₁ ∧ (∀ σ, J N σ → Φ .next σ) ∧
      ∀ i loc objs a p v, i < N → J i ⟨loc, objs⟩ → WU B n L (assign target env v) ((v, item i) :: (xv, d) :: H) ⟨loc, (a, .is p) :: objs⟩ fun σ₂ => WF B n L (execs body env) H σ₂ (ForEnd a p (J (i + 1)) Φ))
    (hs : ∀ x, foldedSetIterable iter env x = pure x := by intro _; rfl) (ht : ∀ it v, letOwnedTupleGo target it v = pure () := by intro _ _; rfl) : WF B n L (exec (.For target iter body [] pos) env) H σ Φ := W_of fun A F s hA X => by
  refine wpAny_For (wpAny_mono (h.run A F s hA X) (fun xv s₁ z => ?_) fun _ _ z => z) hs
  obtain ⟨F₁, σ₁, x₁, p₁, d, hd, N, item, it, j0, fin, step⟩ := z
  have x₁' := x₁.push hd
  refine wpAny_mono ((it _ σ₁ (.head _)).run A F₁ s₁ hA x₁') (fun r s₂ z => ?_) fun _ _ z => z
  obtain ⟨F₂, σ₂, x₂, p₂, a, K, rfl, rfl, next, stop, _⟩ := z
  refine codeAny_forLoop (fun k s' => ∃ i F' loc objs, k = N - i ∧ i ≤ N ∧ J i ⟨loc, objs⟩ ∧ Holds B.P B.G L F' ((xv, d) :: H) ⟨loc, (a, .is (K i)) :: objs⟩ s'.heap ∧ Pres (L :: owns σ.objs) F s (L :: owns ((a, AO.is (K i)) :: objs)) F' s')
    (fun k s₃ hI => ?_) N ⟨0, F₂, σ₁.loc, σ₁.objs, rfl, Nat.zero_le _, j0, x₂, p₁.trans p₂⟩ (ht _)
  obtain ⟨i, F₃, loc, objs, rfl, hi, j, x₃, p₃⟩ := hI
  by_cases hN : i = N
  · subst hN
    refine wpAny_mono ((stop L loc objs _ (.head _)).run A F₃ s₃ hA x₃) (fun r s₄ z => ?_) fun _ _ z => z.elim
    obtain ⟨F₄, σ₄, x₄, p₄, rfl, rfl⟩ := z
    exact wpAny_execs_nil ⟨F₄, _, x₄.weaken fun _ hp => .tail _ hp, p₃.trans p₄, .next, trivial, fin _ j⟩
  · have hlt : i < N := Nat.lt_of_le_of_ne hi hN
    refine wpAny_mono ((next L i loc objs _ hlt (.head _)).run A F₃ s₃ hA x₃) (fun r s₄ z => ?_) fun _ _ z => z.elim
    obtain ⟨F₄, σ₄, x₄, p₄, v, rfl, hv, rfl⟩ := z
    refine wpAny_mono ((step i loc objs a (K (i + 1)) v hlt j).run A F₄ s₄ hA (x₄.push hv)) (fun _ s₅ z => ?_) fun _ _ z => z.elim
    obtain ⟨F₅, σ₅, x₅, p₅, w⟩ := z
    refine wpAny_mono (w.run A F₅ s₅ hA (x₅.weaken fun _ hp => .tail _ (.tail _ hp))) (fun f s₆ z => ?_) fun _ _ z => z.elim
    obtain ⟨F₆, σ₆, x₆, p₆, e, he, q⟩ := z
    have pp := p₃.trans (p₄.trans (p₅.trans p₆))
    have held : Is B.P F₆ xv d := (x₅.hold (.tail _ (.head _))).mono p₆.mono
    cases f with
    | next => cases e <;> first | exact he.elim | (obtain ⟨loc', objs', rfl, j'⟩ := q; exact ⟨N - (i + 1), by omega, i + 1, F₆, loc', objs', rfl, hlt, j', x₆.push held, pp⟩)
    | cont => cases e <;> first | exact he.elim | (obtain ⟨loc', objs', rfl, j'⟩ := q; exact ⟨N - (i + 1), by omega, i + 1, F₆, loc', objs', rfl, hlt, j', x₆.push held, pp⟩)
    | brk => cases e <;> first | exact he.elim | exact ⟨F₆, σ₆, x₆, pp, .next, trivial, q⟩
    | ret v => cases e <;> first | exact he.elim | exact ⟨F₆, σ₆, x₆, pp, .ret _, he, q⟩
end
end
-- La15
section
section
variable {B : Base} {n : Nat} {L : Addr} {H : List (Value × AV)} {σ : St} {env : Env}
theorem Holds.add {P : Params} {G : Heap} {F : Fz} {h : Heap} {H' : List (Value × AV)} (x : Holds P G L F H σ h) (k : ∀ p ∈ H', Is P F p.1 p.2) : Holds P G L F (H' ++ H) σ h :=
  ⟨x.core, x.sub, x.loc, x.names, x.objs, x.nodup, x.apart, fun p hp => (List.mem_append.mp hp).elim (k p) (x.held p), x.low⟩

/-! ### a frame entered and left -/
theorem CHolds.enter {P : Params} {G : Heap} {F : Fz} {h h₁ : Heap} {objs : List (Addr × AO)} {loc : List (Str × Option AV)} {C : Addr} (x : CHolds P G F objs h) (hC : h.get? C = none) (big : G.objs.size ≤ C)
    (k : ∀ b o, h.get? b = some o → h₁.get? b = some o) (hl : ∃ m, h₁.Ns C m ∧ ∀ y d, (y, some d) ∈ loc → ∃ v, m y = some v ∧ Is P F v d) (hn : (loc.map (·.1)).Nodup) (hH : ∀ p ∈ H, Is P F p.1 p.2) : Holds P G C F H ⟨loc, objs⟩ h₁ := by
  have there : ∀ b ∈ owns objs, ∃ o, h.get? b = some o := fun b hb => by
    obtain ⟨p, hp, hb⟩ := owns_mem.mp hb
    exact (x.objs p hp).there b hb
  refine ⟨x.core, fun b o e => k _ _ (x.sub _ _ e), hl, hn, fun p hp => (x.objs p hp).move (.refl F) fun b o _ e => k _ _ e, List.nodup_cons.mpr ⟨fun hm => ?_, x.nodup⟩, fun b hb => ?_, hH, big⟩
  · obtain ⟨o, ho⟩ := there _ hm; rw [hC] at ho; cases ho
  · rcases List.mem_cons.mp hb with rfl | hb
    · cases q : F b with
      | none => rfl
      | some o => have := x.sub _ _ q; rw [hC] at this; cases this
    · exact x.apart b hb
theorem Pres.leave {F F' : Fz} {s s₁ s' : Shared} {O O' : List Addr} {C : Addr} (p : Pres (C :: O) F s₁ (C :: O') F' s') (hC : s.heap.get? C = none) (k : ∀ b o, s.heap.get? b = some o → s₁.heap.get? b = some o) (g : GensTo s.gens s₁.gens) (os : s₁.os = s.os) (nC : C ∉ O') : Pres O F s O' F' s' := by
  have old : ∀ b, s₁.heap.get? b = none → s.heap.get? b = none := fun b e => by
    cases w : s.heap.get? b with
    | none => rfl
    | some o => have := k _ _ w; rw [e] at this; cases this
  refine ⟨fun b o hb e => p.keep b o (fun hm => ?_) (k _ _ e), fun b hb => ?_, fun b o e => ?_, p.mono, g.trans p.gens, p.os.trans os⟩
  · rcases List.mem_cons.mp hm with rfl | hm
    · rw [hC] at e; cases e
    · exact hb hm
  · rcases p.own b (.tail _ hb) with z | z
    · rcases List.mem_cons.mp z with rfl | z
      · exact .inr hC
      · exact .inl z
    · exact .inr (old b z)
  · rcases p.frz b o e with z | z | z
    · exact .inl z
    · rcases List.mem_cons.mp z with rfl | z
      · exact .inr (.inr hC)
      · exact .inr (.inl z)
    · exact .inr (.inr (old b z))

/-! ### what is gone through -/
theorem After.remove {F : Fz} {s s' : Shared} {Ψ : Fz → St → Prop} {loc : List (Str × Option AV)} {objs : List (Addr × AO)} {a : Addr} {o : AO} (x : Holds B.P B.G L F H ⟨loc, (a, o) :: objs⟩ s.heap)
    (k : ∀ b y, b ≠ a → s.heap.get? b = some y → s'.heap.get? b = some y) (g : s'.gens = s.gens) (os : s'.os = s.os) (z : Ψ F ⟨loc, objs⟩) : After B L H ⟨loc, (a, o) :: objs⟩ F s s' Ψ := by
  have x' := x.drop (objs' := objs) (rest := [(a, o)]) (List.perm_append_comm (l₁ := [(a, o)]))
  have aO : a ∈ L :: owns ((a, o) :: objs) := .tail _ (.head _)
  have nd := x.nodup
  have nL : a ≠ L := fun e => (List.nodup_cons.mp nd).1 (e ▸ .head _)
  have nO : a ∉ owns objs := fun hm => (List.nodup_cons.mp (List.nodup_cons.mp nd).2).1 (List.mem_append_right _ hm)
  have keep : ∀ b y, b ≠ a → s.heap.get? b = some y → s'.heap.get? b = some y := k
  refine ⟨F, ⟨loc, objs⟩, ⟨x.core, fun b y e => keep b y (fun q => ?_) (x.sub _ _ e), ?_, x'.names, fun p hp => (x'.objs p hp).move (.refl F) fun b y hb e => keep b y (fun q => nO (q ▸ owns_mem.mpr ⟨p, hp, hb⟩)) e, x'.nodup, x'.apart, x'.held, x.low⟩,
    ⟨fun b y hb e => keep b y (fun q => hb (q ▸ aO)) e, fun b hb => .inl ?_, fun _ _ e => .inl e, .refl F, .of g, os⟩, z⟩
  · have := x.apart a aO; rw [← q, e] at this; cases this
  · obtain ⟨m, ⟨o', es, ep, e1, e2⟩, r⟩ := x.loc
    exact ⟨m, ⟨o', es, ep, keep _ _ (fun q => nL q.symm) e1, e2⟩, r⟩
  · rcases List.mem_cons.mp hb with rfl | hb
    · exact .head _
    · exact .tail _ (.tail _ (List.mem_append_right _ hb))
/-- the head object is told otherwise -/
theorem After.turn {F : Fz} {s s' : Shared} {Ψ : Fz → St → Prop} {loc : List (Str × Option AV)} {objs : List (Addr × AO)} {a : Addr} {p p' : Obj → Prop} (x : Holds B.P B.G L F H ⟨loc, (a, .is p) :: objs⟩ s.heap)
    (k : Heap.SameBut a s.heap s'.heap) (q : ∃ o, s'.heap.get? a = some o ∧ p' o) (g : s'.gens = s.gens) (os : s'.os = s.os) (z : Ψ F ⟨loc, (a, .is p') :: objs⟩) : After B L H ⟨loc, (a, .is p) :: objs⟩ F s s' Ψ := by
  have nL : L ≠ a := fun e => (List.nodup_cons.mp x.nodup).1 (e ▸ .head _)
  refine After.change (pre := []) (o' := .is p') x (c := a) (.inl rfl) rfl (fun b y _ h e => (k.2 b h).trans e) ?_ q g os z
  obtain ⟨m, hm, r⟩ := x.loc
  exact ⟨m, hm.sameBut k nL, r⟩
theorem After.begin {F : Fz} {s : Shared} {Ψ : Fz → St → Prop} (x : Holds B.P B.G L F H σ s.heap) {o : Obj} {p : Obj → Prop} {tk : Nat} (hp : p o) (z : Ψ F ⟨σ.loc, (s.heap.objs.size, .is p) :: σ.objs⟩)
    (hf : (s.heap.push o).get? s.heap.objs.size = some o := by exact Heap.get?_push_size _ rfl) : After B L H σ F s { s with heap := s.heap.push o, toks := tk } Ψ :=
  After.track (o := .is p) x (fun b y e => Heap.get?_push_of_some _ e) (fun b hb => by rw [List.mem_singleton.mp hb]; exact get_size _) (by simp [AO.more]) ⟨o, hf, hp⟩ rfl rfl z

noncomputable def strIt (T : String) (l : List Nat) (t : Tok) (i : Nat) (o : Obj) : Prop := o.cls = .type T ∧ o.data = .fields #[.str (S l) t, .int i 0]
theorem It_str {xv : Value} {l : List Nat} : Iterable B n L xv (.str l) l.length (fun i => .str [l.getD i 0]) := by
  intro H σ m; refine W_of fun A F s hA X => ?_
  obtain ⟨t, rfl⟩ := inv_str (X.hold m)
  have cps : ∀ i : Nat, (S l).cps[i]? = l[i]? := fun i => by simp
  cases ha : (S l).cps.all (· < 128) with
  | true =>
    refine wpAny_pyIter_ascii ha (After.begin (p := strIt "str_ascii_iterator" l t 0) X ⟨rfl, rfl⟩ ⟨_, fun i => strIt "str_ascii_iterator" l t i, rfl, rfl, fun L' i loc objs H hi _ => W_of fun A F s hA X => ?_, fun L' loc objs H _ => W_of fun A F s hA X => ?_, fun L' loc objs H => W_of fun A F s hA X => ?_⟩)
    · obtain ⟨o, ho, hc, hd⟩ := X.objs _ (.head _)
      refine wpAny_pyNext_ascii_item (x := S l) (t := t) (i := i) (c := l[i]) ⟨o, ho, hc, hd⟩ (by rw [cps]; simp [hi]) fun h' hit hs => ?_
      exact After.turn X hs hit rfl rfl ⟨_, rfl, (by have e : l.getD i 0 = l[i] := (by simp [hi]); show Is B.P F _ (.str [l.getD i 0]); rw [e]; exact .str _ _), rfl⟩
    · obtain ⟨o, ho, hc, hd⟩ := X.objs _ (.head _)
      refine wpAny_pyNext_ascii_end (x := S l) (t := t) (i := l.length) hA.handled ⟨o, ho, hc, hd⟩ (by rw [cps]; simp) fun h' hs => ?_
      exact After.remove X (fun b y hb e => hs b y hb e) rfl rfl ⟨rfl, rfl⟩
    · obtain ⟨o, ho, hc, hd⟩ := X.objs _ (.head _)
      exact wpAny_pyIter_striter_ascii (i := 0) ⟨o, ho, hc, hd⟩ (.here X ⟨rfl, rfl⟩)
  | false =>
    refine wpAny_pyIter_wide ha (After.begin (p := strIt "str_iterator" l t 0) X ⟨rfl, rfl⟩ ⟨_, fun i => strIt "str_iterator" l t i, rfl, rfl, fun L' i loc objs H hi _ => W_of fun A F s hA X => ?_, fun L' loc objs H _ => W_of fun A F s hA X => ?_, fun L' loc objs H => W_of fun A F s hA X => ?_⟩)
    · obtain ⟨o, ho, hc, hd⟩ := X.objs _ (.head _)
      refine wpAny_pyNext_wide_item (x := S l) (t := t) (i := i) (c := l[i]) ⟨o, ho, hc, hd⟩ (by rw [cps]; simp [hi]) fun h' hit hs => ?_
      exact After.turn X hs hit rfl rfl ⟨_, rfl, (by have e : l.getD i 0 = l[i] := (by simp [hi]); show Is B.P F _ (.str [l.getD i 0]); rw [e]; exact .str _ _), rfl⟩
    · obtain ⟨o, ho, hc, hd⟩ := X.objs _ (.head _)
      refine wpAny_pyNext_wide_end (x := S l) (t := t) (i := l.length) hA.handled ⟨o, ho, hc, hd⟩ (by rw [cps]; simp) fun h' hs => ?_
      exact After.remove X (fun b y hb e => hs b y hb e) rfl rfl ⟨rfl, rfl⟩
    · obtain ⟨o, ho, hc, hd⟩ := X.objs _ (.head _)
      exact wpAny_pyIter_striter_wide (i := 0) ⟨o, ho, hc, hd⟩ (.here X ⟨rfl, rfl⟩)

noncomputable def rangeObj (a b : Int) (o : Obj) : Prop := ∃ t u v, o = { cls := .type "range", dict := none, data := .fields #[.int a t, .int b u, .int 1 v], slots := #[] }
theorem It_range {xv : Value} {a : Int} {N : Nat} (ha : -1099511627776 ≤ a) (ha' : a ≤ 1099511627776) (hN : N ≤ 1099511627776) : Iterable B n L xv (.obj (rangeObj a (a + N))) N (fun i => .int (a + i)) := by
  intro H σ m; refine W_of fun A F s hA X => ?_
  have hh := X.hold m
  cases hh with | obj e1 e2 => ?_
  rename_i r o
  obtain ⟨t, u, v, rfl⟩ := e2
  have hr : IsRange s.heap r a (a + N) 1 t u v := X.sub _ _ e1
  have size : Builtin.Range.rangeSize a (a + N) 1 = N := by rw [rangeSize_one]; split <;> omega
  let K : Nat → Obj → Prop := fun i o => o = { cls := .type "range_iterator", dict := none, data := .fields #[rawInt (a + i), rawInt (N - i), rawInt 1], slots := #[] }
  refine wpAny_pyIter_range hr (small_one (by omega) (by omega) (by omega) (by omega)) (After.begin (p := K 0) X (by rw [size]; simp [K]) ⟨_, K, rfl, rfl, fun L' i loc objs H hi _ => W_of fun A F s hA X => ?_, fun L' loc objs H _ => W_of fun A F s hA X => ?_, fun L' loc objs H => W_of fun A F s hA X => ?_⟩)
  · obtain ⟨o, ho, rfl⟩ := X.objs _ (.head _)
    refine wpAny_pyNext_range_item (x := a + i) (left := N - i) (step := 1) ho (by omega) fun h' hit hs => ?_
    exact After.turn X hs ⟨_, hit, by show _ = _; rw [show a + (i : Int) + 1 = a + ((i + 1 : Nat) : Int) from by omega, show (N : Int) - i - 1 = N - ((i + 1 : Nat) : Int) from by omega]⟩ rfl rfl ⟨_, rfl, .int _ _, rfl⟩
  · obtain ⟨o, ho, rfl⟩ := X.objs _ (.head _)
    refine wpAny_pyNext_range_end (x := a + N) (left := N - N) (step := 1) hA.handled ho (by omega) fun h' hs => ?_
    exact After.remove X (fun b y hb e => hs b y hb e) rfl rfl ⟨rfl, rfl⟩
  · obtain ⟨o, ho, rfl⟩ := X.objs _ (.head _)
    exact wpAny_pyIter_rangeiter (x := a + (0 : Nat)) (left := N - (0 : Nat)) (step := 1) ho (.here X ⟨rfl, rfl⟩)
theorem It_tup {xv : Value} {l : List AV} : Iterable B n L xv (.tup l) l.length (fun i => l.getD i .any) := by
  intro H σ m; refine W_of fun A F s hA X => ?_
  obtain ⟨t, vs, q, rfl, e1, e2⟩ := inv_tup (X.hold m)
  have hlen := e2.length
  refine iter_tuple (isTup_of X.sub e1) (After.begin (p := fun o => o.cls = .type "tuple_iterator" ∧ o.data = .fields #[.ref t, .int (0 : Nat) 0]) X ⟨rfl, rfl⟩ ⟨_, fun i o => o.cls = .type "tuple_iterator" ∧ o.data = .fields #[.ref t, .int (i : Nat) 0], rfl, rfl, fun L' i loc objs H hi mm => W_of fun A F s hA X => ?_, fun L' loc objs H mm => W_of fun A F s hA X => ?_, fun L' loc objs H => W_of fun A F s hA X => ?_⟩)
  · obtain ⟨o, ho, hc, hd⟩ := X.objs _ (.head _)
    obtain ⟨t', vs', q', et, e1, e2⟩ := inv_tup (X.hold mm)
    cases et
    obtain ⟨y, hy, hyd⟩ := B_pop.nth e2 (k := i) (d := l[i]) (by simp [hi])
    refine next_tuple_item (i := i) ⟨o, ho, hc, hd⟩ (isTup_of X.sub e1) (x := y) (by simpa using hy) fun h' hit hs => ?_
    exact After.turn X hs hit rfl rfl ⟨_, rfl, (by have e : l.getD i .any = l[i] := (by simp [hi]); show Is B.P F _ (l.getD i .any); rw [e]; exact hyd), rfl⟩
  · obtain ⟨o, ho, hc, hd⟩ := X.objs _ (.head _)
    obtain ⟨t', vs', q', et, e1, e2⟩ := inv_tup (X.hold mm)
    cases et
    refine next_tuple_end (i := l.length) hA.handled ⟨o, ho, hc, hd⟩ (isTup_of X.sub e1) (by have := e2.length; simp; omega) fun h' hs => ?_
    exact After.remove X (fun b y hb e => hs b y hb e) rfl rfl ⟨rfl, rfl⟩
  · obtain ⟨o, ho, hc, hd⟩ := X.objs _ (.head _)
    exact wpAny_pyIter_tupleiter (t := t) (i := 0) ⟨o, ho, hc, hd⟩ (.here X ⟨rfl, rfl⟩)
theorem It_lst {xv : Value} {l : List AV} : Iterable B n L xv (.lst l) l.length (fun i => l.getD i .any) := by
  intro H σ m; refine W_of fun A F s hA X => ?_
  obtain ⟨t, vs, q, rfl, e1, e2⟩ := inv_lst (X.hold m)
  have hlen := e2.length
  refine wpAny_pyIter_list (isList_of X.sub e1) (After.begin (p := fun o => o.cls = .type "list_iterator" ∧ o.data = .fields #[.ref t, .int (0 : Nat) 0]) X ⟨rfl, rfl⟩ ⟨_, fun i o => o.cls = .type "list_iterator" ∧ o.data = .fields #[.ref t, .int (i : Nat) 0], rfl, rfl, fun L' i loc objs H hi mm => W_of fun A F s hA X => ?_, fun L' loc objs H mm => W_of fun A F s hA X => ?_, fun L' loc objs H => W_of fun A F s hA X => ?_⟩)
  · obtain ⟨o, ho, hc, hd⟩ := X.objs _ (.head _)
    obtain ⟨t', vs', q', et, e1, e2⟩ := inv_lst (X.hold mm)
    cases et
    obtain ⟨y, hy, hyd⟩ := B_pop.nth e2 (k := i) (d := l[i]) (by simp [hi])
    refine wpAny_pyNext_list_item (i := i) ⟨o, ho, hc, hd⟩ (isList_of X.sub e1) (x := y) (by simpa using hy) fun h' hit hs => ?_
    exact After.turn X hs hit rfl rfl ⟨_, rfl, (by have e : l.getD i .any = l[i] := (by simp [hi]); show Is B.P F _ (l.getD i .any); rw [e]; exact hyd), rfl⟩
  · obtain ⟨o, ho, hc, hd⟩ := X.objs _ (.head _)
    obtain ⟨t', vs', q', et, e1, e2⟩ := inv_lst (X.hold mm)
    cases et
    refine wpAny_pyNext_list_end (i := l.length) hA.handled ⟨o, ho, hc, hd⟩ (isList_of X.sub e1) (by have := e2.length; simp; omega) fun h' hs => ?_
    exact After.remove X (fun b y hb e => hs b y hb e) rfl rfl ⟨rfl, rfl⟩
  · obtain ⟨o, ho, hc, hd⟩ := X.objs _ (.head _)
    exact wpAny_pyIter_listiter (l := t) (i := 0) ⟨o, ho, hc, hd⟩ (.here X ⟨rfl, rfl⟩)
end
end
-- La16
section
section
variable {B : Base} {n : Nat} {L : Addr} {H : List (Value × AV)} {σ : St} {env : Env}
/-! ### a class is called -/
theorem weight_make (C : Value) (vs : List Value) (kw : List (Str × Value)) (C' : Addr) (e : C = .ref C') : (Code.builtin "type.__call__" ⟨C :: vs, kw⟩).weight = 1 := by subst e; kernel_rfl
theorem W_make {C fI : Addr} {vs : List Value} {ds : List AV} {Φ : Value → AV → St → Prop} (hm : makesIn B.K C = true) (hi : findIn B.K (.ref C) "__init__" = some (some (.ref fI))) (hf : isFn B.K (.ref fI) = true)
    (e : vs.length = ds.length) (k : ∀ p ∈ vs.zip ds, p ∈ H) (c : ∀ x dx, CallJ B n fI (.ref x :: ds) ((x, .inst C dx []) :: σ.objs) fun d objs' => d = .none ∧ Φ (.ref x) (.ref x) ⟨σ.loc, objs'⟩) :
    WV B (n + 1) L (call (.ref C) vs) H σ Φ := W_of fun A F s hA X => by
  obtain ⟨hh, g, d, t, os⟩ := s
  refine wpAny_call (make_core (makes_of X.K hm) (looks_findIn X.K hi) (fun self => bind_fn X.K self (beq_iff_eq.mp hf)) (.inl rfl) ?_)
  have T : After B L H σ F ⟨hh, g, d, t, os⟩ ⟨(hh.push emptyDict).push (instObj C hh.objs.size), g, d, t, os⟩ (fun F' σ' => F' = F ∧ σ' = ⟨σ.loc, (hh.objs.size + 1, .inst C hh.objs.size []) :: σ.objs⟩) := by
    have h1 : ((hh.push emptyDict).push (instObj C hh.objs.size)).get? (hh.objs.size + 1) = some (instObj C hh.objs.size) := by heap_get
    have h2 : ((hh.push emptyDict).push (instObj C hh.objs.size)).get? hh.objs.size = some (dictOf [] 0) := Heap.get?_push_of_some _ (Heap.get?_push_size _ rfl)
    refine After.track (o := .inst C hh.objs.size []) X (fun b y e => Heap.get?_push_of_some _ (Heap.get?_push_of_some _ e)) (fun b hb => ?_) (by simp [AO.more]) ⟨h1, [], 0, h2, .nil⟩ rfl rfl ⟨rfl, rfl⟩
    show hh.get? b = none
    cases q : hh.get? b with
    | none => rfl
    | some o =>
      have : b < hh.objs.size := Heap.lt_size q
      rcases List.mem_cons.mp hb with rfl | hb
      · exact absurd this (Nat.not_lt.mpr (Nat.le_succ _))
      · rw [List.mem_singleton.mp hb] at this; exact absurd this (Nat.lt_irrefl _)
  obtain ⟨F₁, σ₁, X₁, p₁, rfl, rfl⟩ := T
  have hA' : Room n (A.under (.builtin "type.__call__" ⟨.ref C :: vs, []⟩)) := by
    refine ⟨hA.handled, ?_, ?_⟩
    · have := hA.depth
      show A.depth + (Code.builtin "type.__call__" ⟨.ref C :: vs, []⟩).weight + n ≤ 900
      rw [weight_make (.ref C) vs [] C rfl]; omega
    · have := hA.units
      show A.units + (Code.builtin "type.__call__" ⟨.ref C :: vs, []⟩).cUnits + 8 * n ≤ 9000
      have : (Code.builtin "type.__call__" ⟨.ref C :: vs, []⟩).cUnits = 1 := by kernel_rfl
      omega
  refine codeAny_mono (c _ _ _ F₁ _ _ hA' X₁.call (.cons (.ref _) (held_all X e k))) fun r s' z => ?_
  obtain ⟨v, d', objs', F', rfl, hd, y, p, rfl, q⟩ := z
  obtain ⟨x', p'⟩ := X₁.back y p
  exact ⟨inv_none hd, F', _, x', p₁.trans p', _, .ref _, q⟩

/-! ### range -/
theorem W_callT {T : String} {first : List Value} {args : List Expr} {pos} {Φ : Value → AV → St → Prop}
    (h : WL B n L (spliced (backTo pos (starEach args env))) H σ fun vs ds σ₁ => WV B n L (call (.type T) (first ++ vs)) (vs.zip ds ++ H) σ₁ Φ)
    (hp : (backTo pos (starEach args env)).any (·.1) = false := by rfl) : WV B n L (callWith pos (.type T) first (backTo pos (starEach args env)) []) H σ Φ := W_of fun A F s hA x => by
  refine PyProof.Rows.callWith_type hp (evalArgs_all hp (wpAny_mono (h.run A F s hA x) (fun vs s₁ z => ?_) fun _ _ z => z))
  refine z.then fun F₁ σ₁ x₁ ⟨ds, hds, w⟩ => ?_
  exact wpAny_mono (w.run A F₁ s₁ hA (x₁.add (W_callK.zip_is hds))) (fun _ _ y => y.weaken fun _ hp => List.mem_append_right _ hp) fun _ _ z => z
theorem B_range1 {v : Value} {b : Int} {Φ : Value → AV → St → Prop} (mv : (v, .int b) ∈ H) (h : ∀ v, Φ v (.obj (rangeObj 0 b)) σ) : WV B n L (call (.type "range") [v]) H σ Φ := W_of fun A F s hA X => by
  obtain ⟨t, rfl⟩ := inv_int (X.hold mv)
  refine call_range_1 (After.fresh X (fun b o e => Heap.get?_push_of_some _ e) (get_size _) (Heap.get?_push_size _ rfl) rfl rfl fun le => ⟨_, .obj (Fz.put_self ..) ⟨_, _, _, rfl⟩, h _⟩)
/-! ### a list that nobody changes any more -/
end
end
-- La17
section
/-- the names of a frame of which nothing is known -/
noncomputable def bare (xs : List Str) : List (Str × Option AV) := xs.map (·, none)
theorem bare_keys (xs : List Str) : (bare xs).map (·.1) = xs := by
  unfold bare; rw [List.map_map]; exact (List.map_congr_left fun _ _ => rfl).trans (List.map_id _)
theorem bare_none {xs : List Str} {y : Str} {d : AV} (h : (y, some d) ∈ bare xs) : False := by
  unfold bare at h
  obtain ⟨_, _, e⟩ := List.mem_map.mp h
  cases e
noncomputable abbrev testsOf (ifs : List Expr) (env : Env) : Sem Bool := forIn ifs true fun c r => if r = true then do let ok ← isTrue c env (eval c env); pure (ForInStep.yield ok) else pure (ForInStep.yield r)

section
variable {B : Base} {n : Nat} {L : Addr} {H : List (Value × AV)} {σ : St} {env : Env}
theorem I_none {Φ : Bool → St → Prop} (h : Φ true σ) : WB B n L (testsOf [] env) H σ Φ := W_of fun _ _ _ _ x => by
  show wpAny B.M _ (pure true) _ _ _
  exact wpAny_pure (.here x h)
theorem I_one {c : Expr} {Φ : Bool → St → Prop} (h : WB B n L (isTrue c env (eval c env)) H σ Φ) : WB B n L (testsOf [c] env) H σ Φ := W_of fun A F s hA x => wpAny_tests_one (h.run A F s hA x)

/-- an object that no state tells is changed -/
theorem Holds.besides {P : Params} {G : Heap} {F : Fz} {h h' : Heap} {C : Addr} (x : Holds P G L F H σ h) (hF : F C = none) (hO : C ∉ L :: owns σ.objs) (k : ∀ b o, b ≠ C → h.get? b = some o → h'.get? b = some o) : Holds P G L F H σ h' := by
  refine ⟨x.core, fun b o e => k b o (fun z => by rw [z, hF] at e; cases e) (x.sub _ _ e), ?_, x.names, fun p hp => (x.objs p hp).move (.refl F) fun b o' hb e => k _ _ (fun z => hO (z ▸ .tail _ (owns_mem.mpr ⟨p, hp, hb⟩))) e, x.nodup, x.apart, x.held, x.low⟩
  obtain ⟨m, ⟨o', es, ep, e1, e2⟩, r⟩ := x.loc
  exact ⟨m, ⟨o', es, ep, k _ _ (fun z => hO (z ▸ .head _)) e1, e2⟩, r⟩

/-- one turn of a comprehension: what is asked of its parts -/
noncomputable def CompStep (B : Base) (n : Nat) (target elt : Expr) (ifs : List Expr) (cenv : Addr → Env) (H : List (Value × AV)) (xs : List Str) (item : AV) (J J' : List AV → List (Addr × AO) → Prop) : Prop :=
  ∀ C ys objs D a p v, J ys objs → WU B n C (assign target (cenv C) v) ((v, item) :: H) ⟨bare xs, (D, .list ys) :: (a, .is p) :: objs⟩ fun σ₂ => WB B n C (testsOf ifs (cenv C)) H σ₂ fun ok σ₃ =>
    (ok = true → WV B n C (eval elt (cenv C)) H σ₃ fun _ e σ₄ => ∃ loc objs', σ₄ = ⟨loc, (D, .list ys) :: (a, .is p) :: objs'⟩ ∧ ys.length ≤ 16777215 ∧ J' (ys ++ [e]) objs') ∧
    (ok = false → ∃ loc objs', σ₃ = ⟨loc, (D, .list ys) :: (a, .is p) :: objs'⟩ ∧ J' ys objs')

theorem comp_core {elt target iter : Expr} {ifs : List Expr} {scope : Scope} {pos : Pos} {cl : List (Str × Addr)} {xs : List Str} {N : Nat} {item : Nat → AV} {a D : Addr} {K : Nat → Obj → Prop} {xv : Value} {d : AV} {J : Nat → List AV → List (Addr × AO) → Prop}
    {loc : List (Str × Option AV)} {objs : List (Addr × AO)} {A : Around} {F : Fz} {s : Shared} (hA : Room n A) (hx : xs.Nodup) (hm : (xv, d) ∈ H)
    (X : Holds B.P B.G L F H ⟨loc, (D, .list []) :: (a, .is (K 0)) :: objs⟩ s.heap)
    (next : ∀ L' i loc objs H, i < N → (xv, d) ∈ H → W B n L' (pyNext (.ref a)) H ⟨loc, (a, .is (K i)) :: objs⟩ fun r F σ' => ∃ v, r = some v ∧ Is B.P F v (item i) ∧ σ' = ⟨loc, (a, .is (K (i + 1))) :: objs⟩)
    (stop : ∀ L' loc objs H, (xv, d) ∈ H → W B n L' (pyNext (.ref a)) H ⟨loc, (a, .is (K N)) :: objs⟩ fun r _ σ' => r = none ∧ σ' = ⟨loc, objs⟩)
    (self : ∀ L' loc objs H, W B n L' (pyIter (.ref a)) H ⟨loc, (a, .is (K 0)) :: objs⟩ fun r _ σ' => r = .ref a ∧ σ' = ⟨loc, (a, .is (K 0)) :: objs⟩)
    (h0 : J 0 [] objs) (step : ∀ i, i < N → CompStep B n target elt ifs (fun C => compEnvC scope cl C env) H xs (item i) (J i) (J (i + 1)))
    (hcell : ∀ y ∈ scope.names, y.2 ≠ .cell) (hkind : scope.kind = .function) (ht : ∀ it v, letOwnedTupleGo target it v = pure ()) :
    wpAny B.M A (newFunctionEnv scope env.globals cl [] env.qual none .none (some env)) (fun cenv s₄ =>
      codeAny B.M A (.compStart (.ListComp elt [⟨target, iter, ifs, 0⟩] scope pos) 0 (.ref a) (.ref D) { cenv with scope := relabel scope env }) (fun r s₅ => ∃ ys objs' F' m, r = .ok .next ∧ s₅.heap.Ns cenv.locals m ∧ J N ys objs' ∧
        Holds B.P B.G L F' H ⟨loc, (D, .list ys) :: objs'⟩ s₅.heap ∧ Pres (L :: owns ((D, AO.list []) :: (a, AO.is (K 0)) :: objs)) F s (L :: owns ((D, AO.list ys) :: objs')) F' s₅ ∧ cenv.locals ∉ L :: owns ((D, AO.list ys) :: objs') ∧ F' cenv.locals = none ∧ s.heap.get? cenv.locals = none) s₄) (fun _ _ => False) s := by
  refine wpAny_newFunctionEnv hcell (by intro y hy; simp at hy) (fun h₁ hns₁ hsb₁ => ?_) hkind
  have hC := get_size s.heap
  generalize hCe : s.heap.objs.size = C at *
  have up : ∀ b o, s.heap.get? b = some o → h₁.get? b = some o := fun b o e => hsb₁.extBut b o (fun z => by rw [z, hC] at e; cases e) (Heap.get?_push_of_some _ e)
  have big : B.G.objs.size ≤ C := hCe ▸ X.big
  have X₁ : Holds B.P B.G C F H ⟨bare xs, (D, .list []) :: (a, .is (K 0)) :: objs⟩ h₁ := X.call.enter hC big up ⟨_, hns₁, fun y d h => (bare_none h).elim⟩ (by rw [bare_keys]; exact hx) X.held
  -- the two in the other order
  have swap : ∀ {ys p objs}, ((D, AO.list ys) :: (a, AO.is p) :: objs).Perm (((a, AO.is p) :: (D, AO.list ys) :: objs) ++ []) := fun {ys p objs} => by rw [List.append_nil]; exact .swap _ _ _
  have swap' : ∀ {ys p objs}, ((a, AO.is p) :: (D, AO.list ys) :: objs).Perm (((D, AO.list ys) :: (a, AO.is p) :: objs) ++ []) := fun {ys p objs} => by rw [List.append_nil]; exact .swap _ _ _
  let I : Nat → Shared → Prop := fun k s' => ∃ i F' ys objs', k = N - i ∧ i ≤ N ∧ J i ys objs' ∧ Holds B.P B.G C F' H ⟨bare xs, (a, .is (K i)) :: (D, .list ys) :: objs'⟩ s'.heap ∧
    Pres (C :: owns ((D, AO.list []) :: (a, AO.is (K 0)) :: objs)) F { s with heap := h₁, toks := s.toks + ([] : List (Str × Value)).length } (C :: owns ((a, AO.is (K i)) :: (D, AO.list ys) :: objs')) F' s'
  let R : Result → Shared → Prop := fun r s₅ => ∃ ys objs' F' m, r = .ok .next ∧ s₅.heap.Ns C m ∧ J N ys objs' ∧
        Holds B.P B.G L F' H ⟨loc, (D, .list ys) :: objs'⟩ s₅.heap ∧ Pres (L :: owns ((D, AO.list []) :: (a, AO.is (K 0)) :: objs)) F s (L :: owns ((D, AO.list ys) :: objs')) F' s₅ ∧ C ∉ L :: owns ((D, AO.list ys) :: objs') ∧ F' C = none ∧ s.heap.get? C = none
  have forget : ∀ {F' loc' objs' h}, Holds B.P B.G C F' H ⟨loc', objs'⟩ h → Holds B.P B.G C F' H ⟨bare xs, objs'⟩ h := fun {F' loc' objs' h} x =>
    ⟨x.core, x.sub, let ⟨m, hm, _⟩ := x.loc; ⟨m, hm, fun y d h => (bare_none h).elim⟩, by rw [bare_keys]; exact hx, x.objs, x.nodup, x.apart, x.held, x.low⟩
  have loop : ∀ k s', I k s' → codeAny B.M A (.compLoop (.ListComp elt [⟨target, iter, ifs, 0⟩] scope pos) 0 (.ref a) (.ref D) (compEnvC scope cl C env)) R s' := fun k s' hI => by
    refine codeAny_compLoop_tests I (fun k s₂ hI => ?_) k hI (ht _)
    obtain ⟨i, F₂, ys, objs₂, rfl, hi, j, x₂, p₂⟩ := hI
    by_cases hN : i = N
    · subst hN
      refine wpAny_mono ((stop C _ _ _ hm).run A F₂ s₂ hA x₂) (fun r s₃ z => ?_) fun _ _ z => z.elim
      obtain ⟨F₃, σ₃, x₃, p₃, rfl, rfl⟩ := z
      have pp := p₂.trans p₃
      have nC : C ∉ owns ((D, AO.list ys) :: objs₂) := (List.nodup_cons.mp x₃.nodup).1
      have pl := Pres.leave (s := s) pp hC up (.refl _) rfl nC
      obtain ⟨y, py⟩ := X.back x₃.call pl
      obtain ⟨m, hm', _⟩ := x₃.loc
      refine ⟨ys, objs₂, F₃, m, rfl, hm', j, y, py, fun hm => ?_, x₃.apart _ (.head _), hC⟩
      rcases List.mem_cons.mp hm with rfl | hm
      · obtain ⟨o, ho⟩ := X.there C (.head _); rw [hC] at ho; cases ho
      · exact nC hm
    · have hlt : i < N := Nat.lt_of_le_of_ne hi hN
      refine wpAny_mono ((next C i _ _ _ hlt hm).run A F₂ s₂ hA x₂) (fun r s₃ z => ?_) fun _ _ z => z.elim
      obtain ⟨F₃, σ₃, x₃, p₃, v, rfl, hv, rfl⟩ := z
      have st := W_drop swap' (step i hlt C ys objs₂ D a (K (i + 1)) v j)
      refine wpAny_mono (st.run A F₃ s₃ hA (x₃.push hv)) (fun _ s₄ z => ?_) fun _ _ z => z.elim
      obtain ⟨F₄, σ₄, x₄, p₄, w⟩ := z
      refine wpAny_mono (w.run A F₄ s₄ hA (x₄.weaken fun _ hp => .tail _ hp)) (fun ok s₅ z => ?_) fun _ _ z => z.elim
      obtain ⟨F₅, σ₅, x₅, p₅, w1, w2⟩ := z
      have pp := p₂.trans (p₃.trans (p₄.trans p₅))
      cases ok with
      | false =>
        obtain ⟨loc', objs', rfl, j'⟩ := w2 rfl
        refine ⟨N - (i + 1), by omega, i + 1, F₅, ys, objs', rfl, hlt, j', (forget x₅).drop swap, ?_⟩
        exact pp.trans (other swap)
      | true =>
        refine wpAny_mono ((w1 rfl).run A F₅ s₅ hA x₅) (fun y s₆ z => ?_) fun _ _ z => z.elim
        obtain ⟨F₆, σ₆, x₆, p₆, e, he, loc', objs', rfl, hz, j'⟩ := z
        have app := B_append (B := B) (n := n) (L := C) (H := (y, e) :: (.ref D, .ref D) :: H) (σ := ⟨loc', (D, .list ys) :: (a, .is (K (i + 1))) :: objs'⟩) (v₀ := .ref D) (v := y) (d := e) (Φ := fun _ _ σ' => σ' = ⟨loc', (D, .list (ys ++ [e])) :: (a, .is (K (i + 1))) :: objs'⟩)
          (.tail _ (.head _)) (.head _) .head (by omega) rfl
        refine wpAny_mono (app.run A F₆ s₆ hA ((x₆.push (.ref D)).push he)) (fun _ s₇ z => ?_) fun _ _ z => z.elim
        obtain ⟨F₇, σ₇, x₇, p₇, _, _, rfl⟩ := z
        refine ⟨N - (i + 1), by omega, i + 1, F₇, ys ++ [e], objs', rfl, hlt, j', (forget (x₇.weaken fun _ hp => .tail _ (.tail _ hp))).drop swap, ?_⟩
        exact pp.trans (p₆.trans (p₇.trans (other swap)))
  have begin_ : I N { s with heap := h₁, toks := s.toks + ([] : List (Str × Value)).length } := ⟨0, F, [], objs, rfl, Nat.zero_le _, h0, X₁.drop swap, other swap⟩
  refine codeAny_compStart_list (loop _ _ begin_) ?_
  refine wpAny_mono ((W_drop swap (self C (bare xs) ((D, .list []) :: objs) H)).run A F _ hA X₁) (fun r s' z => ?_) fun _ _ z => z.elim
  obtain ⟨F₂, σ₂, x₂, p₂, rfl, rfl⟩ := z
  exact loop N s' ⟨0, F₂, [], objs, rfl, Nat.zero_le _, h0, x₂, p₂⟩
where
  other {C : Addr} {F : Fz} {s : Shared} {o o' : List (Addr × AO)} (h : o.Perm (o' ++ [])) : Pres (C :: owns o) F s (C :: owns o') F s := by
    rw [List.append_nil] at h
    have pe := owns_perm h
    refine ⟨fun _ _ _ e => e, fun b hb => .inl ?_, fun _ _ e => .inl e, .refl F, .refl _, rfl⟩
    rcases List.mem_cons.mp hb with rfl | hb
    · exact .head _
    · exact .tail _ (pe.mem_iff.mpr hb)
end
end
-- La18
section
section
variable {B : Base} {n : Nat} {L : Addr} {H : List (Value × AV)} {σ : St} {env : Env}
/-- a list comprehension with one clause, over something iterable -/
theorem E_comp {elt target iter : Expr} {ifs : List Expr} {scope : Scope} {pos : Pos} {cl : List (Str × Addr)} {Φ : Value → AV → St → Prop} (xs : List Str) (J : Nat → List AV → List (Addr × AO) → Prop)
    (h : WV B n L (eval iter env) H σ fun xv d σ₁ => ∃ N item, Iterable B n L xv d N item ∧ J 0 [] σ₁.objs ∧ (∀ i, i < N → CompStep B n target elt ifs (fun C => compEnvC scope cl C env) ((xv, d) :: H) xs (item i) (J i) (J (i + 1))) ∧
      ∀ ys objs D, J N ys objs → Φ (.ref D) (.ref D) ⟨σ₁.loc, (D, .list ys) :: objs⟩)
    (hclos : closureFor scope env = pure cl) (hx : xs.Nodup := by decide)
    (hcell : ∀ y ∈ scope.names, y.2 ≠ .cell := by decide) (hkind : scope.kind = .function := by rfl) (hnames : ∀ y ∈ scope.names, y.2 = .local → scope.names.lookup y.1 = some .local := by decide)
    (hs : ∀ x, foldedSetIterable iter env x = pure x := by intro _; rfl) (ht : ∀ it v, letOwnedTupleGo target it v = pure () := by intro _ _; rfl) :
    WV B n L (eval (.ListComp elt [⟨target, iter, ifs, 0⟩] scope pos) env) H σ Φ := W_of fun A F s hA X => by
  rw [eval_ListComp]
  refine wpAny_comprehension_free (use := none) rfl hs hclos hkind hnames (wpAny_mono (h.run A F s hA X) (fun xv s₁ z => ?_) fun _ _ z => z)
  obtain ⟨F₁, σ₁, x₁, p₁, d, hd, N, item, it, j0, step, fin⟩ := z
  refine wpAny_mono ((it _ σ₁ (.head _)).run A F₁ s₁ hA (x₁.push hd)) (fun r s₂ z => ?_) fun _ _ z => z
  obtain ⟨F₂, σ₂, x₂, p₂, a, K, rfl, rfl, next, stop, self⟩ := z
  refine wpAny_newObj_type ?_
  have T : After B L ((xv, d) :: H) ⟨σ₁.loc, (a, .is (K 0)) :: σ₁.objs⟩ F₂ s₂ { s₂ with heap := s₂.heap.push (lstObj [] 0) } (fun F' σ' => F' = F₂ ∧ σ' = ⟨σ₁.loc, (s₂.heap.objs.size, .list []) :: (a, .is (K 0)) :: σ₁.objs⟩) :=
    After.track (o := .list []) x₂ (fun b y e => Heap.get?_push_of_some _ e) (fun b hb => by rw [List.mem_singleton.mp hb]; exact get_size _) (by simp [AO.more]) ⟨[], 0, Heap.get?_push_size _ rfl, .nil⟩ rfl rfl ⟨rfl, rfl⟩
  obtain ⟨F₃, σ₃, x₃, p₃, rfl, rfl⟩ := T
  refine wpAny_mono (comp_core (elt := elt) (iter := iter) (scope := scope) (pos := pos) (cl := cl) (target := target) (ifs := ifs) (env := env) hA hx (.head _) x₃ next stop self j0 step hcell hkind ht) (fun cenv s₄ z => ?_) fun _ _ z => z.elim
  refine codeAny_mono z fun r s₅ z => ?_
  obtain ⟨ys, objs', F₅, m, rfl, hns, j, x₅, p₅, hC, hF, hCn⟩ := z
  refine ⟨m, hns, fun h' hs' => ?_⟩
  have p₂₃ := p₁.trans (p₂.trans p₃)
  refine ⟨F₅, _, (x₅.weaken fun _ hp => .tail _ hp).besides hF hC fun b o hb e => (hs'.2 b hb).trans e, p₂₃.trans ⟨fun b o hb e => (hs'.2 b (fun z => ?_)).trans (p₅.keep b o hb e), p₅.own, p₅.frz, p₅.mono, p₅.gens, p₅.os⟩, _, .ref _, fin ys objs' _ j⟩
  rw [z, hCn] at e; cases e
/-- the same, stored in a local of the same line: the store comes ahead of the frame's end -/
theorem S_assignComp {elt target iter : Expr} {ifs : List Expr} {scope : Scope} {pos p pos' : Pos} {cl : List (Str × Addr)} {x : Str} {Φ : Fl → St → Prop} (xs : List Str) (J : Nat → List AV → List (Addr × AO) → Prop)
    (h : WV B n L (eval iter env) H σ fun xv d σ₁ => ∃ N item, Iterable B n L xv d N item ∧ J 0 [] σ₁.objs ∧ (∀ i, i < N → CompStep B n target elt ifs (fun C => compEnvC scope cl C env) ((xv, d) :: H) xs (item i) (J i) (J (i + 1))) ∧
      ∀ ys objs D, J N ys objs → WU B n L (storeName env x (.ref D)) ((.ref D, .ref D) :: H) ⟨σ₁.loc, (D, .list ys) :: objs⟩ fun σ₂ => Φ .next σ₂)
    (hsw : swapsWith (.ListComp elt [⟨target, iter, ifs, 0⟩] scope pos) (some (.Name x p)) pos'.line env = pure true)
    (hclos : closureFor scope env = pure cl) (hx : xs.Nodup := by decide)
    (hcell : ∀ y ∈ scope.names, y.2 ≠ .cell := by decide) (hkind : scope.kind = .function := by rfl) (hnames : ∀ y ∈ scope.names, y.2 = .local → scope.names.lookup y.1 = some .local := by decide)
    (hs : ∀ x, foldedSetIterable iter env x = pure x := by intro _; rfl) (ht : ∀ it v, letOwnedTupleGo target it v = pure () := by intro _ _; rfl) :
    WF B n L (exec (.Assign [.Name x p] (.ListComp elt [⟨target, iter, ifs, 0⟩] scope pos) pos') env) H σ Φ := W_of fun A F s hA X => by
  rw [exec_Assign_Name_used _ _ _ _ hsw]
  refine wpAny_bind (wpAny_standAt (wpAny_bind ?_))
  show wpAny B.M A (comprehension (.ListComp elt [⟨target, iter, ifs, 0⟩] scope pos) scope env (firstIterPos [⟨target, iter, ifs, 0⟩] pos) (newList []) (firstAsync [⟨target, iter, ifs, 0⟩]) (firstIter [⟨target, iter, ifs, 0⟩] env) (some (assign (.Name x p) env)) >>= fun _ => pure ()) _ _ s
  refine wpAny_bind ?_
  refine wpAny_comprehension_free (use := some (assign (.Name x p) env)) rfl hs hclos hkind hnames (wpAny_mono (h.run A F s hA X) (fun xv s₁ z => ?_) fun _ _ z => z)
  obtain ⟨F₁, σ₁, x₁, p₁, d, hd, N, item, it, j0, step, fin⟩ := z
  refine wpAny_mono ((it _ σ₁ (.head _)).run A F₁ s₁ hA (x₁.push hd)) (fun r s₂ z => ?_) fun _ _ z => z
  obtain ⟨F₂, σ₂, x₂, p₂, a, K, rfl, rfl, next, stop, self⟩ := z
  refine wpAny_newObj_type ?_
  have T : After B L ((xv, d) :: H) ⟨σ₁.loc, (a, .is (K 0)) :: σ₁.objs⟩ F₂ s₂ { s₂ with heap := s₂.heap.push (lstObj [] 0) } (fun F' σ' => F' = F₂ ∧ σ' = ⟨σ₁.loc, (s₂.heap.objs.size, .list []) :: (a, .is (K 0)) :: σ₁.objs⟩) :=
    After.track (o := .list []) x₂ (fun b y e => Heap.get?_push_of_some _ e) (fun b hb => by rw [List.mem_singleton.mp hb]; exact get_size _) (by simp [AO.more]) ⟨[], 0, Heap.get?_push_size _ rfl, .nil⟩ rfl rfl ⟨rfl, rfl⟩
  obtain ⟨F₃, σ₃, x₃, p₃, rfl, rfl⟩ := T
  refine wpAny_mono (comp_core (elt := elt) (iter := iter) (scope := scope) (pos := pos) (cl := cl) (target := target) (ifs := ifs) (env := env) hA hx (.head _) x₃ next stop self j0 step hcell hkind ht) (fun cenv s₄ z => ?_) fun _ _ z => z.elim
  refine codeAny_mono z fun r s₅ z => ?_
  obtain ⟨ys, objs', F₅, m, rfl, hns, j, x₅, p₅, hC, hF, hCn⟩ := z
  have p₂₃ := p₁.trans (p₂.trans p₃)
  have hold := ((x₅.weaken (H' := H) fun _ hp => .tail _ hp)).push (.ref s₂.heap.objs.size)
  refine wpAny_mono ((G_name (p := p) (fin ys objs' _ j)).run A F₅ s₅ hA hold) (fun _ s₆ z => ?_) fun _ _ z => z
  obtain ⟨F₆, σ₆, x₆, p₆, q⟩ := z
  obtain ⟨oC, es, ep, e1, r⟩ := hns
  have keepC := p₆.keep cenv.locals _ hC e1
  refine ⟨m, ⟨oC, es, ep, keepC, r⟩, fun h' hs' => wpAny_pure (wpAny_pure ?_)⟩
  have hF6 : F₆ cenv.locals = none := by
    cases w : F₆ cenv.locals with
    | none => rfl
    | some o =>
      rcases p₆.frz _ _ w with z | z | z
      · rw [hF] at z; cases z
      · exact absurd z hC
      · rw [e1] at z; cases z
  have hC6 : cenv.locals ∉ L :: owns σ₆.objs := fun hm => by
    rcases p₆.own _ hm with z | z
    · exact hC z
    · rw [e1] at z; cases z
  have pr := p₅.trans p₆
  refine ⟨F₆, σ₆, (x₆.weaken fun _ hp => .tail _ hp).besides hF6 hC6 fun b o hb e => (hs'.2 b hb).trans e, p₂₃.trans ⟨fun b o hb e => (hs'.2 b (fun z => ?_)).trans (pr.keep b o hb e), pr.own, pr.frz, pr.mono, pr.gens, pr.os⟩, .next, trivial, q⟩
  rw [z, hCn] at e; cases e
end
end
-- La19
section
noncomputable def zipLoc : List Str → List AV → List (Str × Option AV)
  | x :: xs, d :: ds => (x, some d) :: zipLoc xs ds
  | _, _ => []
theorem zipLoc_keys : ∀ {ps : List Str} {ds : List AV}, ps.length = ds.length → (zipLoc ps ds).map (·.1) = ps
  | [], [], _ => rfl
  | _ :: _, _ :: _, h => by rw [zipLoc, List.map_cons, zipLoc_keys (Nat.succ.inj h)]
theorem lookup_rev {x : Str} {v : Value} : ∀ {l : List (Str × Value)}, (l.map (·.1)).Nodup → (x, v) ∈ l → l.reverse.lookup x = some v
  | (y, w) :: r, n, h => by
    rw [List.map_cons, List.nodup_cons] at n
    rw [List.reverse_cons, List.lookup_append]
    cases h with
    | head =>
      have : r.reverse.lookup x = none := by
        rw [List.lookup_eq_none_iff]
        intro p hp
        refine bne_iff_ne.mpr fun e => n.1 ?_
        exact List.mem_map.mpr ⟨p, List.mem_reverse.mp hp, e.symm⟩
      rw [this]; simp
    | tail _ h => rw [lookup_rev n.2 h]; rfl
theorem zip_facts {P : Params} {F : Fz} {x : Str} {d : AV} : ∀ {ps : List Str} {vals : List Value} {ds : List AV}, IsAll P F vals ds → (x, some d) ∈ zipLoc ps ds → ∃ v, (x, v) ∈ ps.zip vals ∧ Is P F v d
  | _ :: _, _, _, .cons h r, m => by
    rw [zipLoc] at m
    cases m with
    | head => exact ⟨_, .head _, h⟩
    | tail _ m => obtain ⟨v, a, b⟩ := zip_facts r m; exact ⟨v, .tail _ a, b⟩
  | [], _, _, _, m => by cases ‹List AV› <;> cases m
theorem zip_keys {ps : List Str} : ∀ {vals : List Value}, ((ps.zip vals).map (·.1)).Sublist ps := by
  induction ps with
  | nil => intro vals; cases vals <;> exact .slnil
  | cons p r ih =>
    intro vals
    cases vals with
    | nil => exact List.nil_sublist _
    | cons v vs => exact (ih (vals := vs)).cons_cons p

section
variable {B : Base} {n : Nat} {objs : List (Addr × AO)}
noncomputable def Binds (B : Base) (fd : FuncData) (ps : List Str) (args ds : List AV) : Prop :=
  ∀ (F : Fz) (s : Shared) (vs : List Value), IsAll B.P F vs args → B.K.In s.heap → (∀ b o, B.G.get? b = some o → F b = some o) → ∃ vals, IsAll B.P F vals ds ∧ BindsTo s fd ⟨vs, []⟩ (ps.zip vals)
theorem Binds.one {fd : FuncData} {p1 : Str} {d1 : AV} (h : ∀ v1, bindArgs fd ⟨[v1], []⟩ = pure [(p1, v1)]) : Binds B fd [p1] [d1] [d1] := fun F s vs hv _ _ => by
  cases hv with | cons q1 r => cases r with | nil => exact ⟨_, .cons q1 .nil, .of_eq (h _)⟩
theorem Binds.two {fd : FuncData} {p1 p2 : Str} {d1 d2 : AV} (h : ∀ v1 v2, bindArgs fd ⟨[v1, v2], []⟩ = pure [(p1, v1), (p2, v2)]) : Binds B fd [p1, p2] [d1, d2] [d1, d2] := fun F s vs hv _ _ => by
  cases hv with | cons q1 r => cases r with | cons q2 r => cases r with | nil => exact ⟨_, .cons q1 (.cons q2 .nil), .of_eq (h _ _)⟩
theorem Binds.three {fd : FuncData} {p1 p2 p3 : Str} {d1 d2 d3 : AV} (h : ∀ v1 v2 v3, bindArgs fd ⟨[v1, v2, v3], []⟩ = pure [(p1, v1), (p2, v2), (p3, v3)]) : Binds B fd [p1, p2, p3] [d1, d2, d3] [d1, d2, d3] := fun F s vs hv _ _ => by
  cases hv with | cons q1 r => cases r with | cons q2 r => cases r with | cons q3 r => cases r with | nil => exact ⟨_, .cons q1 (.cons q2 (.cons q3 .nil)), .of_eq (h _ _ _)⟩
/-- one given, one by default -/
theorem Binds.dflt {fd : FuncData} {p1 p2 : Str} {d1 d2 : AV} {T : Addr} {o : Obj} {w : Value} {m : Nat} {k : Value → Option (Array Value) → Sem (List (Str × Value))} (hd : fd.defaults = .ref T) (ho : B.K.lookup T = some o) (hs : o.data = .seq #[w] m)
    (h₁ : ∀ v1, bindArgs fd ⟨[v1], []⟩ = seqItems? fd.defaults >>= k v1) (h₂ : ∀ v1, k v1 (some #[w]) = pure [(p1, v1), (p2, w)]) (c : CoreIs B w d2) : Binds B fd [p1, p2] [d1] [d1, d2] := fun F s vs hv X core => by
  cases hv with | cons q1 r => cases r with | nil => exact ⟨_, .cons q1 (.cons (c F core) .nil), .of_defaults hd (X _ _ ho) hs (h₁ _) (h₂ _)⟩
/-- two given, one by default -/
theorem Binds.dflt3 {fd : FuncData} {p1 p2 p3 : Str} {d1 d2 d3 : AV} {T : Addr} {o : Obj} {w : Value} {m : Nat} {k : Value → Value → Option (Array Value) → Sem (List (Str × Value))} (hd : fd.defaults = .ref T) (ho : B.K.lookup T = some o) (hs : o.data = .seq #[w] m)
    (h₁ : ∀ v1 v2, bindArgs fd ⟨[v1, v2], []⟩ = seqItems? fd.defaults >>= k v1 v2) (h₂ : ∀ v1 v2, k v1 v2 (some #[w]) = pure [(p1, v1), (p2, v2), (p3, w)]) (c : CoreIs B w d3) : Binds B fd [p1, p2, p3] [d1, d2] [d1, d2, d3] := fun F s vs hv X core => by
  cases hv with | cons q1 r => cases r with | cons q2 r => cases r with | nil => exact ⟨_, .cons q1 (.cons q2 (.cons (c F core) .nil)), .of_defaults hd (X _ _ ho) hs (h₁ _ _) (h₂ _ _)⟩

/-- a def without cells of its own -/
theorem C_fn {name qual : Str} {params : Arguments} {body : List Stmt} {scope : Scope} {dV kV doc pm cdv ct oc : Value} {an od : Option Addr} {osl : Array (Option Value)} {f : Addr} {args ds : List AV} {Φ : AV → List (Addr × AO) → Prop} {loc : List (Str × Option AV)} (ps xs : List Str)
    (ho : B.K.lookup f = some ⟨oc, od, .func (fnOf name qual params body scope dV kV doc pm an cdv ct), osl⟩) (hcd : codeIn B.K cdv qual = true)
    (hb : Binds B (fnOf name qual params body scope dV kV doc pm an cdv ct) ps args ds) (h : ∀ L, WF B n L (execs body (envOf qual scope L f cdv)) [] ⟨loc, objs⟩ (BackJ Φ))
    (hloc : zipLoc ps ds ++ bare xs = loc := by simp only [zipLoc, bare, List.map_cons, List.map_nil, List.cons_append, List.nil_append]; rfl) (hl : ps.length = ds.length := by rfl) (hn : (ps ++ xs).Nodup := by decide) (hps : ps.all (fun y => scope.names.lookup y == some .local) = true := by rfl)
    (hco : scope.isCoroutine = false := by rfl) (hgen : scope.isGenerator = false := by rfl) (hk : scope.kind = .function := by rfl) (hcell : ∀ x ∈ scope.names, x.2 ≠ .cell := by decide) : CallJ B (n + 1) f args objs Φ := by
  subst hloc
  refine C_def (loc := zipLoc ps ds ++ bare xs) ho hcd (fun F s vs hvs X core => ?_) (by rw [List.map_append, zipLoc_keys hl, bare_keys]; exact hn) h hco hgen hk hcell
  obtain ⟨vals, hv, hbind⟩ := hb F s vs hvs X core
  have sub : ((ps.zip vals).map (·.1)).Nodup := (zip_keys).nodup (List.nodup_append.mp hn).1
  refine ⟨_, hbind, fun y hy => ?_, fun y d hy => ?_⟩
  · exact beq_iff_eq.mp (List.all_eq_true.mp hps y.1 (zip_keys.subset (List.mem_map_of_mem hy)))
  · rcases List.mem_append.mp hy with hy | hy
    · obtain ⟨v, hv, q⟩ := zip_facts hv hy
      exact ⟨v, lookup_rev sub hv, q⟩
    · exact (bare_none hy).elim
end
end
-- La21a
section
theorem eqv_int (a b : Int) : PyData.eqv (.int a) (.int b) = decide (a = b) := by
  first | rfl | (simp [PyData.eqv]; done) | (unfold PyData.eqv; simp)
section
variable {B : Base} {n : Nat} {L : Addr} {H : List (Value × AV)} {σ : St} {env : Env}
noncomputable def intsOf : List AV → Option (List Int)
  | [] => some []
  | .int i :: r => (intsOf r).map (i :: ·)
  | _ => none
theorem intsOf_data : ∀ {l : List AV} {ks : List Int}, intsOf l = some ks → dataAll l = some (ks.map .int)
  | [], _, e => by cases e; rfl
  | d :: r, ks, e => by
    cases d <;> try (simp [intsOf] at e; done)
    rename_i i
    simp only [intsOf, Option.map_eq_some_iff] at e
    obtain ⟨ks, e, rfl⟩ := e
    simp only [dataAll, dataOf, intsOf_data e, List.map_cons]
theorem lay_ints : ∀ ks : List Int, PyData.canLayAll0 (ks.map .int) = true
  | [] => rfl
  | k :: r => by simp only [List.map_cons, PyData.canLayAll0, PyData.canLay0, lay_ints r, Bool.and_true]
theorem any_ints (i : Int) : ∀ ks : List Int, ((ks.map PyData.int).any fun y => PyData.eqv y (.int i)) = decide (i ∈ ks)
  | [] => (decide_eq_false (nomatch ·)).symm
  | k :: r => by
    rw [List.map_cons, List.any_cons, any_ints i r, eqv_int, Bool.eq_iff_iff, Bool.or_eq_true, decide_eq_true_iff, decide_eq_true_iff, decide_eq_true_iff, List.mem_cons]
    exact ⟨fun h => h.imp_left Eq.symm, fun h => h.imp_left Eq.symm⟩
theorem O_inI {a b : Value} {i : Int} {l : List AV} {ks : List Int} {Φ : Value → AV → St → Prop} (ma : (a, .int i) ∈ H) (mb : (b, .tup l) ∈ H) (e : intsOf l = some ks) (h : ∀ v, Φ v (.bool (decide (i ∈ ks))) σ) : WV B n L (compareOp .In a b) H σ Φ :=
  O_inTD ma mb rfl (intsOf_data e) rfl (lay_ints ks) (by simp [PyData.depth]) (any_ints i ks) h

/-! ### chains of two comparisons, and or/and of more than two -/
theorem E_compare2 {l m r : Expr} {op op' pos} {Φ : Value → AV → St → Prop}
    (h : WV B n L (eval l env) H σ fun a x σ₁ => WV B n L (eval m env) ((a, x) :: H) σ₁ fun b y σ₂ => WV B n L (compareOp op a b) ((b, y) :: (a, x) :: H) σ₂ fun _ z σ₃ => ∃ c, z = .bool c ∧ (c = false → ∀ v, Φ v (.bool false) σ₃) ∧
      (c = true → WV B n L (eval r env) ((b, y) :: (a, x) :: H) σ₃ fun d w σ₄ => WV B n L (compareOp op' b d) ((d, w) :: (b, y) :: (a, x) :: H) σ₄ Φ))
    (hm : markedEach [op, op'] [m, r] (evalEach [m, r] env) = [eval m env, eval r env] := by with_unfolding_all rfl) : WV B n L (eval (.Compare l [op, op'] [m, r] pos) env) H σ Φ := by
  rw [arm_eval_Compare, hm]
  refine W_bindV (W_monoV h fun a x σ₁ w => ?_)
  show W B n L (do
    let rv ← holding [a] (eval m env)
    standAt pos
    let c ← holding [a, rv] (compareOp op a rv)
    release [a, rv] [c]
    if ← holding [c, rv] (truthy c) then compareChain pos rv [op'] [eval r env] else pure c) ((a, x) :: H) σ₁ _
  refine W_bindV (W_holding (W_monoV w fun b y σ₂ w => W_standB (W_bindV (W_holding (W_monoV w fun c z σ₃ ⟨k, e, q0, q1⟩ => ?_)))))
  subst e
  refine W_release (W_bindB (W_holding (T_bool (.head _) ?_)))
  cases k with
  | false => exact W_retV (.head _) (q0 rfl _)
  | true =>
    refine W_dropV ?_
    show W B n L (do
      let rv ← holding [b] (eval r env)
      standAt pos
      operate [b, rv] (compareOp op' b rv)) _ _ _
    exact W_bindV (W_holding (W_monoV (q1 rfl) fun d w σ₄ w => W_standB (W_operate w)))
/-- two comparisons of bools, the second without a mark on the state -/
theorem E_between {l m r : Expr} {op op' pos} {Φ : Value → AV → St → Prop}
    (h : WV B n L (eval l env) H σ fun a x σ₁ => WV B n L (eval m env) ((a, x) :: H) σ₁ fun b y σ₂ => WV B n L (compareOp op a b) ((b, y) :: (a, x) :: H) σ₂ fun _ z σ₃ => ∃ c c', z = .bool c ∧
      WV B n L (eval r env) ((b, y) :: (a, x) :: H) σ₃ (fun d w σ₄ => WV B n L (compareOp op' b d) ((d, w) :: (b, y) :: (a, x) :: H) σ₄ fun _ z σ₅ => z = .bool c' ∧ σ₅ = σ₃) ∧ ∀ v, Φ v (.bool (c && c')) σ₃)
    (hm : markedEach [op, op'] [m, r] (evalEach [m, r] env) = [eval m env, eval r env] := by with_unfolding_all rfl) : WV B n L (eval (.Compare l [op, op'] [m, r] pos) env) H σ Φ :=
  E_compare2 (W_monoV h fun a x σ₁ w => W_monoV w fun b y σ₂ w => W_monoV w fun _ z σ₃ ⟨c, c', e, w, q⟩ => ⟨c, e, fun hc v => by subst hc; exact q v, fun hc => by
    subst hc
    exact W_monoV w fun d w σ₄ q₄ => W_monoV q₄ fun v z σ₅ ⟨e, e'⟩ => by subst e e'; exact q v⟩) hm
theorem E_bool0 {op : BoolOp} {values : List Expr} {pos} {Φ : Value → AV → St → Prop} (h : WV B n L (boolOp pos op (evalEach values env)) H σ Φ) : WV B n L (eval (.BoolOp op values pos) env) H σ Φ := h
theorem E_boolL {op : BoolOp} {x : Expr} {pos} {Φ : Value → AV → St → Prop} (h : WV B n L (eval x env) H σ Φ) : WV B n L (boolOp pos op (evalEach [x] env)) H σ Φ := h
theorem E_orC {x y : Expr} {rest : List Expr} {pos} {Φ : Value → AV → St → Prop}
    (h : WV B n L (eval x env) H σ fun v d σ₁ => WB B n L (truthy v) ((v, d) :: H) σ₁ fun c σ₂ => (c = true → Φ v d σ₂) ∧ (c = false → WV B n L (boolOp pos .Or (evalEach (y :: rest) env)) H σ₂ Φ)) :
    WV B n L (boolOp pos .Or (evalEach (x :: y :: rest) env)) H σ Φ := by
  show W B n L (do
    let v ← eval x env
    standAt pos
    let t ← holding [v] (truthy v)
    match BoolOp.Or, t with
    | .And, false | .Or, true => pure v
    | _, _ => boolOp pos .Or (evalEach (y :: rest) env)) H σ _
  refine W_bindV (W_monoV h fun v d σ₁ w => W_standB (W_bindB (W_holding (W_monoB w fun c σ₂ q => ?_))))
  cases c with
  | false => exact W_dropV (q.2 rfl)
  | true => exact W_retV (.head _) (q.1 rfl)
theorem E_andC {x y : Expr} {rest : List Expr} {pos} {Φ : Value → AV → St → Prop}
    (h : WV B n L (eval x env) H σ fun v d σ₁ => WB B n L (truthy v) ((v, d) :: H) σ₁ fun c σ₂ => (c = false → Φ v d σ₂) ∧ (c = true → WV B n L (boolOp pos .And (evalEach (y :: rest) env)) H σ₂ Φ)) :
    WV B n L (boolOp pos .And (evalEach (x :: y :: rest) env)) H σ Φ := by
  show W B n L (do
    let v ← eval x env
    standAt pos
    let t ← holding [v] (truthy v)
    match BoolOp.And, t with
    | .And, false | .Or, true => pure v
    | _, _ => boolOp pos .And (evalEach (y :: rest) env)) H σ _
  refine W_bindV (W_monoV h fun v d σ₁ w => W_standB (W_bindB (W_holding (W_monoB w fun c σ₂ q => ?_))))
  cases c with
  | true => exact W_dropV (q.2 rfl)
  | false => exact W_retV (.head _) (q.1 rfl)
/-- an `or` of bools: what comes of it -/
theorem E_orB {x y : Expr} {rest : List Expr} {pos} {Φ : Value → AV → St → Prop}
    (h : WV B n L (eval x env) H σ fun _ d σ₁ => ∃ c, d = .bool c ∧ (c = true → ∀ v, Φ v (.bool true) σ₁) ∧ (c = false → WV B n L (boolOp pos .Or (evalEach (y :: rest) env)) H σ₁ Φ)) :
    WV B n L (boolOp pos .Or (evalEach (x :: y :: rest) env)) H σ Φ :=
  E_orC (W_monoV h fun v d σ₁ ⟨c, e, q1, q2⟩ => by
    subst e
    exact T_bool (.head _) ⟨fun hc => by subst hc; exact q1 rfl v, q2⟩)
theorem E_andB {x y : Expr} {rest : List Expr} {pos} {Φ : Value → AV → St → Prop}
    (h : WV B n L (eval x env) H σ fun _ d σ₁ => ∃ c, d = .bool c ∧ (c = false → ∀ v, Φ v (.bool false) σ₁) ∧ (c = true → WV B n L (boolOp pos .And (evalEach (y :: rest) env)) H σ₁ Φ)) :
    WV B n L (boolOp pos .And (evalEach (x :: y :: rest) env)) H σ Φ :=
  E_andC (W_monoV h fun v d σ₁ ⟨c, e, q1, q2⟩ => by
    subst e
    exact T_bool (.head _) ⟨fun hc => by subst hc; exact q1 rfl v, q2⟩)
end
end
-- La20
section
inductive PutL (x : Str) (d : AV) : List (Str × AV) → List (Str × AV) → Prop
  | hit {e r} : PutL x d ((x, e) :: r) ((x, d) :: r)
  | skip {y e r r'} : (y == x) = false → PutL x d r r' → PutL x d ((y, e) :: r) ((y, e) :: r')
  | new : PutL x d [] [(x, d)]
theorem PutL.eq {x : Str} {d : AV} : ∀ {l l' : List (Str × AV)}, PutL x d l l' → putF x d l = l'
  | _, _, .hit => by unfold putF; rw [if_pos (beq_self_eq_true _)]
  | _, _, .skip h r => by unfold putF; rw [if_neg (by rw [h]; exact Bool.false_ne_true), r.eq]
  | _, _, .new => rfl

inductive GetL (x : Str) (d : AV) : List (Str × AV) → Prop
  | hit {r} : GetL x d ((x, d) :: r)
  | skip {y e r} : (y == x) = false → GetL x d r → GetL x d ((y, e) :: r)
theorem GetL.eq {x : Str} {d : AV} : ∀ {l : List (Str × AV)}, GetL x d l → getF x l = some d
  | _, .hit => by simp [getF]
  | _, .skip h r => by have := r.eq; unfold getF at this ⊢; rw [List.find?_cons]; dsimp only; rw [h]; exact this

section
variable {B : Base} {n : Nat} {L : Addr} {H : List (Value × AV)} {σ : St} {env : Env}
/-- the statements behind -/
noncomputable def ThenF (B : Base) (n : Nat) (L : Addr) (rest : List Stmt) (env : Env) (H : List (Value × AV)) (Φ : Fl → St → Prop) : Fl → St → Prop
  | .next, σ => WF B n L (execs rest env) H σ Φ
  | .brk, σ => Φ .brk σ
  | .cont, σ => Φ .cont σ
  | .ret d, σ => Φ (.ret d) σ
theorem S_seq {st : Stmt} {rest : List Stmt} {Φ : Fl → St → Prop} (h : WF B n L (exec st env) H σ (ThenF B n L rest env H Φ)) : WF B n L (execs (st :: rest) env) H σ Φ :=
  S_cons (W_monoF h fun f σ q => by cases f <;> exact q)
theorem N_back {Φ : AV → List (Addr × AO) → Prop} {d : AV} {loc : List (Str × Option AV)} {objs : List (Addr × AO)} (h : Φ d objs) : BackJ Φ (.ret d) ⟨loc, objs⟩ := h
theorem N_backN {Φ : AV → List (Addr × AO) → Prop} {loc : List (Str × Option AV)} {objs : List (Addr × AO)} (h : Φ .none objs) : BackJ Φ .next ⟨loc, objs⟩ := h
theorem N_loopN {J : St → Prop} {Φ : Fl → St → Prop} (h : J σ) : LoopEnd J Φ .next σ := h
theorem N_loopB {J : St → Prop} {Φ : Fl → St → Prop} (h : Φ .next σ) : LoopEnd J Φ .brk σ := h
theorem V_put {x : Str} {v : Value} {d : AV} {loc loc' : List (Str × Option AV)} {objs : List (Addr × AO)} {Φ : St → Prop} (md : (v, d) ∈ H) (m : SetL x d loc loc') (h : Φ ⟨loc', objs⟩) (hl : env.kindOf x = some .local := by kernel_rfl)
    (hL : env.locals = L := by rfl) (hp : (env.scope.kind == .class || (env.scope.kind == .module && env.locals != env.globals)) = false := by rfl) : WU B n L (storeName env x v) H ⟨loc, objs⟩ Φ := V_store (σ := ⟨loc, objs⟩) md m h hl hL hp
theorem A_got {x : Addr} {C dx : Addr} {fs : List (Str × AV)} {name : Str} {expr : Bool} {v₀ : Value} {d : AV} {Φ : Value → AV → St → Prop} (mv : (v₀, .ref x) ∈ H) (m : (x, AO.inst C dx fs) ∈ σ.objs) (hf : GetL name d fs) (ho : ownName B.K C name = true)
    (hd : handedAV d = true) (h : ∀ v, Φ v d σ) : WV B n L (getAttr v₀ name expr) H σ Φ := A_get mv m ho hf.eq hd h
theorem A_put {x : Addr} {C dx : Addr} {fs fs' : List (Str × AV)} {name : Str} {v₀ v : Value} {d : AV} {loc : List (Str × Option AV)} {objs objs' : List (Addr × AO)} {Φ : St → Prop} (mv : (v₀, .ref x) ∈ H) (md : (v, d) ∈ H) (mx : (x, AO.inst C dx fs) ∈ objs) (hp : PutL name d fs fs')
    (m : Chg x (.inst C dx fs) (.inst C dx fs') objs objs') (ho : ownStore B.K C name = true) (hz : fs.length ≤ 900 := by simp) (h : Φ ⟨loc, objs'⟩) : WU B n L (setAttr v₀ name v) H ⟨loc, objs⟩ Φ := by
  obtain rfl := hp.eq
  exact A_set (σ := ⟨loc, objs⟩) mv md m ho hz h
theorem W_callC {m : Nat} {f : Addr} {vs : List Value} {ds : List AV} {loc : List (Str × Option AV)} {objs : List (Addr × AO)} {Φ : Value → AV → St → Prop} {Φ₀ : AV → List (Addr × AO) → Prop} (c : CallJ B m f ds objs Φ₀) (hm : m ≤ n) (e : vs.length = ds.length) (k : ∀ p ∈ vs.zip ds, p ∈ H)
    (h : ∀ d objs', Φ₀ d objs' → ∀ v, Φ v d ⟨loc, objs'⟩) : WV B n L (call (.ref f) vs) H ⟨loc, objs⟩ Φ := W_callJ (σ := ⟨loc, objs⟩) e k ((c.room hm).mono fun d o q v => h d o q v)
theorem W_norm {f : Value} {first vs l : List Value} {ds : List AV} {H' : List (Value × AV)} {Φ : Value → AV → St → Prop} (e : first ++ vs = l) (eh : vs.zip ds ++ H = H') (h : WV B n L (call f l) H' σ Φ) : WV B n L (call f (first ++ vs)) (vs.zip ds ++ H) σ Φ := by subst e eh; exact h
theorem held_nil {H : List (Value × AV)} : ∀ p ∈ ([] : List Value).zip ([] : List AV), p ∈ H := fun _ hp => nomatch hp
theorem held_cons {H : List (Value × AV)} {v : Value} {d : AV} {vs : List Value} {ds : List AV} (h : (v, d) ∈ H) (r : ∀ p ∈ vs.zip ds, p ∈ H) : ∀ p ∈ (v :: vs).zip (d :: ds), p ∈ H := fun p hp => by
  rw [List.zip_cons_cons] at hp
  rcases List.mem_cons.mp hp with rfl | hp
  · exact h
  · exact r p hp
end

/-- the signs of a text -/
noncomputable def sg (s : String) : List Nat := (Str.ofString s).cps.toList
theorem sg_eq (s : String) : Str.ofString s = S (sg s) := by unfold sg S; cases Str.ofString s; rfl
theorem lit_nl : Str.ofString "\n" = S [10] := by kernel_rfl
theorem lit_emp : Str.ofString "" = S [] := by kernel_rfl
theorem lit_crnl : Str.ofString "\r\n" = S [13, 10] := by kernel_rfl
theorem lit_cr : Str.ofString "\r" = S [13] := by kernel_rfl
theorem lit_nul : Str.ofString "\x00" = S [0] := by kernel_rfl
theorem lit_rep : Str.ofString "\ufffd" = S [65533] := by kernel_rfl
/-! ### goals with a key -/
noncomputable def Go {α : Type} (_ : α) (p : Prop) : Prop := p
noncomputable def GoT {α : Type} (_ : α) (p : Prop) : Prop := p
noncomputable def GoS {α : Type} (_ : α) (p : Prop) : Prop := p
noncomputable def GoB {α : Type} (_ : α) (p : Prop) : Prop := p
noncomputable def GoF {α : Type} (_ : α) (p : Prop) : Prop := p
noncomputable def GoA {α : Type} (_ : α) (p : Prop) : Prop := p
noncomputable def GoO {α : Type} (_ : α) (p : Prop) : Prop := p
noncomputable def GoX {α : Type} (_ : α) (p : Prop) : Prop := p
noncomputable def GoP {α : Type} (_ : α) (p : Prop) : Prop := p
noncomputable def GoV {α : Type} (_ : α) (p : Prop) : Prop := p
noncomputable def GoW {α : Type} (_ : α) (p : Prop) : Prop := p
noncomputable def GoC {α : Type} (_ : α) (p : Prop) : Prop := p
noncomputable def GoR {α : Type} (_ : α) (p : Prop) : Prop := p
noncomputable def GoI {α : Type} (_ : α) (p : Prop) : Prop := p
noncomputable def nodupB : List Str → Bool
  | [] => true
  | x :: r => r.all (fun y => !(y == x)) && nodupB r
theorem nodupB_nd : ∀ {l : List Str}, nodupB l = true → l.Nodup
  | [], _ => List.nodup_nil
  | x :: r, h => by
    simp only [nodupB, Bool.and_eq_true, List.all_eq_true, Bool.not_eq_true', beq_eq_false_iff_ne] at h
    exact List.nodup_cons.mpr ⟨fun m => h.1 x m rfl, nodupB_nd h.2⟩
/-- a display whose keys are apart -/
noncomputable def GoN (l : List (Str × AV)) (p : Prop) : Prop := (l.map (·.1)).Nodup ∧ p
theorem g_nd {l : List (Str × AV)} {p : Prop} (e : nodupB (l.map (·.1)) = true) (h : p) : GoN l p := ⟨nodupB_nd e, h⟩
inductive Op | get | set | store | load | meth | callw | callm | methO | call | tail | truth | test | assign
/-- two ways on -/
noncomputable def Br (b : Bool) (p q : Prop) : Prop := (b = true → p) ∧ (b = false → q)
theorem Br_true {p q : Prop} (h : p) : Br true p q := ⟨fun _ => h, fun e => nomatch e⟩
theorem Br_false {p q : Prop} (h : q) : Br false p q := ⟨(fun e => nomatch e), fun _ => h⟩
theorem Br_of {b : Bool} {p q : Prop} (h : b = true → p) (k : b = false → q) : Br b p q := ⟨h, k⟩
theorem Br_yes {b : Bool} {p q : Prop} (e : b = true) (h : p) : Br b p q := e ▸ Br_true h
theorem Br_no {b : Bool} {p q : Prop} (e : b = false) (h : q) : Br b p q := e ▸ Br_false h
section
variable {B : Base} {n : Nat} {L : Addr} {H : List (Value × AV)} {σ : St} {env : Env}

/- statements -/
theorem g_nil {Φ : Fl → St → Prop} (h : Φ .next σ) : GoB ([] : List Stmt) (WF B n L (execs [] env) H σ Φ) := S_nil h
theorem g_seq {st : Stmt} {rest : List Stmt} {Φ : Fl → St → Prop} (h : GoS st (WF B n L (exec st env) H σ fun f σ => GoF f (ThenF B n L rest env H Φ f σ))) : GoB (st :: rest) (WF B n L (execs (st :: rest) env) H σ Φ) := S_seq h
theorem g_next {rest : List Stmt} {Φ : Fl → St → Prop} (h : GoB rest (WF B n L (execs rest env) H σ Φ)) : GoF Fl.next (ThenF B n L rest env H Φ .next σ) := h
theorem g_ret {rest : List Stmt} {Φ : Fl → St → Prop} {d : AV} (h : Φ (.ret d) σ) : GoF (Fl.ret d) (ThenF B n L rest env H Φ (.ret d) σ) := h
theorem g_brk {rest : List Stmt} {Φ : Fl → St → Prop} (h : Φ .brk σ) : GoF Fl.brk (ThenF B n L rest env H Φ .brk σ) := h
theorem g_cont {rest : List Stmt} {Φ : Fl → St → Prop} (h : Φ .cont σ) : GoF Fl.cont (ThenF B n L rest env H Φ .cont σ) := h
theorem g_break {pos} {Φ : Fl → St → Prop} (h : Φ .brk σ) : GoS (Stmt.Break pos) (WF B n L (exec (.Break pos) env) H σ Φ) := S_break h
theorem g_continue {pos} {Φ : Fl → St → Prop} (h : Φ .cont σ) : GoS (Stmt.Continue pos) (WF B n L (exec (.Continue pos) env) H σ Φ) := S_continue h
theorem g_return {e : Expr} {pos} {Φ : Fl → St → Prop} (h : Go e (WV B n L (eval e env) H σ fun _ d σ₁ => Φ (.ret d) σ₁)) : GoS (Stmt.Return (some e) pos) (WF B n L (exec (.Return (some e) pos) env) H σ Φ) := S_return h
theorem g_if {t : Expr} {body orelse : List Stmt} {pos} {Φ : Fl → St → Prop}
    (h : GoT t (WB B n L (isTrue t env (eval t env)) H σ fun b σ₁ => Br b (GoB body (WF B n L (execs body env) H σ₁ Φ)) (GoB orelse (WF B n L (execs orelse env) H σ₁ Φ)))) : GoS (Stmt.If t body orelse pos) (WF B n L (exec (.If t body orelse pos) env) H σ Φ) := S_if h
theorem g_expr {e : Expr} {pos} {Φ : Fl → St → Prop} (h : Go e (WV B n L (eval e env) H σ fun _ _ σ₁ => Φ .next σ₁)) (hi : interactive env = false := by rfl) (hs : swapsWith e none pos.line env = pure false := by rfl) :
    GoS (Stmt.Expr e pos) (WF B n L (exec (.Expr e pos) env) H σ Φ) := S_expr h hi hs
theorem g_assign1 {x : Str} {p pos} {e : Expr} {Φ : Fl → St → Prop} (h : Go e (WV B n L (eval e env) H σ fun v d σ₁ => Go Op.store (WU B n L (storeName env x v) ((v, d) :: H) σ₁ fun σ₂ => Φ .next σ₂)))
    (hs : swapsWith e (some (.Name x p)) pos.line env = pure false := by rfl) : GoS (Stmt.Assign [.Name x p] e pos) (WF B n L (exec (.Assign [.Name x p] e pos) env) H σ Φ) := S_assign1 h hs
theorem g_assignAttr {e o : Expr} {attr : Str} {p pos} {Φ : Fl → St → Prop}
    (h : Go e (WV B n L (eval e env) H σ fun v d σ₁ => Go o (WV B n L (eval o env) ((v, d) :: H) σ₁ fun ov od σ₂ => Go Op.set (WU B n L (setAttr ov attr v) ((ov, od) :: (v, d) :: H) σ₂ fun σ₃ => Φ .next σ₃))))
    (hs : swapsWith e (some (.Attribute o attr p)) pos.line env = pure false := by rfl) : GoS (Stmt.Assign [.Attribute o attr p] e pos) (WF B n L (exec (.Assign [.Attribute o attr p] e pos) env) H σ Φ) := S_assignAttr h hs
theorem g_unpack2 {t1 t2 e : Expr} {k p pos} {Φ : Fl → St → Prop}
    (h : Go e (WV B n L (eval e env) H σ fun v d σ₁ => ∃ d1 d2, d = .tup [d1, d2] ∧ ∀ v1 v2, GoW t1 (WU B n L (assign t1 env v1) ((v1, d1) :: (v2, d2) :: H) σ₁ fun σ₂ => GoW t2 (WU B n L (assign t2 env v2) ((v1, d1) :: (v2, d2) :: H) σ₂ fun σ₃ => Φ .next σ₃))))
    (hs : swapsWithSole [.Tuple [t1, t2] k p] e pos.line env = pure false := by rfl) (hw : swappedStores [.Tuple [t1, t2] k p] e env = pure none := by rfl)
    (he : assignEach [t1, t2] env = [(false, assign t1 env), (false, assign t2 env)] := by rfl) : GoS (Stmt.Assign [.Tuple [t1, t2] k p] e pos) (WF B n L (exec (.Assign [.Tuple [t1, t2] k p] e pos) env) H σ Φ) := S_unpack2 h hs hw he
theorem g_aug1 {x : Str} {p pos op} {e : Expr} {Φ : Fl → St → Prop}
    (h : Go Op.load (WV B n L (loadName env x) H σ fun a d σ₁ => Go e (WV B n L (eval e env) ((a, d) :: H) σ₁ fun b y σ₂ => GoI op (WV B n L (inplaceOp op a b) ((b, y) :: (a, d) :: H) σ₂ fun c z σ₃ => Go Op.store (WU B n L (storeName env x c) ((c, z) :: H) σ₃ fun σ₄ => Φ .next σ₄)))) ) :
    GoS (Stmt.AugAssign (.Name x p) op e pos) (WF B n L (exec (.AugAssign (.Name x p) op e pos) env) H σ Φ) := S_aug1 h
theorem g_augAttr {o e : Expr} {attr : Str} {p pos op} {Φ : Fl → St → Prop}
    (h : Go o (WV B n L (eval o env) H σ fun ov od σ₁ => Go Op.get (WV B n L (getAttr ov attr true) ((ov, od) :: H) σ₁ fun a d σ₂ => Go e (WV B n L (eval e env) ((a, d) :: (ov, od) :: H) σ₂ fun b y σ₃ =>
      GoI op (WV B n L (inplaceOp op a b) ((b, y) :: (a, d) :: (ov, od) :: H) σ₃ fun c z σ₄ => Go Op.set (WU B n L (setAttr ov attr c) ((c, z) :: (ov, od) :: H) σ₄ fun σ₅ => Φ .next σ₅)))))) :
    GoS (Stmt.AugAssign (.Attribute o attr p) op e pos) (WF B n L (exec (.AugAssign (.Attribute o attr p) op e pos) env) H σ Φ) := S_augAttr h
theorem C_go {objs : List (Addr × AO)} {name qual : Str} {params : Arguments} {body body' : List Stmt} {scope scope' : Scope} {dV kV doc pm cdv ct oc : Value} {an od : Option Addr} {osl : Array (Option Value)} {f : Addr} {args ds : List AV} {Φ : AV → List (Addr × AO) → Prop} {loc : List (Str × Option AV)} (ps xs : List Str)
    (ho : B.K.lookup f = some ⟨oc, od, .func (fnOf name qual params body scope dV kV doc pm an cdv ct), osl⟩) (hcd : codeIn B.K cdv qual = true)
    (hb : Binds B (fnOf name qual params body scope dV kV doc pm an cdv ct) ps args ds) (h : ∀ L, GoB body' (WF B n L (execs body' (envOf qual scope' L f cdv)) [] ⟨loc, objs⟩ (BackJ Φ)))
    (eb : body = body' := by (conv => lhs; whnf)) (es : scope = scope' := by (conv => lhs; whnf))
    (hloc : zipLoc ps ds ++ bare xs = loc := by simp only [zipLoc, bare, List.map_cons, List.map_nil, List.cons_append, List.nil_append] <;> rfl) (hl : ps.length = ds.length := by rfl) (hn : (ps ++ xs).Nodup := by decide) (hps : ps.all (fun y => scope'.names.lookup y == some .local) = true := by rfl)
    (hco : scope'.isCoroutine = false := by rfl) (hgen : scope'.isGenerator = false := by rfl) (hk : scope'.kind = .function := by rfl) (hcell : ∀ x ∈ scope'.names, x.2 ≠ .cell := by decide) : CallJ B (n + 1) f args objs Φ := by
  subst eb es
  exact C_fn ps xs ho hcd hb h hloc hl hn hps hco hgen hk hcell
/- tests -/
theorem g_tcmp {l r : Expr} {op pos whole} {Φ : Bool → St → Prop}
    (h : Go l (WV B n L (eval l env) H σ fun a x σ₁ => Go r (WV B n L (eval r env) ((a, x) :: H) σ₁ fun b y σ₂ => Go op (WV B n L (compareOp op a b) ((b, y) :: (a, x) :: H) σ₂ fun _ z σ₃ => ∃ c, z = .bool c ∧ Φ c σ₃))))
    (hm : behindInMarks op r = false := by with_unfolding_all rfl) : GoT (Expr.Compare l [op] [r] pos) (WB B n L (isTrue (.Compare l [op] [r] pos) env whole) H σ Φ) := T_compare h hm
theorem g_tval {e : Expr} {Φ : Bool → St → Prop} (h : Go e (WV B n L (eval e env) H σ fun v d σ₁ => Go Op.truth (WB B n L (truthy v) ((v, d) :: H) σ₁ Φ)))
    (hs : ∀ whole, isTrue e env whole = (do let v ← whole; standAt e.pos; holding [v] (truthy v)) := by with_unfolding_all exact fun _ => rfl) : GoT e (WB B n L (isTrue e env (eval e env)) H σ Φ) := T_value h hs
theorem g_tnot {x : Expr} {pos whole} {Φ : Bool → St → Prop} (h : GoT x (WB B n L (isTrue x env (eval x env)) H σ fun b σ₁ => Φ (!b) σ₁)) : GoT (Expr.UnaryOp .Not x pos) (WB B n L (isTrue (.UnaryOp .Not x pos) env whole) H σ Φ) := T_not h
theorem g_tand {x : Expr} {rest : List Expr} {pos whole} {Φ : Bool → St → Prop} (h : GoA (x :: rest) (WB B n L (allTrue .And (x :: rest) env) H σ Φ)) : GoT (Expr.BoolOp .And (x :: rest) pos) (WB B n L (isTrue (.BoolOp .And (x :: rest) pos) env whole) H σ Φ) := T_and h
theorem g_tor {x : Expr} {rest : List Expr} {pos whole} {Φ : Bool → St → Prop} (h : GoO (x :: rest) (WB B n L (allTrue .Or (x :: rest) env) H σ Φ)) : GoT (Expr.BoolOp .Or (x :: rest) pos) (WB B n L (isTrue (.BoolOp .Or (x :: rest) pos) env whole) H σ Φ) := T_or h
theorem g_and0 {Φ : Bool → St → Prop} (h : Φ true σ) : GoA ([] : List Expr) (WB B n L (allTrue .And [] env) H σ Φ) := T_andNil h
theorem g_or0 {Φ : Bool → St → Prop} (h : Φ false σ) : GoO ([] : List Expr) (WB B n L (allTrue .Or [] env) H σ Φ) := T_orNil h
theorem g_andC {x : Expr} {rest : List Expr} {Φ : Bool → St → Prop} (h : GoT x (WB B n L (isTrue x env (eval x env)) H σ fun b σ₁ => Br b (GoA rest (WB B n L (allTrue .And rest env) H σ₁ Φ)) (Φ false σ₁))) :
    GoA (x :: rest) (WB B n L (allTrue .And (x :: rest) env) H σ Φ) := T_andCons h
theorem g_orC {x : Expr} {rest : List Expr} {Φ : Bool → St → Prop} (h : GoT x (WB B n L (isTrue x env (eval x env)) H σ fun b σ₁ => Br b (Φ true σ₁) (GoO rest (WB B n L (allTrue .Or rest env) H σ₁ Φ)))) :
    GoO (x :: rest) (WB B n L (allTrue .Or (x :: rest) env) H σ Φ) := T_orCons h
/- expressions -/
theorem g_none {k pos} {Φ : Value → AV → St → Prop} (h : Φ .none .none σ) : Go (Expr.Constant .none k pos) (WV B n L (eval (.Constant .none k pos) env) H σ Φ) := E_none h
theorem g_bool {b k pos} {Φ : Value → AV → St → Prop} (h : Φ (.bool b) (.bool b) σ) : Go (Expr.Constant (.bool b) k pos) (WV B n L (eval (.Constant (.bool b) k pos) env) H σ Φ) := E_bool h
theorem g_int {i k pos} {Φ : Value → AV → St → Prop} (h : ∀ v, Φ v (.int i) σ) : Go (Expr.Constant (.int i) k pos) (WV B n L (eval (.Constant (.int i) k pos) env) H σ Φ) := E_int h
theorem g_str {x : Str} {l : List Nat} {k pos} {Φ : Value → AV → St → Prop} (e : x = S l) (h : ∀ v, Φ v (.str l) σ) : Go (Expr.Constant (.str x) k pos) (WV B n L (eval (.Constant (.str x) k pos) env) H σ Φ) := E_str e h
theorem g_local {x : Str} {pos d} {loc : List (Str × Option AV)} {objs : List (Addr × AO)} {Φ : Value → AV → St → Prop} (hm : (x, some d) ∈ loc) (h : ∀ v, Φ v d ⟨loc, objs⟩) (hk : env.scope.kind = .function := by rfl) (hl : env.kindOf x = some .local := by kernel_rfl)
    (hL : env.locals = L := by rfl) (hd : (x == ("__debug__" : Str)) = false := by kernel_rfl) : Go (Expr.Name x pos) (WV B n L (eval (.Name x pos) env) H ⟨loc, objs⟩ Φ) := E_local (σ := ⟨loc, objs⟩) hm h hk hl hL hd
theorem g_global {x : Str} {pos} {v : Value} {d : AV} {Φ : Value → AV → St → Prop} (e : nsIn B.K mainGlobals x = some (some v)) (c : CoreIs B v d) (h : Φ v d σ) (hk : env.scope.kind = .function := by rfl)
    (hl : env.kindOf x = some .globalImplicit := by kernel_rfl) (hg : env.globals = mainGlobals := by rfl) (hd : (x == ("__debug__" : Str)) = false := by kernel_rfl) : Go (Expr.Name x pos) (WV B n L (eval (.Name x pos) env) H σ Φ) := E_global e c h hk hl hg hd
theorem g_builtin {x : Str} {pos} {v : Value} {Φ : Value → AV → St → Prop} (hb : bootBuiltins x = some v) (e : nsIn B.K mainGlobals x = some none) (h : Φ v (.lit v) σ) (hk : env.scope.kind = .function := by rfl)
    (hl : env.kindOf x = some .globalImplicit := by kernel_rfl) (hg : env.globals = mainGlobals := by rfl) (hbl : env.builtins = builtinsNs := by rfl) (hn : x ≠ ("__name__" : Str) := by (refine bne_iff_ne.mp ?_; kernel_rfl))
    (hd : (x == ("__debug__" : Str)) = false := by kernel_rfl) : Go (Expr.Name x pos) (WV B n L (eval (.Name x pos) env) H σ Φ) := E_builtin e hb h hk hl hg hbl hn hd
theorem g_binop {l r : Expr} {op pos} {Φ : Value → AV → St → Prop}
    (h : Go l (WV B n L (eval l env) H σ fun a x σ₁ => Go r (WV B n L (eval r env) ((a, x) :: H) σ₁ fun b y σ₂ => GoX op (WV B n L (binaryOp op a b) ((b, y) :: (a, x) :: H) σ₂ Φ)))) : Go (Expr.BinOp l op r pos) (WV B n L (eval (.BinOp l op r pos) env) H σ Φ) := E_binop h
theorem g_compare {l r : Expr} {op pos} {Φ : Value → AV → St → Prop}
    (h : Go l (WV B n L (eval l env) H σ fun a x σ₁ => Go r (WV B n L (eval r env) ((a, x) :: H) σ₁ fun b y σ₂ => Go op (WV B n L (compareOp op a b) ((b, y) :: (a, x) :: H) σ₂ Φ))))
    (hm : behindInMarks op r = false := by with_unfolding_all rfl) : Go (Expr.Compare l [op] [r] pos) (WV B n L (eval (.Compare l [op] [r] pos) env) H σ Φ) := E_compare h hm
theorem g_between {l m r : Expr} {op op' pos} {Φ : Value → AV → St → Prop}
    (h : Go l (WV B n L (eval l env) H σ fun a x σ₁ => Go m (WV B n L (eval m env) ((a, x) :: H) σ₁ fun b y σ₂ => Go op (WV B n L (compareOp op a b) ((b, y) :: (a, x) :: H) σ₂ fun _ z σ₃ => ∃ c, z = .bool c ∧ ∃ c',
      Go r (WV B n L (eval r env) ((b, y) :: (a, x) :: H) σ₃ (fun d w σ₄ => Go op' (WV B n L (compareOp op' b d) ((d, w) :: (b, y) :: (a, x) :: H) σ₄ fun _ z σ₅ => z = .bool c' ∧ σ₅ = σ₃))) ∧ ∀ v, Φ v (.bool (c && c')) σ₃))))
    (hm : markedEach [op, op'] [m, r] (evalEach [m, r] env) = [eval m env, eval r env] := by with_unfolding_all rfl) : Go (Expr.Compare l [op, op'] [m, r] pos) (WV B n L (eval (.Compare l [op, op'] [m, r] pos) env) H σ Φ) :=
  E_between (W_monoV h fun a x σ₁ w => W_monoV w fun b y σ₂ w => W_monoV w fun _ z σ₃ ⟨c, e, c', w, q⟩ => ⟨c, c', e, w, q⟩) hm
theorem g_bool0 {op : BoolOp} {values : List Expr} {pos} {Φ : Value → AV → St → Prop} (h : GoR values (WV B n L (boolOp pos op (evalEach values env)) H σ Φ)) : Go (Expr.BoolOp op values pos) (WV B n L (eval (.BoolOp op values pos) env) H σ Φ) := E_bool0 h
theorem g_boolL {op : BoolOp} {x : Expr} {pos} {Φ : Value → AV → St → Prop} (h : Go x (WV B n L (eval x env) H σ Φ)) : GoR [x] (WV B n L (boolOp pos op (evalEach [x] env)) H σ Φ) := E_boolL h
theorem g_orB {x y : Expr} {rest : List Expr} {pos} {Φ : Value → AV → St → Prop}
    (h : Go x (WV B n L (eval x env) H σ fun _ d σ₁ => ∃ c, d = .bool c ∧ Br c (∀ v, Φ v (.bool true) σ₁) (GoR (y :: rest) (WV B n L (boolOp pos .Or (evalEach (y :: rest) env)) H σ₁ Φ)))) :
    GoR (x :: y :: rest) (WV B n L (boolOp pos .Or (evalEach (x :: y :: rest) env)) H σ Φ) := E_orB h
theorem g_andB {x y : Expr} {rest : List Expr} {pos} {Φ : Value → AV → St → Prop}
    (h : Go x (WV B n L (eval x env) H σ fun _ d σ₁ => ∃ c, d = .bool c ∧ Br c (GoR (y :: rest) (WV B n L (boolOp pos .And (evalEach (y :: rest) env)) H σ₁ Φ)) (∀ v, Φ v (.bool false) σ₁))) :
    GoR (x :: y :: rest) (WV B n L (boolOp pos .And (evalEach (x :: y :: rest) env)) H σ Φ) := E_andB (W_monoV h fun _ _ _ ⟨c, e, q⟩ => ⟨c, e, q.2, q.1⟩)
theorem g_neg {x : Expr} {pos} {Φ : Value → AV → St → Prop} (h : Go x (WV B n L (eval x env) H σ fun _ d σ₁ => ∃ i, d = .int i ∧ ∀ v, Φ v (.int (-i)) σ₁)) : Go (Expr.UnaryOp .USub x pos) (WV B n L (eval (.UnaryOp .USub x pos) env) H σ Φ) := E_neg h
theorem g_attr {e : Expr} {attr : Str} {pos} {Φ : Value → AV → St → Prop} (h : Go e (WV B n L (eval e env) H σ fun o d σ₁ => Go Op.get (WV B n L (getAttr o attr true) ((o, d) :: H) σ₁ Φ)))
    (he : eval (.Attribute e attr pos) env = (do
      let o ← eval e env
      standAt pos.atName
      let r ← holding [o] (getAttr o attr true)
      letTemporaryGo e o r
      pure r) := by with_unfolding_all rfl) : Go (Expr.Attribute e attr pos) (WV B n L (eval (.Attribute e attr pos) env) H σ Φ) := E_attr h he
theorem g_meth {o : Expr} {name : Str} {apos pos} {args : List Expr} {pl : Sem Bool} {Φ : Value → AV → St → Prop}
    (h : Go o (WV B n L (eval o env) H σ fun ov d σ₁ => Go Op.meth (W B n L (getMethod ov name pl) ((ov, d) :: H) σ₁ fun p _ σ₂ => Go Op.callw (WV B n L (callWith pos p.1 p.2 (backTo pos (starEach args env)) []) ((ov, d) :: H) σ₂ Φ))))
    (he : eval (.Call (.Attribute o name apos) args [] pos) env = (do
      let ov ← eval o env
      standAt apos.atName
      let (f, first) ← holding [ov] (getMethod ov name pl)
      callWith pos f first (backTo pos (starEach args env)) []) := by rfl) : Go (Expr.Call (.Attribute o name apos) args [] pos) (WV B n L (eval (.Call (.Attribute o name apos) args [] pos) env) H σ Φ) := E_meth h he
theorem g_call {f : Expr} {args : List Expr} {pos} {Φ : Value → AV → St → Prop}
    (h : Go f (WV B n L (eval f env) H σ fun fv d σ₁ => Go Op.callw (WV B n L (callWith pos fv [] (backTo pos (starEach args env)) []) ((fv, d) :: H) σ₁ Φ)))
    (he : eval (.Call f args [] pos) env = (do callWith pos (← eval f env) [] (backTo pos (starEach args env)) []) := by rfl) : Go (Expr.Call f args [] pos) (WV B n L (eval (.Call f args [] pos) env) H σ Φ) := E_call h he
theorem g_slice {value : Expr} {lo hi : Option Expr} {p pos} {Φ : Value → AV → St → Prop}
    (h : Go value (WV B n L (eval value env) H σ fun o d σ₁ => GoP lo (WV B n L (evalPart lo env) ((o, d) :: H) σ₁ fun l dl σ₂ => GoP hi (WV B n L (evalPart hi env) ((l, dl) :: (o, d) :: H) σ₂ fun _ du σ₃ =>
      ∃ x, d = .str x ∧ ∃ i, bound dl = some i ∧ ∃ j, bound du = some j ∧ x.length ≤ 16777216 ∧ ∀ v, Φ v (.str (sl x i j)) σ₃)))) :
    Go (Expr.Subscript value (.Slice lo hi none p) pos) (WV B n L (eval (.Subscript value (.Slice lo hi none p) pos) env) H σ Φ) :=
  E_slice (W_monoV h fun o d σ₁ w => W_monoV w fun l dl σ₂ w => W_monoV w fun _ du σ₃ ⟨x, e, i, e1, j, e2, hz, q⟩ => ⟨x, i, j, e, e1, e2, hz, q⟩)
theorem g_sub {value slice : Expr} {pos} {Φ : Value → AV → St → Prop} (h : Go value (WV B n L (eval value env) H σ fun o d σ₁ => Go slice (WV B n L (eval slice env) ((o, d) :: H) σ₁ fun i e σ₂ => Go Op.tail (WV B n L (subscriptTail value slice o i) ((i, e) :: (o, d) :: H) σ₂ Φ)))) :
    Go (Expr.Subscript value slice pos) (WV B n L (eval (.Subscript value slice pos) env) H σ Φ) := E_sub h
theorem g_part0 {Φ : Value → AV → St → Prop} (h : Φ .none .none σ) : GoP (none : Option Expr) (WV B n L (evalPart none env) H σ Φ) := E_part0 h
theorem g_part1 {e : Expr} {Φ : Value → AV → St → Prop} (h : Go e (WV B n L (eval e env) H σ Φ)) : GoP (some e) (WV B n L (evalPart (some e) env) H σ Φ) := h
theorem g_tuple {elts : List Expr} {k : Nat} {pos : Pos} {Φ : Value → AV → St → Prop} (h : GoV elts (WL B n L (spliced (backTo pos (starEach elts env))) H σ fun _ ds σ₁ => ds.length ≤ 16777216 ∧ ∀ v, Φ v (.tup ds) σ₁)) :
    Go (Expr.Tuple elts k pos) (WV B n L (eval (.Tuple elts k pos) env) H σ Φ) := E_tuple h
theorem g_dict {keys : List (Option Expr)} {values : List Expr} {pos : Pos} {Φ : Value → AV → St → Prop}
    (h : GoV values (WD B n L (evalPairs (dictPairs env pos keys values)) H σ fun l σ₁ => GoN l (∀ v, Φ v (.dct l) σ₁)))
    (hs : (evalEachOpt keys env).zip ((evalEach values env).map fun v => do let x ← v; standAt pos; pure x) = (dictPairs env pos keys values).map fun p => (some p.1, p.2) := by rfl)
    (h0 : dictPairs env pos keys values ≠ [] := by exact List.cons_ne_nil _ _) (hl : (dictPairs env pos keys values).length ≤ 15 := by exact Nat.le_of_ble_eq_true (by rfl)) : Go (Expr.Dict keys values pos) (WV B n L (eval (.Dict keys values pos) env) H σ Φ) := E_dict h hs h0 hl
theorem g_pairs0 {pos} {Φ : List (Str × AV) → St → Prop} (h : Φ [] σ) : GoV ([] : List Expr) (WD B n L (evalPairs (dictPairs env pos [] [])) H σ Φ) := D_nil h
theorem g_pairsC {x : Str} {kk kp pos} {ks : List (Option Expr)} {v : Expr} {vs : List Expr} {Φ : List (Str × AV) → St → Prop}
    (h : Go v (WV B n L (eval v env) H σ fun a d σ₁ => GoV vs (WD B n L (evalPairs (dictPairs env pos ks vs)) ((a, d) :: H) σ₁ fun l σ₂ => Φ ((x, d) :: l) σ₂))) :
    GoV (v :: vs) (WD B n L (evalPairs (dictPairs env pos (some (.Constant (.str x) kk kp) :: ks) (v :: vs))) H σ Φ) := D_cons h
theorem g_args0 {pos} {Φ : List Value → List AV → St → Prop} (h : Φ [] [] σ) : GoV ([] : List Expr) (WL B n L (spliced (backTo pos (starEach [] env))) H σ Φ) := W_args0 h
theorem g_argsC {e : Expr} {rest : List Expr} {pos} {Φ : List Value → List AV → St → Prop}
    (h : Go e (WV B n L (eval e env) H σ fun v d σ₁ => GoV rest (WL B n L (spliced (backTo pos (starEach rest env))) ((v, d) :: H) σ₁ fun vs ds σ₂ => Φ (v :: vs) (d :: ds) σ₂)))
    (he : starEach (e :: rest) env = (false, eval e env) :: starEach rest env := by rfl) : GoV (e :: rest) (WL B n L (spliced (backTo pos (starEach (e :: rest) env))) H σ Φ) := W_argsC h he
/- leaves -/
theorem g_callB {id : String} {first : List Value} {args : List Expr} {pos} {Φ : Value → AV → St → Prop}
    (h : GoV args (WL B n L (spliced (backTo pos (starEach args env))) H σ fun vs ds σ₁ => Go (Value.builtin id) (WV B n L (call (.builtin id) (first ++ vs)) (vs.zip ds ++ H) σ₁ Φ)))
    (hp : (backTo pos (starEach args env)).any (·.1) = false := by rfl) : Go Op.callw (WV B n L (callWith pos (.builtin id) first (backTo pos (starEach args env)) []) H σ Φ) := W_callB h hp
theorem g_callK {f : Addr} {first : List Value} {args : List Expr} {pos} {Φ : Value → AV → St → Prop} (hk : keepIn B.K (.ref f) = true)
    (h : GoV args (WL B n L (spliced (backTo pos (starEach args env))) H σ fun vs ds σ₁ => Go (Value.ref f) (WV B n L (call (.ref f) (first ++ vs)) (vs.zip ds ++ H) σ₁ Φ)))
    (hp : (backTo pos (starEach args env)).any (·.1) = false := by rfl) : Go Op.callw (WV B n L (callWith pos (.ref f) first (backTo pos (starEach args env)) []) H σ Φ) := W_callK hk h hp
theorem g_callT {T : String} {first : List Value} {args : List Expr} {pos} {Φ : Value → AV → St → Prop}
    (h : GoV args (WL B n L (spliced (backTo pos (starEach args env))) H σ fun vs ds σ₁ => Go (Value.type T) (WV B n L (call (.type T) (first ++ vs)) (vs.zip ds ++ H) σ₁ Φ)))
    (hp : (backTo pos (starEach args env)).any (·.1) = false := by rfl) : Go Op.callw (WV B n L (callWith pos (.type T) first (backTo pos (starEach args env)) []) H σ Φ) := W_callT h hp
theorem g_norm {τ : Type} {g : τ} {f : Value} {first vs l : List Value} {ds : List AV} {H' : List (Value × AV)} {Φ : Value → AV → St → Prop} (e : first ++ vs = l) (eh : vs.zip ds ++ H = H') (h : GoC f (WV B n L (call f l) H' σ Φ)) : Go g (WV B n L (call f (first ++ vs)) (vs.zip ds ++ H) σ Φ) := W_norm e eh h
theorem g_name {x : Str} {p} {v : Value} {Φ : St → Prop} (h : Go Op.store (WU B n L (storeName env x v) H σ Φ)) : GoW (Expr.Name x p) (WU B n L (assign (.Name x p) env v) H σ Φ) := G_name h
theorem g_attrW {o : Expr} {attr : Str} {p} {v : Value} {Φ : St → Prop} (h : Go o (WV B n L (eval o env) H σ fun ov d σ₁ => Go Op.set (WU B n L (setAttr ov attr v) ((ov, d) :: H) σ₁ Φ))) : GoW (Expr.Attribute o attr p) (WU B n L (assign (.Attribute o attr p) env v) H σ Φ) := G_attr h
end

/- k_ownIn: a member of a list; k_upd: a local stored; k_updF: a tracked object changed; kat_tups: a field put; k_memK: a field; k_allIn: held arguments; k_places: a size; k_clsL: a fact of the top; k_offL: a def of the top; kct_strs: a def is called -/
end
local macro_rules | `(tactic| k_ownIn) => `(tactic| ((try dsimp only); with_reducible repeat (first | exact List.mem_cons_self | refine List.mem_cons_of_mem _ ?_)))
section
end
local macro_rules | `(tactic| k_upd) => `(tactic| (with_reducible repeat (first | exact SetL.hit | apply SetL.skip)))
section
end
local macro_rules | `(tactic| k_updF) => `(tactic| ((try dsimp only); with_reducible repeat (first | exact Chg.head | apply Chg.tail)))
section
end
local macro_rules | `(tactic| kat_tups) => `(tactic| repeat (first | with_reducible exact PutL.hit | with_reducible exact PutL.new | (apply PutL.skip; (focus kernel_rfl))))
section
end
local macro_rules | `(tactic| k_memK) => `(tactic| repeat (first | with_reducible exact GetL.hit | (apply GetL.skip; (focus kernel_rfl))))
section
end
local macro_rules | `(tactic| k_allIn) => `(tactic| repeat (first | exact held_nil | refine held_cons (by k_ownIn) ?_))
section
end
local macro_rules | `(tactic| k_places) => `(tactic| first | assumption | omega | (refine Nat.le_trans (sl_le _ _ _) ?_; first | assumption | omega) | ((simp only [List.length_append, List.length_cons, List.length_nil] at *); omega))
section
end
local macro_rules | `(tactic| walk_at "forall") => `(tactic| intro _)
section
end
local macro_rules | `(tactic| walk_at "Exists") => `(tactic| refine ⟨_, rfl, ?_⟩)
section
end
local macro_rules | `(tactic| walk_at "Br true") => `(tactic| refine Br_true ?_)
section
end
local macro_rules | `(tactic| walk_at "Br false") => `(tactic| refine Br_false ?_)
section
end
local macro_rules | `(tactic| walk_at "GoB nil") => `(tactic| refine g_nil ?_)
section
end
local macro_rules | `(tactic| walk_at "GoB cons") => `(tactic| refine g_seq ?_)
section
end
local macro_rules | `(tactic| walk_at "GoF next") => `(tactic| refine g_next ?_)
section
end
local macro_rules | `(tactic| walk_at "GoF ret") => `(tactic| refine g_ret ?_)
section
end
local macro_rules | `(tactic| walk_at "GoF brk") => `(tactic| refine g_brk ?_)
section
end
local macro_rules | `(tactic| walk_at "GoF cont") => `(tactic| refine g_cont ?_)
section
end
local macro_rules | `(tactic| walk_at "BackJ ret") => `(tactic| refine N_back ?_)
section
end
local macro_rules | `(tactic| walk_at "BackJ next") => `(tactic| refine N_backN ?_)
section
end
local macro_rules | `(tactic| walk_at "LoopEnd next") => `(tactic| refine N_loopN ?_)
section
end
local macro_rules | `(tactic| walk_at "LoopEnd brk") => `(tactic| refine N_loopB ?_)
section
end
local macro_rules | `(tactic| walk_at "GoS Break") => `(tactic| refine g_break ?_)
section
end
local macro_rules | `(tactic| walk_at "GoS Continue") => `(tactic| refine g_continue ?_)
section
end
local macro_rules | `(tactic| walk_at "GoS Return") => `(tactic| refine g_return ?_)
section
end
local macro_rules | `(tactic| walk_at "GoS If") => `(tactic| refine g_if ?_)
section
end
local macro_rules | `(tactic| walk_at "GoS Expr") => `(tactic| (plain_pass; refine g_expr ?_))
section
end
local macro_rules | `(tactic| walk_at "GoS Assign") => `(tactic| (plain_pass; refine g_unpack2 ?_))
section
end
local macro_rules | `(tactic| walk_at "GoS Assign") => `(tactic| (plain_pass; (fail_if_success (with_reducible show GoS (Stmt.Assign [Expr.Attribute _ (Str.ofString "currentToken") _] (Expr.Dict _ _ _) _) _)); refine g_assignAttr ?_))
section
end
local macro_rules | `(tactic| walk_at "GoS Assign") => `(tactic| (plain_pass; refine g_assign1 ?_))
section
end
local macro_rules | `(tactic| walk_at "GoS AugAssign") => `(tactic| refine g_augAttr ?_)
section
end
local macro_rules | `(tactic| walk_at "GoS AugAssign") => `(tactic| refine g_aug1 ?_)
section
end
local macro_rules | `(tactic| walk_at "GoT Compare") => `(tactic| (plain_pass; refine g_tcmp ?_))
section
end
local macro_rules | `(tactic| walk_at "GoT Name") => `(tactic| (plain_pass; refine g_tval ?_))
section
end
local macro_rules | `(tactic| walk_at "GoT Attribute") => `(tactic| (plain_pass; refine g_tval ?_))
section
end
local macro_rules | `(tactic| walk_at "GoT Call") => `(tactic| (plain_pass; refine g_tval ?_))
section
end
local macro_rules | `(tactic| walk_at "GoT Subscript") => `(tactic| (plain_pass; refine g_tval ?_))
section
end
local macro_rules | `(tactic| walk_at "GoT Constant") => `(tactic| (plain_pass; refine g_tval ?_))
section
end
local macro_rules | `(tactic| walk_at "GoT BinOp") => `(tactic| (plain_pass; refine g_tval ?_))
section
end
local macro_rules | `(tactic| walk_at "GoT UnaryOp") => `(tactic| refine g_tnot ?_)
section
end
local macro_rules | `(tactic| walk_at "GoT BoolOp") => `(tactic| refine g_tor ?_)
section
end
local macro_rules | `(tactic| walk_at "GoT BoolOp") => `(tactic| refine g_tand ?_)
section
end
local macro_rules | `(tactic| walk_at "GoA nil") => `(tactic| refine g_and0 ?_)
section
end
local macro_rules | `(tactic| walk_at "GoA cons") => `(tactic| refine g_andC ?_)
section
end
local macro_rules | `(tactic| walk_at "GoO nil") => `(tactic| refine g_or0 ?_)
section
end
local macro_rules | `(tactic| walk_at "GoO cons") => `(tactic| refine g_orC ?_)
section
end
local macro_rules | `(tactic| walk_at "Go Constant") => `(tactic| (plain_pass; refine g_str (by with_reducible first | exact lit_nl | exact lit_emp | exact lit_crnl | exact lit_cr | exact lit_nul | exact lit_rep | exact lit_sp | exact lit_tab | exact lit_ff | exact lit_lt | exact lit_gt | exact lit_sl | exact lit_bang | exact lit_q | exact lit_dash | exact lit_dd | exact lit_eq | exact lit_dq | exact lit_sq | exact lit_bt | exact lit_amp | exact lit_A | exact lit_Z | exact lit_a | exact lit_z | exact lit_ltgt | exact lit_ltsl | exact lit_b | exact lit_B | exact lit_x | exact lit_X | exact lit_Q | exact lit_q' | exact sg_eq _) ?_))
section
end
local macro_rules | `(tactic| walk_at "Go Constant") => `(tactic| refine g_none ?_)
section
end
local macro_rules | `(tactic| walk_at "Go Constant") => `(tactic| refine g_bool ?_)
section
end
local macro_rules | `(tactic| walk_at "Go Constant") => `(tactic| refine g_int ?_)
section
end
local macro_rules | `(tactic| walk_at "Go Name") => `(tactic| (plain_pass; refine g_global (by k_clsL) (CoreIs.lit _ _) ?_))
section
end
local macro_rules | `(tactic| walk_at "Go Name") => `(tactic| (plain_pass; refine g_builtin (by with_reducible first | exact PyProof.Rows.Boot.«len» | exact PyProof.Rows.Boot.«ord» | exact PyProof.Rows.Boot.«range» | exact PyProof.Rows.Boot.«chr» | exact PyProof.Rows.Boot.«isinstance» | exact PyProof.Rows.Boot.«max» | exact PyProof.Rows.Boot.«min» | exact PyProof.Rows.Boot.«sum» | exact PyProof.Rows.Boot.«dict») (by k_clsL) ?_))
section
end
local macro_rules | `(tactic| walk_at "Go Name") => `(tactic| (plain_pass; refine g_local (by k_ownIn) ?_))
section
end
local macro_rules | `(tactic| walk_at "Go BinOp") => `(tactic| refine g_binop ?_)
section
end
local macro_rules | `(tactic| walk_at "Go Compare") => `(tactic| (plain_pass; refine g_between ?_))
section
end
local macro_rules | `(tactic| walk_at "Go Compare") => `(tactic| (plain_pass; refine g_compare ?_))
section
end
local macro_rules | `(tactic| walk_at "Go UnaryOp") => `(tactic| refine g_neg ?_)
section
end
local macro_rules | `(tactic| walk_at "Go Attribute") => `(tactic| (plain_pass; refine g_attr ?_))
section
end
local macro_rules | `(tactic| walk_at "Go Call") => `(tactic| (plain_pass; refine g_call ?_))
section
end
local macro_rules | `(tactic| walk_at "Go Call") => `(tactic| (plain_pass; refine g_meth ?_))
section
end
local macro_rules | `(tactic| walk_at "Go Subscript") => `(tactic| refine g_sub ?_)
section
end
local macro_rules | `(tactic| walk_at "Go Subscript") => `(tactic| refine g_slice ?_)
section
end
local macro_rules | `(tactic| walk_at "GoP none") => `(tactic| refine g_part0 ?_)
section
end
local macro_rules | `(tactic| walk_at "GoP some") => `(tactic| refine g_part1 ?_)
section
end
local macro_rules | `(tactic| walk_at "Go BoolOp") => `(tactic| refine g_bool0 ?_)
section
end
local macro_rules | `(tactic| walk_at "GoR cons") => `(tactic| refine g_andB ?_)
section
end
local macro_rules | `(tactic| walk_at "GoR cons") => `(tactic| refine g_orB ?_)
section
end
local macro_rules | `(tactic| walk_at "GoR cons") => `(tactic| refine g_boolL ?_)
section
end
local macro_rules | `(tactic| walk_at "GoX Mod") => `(tactic| (plain_pass; refine O_mod (by k_ownIn) (by k_ownIn) (by decide) ?_))
section
end
local macro_rules | `(tactic| walk_at "Go In") => `(tactic| (plain_pass; refine O_inI (by k_ownIn) (by k_ownIn) (by rfl) ?_))
section
end
local macro_rules | `(tactic| walk_at "Go In") => `(tactic| (plain_pass; refine O_inT (by k_ownIn) (by k_ownIn) (by rfl) ?_))
section
end
local macro_rules | `(tactic| walk_at "Go Tuple") => `(tactic| refine g_tuple ?_)
section
end
local macro_rules | `(tactic| walk_at "Go Dict") => `(tactic| (plain_pass; refine g_dict ?_))
section
end
local macro_rules | `(tactic| walk_at "GoN cons") => `(tactic| refine g_nd (by kernel_rfl) ?_)
section
end
local macro_rules | `(tactic| walk_at "GoV nil") => `(tactic| refine g_pairs0 ?_)
section
end
local macro_rules | `(tactic| walk_at "GoV nil") => `(tactic| (plain_pass; refine g_args0 ?_))
section
end
local macro_rules | `(tactic| walk_at "GoV cons") => `(tactic| refine g_pairsC ?_)
section
end
local macro_rules | `(tactic| walk_at "GoV cons") => `(tactic| (plain_pass; refine g_argsC ?_))
section
end
local macro_rules | `(tactic| walk_at "Go callw") => `(tactic| (plain_pass; refine g_callT ?_))
section
end
local macro_rules | `(tactic| walk_at "Go callw") => `(tactic| (plain_pass; refine g_callB ?_))
section
end
local macro_rules | `(tactic| walk_at "Go callw") => `(tactic| (plain_pass; refine g_callK (by k_clsL) ?_))
section
end
local macro_rules | `(tactic| walk_at "N") => `(tactic| (plain_pass; refine g_norm (by simp only [List.nil_append, List.cons_append] <;> rfl) (by simp only [List.nil_append, List.cons_append, List.zip_cons_cons, List.zip_nil_left, List.zip_nil_right] <;> rfl) ?_))
section
end
local macro_rules | `(tactic| walk_at "Go ref") => `(tactic| walk_at "N")
section
end
local macro_rules | `(tactic| walk_at "Go builtin:len") => `(tactic| walk_at "N")
section
end
local macro_rules | `(tactic| walk_at "Go builtin:ord") => `(tactic| walk_at "N")
section
end
local macro_rules | `(tactic| walk_at "Go builtin:chr") => `(tactic| walk_at "N")
section
end
local macro_rules | `(tactic| walk_at "Go builtin:isinstance") => `(tactic| walk_at "N")
section
end
local macro_rules | `(tactic| walk_at "Go builtin:max") => `(tactic| walk_at "N")
section
end
local macro_rules | `(tactic| walk_at "Go builtin:min") => `(tactic| walk_at "N")
section
end
local macro_rules | `(tactic| walk_at "Go builtin:sum") => `(tactic| walk_at "N")
section
end
local macro_rules | `(tactic| walk_at "Go builtin:list.append") => `(tactic| walk_at "N")
section
end
local macro_rules | `(tactic| walk_at "Go builtin:list.pop") => `(tactic| walk_at "N")
section
end
local macro_rules | `(tactic| walk_at "Go builtin:str.join") => `(tactic| walk_at "N")
section
end
local macro_rules | `(tactic| walk_at "Go builtin:str.count") => `(tactic| walk_at "N")
section
end
local macro_rules | `(tactic| walk_at "Go builtin:str.rfind") => `(tactic| walk_at "N")
section
end
local macro_rules | `(tactic| walk_at "Go builtin:str.replace") => `(tactic| walk_at "N")
section
end
local macro_rules | `(tactic| walk_at "Go type:range") => `(tactic| walk_at "N")
section
end
local macro_rules | `(tactic| walk_at "Go type:dict") => `(tactic| walk_at "N")
section
end
local macro_rules | `(tactic| walk_at "GoC ref") => `(tactic| (plain_pass; kct_strs))
section
end
local macro_rules | `(tactic| walk_at "GoC") => `(tactic| (plain_pass; kct_strs))
section
end
local macro_rules | `(tactic| walk_at "GoC type:range") => `(tactic| (plain_pass; refine B_range1 (by k_ownIn) ?_))
section
end
local macro_rules | `(tactic| walk_at "GoC builtin:str.rfind") => `(tactic| (plain_pass; refine B_rfind4 (by k_ownIn) (by k_ownIn) (by k_ownIn) (by k_ownIn) ?_))
section
end
local macro_rules | `(tactic| walk_at "GoC builtin:str.count") => `(tactic| (plain_pass; refine B_count4 (by k_ownIn) (by k_ownIn) (by k_ownIn) (by k_ownIn) ?_))
section
end
local macro_rules | `(tactic| walk_at "GoC builtin:list.append") => `(tactic| (plain_pass; refine B_append (by k_ownIn) (by k_ownIn) (by k_updF) (by k_places) ?_))
section
end
local macro_rules | `(tactic| walk_at "GoC builtin:ord") => `(tactic| (plain_pass; refine B_ord (by k_ownIn) ?_))
section
end
local macro_rules | `(tactic| walk_at "GoC builtin:len") => `(tactic| (plain_pass; refine B_lenL (by k_ownIn) (by k_ownIn) (by k_places) ?_))
section
end
local macro_rules | `(tactic| walk_at "GoC builtin:len") => `(tactic| (plain_pass; refine B_lenS (by k_ownIn) (by k_places) ?_))
section
end
local macro_rules | `(tactic| walk_at "Go get") => `(tactic| (plain_pass; refine A_got (by k_ownIn) (by k_ownIn) (by k_memK) (by k_clsL) (by rfl) ?_))
section
end
local macro_rules | `(tactic| walk_at "Go set") => `(tactic| (plain_pass; refine A_put (by k_ownIn) (by k_ownIn) (by k_ownIn) (by kat_tups) (by k_updF) (by k_clsL) (h := ?_)))
section
end
local macro_rules | `(tactic| walk_at "Go store") => `(tactic| (plain_pass; refine V_put (by k_ownIn) (by k_upd) ?_))
section
end
local macro_rules | `(tactic| walk_at "Go load") => `(tactic| (plain_pass; refine V_load (by k_ownIn) ?_))
section
end
local macro_rules | `(tactic| walk_at "Go meth") => `(tactic| (plain_pass; refine M_list (by k_ownIn) (by k_ownIn) (by first | exact slot_list_append | exact PySem.F.slot_list_pop) (by first | exact type_list_append | exact PySem.F.type_list_pop) ?_))
section
end
local macro_rules | `(tactic| walk_at "Go meth") => `(tactic| (plain_pass; refine M_str (by k_ownIn) (by first | exact PySem.F.slot_str_join | exact PySem.F.slot_str_count | exact PySem.F.slot_str_rfind | exact PySem.F.slot_str_replace) (by first | exact PySem.F.type_str_join | exact PySem.F.type_str_count | exact PySem.F.type_str_rfind | exact PySem.F.type_str_replace) ?_))
section
end
local macro_rules | `(tactic| walk_at "Go truth") => `(tactic| (plain_pass; refine T_none (by k_ownIn) ?_))
section
end
local macro_rules | `(tactic| walk_at "Go truth") => `(tactic| (plain_pass; refine T_list (by k_ownIn) (by k_ownIn) (by k_places) ?_))
section
end
local macro_rules | `(tactic| walk_at "Go truth") => `(tactic| (plain_pass; refine T_str (by k_ownIn) (by k_places) ?_))
section
end
local macro_rules | `(tactic| walk_at "Go truth") => `(tactic| (plain_pass; refine T_bool (by k_ownIn) ?_))
section
end
local macro_rules | `(tactic| walk_at "Go LtE") => `(tactic| (plain_pass; refine O_le (by k_ownIn) (by k_ownIn) ?_))
section
end
local macro_rules | `(tactic| walk_at "Go Gt") => `(tactic| (plain_pass; refine O_gt (by k_ownIn) (by k_ownIn) ?_))
section
end
local macro_rules | `(tactic| walk_at "Go GtE") => `(tactic| (plain_pass; refine O_ge (by k_ownIn) (by k_ownIn) ?_))
section
end
local macro_rules | `(tactic| walk_at "Go Eq") => `(tactic| (plain_pass; refine O_eq (by k_ownIn) (by k_ownIn) ?_))
section
end
local macro_rules | `(tactic| walk_at "Go Eq") => `(tactic| (plain_pass; refine O_eqS (by k_ownIn) (by k_ownIn) ?_))
section
end
local macro_rules | `(tactic| walk_at "Go NotEq") => `(tactic| (plain_pass; refine O_ne (by k_ownIn) (by k_ownIn) ?_))
section
end
local macro_rules | `(tactic| walk_at "Go NotEq") => `(tactic| (plain_pass; refine O_neS (by k_ownIn) (by k_ownIn) ?_))
section
end
local macro_rules | `(tactic| walk_at "Go Is") => `(tactic| (plain_pass; refine O_isNone (by k_ownIn) (by k_ownIn) dct_isnt ?_))
section
end
local macro_rules | `(tactic| walk_at "Go Is") => `(tactic| (plain_pass; refine O_isNone (by k_ownIn) (by k_ownIn) ref_isnt ?_))
section
end
local macro_rules | `(tactic| walk_at "Go Is") => `(tactic| (plain_pass; refine O_isNone (by k_ownIn) (by k_ownIn) int_isnt ?_))
section
end
local macro_rules | `(tactic| walk_at "Go Is") => `(tactic| (plain_pass; refine O_isNone (by k_ownIn) (by k_ownIn) str_isnt ?_))
section
end
local macro_rules | `(tactic| walk_at "Go Is") => `(tactic| (plain_pass; refine O_isNone (by k_ownIn) (by k_ownIn) none_is ?_))
section
end
local macro_rules | `(tactic| walk_at "GoX Add") => `(tactic| (plain_pass; refine O_addS (by k_ownIn) (by k_ownIn) (by k_places) ?_))
section
end
local macro_rules | `(tactic| walk_at "GoX Add") => `(tactic| (plain_pass; refine O_add (by k_ownIn) (by k_ownIn) ?_))
section
end
local macro_rules | `(tactic| walk_at "GoX Sub") => `(tactic| (plain_pass; refine O_sub (by k_ownIn) (by k_ownIn) ?_))
section
end
local macro_rules | `(tactic| walk_at "GoI Add") => `(tactic| (plain_pass; refine O_iaddS (by k_ownIn) (by k_ownIn) (by k_places) ?_))
section
end
local macro_rules | `(tactic| walk_at "GoI Add") => `(tactic| (plain_pass; refine O_iadd (by k_ownIn) (by k_ownIn) ?_))
section
end
local macro_rules | `(tactic| walk_at "GoW Name") => `(tactic| refine g_name ?_)
section
end
local macro_rules | `(tactic| walk_at "GoW Attribute") => `(tactic| refine g_attrW ?_)
section
end
local macro_rules | `(tactic| kas_types) => `(tactic| repeat walk1)
section
end
-- La22
section
/-- an int of the class -/
noncomputable def clsInt (K : Frag) (C : Addr) (x : Str) : Option Int := match findIn K (.ref C) x with
  | some (some (.int i t)) => if plainGet K C x && hasDictIn K C && (specialIn K (.int i t) "__get__" == some none) && !(copiedNames.contains x) then some i else none
  | _ => none
/-- the one text put for the other -/
noncomputable def repl (x y z : List Nat) : List Nat := (Txt.replace (S x) (S y) (S z)).cps.toList
theorem repl_S (x y z : List Nat) : Txt.replace (S x) (S y) (S z) = S (repl x y z) := by unfold repl S; cases Txt.replace _ _ _; rfl
section
variable {B : Base} {n : Nat} {L : Addr} {H : List (Value × AV)} {σ : St} {env : Env}
theorem A_clsInt {x : Addr} {C dx : Addr} {fs : List (Str × AV)} {name : Str} {expr : Bool} {v₀ : Value} {i : Int} {Φ : Value → AV → St → Prop} (mv : (v₀, .ref x) ∈ H) (m : (x, AO.inst C dx fs) ∈ σ.objs) (ho : clsInt B.K C name = some i)
    (hf : getF name fs = none) (h : ∀ v, Φ v (.int i) σ) : WV B n L (getAttr v₀ name expr) H σ Φ := by
  refine W_of fun A F s hA X => ?_
  obtain rfl := inv_ref (X.hold mv)
  obtain ⟨h1, es, k, h2, h3⟩ := X.objs _ m
  unfold clsInt at ho
  split at ho
  · rename_i j t e
    split at ho
    · rename_i hc
      cases ho
      simp only [Bool.and_eq_true, beq_iff_eq, Bool.not_eq_true'] at hc
      obtain ⟨⟨⟨hg, hh⟩, hs⟩, hcp⟩ := hc
      exact get_value X.K (⟨h1, rfl, rfl, h2⟩ : InstAt s.heap x (instObj C dx) C (some (dictOf es k))) (plainGet_of hg).1 (findObj_cls hh e hs rfl hcp (by rw [lookIn_dict]; exact ents_miss h3 hf)) rfl (.toks X ⟨_, .int _ _, h _⟩)
    · cases ho
  · cases ho

/-! ### bound methods -/
theorem noBool_method : typeLookup (.type "method") "__bool__" = pure none := by rw [typeLookup_type, builtinLookup_eq_fast]; kernel_rfl
theorem noLen_method : typeLookup (.type "method") "__len__" = pure none := by rw [typeLookup_type, builtinLookup_eq_fast]; kernel_rfl
theorem T_meth {v : Value} {f self : Addr} {Ψ : Bool → St → Prop} (mv : (v, .meth f self) ∈ H) (h : Ψ true σ) : WB B n L (truthy v) H σ Ψ := W_of fun A F s hA X => by
  obtain ⟨a, rfl, ha⟩ := inv_meth (X.hold mv)
  have hT : s.TypeIs (.ref a) "method" := ⟨_, X.sub _ _ ha, rfl⟩
  unfold truthy
  first
    | refine wpAny_bind (wpAny_callSpecial?_none (name := Str.ofString "__bool__") hT noBool_method ?_)
    | refine wpAny_bind (wpAny_pure (wpAny_bind (wpAny_callSpecial?_none (name := Str.ofString "__bool__") hT noBool_method ?_)))
  first
    | refine wpAny_bind (wpAny_specialOf (name := Str.ofString "__len__") hT noLen_method ?_)
    | refine wpAny_bind (wpAny_pure (wpAny_bind (wpAny_specialOf (name := Str.ofString "__len__") hT noLen_method ?_)))
  exact wpAny_pure (.here X h)
theorem W_callM {v : Value} {f self : Addr} {args : List Expr} {pos} {Φ : Value → AV → St → Prop} (mv : (v, .meth f self) ∈ H) (hf : fnIn B.K f = true)
    (h : WL B n L (spliced (backTo pos (starEach args env))) H σ fun vs ds σ₁ => WV B n L (call v ([] ++ vs)) (vs.zip ds ++ H) σ₁ Φ)
    (hp : (backTo pos (starEach args env)).any (·.1) = false := by rfl) : WV B n L (callWith pos v [] (backTo pos (starEach args env)) []) H σ Φ := W_of fun A F s hA x => by
  obtain ⟨q, rfl, hq⟩ := inv_meth (x.hold mv)
  refine callWith_of (P := MethP B.K q f (.ref self)) (by rw [hp]; rfl) (keeps_M hf) (evalArgs_all hp (wpAny_mono (h.run A F s hA x) (fun vs s₁ z => ⟨?_, ?_⟩) fun _ _ z => z))
  · obtain ⟨F₁, _, x₁, p₁, _⟩ := z
    exact ⟨x₁.sub _ _ (p₁.mono _ _ hq), x₁.K⟩
  · refine z.then fun F₁ σ₁ x₁ ⟨ds, hds, w⟩ => ?_
    exact wpAny_mono (w.run A F₁ s₁ hA (x₁.add (W_callK.zip_is hds))) (fun _ _ y => y.weaken fun _ hp => List.mem_append_right _ hp) fun _ _ z => z
theorem W_callMC {m : Nat} {v : Value} {f self : Addr} {vs : List Value} {ds : List AV} {loc : List (Str × Option AV)} {objs : List (Addr × AO)} {Φ : Value → AV → St → Prop} {Φ₀ : AV → List (Addr × AO) → Prop} (mv : (v, .meth f self) ∈ H) (c : CallJ B m f (.ref self :: ds) objs Φ₀) (hm : m ≤ n) (e : vs.length = ds.length)
    (k : ∀ p ∈ vs.zip ds, p ∈ H) (h : ∀ d objs', Φ₀ d objs' → ∀ v, Φ v d ⟨loc, objs'⟩) : WV B n L (call v vs) H ⟨loc, objs⟩ Φ := W_of fun A F s hA X => by
  obtain ⟨q, rfl, hq⟩ := inv_meth (X.hold mv)
  refine wpAny_call (method_call (X.sub _ _ hq) (codeAny_mono (c A F s _ (hA.le hm) X.call (.cons (.ref self) (held_all X e k))) fun r s' z => ?_))
  obtain ⟨w, d, objs', F', rfl, hd, y, p, q⟩ := z
  obtain ⟨x', p'⟩ := X.back y p
  exact ⟨F', _, x', p', d, hd, h d objs' q w⟩

/-! ### where tokens were made -/
structure WP {α : Type} (B : Base) (n : Nat) (L : Addr) (t : Sem α) (H : List (Value × AV)) (σ : St) (Ψ : α → Fz → St → Prop) : Prop where
  run : ∀ A F s, Room n A → 0 < s.toks → Holds B.P B.G L F H σ s.heap → wpAny B.M A t (fun a s' => After B L H σ F s s' (Ψ a)) (fun _ _ => False) s
noncomputable abbrev WPF (B : Base) (n : Nat) (L : Addr) (t : Sem Flow) (H : List (Value × AV)) (σ : St) (Φ : Fl → St → Prop) : Prop :=
  WP B n L t H σ (fun f F' σ' => ∃ e, FlIs B.P F' f e ∧ Φ e σ')
noncomputable def ThenP (B : Base) (n : Nat) (L : Addr) (rest : List Stmt) (env : Env) (H : List (Value × AV)) (Φ : Fl → St → Prop) : Fl → St → Prop
  | .next, σ => WPF B n L (execs rest env) H σ Φ
  | .brk, σ => Φ .brk σ
  | .cont, σ => Φ .cont σ
  | .ret d, σ => Φ (.ret d) σ
theorem WP_of {α : Type} {t : Sem α} {Ψ : α → Fz → St → Prop} (h : W B n L t H σ Ψ) : WP B n L t H σ Ψ := ⟨fun A F s hA _ x => h.run A F s hA x⟩
theorem flow_then {A : Around} {env : Env} {rest : List Stmt} {F : Fz} {s s₁ : Shared} {f : Flow} {Φ : Fl → St → Prop} (hA : Room n A) (ht : 0 < s₁.toks)
    (z : After B L H σ F s s₁ fun F' σ' => ∃ e, FlIs B.P F' f e ∧ ThenP B n L rest env H Φ e σ') :
    wpAny B.M A (match f with | .next => execs rest env | f => pure f) (fun b s₂ => After B L H σ F s s₂ fun F' σ' => ∃ e, FlIs B.P F' b e ∧ Φ e σ') (fun _ _ => False) s₁ := by
  refine z.then fun F₁ σ₁ x₁ ⟨e, he, q⟩ => ?_
  cases f with
  | next => cases e <;> first | exact he.elim | exact q.run A F₁ s₁ hA ht x₁
  | brk => cases e <;> first | exact he.elim | exact wpAny_pure (.here x₁ ⟨.brk, trivial, q⟩)
  | cont => cases e <;> first | exact he.elim | exact wpAny_pure (.here x₁ ⟨.cont, trivial, q⟩)
  | ret v => cases e <;> first | exact he.elim | exact wpAny_pure (.here x₁ ⟨.ret _, he, q⟩)
theorem P_seq {st : Stmt} {rest : List Stmt} {Φ : Fl → St → Prop} (h : WF B n L (exec st env) H σ (ThenP B n L rest env H Φ)) : WPF B n L (execs (st :: rest) env) H σ Φ := ⟨fun A F s hA ht x => by
  rw [execs_cons]
  refine wpAny_bind (wpAny_mono (wpAny_toks (h.run A F s hA x)) (fun f s₁ z => ?_) fun _ _ z => z)
  have := flow_then (s₁ := s₁) hA (Nat.lt_of_lt_of_le ht z.1) z.2
  cases f <;> exact this⟩
/-- a token is made by the statement -/
theorem P_start {i : Int} {kk kp} {o : Expr} {attr : Str} {p pos} {rest : List Stmt} {Φ : Fl → St → Prop}
    (h : ∀ v, WV B n L (eval o env) ((v, .int i) :: H) σ fun ov od σ₂ => WU B n L (setAttr ov attr v) ((ov, od) :: (v, .int i) :: H) σ₂ fun σ₃ => ThenP B n L rest env H Φ .next σ₃) :
    WF B n L (execs (.Assign [.Attribute o attr p] (.Constant (.int i) kk kp) pos :: rest) env) H σ Φ := W_of fun A F s hA x => by
  rw [execs_cons, plainObj_exec_Assign_Attribute o attr p (.Constant (.int i) kk kp) pos rfl]
  refine wpAny_bind (wpAny_bind (wpAny_standAt (wpAny_bind (wpAny_Constant_int ?_))))
  have w : WF B n L (do assign (.Attribute o attr p) env (.int i s.toks); pure Flow.next) ((.int i s.toks, .int i) :: H) σ (ThenP B n L rest env H Φ) := by
    rw [arm_assign_Attribute]
    refine W_bindU (W_bindV (W_holding (W_monoV (h _) fun ov od σ₂ w₂ => W_standB (W_bindU (W_holding (W_monoU w₂ fun σ₃ q => ?_))))))
    exact W_releaseU (W_next q)
  have x' : Holds B.P B.G L F ((.int i s.toks, .int i) :: H) σ { s with toks := s.toks + 1 }.heap := x.push (.int i _)
  refine wpAny_mono (wpAny_toks (w.run A F { s with toks := s.toks + 1 } hA x')) (fun f s₁ z => ?_) fun _ _ z => z
  have ht : 0 < s₁.toks := Nat.lt_of_lt_of_le (Nat.succ_pos _) z.1
  obtain ⟨F₁, σ₁, x₁, p₁, e, he, q⟩ := z.2
  have z' : After B L H σ F s s₁ fun F' σ' => ∃ e, FlIs B.P F' f e ∧ ThenP B n L rest env H Φ e σ' := ⟨F₁, σ₁, x₁.weaken fun _ hp => .tail _ hp, ⟨p₁.keep, p₁.own, p₁.frz, p₁.mono, p₁.gens, p₁.os⟩, e, he, q⟩
  have := flow_then (s₁ := s₁) hA ht z'
  cases f <;> exact this
/-- `x = y.replace(a, b)`, of two texts written out -/
theorem P_replace {x y : Str} {a b : Str} {la lb l : List Nat} {p q ap pos pos' ka kb pa pb} {rest : List Stmt} {loc loc' : List (Str × Option AV)} {objs : List (Addr × AO)} {Φ : Fl → St → Prop} (ea : a = S la) (eb : b = S lb) (m : (y, some (.str l)) ∈ loc) (sl : SetL x (.str (repl l la lb)) loc loc')
    (hz : l.length ≤ 1048576) (hb : lb.length ≤ 14) (hk : env.scope.kind = .function) (hy : env.kindOf y = some .local) (hx : env.kindOf x = some .local) (hL : env.locals = L) (hd : (y == ("__debug__" : Str)) = false)
    (hp : (env.scope.kind == .class || (env.scope.kind == .module && env.locals != env.globals)) = false) (hne : (S la == S lb) = false)
    (hline : (ap.endLine == pos'.line) = true) (h : WPF B n L (execs rest env) H ⟨loc', objs⟩ Φ) (hs : swapsWith (.Call (.Attribute (.Name y q) "replace" ap) [.Constant (.str a) ka pa, .Constant (.str b) kb pb] [] pos') (some (.Name x p)) pos.line env = pure false := by rfl) :
    WPF B n L (execs (.Assign [.Name x p] (.Call (.Attribute (.Name y q) "replace" ap) [.Constant (.str a) ka pa, .Constant (.str b) kb pb] [] pos') pos :: rest) env) H ⟨loc, objs⟩ Φ := ⟨fun A F s hA ht X => by
  subst ea eb hL
  rw [execs_cons, exec_Assign_Name env x p _ pos hs]
  refine wpAny_bind (wpAny_bind (wpAny_standAt (wpAny_bind ?_)))
  obtain ⟨m₀, hns, r⟩ := X.loc
  obtain ⟨v, e, hv⟩ := r y _ m
  obtain ⟨t, rfl⟩ := inv_str hv
  have base : attributeBase (.Name y q) "replace" env (eval (.Name y q) env) = eval (.Name y q) env := rfl
  refine wpAny_Call_method_late base (by rfl) hline rfl ?_
  refine wpAny_Name (wpAny_loadName_local hk hy hns e ⟨"str", "str.replace", PySem.F.plainAttrs_str, PySem.F.slot_str_replace, PySem.F.type_str_replace, typeIs_str _ _ _, (fun _ e => nomatch e), ?_⟩) hd
  refine Calls.callWith_builtin rfl (evalArgs_all rfl ?_)
  rw [show starEach [Expr.Constant (.str (S la)) ka pa, Expr.Constant (.str (S lb)) kb pb] env = (false, eval (.Constant (.str (S la)) ka pa) env) :: starEach [Expr.Constant (.str (S lb)) kb pb] env from rfl]
  refine spliced_cons (show wpAny _ _ (eval (.Constant (.str (S la)) ka pa) env) _ _ _ from wpAny_Constant_str ?_)
  rw [show starEach [Expr.Constant (.str (S lb)) kb pb] env = (false, eval (.Constant (.str (S lb)) kb pb) env) :: starEach [] env from rfl]
  refine spliced_cons (show wpAny _ _ (eval (.Constant (.str (S lb)) kb pb) env) _ _ _ from wpAny_Constant_str (spliced_nil ?_))
  refine wpAny_mono (wpAny_toks (SC.replaceW (x := S l) (y := S la) (z := S lb) (Q := fun r s' => ∃ t' k, r = .str (Txt.replace (S l) (S la) (S lb)) t' ∧ s' = { s with toks := k }) (Nat.pos_iff_ne_zero.mp ht) (Nat.succ_ne_zero _) (Nat.ne_of_lt (Nat.lt_succ_self _)) hne
    (by rw [S_length]; exact hz) (by rw [S_length]; exact hb) fun t' k => ⟨t', k, rfl, rfl⟩)) (fun r s' z => ?_) fun _ _ z => z
  obtain ⟨hk', t', k, rfl, rfl⟩ := z
  have q : Is B.P F (.str (Txt.replace (S l) (S la) (S lb)) t') (.str (repl l la lb)) := by rw [repl_S]; exact .str _ _
  have w : WF B n env.locals (do standAt p; bindName env x (.str (Txt.replace (S l) (S la) (S lb)) t'); pure Flow.next) ((.str (Txt.replace (S l) (S la) (S lb)) t', .str (repl l la lb)) :: H) ⟨loc, objs⟩ (ThenP B n env.locals rest env H Φ) :=
    W_standB (W_bindU (W_bindName (V_put (.head _) sl (W_next (Φ := ThenP B n env.locals rest env H Φ) h) hx rfl hp)))
  have X' : Holds B.P B.G env.locals F ((.str (Txt.replace (S l) (S la) (S lb)) t', .str (repl l la lb)) :: H) ⟨loc, objs⟩ { s with toks := k }.heap := X.push q
  refine wpAny_mono (wpAny_toks (w.run A F { s with toks := k } hA X')) (fun f s₁ z => ?_) fun _ _ z => z
  have hk'' : s.toks + 1 + 1 ≤ k := hk'
  have h1 : k ≤ s₁.toks := z.1
  have ht₁ : 0 < s₁.toks := by omega
  obtain ⟨F₁, σ₁, x₁, p₁, e, he, q⟩ := z.2
  have z' : After B env.locals H ⟨loc, objs⟩ F s s₁ fun F' σ' => ∃ e, FlIs B.P F' f e ∧ ThenP B n env.locals rest env H Φ e σ' := ⟨F₁, σ₁, x₁.weaken fun _ hp => .tail _ hp, ⟨p₁.keep, p₁.own, p₁.frz, p₁.mono, p₁.gens, p₁.os⟩, e, he, q⟩
  have := flow_then (s₁ := s₁) hA ht₁ z'
  cases f <;> exact this⟩
noncomputable def GoPB {α : Type} (_ : α) (p : Prop) : Prop := p
theorem g_callM {v : Value} {f self : Addr} {args : List Expr} {pos} {Φ : Value → AV → St → Prop} (mv : (v, .meth f self) ∈ H) (hf : fnIn B.K f = true)
    (h : GoV args (WL B n L (spliced (backTo pos (starEach args env))) H σ fun vs ds σ₁ => Go Op.callm (WV B n L (call v ([] ++ vs)) (vs.zip ds ++ H) σ₁ Φ)))
    (hp : (backTo pos (starEach args env)).any (·.1) = false := by rfl) : Go Op.callw (WV B n L (callWith pos v [] (backTo pos (starEach args env)) []) H σ Φ) := W_callM mv hf h hp
/-- here the walk waits -/
noncomputable def Hold (p : Prop) : Prop := p
theorem g_for {target iter : Expr} {body : List Stmt} {pos} {Φ : Fl → St → Prop} (J : Nat → St → Prop)
    (h : Go iter (WV B n L (eval iter env) H σ fun xv d σ₁ => Hold (∃ N item, Iterable B n L xv d N item ∧ J 0 σ₁ ∧ (∀ σ, J N σ → Φ .next σ) ∧
      ∀ i loc objs a p v, i < N → J i ⟨loc, objs⟩ → GoW target (WU B n L (assign target env v) ((v, item i) :: (xv, d) :: H) ⟨loc, (a, .is p) :: objs⟩ fun σ₂ => GoB body (WF B n L (execs body env) H σ₂ (ForEnd a p (J (i + 1)) Φ))))))
    (hs : ∀ x, foldedSetIterable iter env x = pure x := by intro _; rfl) (ht : ∀ it v, letOwnedTupleGo target it v = pure () := by intro _ _; rfl) : GoS (Stmt.For target iter body [] pos) (WF B n L (exec (.For target iter body [] pos) env) H σ Φ) := S_for J h hs ht
theorem g_while {test : Expr} {body : List Stmt} {pos} {Φ : Fl → St → Prop} (J : Nat → St → Prop) (k : Nat) (h0 : J k σ)
    (h : ∀ k σ, J k σ → GoT test (WB B n L (isTrue test env (eval test env)) H σ fun b σ₁ => Br b (GoB body (WF B n L (execs body env) H σ₁ (LoopEnd (fun σ₂ => Hold (∃ m, m < k ∧ J m σ₂)) Φ))) (Φ .next σ₁))) :
    GoS (Stmt.While test body [] pos) (WF B n L (exec (.While test body [] pos) env) H σ Φ) := S_while J k h0 h
theorem p_seq {st : Stmt} {rest : List Stmt} {Φ : Fl → St → Prop} (h : GoS st (WF B n L (exec st env) H σ fun f σ => GoF f (ThenP B n L rest env H Φ f σ))) : GoPB (st :: rest) (WPF B n L (execs (st :: rest) env) H σ Φ) := P_seq h
theorem p_next {rest : List Stmt} {Φ : Fl → St → Prop} (h : GoPB rest (WPF B n L (execs rest env) H σ Φ)) : GoF Fl.next (ThenP B n L rest env H Φ .next σ) := h
theorem p_ret {rest : List Stmt} {Φ : Fl → St → Prop} {d : AV} (h : Φ (.ret d) σ) : GoF (Fl.ret d) (ThenP B n L rest env H Φ (.ret d) σ) := h
theorem p_nil {Φ : Fl → St → Prop} (h : Φ .next σ) : GoPB ([] : List Stmt) (WPF B n L (execs [] env) H σ Φ) := WP_of (S_nil h)
theorem p_replace {x y : Str} {a b : Str} {la lb l : List Nat} {p q ap pos pos' ka kb pa pb} {rest : List Stmt} {loc loc' : List (Str × Option AV)} {objs : List (Addr × AO)} {Φ : Fl → St → Prop} (ea : a = S la) (eb : b = S lb) (m : (y, some (.str l)) ∈ loc) (sl : SetL x (.str (repl l la lb)) loc loc')
    (hz : l.length ≤ 1048576) (h : GoPB rest (WPF B n L (execs rest env) H ⟨loc', objs⟩ Φ)) (hb : lb.length ≤ 14 := by decide) (hk : env.scope.kind = .function := by rfl) (hy : env.kindOf y = some .local := by kernel_rfl) (hx : env.kindOf x = some .local := by kernel_rfl) (hL : env.locals = L := by rfl) (hd : (y == ("__debug__" : Str)) = false := by kernel_rfl)
    (hp : (env.scope.kind == .class || (env.scope.kind == .module && env.locals != env.globals)) = false := by rfl) (hne : (S la == S lb) = false := by decide)
    (hline : (ap.endLine == pos'.line) = true := by rfl) (hs : swapsWith (.Call (.Attribute (.Name y q) "replace" ap) [.Constant (.str a) ka pa, .Constant (.str b) kb pb] [] pos') (some (.Name x p)) pos.line env = pure false := by rfl) :
    GoPB (Stmt.Assign [.Name x p] (.Call (.Attribute (.Name y q) "replace" ap) [.Constant (.str a) ka pa, .Constant (.str b) kb pb] [] pos') pos :: rest) (WPF B n L (execs (.Assign [.Name x p] (.Call (.Attribute (.Name y q) "replace" ap) [.Constant (.str a) ka pa, .Constant (.str b) kb pb] [] pos') pos :: rest) env) H ⟨loc, objs⟩ Φ) :=
  P_replace ea eb m sl hz hb hk hy hx hL hd hp hne hline h hs
theorem p_start {i : Int} {kk kp} {o : Expr} {attr : Str} {p pos} {rest : List Stmt} {Φ : Fl → St → Prop}
    (h : ∀ v, Go o (WV B n L (eval o env) ((v, .int i) :: H) σ fun ov od σ₂ => Go Op.set (WU B n L (setAttr ov attr v) ((ov, od) :: (v, .int i) :: H) σ₂ fun σ₃ => GoF Fl.next (ThenP B n L rest env H Φ .next σ₃)))) :
    GoB (Stmt.Assign [.Attribute o attr p] (.Constant (.int i) kk kp) pos :: rest) (WF B n L (execs (.Assign [.Attribute o attr p] (.Constant (.int i) kk kp) pos :: rest) env) H σ Φ) := P_start h
end
/-- the walk halts at an if while this stands among the assumptions -/
structure HaltHere : Prop where
noncomputable def Halt (p : Prop) : Prop := p
section
variable {B : Base} {n : Nat} {L : Addr} {H : List (Value × AV)} {σ : St} {env : Env} {s : Stmt} {R : Fl → St → Prop}
theorem s_halt (h0 : HaltHere) (h : Halt (GoS s (WF B n L (exec s env) H σ R))) : GoS s (WF B n L (exec s env) H σ R) := h
/-- a statement by itself -/
theorem s_cut (P : St → Prop) (h1 : ∀ Ψ : Fl → St → Prop, (∀ σ', P σ' → Ψ .next σ') → GoS s (WF B n L (exec s env) H σ fun f σ => GoF f (Ψ f σ))) (h2 : ∀ σ', P σ' → GoF Fl.next (R .next σ')) :
    Halt (GoS s (WF B n L (exec s env) H σ fun f σ => GoF f (R f σ))) := h1 R h2
theorem CallJ.of {f : Addr} {args : List AV} {objs : List (Addr × AO)} {P : AV → List (Addr × AO) → Prop} (h : ∀ Φ : AV → List (Addr × AO) → Prop, (∀ d o, P d o → Φ d o) → CallJ B n f args objs Φ) : CallJ B n f args objs P := h P fun _ _ h => h
end
end
local macro_rules | `(tactic| walk_at "GoS If") => `(tactic| refine s_halt (by assumption) ?_)
section
end
local macro_rules | `(tactic| walk_at "GoPB cons") => `(tactic| (plain_pass; (fail_if_success (with_reducible show GoPB (Stmt.Assign _ (Expr.Call (Expr.Attribute _ (Str.ofString "replace") _) _ _ _) _ :: _) _)); refine p_seq ?_))
section
end
local macro_rules | `(tactic| walk_at "GoPB cons") => `(tactic| (plain_pass; (with_reducible show GoPB (Stmt.Assign _ (Expr.Call (Expr.Attribute _ (Str.ofString "replace") _) _ _ _) _ :: _) _); refine p_replace (by with_reducible first | exact lit_crnl | exact lit_cr) lit_nl (by k_ownIn) (by k_upd) (by k_places) ?_))
section
end
local macro_rules | `(tactic| walk_at "GoPB nil") => `(tactic| refine p_nil ?_)
section
end
local macro_rules | `(tactic| walk_at "GoF next") => `(tactic| refine p_next ?_)
section
end
local macro_rules | `(tactic| walk_at "GoF ret") => `(tactic| refine p_ret ?_)
section
end
local macro_rules | `(tactic| walk_at "Go callw") => `(tactic| (plain_pass; refine g_callM (by k_ownIn) (by first | assumption | k_clsL) ?_))
section
end
local macro_rules | `(tactic| walk_at "Go callm") => `(tactic| walk_at "N")
section
end
local macro_rules | `(tactic| walk_at "Go truth") => `(tactic| (plain_pass; refine T_meth (by k_ownIn) ?_))
section
end
local macro_rules | `(tactic| walk_at "Exists") => `(tactic| (refine ⟨_, _, rfl, ?_⟩))
section
end
local macro_rules | `(tactic| walk_at "Go tail") => `(tactic| (plain_pass; refine U_str (by k_ownIn) (by k_ownIn) (by assumption) (by k_places) ?_))
section
end
-- La23
section
noncomputable def kvOf : List DictEntry → List (Str × AV) → List (Str × Value)
  | e :: es, (x, _) :: l => (x, e.val) :: kvOf es l
  | _, _ => []
section
variable {prog : Program} {w : World} {F : Fz}
theorem kv_keys : ∀ {es : List DictEntry} {l : List (Str × AV)}, IsEnts w.params F es l → (kvOf es l).map (·.1) = l.map (·.1)
  | _, _, .nil => rfl
  | _, _, .cons _ r => by rw [kvOf, List.map_cons, List.map_cons, kv_keys r]
theorem kv_pairs : ∀ {es : List DictEntry} {l : List (Str × AV)}, IsEnts w.params F es l → Pairs (strKind prog w) es (kvOf es l)
  | _, _, .nil => .nil
  | _, _, .cons _ r => .cons (beq_self_eq_true _) rfl (kv_pairs r)
theorem kv_hash : ∀ {es : List DictEntry} {l : List (Str × AV)}, IsEnts w.params F es l → ∀ e ∈ es, ∃ k, (strKind prog w).is k e.key = true ∧ e.hash = (strKind prog w).hash k
  | _, _, .nil, _, h => nomatch h
  | _, _, .cons (x := x) _ r, e, h => by
    rcases List.mem_cons.mp h with rfl | h
    · exact ⟨x, beq_self_eq_true _, rfl⟩
    · exact kv_hash r e h
theorem kv_value {x : Str} {d : AV} : ∀ {es : List DictEntry} {l : List (Str × AV)}, IsEnts w.params F es l → getF x l = some d → ∃ v, valueAt (kvOf es l) x = some v ∧ Is w.params F v d
  | _, _, .nil, e => by cases e
  | _, _, .cons (x := y) (v := v) h r, e => by
    unfold getF at e
    rw [List.find?_cons] at e
    dsimp only at e
    by_cases q : y = x
    · subst q
      simp only [beq_self_eq_true] at e
      cases e
      exact ⟨v, by simp [valueAt, kvOf], h⟩
    · rw [beq_eq_false_iff_ne.mpr q] at e
      obtain ⟨v', e1, e2⟩ := kv_value (x := x) r e
      refine ⟨v', ?_, e2⟩
      show Option.map _ (List.find? _ ((y, v) :: kvOf _ _)) = _
      rw [List.find?_cons]
      simp only [decide_eq_false q]
      exact e1
theorem dict_is {h : Heap} {a : Addr} {n : Nat} {es : List DictEntry} {l : List (Str × AV)} (e : IsEnts w.params F es l) (nd : (l.map (·.1)).Nodup) (hg : h.get? a = some (dictOf es n)) : h.DictOf (strKind prog w) a (kvOf es l) :=
  ⟨_, es.toArray, n, hg, ⟨rfl, rfl, rfl⟩, rfl, fun x hx => kv_hash e x (by simpa using hx), kv_pairs e, by rw [kv_keys e]; exact nd⟩
end
section
variable {B : Base} {n : Nat} {L : Addr} {H : List (Value × AV)} {σ : St} {env : Env}
theorem U_dct {value slice : Expr} {o i : Value} {l : List (Str × AV)} {x : List Nat} {d : AV} {Φ : Value → AV → St → Prop} (mo : (o, .dct l) ∈ H) (mi : (i, .str x) ∈ H) (hd : getF (S x) l = some d) (h : ∀ v, Φ v d σ)
    (hs : ∃ ops, subscripted slice false o i = operate ops (getItem o i) := by exact ⟨_, rfl⟩) : WV B n L (subscriptTail value slice o i) H σ Φ := by
  refine W_subTail (T := "dict") (fun F s X => ?_) slot_dict_getitem.lookup (W_of fun A F s hA X => ?_) hs
  · obtain ⟨a, es, k, rfl, h1, h2, h3⟩ := inv_dct (X.hold mo); exact ⟨_, X.sub _ _ h1, rfl⟩
  · obtain ⟨a, es, k, rfl, h1, h2, h3⟩ := inv_dct (X.hold mo)
    obtain ⟨t, rfl⟩ := inv_str (X.hold mi)
    obtain ⟨v, e1, e2⟩ := kv_value h2 hd
    exact wpAny_getItem_of (knd := strKind B.prog B.w) (k := S x) (beq_self_eq_true _) (dict_is h2 h3 (X.sub _ _ h1)).mapOf e1 (.toks X ⟨d, e2, h _⟩)

/-! ### what the top's names tell -/
noncomputable def coreAV : Value → AV
  | .none => .none
  | .bool b => .bool b
  | .int i _ => .int i
  | .str x _ => .str x.cps.toList
  | v => .lit v
theorem core_is (P : Params) (F : Fz) : ∀ v, Is P F v (coreAV v)
  | .none => .none
  | .bool b => .bool b
  | .int i t => .int i t
  | .str x t => by
    have e : S x.cps.toList = x := by cases x; rfl
    have q : Is P F (.str (S x.cps.toList) t) (.str x.cps.toList) := .str _ _
    rw [e] at q
    exact q
  | .float .. => .lit _
  | .bytes .. => .lit _
  | .type _ => .lit _
  | .builtin _ => .lit _
  | .ref _ => .lit _
  | .ellipsis => .lit _
  | .notImplemented => .lit _
theorem core_all (P : Params) (F : Fz) : ∀ vs, IsAll P F vs (vs.map coreAV)
  | [] => .nil
  | v :: r => .cons (core_is P F v) (core_all P F r)
theorem core_tup {a : Addr} {vs : List Value} {m : Nat} {l : List AV} (h : B.K.lookup a = some (tupObj vs m)) (e : vs.map coreAV = l) : CoreIs B (.ref a) (.tup l) := fun F core => e ▸ .tup (core _ _ (B.X _ _ h)) (core_all B.P F vs)
theorem core_lst {a : Addr} {vs : List Value} {m : Nat} {l : List AV} (h : B.K.lookup a = some (lstObj vs m)) (e : vs.map coreAV = l) : CoreIs B (.ref a) (.lst l) := fun F core => e ▸ .lst (core _ _ (B.X _ _ h)) (core_all B.P F vs)
noncomputable def coreEnts : List DictEntry → List (Str × AV)
  | ⟨_, .str x _, v⟩ :: r => (x, coreAV v) :: coreEnts r
  | _ => []
noncomputable def entsOk (P : Params) : List DictEntry → Prop
  | [] => True
  | e :: r => (∃ x t, e.key = .str x t ∧ e.hash = PyData.keyHash P x) ∧ entsOk P r
theorem core_ents (P : Params) (F : Fz) : ∀ es, entsOk P es → IsEnts P F es (coreEnts es)
  | [], _ => .nil
  | ⟨hs, key, v⟩ :: r, ⟨⟨x, t, e1, e2⟩, q⟩ => by
    dsimp only at e1 e2
    subst e1 e2
    exact .cons (core_is P F v) (core_ents P F r q)
theorem core_dct {a : Addr} {es : List DictEntry} {m : Nat} {l : List (Str × AV)} (h : B.K.lookup a = some (dictOf es m)) (ok : entsOk B.P es) (e : coreEnts es = l) (nd : (l.map (·.1)).Nodup) (ha : (a == sysModules) = false := by decide) : CoreIs B (.ref a) (.dct l) :=
  fun F core => e ▸ .dct (core _ _ (B.X _ _ h)) (core_ents B.P F es ok) (by rw [e]; exact nd) ha
end

/-! ### the objects of a call in another order -/
theorem CHolds.perm {P : Params} {G : Heap} {F : Fz} {o o' : List (Addr × AO)} {h : Heap} (e : o.Perm o') (x : CHolds P G F o h) : CHolds P G F o' h :=
  ⟨x.core, x.sub, fun p hp => x.objs p (e.mem_iff.mpr hp), (owns_perm e).nodup_iff.mp x.nodup, fun b hb => x.apart b ((owns_perm e).mem_iff.mpr hb), x.big⟩
theorem Pres.perm {O O₁ O' O₁' : List Addr} {F F' : Fz} {s s' : Shared} (e : O.Perm O₁) (e' : O'.Perm O₁') (p : Pres O F s O' F' s') : Pres O₁ F s O₁' F' s' :=
  ⟨fun b o hb => p.keep b o fun h => hb (e.mem_iff.mp h), fun b hb => (p.own b (e'.mem_iff.mpr hb)).imp_left e.mem_iff.mp, fun b o h => (p.frz b o h).imp_right (Or.imp_left e.mem_iff.mp), p.mono, p.gens, p.os⟩
theorem CallJ.perm {B : Base} {n : Nat} {f : Addr} {args : List AV} {o o₁ : List (Addr × AO)} {Φ Φ₁ : AV → List (Addr × AO) → Prop} (e : o.Perm o₁) (c : CallJ B n f args o₁ Φ₁) (k : ∀ d q, Φ₁ d q → ∃ q', q.Perm q' ∧ Φ d q') : CallJ B n f args o Φ :=
  fun A F s vs hA x hv => codeAny_mono (c A F s vs hA (x.perm e) hv) fun r s' ⟨v, d, objs', F', a, b, y, p, q⟩ => by
    obtain ⟨q', e', hq⟩ := k d objs' q
    exact ⟨v, d, q', F', a, b, y.perm e', p.perm (owns_perm e).symm (owns_perm e'), hq⟩
/-- one object ahead, which the call doesn't see -/
theorem CallJ.second {B : Base} {n : Nat} {f : Addr} {args : List AV} {a a' b : Addr × AO} {rest : List (Addr × AO)} {d₀ : AV} (c : CallJ B n f args (a :: b :: rest) fun d o => d = d₀ ∧ o = a' :: b :: rest) : CallJ B n f args (b :: a :: rest) fun d o => d = d₀ ∧ o = b :: a' :: rest :=
  c.perm (.swap _ _ _) fun d q ⟨e1, e2⟩ => ⟨b :: a' :: rest, by rw [e2]; exact .swap _ _ _, e1, rfl⟩

section
variable {B : Base} {n : Nat} {L : Addr} {H : List (Value × AV)} {σ : St} {env : Env}
theorem g_tbetween {l m r : Expr} {op op' pos whole} {Φ : Bool → St → Prop}
    (h : Go l (WV B n L (eval l env) H σ fun a x σ₁ => Go m (WV B n L (eval m env) ((a, x) :: H) σ₁ fun b y σ₂ => Go op (WV B n L (compareOp op a b) ((b, y) :: (a, x) :: H) σ₂ fun _ z σ₃ => ∃ c, z = .bool c ∧ ∃ c',
      Go r (WV B n L (eval r env) ((b, y) :: (a, x) :: H) σ₃ (fun d w σ₄ => Go op' (WV B n L (compareOp op' b d) ((d, w) :: (b, y) :: (a, x) :: H) σ₄ fun _ z σ₅ => z = .bool c' ∧ σ₅ = σ₃))) ∧ Φ (c && c') σ₃))))
    (hm : markedEach [op, op'] [m, r] (evalEach [m, r] env) = [eval m env, eval r env] := by with_unfolding_all rfl) : GoT (Expr.Compare l [op, op'] [m, r] pos) (WB B n L (isTrue (.Compare l [op, op'] [m, r] pos) env whole) H σ Φ) := by
  show WB B n L (isTrue (.Compare l [op, op'] [m, r] pos) env whole) H σ Φ
  rw [arm_isTrue_Compare, hm]
  refine W_bindV (W_monoV h fun a x σ₁ w => ?_)
  show W B n L (do
    let rv ← holding [a] (eval m env)
    standAt pos
    let c ← holding [a, rv] (compareOp op a rv)
    release [a, rv] [c]
    if ← holding [c, rv] (truthy c) then testChain pos rv [op'] [eval r env] else pure false) ((a, x) :: H) σ₁ _
  refine W_bindV (W_holding (W_monoV w fun b y σ₂ w => W_standB (W_bindV (W_holding (W_monoV w fun c z σ₃ ⟨k, e, c', w, q⟩ => ?_)))))
  subst e
  refine W_release (W_bindB (W_holding (T_bool (.head _) ?_)))
  cases k with
  | false => exact W_ret q
  | true =>
    refine W_dropV ?_
    show W B n L (do
      let rv ← holding [b] (eval r env)
      standAt pos
      let c ← operate [b, rv] (compareOp op' b rv)
      holding [c] (truthy c)) _ _ _
    refine W_bindV (W_holding (W_monoV w fun d w' σ₄ w => W_standB (W_bindV (W_operate (W_monoV w fun v z σ₅ ⟨e, e'⟩ => ?_)))))
    subst e e'
    exact W_holding (T_bool (.head _) q)
end
end
local macro_rules | `(tactic| walk_at "GoT Compare") => `(tactic| (plain_pass; refine g_tbetween ?_))
section
section
variable {B : Base} {n : Nat} {L : Addr} {H : List (Value × AV)} {σ : St} {env : Env}
/-- a call of what lies in the object itself -/
theorem g_methO {o : Expr} {name : Str} {apos pos} {args : List Expr} {pl : Sem Bool} {Φ : Value → AV → St → Prop}
    (h : Go o (WV B n L (eval o env) H σ fun ov d σ₁ => Go Op.methO (W B n L (getMethod ov name pl) ((ov, d) :: H) σ₁ fun p F σ₂ => ∃ d', Is B.P F p.1 d' ∧ Go Op.callw (WV B n L (callWith pos p.1 p.2 (backTo pos (starEach args env)) []) ((p.1, d') :: (ov, d) :: H) σ₂ Φ))))
    (he : eval (.Call (.Attribute o name apos) args [] pos) env = (do
      let ov ← eval o env
      standAt apos.atName
      let (f, first) ← holding [ov] (getMethod ov name pl)
      callWith pos f first (backTo pos (starEach args env)) []) := by rfl) : Go (Expr.Call (.Attribute o name apos) args [] pos) (WV B n L (eval (.Call (.Attribute o name apos) args [] pos) env) H σ Φ) := by
  show WV B n L (eval (.Call (.Attribute o name apos) args [] pos) env) H σ Φ
  rw [he]
  refine W_bindV (W_monoV h fun ov d σ₁ w => W_standB ?_)
  refine W_bindG (W_holding w) fun p F σ₂ ⟨d', hd', q⟩ => ⟨(p.1, d') :: (ov, d) :: H, fun _ h => .tail _ h, fun x hx => ?_, q⟩
  rcases List.mem_cons.mp hx with rfl | hx
  · exact .inr hd'
  · exact .inl hx
theorem g_own {x : Addr} {C dx : Addr} {fs : List (Str × AV)} {name : Str} {pl : Sem Bool} {v₀ : Value} {d : AV} {pos} {as : List (Bool × Sem Value)} {Φ : Value → AV → St → Prop} (mv : (v₀, .ref x) ∈ H) (m : (x, AO.inst C dx fs) ∈ σ.objs) (hf : GetL name d fs)
    (ho : ownName B.K C name = true) (hn : findIn B.K (.ref C) name = some none) (hd : handedAV d = true) (h : ∀ v, Go Op.callw (WV B n L (callWith pos v [] as []) ((v, d) :: H) σ Φ)) :
    Go Op.methO (W B n L (getMethod v₀ name pl) H σ fun p F σ₂ => ∃ d', Is B.P F p.1 d' ∧ Go Op.callw (WV B n L (callWith pos p.1 p.2 as []) ((p.1, d') :: H) σ₂ Φ)) :=
  A_methodOwn mv m ho hn hf.eq hd fun v F hv => ⟨d, hv, h v⟩
end
end
local macro_rules | `(tactic| walk_at "Go methO") => `(tactic| (plain_pass; refine g_own (by k_ownIn) (by k_ownIn) (by k_memK) (by k_clsL) (by k_clsL) (by rfl) ?_))
section
end
local macro_rules | `(tactic| walk_at "Go Call") => `(tactic| (plain_pass; (with_reducible show Go (Expr.Call (Expr.Attribute _ (Str.ofString "reportCharacterErrors") _) _ _ _) _); refine g_methO ?_))
section
end
local macro_rules | `(tactic| walk_at "Go Call") => `(tactic| (plain_pass; (with_reducible show Go (Expr.Call (Expr.Attribute _ (Str.ofString "state") _) _ _ _) _); refine g_methO ?_))
section
section
variable {B : Base} {n : Nat} {L : Addr} {H : List (Value × AV)} {σ : St} {env : Env}
theorem g_list0 {pos} {loc : List (Str × Option AV)} {objs : List (Addr × AO)} {Φ : Value → AV → St → Prop} (h : ∀ a, Φ (.ref a) (.ref a) ⟨loc, (a, .list []) :: objs⟩) : Go (Expr.List [] pos) (WV B n L (eval (.List [] pos) env) H ⟨loc, objs⟩ Φ) :=
  E_list (W_args0 ⟨Nat.zero_le _, h⟩)
theorem g_listF {elts : List Expr} {pos : Pos} {Φ : Value → AV → St → Prop} (h : GoV elts (WL B n L (spliced (backTo pos (starEach elts env))) H σ fun _ ds σ₁ => ds.length ≤ 16777216 ∧ ∀ v, Φ v (.lst ds) σ₁)) :
    Go (Expr.List elts pos) (WV B n L (eval (.List elts pos) env) H σ Φ) := E_listF h
theorem W_new {m : Nat} {C fI : Addr} {vs : List Value} {ds : List AV} {loc : List (Str × Option AV)} {objs : List (Addr × AO)} {Φ : Value → AV → St → Prop} {Φ₀ : Addr → Addr → AV → List (Addr × AO) → Prop} (hm : makesIn B.K C = true) (hi : findIn B.K (.ref C) "__init__" = some (some (.ref fI))) (hf : isFn B.K (.ref fI) = true)
    (c : ∀ x dx, CallJ B m fI (.ref x :: ds) ((x, .inst C dx []) :: objs) (Φ₀ x dx)) (hn : m ≤ n) (e : vs.length = ds.length) (k : ∀ p ∈ vs.zip ds, p ∈ H)
    (h : ∀ x dx d objs', Φ₀ x dx d objs' → d = .none ∧ Φ (.ref x) (.ref x) ⟨loc, objs'⟩) : WV B (n + 1) L (call (.ref C) vs) H ⟨loc, objs⟩ Φ :=
  W_make (σ := ⟨loc, objs⟩) hm hi hf e k fun x dx => ((c x dx).room hn).mono fun d o q => h x dx d o q
end
end
local macro_rules | `(tactic| walk_at "Go List") => `(tactic| (plain_pass; (with_reducible show Go (Expr.List [] _) _); refine g_list0 ?_))
section
end
local macro_rules | `(tactic| walk_at "Go List") => `(tactic| (plain_pass; (with_reducible show Go (Expr.List (_ :: _) _) _); refine g_listF ?_))
section
end
local macro_rules | `(tactic| walk_at "Br") => `(tactic| (plain_pass; (with_reducible show Br (!true) _ _); refine Br_false ?_))
section
end
local macro_rules | `(tactic| walk_at "Br") => `(tactic| (plain_pass; (with_reducible show Br (!false) _ _); refine Br_true ?_))
section
end
-- La24
section
section
variable {B : Base} {n : Nat} {L : Addr} {H : List (Value × AV)} {σ : St} {env : Env}
/-- one sign in a text -/
theorem O_inS {a b : Value} {c : Nat} {x : List Nat} {Φ : Value → AV → St → Prop} (ma : (a, .str [c]) ∈ H) (mb : (b, .str x) ∈ H) (h : ∀ v, Φ v (.bool (decide (c ∈ x))) σ) : WV B n L (compareOp .In a b) H σ Φ := W_of fun A F s hA X => by
  obtain ⟨t1, rfl⟩ := inv_str (X.hold ma); obtain ⟨t2, rfl⟩ := inv_str (X.hold mb)
  have e : (!(Builtin.Str.occurrences (S x) (S [c]) 0 (S x).length 1).isEmpty) = decide (c ∈ x) := StrLaws.found_one (S x) c
  with_reducible exact in_str (.here X ⟨_, .bool _, e ▸ h _⟩)
theorem eqv_bool (a b : Bool) : PyData.eqv (.bool a) (.bool b) = (a == b) := by cases a <;> cases b <;> first | rfl | simp [PyData.eqv]
theorem O_eqB {a b : Value} {x y : Bool} {Φ : Value → AV → St → Prop} (ma : (a, .bool x) ∈ H) (mb : (b, .bool y) ∈ H) (h : ∀ v, Φ v (.bool (x == y)) σ) : WV B n L (compareOp .Eq a b) H σ Φ :=
  O_eqD ma mb rfl rfl rfl rfl (eqv_bool x y) h
end
end
local macro_rules | `(tactic| walk_at "Go In") => `(tactic| (plain_pass; refine O_inS (by k_ownIn) (by k_ownIn) ?_))
section
end
local macro_rules | `(tactic| walk_at "Go Eq") => `(tactic| (plain_pass; refine O_eqB (by k_ownIn) (by k_ownIn) ?_))
section
/-- objects that nobody asks for any more are let go -/
theorem CallJ.drop {B : Base} {n : Nat} {f : Addr} {args : List AV} {o : List (Addr × AO)} {Φ : AV → List (Addr × AO) → Prop} (c : CallJ B n f args o fun d q => ∃ q' g, q.Perm (q' ++ g) ∧ Φ d q') : CallJ B n f args o Φ :=
  fun A F s vs hA x hv => codeAny_mono (c A F s vs hA x hv) fun r s' ⟨v, d, objs', F', a, b, y, p, q', g, e, hq⟩ => by
    have pe := owns_perm e
    rw [owns_append] at pe
    have sub : ∀ b ∈ owns q', b ∈ owns objs' := fun b hb => pe.mem_iff.mpr (List.mem_append_left _ hb)
    exact ⟨v, d, q', F', a, b, ⟨y.core, y.sub, fun p hp => y.objs p (e.mem_iff.mpr (List.mem_append_left _ hp)), (List.nodup_append.mp (pe.nodup_iff.mp y.nodup)).1, fun b hb => y.apart b (sub b hb), y.big⟩,
      ⟨p.keep, fun b hb => p.own b (sub b hb), p.frz, p.mono, p.gens, p.os⟩, hq⟩
end
-- La25
section
/-- the same, where the walk stops at the end -/
theorem CallJ.dropH {B : Base} {n : Nat} {f : Addr} {args : List AV} {o : List (Addr × AO)} {Φ : AV → List (Addr × AO) → Prop} (c : CallJ B n f args o fun d q => Hold (∃ q' g, q.Perm (q' ++ g) ∧ Φ d q')) : CallJ B n f args o Φ := CallJ.drop c
/-- an object ahead that the call doesn't see -/
theorem CallJ.ahead {B : Base} {n : Nat} {f : Addr} {args : List AV} {a : Addr × AO} {o o' : List (Addr × AO)} {d₀ : AV} (c : CallJ B n f args (o ++ [a]) fun d q => d = d₀ ∧ q = o' ++ [a]) : CallJ B n f args (a :: o) fun d q => d = d₀ ∧ q = a :: o' :=
  c.perm (List.perm_append_comm (l₁ := [a])) fun d q ⟨e1, e2⟩ => ⟨a :: o', by rw [e2]; exact List.perm_append_comm (l₂ := [a]), e1, rfl⟩
theorem inter_flat (ms : List (List Nat)) : List.intercalate [] ms = ms.flatten := by
  induction ms with
  | nil => rfl
  | cons a r ih => cases r with
    | nil => simp [List.intercalate, List.intersperse]
    | cons b r => simp only [List.intercalate, List.intersperse_cons_cons, List.flatten_cons] at ih ⊢; rw [ih]; simp
theorem textsOf_snoc : ∀ {l : List AV} {ms : List (List Nat)} {x : List Nat}, textsOf l = some ms → textsOf (l ++ [.str x]) = some (ms ++ [x])
  | [], ms, x, h => by cases h; rfl
  | .str y :: r, ms, x, h => by
    simp only [textsOf, Option.map_eq_some_iff] at h
    obtain ⟨q, h, rfl⟩ := h
    show textsOf (.str y :: (r ++ [.str x])) = _
    simp only [textsOf, textsOf_snoc h]
    rfl
theorem sl_none (l : List Nat) (i : Nat) : sl l (some i) none = l.drop i := by
  unfold sl
  have : ((none : Option Int).map (norm l.length)).getD l.length = l.length := rfl
  rw [this, List.take_length]
  show l.drop (norm l.length i) = _
  by_cases h : i ≤ l.length
  · have : norm l.length (i : Int) = i := by unfold norm; split <;> omega
    rw [this]
  · have e : norm l.length (i : Int) = l.length := by unfold norm; split <;> omega
    rw [e, List.drop_eq_nil_of_le (Nat.le_refl _), List.drop_eq_nil_of_le (by omega)]
theorem norm_nat {n i : Nat} (h : i ≤ n) : norm n (i : Int) = i := by unfold norm; split <;> omega
theorem sl_nat {l : List Nat} {i j : Nat} (h : i ≤ l.length) (h' : j ≤ l.length) : sl l (some i) (some j) = (l.take j).drop i := by
  unfold sl
  show (l.take (norm l.length j)).drop (norm l.length i) = _
  rw [norm_nat h, norm_nat h']
theorem sl_same {l : List Nat} {i : Nat} (h : i ≤ l.length) : sl l (some i) (some i) = [] := by rw [sl_nat h h]; simp
theorem sum_lens (ms : List (List Nat)) : (ms.map (·.length)).sum = ms.flatten.length := by rw [List.length_flatten]
section
variable {B : Base} {n : Nat} {L : Addr} {H : List (Value × AV)} {σ : St} {env : Env}
/-- texts side by side -/
theorem B_glue {a : Addr} {l : List AV} {ms : List (List Nat)} {v₀ v : Value} {Φ : Value → AV → St → Prop} (mv : (v₀, .str []) ∈ H) (md : (v, .ref a) ∈ H) (m : (a, AO.list l) ∈ σ.objs) (e : textsOf l = some ms)
    (hz : ms.flatten.length ≤ 16777216) (h : ∀ v, Φ v (.str ms.flatten) σ) : WV B n L (call (.builtin "str.join") [v₀, v]) H σ Φ :=
  B_join mv md m e (by rw [sum_lens]; simpa using hz) (by rw [inter_flat]; exact h)
end
end
-- La26
section
/-! ### a generator's run, one stretch after the other -/
section
variable {M : Model} {A : Around} {c : Code} {fs : List Frame} {s : Shared} {Q : End → Shared → Prop} {K : Flow → Sem Fin} {Hh : Value → Sem Fin} {gd : Bool → Bool} {lv : List Value → List Value} {env : Env}
/-- from here on to the next yield, or to the end -/
noncomputable def Sg (M : Model) (A : Around) (c : Code) (t : Sem Fin) (fs : List Frame) (s : Shared) (Q : End → Shared → Prop) : Prop :=
  ∀ Γ p, Γ.code = c → Γ.Woken A → ∃ e s', Runs M Γ p t fs s e s' ∧ (e.quiet = true ∧ Q e s')
theorem Sg.tree {α : Type} {m : Sem α} {K : α → Sem Fin} {Hh : Value → Sem Fin} (h : wpAny M (A.over c fs) m (fun a s' => Sg M A c (K a) fs s' Q) (fun x s' => Sg M A c (Hh x) fs s' Q) s) : Sg M A c (m.wrap K Hh gd lv) fs s Q := by
  rintro Γ p rfl hΓ
  exact runs_wrap_of_wp K Hh gd lv m (h (Γ.over fs) p (hΓ.over fs)) (fun a p' s' w => w Γ p' rfl hΓ) fun x p' s' w => w Γ p' rfl hΓ
theorem Sg.stand {p' : Pos} {k : Unit → Sem Fin} (h : Sg M A c (k ()) fs s Q) : Sg M A c (.at p' k) fs s Q := Sg.tree (m := standAt p') (K := k) (Hh := .raise) (gd := id) (lv := id) (wpAny_standAt h)
theorem Sg.spot {l : List Value} {k : Unit → Sem Fin} (h : Sg M A c (k ()) fs s Q) : Sg M A c (.point l k) fs s Q := Sg.tree (m := point) (K := k) (Hh := .raise) (gd := id) (lv := fun _ => l) (wpAny_point h)
theorem Sg.into {c' : Code} {h g l} {k : Result → Sem Fin} (w : ∀ p, Sg M A c' (M.den c') (.ret k h g l c p [] :: fs) s Q) : Sg M A c (.call c' h g l k) fs s Q := by
  rintro Γ p rfl hΓ
  obtain ⟨e, s', hr, q⟩ := w p (Γ.goto c') p rfl (hΓ.goto c')
  exact ⟨e, s', runs_call_seg hr, q⟩
theorem Sg.back {k h g l c₁ p₁ kp} (r : Result) (w : Sg M A c₁ (k r) fs s Q) : Sg M A c (leafOf r) (.ret k h g l c₁ p₁ kp :: fs) s Q := by
  rintro Γ p rfl hΓ
  obtain ⟨e, s', hr, q⟩ := w (Γ.goto c₁) p₁ rfl (hΓ.goto c₁)
  exact ⟨e, s', Runs.pop r hr, q⟩
theorem Sg.turn {c' : Code} (hq : c'.quiet = true) (w : Sg M A c' (M.den c') fs s Q) : Sg M A c (.pure (.again c')) fs s Q := by
  rintro Γ p rfl hΓ
  obtain ⟨e, s', hr, q⟩ := w (Γ.goto c') p rfl (hΓ.goto c')
  exact ⟨e, s', Runs.head (c₁ := c') (fun _ _ x => .again hq x) hr, q⟩
theorem Sg.over (r : Result) (h : Q (.ret r) s) : Sg M A c (leafOf r) [] s Q := by
  rintro Γ p rfl _
  exact ⟨.ret r, s, Runs.leaf r, rfl, h⟩
theorem Sg.give {v g l} {k : Resume → Sem Fin} (hfs : splitAtGen fs = none) (hg : g = false) (hfg : fs.any Frame.guarded = false) (h : ∀ p, Q (.susp v g l k c p fs) s) : Sg M A c (.yield v g l k) fs s Q := by
  rintro Γ p rfl _
  exact ⟨_, s, Runs.yield' fs hfs, by simp [End.quiet, hg, hfg], h p⟩
/-- what a sleeping generator does when it is woken -/
noncomputable def Wk (M : Model) (A : Around) (gs : GenState) (s : Shared) (Q : End → Shared → Prop) : Prop :=
  match gs with
  | .fresh c => Sg M A c (M.den c) [] s Q
  | .suspended k _ c _ fs _ => Sg M A c (k (.send .none)) fs s Q
  | _ => False
theorem wpAny_wake {E : Value → Shared → Prop} {g : Nat} {gs : GenState} {l : List Value} {α : Type} {k : GenResult → Sem α} {R : α → Shared → Prop} (hg : s.gens[g]? = some gs) (w : Wk M A gs (s.setGen g .running) Q)
    (h : ∀ e s₁, e.quiet = true → Q e s₁ → wpAny M A (k e.result) R E (s₁.setGen g e.genState)) : wpAny M A (.resume g (.send .none) l k) R E s := by
  intro Γ p hΓ
  rw [Sem.wp_resume]
  cases gs with
  | running => exact w.elim
  | finished => exact w.elim
  | fresh c =>
    obtain ⟨e, s', hr, q, z⟩ := w (Γ.wake c p) p rfl (hΓ.wake c p)
    exact ⟨_, _, by unfold Wakes; rw [hg]; exact ⟨e, s', hr, q, rfl, rfl⟩, h e s' q z Γ p hΓ⟩
  | suspended k₀ l₀ c p₀ fs cl =>
    obtain ⟨e, s', hr, q, z⟩ := w (Γ.wake c p) p₀ rfl (hΓ.wake c p)
    exact ⟨_, _, by unfold Wakes; rw [hg]; exact ⟨e, s', hr, q, rfl, rfl⟩, h e s' q z Γ p hΓ⟩
theorem Sg.steps {st : Stmt} {rest : List Stmt} (h : Sg M A c ((exec st env).wrap (fun f => match f with | .next => (execs rest env).wrap K Hh gd lv | f => K f) Hh gd lv) fs s Q) : Sg M A c ((execs (st :: rest) env).wrap K Hh gd lv) fs s Q := by
  rw [execs_cons_wrap]; exact h
theorem Sg.yields {e : Expr} {yp pos : Pos} (hfs : splitAtGen fs = none) (hgd : gd false = false) (hfg : fs.any Frame.guarded = false)
    (h : wpAny M (A.over c fs) (eval e env) (fun v s' => ∀ l k p, k (.send .none) = K .next → Q (.susp v (gd false) l k c p fs) s') (fun _ _ => False) s) (hco : env.scope.isCoroutine = false) (hi : interactive env = false) :
    Sg M A c ((exec (.Expr (.Yield (some e) yp) pos) env).wrap K Hh gd lv) fs s Q := by
  rw [exec_Expr env _ pos hi rfl]
  have hy : ∀ v, yieldOut env v = yieldValue v := fun v => by simp only [yieldOut, hco, Bool.false_eq_true, if_false]
  show Sg M A c (.at pos fun _ => ((eval e env >>= fun v => (standAt yp >>= fun _ => yieldOut env v)) >>= fun x => dropValue (.Yield (some e) yp) pos x).wrap K Hh gd lv) fs s Q
  simp only [hy]
  refine Sg.stand ?_
  rw [Sem.bind_eq_wrap', Sem.bind_eq_wrap', Sem.wrap_wrap, Sem.wrap_wrap]
  refine Sg.tree (wpAny_mono h (fun v s' z => ?_) fun _ _ z => z.elim)
  exact Sg.stand (Sg.give hfs hgd hfg fun p => z _ _ p rfl)
theorem Sg.whiles {test : Expr} {body : List Stmt} {pos : Pos}
    (h : ∀ p k, (∀ f, k (.ok f) = K f) → Sg M A (.whileLoop test body [] env) (M.den (.whileLoop test body [] env)) (.ret k none (gd false) (lv []) c p [] :: fs) s Q) : Sg M A c ((exec (.While test body [] pos) env).wrap K Hh gd lv) fs s Q :=
  Sg.stand (Sg.into fun p => h p _ fun f => rfl)
end
section
variable {prog : Program} {w : World} {A : Around} {fs : List Frame} {s : Shared} {Q : End → Shared → Prop} {env : Env}
theorem Sg.round {test : Expr} {body : List Stmt} (h : wpAny (model prog w) (A.over (.whileLoop test body [] env) fs) (isTrue test env (eval test env)) (fun b s' =>
      (b = true → ∀ Hh, Sg (model prog w) A (.whileLoop test body [] env) ((execs body env).wrap (fun f => match f with
        | .next | .cont => .pure (.again (.whileLoop test body [] env))
        | .brk => .pure (.done .next)
        | .ret v => .pure (.done (.ret v))) Hh id id) fs s' Q) ∧
      (b = false → Sg (model prog w) A (.whileLoop test body [] env) (.pure (.done .next)) fs s' Q)) (fun _ _ => False) s) :
    Sg (model prog w) A (.whileLoop test body [] env) ((model prog w).den (.whileLoop test body [] env)) fs s Q := by
  show Sg _ A _ ((whileTurn test body [] env).onRaise (fun x => do noteFrame x env; theTreesLotGoes x)) fs s Q
  unfold whileTurn
  rw [Sem.onRaise_eq_wrap, Sem.bind_eq_wrap', Sem.wrap_wrap]
  refine Sg.tree (wpAny_mono h (fun b s' z => ?_) fun _ _ z => z.elim)
  cases b with
  | true =>
    show Sg _ A _ (Sem.wrap _ _ _ _ (execs body env >>= _)) fs s' Q
    rw [Sem.bind_eq_wrap', Sem.wrap_wrap]
    rw [Sem.wrap_congr (execs body env) (K' := fun f => match f with
        | .next | .cont => .pure (.again (.whileLoop test body [] env))
        | .brk => .pure (.done .next)
        | .ret v => .pure (.done (.ret v))) _ _ (fun f => by cases f <;> rfl) (fun e => rfl)]
    exact z.1 rfl _
  | false => exact z.2 rfl
theorem Sg.body {body : List Stmt} (h : ∀ Hh, Sg (model prog w) A (.func body env) ((execs body env).wrap (fun f => .pure (.done (.ret (match f with | .ret v => v | _ => .none)))) Hh id id) fs s Q) :
    Sg (model prog w) A (.func body env) ((model prog w).den (.func body env)) fs s Q := by
  show Sg _ A _ (.point [] fun _ => ((execs body env).onRaise (leaving env)) >>= _) fs s Q
  refine Sg.spot ?_
  rw [Sem.onRaise_eq_wrap, Sem.bind_eq_wrap', Sem.wrap_wrap]
  rw [Sem.wrap_congr (execs body env) (K' := fun f => .pure (.done (.ret (match f with | .ret v => v | _ => .none)))) _ _ (fun f => by cases f <;> rfl) (fun e => rfl)]
  exact h _
end
end
-- La27
section
theorem Sg.mono {M : Model} {A : Around} {c : Code} {t : Sem Fin} {fs : List Frame} {s : Shared} {Q Q' : End → Shared → Prop} (h : Sg M A c t fs s Q) (k : ∀ e s', Q e s' → Q' e s') : Sg M A c t fs s Q' := fun Γ p e hΓ =>
  let ⟨x, s', hr, q, z⟩ := h Γ p e hΓ; ⟨x, s', hr, q, k _ _ z⟩
section
variable {γ : Type}
/-- what a stretch of the generator ends in, when these are still to come -/
noncomputable def Ends (B : Base) (m : Nat) (L : Addr) (YJ : γ → AV → List (Addr × AO) → Prop) (RJ : List (Addr × AO) → Prop) : List γ → List Addr → Fz → Shared → End → Shared → Prop
  | [] => fun O F s e s₁ => e = .ret (.ok (.ret .none)) ∧ ∃ F' σ', Holds B.P B.G L F' [] σ' s₁.heap ∧ Pres O F s (L :: owns σ'.objs) F' s₁ ∧ RJ σ'.objs
  | x :: tr => fun O F s e s₁ => ∃ v g l k c p fs F' σ' d, e = .susp v g l k c p fs ∧ Holds B.P B.G L F' [(v, d)] σ' s₁.heap ∧ Pres O F s (L :: owns σ'.objs) F' s₁ ∧ YJ x d σ'.objs ∧
      ∀ A F₂ s₂, Room m A → Holds B.P B.G L F₂ [] σ' s₂.heap → Sg B.M A c (k (.send .none)) fs s₂ (Ends B m L YJ RJ tr (L :: owns σ'.objs) F₂ s₂)
variable {B : Base} {m n : Nat} {L : Addr} {YJ : γ → AV → List (Addr × AO) → Prop} {RJ : List (Addr × AO) → Prop}
theorem Ends.trans {tr : List γ} {O O' : List Addr} {F F' : Fz} {s s' s₁ : Shared} {e : End} (p : Pres O F s O' F' s') (h : Ends B m L YJ RJ tr O' F' s' e s₁) : Ends B m L YJ RJ tr O F s e s₁ := by
  cases tr with
  | nil =>
    obtain ⟨rfl, F₁, σ₁, x, q, r⟩ := h
    exact ⟨rfl, F₁, σ₁, x, p.trans q, r⟩
  | cons x tr =>
    obtain ⟨v, g, l, k, c, p', fs, F₁, σ₁, d, rfl, x, q, r⟩ := h
    exact ⟨v, g, l, k, c, p', fs, F₁, σ₁, d, rfl, x, p.trans q, r⟩
/-- the generator's tree, from a state that σ tells -/
structure GW (B : Base) (m : Nat) (L : Addr) (YJ : γ → AV → List (Addr × AO) → Prop) (RJ : List (Addr × AO) → Prop) (c : Code) (fs : List Frame) (t : Sem Fin) (tr : List γ) (σ : St) : Prop where
  run : ∀ A F s, Room m A → Holds B.P B.G L F [] σ s.heap → Sg B.M A c t fs s (Ends B m L YJ RJ tr (L :: owns σ.objs) F s)
variable {c : Code} {fs : List Frame} {tr : List γ} {σ : St} {K : Flow → Sem Fin} {Hh : Value → Sem Fin} {gd : Bool → Bool} {lv : List Value → List Value} {env : Env}
noncomputable def OverRoom (m n : Nat) (c : Code) (fs : List Frame) : Prop := ∀ A, Room m A → Room n (A.over c fs)
theorem GW.bind {α : Type} {t : Sem α} {K : α → Sem Fin} (hr : OverRoom m n c fs) (h : W B n L t [] σ fun a _ σ' => GW B m L YJ RJ c fs (K a) tr σ') : GW B m L YJ RJ c fs (t.wrap K Hh gd lv) tr σ := ⟨fun A F s hA X =>
  Sg.tree (wpAny_mono (h.run _ F s (hr A hA) X) (fun a s' ⟨F', σ', X', p, w⟩ => (w.run A F' s' hA X').mono fun _ _ z => z.trans p) fun _ _ z => z.elim)⟩
theorem GW.stmt {st : Stmt} (hr : OverRoom m n c fs) (h : WF B n L (exec st env) [] σ fun e σ' => e = .next ∧ GW B m L YJ RJ c fs (K .next) tr σ') : GW B m L YJ RJ c fs ((exec st env).wrap K Hh gd lv) tr σ :=
  GW.bind hr ⟨fun A F s hA X => wpAny_mono (h.run A F s hA X) (fun f s' ⟨F', σ', X', p, e, he, q, w⟩ => ⟨F', σ', X', p, by subst q; cases f <;> first | exact w | exact he.elim⟩) fun _ _ z => z⟩
theorem GW.steps {st : Stmt} {rest : List Stmt} (h : GW B m L YJ RJ c fs ((exec st env).wrap (fun f => match f with | .next => (execs rest env).wrap K Hh gd lv | f => K f) Hh gd lv) tr σ) : GW B m L YJ RJ c fs ((execs (st :: rest) env).wrap K Hh gd lv) tr σ :=
  ⟨fun A F s hA X => Sg.steps (h.run A F s hA X)⟩
theorem GW.yields {x : γ} {e : Expr} {yp pos : Pos} (hr : OverRoom m n c fs) (hfs : splitAtGen fs = none) (hgd : gd false = false) (hfg : fs.any Frame.guarded = false)
    (h : WV B n L (eval e env) [] σ fun v d σ' => YJ x d σ'.objs ∧ GW B m L YJ RJ c fs (K .next) tr σ') (hco : env.scope.isCoroutine = false) (hi : interactive env = false) :
    GW B m L YJ RJ c fs ((exec (.Expr (.Yield (some e) yp) pos) env).wrap K Hh gd lv) (x :: tr) σ := ⟨fun A F s hA X =>
  Sg.yields hfs hgd hfg (wpAny_mono (h.run _ F s (hr A hA) X) (fun v s' ⟨F', σ', X', p, d, hd, y, w⟩ l k p' hk => ⟨v, gd false, l, k, c, p', fs, F', σ', d, rfl, X'.push hd, p, y, fun A F₂ s₂ hA X₂ => by rw [hk]; exact w.run A F₂ s₂ hA X₂⟩) fun _ _ z => z) hco hi⟩
theorem GW.whiles {test : Expr} {body : List Stmt} {pos : Pos}
    (h : ∀ p k, (∀ f, k (.ok f) = K f) → GW B m L YJ RJ (.whileLoop test body [] env) (.ret k none (gd false) (lv []) c p [] :: fs) (B.M.den (.whileLoop test body [] env)) tr σ) : GW B m L YJ RJ c fs ((exec (.While test body [] pos) env).wrap K Hh gd lv) tr σ :=
  ⟨fun A F s hA X => Sg.whiles fun p k e => (h p k e).run A F s hA X⟩
theorem GW.round {test : Expr} {body : List Stmt} (hr : OverRoom m n (.whileLoop test body [] env) fs) (h : WB B n L (isTrue test env (eval test env)) [] σ fun b σ' =>
      (b = true → ∀ Hh, GW B m L YJ RJ (.whileLoop test body [] env) fs ((execs body env).wrap (fun f => match f with
        | .next | .cont => .pure (.again (.whileLoop test body [] env))
        | .brk => .pure (.done .next)
        | .ret v => .pure (.done (.ret v))) Hh id id) tr σ') ∧
      (b = false → GW B m L YJ RJ (.whileLoop test body [] env) fs (.pure (.done .next)) tr σ')) : GW B m L YJ RJ (.whileLoop test body [] env) fs (B.M.den (.whileLoop test body [] env)) tr σ :=
  ⟨fun A F s hA X => Sg.round (wpAny_mono (h.run _ F s (hr A hA) X) (fun b s' ⟨F', σ', X', p, w⟩ => ⟨fun e Hh => ((w.1 e Hh).run A F' s' hA X').mono fun _ _ z => z.trans p, fun e => ((w.2 e).run A F' s' hA X').mono fun _ _ z => z.trans p⟩) fun _ _ z => z)⟩
theorem GW.turn {c' : Code} (hq : c'.quiet = true) (h : GW B m L YJ RJ c' fs (B.M.den c') tr σ) : GW B m L YJ RJ c fs (.pure (.again c')) tr σ := ⟨fun A F s hA X => Sg.turn hq (h.run A F s hA X)⟩
theorem GW.back {k : Result → Sem Fin} {h' g l c₁ p₁ kp} {f : Flow} (h : GW B m L YJ RJ c₁ fs (k (.ok f)) tr σ) : GW B m L YJ RJ c (.ret k h' g l c₁ p₁ kp :: fs) (.pure (.done f)) tr σ := ⟨fun A F s hA X => Sg.back (.ok f) (h.run A F s hA X)⟩
theorem GW.body {body : List Stmt} (h : ∀ Hh, GW B m L YJ RJ (.func body env) fs ((execs body env).wrap (fun f => .pure (.done (.ret (match f with | .ret v => v | _ => .none)))) Hh id id) tr σ) :
    GW B m L YJ RJ (.func body env) fs (B.M.den (.func body env)) tr σ := ⟨fun A F s hA X => Sg.body fun Hh => (h Hh).run A F s hA X⟩
theorem GW.over (h : RJ σ.objs) : GW B m L YJ RJ c [] (.pure (.done (.ret .none))) [] σ := ⟨fun A F s hA X => Sg.over (.ok (.ret .none)) ⟨rfl, F, σ, X, .refl _ _ _, h⟩⟩
theorem over_func {body : List Stmt} : OverRoom (n + 1) n (.func body env) [] := fun A hA => by
  have h1 : (Code.func body env).weight = 1 := by rfl
  have h2 : (Code.func body env).cUnits = 3 := by rfl
  refine ⟨hA.handled, ?_, ?_⟩
  · have := hA.depth
    show A.depth + frameCount ([].map Frame.where_) + (Code.func body env).weight + n ≤ 900
    rw [h1]; simp [frameCount]; omega
  · have := hA.units
    show A.units + unitsOf ([].map Frame.where_) + (Code.func body env).cUnits + 8 * n ≤ 9000
    rw [h2]; simp [unitsOf]; omega
theorem over_while {test : Expr} {body : List Stmt} {env' : Env} {k : Result → Sem Fin} {g l p kp} (h : OverRoom m n c fs) : OverRoom m n (.whileLoop test body [] env') (.ret k none g l c p kp :: fs) := fun A hA => by
  obtain ⟨r1, r2, r3⟩ := h A hA
  have h1 : (Code.whileLoop test body [] env').weight = 0 := by rfl
  have h2 : (Code.whileLoop test body [] env').cUnits = 0 := by rfl
  refine ⟨?_, ?_, ?_⟩
  · exact r1
  · have : A.depth + frameCount (fs.map Frame.where_) + c.weight + n ≤ 900 := r2
    show A.depth + frameCount ((Frame.ret k none g l c p kp :: fs).map Frame.where_) + (Code.whileLoop test body [] env').weight + n ≤ 900
    rw [h1, List.map_cons, show (Frame.ret k none g l c p kp).where_ = (c, p) from rfl, frameCount_cons]; omega
  · have : A.units + unitsOf (fs.map Frame.where_) + c.cUnits + 8 * n ≤ 9000 := r3
    show A.units + unitsOf ((Frame.ret k none g l c p kp :: fs).map Frame.where_) + (Code.whileLoop test body [] env').cUnits + 8 * n ≤ 9000
    rw [h2, List.map_cons, show (Frame.ret k none g l c p kp).where_ = (c, p) from rfl, unitsOf_cons]; omega
end
section
variable {γ : Type} {B : Base} {m n : Nat} {L : Addr} {YJ : γ → AV → List (Addr × AO) → Prop} {RJ : List (Addr × AO) → Prop} {c : Code} {fs : List Frame} {tr : List γ} {K : Flow → Sem Fin} {Hh : Value → Sem Fin} {gd : Bool → Bool} {lv : List Value → List Value} {env : Env} {t : Sem Fin}
theorem GW.perm {loc : List (Str × Option AV)} {objs objs' rest : List (Addr × AO)} (e : objs.Perm (objs' ++ rest)) (h : GW B m L YJ RJ c fs t tr ⟨loc, objs'⟩) : GW B m L YJ RJ c fs t tr ⟨loc, objs⟩ := ⟨fun A F s hA X => by
  refine (h.run A F s hA (X.drop e)).mono fun x s' z => z.trans ?_
  have pe := owns_perm e
  rw [owns_append] at pe
  refine ⟨fun _ _ _ e => e, fun b hb => .inl ?_, fun _ _ e => .inl e, .refl F, .refl _, rfl⟩
  rcases List.mem_cons.mp hb with rfl | hb
  · exact .head _
  · exact .tail _ (pe.mem_iff.mpr (List.mem_append_left _ hb))⟩
/-- the same with keys -/
theorem GW.stmtH {st : Stmt} {σ : St} (hr : OverRoom m n c fs) (h : GoS st (WF B n L (exec st env) [] σ fun e σ' => Hold (e = .next ∧ GW B m L YJ RJ c fs (K .next) tr σ'))) : GW B m L YJ RJ c fs ((exec st env).wrap K Hh gd lv) tr σ := GW.stmt hr h
theorem GW.yieldsH {x : γ} {e : Expr} {yp pos : Pos} {σ : St} (hr : OverRoom m n c fs) (hfs : splitAtGen fs = none) (hfg : fs.any Frame.guarded = false)
    (h : Go e (WV B n L (eval e env) [] σ fun _ d σ' => Hold (YJ x d σ'.objs ∧ GW B m L YJ RJ c fs (K .next) tr σ'))) (hgd : gd false = false := by rfl) (hco : env.scope.isCoroutine = false := by rfl) (hi : interactive env = false := by rfl) :
    GW B m L YJ RJ c fs ((exec (.Expr (.Yield (some e) yp) pos) env).wrap K Hh gd lv) (x :: tr) σ := GW.yields hr hfs hgd hfg h hco hi
theorem GW.roundH {test : Expr} {body : List Stmt} {σ : St} (hr : OverRoom m n (.whileLoop test body [] env) fs) (h : GoT test (WB B n L (isTrue test env (eval test env)) [] σ fun b σ' => Br b
      (Hold (∀ Hh, GW B m L YJ RJ (.whileLoop test body [] env) fs ((execs body env).wrap (fun f => match f with
        | .next | .cont => .pure (.again (.whileLoop test body [] env))
        | .brk => .pure (.done .next)
        | .ret v => .pure (.done (.ret v))) Hh id id) tr σ'))
      (Hold (GW B m L YJ RJ (.whileLoop test body [] env) fs (.pure (.done .next)) tr σ')))) : GW B m L YJ RJ (.whileLoop test body [] env) fs (B.M.den (.whileLoop test body [] env)) tr σ := GW.round hr h
end
end
-- La28
section
/-! ### a generator is asked for its next item -/
section
variable {prog : Program} {w : World} {A : Around} {E : Value → Shared → Prop} {s : Shared}
theorem next_wake {a : Addr} {g : Nat} {gs : GenState} {Q₀ : End → Shared → Prop} {Q : Option Value → Shared → Prop} (hh : A.handled = none) (hl : s.heap.NoLimit) (hroom : A.depth < recursionLimit) (hg : s.heap.IsGen a g) (hgs : s.gens[g]? = some gs)
    (wk : Wk (model prog w) A.in1 gs (s.setGen g .running) Q₀)
    (h : ∀ e s₁, e.quiet = true → Q₀ e s₁ → match e with
      | .susp v g₀ l k c p fs => Q (some v) (s₁.setGen g (End.susp v g₀ l k c p fs).genState)
      | .ret r => r = .ok (.ret .none) ∧ ∀ h', (∀ b o, s₁.heap.get? b = some o → h'.get? b = some o) → Q none { s₁.setGen g .finished with heap := h' }) :
    wpAny (model prog w) A (pyNext (.ref a)) Q E s := by
  unfold pyNext
  refine wpAny_bind (wpAny_attempt (wpAny_callSpecial?_slot (name := Str.ofString "__next__") hg.typeIs slot_gen_next (wpAny_call_entry slot_gen_next hg.typeIs entry_gen_next ?_ (args_gen_next _))))
  show wpAny _ _ (Builtin.Generator.genWake (.ref a) (.send .none)) _ _ s
  unfold Builtin.Generator.genWake
  refine wpAny_bind (wpAny_holding (wpAny_genNumber hg (wpAny_bind (wpAny_genState hgs ?_))))
  cases gs with
  | running => exact wk.elim
  | finished => exact wk.elim
  | _ =>
    refine wpAny_bind (wpAny_roomToWake hl hroom ?_)
    show wpAny _ _ (.resume g (.send .none) [] _) _ _ s
    refine wpAny_wake hgs wk (fun e s₁ hq z => ?_)
    cases e with
    | susp v g₀ l k c p fs => exact wpAny_pure ⟨v, rfl, wpAny_pure (h _ s₁ hq z)⟩
    | ret r =>
      obtain ⟨rfl, z'⟩ := h _ s₁ hq z
      show wpAny _ _ (newExc (.type "StopIteration") [] >>= _) _ _ _
      refine wpAny_bind ?_
      simp only [newExc, newTuple]
      refine wpAny_bind (wpAny_newObj_type ?_ (by size_fits))
      refine wpAny_bind (m := firstArgMember _ _) (wpAny_of_eq (a := Value.none) (by first | rfl | (simp only [firstArgMember]; rfl)) ?_)
      refine wpAny_newObj_type ?_ (by size_fits)
      simp only [raiseNew]
      refine wpAny_bind (wpAny_bind (wpAny_handled ?_))
      rw [show A.in1.handled = none from hh]
      refine wpAny_throw ?_
      refine wpAny_bind (wpAny_isInstance (T := "StopIteration") (b := true) ⟨_, Heap.get?_push_size _ rfl, rfl⟩ isSubtype_stop ?_)
      exact wpAny_pure (z' _ fun b o hb => Heap.get?_push_of_some _ (Heap.get?_push_of_some _ hb))
end

theorem Shared.set_set (s : Shared) (g : Nat) (x y : GenState) : (s.setGen g x).setGen g y = s.setGen g y := by
  unfold Shared.setGen; simp
theorem GensTo.fin {a b : Array GenState} {g : Nat} {x : GenState} (h : GensTo a b) (hg : a[g]? = some x) : GensTo (a.setIfInBounds g .finished) (b.setIfInBounds g .finished) := by
  have ha : g < a.size := by by_cases q : g < a.size; exact q; simp [q] at hg
  have hb : g < b.size := by
    have := h.keep g x hg
    by_cases q : g < b.size; exact q; simp [q] at this
  refine ⟨fun i y e => ?_, fun i y e => ?_⟩
  · rw [Array.getElem?_setIfInBounds] at e ⊢
    by_cases q : g = i
    · subst q; rw [if_pos rfl, if_pos ha] at e; rw [if_pos rfl, if_pos hb]; exact e
    · rw [if_neg q] at e; rw [if_neg q]; exact h.keep i y e
  · rw [Array.getElem?_setIfInBounds] at e
    by_cases q : g = i
    · subst q; rw [if_pos rfl, if_pos hb] at e; cases e; exact .inr rfl
    · rw [if_neg q] at e
      rw [Array.getElem?_setIfInBounds, if_neg q]
      exact h.bare i y e
/-- the generator is taken as ended -/
noncomputable abbrev fin (g : Nat) (s : Shared) : Shared := s.setGen g .finished
theorem Pres.fin {O O' : List Addr} {F F' : Fz} {s s' : Shared} {g : Nat} {x : GenState} (p : Pres O F s O' F' s') (hg : s.gens[g]? = some x) : Pres O F (fin g s) O' F' (fin g s') :=
  ⟨p.keep, p.own, p.frz, p.mono, p.gens.fin hg, p.os⟩

section
variable {γ : Type} {B : Base} {m n : Nat} {L : Addr} {YJ : γ → AV → List (Addr × AO) → Prop} {RJ : List (Addr × AO) → Prop} {tr : List γ}
/-- the frame of the generator, as an object of the one who asks it -/
structure Live (B : Base) (m : Nat) (Lg : Addr) (YJ : γ → AV → List (Addr × AO) → Prop) (RJ : List (Addr × AO) → Prop) (tr : List γ) (o : Obj) (gobjs : List (Addr × AO)) (F : Fz) (gs : GenState) : Prop where
  it : ∃ gloc : List (Str × Option AV), (∃ mm, (∀ h : Heap, h.get? Lg = some o → h.Ns Lg mm) ∧ ∀ x d, (x, some d) ∈ gloc → ∃ v, mm x = some v ∧ Is B.P F v d) ∧ (gloc.map (·.1)).Nodup ∧
    ∀ A F s, Room m A → Holds B.P B.G Lg F [] ⟨gloc, gobjs⟩ s.heap → Wk B.M A gs s (Ends B m Lg YJ RJ tr (Lg :: owns gobjs) F s)
  low : B.G.objs.size ≤ Lg
theorem Live.mono {Lg : Addr} {o : Obj} {gobjs : List (Addr × AO)} {F F' : Fz} {gs : GenState} (h : Live B m Lg YJ RJ tr o gobjs F gs) (k : F.le F') : Live B m Lg YJ RJ tr o gobjs F' gs := by
  obtain ⟨⟨gloc, ⟨mm, a, b⟩, c, d⟩, e⟩ := h
  exact ⟨⟨gloc, ⟨mm, a, fun x d hx => let ⟨v, q, r⟩ := b x d hx; ⟨v, q, r.mono k⟩⟩, c, d⟩, e⟩
/-- the frame as it stands -/
noncomputable abbrev frO (Lg : Addr) (o : Obj) : Addr × AO := (Lg, .is (· = o))
variable {H : List (Value × AV)} {loc : List (Str × Option AV)} {gobjs own : List (Addr × AO)} {Lg : Addr} {o : Obj} {F : Fz}
theorem Holds.inner {h : Heap} {gloc : List (Str × Option AV)} (X : Holds B.P B.G L F H ⟨loc, frO Lg o :: (gobjs ++ own)⟩ h) (low : B.G.objs.size ≤ Lg) (nd : (gloc.map (·.1)).Nodup)
    (hl : ∃ mm, (∀ h : Heap, h.get? Lg = some o → h.Ns Lg mm) ∧ ∀ x d, (x, some d) ∈ gloc → ∃ v, mm x = some v ∧ Is B.P F v d) : Holds B.P B.G Lg F [] ⟨gloc, gobjs⟩ h := by
  obtain ⟨o', e1, e2⟩ := X.objs _ (.head _)
  have nd2 := (List.nodup_cons.mp X.nodup).2
  have e : owns (frO Lg o :: (gobjs ++ own)) = (Lg :: owns gobjs) ++ owns own := by simp [owns, AO.more, owns_append]
  rw [show owns (⟨loc, frO Lg o :: (gobjs ++ own)⟩ : St).objs = _ from e] at nd2
  refine ⟨X.core, X.sub, ?_, nd, fun p hp => X.objs p (.tail _ (List.mem_append_left _ hp)), (List.nodup_append.mp nd2).1, fun b hb => X.apart b (.tail _ (by rw [show owns (⟨loc, frO Lg o :: (gobjs ++ own)⟩ : St).objs = _ from e]; exact List.mem_append_left _ hb)), fun _ hp => (nomatch hp), low⟩
  obtain ⟨mm, a, b⟩ := hl
  exact ⟨mm, a h (by rw [e1, e2]), b⟩
theorem Holds.outer {s s₁ : Shared} {F' : Fz} {H' : List (Value × AV)} {σ' : St} (X : Holds B.P B.G L F H ⟨loc, frO Lg o :: (gobjs ++ own)⟩ s.heap) (Y : Holds B.P B.G Lg F' H' σ' s₁.heap) (p : Pres (Lg :: owns gobjs) F s (Lg :: owns σ'.objs) F' s₁) :
    ∃ o', (∃ mm, (∀ h : Heap, h.get? Lg = some o' → h.Ns Lg mm) ∧ ∀ x d, (x, some d) ∈ σ'.loc → ∃ v, mm x = some v ∧ Is B.P F' v d) ∧
      Holds B.P B.G L F' H ⟨loc, frO Lg o' :: (σ'.objs ++ own)⟩ s₁.heap ∧ Pres (L :: owns (frO Lg o :: (gobjs ++ own))) F s (L :: owns (frO Lg o' :: (σ'.objs ++ own))) F' s₁ := by
  obtain ⟨mm, ⟨o', es, ep, e1, e2⟩, e3⟩ := Y.loc
  have e : ∀ o (g : List (Addr × AO)), owns (frO Lg o :: (g ++ own)) = (Lg :: owns g) ++ owns own := fun o g => by simp [owns, AO.more, owns_append]
  have nd := X.nodup
  rw [show owns (⟨loc, frO Lg o :: (gobjs ++ own)⟩ : St).objs = _ from e o gobjs] at nd
  obtain ⟨nL, nd2⟩ := List.nodup_cons.mp nd
  obtain ⟨n1, n2, n3⟩ := List.nodup_append.mp nd2
  have there : ∀ b ∈ L :: owns own, ∃ y, s.heap.get? b = some y := fun b hb => X.there b (by
    rw [show owns (⟨loc, frO Lg o :: (gobjs ++ own)⟩ : St).objs = _ from e o gobjs]
    rcases List.mem_cons.mp hb with rfl | hb
    · exact .head _
    · exact .tail _ (List.mem_append_right _ hb))
  -- what the asker has is none of the generator's
  have apart : ∀ b ∈ L :: owns own, b ∉ Lg :: owns gobjs := fun b hb hm => by
    rcases List.mem_cons.mp hb with rfl | hb
    · exact nL (List.mem_append_left _ hm)
    · exact n3 b hm b hb rfl
  have apart' : ∀ b ∈ L :: owns own, b ∉ Lg :: owns σ'.objs := fun b hb hm => by
    rcases p.own b hm with z | z
    · exact apart b hb z
    · obtain ⟨y, hy⟩ := there b hb; rw [hy] at z; cases z
  have keep : ∀ b ∈ L :: owns own, ∀ y, s.heap.get? b = some y → s₁.heap.get? b = some y := fun b hb y hy => p.keep b y (apart b hb) hy
  have noF : ∀ b ∈ L :: owns own, F' b = none := fun b hb => by
    cases q : F' b with
    | none => rfl
    | some y =>
      rcases p.frz b y q with z | z | z
      · rw [X.apart b (by
          rw [show owns (⟨loc, frO Lg o :: (gobjs ++ own)⟩ : St).objs = _ from e o gobjs]
          rcases List.mem_cons.mp hb with rfl | hb
          · exact .head _
          · exact .tail _ (List.mem_append_right _ hb))] at z; cases z
      · exact absurd z (apart b hb)
      · obtain ⟨y', hy⟩ := there b hb; rw [hy] at z; cases z
  refine ⟨o', ⟨mm, fun h eh => ⟨o', es, ep, eh, e2⟩, e3⟩, ⟨Y.core, Y.sub, ?_, X.names, fun q hq => ?_, ?_, fun b hb => ?_, fun q hq => (X.held q hq).mono p.mono, X.low⟩, ⟨fun b y hb => p.keep b y fun hm => hb ?_, fun b hb => ?_, fun b y h => ?_, p.mono, p.gens, p.os⟩⟩
  · obtain ⟨mL, ⟨oL, esL, epL, l1, l2⟩, l3⟩ := X.loc
    exact ⟨mL, ⟨oL, esL, epL, keep L (.head _) _ l1, l2⟩, fun x d hx => let ⟨v, a, b⟩ := l3 x d hx; ⟨v, a, b.mono p.mono⟩⟩
  · rcases List.mem_cons.mp hq with rfl | hq
    · exact ⟨o', e1, rfl⟩
    · rcases List.mem_append.mp hq with hq | hq
      · exact Y.objs q hq
      · exact (X.objs q (.tail _ (List.mem_append_right _ hq))).move p.mono fun b y hb => keep b (.tail _ (owns_mem.mpr ⟨q, hq, hb⟩)) y
  · show (L :: owns (frO Lg o' :: (σ'.objs ++ own))).Nodup
    rw [e]
    refine List.nodup_cons.mpr ⟨fun hm => ?_, List.nodup_append.mpr ⟨Y.nodup, n2, fun a ha b hb q => apart' b (.tail _ hb) (q ▸ ha)⟩⟩
    rcases List.mem_append.mp hm with hm | hm
    · exact apart' L (.head _) hm
    · exact nL (List.mem_append_right _ hm)
  · rw [show owns (⟨loc, frO Lg o' :: (σ'.objs ++ own)⟩ : St).objs = _ from e o' σ'.objs] at hb
    rcases List.mem_cons.mp hb with rfl | hb
    · exact noF _ (.head _)
    · rcases List.mem_append.mp hb with hb | hb
      · exact Y.apart b hb
      · exact noF b (.tail _ hb)
  · rw [e]; exact .tail _ (List.mem_append_left _ hm)
  · rw [e] at hb
    rw [e]
    rcases List.mem_cons.mp hb with rfl | hb
    · exact .inl (.head _)
    · rcases List.mem_append.mp hb with hb | hb
      · exact (p.own b hb).imp_left fun h => .tail _ (List.mem_append_left _ h)
      · exact .inl (.tail _ (List.mem_append_right _ hb))
  · rw [e]
    exact (p.frz b y h).imp_right (Or.imp_left fun h => .tail _ (List.mem_append_left _ h))

/-- the one who asks goes on -/
noncomputable def Asked (B : Base) (m : Nat) (L Lg : Addr) (YJ : γ → AV → List (Addr × AO) → Prop) (RJ : List (Addr × AO) → Prop) (H : List (Value × AV)) (loc : List (Str × Option AV)) (own : List (Addr × AO)) (O : List Addr) (F : Fz) (g : Nat) (s : Shared) : List γ → Option Value → Shared → Prop
  | [], r, s' => r = none ∧ ∃ F' gobjs' o', Holds B.P B.G L F' H ⟨loc, frO Lg o' :: (gobjs' ++ own)⟩ s'.heap ∧ Pres O F (fin g s) (L :: owns (frO Lg o' :: (gobjs' ++ own))) F' s' ∧ RJ gobjs'
  | x :: tr, r, s' => ∃ v d F' gobjs' o' gs', r = some v ∧ Is B.P F' v d ∧ YJ x d gobjs' ∧ Holds B.P B.G L F' H ⟨loc, frO Lg o' :: (gobjs' ++ own)⟩ s'.heap ∧ Pres O F (fin g s) (L :: owns (frO Lg o' :: (gobjs' ++ own))) F' (fin g s') ∧ s'.gens[g]? = some gs' ∧ Live B m Lg YJ RJ tr o' gobjs' F' gs'
theorem ask {A : Around} {s : Shared} {a : Addr} {g : Nat} {gs : GenState} (hA : Room (m + 1) A) (X : Holds B.P B.G L F H ⟨loc, frO Lg o :: (gobjs ++ own)⟩ s.heap) (hg : s.heap.IsGen a g) (hgs : s.gens[g]? = some gs) (lv : Live B m Lg YJ RJ tr o gobjs F gs) :
    wpAny B.M A (pyNext (.ref a)) (Asked B m L Lg YJ RJ H loc own (L :: owns (frO Lg o :: (gobjs ++ own))) F g s tr) (fun _ _ => False) s := by
  obtain ⟨⟨gloc, hl, hn, wk⟩, low⟩ := lv
  have X₁ : Holds B.P B.G L F H ⟨loc, frO Lg o :: (gobjs ++ own)⟩ (s.setGen g .running).heap := X
  have hsz : g < s.gens.size := by by_cases q : g < s.gens.size; exact q; simp [q] at hgs
  have hrun : (s.setGen g .running).gens[g]? = some .running := by unfold Shared.setGen; simp [hsz]
  refine next_wake hA.handled (B.nolimit.keeps fun b o e => X.sub _ _ (X.core _ _ e)) (by have := hA.depth; show A.depth < 1000; omega) hg hgs
    (wk A.in1 F (s.setGen g .running) ⟨hA.handled, by have := hA.depth; show A.depth + m ≤ 900; omega, by have := hA.units; show A.units + 1 + 8 * m ≤ 9000; omega⟩ (X₁.inner low hn hl)) fun e s₁ hq z => ?_
  cases tr with
  | nil =>
    obtain ⟨rfl, F', σ', Y, p, r⟩ := z
    refine ⟨rfl, fun h' hk => ?_⟩
    obtain ⟨o', _, X', p'⟩ := X₁.outer Y p
    have p'' := p'.fin hrun
    rw [show fin g (s.setGen g .running) = fin g s from Shared.set_set s g _ _] at p''
    exact ⟨rfl, F', σ'.objs, o', X'.grow hk, ⟨fun b y hb e => hk _ _ (p''.keep b y hb e), p''.own, p''.frz, p''.mono, p''.gens, p''.os⟩, r⟩
  | cons x tr =>
    obtain ⟨v, g₀, l, k, c, p₀, fs, F', σ', d, rfl, Y, p, y, nx⟩ := z
    obtain ⟨o', hl', X', p'⟩ := X₁.outer Y p
    have p'' := p'.fin hrun
    rw [show fin g (s.setGen g .running) = fin g s from Shared.set_set s g _ _] at p''
    have h1 : s₁.gens[g]? = some .running := p'.gens.keep _ _ hrun
    have hsz₁ : g < s₁.gens.size := by by_cases q : g < s₁.gens.size; exact q; simp [q] at h1
    refine ⟨v, d, F', σ'.objs, o', (End.susp v g₀ l k c p₀ fs).genState, rfl, Y.hold (.head _), y, X', ?_, by unfold Shared.setGen; simp [hsz₁], ⟨⟨σ'.loc, hl', Y.names, fun A₂ F₂ s₂ hA₂ X₂ => nx A₂ F₂ s₂ hA₂ X₂⟩, low⟩⟩
    rw [show fin g (s₁.setGen g (End.susp v g₀ l k c p₀ fs).genState) = fin g s₁ from Shared.set_set s₁ g _ _]
    exact p''
end
end
-- La29
section
/-- a generator's object -/
noncomputable def genP (g : Nat) (o : Obj) : Prop := o.cls = .type "generator" ∧ (∃ nm qn, o.data = .fields #[.int g 0, nm, qn]) ∧ o.slots = #[]
theorem gens_new (a : Array GenState) (x : GenState) : GensTo a ((a.push x).setIfInBounds a.size .finished) := by
  refine ⟨fun i y e => ?_, fun i y e => ?_⟩
  · have : i < a.size := by by_cases q : i < a.size; exact q; simp [q] at e
    rw [Array.getElem?_setIfInBounds, if_neg (by omega), Array.getElem?_push, if_neg (by omega)]; exact e
  · rw [Array.getElem?_setIfInBounds] at e
    by_cases q : a.size = i
    · subst q; simp at e; subst e; exact .inr rfl
    · rw [if_neg q, Array.getElem?_push, if_neg (fun z => q z.symm)] at e; exact .inl e
section
variable {B : Base} {n : Nat} {L : Addr} {H : List (Value × AV)} {loc : List (Str × Option AV)} {objs : List (Addr × AO)}
theorem gen_at {F : Fz} {a : Addr} {g : Nat} {P : Params} {h : Heap} (x : Is P F (.ref a) (.obj (genP g))) (sub : ∀ b o, F b = some o → h.get? b = some o) : h.IsGen a g := by
  cases x with
  | obj e p => obtain ⟨p1, ⟨nm, qn, p2⟩, p3⟩ := p; exact ⟨_, nm, qn, sub _ _ e, p1, p2, p3⟩
/-- an object's own generator -/
theorem iter_gen {A : Around} {F : Fz} {s : Shared} {x C dx f : Addr} {fs : List (Str × AV)} {name qual : Str} {params : Arguments} {body : List Stmt} {scope : Scope} {dV kV doc pm cdv ct oc : Value} {an od : Option Addr} {osl : Array (Option Value)} {pself : Str} (hA : Room n A)
    (X : Holds B.P B.G L F H ⟨loc, objs⟩ s.heap) (mo : (x, AO.inst C dx fs) ∈ objs) (hi : findIn B.K (.ref C) "__iter__" = some (some (.ref f))) (hfn : isFn B.K (.ref f) = true)
    (ho : B.K.lookup f = some ⟨oc, od, .func (fnOf name qual params body scope dV kV doc pm an cdv ct), osl⟩) (hcd : codeIn B.K cdv qual = true) (hb : Binds B (fnOf name qual params body scope dV kV doc pm an cdv ct) [pself] [.ref x] [.ref x])
    (hps : scope.names.lookup pself = some .local) (hco : scope.isCoroutine = false := by rfl) (hgen : scope.isGenerator = true := by rfl) (hk : scope.kind = .function := by rfl) (hcell : ∀ x ∈ scope.names, x.2 ≠ .cell := by decide) :
    wpAny B.M A (pyIter (.ref x)) (fun r s' => ∃ a g Lg o F', r = .ref a ∧ Holds B.P B.G L F' H ⟨loc, frO Lg o :: objs⟩ s'.heap ∧ Pres (L :: owns objs) F s (L :: owns (frO Lg o :: objs)) F' (fin g s') ∧ Is B.P F' (.ref a) (.obj (genP g)) ∧
      s'.gens[g]? = some (.fresh (.func body (envOf qual scope Lg f cdv))) ∧ (∃ mm, (∀ h : Heap, h.get? Lg = some o → h.Ns Lg mm) ∧ ∀ y d, (y, some d) ∈ [(pself, some (AV.ref x))] → ∃ v, mm y = some v ∧ Is B.P F' v d) ∧ B.G.objs.size ≤ Lg) (fun _ _ => False) s := by
  obtain ⟨h1, es, k, h2, h3⟩ := X.objs _ mo
  have I : InstAt s.heap x (instObj C dx) C (some (dictOf es k)) := ⟨h1, rfl, rfl, h2⟩
  have spec : Looks B.M s.heap (specialOf (.ref x) "__iter__") (some (.ref f)) := I.type.andThen (looks_findIn X.K hi)
  have bnd : Looks B.M s.heap (bindSpecial (.ref f) (.ref x)) (.ref f, [.ref x]) := bind_fn X.K _ (beq_iff_eq.mp hfn)
  unfold pyIter
  refine wpAny_bind (spec.here ?_)
  show wpAny B.M A (callSpecialIfBoundUnlessNone? (.ref x) "__iter__" _ >>= _) _ _ s
  refine wpAny_bind ?_
  simp only [callSpecialIfBoundUnlessNone?, bindSpecialIfBound?]
  refine wpAny_holding (wpAny_bind (wpAny_bind (spec.here ?_)))
  refine wpAny_bind (wpAny_askSetting (wpAny_ite ?_))
  have nn : (Value.ref f == Value.none) = false := by rfl
  have fin_ : ∀ (Q : Option Value → Shared → Prop) (refuse : Sem Value), wpAny B.M A (call (.ref f) [.ref x]) (fun v => Q (some v)) (fun _ _ => False) s →
      wpAny B.M A (if (Value.ref f == Value.none) = true then (refuse >>= fun v => pure (some v)) else (call (.ref f) [.ref x] >>= fun v => pure (some v))) Q (fun _ _ => False) s := fun Q refuse w => by
    rw [nn, if_neg Bool.false_ne_true]
    exact wpAny_bind (wpAny_mono w (fun v s' z => wpAny_pure z) fun _ _ z => z)
  have main : wpAny B.M A (call (.ref f) [.ref x]) (fun v s' => ∃ a g Lg o F', v = .ref a ∧ Holds B.P B.G L F' H ⟨loc, frO Lg o :: objs⟩ s'.heap ∧ Pres (L :: owns objs) F s (L :: owns (frO Lg o :: objs)) F' (fin g s') ∧ Is B.P F' (.ref a) (.obj (genP g)) ∧
      s'.gens[g]? = some (.fresh (.func body (envOf qual scope Lg f cdv))) ∧ (∃ mm, (∀ h : Heap, h.get? Lg = some o → h.Ns Lg mm) ∧ ∀ y d, (y, some d) ∈ [(pself, some (AV.ref x))] → ∃ v, mm y = some v ∧ Is B.P F' v d) ∧ B.G.objs.size ≤ Lg) (fun _ _ => False) s := by
    obtain ⟨vals, hv, hbind⟩ := hb F s [.ref x] (.cons (.ref x) .nil) X.K X.core
    obtain ⟨v1, q1, rfl⟩ : ∃ v1, Is B.P F v1 (.ref x) ∧ vals = [v1] := by cases hv with | cons q1 r => cases r with | nil => exact ⟨_, q1, rfl⟩
    have hlim : s.heap.NoLimit := B.nolimit.keeps fun b o e => X.sub _ _ (X.core _ _ e)
    refine wpAny_call (codeAny_call_generator (body := body) (by have := hA.depth; show A.depth < 1000; omega) (X.K _ _ ho) rfl hco hgen rfl (codeRec_of X.K hcd) (hbind _ _ _ _ ?_))
    refine wpAny_newFunctionEnv hcell (fun y hy => by rcases List.mem_singleton.mp hy with rfl; exact hps) (fun h₁ hns₁ hsb₁ => ⟨hlim.fresh _ hsb₁, ?_⟩) hk
    have hC := get_size s.heap
    have up : ∀ b o, s.heap.get? b = some o → h₁.get? b = some o := fun b o e => hsb₁.extBut b o (fun z => by rw [z, hC] at e; cases e) (Heap.get?_push_of_some _ e)
    obtain ⟨oL, es', ep, l1, l2⟩ := hns₁
    have T : After B L H ⟨loc, objs⟩ F s { s with heap := h₁ } (fun F' σ' => F' = F ∧ σ' = ⟨loc, frO s.heap.objs.size oL :: objs⟩) :=
      After.track (o := .is (· = oL)) X up (fun b hb => by rw [List.mem_singleton.mp hb]; exact hC) (by simp [AO.more]) ⟨oL, l1, rfl⟩ rfl rfl ⟨rfl, rfl⟩
    obtain ⟨F₁, σ₁, X₁, p₁, rfl, rfl⟩ := T
    obtain ⟨go, hgo⟩ : ∃ go : Obj, go = { cls := .type "generator", data := .fields #[.int s.gens.size 0, .str name (s.toks + ([pself].zip [v1]).length), .str qual (s.toks + ([pself].zip [v1]).length + 1)] } := ⟨_, rfl⟩
    have pg : genP s.gens.size go := by subst hgo; exact ⟨rfl, ⟨_, _, rfl⟩, rfl⟩
    have hga : (h₁.push go).get? h₁.objs.size = some go := Heap.get?_push_size _ (by subst hgo; rfl)
    obtain ⟨X₂, le⟩ := X₁.frozen (h' := h₁.push go) (fun b o e => Heap.get?_push_of_some _ e) (get_size h₁) hga
    refine ⟨h₁.objs.size, s.gens.size, s.heap.objs.size, oL, F₁.put h₁.objs.size go, rfl, ?_⟩
    refine ⟨by rw [hgo] at X₂ ⊢; exact X₂, ⟨fun b o hb e => Heap.get?_push_of_some _ (p₁.keep b o hb e), p₁.own, fun b o e => ?_, p₁.mono.trans le, gens_new _ _, rfl⟩, .obj (Fz.put_self ..) pg, ?_, ⟨_, fun h e => ⟨oL, es', ep, e, l2⟩, fun y d hy => ?_⟩, X.big⟩
    · unfold Fz.put at e
      split at e
      · rename_i z
        refine .inr (.inr ?_)
        rw [z]
        cases w : s.heap.get? h₁.objs.size with
        | none => rfl
        | some o => have := up _ _ w; rw [get_size h₁] at this; cases this
      · exact p₁.frz b o e
    · show (s.gens.push _)[s.gens.size]? = some _
      rw [Array.getElem?_push_size]; rfl
    · rcases List.mem_singleton.mp hy with e
      cases e
      exact ⟨v1, by simp, q1.mono le⟩
  split
  · refine wpAny_bind (bnd.here (wpAny_pure (fin_ _ _ (wpAny_mono main (fun v s' z => ?_) fun _ _ z => z))))
    obtain ⟨a, g, Lg, o, F', rfl, X', r⟩ := z
    exact wpAny_bind (wpAny_specialOf (gen_at r.2.1 X'.sub).typeIs slot_gen_next.lookup (wpAny_pure ⟨a, g, Lg, o, F', rfl, X', r⟩))
  · refine wpAny_tryCatch (wpAny_bind (bnd.here (wpAny_pure (fin_ _ _ (wpAny_mono main (fun v s' z => ?_) fun _ _ z => z.elim)))))
    obtain ⟨a, g, Lg, o, F', rfl, X', r⟩ := z
    exact wpAny_bind (wpAny_specialOf (gen_at r.2.1 X'.sub).typeIs slot_gen_next.lookup (wpAny_pure ⟨a, g, Lg, o, F', rfl, X', r⟩))
end
end
-- La30
section
theorem Pres.less {C : Addr} {F : Fz} {s : Shared} {o o' rest : List (Addr × AO)} (h : o.Perm (o' ++ rest)) : Pres (C :: owns o) F s (C :: owns o') F s := by
  have pe := owns_perm h
  rw [owns_append] at pe
  refine ⟨fun _ _ _ e => e, fun b hb => .inl ?_, fun _ _ e => .inl e, .refl F, .refl _, rfl⟩
  rcases List.mem_cons.mp hb with rfl | hb
  · exact .head _
  · exact .tail _ (pe.mem_iff.mpr (List.mem_append_left _ hb))
section
variable {γ : Type} {B : Base} {m n : Nat} {L : Addr} {YJ : γ → AV → List (Addr × AO) → Prop} {RJ : List (Addr × AO) → Prop} {tr : List γ} {H : List (Value × AV)} {env : Env} {own : List (Addr × AO)} {fi : γ → AV}
theorem comp_gen {elt target iter : Expr} {ifs : List Expr} {scope : Scope} {pos : Pos} {cl : List (Str × Addr)} {xs : List Str} {a D Lg : Addr} {g : Nat} {o : Obj} {gobjs : List (Addr × AO)} {gs : GenState}
    {loc : List (Str × Option AV)} {A : Around} {F : Fz} {s : Shared} (hA : Room n A) (hm : m + 1 ≤ n) (hx : xs.Nodup)
    (X : Holds B.P B.G L F H ⟨loc, (D, .list []) :: frO Lg o :: (gobjs ++ own)⟩ s.heap) (ga : (Value.ref a, AV.obj (genP g)) ∈ H) (hgs : s.gens[g]? = some gs) (lv : Live B m Lg YJ RJ tr o gobjs F gs)
    (step : ∀ x d gobjs ys, YJ x d gobjs → CompStep B n target elt ifs (fun C => compEnvC scope cl C env) H xs d (fun l objs => l = ys ∧ ys.length ≤ tr.length ∧ objs = gobjs ++ own) (fun l objs => l = ys ++ [fi x] ∧ objs = gobjs ++ own))
    (hcell : ∀ y ∈ scope.names, y.2 ≠ .cell) (hkind : scope.kind = .function) (ht : ∀ it v, letOwnedTupleGo target it v = pure ()) :
    wpAny B.M A (newFunctionEnv scope env.globals cl [] env.qual none .none (some env)) (fun cenv s₄ =>
      codeAny B.M A (.compStart (.ListComp elt [⟨target, iter, ifs, 0⟩] scope pos) 0 (.ref a) (.ref D) { cenv with scope := relabel scope env }) (fun r s₅ => ∃ gobjs' F' mm, r = .ok .next ∧ s₅.heap.Ns cenv.locals mm ∧ RJ gobjs' ∧
        Holds B.P B.G L F' H ⟨loc, (D, .list (tr.map fi)) :: (gobjs' ++ own)⟩ s₅.heap ∧ Pres (L :: owns ((D, AO.list []) :: frO Lg o :: (gobjs ++ own))) F (fin g s) (L :: owns ((D, AO.list (tr.map fi)) :: (gobjs' ++ own))) F' s₅ ∧
        cenv.locals ∉ L :: owns ((D, AO.list (tr.map fi)) :: (gobjs' ++ own)) ∧ F' cenv.locals = none ∧ s.heap.get? cenv.locals = none) s₄) (fun _ _ => False) s := by
  refine wpAny_newFunctionEnv hcell (by intro y hy; simp at hy) (fun h₁ hns₁ hsb₁ => ?_) hkind
  have hC := get_size s.heap
  generalize hCe : s.heap.objs.size = C at *
  have up : ∀ b o, s.heap.get? b = some o → h₁.get? b = some o := fun b o e => hsb₁.extBut b o (fun z => by rw [z, hC] at e; cases e) (Heap.get?_push_of_some _ e)
  have big : B.G.objs.size ≤ C := hCe ▸ X.big
  have X₁ : Holds B.P B.G C F H ⟨bare xs, (D, .list []) :: frO Lg o :: (gobjs ++ own)⟩ h₁ := X.call.enter hC big up ⟨_, hns₁, fun y d h => (bare_none h).elim⟩ (by rw [bare_keys]; exact hx) X.held
  -- the list behind the generator's objects, or ahead
  have to : ∀ {ys o gobjs}, ((D, AO.list ys) :: frO Lg o :: (gobjs ++ own)).Perm ((frO Lg o :: (gobjs ++ (D, AO.list ys) :: own)) ++ []) := fun {ys o gobjs} => by
    rw [List.append_nil]
    exact (List.Perm.swap _ _ _).trans (.cons _ List.perm_middle.symm)
  have fro : ∀ {ys o gobjs}, (frO Lg o :: (gobjs ++ (D, AO.list ys) :: own)).Perm (((D, AO.list ys) :: frO Lg o :: (gobjs ++ own)) ++ []) := fun {ys o gobjs} => by
    have := (to (ys := ys) (o := o) (gobjs := gobjs)).symm
    rw [List.append_nil] at this ⊢
    exact this
  let s₁ : Shared := { s with heap := h₁, toks := s.toks + ([] : List (Str × Value)).length }
  let I : Nat → Shared → Prop := fun k s' => ∃ done todo F' o' gobjs' gs', tr = done ++ todo ∧ k = todo.length ∧ Holds B.P B.G C F' H ⟨bare xs, frO Lg o' :: (gobjs' ++ (D, .list (done.map fi)) :: own)⟩ s'.heap ∧
    Pres (C :: owns ((D, AO.list []) :: frO Lg o :: (gobjs ++ own))) F (fin g s₁) (C :: owns (frO Lg o' :: (gobjs' ++ (D, .list (done.map fi)) :: own))) F' (fin g s') ∧ s'.gens[g]? = some gs' ∧ Live B m Lg YJ RJ todo o' gobjs' F' gs'
  let R : Result → Shared → Prop := fun r s₅ => ∃ gobjs' F' mm, r = .ok .next ∧ s₅.heap.Ns C mm ∧ RJ gobjs' ∧
        Holds B.P B.G L F' H ⟨loc, (D, .list (tr.map fi)) :: (gobjs' ++ own)⟩ s₅.heap ∧ Pres (L :: owns ((D, AO.list []) :: frO Lg o :: (gobjs ++ own))) F (fin g s) (L :: owns ((D, AO.list (tr.map fi)) :: (gobjs' ++ own))) F' s₅ ∧
        C ∉ L :: owns ((D, AO.list (tr.map fi)) :: (gobjs' ++ own)) ∧ F' C = none ∧ s.heap.get? C = none
  have forget : ∀ {F' loc' objs' h}, Holds B.P B.G C F' H ⟨loc', objs'⟩ h → Holds B.P B.G C F' H ⟨bare xs, objs'⟩ h := fun {F' loc' objs' h} x =>
    ⟨x.core, x.sub, let ⟨m, hm, _⟩ := x.loc; ⟨m, hm, fun y d h => (bare_none h).elim⟩, by rw [bare_keys]; exact hx, x.objs, x.nodup, x.apart, x.held, x.low⟩
  have hA' : Room (m + 1) A := hA.le hm
  have loop : ∀ k s', I k s' → codeAny B.M A (.compLoop (.ListComp elt [⟨target, iter, ifs, 0⟩] scope pos) 0 (.ref a) (.ref D) (compEnvC scope cl C env)) R s' := fun k s' hI => by
    refine codeAny_compLoop_tests I (fun k s₂ hI => ?_) k hI (ht _)
    obtain ⟨done, todo, F₂, o₂, gobjs₂, gs₂, e₂, rfl, x₂, p₂, hg₂, lv₂⟩ := hI
    refine wpAny_mono (ask hA' x₂ (gen_at (x₂.hold ga) x₂.sub) hg₂ lv₂) (fun r s₃ z => ?_) fun _ _ z => z.elim
    cases todo with
    | nil =>
      obtain ⟨rfl, F₃, gobjs₃, o₃, x₃, p₃, rj⟩ := z
      rw [List.append_nil] at e₂
      subst e₂
      have pm : (frO Lg o₃ :: (gobjs₃ ++ (D, AO.list (tr.map fi)) :: own)).Perm (((D, AO.list (tr.map fi)) :: (gobjs₃ ++ own)) ++ [frO Lg o₃]) :=
        (List.Perm.cons _ List.perm_middle).trans (List.perm_append_comm (l₁ := [frO Lg o₃]))
      have x₄ := x₃.drop pm
      have pp := (p₂.trans p₃).trans (Pres.less pm)
      have nC : C ∉ owns ((D, AO.list (tr.map fi)) :: (gobjs₃ ++ own)) := (List.nodup_cons.mp x₄.nodup).1
      have pl := Pres.leave (s := fin g s) pp hC up (.refl _) rfl nC
      obtain ⟨y, py⟩ := X.back (s := fin g s) x₄.call pl
      obtain ⟨mm, hm', _⟩ := x₄.loc
      refine ⟨gobjs₃, F₃, mm, rfl, hm', rj, y, py, fun hmm => ?_, x₄.apart _ (.head _), hC⟩
      rcases List.mem_cons.mp hmm with rfl | hmm
      · obtain ⟨o, ho⟩ := X.there C (.head _); rw [hC] at ho; cases ho
      · exact nC hmm
    | cons x todo =>
      obtain ⟨v, d, F₃, gobjs₃, o₃, gs₃, rfl, hv, yj, x₃, p₃, hg₃, lv₃⟩ := z
      have st := W_drop fro (step x d gobjs₃ (done.map fi) yj C (done.map fi) (gobjs₃ ++ own) D Lg (· = o₃) v ⟨rfl, by rw [List.length_map, e₂, List.length_append]; omega, rfl⟩)
      refine wpAny_mono (st.run A F₃ s₃ hA (x₃.push hv)) (fun _ s₄ z => ?_) fun _ _ z => z.elim
      obtain ⟨F₄, σ₄, x₄, p₄, w⟩ := z
      refine wpAny_mono (w.run A F₄ s₄ hA (x₄.weaken fun _ hp => .tail _ hp)) (fun ok s₅ z => ?_) fun _ _ z => z.elim
      obtain ⟨F₅, σ₅, x₅, p₅, w1, w2⟩ := z
      cases ok with
      | false =>
        obtain ⟨loc', objs', rfl, hl, _⟩ := w2 rfl
        exact absurd hl (by intro e; have := congrArg List.length e; simp at this)
      | true =>
        refine wpAny_mono ((w1 rfl).run A F₅ s₅ hA x₅) (fun y s₆ z => ?_) fun _ _ z => z.elim
        obtain ⟨F₆, σ₆, x₆, p₆, e, he, loc', objs', rfl, hz, hl, rfl⟩ := z
        have he' : e = fi x := by have := List.append_cancel_left hl; simpa using this
        subst he'
        have app := B_append (B := B) (n := n) (L := C) (H := (y, fi x) :: (.ref D, .ref D) :: H) (σ := ⟨loc', (D, .list (done.map fi)) :: frO Lg o₃ :: (gobjs₃ ++ own)⟩) (v₀ := .ref D) (v := y) (d := fi x) (Φ := fun _ _ σ' => σ' = ⟨loc', (D, .list (done.map fi ++ [fi x])) :: frO Lg o₃ :: (gobjs₃ ++ own)⟩)
          (.tail _ (.head _)) (.head _) .head (by omega) rfl
        refine wpAny_mono (app.run A F₆ s₆ hA ((x₆.push (.ref D)).push he)) (fun _ s₇ z => ?_) fun _ _ z => z.elim
        obtain ⟨F₇, σ₇, x₇, p₇, _, _, rfl⟩ := z
        have pc := p₄.trans (p₅.trans (p₆.trans (p₇.trans (Pres.less to))))
        refine ⟨todo.length, by simp, done ++ [x], todo, F₇, o₃, gobjs₃, gs₃, by rw [e₂]; simp, rfl, ?_, ?_, pc.gens.keep _ _ hg₃, lv₃.mono pc.mono⟩
        · rw [List.map_append]
          exact (forget (x₇.weaken fun _ hp => .tail _ (.tail _ hp))).drop to
        · rw [List.map_append]
          exact (p₂.trans p₃).trans (pc.fin hg₃)
  have begin_ : I tr.length s₁ := ⟨[], tr, F, o, gobjs, gs, rfl, rfl, X₁.drop to, Pres.less to, hgs, lv⟩
  refine codeAny_compStart_list (loop _ _ begin_) ?_
  exact wpAny_pyIter_gen (gen_at (X₁.hold ga) X₁.sub) (loop _ _ begin_)
end
end
-- La31
section
section
variable {γ : Type} {B : Base} {m n : Nat} {L : Addr} {YJ : γ → AV → List (Addr × AO) → Prop} {RJ : List (Addr × AO) → Prop} {tr : List γ} {H : List (Value × AV)} {env : Env} {σ : St}
/-- the object's generator tells these -/
noncomputable def GenIter (B : Base) (n m : Nat) (x : Addr) (gobjs : List (Addr × AO)) (YJ : γ → AV → List (Addr × AO) → Prop) (RJ : List (Addr × AO) → Prop) (tr : List γ) : Prop :=
  ∀ A F s L H loc own, Room n A → Holds B.P B.G L F H ⟨loc, gobjs ++ own⟩ s.heap → wpAny B.M A (pyIter (.ref x)) (fun r s' => ∃ a g Lg o F' gs, r = .ref a ∧ Holds B.P B.G L F' H ⟨loc, frO Lg o :: (gobjs ++ own)⟩ s'.heap ∧
    Pres (L :: owns (gobjs ++ own)) F s (L :: owns (frO Lg o :: (gobjs ++ own))) F' (fin g s') ∧ Is B.P F' (.ref a) (.obj (genP g)) ∧ s'.gens[g]? = some gs ∧ Live B m Lg YJ RJ tr o gobjs F' gs) (fun _ _ => False) s
theorem GenIter.of {x C dx f : Addr} {fs : List (Str × AV)} {gobjs : List (Addr × AO)} {name qual : Str} {params : Arguments} {body body' : List Stmt} {scope scope' : Scope} {dV kV doc pm cdv ct oc : Value} {an od : Option Addr} {osl : Array (Option Value)} {pself : Str}
    (ho : B.K.lookup f = some ⟨oc, od, .func (fnOf name qual params body scope dV kV doc pm an cdv ct), osl⟩) (mo : (x, AO.inst C dx fs) ∈ gobjs) (hi : findIn B.K (.ref C) "__iter__" = some (some (.ref f))) (hfn : isFn B.K (.ref f) = true)
    (hcd : codeIn B.K cdv qual = true) (hb : Binds B (fnOf name qual params body scope dV kV doc pm an cdv ct) [pself] [.ref x] [.ref x])
    (hw : ∀ Lg, GW B m Lg YJ RJ (.func body' (envOf qual scope' Lg f cdv)) [] (B.M.den (.func body' (envOf qual scope' Lg f cdv))) tr ⟨[(pself, some (.ref x))], gobjs⟩)
    (eb : body = body' := by (conv => lhs; whnf)) (es : scope = scope' := by (conv => lhs; whnf))
    (hps : scope'.names.lookup pself = some .local := by rfl) (hco : scope'.isCoroutine = false := by rfl) (hgen : scope'.isGenerator = true := by rfl) (hk : scope'.kind = .function := by rfl) (hcell : ∀ x ∈ scope'.names, x.2 ≠ .cell := by decide) : GenIter B n m x gobjs YJ RJ tr := fun A F s L H loc own hA X => by
  subst eb es
  refine wpAny_mono (iter_gen hA X (List.mem_append_left _ mo) hi hfn ho hcd hb hps hco hgen hk hcell) (fun r s' z => ?_) fun _ _ z => z
  obtain ⟨a, g, Lg, o, F', rfl, X', p, ga, hg, hl, low⟩ := z
  exact ⟨a, g, Lg, o, F', _, rfl, X', p, ga, hg, ⟨⟨_, hl, by simp, fun A₂ F₂ s₂ hA₂ X₂ => (hw Lg).run A₂ F₂ s₂ hA₂ X₂⟩, low⟩⟩
/-- a list comprehension over an object's generator -/
theorem E_compGen {elt target iter : Expr} {ifs : List Expr} {scope : Scope} {pos : Pos} {cl : List (Str × Addr)} {Φ : Value → AV → St → Prop} (xs : List Str) (fi : γ → AV) (YJ : γ → AV → List (Addr × AO) → Prop) (RJ : List (Addr × AO) → Prop) (tr : List γ) (hm : m + 1 ≤ n)
    (h : WV B n L (eval iter env) H σ fun xv d σ₁ => ∃ x gobjs own, d = .ref x ∧ σ₁.objs = gobjs ++ own ∧ GenIter B n m x gobjs YJ RJ tr ∧
      (∀ H x d gobjs ys, YJ x d gobjs → CompStep B n target elt ifs (fun C => compEnvC scope cl C env) H xs d (fun l objs => l = ys ∧ ys.length ≤ tr.length ∧ objs = gobjs ++ own) (fun l objs => l = ys ++ [fi x] ∧ objs = gobjs ++ own)) ∧
      ∀ gobjs' D, RJ gobjs' → Φ (.ref D) (.ref D) ⟨σ₁.loc, (D, .list (tr.map fi)) :: (gobjs' ++ own)⟩)
    (hclos : closureFor scope env = pure cl) (hx : xs.Nodup := by decide)
    (hcell : ∀ y ∈ scope.names, y.2 ≠ .cell := by decide) (hkind : scope.kind = .function := by rfl) (hnames : ∀ y ∈ scope.names, y.2 = .local → scope.names.lookup y.1 = some .local := by decide)
    (hs : ∀ x, foldedSetIterable iter env x = pure x := by intro _; rfl) (ht : ∀ it v, letOwnedTupleGo target it v = pure () := by intro _ _; rfl) :
    WV B n L (eval (.ListComp elt [⟨target, iter, ifs, 0⟩] scope pos) env) H σ Φ := W_of fun A F s hA X => by
  rw [eval_ListComp]
  refine wpAny_comprehension_free (use := none) rfl hs hclos hkind hnames (wpAny_mono (h.run A F s hA X) (fun xv s₁ z => ?_) fun _ _ z => z)
  obtain ⟨F₁, σ₁, x₁, p₁, d, hd, x, gobjs, own, rfl, eo, it, step, fin_⟩ := z
  obtain ⟨loc₁, objs₁⟩ := σ₁
  dsimp only at eo
  subst eo
  obtain rfl := inv_ref hd
  refine wpAny_mono (it A F₁ s₁ L _ loc₁ own hA x₁) (fun r s₂ z => ?_) fun _ _ z => z
  obtain ⟨a, g, Lg, o, F₂, gs, rfl, x₂, p₂, ga, hg, lv⟩ := z
  refine wpAny_newObj_type ?_
  have T : After B L ((.ref a, .obj (genP g)) :: H) ⟨loc₁, frO Lg o :: (gobjs ++ own)⟩ F₂ s₂ { s₂ with heap := s₂.heap.push (lstObj [] 0) } (fun F' σ' => F' = F₂ ∧ σ' = ⟨loc₁, (s₂.heap.objs.size, .list []) :: frO Lg o :: (gobjs ++ own)⟩) :=
    After.track (o := .list []) (x₂.push ga) (fun b y e => Heap.get?_push_of_some _ e) (fun b hb => by rw [List.mem_singleton.mp hb]; exact get_size _) (by simp [AO.more]) ⟨[], 0, Heap.get?_push_size _ rfl, .nil⟩ rfl rfl ⟨rfl, rfl⟩
  obtain ⟨F₃, σ₃, x₃, p₃, rfl, rfl⟩ := T
  refine wpAny_mono (comp_gen (elt := elt) (iter := iter) (scope := scope) (pos := pos) (cl := cl) (target := target) (ifs := ifs) (env := env) hA hm hx x₃ (.head _) hg lv (fun x d gobjs ys => step _ x d gobjs ys) hcell hkind ht) (fun cenv s₄ z => ?_) fun _ _ z => z.elim
  refine codeAny_mono z fun r s₅ z => ?_
  obtain ⟨gobjs', F₅, mm, rfl, hns, rj, x₅, p₅, hC, hF, hCn⟩ := z
  refine ⟨mm, hns, fun h' hs' => ?_⟩
  have p₂₃ := p₁.trans (p₂.trans (p₃.fin hg))
  refine ⟨F₅, _, (x₅.weaken fun _ hp => .tail _ hp).besides hF hC fun b o hb e => (hs'.2 b hb).trans e, p₂₃.trans ⟨fun b o hb e => (hs'.2 b (fun z => ?_)).trans (p₅.keep b o hb e), p₅.own, p₅.frz, p₅.mono, p₅.gens, p₅.os⟩, _, .ref _, fin_ gobjs' _ rj⟩
  have e' : s₂.heap.get? b = some o ∨ True := .inr trivial
  rw [z] at e
  have : ({ s₂ with heap := s₂.heap.push (lstObj [] 0) } : Shared).heap.get? cenv.locals = some o := e
  rw [hCn] at this; cases this
end
end
-- La32
section
/-- a list of ints, as the caller laid it -/
noncomputable def intsP (ns : List Int) (o : Obj) : Prop := o.cls = .type "list" ∧ ∃ vs n, o.data = .seq vs.toArray n ∧ IntsAre vs ns
theorem ints_all {P : Params} {F : Fz} : ∀ {vs : List Value} {ns : List Int}, IntsAre vs ns → IsAll P F vs (ns.map .int)
  | _, _, .nil => .nil
  | _, _, .cons n t r => .cons (.int n t) (ints_all r)
section
variable {B : Base} {n : Nat} {L : Addr} {H : List (Value × AV)} {σ : St} {env : Env}
/-- the first of them -/
theorem E_sliceInts {value hi : Expr} {p pos} {Φ : Value → AV → St → Prop}
    (h : WV B n L (eval value env) H σ fun o d σ₁ => WV B n L (eval hi env) ((o, d) :: H) σ₁ fun _ du σ₂ => ∃ ns j, d = .obj (intsP ns) ∧ du = .int j ∧ 0 ≤ j ∧ ns.length ≤ 16777216 ∧ ∀ v, Φ v (.lst ((ns.take j.toNat).map .int)) σ₂)
    (hs : ∀ o i, ∃ ops, subscripted (.Slice none (some hi) none p) false o i = operate ops (getItem o i) := by intro _ _; exact ⟨_, rfl⟩) (ht : ∀ l r, letTemporaryGo value (.ref l) r = pure () := by intro _ _; with_unfolding_all rfl) :
    WV B n L (eval (.Subscript value (.Slice none (some hi) none p) pos) env) H σ Φ := W_of fun A F s hA X => by
  rw [eval_Subscript]
  refine wpAny_bind (wpAny_mono (h.run A F s hA X) (fun o s₁ z => ?_) fun _ _ z => z)
  obtain ⟨F₁, σ₁, x₁, p₁, d, hd, w₁⟩ := z
  refine wpAny_bind (wpAny_holding (wpAny_Slice (wpAny_pure ?_)))
  refine wpAny_mono (w₁.run A F₁ s₁ hA (x₁.push hd)) (fun u s₃ z => ?_) fun _ _ z => z
  obtain ⟨F₃, σ₃, x₃, p₃, du, hdu, ns, j, rfl, rfl, hj, hz, q⟩ := z
  refine wpAny_pure (wpAny_bind (wpAny_standAt ?_))
  obtain ⟨tj, rfl⟩ := inv_int hdu
  obtain ⟨l, o', rfl, e1, e2, vs, m, e3, e4⟩ : ∃ l o', o = .ref l ∧ F₃ l = some o' ∧ o'.cls = .type "list" ∧ ∃ vs n, o'.data = .seq vs.toArray n ∧ IntsAre vs ns := by
    have := x₃.hold (.head _)
    cases this with | obj a b => exact ⟨_, _, rfl, a, b⟩
  have hl : s₃.heap.IsList l vs.toArray := ⟨o', x₃.sub _ _ e1, e2, m, e3⟩
  obtain ⟨ops, hs⟩ := hs (.ref l) (.ref s₃.heap.objs.size)
  refine subscriptTail_ops (Heap.IsList.typeIs (s := { s₃ with heap := s₃.heap.push { cls := .type "slice", data := .fields #[.none, .int j tj, .none] } }) (hl.push _)) list_getitem_lookup
    (wpAny_getItem_list_slice (lo := none) (hi := some j) (st := none) (hl.push _) (Heap.IsSliceOf.new ..) .none (.int j tj) .none (by simp) ?_ (by rw [sizeLine_is, List.size_toArray, e4.length]; exact hz)) hs (ht l)
  have i4 := slice_ints_uptoW e4 hj
  have e : ({ cls := .type "list", data := .seq (slicePick vs.toArray none (some j) none) } : Obj) = lstObj (slicePick vs.toArray none (some j) none).toList 0 := by simp [lstObj]
  rw [e]
  have x₃' := x₃.weaken (H' := H) fun p hp => .tail _ hp
  have hn : s₃.heap.get? (s₃.heap.push { cls := .type "slice", data := .fields #[.none, .int j tj, .none] }).objs.size = none := by
    cases w : s₃.heap.get? (s₃.heap.push { cls := .type "slice", data := .fields #[.none, .int j tj, .none] }).objs.size with
    | none => rfl
    | some y => have := Heap.lt_size w; rw [Heap.size_push] at this; exact absurd this (Nat.not_lt.mpr (Nat.le_succ _))
  obtain ⟨F₄, σ₄, x₄, p₄, hF, rfl⟩ := After.fresh (B := B) (L := L) (H := H) (σ := σ₃) (F := F₃) (s := s₃) (s' := { s₃ with heap := (s₃.heap.push { cls := .type "slice", data := .fields #[.none, .int j tj, .none] }).push (lstObj (slicePick vs.toArray none (some j) none).toList 0) })
    (Ψ := fun F' σ' => F' = F₃.put (s₃.heap.push { cls := .type "slice", data := .fields #[.none, .int j tj, .none] }).objs.size (lstObj (slicePick vs.toArray none (some j) none).toList 0) ∧ σ' = σ₃) x₃' (fun b o e => Heap.get?_push_of_some _ (Heap.get?_push_of_some _ e)) hn (Heap.get?_push_size _ rfl) rfl rfl fun le => ⟨rfl, rfl⟩
  subst hF
  exact ⟨_, σ₄, x₄, p₁.trans (p₃.trans p₄), _, .lst (Fz.put_self ..) (ints_all i4), q _⟩
end
end
-- La33
section
/-- the law is called -/
theorem law_end {prog : Program} {w : World} {K : Frag} {s₁ : Shared} {mg mb : Str → Option Value} {x : Str} {fa fl l : Addr} {vs : List Value} {ns : List Int} {n : Nat} {Q : Result → Shared → Prop}
    (KX : K.In s₁.heap) (hmg : mg x = some (.ref fa)) (g : s₁.heap.Ns mainGlobals mg) (b : s₁.heap.Ns builtinsNs mb) (hb : ∀ x, x ≠ ("__name__" : Str) → mb x = bootBuiltins x) (nl : s₁.heap.NoLimit) (e : nsIn K mainGlobals x = some (some (.ref fl)))
    (hL : s₁.heap.IsList l vs.toArray) (hI : IntsAre vs ns) (hg : s₁.gens = #[]) (hn : n ≤ 500)
    (c : ∀ B : Base, B.prog = prog → B.w = w → B.K = K → CallJ B n fl [.obj (intsP ns)] [] fun d _ => d = .bool true)
    (hQ : ∀ s', (∀ b o, s₁.heap.get? b = some o → s'.heap.get? b = some o) → s'.os = s₁.os → AllBare s'.gens → Q (.ok (.ret (.bool true))) s') :
    codeAny (model prog w) callerA (.call (.ref fa) ⟨[.ref l], []⟩) Q s₁ := by
  have ef := mg_of KX g e
  rw [hmg] at ef
  cases ef
  let B : Base := ⟨prog, w, s₁.heap, K, KX, ⟨mg, g⟩, ⟨mb, b, hb⟩, nl⟩
  obtain ⟨o, ho, hc, m, hd⟩ := hL
  have hA : Room n callerA := by
    refine ⟨rfl, ?_, ?_⟩
    · have : callerA.depth = 301 := by decide +kernel
      rw [this]; omega
    · show 4 + 8 * n ≤ 9000; omega
  refine codeAny_mono (c B rfl rfl rfl callerA (s₁.heap.get? ·) s₁ [.ref l] hA ⟨fun _ _ e => e, fun _ _ e => e, (fun p hp => nomatch hp), List.nodup_nil, (fun b hb => nomatch hb), Nat.le_refl _⟩ (.cons (.obj ho ⟨hc, vs, m, hd, hI⟩) .nil)) fun r s' z => ?_
  obtain ⟨v, d, objs', F', rfl, hv, x, p, rfl⟩ := z
  have : v = .bool true := by cases hv; rfl
  subst this
  refine hQ s' (fun b o e => p.keep b o (fun h => nomatch h) e) p.os fun y hy => ?_
  obtain ⟨i, hi, e⟩ := Array.getElem_of_mem hy
  rcases p.gens.bare i y (by rw [Array.getElem?_eq_getElem hi, e]) with z | z
  · rw [hg] at z; simp at z
  · exact z
end
-- La34
section
section
variable {B : Base} {n : Nat} {L : Addr} {H : List (Value × AV)} {σ : St} {env : Env}
theorem g_sliceInts {value hi : Expr} {p pos} {Φ : Value → AV → St → Prop}
    (h : Go value (WV B n L (eval value env) H σ fun o d σ₁ => Go hi (WV B n L (eval hi env) ((o, d) :: H) σ₁ fun _ du σ₂ => Hold (∃ ns j, d = .obj (intsP ns) ∧ du = .int j ∧ 0 ≤ j ∧ ns.length ≤ 16777216 ∧ ∀ v, Φ v (.lst ((ns.take j.toNat).map .int)) σ₂))))
    (hs : ∀ o i, ∃ ops, subscripted (.Slice none (some hi) none p) false o i = operate ops (getItem o i) := by intro _ _; exact ⟨_, rfl⟩) (ht : ∀ l r, letTemporaryGo value (.ref l) r = pure () := by intro _ _; with_unfolding_all rfl) :
    Go (Expr.Subscript value (.Slice none (some hi) none p) pos) (WV B n L (eval (.Subscript value (.Slice none (some hi) none p) pos) env) H σ Φ) := E_sliceInts h hs ht
/-- one turn, with keys -/
noncomputable def CompGo (B : Base) (n : Nat) (target elt : Expr) (ifs : List Expr) (cenv : Addr → Env) (H : List (Value × AV)) (xs : List Str) (item : AV) (J J' : List AV → List (Addr × AO) → Prop) : Prop :=
  ∀ C ys objs D a p v, J ys objs → GoW target (WU B n C (assign target (cenv C) v) ((v, item) :: H) ⟨bare xs, (D, .list ys) :: (a, .is p) :: objs⟩ fun σ₂ => GoI ifs (WB B n C (testsOf ifs (cenv C)) H σ₂ fun ok σ₃ =>
    Br ok (Go elt (WV B n C (eval elt (cenv C)) H σ₃ fun _ e σ₄ => Hold (∃ loc objs', σ₄ = ⟨loc, (D, .list ys) :: (a, .is p) :: objs'⟩ ∧ ys.length ≤ 16777215 ∧ J' (ys ++ [e]) objs')))
      (Hold (∃ loc objs', σ₃ = ⟨loc, (D, .list ys) :: (a, .is p) :: objs'⟩ ∧ J' ys objs'))))
theorem i_none {Φ : Bool → St → Prop} (h : Φ true σ) : GoI ([] : List Expr) (WB B n L (testsOf [] env) H σ Φ) := I_none h
theorem i_one {c : Expr} {Φ : Bool → St → Prop} (h : GoT c (WB B n L (isTrue c env (eval c env)) H σ Φ)) : GoI [c] (WB B n L (testsOf [c] env) H σ Φ) := I_one h
theorem g_comp {elt target iter : Expr} {ifs : List Expr} {scope : Scope} {pos : Pos} {cl : List (Str × Addr)} {Φ : Value → AV → St → Prop} (xs : List Str) (J : Nat → List AV → List (Addr × AO) → Prop)
    (h : Go iter (WV B n L (eval iter env) H σ fun xv d σ₁ => Hold (∃ N item, Iterable B n L xv d N item ∧ J 0 [] σ₁.objs ∧ (∀ i, i < N → CompGo B n target elt ifs (fun C => compEnvC scope cl C env) ((xv, d) :: H) xs (item i) (J i) (J (i + 1))) ∧
      ∀ ys objs D, J N ys objs → Φ (.ref D) (.ref D) ⟨σ₁.loc, (D, .list ys) :: objs⟩)))
    (hclos : closureFor scope env = pure cl := by rfl) (hx : xs.Nodup := by decide)
    (hcell : ∀ y ∈ scope.names, y.2 ≠ .cell := by decide) (hkind : scope.kind = .function := by rfl) (hnames : ∀ y ∈ scope.names, y.2 = .local → scope.names.lookup y.1 = some .local := by decide)
    (hs : ∀ x, foldedSetIterable iter env x = pure x := by intro _; rfl) (ht : ∀ it v, letOwnedTupleGo target it v = pure () := by intro _ _; rfl) :
    Go (Expr.ListComp elt [⟨target, iter, ifs, 0⟩] scope pos) (WV B n L (eval (.ListComp elt [⟨target, iter, ifs, 0⟩] scope pos) env) H σ Φ) := E_comp xs J h hclos hx hcell hkind hnames hs ht
theorem g_assignComp {elt target iter : Expr} {ifs : List Expr} {scope : Scope} {pos p pos' : Pos} {cl : List (Str × Addr)} {x : Str} {Φ : Fl → St → Prop} (xs : List Str) (J : Nat → List AV → List (Addr × AO) → Prop)
    (h : Go iter (WV B n L (eval iter env) H σ fun xv d σ₁ => Hold (∃ N item, Iterable B n L xv d N item ∧ J 0 [] σ₁.objs ∧ (∀ i, i < N → CompGo B n target elt ifs (fun C => compEnvC scope cl C env) ((xv, d) :: H) xs (item i) (J i) (J (i + 1))) ∧
      ∀ ys objs D, J N ys objs → Go Op.store (WU B n L (storeName env x (.ref D)) ((.ref D, .ref D) :: H) ⟨σ₁.loc, (D, .list ys) :: objs⟩ fun σ₂ => Φ .next σ₂))))
    (hsw : swapsWith (.ListComp elt [⟨target, iter, ifs, 0⟩] scope pos) (some (.Name x p)) pos'.line env = pure true := by rfl)
    (hclos : closureFor scope env = pure cl := by rfl) (hx : xs.Nodup := by decide)
    (hcell : ∀ y ∈ scope.names, y.2 ≠ .cell := by decide) (hkind : scope.kind = .function := by rfl) (hnames : ∀ y ∈ scope.names, y.2 = .local → scope.names.lookup y.1 = some .local := by decide)
    (hs : ∀ x, foldedSetIterable iter env x = pure x := by intro _; rfl) (ht : ∀ it v, letOwnedTupleGo target it v = pure () := by intro _ _; rfl) :
    GoS (Stmt.Assign [.Name x p] (.ListComp elt [⟨target, iter, ifs, 0⟩] scope pos) pos') (WF B n L (exec (.Assign [.Name x p] (.ListComp elt [⟨target, iter, ifs, 0⟩] scope pos) pos') env) H σ Φ) :=
  S_assignComp xs J h hsw hclos hx hcell hkind hnames hs ht
end
end
local macro_rules | `(tactic| walk_at "GoI nil") => `(tactic| refine i_none ?_)
section
end
local macro_rules | `(tactic| walk_at "GoI cons") => `(tactic| refine i_one ?_)
section
end
-- La35
section
/-! ### things that show the same are equal -/
/-- here, in this world -/
noncomputable def EqH (prog : Program) (w : World) (A : Around) (s : Shared) (v y : Value) : Prop := ∀ (E : Value → Shared → Prop) (Q : Bool → Shared → Prop), Q true s → wpAny (model prog w) A (eqBool v y) Q E s
section
variable {prog : Program} {w : World}
theorem EqH.of {A : Around} {s : Shared} {v y : Value} (h : SeqAt.EqAt A s v y true) : EqH prog w A s v y := fun E Q q => h prog w E Q q
theorem EqH.refs {A : Around} {s : Shared} {l b : Addr} (h : ∀ (E : Value → Shared → Prop) (Q : Value → Shared → Prop), Q (.bool true) s → wpAny (model prog w) A (richCompare .Eq (.ref l) (.ref b)) Q E s) : EqH prog w A s (.ref l) (.ref b) := fun E Q q => by
  by_cases e : l = b
  · subst e; exact SeqAt.EqAt.same _ prog w E Q q
  · unfold eqBool
    refine wpAny_holding ?_
    refine wpAny_ite_split (fun hab => absurd (by have := eq_of_beq hab; injection this) e) (fun _ => ?_)
    exact wpAny_bind (h E _ (wpAny_truthy_bool q))
theorem eq_loop {l b : Addr} {items items2 : Array Value} {n n2 : Nat} {dd dd2 : Option Addr} {sl sl2 : Array (Option Value)} (hsz : items.size = items2.size) (k : Nat) :
    ∀ i : Nat, items.size - i = k → ∀ (A : Around) (R : Result → Shared → Prop) (s : Shared), s.heap.get? l = some { cls := .type "list", dict := dd, data := .seq items n, slots := sl } → s.heap.get? b = some { cls := .type "list", dict := dd2, data := .seq items2 n2, slots := sl2 } →
      (∀ j (h1 : j < items.size) (h2 : j < items2.size), EqH prog w A.in1 s items[j] items2[j]) → R (.ok (.ret (.bool true))) s →
      wpAny (model prog w) A.in1 (Builtin.«list.__eq__.loop» ⟨[.ref l, .ref b, rawInt i, rawInt 2], []⟩) (fun fin s' => match fin with | .done f => R (.ok f) s' | .again c' => c'.quiet = true ∧ codeAny (model prog w) A c' R s') (fun e s' => R (.error e) s') s := by
  induction k with
  | zero =>
    intro i hk A R s hl hb he h
    obtain ⟨hp, g, d, tk, os⟩ := s
    wp_walk using AutoSeq1.wpAny_loadPart' hl, AutoSeq1.wpAny_loadPart' hb
    have hi1 : items[((i : Nat) : Int).toNat]? = none := by simp; omega
    have hi2 : items2[((i : Nat) : Int).toNat]? = none := by simp; omega
    rw [hi1, hi2]
    wp_walk using AutoSeq1.wpAny_loadPart' hl, AutoSeq1.wpAny_loadPart' hb
    show R (.ok (.ret (.bool (items.size == items2.size)))) _
    rw [hsz]
    simpa using h
  | succ k ih =>
    intro i hk A R s hl hb he h
    obtain ⟨hp, g, d, tk, os⟩ := s
    wp_walk using AutoSeq1.wpAny_loadPart' hl, AutoSeq1.wpAny_loadPart' hb
    have hlt : i < items.size := by omega
    have hlt2 : i < items2.size := by omega
    have hi1 : items[((i : Nat) : Int).toNat]? = some items[i] := by simp [hlt]
    have hi2 : items2[((i : Nat) : Int).toNat]? = some items2[i] := by simp [hlt2]
    have hc : ((i : Int) + 1) = ((i + 1 : Nat) : Int) := by push_cast; rfl
    rw [hi1, hi2]
    refine wpAny_bind (he i hlt hlt2 _ _ ?_)
    wp_walk
    rw [hc]
    exact ⟨plainId_quiet MeetsSeq3.plain_eq_loop _, codeAny_builtin MeetsSeq3.entry_eq_loop (by
      rw [Around.under_plainId MeetsSeq3.plain_eq_loop _]
      exact ih (i + 1) (by omega) A R _ hl hb he h)⟩
theorem eq_lists {A : Around} {E : Value → Shared → Prop} {s : Shared} {l b : Addr} {items items2 : Array Value} {Q : Value → Shared → Prop} (hl : s.heap.IsList l items) (hb : s.heap.IsList b items2) (hsz : items.size = items2.size) (hu : A.units < cLine)
    (he : ∀ j (h1 : j < items.size) (h2 : j < items2.size), EqH prog w A.in1 s items[j] items2[j]) (h : Q (.bool true) s) : wpAny (model prog w) A (richCompare .Eq (.ref l) (.ref b)) Q E s := by
  obtain ⟨⟨cls, dd, data, sl⟩, ho, hc, n, hd⟩ := id hl
  obtain ⟨⟨cls2, dd2, data2, sl2⟩, ho2, hc2, n2, hd2⟩ := id hb
  simp only at hc hd hc2 hd2
  subst hc hd hc2 hd2
  have f3 := AutoSeq1.sub_list_list
  have hne : ¬ (items.size != items2.size) = true := by simp [hsz]
  have hT : s.TypeIs (.ref l) "list" := ⟨_, ho, rfl⟩
  refine wpAny_richCompare_same_room (op := .Eq) hT ⟨_, ho2, rfl⟩ F.slot_list_eq (wpAny_call (codeAny_call_builtin F.slot_list_eq.plain F.entry_list_eq (F.slot_list_eq.check _ _ _ _ _ _ _ _ hT (F.args_list_eq_2 _ _) ?_))) hu
  obtain ⟨hp, g, d, tk, os⟩ := s
  wp_walk using AutoSeq1.wpAny_loadPart' ho, AutoSeq1.wpAny_loadPart' ho2
  exact ⟨plainId_quiet MeetsSeq3.plain_eq_loop _, codeAny_builtin MeetsSeq3.entry_eq_loop (by
    rw [Around.under_plainId MeetsSeq3.plain_eq_loop _]
    exact eq_loop hsz _ 0 rfl A (wants (fun v s' => v ≠ .notImplemented ∧ Q v s') E) _ ho ho2 he ⟨(fun x => nomatch x), h⟩)⟩
end
end
-- La36
section
noncomputable def flatV : AV → Bool
  | .none => true | .bool _ => true | .int _ => true | .str _ => true | _ => false
/-- a dict of plain things -/
noncomputable def flatD : AV → Bool
  | .dct l => l.all fun p => flatV p.2
  | _ => false
theorem flat_eq {P : Params} {F : Fz} {A : Around} {s : Shared} {v y : Value} {d : AV} (h : Is P F v d) (k : Is P F y d) (f : flatV d = true) : SeqAt.EqAt A s v y true := by
  cases h with
  | none => cases k; exact SeqAt.EqAt.same _
  | bool b => cases k; exact SeqAt.EqAt.same _
  | int i t =>
    cases k with | int _ u =>
    have := SeqAt.EqAt.int_int (A := A) (s := s) i t i u
    rw [beq_self_eq_true] at this; exact this
  | str l t =>
    cases k with | str _ u =>
    have := SeqAt.EqAt.str_str (A := A) (s := s) (S l) t (S l) u
    rw [beq_self_eq_true] at this; exact this
  | lit v => cases f
  | ref a => cases f
  | tup _ _ => cases f
  | lst _ _ => cases f
  | dct _ _ _ _ => cases f
  | meth _ => cases f
  | obj _ _ => cases f
  | any v => cases f
theorem getF_nodup {l : List (Str × AV)} (nd : (l.map (·.1)).Nodup) {p : Str × AV} (hp : p ∈ l) : getF p.1 l = some p.2 := by
  induction l with
  | nil => cases hp
  | cons q r ih =>
    rw [List.map_cons, List.nodup_cons] at nd
    unfold getF
    rw [List.find?_cons]
    rcases List.mem_cons.mp hp with rfl | hp
    · simp
    · have : (q.1 == p.1) = false := beq_eq_false_iff_ne.mpr fun e => nd.1 (e ▸ List.mem_map_of_mem hp)
      rw [this]
      exact ih nd.2 hp
section
variable {prog : Program} {w : World} {F : Fz} {A : Around} {s : Shared}
theorem hits_of {es' : List DictEntry} {l : List (Str × AV)} (k : IsEnts w.params F es' l) (nd : (l.map (·.1)).Nodup) (f : ∀ p ∈ l, flatV p.2 = true) : ∀ {es : List DictEntry} {l' : List (Str × AV)}, IsEnts w.params F es l' → (∀ p ∈ l', p ∈ l) → KeqHits A s (kvOf es' l) (kvOf es l') true
  | _, _, .nil, _ => .nil
  | _, _, .cons (x := x) (d := d) hv r, sub => by
    obtain ⟨y, e1, e2⟩ := kv_value k (getF_nodup nd (sub (x, d) (.head _)))
    have := KeqHits.hit (A := A) (s := s) (kb := kvOf es' l) (k := x) e1 (flat_eq hv e2 (f _ (sub (x, d) (.head _)))) (hits_of k nd f r fun p hp => sub p (.tail _ hp))
    exact this
theorem dct_same {v y : Value} {d : AV} (h : Is w.params F v d) (k : Is w.params F y d) (f : flatD d = true) (sub : ∀ b o, F b = some o → s.heap.get? b = some o) (hu : A.units < cLine) : EqH prog w A s v y := by
  cases h with
  | dct h1 h2 h3 h4 =>
    cases k with
    | dct k1 k2 k3 k4 =>
      rename_i a es m l b es' m'
      have fl : ∀ p ∈ l, flatV p.2 = true := fun p hp => List.all_eq_true.mp f p hp
      refine EqH.refs fun E Q q => ?_
      refine keq_eq (prog := prog) (w := w) (knd := strKind prog w) (r := true) h4 k4 (dict_is h2 h3 (sub _ _ h1)) (dict_is k2 h3 (sub _ _ k1)) hu (fun _ => hits_of k2 h3 fl h2 fun p hp => hp) ?_
      have : (kvOf es l).length = (kvOf es' l).length := by
        have e1 := congrArg List.length (kv_keys h2)
        have e2 := congrArg List.length (kv_keys k2)
        simp only [List.length_map] at e1 e2
        omega
      rw [this, beq_self_eq_true]
      exact q
  | none => cases f
  | bool b => cases f
  | int i t => cases f
  | str l t => cases f
  | lit v => cases f
  | ref a => cases f
  | tup _ _ => cases f
  | lst _ _ => cases f
  | meth _ => cases f
  | obj _ _ => cases f
  | any v => cases f
end
section
variable {B : Base} {n : Nat} {L : Addr} {H : List (Value × AV)} {σ : St} {env : Env}
/-- two lists of dicts that show the same -/
theorem O_eqDicts {a b : Value} {x y : Addr} {l : List AV} {Φ : Value → AV → St → Prop} (ma : (a, .ref x) ∈ H) (mb : (b, .ref y) ∈ H) (mx : (x, AO.list l) ∈ σ.objs) (my : (y, AO.list l) ∈ σ.objs) (f : l.all flatD = true)
    (h : ∀ v, Φ v (.bool true) σ) : WV B n L (compareOp .Eq a b) H σ Φ := W_of fun A F s hA X => by
  obtain rfl := inv_ref (X.hold ma)
  obtain rfl := inv_ref (X.hold mb)
  obtain ⟨vs, m, h1, h2⟩ := X.objs _ mx
  obtain ⟨us, k, k1, k2⟩ := X.objs _ my
  have e1 := h2.length
  have e2 := k2.length
  have hu := hA.units
  have hc : cLine = 9900 := rfl
  refine eq_lists (items := vs.toArray) (items2 := us.toArray) ⟨_, h1, rfl, m, rfl⟩ ⟨_, k1, rfl, k, rfl⟩ (by simp; omega) (by rw [hc]; omega) (fun j j1 j2 => ?_) (.here X ⟨_, .bool true, h _⟩)
  have hj : j < l.length := by simp at j1; omega
  obtain ⟨v, ev, hv⟩ := B_pop.nth h2 (k := j) (d := l[j]) (by simp [hj])
  obtain ⟨u, eu, hu'⟩ := B_pop.nth k2 (k := j) (d := l[j]) (by simp [hj])
  have e3 : vs.toArray[j] = v := by
    have : vs[j]? = some vs.toArray[j] := by simp
    rw [this] at ev; exact Option.some.inj ev
  have e4 : us.toArray[j] = u := by
    have : us[j]? = some us.toArray[j] := by simp
    rw [this] at eu; exact Option.some.inj eu
  rw [e3, e4]
  exact dct_same hv hu' (List.all_eq_true.mp f _ (List.getElem_mem hj)) X.sub (by show A.units + 1 < cLine; rw [hc]; omega)
end
end
-- La37
section
section
variable {γ : Type} {B : Base} {m n : Nat} {L : Addr} {H : List (Value × AV)} {env : Env} {σ : St}
theorem g_compGen {elt target iter : Expr} {ifs : List Expr} {scope : Scope} {pos : Pos} {cl : List (Str × Addr)} {Φ : Value → AV → St → Prop} (xs : List Str) (fi : γ → AV) (YJ : γ → AV → List (Addr × AO) → Prop) (RJ : List (Addr × AO) → Prop) (tr : List γ) (hm : m + 1 ≤ n)
    (h : Go iter (WV B n L (eval iter env) H σ fun xv d σ₁ => Hold (∃ x gobjs own, d = .ref x ∧ σ₁.objs = gobjs ++ own ∧ GenIter B n m x gobjs YJ RJ tr ∧
      (∀ H x d gobjs ys, YJ x d gobjs → CompGo B n target elt ifs (fun C => compEnvC scope cl C env) H xs d (fun l objs => l = ys ∧ ys.length ≤ tr.length ∧ objs = gobjs ++ own) (fun l objs => l = ys ++ [fi x] ∧ objs = gobjs ++ own)) ∧
      ∀ gobjs' D, RJ gobjs' → Φ (.ref D) (.ref D) ⟨σ₁.loc, (D, .list (tr.map fi)) :: (gobjs' ++ own)⟩)))
    (hclos : closureFor scope env = pure cl := by rfl) (hx : xs.Nodup := by decide)
    (hcell : ∀ y ∈ scope.names, y.2 ≠ .cell := by decide) (hkind : scope.kind = .function := by rfl) (hnames : ∀ y ∈ scope.names, y.2 = .local → scope.names.lookup y.1 = some .local := by decide)
    (hs : ∀ x, foldedSetIterable iter env x = pure x := by intro _; rfl) (ht : ∀ it v, letOwnedTupleGo target it v = pure () := by intro _ _; rfl) :
    Go (Expr.ListComp elt [⟨target, iter, ifs, 0⟩] scope pos) (WV B n L (eval (.ListComp elt [⟨target, iter, ifs, 0⟩] scope pos) env) H σ Φ) :=
  E_compGen xs fi YJ RJ tr hm h hclos hx hcell hkind hnames hs ht
theorem O_eqPair {a b : Value} {i j k l : Int} {Φ : Value → AV → St → Prop} (ma : (a, .tup [.int i, .int j]) ∈ H) (mb : (b, .tup [.int k, .int l]) ∈ H) (h : ∀ v, Φ v (.bool (i == k && j == l)) σ) : WV B n L (compareOp .Eq a b) H σ Φ :=
  O_eqD ma mb rfl rfl (by simp [SeqAt.shaped, PyData.canLay0, PyData.canLayAll0, PyData.depth, PyData.depthAll]) (by simp [SeqAt.shaped, PyData.canLay0, PyData.canLayAll0, PyData.depth, PyData.depthAll]) (by simp [PyData.eqv, PyData.eqvAll]) h
end
end
local macro_rules | `(tactic| walk_at "Go Eq") => `(tactic| (plain_pass; refine O_eqPair (by k_ownIn) (by k_ownIn) ?_))
section
end
-- Q1
section
open Builtin Builtin.Str PySem.StrLaws
/-! ### places of a text in another -/
noncomputable def hitL (l y : List Nat) (i : Nat) : Bool := (l.drop i).take y.length == y
theorem sub_hit (l y : List Nat) (i : Nat) : subAt (S l) (S y) i = hitL l y i := by
  rw [subAt_eq]; simp [hitL, S_length]
theorem occ_filter {l y : List Nat} {hi limit : Nat} (nov : ∀ i j, hitL l y i = true → hitL l y j = true → i < j → i + y.length ≤ j) : ∀ (n a : Nat) (acc : Array Nat) (free : Nat), acc.size + n ≤ limit → (∀ i, a ≤ i → hitL l y i = true → free ≤ i) →
    (forIn (List.range' a n) (acc, free) (occBody (S l) (S y) hi limit)).run.fst.toList = acc.toList ++ (List.range' a n).filter (fun i => decide (i + y.length ≤ hi) && hitL l y i)
  | 0, a, acc, free, _, _ => by simp
  | n + 1, a, acc, free, hs, hf => by
    rw [List.range'_succ, List.forIn_cons]
    by_cases h : (a + y.length ≤ hi) ∧ hitL l y a = true
    · have hb : occBody (S l) (S y) hi limit a (acc, free) = pure (ForInStep.yield (acc.push a, a + y.length)) := by
        unfold occBody
        rw [if_pos (by rw [S_length, sub_hit]; exact ⟨⟨⟨by show acc.size < limit; omega, hf a (Nat.le_refl _) h.2⟩, h.1⟩, h.2⟩), S_length]
      rw [hb]
      have ih := occ_filter (hi := hi) (limit := limit) nov n (a + 1) (acc.push a) (a + y.length) (by rw [Array.size_push]; omega) fun i hi hh => nov a i h.2 hh (by omega)
      show (forIn (List.range' (a + 1) n) (acc.push a, a + y.length) (occBody (S l) (S y) hi limit)).run.fst.toList = _
      rw [ih, List.filter_cons, if_pos (by simp [h.1, h.2])]
      simp
    · have hb : occBody (S l) (S y) hi limit a (acc, free) = pure (ForInStep.yield (acc, free)) := by
        unfold occBody
        rw [if_neg (by rw [S_length, sub_hit]; exact fun q => h ⟨q.1.2, q.2⟩)]
      rw [hb]
      have ih := occ_filter (hi := hi) (limit := limit) nov n (a + 1) acc free (by omega) fun i hi hh => hf i (by omega) hh
      show (forIn (List.range' (a + 1) n) (acc, free) (occBody (S l) (S y) hi limit)).run.fst.toList = _
      rw [ih, List.filter_cons, if_neg (by simp; exact fun q => by have := fun z => h ⟨q, z⟩; simpa using this)]
theorem hit_one {l : List Nat} {c i : Nat} : hitL l [c] i = true ↔ l[i]? = some c := take1_drop
theorem nov_one {l : List Nat} {c : Nat} : ∀ i j, hitL l [c] i = true → hitL l [c] j = true → i < j → i + [c].length ≤ j := fun i j _ _ h => h
theorem hit_two {l : List Nat} {c d i : Nat} : hitL l [c, d] i = true ↔ l[i]? = some c ∧ l[i + 1]? = some d := by
  have e : ∀ k, l[i + k]? = (l.drop i)[k]? := fun k => by rw [List.getElem?_drop]
  have e0 := e 0
  rw [Nat.add_zero] at e0
  rw [e0, e 1]
  unfold hitL
  rw [beq_iff_eq]
  rcases l.drop i with _ | ⟨a, _ | ⟨b, r⟩⟩ <;> simp
theorem nov_two {l : List Nat} {c d : Nat} (h : c ≠ d) : ∀ i j, hitL l [c, d] i = true → hitL l [c, d] j = true → i < j → i + [c, d].length ≤ j := fun i j h1 h2 hij => by
  rw [hit_two] at h1 h2
  show i + 2 ≤ j
  by_cases e : j = i + 1
  · subst e
    rw [h1.2] at h2
    exact absurd (Option.some.inj h2.1).symm h
  · omega
/-! ### the count and the last place of one sign -/
theorem take_filter (l : List Nat) (c : Nat) : ∀ n, n ≤ l.length → ((List.range' 0 n).filter fun i => hitL l [c] i).length = (l.take n).count c
  | 0, _ => rfl
  | n + 1, h => by
    rw [List.range'_1_concat, List.filter_append, List.length_append, take_filter l c n (by omega), List.take_add_one, List.count_append, Nat.zero_add]
    congr 1
    have hn : n < l.length := h
    rw [List.getElem?_eq_getElem hn, List.filter_cons]
    by_cases e : l[n] = c
    · rw [if_pos (hit_one.mpr (by rw [List.getElem?_eq_getElem hn, e]))]; simp [e]
    · rw [if_neg (by rw [hit_one, List.getElem?_eq_getElem hn]; simpa using e)]; simp [e]
theorem cntTo_nat {l : List Nat} {c i : Nat} (h : i ≤ l.length) : cntTo c l i = (l.take i).count c := by
  unfold cntTo
  rw [norm_nat h, Nat.min_eq_left h, occ_eq, Nat.sub_zero, occ_filter nov_one (i + 1) 0 #[] 0 (by show 0 + (i + 1) ≤ _; omega) fun _ _ _ => Nat.zero_le _]
  rw [List.range'_1_concat, List.filter_append, ← take_filter l c i h]
  have : (List.range' 0 i).filter (fun j => decide (j + [c].length ≤ i) && hitL l [c] j) = (List.range' 0 i).filter fun j => hitL l [c] j :=
    List.filter_congr fun j hj => by
      have : j < i := by simpa using (List.mem_range'.mp hj)
      simp; omega
  rw [this]
  simp
  omega
theorem last_filter {l y : List Nat} {hi : Nat} : ∀ (n a : Nat) (st : Option Nat), (forIn (List.range' a n) st (lastBody (S l) (S y) hi)).run = (((List.range' a n).filter fun i => decide (i + y.length ≤ hi) && hitL l y i).getLast?).or st
  | 0, a, st => by simp
  | n + 1, a, st => by
    rw [List.range'_succ, List.forIn_cons]
    by_cases h : (a + y.length ≤ hi) ∧ hitL l y a = true
    · have hb : lastBody (S l) (S y) hi a st = pure (ForInStep.yield (some a)) := by
        unfold lastBody
        rw [if_pos (by rw [S_length, sub_hit]; exact h)]
      rw [hb]
      show (forIn (List.range' (a + 1) n) (some a) (lastBody (S l) (S y) hi)).run = _
      rw [last_filter n (a + 1), List.filter_cons, if_pos (by simp [h.1, h.2]), List.getLast?_cons]
      cases (List.filter (fun i => decide (i + y.length ≤ hi) && hitL l y i) (List.range' (a + 1) n)).getLast? <;> rfl
    · have hb : lastBody (S l) (S y) hi a st = pure (ForInStep.yield st) := by
        unfold lastBody
        rw [if_neg (by rw [S_length, sub_hit]; exact h)]
      rw [hb]
      show (forIn (List.range' (a + 1) n) st (lastBody (S l) (S y) hi)).run = _
      rw [last_filter n (a + 1), List.filter_cons, if_neg (by simp; exact fun q => by have := fun z => h ⟨q, z⟩; simpa using this)]
/-- the column behind these signs -/
noncomputable def colF (a : Int) (l : List Nat) : Int := l.foldl (fun a c => if c = 10 then 0 else a + 1) a
theorem last_take (l : List Nat) (pc : Int) : ∀ n, n ≤ l.length → colF pc (l.take n) = match ((List.range' 0 n).filter fun i => hitL l [10] i).getLast? with | none => pc + n | some j => (n : Int) - (j + 1)
  | 0, _ => by simp [colF]
  | n + 1, h => by
    have hn : n < l.length := h
    have ih := last_take l pc n (by omega)
    rw [List.take_add_one, List.getElem?_eq_getElem hn]
    rw [List.range'_1_concat, List.filter_append, Nat.zero_add]
    unfold colF at ih ⊢
    rw [List.foldl_append, ih]
    by_cases e : l[n] = 10
    · have hh : hitL l [10] n = true := hit_one.mpr (by rw [List.getElem?_eq_getElem hn, e])
      rw [List.filter_cons, if_pos hh]
      simp [e]
    · have hh : ¬ hitL l [10] n = true := by rw [hit_one, List.getElem?_eq_getElem hn]; simpa using e
      rw [List.filter_cons, if_neg hh]
      simp only [List.filter_nil, List.append_nil, Option.toList_some, List.foldl_cons, List.foldl_nil, if_neg e]
      cases ((List.range' 0 n).filter fun i => hitL l [10] i).getLast? with
      | none => simp; omega
      | some j => simp; omega
theorem lastTo_nat {l : List Nat} {i : Nat} (h : i ≤ l.length) : lastTo 10 l i = match ((List.range' 0 i).filter fun i => hitL l [10] i).getLast? with | none => -1 | some j => (j : Int) := by
  unfold lastTo
  rw [norm_nat h, Nat.min_eq_left h, last_eq, Nat.sub_zero, last_filter]
  have : (List.range' 0 (i + 1)).filter (fun j => decide (j + [10].length ≤ i) && hitL l [10] j) = (List.range' 0 i).filter fun j => hitL l [10] j := by
    rw [List.range'_1_concat, List.filter_append]
    rw [List.filter_congr (q := fun j => hitL l [10] j) fun j hj => by
      have : j < i := by simpa using (List.mem_range'.mp hj)
      simp; omega]
    simp
    omega
  rw [this, Option.or_none]
  cases ((List.range' 0 i).filter fun j => hitL l [10] j).getLast? <;> rfl
end
-- Q2
section
open Builtin Builtin.Str PySem.StrLaws
/-! ### one text put for another -/
theorem join_two (z p q : Str) (r : List Str) : (Str.join z (p :: q :: r)).cps.toList = p.cps.toList ++ (z.cps.toList ++ (Str.join z (q :: r)).cps.toList) := by
  show (p ++ z ++ Str.join z (q :: r)).cps.toList = _
  simp [Str.cps_append]
theorem sub_list (l : List Nat) (i j : Nat) : (strSub (S l) i j).cps.toList = (l.drop i).take (j - i) := by rw [strSub_toList]
theorem parts_step {l : List Nat} {z : Str} {w a : Nat} (ha : a < l.length) : ∀ cuts : List Nat, (∀ i ∈ cuts, a + 1 ≤ i) → (Str.join z (partsFrom (S l) w a cuts)).cps.toList = l[a] :: (Str.join z (partsFrom (S l) w (a + 1) cuts)).cps.toList
  | [], _ => by
    show (strSub (S l) a (S l).length).cps.toList = _ :: (strSub (S l) (a + 1) (S l).length).cps.toList
    rw [sub_list, sub_list, S_length, List.drop_eq_getElem_cons ha, show l.length - a = (l.length - (a + 1)) + 1 from by omega]
    rfl
  | c :: r, h => by
    obtain ⟨p, q, e⟩ := partsFrom_ne (S l) w (c + w) r
    show (Str.join z (strSub (S l) a c :: partsFrom (S l) w (c + w) r)).cps.toList = _ :: (Str.join z (strSub (S l) (a + 1) c :: partsFrom (S l) w (c + w) r)).cps.toList
    have := h c (.head _)
    rw [e, join_two, join_two, sub_list, sub_list, List.drop_eq_getElem_cons ha, show c - a = (c - (a + 1)) + 1 from by omega]
    rfl
theorem parts_all {l y z : List Nat} (f : List Nat → List Nat) (f1 : f [] = []) (f2 : ∀ r, f (y ++ r) = z ++ f r) (f3 : ∀ c r, ¬ (c :: r).take y.length = y → f (c :: r) = c :: f r) (hy : y ≠ [])
    (nov : ∀ i j, hitL l y i = true → hitL l y j = true → i < j → i + y.length ≤ j) : ∀ (k a : Nat), k = l.length - a → a ≤ l.length →
    (Str.join (S z) (partsFrom (S l) y.length a ((List.range' a (l.length + 1 - a)).filter fun i => hitL l y i))).cps.toList = f (l.drop a) := by
  intro k
  induction k using Nat.strongRecOn with
  | ind k ih =>
    intro a hk ha
    have hy1 : 1 ≤ y.length := by cases y with | nil => exact absurd rfl hy | cons _ _ => simp
    by_cases e : a = l.length
    · subst e
      have h0 : ¬ hitL l y l.length = true := by
        unfold hitL
        rw [beq_iff_eq, List.drop_length, List.take_nil]
        exact fun q => hy q.symm
      rw [show l.length + 1 - l.length = 1 from by omega, List.range'_one, List.filter_cons, if_neg h0]
      show (strSub (S l) l.length (S l).length).cps.toList = _
      rw [sub_list, List.drop_length, f1]; simp
    · have hlt : a < l.length := by omega
      rw [show l.length + 1 - a = (l.length - a) + 1 from by omega, List.range'_succ, List.filter_cons]
      by_cases hh : hitL l y a = true
      · rw [if_pos hh]
        have hd : l.drop a = y ++ l.drop (a + y.length) := by
          have h1 : (l.drop a).take y.length = y := by simpa [hitL] using hh
          rw [← List.drop_drop, ← h1]
          conv => lhs; rw [← List.take_append_drop y.length (l.drop a)]
          rw [h1]
        have hw : a + y.length ≤ l.length := by
          have := congrArg List.length hd
          simp at this; omega
        have cut : (List.range' (a + 1) (l.length - a)).filter (fun i => hitL l y i) = (List.range' (a + y.length) (l.length + 1 - (a + y.length))).filter fun i => hitL l y i := by
          rw [show l.length - a = (y.length - 1) + (l.length + 1 - (a + y.length)) from by omega, ← List.range'_append_1, List.filter_append, show a + 1 + (y.length - 1) = a + y.length from by omega]
          have : (List.range' (a + 1) (y.length - 1)).filter (fun i => hitL l y i) = [] := by
            rw [List.filter_eq_nil_iff]
            intro i hi hq
            have hi := List.mem_range'_1.mp hi
            have := nov a i hh hq (by omega)
            omega
          rw [this, List.nil_append]
        rw [cut, hd, f2]
        have IH := ih (l.length - (a + y.length)) (by omega) (a + y.length) rfl hw
        rw [← IH]
        obtain ⟨p, q, ep⟩ := partsFrom_ne (S l) y.length (a + y.length) ((List.range' (a + y.length) (l.length + 1 - (a + y.length))).filter fun i => hitL l y i)
        show (Str.join (S z) (strSub (S l) a a :: partsFrom (S l) y.length (a + y.length) _)).cps.toList = _
        rw [ep, join_two, sub_list]
        simp
      · rw [if_neg hh, parts_step hlt _ (fun i hi => by have := List.mem_range'_1.mp (List.mem_filter.mp hi).1; omega)]
        have IH := ih (l.length - (a + 1)) (by omega) (a + 1) rfl hlt
        rw [show l.length + 1 - (a + 1) = l.length - a from by omega] at IH
        rw [IH, List.drop_eq_getElem_cons hlt, f3]
        intro q
        apply hh
        unfold hitL
        rw [beq_iff_eq, List.drop_eq_getElem_cons hlt]
        exact q
theorem repl_eq {l y z : List Nat} (f : List Nat → List Nat) (f1 : f [] = []) (f2 : ∀ r, f (y ++ r) = z ++ f r) (f3 : ∀ c r, ¬ (c :: r).take y.length = y → f (c :: r) = c :: f r) (hy : y ≠ [])
    (nov : ∀ i j, hitL l y i = true → hitL l y j = true → i < j → i + y.length ≤ j) : repl l y z = f l := by
  have main := parts_all f f1 f2 f3 hy nov l.length 0 rfl (Nat.zero_le _)
  rw [Nat.sub_zero, List.drop_zero] at main
  have occ : occurrences (S l) (S y) 0 (S l).length ((S l).length + 1) = (List.range' 0 (l.length + 1)).filter fun i => hitL l y i := by
    rw [S_length, occ_eq, Nat.sub_zero, occ_filter nov (l.length + 1) 0 #[] 0 (by show 0 + _ ≤ _; omega) fun _ _ _ => Nat.zero_le _]
    rw [List.filter_congr (q := fun j => hitL l y j) fun j hj => ?_]
    · simp
    · cases q : hitL l y j with
      | false => simp
      | true =>
        have h1 : (l.drop j).take y.length = y := by simpa [hitL] using q
        have := congrArg List.length h1
        have hy1 : 1 ≤ y.length := by cases y with | nil => exact absurd rfl hy | cons _ _ => simp
        simp at this
        simp; omega
  unfold repl Txt.replace
  have hyl : ((S y).length == 0) = false := by
    rw [S_length]; cases y with | nil => exact absurd rfl hy | cons _ _ => rfl
  rw [hyl, Bool.false_and, Bool.or_false, occ]
  cases he : ((List.range' 0 (l.length + 1)).filter fun i => hitL l y i).isEmpty with
  | true =>
    rw [if_pos rfl]
    rw [List.isEmpty_iff.mp he] at main
    rw [← main]
    show _ = (strSub (S l) 0 (S l).length).cps.toList
    rw [sub_list, S_length]; simp
  | false =>
    rw [if_neg Bool.false_ne_true, glued_eq_join, partsBetween_eq, S_length]
    exact main
noncomputable def crlf : List Nat → List Nat
  | 13 :: 10 :: r => 10 :: crlf r
  | c :: r => c :: crlf r
  | [] => []
noncomputable def cr1 (c : Nat) : Nat := if c = 13 then 10 else c
theorem repl_crlf (l : List Nat) : repl l [13, 10] [10] = crlf l := by
  refine repl_eq crlf rfl (fun r => by simp [crlf]) (fun c r h => crlf.eq_2 c r fun r' e1 e2 => h (by subst e1 e2; rfl)) (by simp) (nov_two (by decide))
theorem repl_cr (l : List Nat) : repl l [13] [10] = l.map cr1 := by
  refine repl_eq (List.map cr1) rfl (fun r => by simp [cr1]) (fun c r h => ?_) (by simp) nov_one
  have : c ≠ 13 := by simpa using h
  simp [cr1, this]
end
-- Q3
section
/-! ### line ends mended -/
noncomputable def mend : List Nat → List Nat
  | 13 :: 10 :: r => 10 :: mend r
  | c :: r => cr1 c :: mend r
  | [] => []
theorem mend_eq (l : List Nat) : repl (repl l [13, 10] [10]) [13] [10] = mend l := by
  rw [repl_crlf, repl_cr]
  fun_induction mend l with
  | case1 r ih => rw [crlf.eq_1, List.map_cons, ih]; rfl
  | case2 c r h ih => rw [crlf.eq_2 c r h, List.map_cons, ih]
  | case3 => rfl
theorem mend_snoc (p : List Nat) (c : Nat) : mend (p ++ [c]) = if c = 10 ∧ p.getLast? = some 13 then mend p else mend p ++ [cr1 c] := by
  fun_induction mend p with
  | case1 r ih =>
    show 10 :: mend (r ++ [c]) = _
    rw [ih]
    cases r with
    | nil => simp [mend]
    | cons a r => rw [List.getLast?_cons_cons, List.getLast?_cons_cons]; split <;> rfl
  | case2 a r h ih =>
    cases r with
    | nil =>
      by_cases e : c = 10 ∧ a = 13
      · obtain ⟨rfl, rfl⟩ := e; simp [mend, cr1]
      · rw [if_neg (by simpa using e)]
        show mend (a :: [c]) = _
        rw [mend.eq_2 a [c] (fun r' e1 e2 => e ⟨by simpa using (List.cons.inj e2).1, e1⟩)]
        simp [mend]
    | cons b r =>
      rw [List.getLast?_cons_cons]
      show mend (a :: (b :: r ++ [c])) = _
      rw [mend.eq_2 a (b :: r ++ [c]) (fun r' e1 e2 => by
        have := (List.cons.inj e2).1
        exact h r e1 (by rw [this])), ih]
      split <;> rfl
  | case3 =>
    rw [if_neg (by simp)]
    show mend [c] = [cr1 c]
    rw [mend.eq_2 c [] (fun r' e1 e2 => nomatch e2)]
    rfl
theorem mend_len (l : List Nat) : (mend l).length ≤ l.length := by
  fun_induction mend l with
  | case1 r ih => simp; omega
  | case2 c r h ih => simp; omega
  | case3 => simp
theorem mend_ne {l : List Nat} (h : l ≠ []) : mend l ≠ [] := by
  fun_cases mend l with
  | case1 r => simp
  | case2 c r _ => simp
  | case3 => exact absurd rfl h
/-! ### what comes of a text -/
noncomputable abbrev kErr' : AV := .dct [("type", .int 7), ("data", .str (sg "invalid-codepoint"))]
noncomputable abbrev kCh (x : List Nat) : AV := .dct [("type", .int 1), ("data", .str x)]
noncomputable def part1 (p : List Nat) : List AV := if p = [] then [] else [kCh p]
noncomputable def toksG (p : List Nat) : List Nat → List AV
  | [] => part1 p
  | c :: r => if c = 0 then part1 p ++ ([kErr', kCh [65533]] ++ toksG [] r) else toksG (p ++ [c]) r
/-- the law's own way: what is told and what is open -/
noncomputable def emit (a : List AV × List Nat) (c : Nat) : List AV × List Nat := if c = 0 then (a.1 ++ (part1 a.2 ++ [kErr', kCh [65533]]), []) else (a.1, a.2 ++ [c])
theorem emit_toks : ∀ (N : List Nat) (ds : List AV) (p : List Nat), (N.foldl emit (ds, p)).1 ++ part1 (N.foldl emit (ds, p)).2 = ds ++ toksG p N
  | [], ds, p => rfl
  | c :: r, ds, p => by
    rw [List.foldl_cons]
    unfold toksG
    by_cases h : c = 0
    · rw [if_pos h, show emit (ds, p) c = (ds ++ (part1 p ++ [kErr', kCh [65533]]), []) from by unfold emit; rw [if_pos h], emit_toks r]
      simp
    · rw [if_neg h, show emit (ds, p) c = (ds, p ++ [c]) from by unfold emit; rw [if_neg h], emit_toks r]
theorem toks_run (p : List Nat) (hp : p ≠ []) : ∀ N : List Nat, toksG p N = kCh (p ++ N.takeWhile (fun c => decide (c ∈ [0]) == false)) :: toksG [] (N.dropWhile fun c => decide (c ∈ [0]) == false)
  | [] => by simp [toksG, part1, hp]
  | c :: r => by
    by_cases h : c = 0
    · subst h
      simp [toksG, part1, hp]
    · have e : toksG p (c :: r) = toksG (p ++ [c]) r := if_neg h
      rw [e, toks_run (p ++ [c]) (by simp) r]
      have : (decide (c ∈ [0]) == false) = true := by simp [h]
      rw [List.takeWhile_cons, if_pos this, List.dropWhile_cons, if_pos this]
      simp
end
-- F0
section
/-- the base of this text -/
structure IsB (B : Base) : Prop where
  K : B.K = theK B.P
end
local macro_rules | `(tactic| k_clsL) => `(tactic| (rw [IsB.K (by assumption)]; kernel_rfl))
section
end
local macro_rules | `(tactic| k_offL) => `(tactic| (rw [IsB.K (by assumption)]; rfl))
section
/-- the methods that this text names -/
noncomputable abbrev methTab : List (Str × Addr) := [("char", 133), ("charsUntil", 156), ("unget", 163), ("position", 126), ("_position", 119), ("readChunk", 141), ("read", 70), ("reset", 105), ("openStream", 112), ("characterErrorsUCS4", 148), ("dataState", 304), ("plaintextState", 346)]
section
variable {B : Base} {n : Nat} {L : Addr} {H : List (Value × AV)} {σ : St}
theorem g_methT {x : Addr} {C dx f : Addr} {fs : List (Str × AV)} {name : Str} {pl : Sem Bool} {v₀ : Value} {Ψ : Value × List Value → Fz → St → Prop} (mv : (v₀, .ref x) ∈ H) (m : (x, AO.inst C dx fs) ∈ σ.objs) (ht : (name, f) ∈ methTab) (ho : methName B.K C name f = true)
    (hf : getF name fs = none) (h : ∀ F, Ψ (.ref f, [v₀]) F σ) : Go Op.meth (W B n L (getMethod v₀ name pl) H σ Ψ) := A_method mv m ho hf h
theorem g_boundT {x : Addr} {C dx f : Addr} {fs : List (Str × AV)} {name : Str} {expr : Bool} {v₀ : Value} {Φ : Value → AV → St → Prop} (mv : (v₀, .ref x) ∈ H) (m : (x, AO.inst C dx fs) ∈ σ.objs) (ht : (name, f) ∈ methTab) (ho : methName B.K C name f = true)
    (hf : getF name fs = none) (h : ∀ v, Φ v (.meth f x) σ) : Go Op.get (WV B n L (getAttr v₀ name expr) H σ Φ) := A_bound mv m ho hf h
end
end
local macro_rules | `(tactic| walk_at "Go meth") => `(tactic| (plain_pass; refine g_methT (by k_ownIn) (by k_ownIn) (by k_ownIn) (by k_clsL) (by kernel_rfl) ?_))
section
end
local macro_rules | `(tactic| walk_at "Go get") => `(tactic| (plain_pass; refine g_boundT (by k_ownIn) (by k_ownIn) (by k_ownIn) (by k_clsL) (by kernel_rfl) ?_))
section
noncomputable def ttAV : List (Str × AV) := [("Doctype", .int 0), ("Characters", .int 1), ("SpaceCharacters", .int 2), ("StartTag", .int 3), ("EndTag", .int 4), ("EmptyTag", .int 5), ("Comment", .int 6), ("ParseError", .int 7)]
theorem core_tt {B : Base} (hB : IsB B) : CoreIs B (.ref 48) (.dct ttAV) := by
  obtain ⟨es, m, h, ok, e⟩ : ∃ es m, B.K.lookup 48 = some (dictOf es m) ∧ entsOk B.P es ∧ coreEnts es = ttAV := by
    refine ⟨_, _, by k_offL, ?_, ?_⟩
    · exact ⟨⟨_, _, rfl, rfl⟩, ⟨_, _, rfl, rfl⟩, ⟨_, _, rfl, rfl⟩, ⟨_, _, rfl, rfl⟩, ⟨_, _, rfl, rfl⟩, ⟨_, _, rfl, rfl⟩, ⟨_, _, rfl, rfl⟩, ⟨_, _, rfl, rfl⟩, trivial⟩
    · rfl
  exact core_dct h ok e (by decide)
end
local macro_rules | `(tactic| walk_at "Go Name") => `(tactic| (plain_pass; (with_reducible show Go (Expr.Name (Str.ofString "_is_invalid") _) _); refine g_global (v := .ref 84) (by k_clsL) (CoreIs.lit _ _) ?_))
section
end
local macro_rules | `(tactic| walk_at "Go Name") => `(tactic| (plain_pass; (with_reducible show Go (Expr.Name (Str.ofString "Text") _) _); refine g_global (v := .ref 73) (by k_clsL) (CoreIs.lit _ _) ?_))
section
end
local macro_rules | `(tactic| walk_at "Go Name") => `(tactic| (plain_pass; (with_reducible show Go (Expr.Name (Str.ofString "HTMLUnicodeInputStream") _) _); refine g_global (v := .ref 166) (by k_clsL) (CoreIs.lit _ _) ?_))
section
end
local macro_rules | `(tactic| walk_at "Go Name") => `(tactic| (plain_pass; (with_reducible show Go (Expr.Name (Str.ofString "HTMLTokenizer") _) _); refine g_global (v := .ref 762) (by k_clsL) (CoreIs.lit _ _) ?_))
section
end
local macro_rules | `(tactic| walk_at "Go Name") => `(tactic| (plain_pass; (with_reducible show Go (Expr.Name (Str.ofString "EOF") _) _); refine g_global (v := .none) (by k_clsL) (fun _ _ => .none) ?_))
section
end
local macro_rules | `(tactic| walk_at "Go Name") => `(tactic| (plain_pass; (with_reducible show Go (Expr.Name (Str.ofString "tokenTypes") _) _); refine g_global (v := .ref 48) (by k_clsL) (core_tt (by assumption)) ?_))
section
end
local macro_rules | `(tactic| walk_at "Go tail") => `(tactic| (plain_pass; refine U_dct (l := ttAV) (x := sg "Characters") (d := .int 1) (by k_ownIn) (by k_ownIn) (by kernel_rfl) ?_))
section
end
local macro_rules | `(tactic| walk_at "Go tail") => `(tactic| (plain_pass; refine U_dct (l := ttAV) (x := sg "ParseError") (d := .int 7) (by k_ownIn) (by k_ownIn) (by kernel_rfl) ?_))
section
end
local macro_rules | `(tactic| walk_at "Go get") => `(tactic| (plain_pass; (with_reducible show Go Op.get (WV _ _ _ (getAttr _ (Str.ofString "_defaultChunkSize") _) _ _ _)); refine A_clsInt (i := 10240) (by k_ownIn) (by k_ownIn) (by k_clsL) (by kernel_rfl) ?_))
section
end
-- F1
section
variable {B : Base} {rest : List (Addr × AO)}
noncomputable abbrev txO (x dx : Addr) (t : List Nat) (p : Int) : Addr × AO := (x, .inst 73 dx [("text", .str t), ("place", .int p)])
theorem c_read (hB : IsB B) {x dx : Addr} {t : List Nat} {p size : Int} (hz : t.length ≤ 16777216) :
    CallJ B 1 70 [.ref x, .int size] (txO x dx t p :: rest) fun d objs => d = .str (sl t (some p) (some (p + size))) ∧ objs = txO x dx t (p + (sl t (some p) (some (p + size))).length) :: rest := by
  refine C_go ["self", "size"] ["part"] (by k_offL) (by k_clsL) (.two fun _ _ => rfl) fun L => ?_
  kas_types
  · exact hz
  kas_types
theorem c_readD (hB : IsB B) {x dx : Addr} {t D : List Nat} {p size : Int} (hz : t.length ≤ 16777216) (hD : sl t (some p) (some (p + size)) = D) :
    CallJ B 1 70 [.ref x, .int size] (txO x dx t p :: rest) fun d objs => d = .str D ∧ objs = txO x dx t (p + D.length) :: rest := by subst hD; exact c_read hB hz
theorem c_textInit (hB : IsB B) {x dx : Addr} {t : List Nat} : CallJ B 1 63 [.ref x, .str t] ((x, .inst 73 dx []) :: rest) fun d objs => d = .none ∧ objs = txO x dx t 0 :: rest := by
  refine C_go ["self", "text"] [] (by k_offL) (by k_clsL) (.two fun _ _ => rfl) fun L => ?_
  kas_types
end
-- F2
section
variable {B : Base} {objs : List (Addr × AO)}
noncomputable def inv (n : Int) : Bool := (decide (1 ≤ n) && decide (n ≤ 8)) || (decide (n = 11) || ((decide (14 ≤ n) && decide (n ≤ 31)) || ((decide (127 ≤ n) && decide (n ≤ 159)) || ((decide (64976 ≤ n) && decide (n ≤ 65007)) || (decide (n.fmod 65536 ∈ [65534, 65535]) || (decide (55296 ≤ n) && decide (n ≤ 57343)))))))
theorem inv_yes {a b : Bool} (h : a = true) : AV.bool true = AV.bool (a || b) := by rw [h]; rfl
theorem inv_no {x : AV} {a b : Bool} (h : a = false) (q : x = AV.bool b) : x = AV.bool (a || b) := by rw [h]; exact q
theorem c_invalid (hB : IsB B) {c : Int} : CallJ B 1 84 [.int c] objs fun d o => d = .bool (inv c) ∧ o = objs := by
  refine C_go ["codepoint"] [] (by k_offL) (by k_clsL) (.one fun _ => rfl) fun L => ?_
  kas_types
  refine Br_of (fun h1 v => ?_) fun h1 => ?_
  · kas_types
    exact inv_yes h1
    rfl
  kas_types
  refine Br_of (fun h2 v => ?_) fun h2 => ?_
  · kas_types
    exact inv_no h1 (inv_yes h2)
    rfl
  kas_types
  refine Br_of (fun h3 v => ?_) fun h3 => ?_
  · kas_types
    exact inv_no h1 (inv_no h2 (inv_yes h3))
    rfl
  kas_types
  refine Br_of (fun h4 v => ?_) fun h4 => ?_
  · kas_types
    exact inv_no h1 (inv_no h2 (inv_no h3 (inv_yes h4)))
    rfl
  kas_types
  refine Br_of (fun h5 v => ?_) fun h5 => ?_
  · kas_types
    exact inv_no h1 (inv_no h2 (inv_no h3 (inv_no h4 (inv_yes h5))))
    rfl
  kas_types
  refine Br_of (fun h6 v => ?_) fun h6 => ?_
  · kas_types
    exact inv_no h1 (inv_no h2 (inv_no h3 (inv_no h4 (inv_no h5 (inv_yes h6)))))
    rfl
  kas_types
  exact inv_no h1 (inv_no h2 (inv_no h3 (inv_no h4 (inv_no h5 (inv_no h6 rfl)))))
  rfl
end
-- F3
section
variable {B : Base} {rest : List (Addr × AO)}
/-- the place's column -/
noncomputable def posC (pc : Int) (c : List Nat) (off : Int) : Int := if lastTo 10 c off = -1 then pc + off else off - (lastTo 10 c off + 1)
/-- the stream's fields -/
noncomputable abbrev stF (st tx er : Addr) (c : List Nat) (sz off pl pc : Int) (buf : AV) : List (Str × AV) :=
  [("reportCharacterErrors", .meth 148 st), ("newLines", .lst [.int 0]), ("dataStream", .ref tx), ("chunk", .str c), ("chunkSize", .int sz), ("chunkOffset", .int off), ("errors", .ref er), ("prevNumLines", .int pl), ("prevNumCols", .int pc), ("_bufferedCharacter", buf)]
noncomputable abbrev stO (st dx tx er : Addr) (c : List Nat) (sz off pl pc : Int) (buf : AV) : Addr × AO := (st, .inst 166 dx (stF st tx er c sz off pl pc buf))
noncomputable abbrev bad : AV := .str (sg "invalid-codepoint")
noncomputable def bads (l : List Nat) : List AV := (l.filter fun (c : Nat) => inv (c : Int)).map fun _ => bad
section
variable {st dx tx er : Addr} {c : List Nat} {sz off pl pc : Int} {buf : AV}
theorem c_pos (hB : IsB B) {o : Int} : CallJ B 1 119 [.ref st, .int o] (stO st dx tx er c sz off pl pc buf :: rest) fun d objs => d = .tup [.int (pl + cntTo 10 c o), .int (posC pc c o)] ∧ objs = stO st dx tx er c sz off pl pc buf :: rest := by
  refine C_go ["self", "offset"] ["chunk", "nLines", "positionLine", "lastLinePos", "positionColumn"] (by k_offL) (by k_clsL) (.two fun _ _ => rfl) fun L => ?_
  kas_types
  refine Br_of (fun h => ?_) fun h => ?_
  all_goals (kas_types; all_goals first | rfl | simp_all [posC])
end
end
local macro_rules | `(tactic| kct_strs) => `(tactic| (refine W_callC (c_pos (by assumption)) (by decide) rfl (by k_allIn) ?_; rintro _ _ ⟨h1, h2⟩; subst h1 h2))
section
variable {B : Base} {rest : List (Addr × AO)}
section
variable {st dx tx er : Addr} {c : List Nat} {sz off pl pc : Int} {buf : AV}
theorem c_position (hB : IsB B) : CallJ B 2 126 [.ref st] (stO st dx tx er c sz off pl pc buf :: rest) fun d objs => d = .tup [.int (pl + cntTo 10 c off + 1), .int (posC pc c off)] ∧ objs = stO st dx tx er c sz off pl pc buf :: rest := by
  refine C_go ["self"] ["line", "col"] (by k_offL) (by k_clsL) (.one fun _ => rfl) fun L => ?_
  kas_types
  all_goals first | rfl | simp
end
end
local macro_rules | `(tactic| kct_strs) => `(tactic| (refine W_callC (c_invalid (by assumption)) (by decide) rfl (by k_allIn) ?_; rintro _ _ ⟨h1, h2⟩; subst h1 h2))
section
variable {B : Base} {rest : List (Addr × AO)}
section
variable {st dx tx er : Addr} {c : List Nat} {sz off pl pc : Int} {buf : AV}
theorem bads_snoc (l : List Nat) {i : Nat} (h : i < l.length) : bads (l.take (i + 1)) = bads (l.take i) ++ (if inv ((l.getD i 0 : Nat) : Int) then [bad] else []) := by
  have e : l.getD i 0 = l[i] := by simp [h]
  rw [e, List.take_add_one, List.getElem?_eq_getElem h]
  unfold bads
  rw [List.filter_append, List.map_append]
  congr 1
  simp only [Option.toList, List.filter_cons, List.filter_nil]
  split <;> rfl
theorem bads_le (l : List Nat) (i : Nat) : (bads (l.take i)).length ≤ l.length := by
  unfold bads
  rw [List.length_map]
  exact Nat.le_trans (List.length_filter_le _ _) (by rw [List.length_take]; omega)
theorem c_charErr (hB : IsB B) {D : List Nat} {es : List AV} {tO : Addr × AO} (hz : es.length + D.length ≤ 16777216) : CallJ B 2 148 [.ref st, .str D] (stO st dx tx er c sz off pl pc buf :: tO :: (er, .list es) :: rest) fun d objs => d = .none ∧ objs = stO st dx tx er c sz off pl pc buf :: tO :: (er, .list (es ++ bads D)) :: rest := by
  refine C_go ["self", "data"] ["c"] (by k_offL) (by k_clsL) (.two fun _ _ => rfl) fun L => ?_
  kas_types
  refine g_for (fun i σ => ∃ o, σ = ⟨[("self", some (.ref st)), ("data", some (.str D)), ("c", o)], stO st dx tx er c sz off pl pc buf :: tO :: (er, .list (es ++ bads (D.take i))) :: rest⟩) ?_
  kas_types
  refine ⟨_, _, It_str, ⟨none, by simp [bads]⟩, ?_, ?_⟩
  · rintro σ ⟨o, rfl⟩
    kas_types
    simp
  · rintro i loc objs a p v hi ⟨o, e⟩
    cases e
    have hb : (es ++ bads (D.take i)).length ≤ 16777216 := by have := bads_le D i; rw [List.length_append]; omega
    kas_types
    refine Br_of (fun h => ?_) fun h => ?_
    · kas_types
      refine ⟨_, _, rfl, some (.str [D.getD i 0]), ?_⟩
      rw [bads_snoc D hi, if_pos h, List.append_assoc]
    · kas_types
      refine ⟨_, _, rfl, some (.str [D.getD i 0]), ?_⟩
      rw [bads_snoc D hi, if_neg (by rw [h]; exact Bool.false_ne_true), List.append_nil]
end
end
-- F4
section
variable {B : Base} {rest : List (Addr × AO)}
end
local macro_rules | `(tactic| walk_at "GoB cons") => `(tactic| refine p_start ?_)
section
variable {B : Base} {rest : List (Addr × AO)}
end
local macro_rules | `(tactic| kct_strs) => `(tactic| (refine W_callC (c_readD (by assumption) (by k_places) (by assumption)).second (by decide) rfl (by k_allIn) ?_; rintro _ _ ⟨h1, h2⟩; subst h1 h2))
section
variable {B : Base} {rest : List (Addr × AO)}
end
local macro_rules | `(tactic| kct_strs) => `(tactic| (refine W_callMC (by k_ownIn) (c_charErr (by assumption) (by k_places)) (by decide) rfl (by k_allIn) ?_; rintro _ _ ⟨h1, h2⟩; subst h1 h2))
section
variable {B : Base} {rest : List (Addr × AO)}
/-- line ends mended -/
noncomputable abbrev norm' (l : List Nat) : List Nat := repl (repl l [13, 10] [10]) [13] [10]
theorem none_core : CoreIs B .none .none := fun _ _ => .none
section
variable {st dx tx tdx er : Addr} {c t D : List Nat} {sz off pl pc p : Int} {es : List AV} {z : Nat}
/-- the stream's three objects -/
noncomputable abbrev sO (st dx tx tdx er : Addr) (c : List Nat) (sz off pl pc : Int) (buf : AV) (t : List Nat) (p : Int) (es : List AV) (rest : List (Addr × AO)) : List (Addr × AO) := stO st dx tx er c sz off pl pc buf :: txO tx tdx t p :: (er, .list es) :: rest
theorem c_rcEnd (hB : IsB B) (hz : t.length ≤ 16777216) (hD : sl t (some p) (some (p + 10240)) = []) :
    CallJ B 3 141 [.ref st] (sO st dx tx tdx er c sz off pl pc .none t p es rest) fun d objs => d = .bool false ∧ objs = sO st dx tx tdx er [] 0 0 (pl + cntTo 10 c sz) (posC pc c sz) .none t p es rest := by
  refine C_go ["self", "chunkSize"] ["data", "lastv"] (by k_offL) (by k_clsL) (.dflt rfl (by k_offL) rfl (fun _ => rfl) (fun _ => rfl) none_core) fun L => ?_
  kas_types
  refine Br_yes (by simp) ?_
  kas_types
  all_goals first | rfl | simp
set_option maxHeartbeats 4000000 in
theorem c_rcAny (hB : IsB B) {D₁ D₂ : List Nat} {buf₂ : AV} {lv : Option AV} {buf : AV} (hz : t.length ≤ 16777216) (hD : sl t (some p) (some (p + 10240)) = D)
    (h1 : buf = .none ∧ D ≠ [] ∧ D₁ = D ∨ buf = .str [13] ∧ D₁ = [13] ++ D)
    (h2 : D₁.length ≤ 1 ∧ lv = none ∧ D₂ = D₁ ∧ buf₂ = .none ∨ 1 < D₁.length ∧ ∃ z, at? D₁ (-1) = some z ∧ lv = some (.int z) ∧ (z ≠ 13 ∧ ¬ (55296 ≤ z ∧ z ≤ 56319) ∧ D₂ = D₁ ∧ buf₂ = .none ∨ z = 13 ∧ D₂ = sl D₁ none (some (-1)) ∧ buf₂ = .str [13]))
    (hs : D.length ≤ 1048576) (hs₁ : D₁.length ≤ 1048576) (he : es.length + D₂.length ≤ 16777216) (hr : (repl D₂ [13, 10] [10]).length ≤ 1048576) (hr' : (repl (repl D₂ [13, 10] [10]) [13] [10]).length ≤ 1048576) :
    CallJ B 3 141 [.ref st] (sO st dx tx tdx er c sz off pl pc buf t p es rest) fun d objs => d = .bool true ∧ objs = sO st dx tx tdx er (norm' D₂) (norm' D₂).length 0 (pl + cntTo 10 c sz) (posC pc c sz) buf₂ t (p + D.length) (es ++ bads D₂) rest := by
  refine CallJ.of fun Φ hΦ => ?_
  refine C_go ["self", "chunkSize"] ["data", "lastv"] (by k_offL) (by k_clsL) (.dflt rfl (by k_offL) rfl (fun _ => rfl) (fun _ => rfl) none_core) fun L => ?_
  have hs' : D.length ≤ 16777216 := by omega
  have hs₁' : D₁.length ≤ 16777216 := by omega
  have hs₂ : D₂.length ≤ 1048576 := by
    rcases h2 with ⟨_, _, q, _⟩ | ⟨_, _, _, _, ⟨_, _, q, _⟩ | ⟨_, q, _⟩⟩
    · exact q ▸ hs₁
    · exact q ▸ hs₁
    · exact q ▸ Nat.le_trans (sl_le _ _ _) hs₁
  have hh : HaltHere := ⟨⟩
  kas_types
  refine g_if ?_
  kas_types
  generalize hA : pl + (cntTo 10 c sz : Int) = A, hC : posC pc c sz = C at hΦ ⊢
  refine s_cut (fun σ => σ = ⟨[("self", some (.ref st)), ("chunkSize", some (.int 10240)), ("data", some (.str D₁)), ("lastv", none)], sO st dx tx tdx er [] 0 0 A C .none t (p + D.length) es rest⟩) (fun Ψ hΨ => ?_) ?_
  · clear hh
    rcases h1 with ⟨rfl, h0, rfl⟩ | ⟨rfl, rfl⟩
    · kas_types
      refine Br_no (by cases D₁ <;> simp_all) ?_
      kas_types
      exact hΨ _ rfl
    · kas_types
      refine Br_yes rfl ?_
      kas_types
      exact hΨ _ rfl
  rintro _ rfl
  generalize hP : p + (D.length : Int) = P at hΦ ⊢
  kas_types
  refine s_cut (fun σ => σ = ⟨[("self", some (.ref st)), ("chunkSize", some (.int 10240)), ("data", some (.str D₂)), ("lastv", lv)], sO st dx tx tdx er [] 0 0 A C buf₂ t P es rest⟩) (fun Ψ hΨ => ?_) ?_
  · clear hh
    rcases h2 with ⟨h2, rfl, rfl, rfl⟩ | ⟨h2, z, hl, rfl, ⟨h13, hsur, rfl, rfl⟩ | ⟨rfl, rfl, rfl⟩⟩
    · kas_types
      refine Br_no (by simp; omega) ?_
      kas_types
      exact hΨ _ rfl
    · kas_types
      refine Br_yes (by simp; omega) ?_
      kas_types
      refine Br_no (by simp; omega) ?_
      kas_types
      refine Br_no (by simp; omega) ?_
      kas_types
      exact hΨ _ rfl
    · kas_types
      refine Br_yes (by simp; omega) ?_
      kas_types
      refine Br_yes (by simp) ?_
      kas_types
      all_goals first | exact hs₁' | skip
      kas_types
      exact hΨ _ rfl
  rintro _ rfl
  clear hh
  kas_types
  exact hΦ _ _ ⟨rfl, by simp⟩
theorem c_rcGo (hB : IsB B) (hz : t.length ≤ 16777216) (hD : sl t (some p) (some (p + 10240)) = D) (hs : D.length ≤ 1048576) (he : es.length + D.length ≤ 16777216) (h1 : 1 < D.length) (hl : at? D (-1) = some z) (h13 : z ≠ 13) (hsur : ¬ (55296 ≤ z ∧ z ≤ 56319)) (hr : (repl D [13, 10] [10]).length ≤ 1048576) (hr' : (repl (repl D [13, 10] [10]) [13] [10]).length ≤ 1048576) :
    CallJ B 3 141 [.ref st] (sO st dx tx tdx er c sz off pl pc .none t p es rest) fun d objs => d = .bool true ∧ objs = sO st dx tx tdx er (norm' D) (norm' D).length 0 (pl + cntTo 10 c sz) (posC pc c sz) .none t (p + D.length) (es ++ bads D) rest :=
  c_rcAny hB hz hD (.inl ⟨rfl, fun q => by rw [q] at h1; exact absurd h1 (by decide), rfl⟩) (.inr ⟨h1, z, hl, rfl, .inl ⟨h13, hsur, rfl, rfl⟩⟩) hs hs he hr hr'
/-- a chunk of one sign -/
theorem c_rcOne (hB : IsB B) (hz : t.length ≤ 16777216) (hD : sl t (some p) (some (p + 10240)) = [z]) (he : es.length + 1 ≤ 16777216) (hr : (repl [z] [13, 10] [10]).length ≤ 1048576) (hr' : (repl (repl [z] [13, 10] [10]) [13] [10]).length ≤ 1048576) :
    CallJ B 3 141 [.ref st] (sO st dx tx tdx er c sz off pl pc .none t p es rest) fun d objs => d = .bool true ∧ objs = sO st dx tx tdx er (norm' [z]) (norm' [z]).length 0 (pl + cntTo 10 c sz) (posC pc c sz) .none t (p + 1) (es ++ bads [z]) rest :=
  c_rcAny (D := [z]) hB hz hD (.inl ⟨rfl, List.cons_ne_nil _ _, rfl⟩) (.inl ⟨Nat.le_refl _, rfl, rfl, rfl⟩) (Nat.le_of_ble_eq_true rfl) (Nat.le_of_ble_eq_true rfl) he hr hr'
/-- the last sign is a carriage return: it is held back -/
theorem c_rcHold (hB : IsB B) (hz : t.length ≤ 16777216) (hD : sl t (some p) (some (p + 10240)) = D) (hs : D.length ≤ 1048576) (he : es.length + D.length ≤ 16777216) (h1 : 1 < D.length) (hl : at? D (-1) = some 13) (hr : (repl (sl D none (some (-1))) [13, 10] [10]).length ≤ 1048576) (hr' : (repl (repl (sl D none (some (-1))) [13, 10] [10]) [13] [10]).length ≤ 1048576) :
    CallJ B 3 141 [.ref st] (sO st dx tx tdx er c sz off pl pc .none t p es rest) fun d objs => d = .bool true ∧ objs = sO st dx tx tdx er (norm' (sl D none (some (-1)))) (norm' (sl D none (some (-1)))).length 0 (pl + cntTo 10 c sz) (posC pc c sz) (.str [13]) t (p + D.length) (es ++ bads (sl D none (some (-1)))) rest :=
  c_rcAny hB hz hD (.inl ⟨rfl, fun q => by rw [q] at h1; exact absurd h1 (by decide), rfl⟩) (.inr ⟨h1, 13, hl, rfl, .inr ⟨rfl, rfl, rfl⟩⟩) hs hs (Nat.le_trans (Nat.add_le_add_left (sl_le D none (some (-1))) _) he) hr hr'
/-- what was held back, alone -/
theorem c_rcBuf (hB : IsB B) (hz : t.length ≤ 16777216) (hD : sl t (some p) (some (p + 10240)) = []) (he : es.length + 1 ≤ 16777216) (hr : (repl [13] [13, 10] [10]).length ≤ 1048576) (hr' : (repl (repl [13] [13, 10] [10]) [13] [10]).length ≤ 1048576) :
    CallJ B 3 141 [.ref st] (sO st dx tx tdx er c sz off pl pc (.str [13]) t p es rest) fun d objs => d = .bool true ∧ objs = sO st dx tx tdx er (norm' [13]) (norm' [13]).length 0 (pl + cntTo 10 c sz) (posC pc c sz) .none t p (es ++ bads [13]) rest :=
  CallJ.mono (c_rcAny (D := []) (D₁ := [13]) hB hz hD (.inr ⟨rfl, rfl⟩) (.inl ⟨Nat.le_refl _, rfl, rfl, rfl⟩) (Nat.zero_le _) (Nat.le_of_ble_eq_true rfl) he hr hr') fun d o h => ⟨h.1, h.2.trans (by rw [show p + (([] : List Nat).length : Int) = p from Int.add_zero p])⟩
end
end
-- F5
section
variable {B : Base} {rest : List (Addr × AO)}

section
variable {st dx tx tdx er : Addr} {c t D : List Nat} {sz off pl pc p : Int} {es : List AV} {z : Nat}
theorem c_reset (hB : IsB B) {nl : AV} : CallJ B 1 105 [.ref st] ((st, .inst 166 dx [("reportCharacterErrors", .meth 148 st), ("newLines", nl), ("dataStream", .ref tx)]) :: rest) fun d objs => d = .none ∧
    ∃ er, objs = (er, .list []) :: (st, .inst 166 dx [("reportCharacterErrors", .meth 148 st), ("newLines", nl), ("dataStream", .ref tx), ("chunk", .str []), ("chunkSize", .int 0), ("chunkOffset", .int 0), ("errors", .ref er), ("prevNumLines", .int 0), ("prevNumCols", .int 0), ("_bufferedCharacter", .none)]) :: rest := by
  refine C_go ["self"] [] (by k_offL) (by k_clsL) (.one fun _ => rfl) fun L => ?_
  kas_types
end
end
local macro_rules | `(tactic| kct_strs) => `(tactic| (refine W_new (C := 73) (fI := 63) (by k_clsL) (by k_clsL) (by k_clsL) (fun x dx => c_textInit (by assumption)) (by decide) rfl (by k_allIn) ?_; rintro x dx _ _ ⟨h1, h2⟩; subst h1 h2; refine ⟨rfl, ?_⟩))
section
variable {B : Base} {rest : List (Addr × AO)}

section
variable {st dx tx tdx er : Addr} {c t D : List Nat} {sz off pl pc p : Int} {es : List AV} {z : Nat}
theorem c_open (hB : IsB B) {v : AV} : CallJ B 3 112 [v, .str t] rest fun d objs => ∃ tx tdx, d = .ref tx ∧ objs = txO tx tdx t 0 :: rest := by
  refine C_go ["self", "source"] ["stream"] (by k_offL) (by k_clsL) (.two fun _ _ => rfl) fun L => ?_
  kas_types
  all_goals first | exact ⟨_, _, rfl, rfl⟩ | trace_state
end
end
local macro_rules | `(tactic| kct_strs) => `(tactic| (refine W_callC (c_open (by assumption)) (by decide) rfl (by k_allIn) ?_; rintro _ _ ⟨tx, tdx, h1, h2⟩; subst h1 h2))
section
variable {B : Base} {rest : List (Addr × AO)}

section
variable {st dx tx tdx er : Addr} {c t D : List Nat} {sz off pl pc p : Int} {es : List AV} {z : Nat}
theorem c_reset' (hB : IsB B) {nl : AV} {tO : Addr × AO} : CallJ B 1 105 [.ref st] (tO :: (st, .inst 166 dx [("reportCharacterErrors", .meth 148 st), ("newLines", nl), ("dataStream", .ref tx)]) :: rest) fun d objs => d = .none ∧
    ∃ er, objs = (st, .inst 166 dx [("reportCharacterErrors", .meth 148 st), ("newLines", nl), ("dataStream", .ref tx), ("chunk", .str []), ("chunkSize", .int 0), ("chunkOffset", .int 0), ("errors", .ref er), ("prevNumLines", .int 0), ("prevNumCols", .int 0), ("_bufferedCharacter", .none)]) :: tO :: (er, .list []) :: rest := by
  refine (c_reset (rest := tO :: rest) hB (nl := nl)).perm (.swap _ _ _) ?_
  rintro d q ⟨h1, er, rfl⟩
  refine ⟨_, ?_, h1, er, rfl⟩
  refine (List.Perm.swap _ _ _).trans (.cons _ (.swap _ _ _))
end
end
local macro_rules | `(tactic| kct_strs) => `(tactic| (refine W_callC (c_reset' (by assumption)) (by decide) rfl (by k_allIn) ?_; rintro _ _ ⟨h1, er, h2⟩; subst h1 h2))
section
variable {B : Base} {rest : List (Addr × AO)}

section
variable {st dx tx tdx er : Addr} {c t D : List Nat} {sz off pl pc p : Int} {es : List AV} {z : Nat}
theorem c_sInit (hB : IsB B) : CallJ B 4 98 [.ref st, .str t] ((st, .inst 166 dx []) :: rest) fun d objs => d = .none ∧ ∃ tx tdx er, objs = sO st dx tx tdx er [] 0 0 0 0 .none t 0 [] rest := by
  refine C_go ["self", "source"] [] (by k_offL) (by k_clsL) (.two fun _ _ => rfl) fun L => ?_
  kas_types
  all_goals trace_state
end
end
-- F6
section
variable {B : Base} {rest : List (Addr × AO)}
section
variable {st dx tx tdx er : Addr} {c c' t : List Nat} {sz off pl pc p p' pl' pc' : Int} {es es' : List AV} {z : Nat} {buf buf' : AV}
theorem c_charHere (hB : IsB B) {i : Nat} (hi : i < c.length) (hz : c.length ≤ 16777216) : CallJ B 4 133 [.ref st] (sO st dx tx tdx er c c.length i pl pc buf t p es rest) fun d o => d = .str [c[i]] ∧ o = sO st dx tx tdx er c c.length (i + 1) pl pc buf t p es rest := by
  refine C_go ["self"] ["chunkOffset", "char"] (by k_offL) (by k_clsL) (.one fun _ => rfl) fun L => ?_
  have hl := at_nat hi
  kas_types
  refine Br_no (by simp; omega) ?_
  kas_types
  all_goals first | rfl | simp
theorem c_charEnd (hB : IsB B) (ho : sz ≤ off) {o' : List (Addr × AO)} (hr : CallJ B 3 141 [.ref st] (sO st dx tx tdx er c sz off pl pc buf t p es rest) fun d o => d = .bool false ∧ o = o') :
    CallJ B 4 133 [.ref st] (sO st dx tx tdx er c sz off pl pc buf t p es rest) fun d o => d = .none ∧ o = o' := by
  refine C_go ["self"] ["chunkOffset", "char"] (by k_offL) (by k_clsL) (.one fun _ => rfl) fun L => ?_
  kas_types
  refine Br_yes (by simp; omega) ?_
  kas_types
  refine W_callC hr (by decide) rfl (by k_allIn) ?_
  rintro _ _ ⟨rfl, rfl⟩
  kas_types
  all_goals first | rfl | simp
theorem c_charRead (hB : IsB B) (ho : sz ≤ off) (hz : c'.length ≤ 16777216) (h0 : 0 < c'.length) (hr : CallJ B 3 141 [.ref st] (sO st dx tx tdx er c sz off pl pc buf t p es rest) fun d o => d = .bool true ∧ o = sO st dx tx tdx er c' c'.length 0 pl' pc' buf' t p' es' rest) :
    CallJ B 4 133 [.ref st] (sO st dx tx tdx er c sz off pl pc buf t p es rest) fun d o => d = .str [c'[0]] ∧ o = sO st dx tx tdx er c' c'.length 1 pl' pc' buf' t p' es' rest := by
  refine C_go ["self"] ["chunkOffset", "char"] (by k_offL) (by k_clsL) (.one fun _ => rfl) fun L => ?_
  have hl : at? c' 0 = some c'[0] := at_nat (k := 0) h0
  kas_types
  refine Br_yes (by simp; omega) ?_
  kas_types
  refine W_callC hr (by decide) rfl (by k_allIn) ?_
  rintro _ _ ⟨rfl, rfl⟩
  kas_types
  all_goals first | rfl | simp
end
end
-- F7
section
variable {B : Base} {rest : List (Addr × AO)}
/-- where the run of signs from i on ends -/
noncomputable def scan (q : Nat → Bool) (c : List Nat) (i : Nat) : Nat := i + ((c.drop i).takeWhile q).length
theorem scan_le (q : Nat → Bool) (c : List Nat) {i : Nat} (h : i ≤ c.length) : scan q c i ≤ c.length := by
  unfold scan
  have : ((c.drop i).takeWhile q).length ≤ (c.drop i).length := (List.takeWhile_sublist _).length_le
  rw [List.length_drop] at this
  omega
theorem scan_step {q : Nat → Bool} {c : List Nat} {i : Nat} (h : i < c.length) (e : q c[i] = true) : scan q c i = scan q c (i + 1) := by
  unfold scan
  rw [List.drop_eq_getElem_cons h, List.takeWhile_cons, if_pos e, List.length_cons]
  omega
theorem scan_stop {q : Nat → Bool} {c : List Nat} {i : Nat} (h : i < c.length) (e : q c[i] = false) : scan q c i = i := by
  unfold scan
  rw [List.drop_eq_getElem_cons h, List.takeWhile_cons, if_neg (by rw [e]; exact Bool.false_ne_true)]
  rfl
theorem scan_end {q : Nat → Bool} {c : List Nat} : scan q c c.length = c.length := by
  unfold scan
  simp
/-- what the test for a sign tells -/
noncomputable def InJ (B : Base) (chs : AV) (m : Nat → Bool) : Prop := ∀ {n L H σ a b c} {Φ : Value → AV → St → Prop}, (a, AV.str [c]) ∈ H → (b, chs) ∈ H → (∀ v, Φ v (.bool (m c)) σ) → WV B n L (compareOp .In a b) H σ Φ
theorem inJ_str {x : List Nat} : InJ B (.str x) (fun c => decide (c ∈ x)) := fun ma mb h => O_inS ma mb h
end
-- F8
section
/-- what of the stream changes -/
structure SS where
  c : List Nat
  i : Nat
  pl : Int
  pc : Int
  buf : AV
  p : Int
  es : List AV
noncomputable abbrev oS (st dx tx tdx er : Addr) (t : List Nat) (q : SS) (rest : List (Addr × AO)) : List (Addr × AO) := sO st dx tx tdx er q.c q.c.length q.i q.pl q.pc q.buf t q.p q.es rest
variable {B : Base} {rest : List (Addr × AO)} {st dx tx tdx er : Addr} {t : List Nat}
/-- readChunk leads from one to the other -/
noncomputable def Reads (B : Base) (st dx tx tdx er : Addr) (t : List Nat) (b : Bool) (q q' : SS) : Prop :=
  ∀ rest, CallJ B 3 141 [.ref st] (oS st dx tx tdx er t q rest) fun d o => d = .bool b ∧ o = oS st dx tx tdx er t q' rest
/-- the run of signs from here on, over the chunks -/
inductive Until (B : Base) (st dx tx tdx er : Addr) (t : List Nat) (u : Nat → Bool) : Nat → SS → List Nat → SS → Prop
  | stop {q : SS} {e : Nat} : q.i ≤ q.c.length → q.c.length ≤ 1048576 → scan u q.c q.i = e → e < q.c.length → Until B st dx tx tdx er t u 0 q (sl q.c (some q.i) (some e)) { q with i := e }
  | last {q q' : SS} : q.i ≤ q.c.length → q.c.length ≤ 1048576 → scan u q.c q.i = q.c.length → Reads B st dx tx tdx er t false q q' → Until B st dx tx tdx er t u 0 q (sl q.c (some q.i) none) q'
  | more {q q₁ q' : SS} {k : Nat} {r : List Nat} : q.i ≤ q.c.length → q.c.length ≤ 1048576 → scan u q.c q.i = q.c.length → Reads B st dx tx tdx er t true q q₁ → Until B st dx tx tdx er t u k q₁ r q' → Until B st dx tx tdx er t u (k + 1) q (sl q.c (some q.i) none ++ r) q'
theorem false_core : CoreIs B (.bool false) (.bool false) := fun _ _ => .bool _
variable {chs : AV} {m : Nat → Bool}
theorem Until.here {u : Nat → Bool} {k : Nat} {q q' : SS} {r : List Nat} (h : Until B st dx tx tdx er t u k q r q') : q.i ≤ q.c.length ∧ q.c.length ≤ 1048576 := by cases h <;> exact ⟨‹_›, ‹_›⟩
theorem Until.ends {B : Base} {u : Nat → Bool} {k : Nat} {q q' : SS} {r : List Nat} (h : Until B st dx tx tdx er t u k q r q') (e : scan u q.c q.i = q.c.length) : ∃ b q₁, Reads B st dx tx tdx er t b q q₁ ∧
    ((b = false ∧ r = sl q.c (some q.i) none ∧ q₁ = q') ∨ (b = true ∧ ∃ k₁ r₁, k₁ < k ∧ r = sl q.c (some q.i) none ++ r₁ ∧ Until B st dx tx tdx er t u k₁ q₁ r₁ q')) := by
  cases h with
  | stop _ _ he hlt => rw [e] at he; exact absurd he (Nat.ne_of_gt hlt)
  | last _ _ _ hr => exact ⟨_, _, hr, .inl ⟨rfl, rfl, rfl⟩⟩
  | more _ _ _ hr hu => exact ⟨_, _, hr, .inr ⟨rfl, _, _, Nat.lt_succ_self _, rfl, hu⟩⟩
theorem Until.stops {B : Base} {u : Nat → Bool} {k : Nat} {q q' : SS} {r : List Nat} (h : Until B st dx tx tdx er t u k q r q') {j : Nat} (e : scan u q.c q.i = j) (hj : j < q.c.length) : r = sl q.c (some q.i) (some j) ∧ q' = { q with i := j } := by
  cases h with
  | stop _ _ he hlt => cases he.symm.trans e; exact ⟨rfl, rfl⟩
  | last _ _ he _ => exact absurd (he.symm.trans e) (Nat.ne_of_gt hj)
  | more _ _ he _ _ => exact absurd (he.symm.trans e) (Nat.ne_of_gt hj)
/-- all given, though one has a default -/
theorem Binds.full3 {B : Base} {fd : FuncData} {p1 p2 p3 : Str} {d1 d2 d3 : AV} {T : Addr} {o : Obj} {w : Value} {m : Nat} {k : Value → Value → Value → Option (Array Value) → Sem (List (Str × Value))} (hd : fd.defaults = .ref T) (ho : B.K.lookup T = some o) (hs : o.data = .seq #[w] m)
    (h₁ : ∀ v1 v2 v3, bindArgs fd ⟨[v1, v2, v3], []⟩ = seqItems? fd.defaults >>= k v1 v2 v3) (h₂ : ∀ v1 v2 v3, k v1 v2 v3 (some #[w]) = pure [(p1, v1), (p2, v2), (p3, v3)]) : Binds B fd [p1, p2, p3] [d1, d2, d3] [d1, d2, d3] := fun F s vs hv X core => by
  cases hv with | cons q1 r => cases r with | cons q2 r => cases r with | cons q3 r => cases r with | nil => exact ⟨_, .cons q1 (.cons q2 (.cons q3 .nil)), .of_defaults hd (X _ _ ho) hs (h₁ _ _ _) (h₂ _ _ _)⟩
theorem c_untilA (hB : IsB B) (hm : InJ B chs m) {opp : Bool} {args : List AV} (ha : args = [.ref st, chs] ∧ opp = false ∨ args = [.ref st, chs, .bool opp]) {k₀ : Nat} {q₀ q' : SS} {r₀ : List Nat} (hu : Until B st dx tx tdx er t (fun x => m x == opp) k₀ q₀ r₀ q') (hk : k₀ ≤ 1000) (hr : r₀.length ≤ 16777216) :
    CallJ B 4 156 args (oS st dx tx tdx er t q₀ rest) fun d o => d = .str r₀ ∧ o = oS st dx tx tdx er t q' rest := by
  refine CallJ.dropH (CallJ.of fun Φ hΦ => ?_)
  refine C_go (ds := [.ref st, chs, .bool opp]) ["self", "characters", "opposite"] ["rv", "end", "r"] (by k_offL) (by k_clsL) (by rcases ha with ⟨rfl, rfl⟩ | rfl; exact .dflt3 rfl (by k_offL) rfl (fun _ _ => rfl) (fun _ _ => rfl) false_core; exact .full3 rfl (by k_offL) rfl (fun _ _ _ => rfl) (fun _ _ _ => rfl)) fun L => ?_
  kas_types
  rename_i a
  generalize hu₀ : (fun x => m x == opp) = u at hu
  refine s_cut (R := ThenF _ _ _ _ _ _ _) (fun σ => ∃ l ms en, textsOf l = some ms ∧ ms.flatten = r₀ ∧ σ = ⟨[("self", some (.ref st)), ("characters", some chs), ("opposite", some (.bool opp)), ("rv", some (.ref a)), ("end", en), ("r", none)], (a, .list l) :: oS st dx tx tdx er t q' rest⟩) (fun Ψ hΨ => ?_) ?_
  · refine g_while (fun k σ => ∃ q l ms r en, Until B st dx tx tdx er t u k q r q' ∧ textsOf l = some ms ∧ ms.flatten ++ r = r₀ ∧ l.length + k ≤ 1000 ∧ σ = ⟨[("self", some (.ref st)), ("characters", some chs), ("opposite", some (.bool opp)), ("rv", some (.ref a)), ("end", en), ("r", none)], (a, .list l) :: oS st dx tx tdx er t q rest⟩) k₀
      ⟨q₀, [], [], r₀, none, hu, rfl, rfl, by simpa using hk, rfl⟩ ?_
    rintro k σ ⟨q, l, ms, r, en, hu, hl, hms, hkl, rfl⟩
    obtain ⟨hi, hz⟩ := hu.here
    have hz' : q.c.length ≤ 16777216 := Nat.le_trans hz (by decide)
    have hll : l.length ≤ 16777216 := by omega
    kas_types
    refine s_cut (fun σ => ∃ j : Nat, j ≤ q.c.length ∧ q.i ≤ j ∧ scan u q.c q.i = j ∧ σ = ⟨[("self", some (.ref st)), ("characters", some chs), ("opposite", some (.bool opp)), ("rv", some (.ref a)), ("end", some (.int j)), ("r", none)], (a, .list l) :: oS st dx tx tdx er t q rest⟩) (fun Ψ' hΨ' => ?_) ?_
    · refine g_while (fun k σ => ∃ j : Nat, k = q.c.length - j ∧ j ≤ q.c.length ∧ q.i ≤ j ∧ scan u q.c j = scan u q.c q.i ∧ σ = ⟨[("self", some (.ref st)), ("characters", some chs), ("opposite", some (.bool opp)), ("rv", some (.ref a)), ("end", some (.int j)), ("r", none)], (a, .list l) :: oS st dx tx tdx er t q rest⟩) (q.c.length - q.i) ⟨q.i, rfl, hi, Nat.le_refl _, rfl, rfl⟩ ?_
      rintro k' σ ⟨j, rfl, hj, hij, hs, rfl⟩
      kas_types
      refine Br_of (fun h0 => ?_) fun h0 => ?_
      · have hjl : j < q.c.length := Nat.lt_of_le_of_ne hj fun e => by simp [e] at h0
        have hl' := at_nat hjl
        kas_types
        refine hm (by k_ownIn) (by k_ownIn) ?_
        kas_types
        refine Br_of (fun h => ?_) fun h => ?_
        · kas_types
          exact ⟨q.c.length - (j + 1), Nat.sub_succ_lt_self _ _ hjl, j + 1, rfl, hjl, Nat.le_succ_of_le hij, (scan_step hjl (hu₀ ▸ h)).symm.trans hs, rfl⟩
        · kas_types
          exact hΨ' _ ⟨j, hj, hij, hs.symm.trans (scan_stop hjl (hu₀ ▸ h)), rfl⟩
      · have hjl : j = q.c.length := by simp at h0; omega
        kas_types
        exact hΨ' _ ⟨j, hj, hij, by rw [← hs, hjl, scan_end], rfl⟩
    rintro _ ⟨j, hj, hij, hs, rfl⟩
    have hh : HaltHere := ⟨⟩
    kas_types
    clear hh
    by_cases hjl : j < q.c.length
    · obtain ⟨rfl, rfl⟩ := hu.stops hs hjl
      refine g_if ?_
      kas_types
      by_cases hei : j = q.i
      · refine Br_yes (by simp [hei]) ?_
        kas_types
        refine Br_yes (by simp; omega) ?_
        kas_types
        exact hΨ _ ⟨_, _, _, hl, by rw [← hms, hei, sl_same hi, List.append_nil], by rw [hei]⟩
      · refine Br_no (by simp; omega) ?_
        kas_types
        refine Br_yes (by simp; omega) ?_
        kas_types
        · exact hz'
        kas_types
        exact hΨ _ ⟨_, _, _, textsOf_snoc hl, by rw [← hms]; simp, rfl⟩
    · have ej : j = q.c.length := Nat.le_antisymm hj (Nat.not_lt.mp hjl)
      subst ej
      obtain ⟨b, q₁, hrd, hq⟩ := hu.ends hs
      clear hs hjl hij hj hu
      refine s_cut (fun σ => σ = ⟨[("self", some (.ref st)), ("characters", some chs), ("opposite", some (.bool opp)), ("rv", some (.ref a)), ("end", some (.int q.c.length)), ("r", none)], (a, .list l) :: oS st dx tx tdx er t q rest⟩) (fun Ψ' hΨ' => ?_) ?_
      · refine g_if ?_
        kas_types
        by_cases hei : q.c.length = q.i
        · refine Br_yes (by simp [hei]) ?_
          kas_types
          refine Br_no (by simp [hei]) ?_
          kas_types
          exact hΨ' _ rfl
        · refine Br_no (by simp; omega) ?_
          kas_types
          refine Br_no (by simp) ?_
          kas_types
          exact hΨ' _ rfl
      rintro _ rfl
      kas_types
      · exact hz'
      kas_types
      refine W_callC (CallJ.ahead (o := oS st dx tx tdx er t q rest) (o' := oS st dx tx tdx er t q₁ rest) (hrd (rest ++ [_]))) (by decide) rfl (by k_allIn) ?_
      rintro _ _ ⟨h1, h2⟩
      subst h1 h2
      rcases hq with ⟨rfl, rfl, rfl⟩ | ⟨rfl, k₁, r₁, hk₁, rfl, hu⟩
      · kas_types
        exact hΨ _ ⟨_, _, _, textsOf_snoc hl, by rw [← hms]; simp, rfl⟩
      · kas_types
        exact ⟨k₁, hk₁, q₁, _, _, r₁, _, hu, textsOf_snoc hl, by rw [← hms]; simp, by simp; omega, rfl⟩
  rintro _ ⟨l, ms, en, hl, hms, rfl⟩
  kas_types
  refine B_glue (by k_ownIn) (by k_ownIn) (by k_ownIn) hl (by rw [hms]; exact hr) ?_
  kas_types
  exact hΦ _ _ ⟨oS st dx tx tdx er t q' rest, [(a, .list l)], List.perm_append_comm (l₁ := [(a, AO.list l)]), by rw [← hms], rfl⟩
theorem c_until (hB : IsB B) (hm : InJ B chs m) {k₀ : Nat} {q₀ q' : SS} {r₀ : List Nat} (hu : Until B st dx tx tdx er t (fun x => m x == false) k₀ q₀ r₀ q') (hk : k₀ ≤ 1000) (hr : r₀.length ≤ 16777216) :
    CallJ B 4 156 [.ref st, chs] (oS st dx tx tdx er t q₀ rest) fun d o => d = .str r₀ ∧ o = oS st dx tx tdx er t q' rest := c_untilA hB hm (.inl ⟨rfl, rfl⟩) hu hk hr
end
-- F9
section
section
variable {B : Base} {n : Nat} {L : Addr} {H : List (Value × AV)} {σ : St} {env : Env}
theorem O_eqNN {a b : Value} {Φ : Value → AV → St → Prop} (ma : (a, .none) ∈ H) (mb : (b, .none) ∈ H) (h : ∀ v, Φ v (.bool true) σ) : WV B n L (compareOp .Eq a b) H σ Φ :=
  O_eqD ma mb rfl rfl rfl rfl (by simp [PyData.eqv]) h
theorem O_eqSN {a b : Value} {x : List Nat} {Φ : Value → AV → St → Prop} (ma : (a, .str x) ∈ H) (mb : (b, .none) ∈ H) (hx : PyData.strOk (S x) = true) (h : ∀ v, Φ v (.bool false) σ) : WV B n L (compareOp .Eq a b) H σ Φ :=
  O_eqD ma mb rfl rfl (by simp [SeqAt.shaped, PyData.canLay0, PyData.depth, hx]) (by simp [SeqAt.shaped, PyData.canLay0, PyData.depth]) (by simp [PyData.eqv]) h
end
end
local macro_rules | `(tactic| walk_at "Go Eq") => `(tactic| (plain_pass; refine O_eqNN (by k_ownIn) (by k_ownIn) ?_))
section
end
local macro_rules | `(tactic| walk_at "Go Eq") => `(tactic| (plain_pass; refine O_eqSN (by k_ownIn) (by k_ownIn) (by first | assumption | kernel_rfl) ?_))
section
variable {B : Base} {rest : List (Addr × AO)} {st dx tx tdx er tk kdx qa lf : Addr} {t : List Nat} {cur : AV} {f : Addr}
/-- the tokenizer's fields -/
noncomputable abbrev tkF (st f tk lf qa : Addr) (cur : AV) : List (Str × AV) := [("stream", .ref st), ("parser", .none), ("escapeFlag", .bool false), ("lastFourChars", .ref lf), ("state", .meth f tk), ("escape", .bool false), ("currentToken", cur), ("tokenQueue", .ref qa)]
noncomputable abbrev tkO (st f tk kdx lf qa : Addr) (cur : AV) : Addr × AO := (tk, .inst 762 kdx (tkF st f tk lf qa cur))
noncomputable abbrev kErr (x : List Nat) : AV := .dct [("type", .int 7), ("data", .str x)]
noncomputable abbrev kChars (x : List Nat) : AV := .dct [("type", .int 1), ("data", .str x)]
/-- char leads from one to the other -/
noncomputable def CharTo (B : Base) (st dx tx tdx er : Addr) (t : List Nat) (d₀ : AV) (q q' : SS) : Prop :=
  ∀ rest, CallJ B 4 133 [.ref st] (oS st dx tx tdx er t q rest) fun d o => d = d₀ ∧ o = oS st dx tx tdx er t q' rest
section
variable {ks : List AV} {q q₁ q₂ : SS} {z : Nat}
theorem c_plainEnd (hB : IsB B) (hc : CharTo B st dx tx tdx er t .none q q₁) :
    CallJ B 5 346 [.ref tk] (oS st dx tx tdx er t q (tkO st f tk kdx lf qa cur :: (qa, .list ks) :: rest)) fun d o => d = .bool false ∧ o = oS st dx tx tdx er t q₁ (tkO st f tk kdx lf qa cur :: (qa, .list ks) :: rest) := by
  refine C_go ["self"] ["data"] (by k_offL) (by k_clsL) (.one fun _ => rfl) fun L => ?_
  kas_types
  refine W_callC (hc _) (by decide) rfl (by k_allIn) ?_
  rintro _ _ ⟨h1, h2⟩
  subst h1 h2
  kas_types
  all_goals first | rfl | simp
theorem c_plainNul (hB : IsB B) (hc : CharTo B st dx tx tdx er t (.str [0]) q q₁) (hz : ks.length ≤ 16777000) :
    CallJ B 5 346 [.ref tk] (oS st dx tx tdx er t q (tkO st f tk kdx lf qa cur :: (qa, .list ks) :: rest)) fun d o => d = .bool true ∧ o = oS st dx tx tdx er t q₁ (tkO st f tk kdx lf qa cur :: (qa, .list (ks ++ [kErr (sg "invalid-codepoint"), kChars [65533]])) :: rest) := by
  refine C_go ["self"] ["data"] (by k_offL) (by k_clsL) (.one fun _ => rfl) fun L => ?_
  kas_types
  refine W_callC (hc _) (by decide) rfl (by k_allIn) ?_
  rintro _ _ ⟨h1, h2⟩
  subst h1 h2
  kas_types
  refine Br_yes (by simp) ?_
  kas_types
  all_goals first | rfl | simp | trace_state
theorem c_plainChars (hB : IsB B) (hc : CharTo B st dx tx tdx er t (.str [z]) q q₁) (h0 : z ≠ 0) (hzo : PyData.strOk (S [z]) = true) {k : Nat} {r : List Nat} (hu : Until B st dx tx tdx er t (fun x => decide (x ∈ [0]) == false) k q₁ r q₂) (hk : k ≤ 1000) (hr : r.length ≤ 16777000) (hz : ks.length ≤ 16777000) :
    CallJ B 5 346 [.ref tk] (oS st dx tx tdx er t q (tkO st f tk kdx lf qa cur :: (qa, .list ks) :: rest)) fun d o => d = .bool true ∧ o = oS st dx tx tdx er t q₂ (tkO st f tk kdx lf qa cur :: (qa, .list (ks ++ [kChars (z :: r)])) :: rest) := by
  refine C_go ["self"] ["data"] (by k_offL) (by k_clsL) (.one fun _ => rfl) fun L => ?_
  kas_types
  refine W_callC (hc _) (by decide) rfl (by k_allIn) ?_
  rintro _ _ ⟨h1, h2⟩
  subst h1 h2
  kas_types
  refine Br_no (by simpa using h0) ?_
  kas_types
  refine W_callC (c_until hB inJ_str hu hk (by omega)) (by decide) rfl (by k_allIn) ?_
  rintro _ _ ⟨h1, h2⟩
  subst h1 h2
  kas_types
  all_goals first | rfl | simp | trace_state
end
end
-- F10
section
variable {B : Base} {rest : List (Addr × AO)} {st dx tx tdx er tk kdx qa lf : Addr} {t : List Nat} {cur : AV} {f : Addr}
/-- the tokenizer's fields ahead of its run -/
noncomputable abbrev tkF0 (st f tk lf : Addr) (cur : AV) : List (Str × AV) := [("stream", .ref st), ("parser", .none), ("escapeFlag", .bool false), ("lastFourChars", .ref lf), ("state", .meth f tk), ("escape", .bool false), ("currentToken", cur)]
noncomputable abbrev SS0 : SS := ⟨[], 0, 0, 0, .none, 0, []⟩
end
local macro_rules | `(tactic| kct_strs) => `(tactic| (refine W_new (C := 166) (fI := 98) (by k_clsL) (by k_clsL) (by k_clsL) (fun x dx => c_sInit (by assumption)) (by decide) rfl (by k_allIn) ?_; rintro st dx _ _ ⟨h1, tx, tdx, er, h2⟩; subst h1 h2; refine ⟨rfl, ?_⟩))
section
variable {B : Base} {rest : List (Addr × AO)} {st dx tx tdx er tk kdx qa lf : Addr} {t : List Nat} {cur : AV} {f : Addr}
theorem c_tInit (hB : IsB B) : CallJ B 6 261 [.ref tk, .str t] ((tk, .inst 762 kdx []) :: rest) fun d o => d = .none ∧ ∃ st dx tx tdx er lf, o = oS st dx tx tdx er t SS0 ((tk, .inst 762 kdx (tkF0 st 304 tk lf .none)) :: rest) := by
  refine CallJ.dropH ?_
  refine C_go ["self", "stream", "parser"] [] (by k_offL) (by k_clsL) (.dflt3 rfl (by k_offL) rfl (fun _ _ => rfl) (fun _ _ => rfl) none_core) fun L => ?_
  kas_types
  exact ⟨_, [(_, AO.list [])], List.perm_append_comm (l₁ := [(_, AO.list [])]), rfl, _, _, _, _, _, _, rfl⟩
end
-- F11
section
section
variable {B : Base} {n : Nat} {L : Addr} {H : List (Value × AV)} {σ : St} {env : Env}
theorem B_pop0 {a : Addr} {l : List AV} {d : AV} {v₀ v : Value} {loc : List (Str × Option AV)} {objs objs' : List (Addr × AO)} {Φ : Value → AV → St → Prop} (mv : (v₀, .ref a) ∈ H) (md : (v, .int 0) ∈ H) (mo : (a, AO.list (d :: l)) ∈ objs)
    (m : Chg a (.list (d :: l)) (.list l) objs objs') (hz : (d :: l).length ≤ 16777216) (h : ∀ v, Φ v d ⟨loc, objs'⟩) : WV B n L (call (.builtin "list.pop") [v₀, v]) H ⟨loc, objs⟩ Φ :=
  B_pop (σ := ⟨loc, objs⟩) (k := 0) (i := 0) mv md (by rfl) (by unfold seqIndex?; rw [if_neg (show ¬ (0 : Int) < 0 by omega)]; simp) rfl rfl m hz h
end
end
local macro_rules | `(tactic| walk_at "GoC builtin:list.pop") => `(tactic| (plain_pass; refine B_pop0 (by k_ownIn) (by k_ownIn) (by k_ownIn) (by k_updF) (by first | assumption | k_places) ?_))
section
section
variable {γ : Type} {B : Base} {st dx tx tdx er tk kdx lf : Addr} {t : List Nat} {g : AV → SS → γ} {P : SS → Prop}
/-- the tokenizer's objects -/
noncomputable abbrev tS (st dx tx tdx er tk kdx lf qa : Addr) (t : List Nat) (q : SS) (f : Addr) (cur : AV) (ks : List AV) (rest : List (Addr × AO)) : List (Addr × AO) :=
  oS st dx tx tdx er t q (tkO st f tk kdx lf qa cur :: (qa, .list ks) :: rest)
noncomputable def YJt (st dx tx tdx er tk kdx lf : Addr) (t : List Nat) (g : AV → SS → γ) (x : γ) (d : AV) (o : List (Addr × AO)) : Prop := ∃ qa q f cur ks rest, x = g d q ∧ o = tS st dx tx tdx er tk kdx lf qa t q f cur ks rest
noncomputable def RJt (st dx tx tdx er tk kdx lf : Addr) (t : List Nat) (P : SS → Prop) (o : List (Addr × AO)) : Prop := ∃ qa q f cur ks rest, P q ∧ o = tS st dx tx tdx er tk kdx lf qa t q f cur ks rest
noncomputable abbrev eTok (e : AV) : AV := .dct [("type", .int 7), ("data", e)]
/-- the states one after the other, and what comes of them -/
noncomputable def Turns (B : Base) (st dx tx tdx er tk kdx lf qa : Addr) (t : List Nat) (g : AV → SS → γ) (P : SS → Prop) : Nat → SS → Addr → AV → List (Addr × AO) → List γ → Prop
  | 0 => fun _ _ _ _ _ => False
  | k + 1 => fun q f cur rest tr => fnIn B.K f = true ∧ CallJ B 5 f [.ref tk] (tS st dx tx tdx er tk kdx lf qa t q f cur [] rest) fun d o => ∃ q' f' cur' ks rest', o = tS st dx tx tdx er tk kdx lf qa t q' f' cur' ks rest' ∧
      ((d = .bool false ∧ tr = [] ∧ P q') ∨ (d = .bool true ∧ q'.es.length ≤ 16777216 ∧ ks.length ≤ 16777216 ∧ ∃ tr', tr = (q'.es.map fun e => g (eTok e) q') ++ ((ks.map fun d => g d q') ++ tr') ∧ Turns B st dx tx tdx er tk kdx lf qa t g P k { q' with es := [] } f' cur' rest' tr'))
noncomputable def SameQ (g : AV → SS → γ) : Prop := ∀ d q es, g d { q with es := es } = g d q
end
set_option maxHeartbeats 4000000 in
theorem gw_iter {γ : Type} {B : Base} {st dx tx tdx er tk kdx lf f : Addr} {cur : AV} {t : List Nat} {g : AV → SS → γ} {P : SS → Prop} {rest : List (Addr × AO)} (hB : IsB B) (hg : SameQ g) {k : Nat} {q : SS} {tr : List γ} {n : Nat}
    (hT : ∀ qa, Turns B st dx tx tdx er tk kdx lf qa t g P k q f cur rest tr) :
    GenIter B n 6 tk (oS st dx tx tdx er t q ((tk, .inst 762 kdx (tkF0 st f tk lf cur)) :: rest)) (YJt st dx tx tdx er tk kdx lf t g) (RJt st dx tx tdx er tk kdx lf t P) tr := by
  refine GenIter.of (f := 268) (C := 762) (pself := "self") (by k_offL) (by k_ownIn) (by k_clsL) (by k_clsL) (by k_clsL) (.one fun _ => rfl) fun L => ?_
  refine GW.body fun Hh => GW.steps (GW.stmtH (n := 5) over_func ?_)
  kas_types
  rename_i qa _
  refine ⟨rfl, ?_⟩
  refine GW.perm (objs' := tS st dx tx tdx er tk kdx lf qa t q f cur [] rest) (rest := []) (by rw [List.append_nil]; exact (List.perm_middle (l₁ := [_, _, _, _])).symm) ?_
  refine GW.steps (GW.whiles fun p kk hk => ?_)
  replace hT := hT qa
  induction k generalizing q f cur rest tr with
  | zero => exact hT.elim
  | succ k ih =>
    obtain ⟨hf, hc⟩ := hT
    refine GW.roundH (n := 5) (over_while over_func) ?_
    kas_types
    refine W_callMC (by k_ownIn) hc (by decide) rfl (by k_allIn) ?_
    rintro d o ⟨⟨c, i, pl, pc, buf, pp, es⟩, f', cur', ks, rest', rfl, hd⟩ v
    clear hc
    rcases hd with ⟨rfl, rfl, hp⟩ | ⟨rfl, he, hks, tr', htr, hT'⟩
    · kas_types
      refine GW.back ?_
      rw [hk]
      exact GW.over ⟨qa, _, f', cur', ks, rest', hp, rfl⟩
    · kas_types
      intro Hh'
      refine GW.steps (GW.whiles fun p₁ kk₁ hk₁ => ?_)
      dsimp only at he htr hT' ⊢
      have hge : ∀ d es, g d ⟨c, i, pl, pc, buf, pp, es⟩ = g d ⟨c, i, pl, pc, buf, pp, []⟩ := fun d es => hg d ⟨c, i, pl, pc, buf, pp, []⟩ es
      simp only [hge] at htr
      subst htr
      induction es with
      | cons e es ihe =>
        refine GW.roundH (n := 5) (over_while (over_while over_func)) ?_
        kas_types
        refine Br_yes rfl ?_
        intro Hh₂
        refine GW.steps ?_
        rw [List.map_cons, List.cons_append]
        refine GW.yieldsH (n := 5) (over_while (over_while over_func)) rfl rfl ?_
        kas_types
        refine ⟨⟨qa, ⟨c, i, pl, pc, buf, pp, es⟩, f', cur', ks, rest', (hge _ _).symm, rfl⟩, ?_⟩
        exact GW.turn rfl (ihe (by simp at he; omega))
      | nil =>
        refine GW.roundH (n := 5) (over_while (over_while over_func)) ?_
        kas_types
        refine Br_no rfl ?_
        refine GW.back ?_
        rw [hk₁]
        refine GW.steps (GW.whiles fun p₂ kk₂ hk₂ => ?_)
        rw [List.map_nil, List.nil_append]
        clear he
        induction ks with
        | cons e ks ihk =>
          refine GW.roundH (n := 5) (over_while (over_while over_func)) ?_
          kas_types
          refine Br_yes rfl ?_
          intro Hh₂
          refine GW.steps ?_
          rw [List.map_cons, List.cons_append]
          refine GW.yieldsH (n := 5) (over_while (over_while over_func)) rfl rfl ?_
          kas_types
          refine ⟨⟨qa, ⟨c, i, pl, pc, buf, pp, []⟩, f', cur', ks, rest', rfl, rfl⟩, ?_⟩
          exact GW.turn rfl (ihk (by simp at hks; omega))
        | nil =>
          refine GW.roundH (n := 5) (over_while (over_while over_func)) ?_
          kas_types
          refine Br_no rfl ?_
          refine GW.back ?_
          rw [hk₂]
          exact GW.turn rfl (ih hT')
end
-- F12
section
noncomputable def LawHolds : Prop := ∀ (B : Base), IsB B → ∀ ns : List Int, ns.length ≤ 63 → CallJ B 12 773 [.obj (intsP ns)] [] fun d _ => d = .bool true
set_option maxHeartbeats 4000000 in
theorem cw (h : LawHolds) : PySem.Challenge.rw_te0034_01.Holds := theHead fun d kwd hdn => (by
  intro w s₀ s₁ mg mb G Y fa o pm cd doc dV kV ho hdd hcd hD hmg hg args vals as hpre hlay hrd hwl hlo
  have KX := kIn_of Y
  refine Ground.open G ?_
  intro T B D TE TW
  wrow_args hpre hlay hrd hwl hlo
  refine enter_call ?_
  refine law_end (n := 12) (fl := 773) KX hmg T.g T.b T.builtins T.nolimit (by rw [hdn]; kernel_rfl) (by assumption) (by assumption) hg (by decide) (fun B e1 e2 e3 => ?_) fun s' hk hos hb => ?_
  · refine h B ⟨by rw [e3, ← e2]⟩ _ ?_
    omega
  · refine ⟨.inl ⟨_, _, [], rfl, fun _ => rfl, ReadsW.bool true, ?_, fun _ => ⟨List.nodup_nil, fun _ hm => (nomatch hm)⟩⟩, .of_keep hk, hos, hb⟩
    first | rfl | wrow_post)
end
-- F13
section
theorem posC_nat {l : List Nat} {pc : Int} {i : Nat} (h : i ≤ l.length) : posC pc l i = colF pc (l.take i) := by
  unfold posC
  rw [lastTo_nat h, last_take l pc i h]
  cases ((List.range' 0 i).filter fun i => hitL l [10] i).getLast? with
  | none => simp
  | some j =>
    dsimp only
    rw [if_neg (show ¬ ((j : Int) = -1) by omega)]
section
variable {B : Base} {st dx tx tdx er tk kdx lf qa : Addr} {t : List Nat}
/-- readChunk, wherever in the chunk and whatever errors are told already -/
noncomputable def RdAll (B : Base) (st dx tx tdx er : Addr) (t : List Nat) (b : Bool) (q q₁ : SS) (ne : List AV) : Prop := ∀ j e, e.length ≤ 100000 → Reads B st dx tx tdx er t b { q with i := j, es := e } { q₁ with es := e ++ ne }
/-- the chunks that are still to come: their signs, and how it ends -/
inductive Chain (B : Base) (st dx tx tdx er : Addr) (t : List Nat) : Nat → SS → List Nat → SS → Prop
  | fin {q q' : SS} : RdAll B st dx tx tdx er t false q q' [] → RdAll B st dx tx tdx er t false q' q' [] → q'.c = [] → q'.i = 0 → Chain B st dx tx tdx er t 0 q [] q'
  | more {q q₁ q' : SS} {R : List Nat} {n : Nat} : RdAll B st dx tx tdx er t true q q₁ [] → q₁.i = 0 → q₁.c ≠ [] → q₁.c.length ≤ 1048576 → Chain B st dx tx tdx er t n q₁ R q' → Chain B st dx tx tdx er t (n + 1) q (q₁.c ++ R) q'
theorem Chain.set {n : Nat} {q q' : SS} {R : List Nat} (h : Chain B st dx tx tdx er t n q R q') (j : Nat) (e : List AV) : Chain B st dx tx tdx er t n { q with i := j, es := e } R q' := by
  cases h with
  | fin a b c d => exact .fin (fun j' e' => a j' e') b c d
  | more a b c d h => exact .more (fun j' e' => a j' e') b c d h
theorem tw_lt {u : Nat → Bool} {l R : List Nat} (h : (l.takeWhile u).length < l.length) : (l ++ R).takeWhile u = l.takeWhile u ∧ (l ++ R).dropWhile u = l.dropWhile u ++ R := by
  induction l with
  | nil => simp at h
  | cons a l ih =>
    by_cases e : u a = true
    · simp only [List.cons_append, List.takeWhile_cons, List.dropWhile_cons, if_pos e] at h ⊢
      have := ih (by simpa using h)
      rw [this.1, this.2]; exact ⟨rfl, rfl⟩
    · simp [List.takeWhile_cons, List.dropWhile_cons, e]
theorem tw_all {u : Nat → Bool} {l R : List Nat} (h : (l.takeWhile u).length = l.length) : (l ++ R).takeWhile u = l ++ R.takeWhile u ∧ (l ++ R).dropWhile u = R.dropWhile u := by
  induction l with
  | nil => simp
  | cons a l ih =>
    by_cases e : u a = true
    · simp only [List.cons_append, List.takeWhile_cons, List.dropWhile_cons, if_pos e] at h ⊢
      have := ih (by simpa using h)
      rw [this.1, this.2]; exact ⟨rfl, rfl⟩
    · simp [List.takeWhile_cons, e] at h
theorem dw_drop {u : Nat → Bool} (l : List Nat) : l.dropWhile u = l.drop (l.takeWhile u).length := by
  induction l with
  | nil => rfl
  | cons a l ih =>
    by_cases e : u a = true
    · simp [List.takeWhile_cons, List.dropWhile_cons, e, ih]
    · simp [List.takeWhile_cons, List.dropWhile_cons, e]
theorem tw_take {u : Nat → Bool} (l : List Nat) : l.takeWhile u = l.take (l.takeWhile u).length := by
  induction l with
  | nil => rfl
  | cons a l ih =>
    by_cases e : u a = true
    · simp only [List.takeWhile_cons, if_pos e, List.length_cons, List.take_succ_cons]; rw [← ih]
    · simp [List.takeWhile_cons, e]
/-- what is left -/
noncomputable abbrev remS (q : SS) (R : List Nat) : List Nat := q.c.drop q.i ++ R
theorem until_chain {u : Nat → Bool} {n : Nat} {q q' : SS} {R : List Nat} (h : Chain B st dx tx tdx er t n q R q') : ∀ (i : Nat) (e : List AV), i ≤ q.c.length → q.c.length ≤ 1048576 → e.length ≤ 100000 →
    ∃ k q₂ R₂, k ≤ n ∧ Until B st dx tx tdx er t u k { q with i := i, es := e } ((q.c.drop i ++ R).takeWhile u) q₂ ∧ (∃ n₂, n₂ ≤ n ∧ Chain B st dx tx tdx er t n₂ q₂ R₂ q') ∧ remS q₂ R₂ = (q.c.drop i ++ R).dropWhile u ∧ q₂.i ≤ q₂.c.length ∧ q₂.c.length ≤ 1048576 ∧ q₂.es = e := by
  have stop : ∀ {n : Nat} {q q' : SS} {R : List Nat}, Chain B st dx tx tdx er t n q R q' → ∀ (i : Nat) (e : List AV), i ≤ q.c.length → q.c.length ≤ 1048576 → scan u q.c i < q.c.length →
      ∃ k q₂ R₂, k ≤ n ∧ Until B st dx tx tdx er t u k { q with i := i, es := e } ((q.c.drop i ++ R).takeWhile u) q₂ ∧ (∃ n₂, n₂ ≤ n ∧ Chain B st dx tx tdx er t n₂ q₂ R₂ q') ∧ remS q₂ R₂ = (q.c.drop i ++ R).dropWhile u ∧ q₂.i ≤ q₂.c.length ∧ q₂.c.length ≤ 1048576 ∧ q₂.es = e := by
    intro n q q' R h i e hi hz hs
    have hlt : ((q.c.drop i).takeWhile u).length < (q.c.drop i).length := by rw [List.length_drop]; unfold scan at hs; omega
    obtain ⟨e1, e2⟩ := tw_lt (R := R) hlt
    have U := Until.stop (B := B) (st := st) (dx := dx) (tx := tx) (tdx := tdx) (er := er) (t := t) (u := u) (q := { q with i := i, es := e }) (e := scan u q.c i) hi hz rfl hs
    have es : sl q.c (some i) (some (scan u q.c i)) = (q.c.drop i).takeWhile u := by
      rw [sl_nat hi (by omega), tw_take, List.drop_take, show scan u q.c i - i = ((q.c.drop i).takeWhile u).length from by unfold scan; omega]
    refine ⟨0, { q with i := scan u q.c i, es := e }, R, Nat.zero_le _, ?_, ⟨n, Nat.le_refl _, h.set _ _⟩, ?_, by show scan u q.c i ≤ q.c.length; omega, hz, rfl⟩
    · rw [e1, ← es]; exact U
    · rw [e2, dw_drop, List.drop_drop]; rfl
  induction h with
  | @fin q q' a b c0 d =>
    intro i e hi hz he
    by_cases hs : scan u q.c i < q.c.length
    · exact stop (.fin a b c0 d) i e hi hz hs
    · have hsl := scan_le u q.c hi
      have hall : ((q.c.drop i).takeWhile u).length = (q.c.drop i).length := by rw [List.length_drop]; unfold scan at hs hsl; omega
      obtain ⟨e1, e2⟩ := tw_all (R := []) hall
      have U := Until.last (B := B) (st := st) (dx := dx) (tx := tx) (tdx := tdx) (er := er) (t := t) (u := u) (q := { q with i := i, es := e }) (q' := { q' with es := e }) hi hz (by show scan u q.c i = q.c.length; omega) (by have := a i e he; rw [List.append_nil] at this; exact this)
      refine ⟨0, { q' with es := e }, [], Nat.le_refl _, ?_, ⟨0, Nat.le_refl _, .fin (fun j' e' => b j' e') b c0 d⟩, ?_, by show q'.i ≤ _; omega, by show q'.c.length ≤ _; rw [c0]; simp, rfl⟩
      · rw [e1]
        have := U
        rw [show sl ({ q with i := i, es := e } : SS).c (some (({ q with i := i, es := e } : SS).i : Int)) none = q.c.drop i from sl_none _ _] at this
        simpa using this
      · rw [e2]
        show q'.c.drop q'.i ++ [] = _
        rw [c0]; simp
  | @more q q₁ q' R n a b c0 d h ih =>
    intro i e hi hz he
    by_cases hs : scan u q.c i < q.c.length
    · exact stop (.more a b c0 d h) i e hi hz hs
    · have hsl := scan_le u q.c hi
      have hall : ((q.c.drop i).takeWhile u).length = (q.c.drop i).length := by rw [List.length_drop]; unfold scan at hs hsl; omega
      obtain ⟨e1, e2⟩ := tw_all (R := q₁.c ++ R) hall
      obtain ⟨k, q₂, R₂, hk, U, ⟨n₂, hn₂, C⟩, hr, h1, h2, h3⟩ := ih 0 e (Nat.zero_le _) d he
      rw [List.drop_zero] at U hr
      have eq : ({ q₁ with i := 0, es := e } : SS) = { q₁ with es := e } := by rw [← b]
      rw [eq] at U
      have M := Until.more (B := B) (st := st) (dx := dx) (tx := tx) (tdx := tdx) (er := er) (t := t) (u := u) (q := { q with i := i, es := e }) (q₁ := { q₁ with es := e }) hi hz (by show scan u q.c i = q.c.length; omega) (by have := a i e he; rw [List.append_nil] at this; exact this) U
      rw [show sl ({ q with i := i, es := e } : SS).c (some (({ q with i := i, es := e } : SS).i : Int)) none = q.c.drop i from sl_none _ _] at M
      refine ⟨k + 1, q₂, R₂, by omega, ?_, ⟨n₂, by omega, C⟩, ?_, h1, h2, h3⟩
      · rw [e1]; exact M
      · rw [e2]; exact hr
theorem char_none (hB : IsB B) {n : Nat} {q q' : SS} {R : List Nat} (h : Chain B st dx tx tdx er t n q R q') {i : Nat} {e : List AV} (hi : i ≤ q.c.length) (he : e.length ≤ 100000) (hr : q.c.drop i ++ R = []) :
    CharTo B st dx tx tdx er t .none { q with i := i, es := e } { q' with es := e } := by
  intro rest
  have hd : q.c.length ≤ i := by
    have := (List.append_eq_nil_iff.mp hr).1
    simpa using this
  cases h with
  | fin a b c d =>
    have := a i e he
    rw [List.append_nil] at this
    exact c_charEnd hB (by simp; omega) (this rest)
  | more a b c d h => exact absurd (List.append_eq_nil_iff.mp (List.append_eq_nil_iff.mp hr).2).1 c
theorem char_some (hB : IsB B) {n : Nat} {q q' : SS} {R : List Nat} {z : Nat} {r : List Nat} (h : Chain B st dx tx tdx er t n q R q') {i : Nat} {e : List AV} (hi : i ≤ q.c.length) (hz : q.c.length ≤ 1048576) (he : e.length ≤ 100000) (hr : q.c.drop i ++ R = z :: r) :
    ∃ q₂ R₂ n₂, n₂ ≤ n ∧ CharTo B st dx tx tdx er t (.str [z]) { q with i := i, es := e } q₂ ∧ Chain B st dx tx tdx er t n₂ q₂ R₂ q' ∧ remS q₂ R₂ = r ∧ q₂.i ≤ q₂.c.length ∧ q₂.c.length ≤ 1048576 ∧ q₂.es = e := by
  by_cases hlt : i < q.c.length
  · have hd := List.drop_eq_getElem_cons hlt
    rw [hd, List.cons_append] at hr
    obtain ⟨ez, er'⟩ := List.cons.inj hr
    refine ⟨{ q with i := i + 1, es := e }, R, n, Nat.le_refl _, fun rest => ?_, h.set _ _, er', hlt, hz, rfl⟩
    have := c_charHere (B := B) (rest := rest) (st := st) (dx := dx) (tx := tx) (tdx := tdx) (er := er) (c := q.c) (t := t) (pl := q.pl) (pc := q.pc) (p := q.p) (es := e) (buf := q.buf) hB hlt (by omega)
    rw [ez] at this
    exact this
  · have hl : i = q.c.length := by omega
    subst hl
    rw [List.drop_length, List.nil_append] at hr
    cases h with
    | fin a b c d => cases hr
    | @more _ q₁ _ R n a b c d h =>
      have h0 : 0 < q₁.c.length := by cases hc : q₁.c with | nil => exact absurd hc c | cons _ _ => simp
      have hc : q₁.c = q₁.c[0] :: q₁.c.drop 1 := by
        have := List.drop_eq_getElem_cons h0
        rw [List.drop_zero] at this; exact this
      rw [hc, List.cons_append] at hr
      obtain ⟨ez, er'⟩ := List.cons.inj hr
      refine ⟨{ q₁ with i := 1, es := e }, R, n, by omega, fun rest => ?_, h.set _ _, er', h0, d, rfl⟩
      have hrd := a q.c.length e he
      rw [List.append_nil] at hrd
      have eq : ({ q₁ with es := e } : SS) = { q₁ with i := 0, es := e } := by rw [← b]
      rw [eq] at hrd
      have := c_charRead (B := B) (rest := rest) (st := st) (dx := dx) (tx := tx) (tdx := tdx) (er := er) (c := q.c) (sz := q.c.length) (off := q.c.length) (c' := q₁.c) (t := t) (pl := q.pl) (pc := q.pc) (p := q.p) (es := e) (es' := e) (buf := q.buf) (pl' := q₁.pl) (pc' := q₁.pc) (p' := q₁.p) (buf' := q₁.buf) hB (Int.le_refl _) (by omega) h0 (hrd rest)
      rw [ez] at this
      exact this
end
end
-- F14
section
section
variable {B : Base} {st dx tx tdx er tk kdx lf qa : Addr} {t : List Nat} {cur : AV} {rest : List (Addr × AO)} {P : SS → Prop}
theorem ok_sign {z : Nat} (h : z < 1114112) : PyData.strOk (S [z]) = true := by simp [PyData.strOk, h]
/-- the turn, when its first sign is read -/
theorem after_char (hB : IsB B) {k n z : Nat} {q q₂ q' : SS} {R₂ : List Nat} (hc : CharTo B st dx tx tdx er t (.str [z]) q q₂) (C : Chain B st dx tx tdx er t n q₂ R₂ q') (hn : n ≤ 1000) (hi : q₂.i ≤ q₂.c.length) (hz : q₂.c.length ≤ 1048576) (he : q₂.es.length ≤ 100000)
    (hz0 : z < 1114112) (hr : (remS q₂ R₂).length ≤ 100000)
    (IH : ∀ n₃ q₃ R₃, n₃ ≤ n → Chain B st dx tx tdx er t n₃ q₃ R₃ q' → q₃.i ≤ q₃.c.length → q₃.c.length ≤ 1048576 → q₃.es = [] → (remS q₃ R₃).length ≤ (remS q₂ R₂).length → (∀ y ∈ remS q₃ R₃, y ∈ remS q₂ R₂) → Turns B st dx tx tdx er tk kdx lf qa t (fun d _ => d) P k q₃ 346 cur rest (toksG [] (remS q₃ R₃))) :
    Turns B st dx tx tdx er tk kdx lf qa t (fun d _ => d) P (k + 1) q 346 cur rest (q₂.es.map eTok ++ toksG [] (z :: remS q₂ R₂)) := by
  refine ⟨by k_clsL, ?_⟩
  by_cases h0 : z = 0
  · subst h0
    refine (c_plainNul hB hc (by simp)).mono fun d o ⟨e1, e2⟩ => ?_
    refine ⟨q₂, 346, cur, _, rest, e2, .inr ⟨e1, by omega, by simp, toksG [] (remS q₂ R₂), ?_, ?_⟩⟩
    · simp [toksG, part1]
    · exact IH n { q₂ with es := [] } R₂ (Nat.le_refl _) (C.set _ _) hi hz rfl (Nat.le_refl _) fun y hy => hy
  · obtain ⟨k', q₃, R₃, hk', U, ⟨n₃, hn₃, C₃⟩, hr₃, h1, h2, h3⟩ := until_chain (u := fun x => decide (x ∈ [0]) == false) C q₂.i q₂.es hi hz he
    have hlen : ((remS q₂ R₂).takeWhile fun x => decide (x ∈ [0]) == false).length ≤ (remS q₂ R₂).length := (List.takeWhile_sublist _).length_le
    refine (c_plainChars hB hc h0 (ok_sign hz0) U (by omega) (Nat.le_trans hlen (by omega)) (by simp)).mono fun d o ⟨e1, e2⟩ => ?_
    refine ⟨q₃, 346, cur, _, rest, e2, .inr ⟨e1, by rw [h3]; omega, by simp, toksG [] (remS q₃ R₃), ?_, ?_⟩⟩
    · rw [h3, hr₃, show toksG [] (z :: remS q₂ R₂) = toksG [z] (remS q₂ R₂) from if_neg h0, toks_run [z] (by simp)]
      rfl
    · refine IH n₃ { q₃ with es := [] } R₃ hn₃ (C₃.set _ _) h1 h2 rfl ?_ ?_
      · show (remS q₃ R₃).length ≤ _
        rw [hr₃]; exact (List.dropWhile_sublist _).length_le
      · intro y hy
        have hy : y ∈ remS q₃ R₃ := hy
        rw [hr₃] at hy
        exact (List.dropWhile_sublist _).subset hy
theorem turns_plain (hB : IsB B) {q' : SS} (hP : P q') : ∀ (k : Nat) (n : Nat) (q : SS) (R : List Nat), Chain B st dx tx tdx er t n q R q' → n ≤ 1000 → q.i ≤ q.c.length → q.c.length ≤ 1048576 → q.es = [] → q'.es = [] → (remS q R).length < k → (remS q R).length ≤ 100000 → (∀ y ∈ remS q R, y < 1114112) →
    Turns B st dx tx tdx er tk kdx lf qa t (fun d _ => d) P k q 346 cur rest (toksG [] (remS q R))
  | 0, _, _, _, _, _, _, _, _, _, h, _, _ => absurd h (by omega)
  | k + 1, n, q, R, C, hn, hi, hz, he, he', hk, hl, hy => by
    cases hrem : remS q R with
    | nil =>
      refine ⟨by k_clsL, ?_⟩
      have hc := char_none hB C (i := q.i) (e := q.es) hi (by rw [he]; simp) hrem
      refine (c_plainEnd hB hc).mono fun d o ⟨e1, e2⟩ => ?_
      refine ⟨{ q' with es := q.es }, 346, cur, _, rest, e2, .inl ⟨e1, rfl, ?_⟩⟩
      rw [he, ← he']; exact hP
    | cons z r =>
      obtain ⟨q₂, R₂, n₂, hn₂, hc, C₂, hr₂, h1, h2, h3⟩ := char_some hB C (i := q.i) (e := q.es) hi hz (by rw [he]; simp) hrem
      have hlen : (remS q R).length = r.length + 1 := by rw [hrem]; rfl
      have := after_char (B := B) (st := st) (dx := dx) (tx := tx) (tdx := tdx) (er := er) (tk := tk) (kdx := kdx) (lf := lf) (qa := qa) (t := t) (cur := cur) (rest := rest) (P := P) (k := k) hB hc C₂ (by omega) h1 h2 (by rw [h3, he]; simp) (hy z (by rw [hrem]; exact .head _)) (by rw [hr₂]; omega) fun n₃ q₃ R₃ hn₃ C₃ g1 g2 g3 g4 g5 =>
        turns_plain hB hP k n₃ q₃ R₃ C₃ (by omega) g1 g2 g3 he' (by rw [hr₂] at g4; omega) (by rw [hr₂] at g4; omega) fun y hy' => hy y (by rw [hrem]; exact .tail _ (by have := g5 y hy'; rw [hr₂] at this; exact this))
      rw [show q₂.es.map eTok = [] from by rw [h3, he]; rfl, hr₂] at this
      exact this
end
end
-- F15
section
section
variable {B : Base} {st dx tx tdx er tk kdx lf qa : Addr} {t : List Nat} {cur : AV} {rest : List (Addr × AO)}
theorem len_pos {l : List Nat} (h : l ≠ []) : 0 < l.length := by cases l with | nil => exact absurd rfl h | cons _ _ => simp
theorem cnt_all (c : List Nat) : cntTo 10 c c.length = c.count 10 := by rw [cntTo_nat (Nat.le_refl _), List.take_length]
theorem pos_all (pc : Int) (c : List Nat) : posC pc c c.length = colF pc c := by rw [posC_nat (Nat.le_refl _), List.take_length]
theorem bads_len (l : List Nat) : (bads l).length ≤ l.length := by unfold bads; rw [List.length_map]; exact List.length_filter_le _ _
/-- at the end of the text -/
theorem rd_end (hB : IsB B) (hz : t.length ≤ 16777216) {q : SS} (hb : q.buf = .none) (hD : sl t (some q.p) (some (q.p + 10240)) = []) (e₀ : List AV) :
    RdAll B st dx tx tdx er t false q ⟨[], 0, q.pl + q.c.count 10, colF q.pc q.c, .none, q.p, e₀⟩ [] := fun j e he rest => by
  have := c_rcEnd (B := B) (rest := rest) (st := st) (dx := dx) (tx := tx) (tdx := tdx) (er := er) (c := q.c) (t := t) (sz := q.c.length) (off := j) (pl := q.pl) (pc := q.pc) (p := q.p) (es := e) hB hz hD
  rw [cnt_all, pos_all] at this
  rw [← hb] at this
  refine CallJ.mono this fun d o ⟨e1, e2⟩ => ⟨e1, e2.trans ?_⟩
  rw [hb, List.append_nil]
  rfl
theorem rd_go (hB : IsB B) (hz : t.length ≤ 16777216) {q : SS} {D : List Nat} {z : Nat} (hb : q.buf = .none) (hD : sl t (some q.p) (some (q.p + 10240)) = D) (hs : D.length ≤ 10000) (h1 : 1 < D.length) (hl : at? D (-1) = some z) (h13 : z ≠ 13) (hsur : ¬ (55296 ≤ z ∧ z ≤ 56319)) (e₀ : List AV) :
    RdAll B st dx tx tdx er t true q ⟨mend D, 0, q.pl + q.c.count 10, colF q.pc q.c, .none, q.p + D.length, e₀⟩ (bads D) := fun j e he rest => by
  have h2 : (repl D [13, 10] [10]).length ≤ 1048576 := by
    rw [repl_crlf]
    have : (mend D).length ≤ D.length := mend_len D
    rw [← mend_eq, repl_crlf, repl_cr, List.length_map] at this
    omega
  have h3 : (repl (repl D [13, 10] [10]) [13] [10]).length ≤ 1048576 := by rw [mend_eq]; have := mend_len D; omega
  have := c_rcGo (B := B) (rest := rest) (st := st) (dx := dx) (tx := tx) (tdx := tdx) (er := er) (c := q.c) (t := t) (sz := q.c.length) (off := j) (pl := q.pl) (pc := q.pc) (p := q.p) (es := e) hB hz hD (by omega) (by omega) h1 hl h13 hsur h2 h3
  rw [cnt_all, pos_all, ← hb] at this
  refine CallJ.mono this fun d o ⟨e1, e2⟩ => ⟨e1, e2.trans ?_⟩
  rw [hb, show norm' D = mend D from mend_eq D]
  rfl
theorem rd_one (hB : IsB B) (hz : t.length ≤ 16777216) {q : SS} {z : Nat} (hb : q.buf = .none) (hD : sl t (some q.p) (some (q.p + 10240)) = [z]) (e₀ : List AV) :
    RdAll B st dx tx tdx er t true q ⟨mend [z], 0, q.pl + q.c.count 10, colF q.pc q.c, .none, q.p + 1, e₀⟩ (bads [z]) := fun j e he rest => by
  have h3 : (repl (repl [z] [13, 10] [10]) [13] [10]).length ≤ 1048576 := by rw [mend_eq]; have := mend_len [z]; simp at this; omega
  have h2 : (repl [z] [13, 10] [10]).length ≤ 1048576 := by
    rw [repl_cr, List.length_map] at h3
    exact h3
  have := c_rcOne (B := B) (rest := rest) (st := st) (dx := dx) (tx := tx) (tdx := tdx) (er := er) (c := q.c) (t := t) (sz := q.c.length) (off := j) (pl := q.pl) (pc := q.pc) (p := q.p) (es := e) hB hz hD (by omega) h2 h3
  rw [cnt_all, pos_all, ← hb] at this
  refine CallJ.mono this fun d o ⟨e1, e2⟩ => ⟨e1, e2.trans ?_⟩
  rw [hb, show norm' [z] = mend [z] from mend_eq [z]]
  rfl
theorem sl_init (l : List Nat) (z : Nat) : sl (l ++ [z]) none (some (-1)) = l := by
  unfold sl
  have : norm (l ++ [z]).length (-1) = l.length := by unfold norm; simp only [List.length_append, List.length_singleton]; split <;> omega
  show ((l ++ [z]).take (norm (l ++ [z]).length (-1))).drop 0 = l
  rw [this]; simp
theorem at_last (l : List Nat) (z : Nat) : at? (l ++ [z]) (-1) = some z := by
  unfold at?
  rw [StrLaws.seqIndex_neg (by omega) (by simp; omega)]
  have : ((-1 : Int) + ((l ++ [z]).length : Nat)).toNat = l.length := by simp only [List.length_append, List.length_singleton]; omega
  rw [this]; simp
theorem rd_hold (hB : IsB B) (hz : t.length ≤ 16777216) {q : SS} {D : List Nat} (hb : q.buf = .none) (hD : sl t (some q.p) (some (q.p + 10240)) = D ++ [13]) (hs : D.length ≤ 10000) (h1 : D ≠ []) (e₀ : List AV) :
    RdAll B st dx tx tdx er t true q ⟨mend D, 0, q.pl + q.c.count 10, colF q.pc q.c, .str [13], q.p + (D.length + 1 : Nat), e₀⟩ (bads D) := fun j e he rest => by
  have hl1 : 0 < D.length := len_pos h1
  have h2 : (repl D [13, 10] [10]).length ≤ 1048576 := by
    have : (mend D).length ≤ D.length := mend_len D
    rw [← mend_eq, repl_crlf, repl_cr, List.length_map] at this
    rw [repl_crlf]
    omega
  have h3 : (repl (repl D [13, 10] [10]) [13] [10]).length ≤ 1048576 := by rw [mend_eq]; have := mend_len D; omega
  have := c_rcHold (B := B) (rest := rest) (st := st) (dx := dx) (tx := tx) (tdx := tdx) (er := er) (c := q.c) (t := t) (sz := q.c.length) (off := j) (pl := q.pl) (pc := q.pc) (p := q.p) (es := e) hB hz hD (by simp; omega) (by simp; omega) (by simp; omega) (at_last D 13) (by rw [sl_init]; exact h2) (by rw [sl_init]; exact h3)
  rw [cnt_all, pos_all, ← hb, sl_init] at this
  refine CallJ.mono this fun d o ⟨e1, e2⟩ => ⟨e1, e2.trans ?_⟩
  rw [show norm' D = mend D from mend_eq D, List.length_append]
  rfl
theorem rd_buf (hB : IsB B) (hz : t.length ≤ 16777216) {q : SS} (hb : q.buf = .str [13]) (hD : sl t (some q.p) (some (q.p + 10240)) = []) (e₀ : List AV) :
    RdAll B st dx tx tdx er t true q ⟨[10], 0, q.pl + q.c.count 10, colF q.pc q.c, .none, q.p, e₀⟩ [] := fun j e he rest => by
  have h3 : (repl (repl [13] [13, 10] [10]) [13] [10]).length ≤ 1048576 := by rw [mend_eq]; have := mend_len [13]; simp at this; omega
  have h2 : (repl [13] [13, 10] [10]).length ≤ 1048576 := by
    rw [repl_cr, List.length_map] at h3
    exact h3
  have := c_rcBuf (B := B) (rest := rest) (st := st) (dx := dx) (tx := tx) (tdx := tdx) (er := er) (c := q.c) (t := t) (sz := q.c.length) (off := j) (pl := q.pl) (pc := q.pc) (p := q.p) (es := e) hB hz hD (by omega) h2 h3
  rw [cnt_all, pos_all, ← hb] at this
  refine CallJ.mono this fun d o ⟨e1, e2⟩ => ⟨e1, e2.trans ?_⟩
  rw [show norm' [13] = mend [13] from mend_eq [13], show bads [13] = [] from by rfl]
  rfl
/-- the place at the end of a text -/
noncomputable def AtEnd (N : List Nat) (q : SS) : Prop := q.c = [] ∧ q.i = 0 ∧ q.pl = (N.count 10 : Nat) ∧ q.pc = colF 0 N
theorem sl_past {p : Int} (h : (t.length : Int) ≤ p) : sl t (some p) (some (p + 10240)) = [] := by
  have e : norm t.length p = t.length := by unfold norm; split <;> omega
  unfold sl
  show (t.take _).drop (norm t.length p) = []
  rw [e, List.drop_eq_nil_of_le]
  rw [List.length_take]; omega
theorem sl_first (h : t.length ≤ 10240) : sl t (some (0 : Int)) (some ((0 : Int) + 10240)) = t := by
  have e : norm t.length ((0 : Int) + 10240) = t.length := by unfold norm; split <;> omega
  have e0 : norm t.length (0 : Int) = 0 := by unfold norm; split <;> omega
  unfold sl
  show (t.take (norm t.length ((0 : Int) + 10240))).drop (norm t.length (0 : Int)) = t
  rw [e, e0]; simp
end
section
variable {B : Base} {st dx tx tdx er tk kdx lf : Addr} {t : List Nat} {cur : AV} {rest : List (Addr × AO)}
theorem turns_text (hB : IsB B) (hlen : t.length ≤ 300) (hch : ∀ z ∈ t, z < 1114112 ∧ ¬ (55296 ≤ z ∧ z ≤ 56319)) (qa : Addr) :
    Turns B st dx tx tdx er tk kdx lf qa t (fun d _ => d) (AtEnd (mend t)) (t.length + 5) SS0 346 cur rest ((bads t).map eTok ++ toksG [] (mend t)) := by
  have hz : t.length ≤ 16777216 := by omega
  have hm : ∀ D : List Nat, (∀ z ∈ D, z < 1114112) → ∀ z ∈ mend D, z < 1114112 := by
    intro D
    fun_induction mend D with
    | case1 r ih => intro h z hz; rcases List.mem_cons.mp hz with rfl | hz; omega; exact ih (fun y hy => h y (.tail _ (.tail _ hy))) z hz
    | case2 c r _ ih =>
      intro h z hz
      rcases List.mem_cons.mp hz with rfl | hz
      · unfold cr1; have := h c (.head _); split <;> omega
      · exact ih (fun y hy => h y (.tail _ hy)) z hz
    | case3 => intro _ z hz; cases hz
  -- from the chunk that is read first
  have go : ∀ (q₁ : SS) (R : List Nat) (n : Nat) (q' : SS), RdAll B st dx tx tdx er t true SS0 q₁ (bads t) → q₁.i = 0 → q₁.c ≠ [] → q₁.c.length ≤ 1048576 → Chain B st dx tx tdx er t n q₁ R q' → n ≤ 3 → q'.es = [] → q₁.c ++ R = mend t → AtEnd (mend t) q' →
      Turns B st dx tx tdx er tk kdx lf qa t (fun d _ => d) (AtEnd (mend t)) (t.length + 5) SS0 346 cur rest ((bads t).map eTok ++ toksG [] (mend t)) := by
    intro q₁ R n q' hrd hi0 hc0 hcz C hn he' hR hP
    have h0 : 0 < q₁.c.length := len_pos hc0
    have hcc : q₁.c = q₁.c[0] :: q₁.c.drop 1 := by
      have := List.drop_eq_getElem_cons h0
      rw [List.drop_zero] at this; exact this
    have hb := bads_len t
    have hrd0 := hrd 0 [] (by simp)
    rw [List.nil_append] at hrd0
    have eq : ({ q₁ with es := bads t } : SS) = { q₁ with i := 0, es := bads t } := by rw [← hi0]
    rw [eq] at hrd0
    have hml := mend_len t
    have hmm := hm t fun z hz => (hch z hz).1
    have hrem : remS { q₁ with i := 1, es := bads t } R = (mend t).drop 1 := by
      rw [← hR]
      show q₁.c.drop 1 ++ R = _
      rw [List.drop_append_of_le_length h0]
    have hcons : mend t = q₁.c[0] :: (mend t).drop 1 := by
      rw [← hrem]
      show _ = q₁.c[0] :: (q₁.c.drop 1 ++ R)
      rw [← List.cons_append, ← hcc, hR]
    have hdl : ((mend t).drop 1).length ≤ 300 := by rw [List.length_drop]; omega
    have := after_char (B := B) (st := st) (dx := dx) (tx := tx) (tdx := tdx) (er := er) (tk := tk) (kdx := kdx) (lf := lf) (qa := qa) (t := t) (cur := cur) (rest := rest) (P := AtEnd (mend t)) (k := t.length + 4) (q := SS0) (q₂ := { q₁ with i := 1, es := bads t }) (z := q₁.c[0]) hB
      (fun rest => c_charRead (B := B) (rest := rest) (c := []) (sz := 0) (off := 0) (c' := q₁.c) (t := t) (pl := 0) (pc := 0) (p := 0) (es := []) (es' := bads t) (buf := .none) (pl' := q₁.pl) (pc' := q₁.pc) (p' := q₁.p) (buf' := q₁.buf) hB (Int.le_refl _) (by omega) h0 (hrd0 rest))
      (C.set 1 (bads t)) (by omega) h0 hcz (by show (bads t).length ≤ _; omega) (hmm _ (by rw [hcons]; exact .head _)) (by rw [hrem]; omega) fun n₃ q₃ R₃ hn₃ C₃ g1 g2 g3 g4 g5 =>
        turns_plain hB hP (t.length + 4) n₃ q₃ R₃ C₃ (by omega) g1 g2 g3 he' (by rw [hrem] at g4; rw [List.length_drop] at g4; omega) (by rw [hrem] at g4; omega) fun y hy => hmm y (by rw [hcons]; exact .tail _ (by have := g5 y hy; rw [hrem] at this; exact this))
    rw [hrem, ← hcons] at this
    exact this
  rcases (show t = [] ∨ ∃ D z, t = D ++ [z] from by rcases List.eq_nil_or_concat t with h | ⟨D, z, h⟩; exact .inl h; exact .inr ⟨D, z, by rw [h, List.concat_eq_append]⟩) with rfl | ⟨D, z, rfl⟩
  · -- nothing at all
    have C : Chain B st dx tx tdx er [] 0 SS0 [] ⟨[], 0, 0, 0, .none, 0, []⟩ := .fin (rd_end hB hz rfl (sl_past (Int.le_refl _)) _) (rd_end hB hz rfl (sl_past (Int.le_refl _)) _) rfl rfl
    exact turns_plain hB (q' := ⟨[], 0, 0, 0, .none, 0, []⟩) ⟨rfl, rfl, rfl, rfl⟩ 5 0 SS0 [] C (by omega) (Nat.le_refl _) (by simp) rfl rfl (by simp) (by simp) fun y hy => by simp at hy
  · have hz' := hch z (by simp)
    have first := sl_first (t := D ++ [z]) (by omega)
    have endC : ∀ (c : List Nat) (pl pc : Int) (p : Int) , ((D ++ [z]).length : Int) ≤ p → Chain B st dx tx tdx er (D ++ [z]) 0 ⟨c, 0, pl, pc, .none, p, []⟩ [] ⟨[], 0, pl + c.count 10, colF pc c, .none, p, []⟩ := fun c pl pc p hp => by
      refine .fin (rd_end hB hz rfl (sl_past hp) _) ?_ rfl rfl
      have := rd_end (B := B) (st := st) (dx := dx) (tx := tx) (tdx := tdx) (er := er) (q := ⟨[], 0, pl + c.count 10, colF pc c, .none, p, []⟩) hB hz rfl (sl_past hp) []
      have e : pl + (c.count 10 : Nat) + (([] : List Nat).count 10 : Nat) = pl + (c.count 10 : Nat) := by simp
      rw [show ((⟨[], 0, pl + c.count 10, colF pc c, .none, p, []⟩ : SS).pl + ((⟨[], 0, pl + c.count 10, colF pc c, .none, p, []⟩ : SS).c.count 10 : Nat)) = pl + (c.count 10 : Nat) from e] at this
      exact this
    by_cases hD : D = []
    · subst hD
      refine go _ [] 0 _ (rd_one (q := SS0) hB hz rfl first []) rfl (mend_ne (by simp)) (by have := mend_len [z]; simp at this; simp; omega) (endC _ _ _ _ (by simp)) (by omega) rfl (by simp) ⟨rfl, rfl, by simp, rfl⟩
    · have hl : 0 < D.length := len_pos hD
      have hlen' : D.length + 1 ≤ 300 := by simpa using hlen
      by_cases h13 : z = 13
      · subst h13
        have e := mend_snoc D 13
        rw [if_neg (by simp)] at e
        have eb : bads (D ++ [13]) = bads D := by unfold bads; rw [List.filter_append]; simp [inv]
        refine go _ ([10] ++ []) 1 _ (by rw [eb]; exact rd_hold (q := SS0) hB hz rfl first (by omega) hD []) rfl (mend_ne hD) (by have := mend_len D; show (mend D).length ≤ _; omega)
          (.more (rd_buf hB hz rfl (sl_past (by simp)) []) rfl (by simp) (by simp) (endC _ _ _ _ (by simp))) (by omega) rfl (by rw [e]; rfl) ⟨rfl, rfl, ?_, ?_⟩
        · rw [e]; simp [List.count_append, cr1]
        · rw [e]; unfold colF; rw [List.foldl_append]; rfl
      · refine go _ [] 0 _ (rd_go (q := SS0) (z := z) hB hz rfl first (by simp; omega) (by simp; omega) (at_last D z) h13 hz'.2 []) rfl (mend_ne (by simp)) (by have := mend_len (D ++ [z]); show (mend _).length ≤ _; omega) (endC _ _ _ _ (by simp)) (by omega) rfl (by simp) ⟨rfl, rfl, by simp, rfl⟩
end
end
-- F16
section
noncomputable def pieces : List (List Nat) := [[97], [32], [10], [13], [0], [60], [38, 97, 109, 112, 59], [60, 47, 112, 108, 97, 105, 110, 116, 101, 120, 116, 62], [60, 33, 45, 45], [1], [127], [64976], [233], [13, 10], [131070], [9]]
noncomputable def faulty : List (List Nat) := [[1], [127], [64976], [131070]]
theorem core_pieces {B : Base} (hB : IsB B) : CoreIs B (.ref 767) (.lst (pieces.map .str)) := by
  refine core_lst (by k_offL) ?_
  rfl
theorem core_faulty {B : Base} (hB : IsB B) : CoreIs B (.ref 768) (.tup (faulty.map .str)) := by
  refine core_tup (by k_offL) ?_
  rfl
end
local macro_rules | `(tactic| walk_at "Go Name") => `(tactic| (plain_pass; (with_reducible show Go (Expr.Name (Str.ofString "_law_PIECES") _) _); refine g_global (v := .ref 767) (by k_clsL) (core_pieces (by assumption)) ?_))
section
end
local macro_rules | `(tactic| walk_at "Go Name") => `(tactic| (plain_pass; (with_reducible show Go (Expr.Name (Str.ofString "_law_FAULTY") _) _); refine g_global (v := .ref 768) (by k_clsL) (core_faulty (by assumption)) ?_))
section
noncomputable def piece (n : Int) : List Nat := pieces.getD (n.fmod 16).toNat []
theorem piece_get (k : Int) : (pieces.map AV.str)[(k.fmod 16).toNat]? = some (.str (piece k)) := by
  have h0 : 0 ≤ k.fmod 16 := Int.fmod_nonneg_of_pos k (by decide)
  have h1 : k.fmod 16 < 16 := Int.fmod_lt_of_pos k (by decide)
  have h2 : (k.fmod 16).toNat < pieces.length := by show _ < 16; omega
  unfold piece
  rw [List.getElem?_map, List.getElem?_eq_getElem h2, List.getD_eq_getElem?_getD, List.getElem?_eq_getElem h2]
  rfl
theorem texts_map (f : Int → List Nat) : ∀ l : List Int, textsOf (l.map fun n => AV.str (f n)) = some (l.map f)
  | [] => rfl
  | a :: l => by simp only [List.map_cons, textsOf, texts_map f l]; rfl
theorem piece_mem (k : Int) : piece k ∈ pieces := by
  have h := piece_get k
  rw [List.getElem?_map] at h
  cases e : pieces[(k.fmod 16).toNat]? with
  | none => rw [e] at h; cases h
  | some x =>
    rw [e] at h
    have : x = piece k := by simpa using h
    rw [← this]; exact List.mem_of_getElem? e
theorem piece_len (k : Int) : (piece k).length ≤ 12 := by
  have : ∀ x ∈ pieces, x.length ≤ 12 := by decide
  exact this _ (piece_mem k)
noncomputable def okSign (c : Nat) : Bool := decide (c < 1114112) && !(decide (55296 ≤ c) && decide (c ≤ 56319)) && (inv c == decide ([c] ∈ faulty))
theorem piece_ok (k : Int) : ∀ c ∈ piece k, okSign c = true := by
  have : ∀ x ∈ pieces, ∀ c ∈ x, okSign c = true := by decide +kernel
  exact this _ (piece_mem k)
theorem flat_len (l : List Int) : (l.map piece).flatten.length ≤ 12 * l.length := by
  induction l with
  | nil => simp
  | cons a l ih => have := piece_len a; simp only [List.map_cons, List.flatten_cons, List.length_append, List.length_cons]; omega
theorem sl_last (l : List Nat) : sl l (some (-1)) none = l.getLast?.toList := by
  rcases List.eq_nil_or_concat l with rfl | ⟨D, z, rfl⟩
  · rfl
  · unfold sl
    have e : norm (D.concat z).length (-1) = D.length := by unfold norm; simp only [List.length_concat]; split <;> omega
    show ((D.concat z).take (D.concat z).length).drop (norm (D.concat z).length (-1)) = _
    rw [e, List.take_length, List.concat_eq_append]
    simp
theorem sl_upto {l : List Nat} {i : Nat} (h : i ≤ l.length) : sl l none (some i) = l.take i := by
  unfold sl
  show (l.take (norm l.length i)).drop 0 = _
  rw [norm_nat h]; rfl
theorem sl_tail {T : List Nat} {i : Nat} (h : i ≤ T.length) : decide (sl (sl T none (some (i : Int))) (some (-1)) none = [13]) = decide ((T.take i).getLast? = some 13) := by
  rw [sl_upto h, sl_last]
  cases (T.take i).getLast? with
  | none => simp
  | some x => simp
theorem emit_len (N : List Nat) : ∀ ds p, (N.foldl emit (ds, p)).1.length ≤ ds.length + 3 * N.length ∧ (N.foldl emit (ds, p)).2.length ≤ p.length + N.length := by
  induction N with
  | nil => intro ds p; simp
  | cons c N ih =>
    intro ds p
    rw [List.foldl_cons]
    unfold emit
    by_cases h : c = 0
    · rw [if_pos h]
      have := ih (ds ++ (part1 p ++ [kErr', kCh [65533]])) []
      have hp : (part1 p).length ≤ 1 := by unfold part1; split <;> simp
      simp only [List.length_append, List.length_cons, List.length_nil] at this ⊢
      unfold emit at this
      omega
    · rw [if_neg h]
      have := ih ds (p ++ [c])
      simp only [List.length_append, List.length_cons, List.length_nil] at this ⊢
      unfold emit at this
      omega
end
local macro_rules | `(tactic| kct_strs) => `(tactic| (refine W_new (C := 762) (fI := 261) (by k_clsL) (by k_clsL) (by k_clsL) (fun x dx => c_tInit (by assumption)) (by decide) rfl (by k_allIn) ?_; rintro tk kdx _ _ ⟨h1, st, dx, tx, tdx, er, lf, h2⟩; subst h1 h2; refine ⟨rfl, ?_⟩))
section
theorem toks_flat : ∀ (N : List Nat) (p : List Nat), (toksG p N).all flatD = true := by
  have hp : ∀ p : List Nat, (part1 p).all flatD = true := fun p => by unfold part1; split <;> rfl
  intro N
  induction N with
  | nil => intro p; exact hp p
  | cons c N ih =>
    intro p
    unfold toksG
    split
    · rw [List.all_append, hp, List.all_append, ih]; rfl
    · exact ih _
theorem errs_flat (T : List Nat) : ((bads T).map eTok).all flatD = true := by
  rw [List.all_eq_true]
  intro x hx
  obtain ⟨b, hb, rfl⟩ := List.mem_map.mp hx
  unfold bads at hb
  obtain ⟨_, _, rfl⟩ := List.mem_map.mp hb
  rfl
theorem law_place {k : Nat} {x : Int} : (((k : Int) + (cntTo 10 [] ((0 : Nat) : Int) : Nat) + 1 == 1 + (k : Int)) && (posC x [] ((0 : Nat) : Int) == x)) = true := by
  have e1 : cntTo 10 [] ((0 : Nat) : Int) = 0 := cntTo_nat (l := []) (i := 0) (Nat.zero_le _)
  have e2 : posC x [] ((0 : Nat) : Int) = x := posC_nat (l := []) (i := 0) (Nat.zero_le _)
  rw [e1, e2]
  simp
  omega
/-- the law's loop, so far -/
noncomputable def lawJ (ns : List Int) (DL : List AV) (T : List Nat) (D D' : Addr) (E0 : List AV) (i : Nat) (σ : St) : Prop := ∃ ds pt pl sg, (mend (T.take i)).foldl emit ([], []) = (ds, pt) ∧ σ = ⟨[("script", some (.obj (intsP ns))), ("text", some (.str T)), ("due", some (.ref D')), ("part", some (.str pt)), ("line", some (.int (1 + (mend (T.take i)).count 10))), ("column", some (.int (colF 0 (mend (T.take i))))), ("place", pl), ("sign", sg), ("t", none)],
        [(D', AO.list (E0 ++ ds)), (D, AO.list DL)]⟩
theorem lawJ_mk {ns : List Int} {DL : List AV} {T : List Nat} {D D' : Addr} {E0 ds ed : List AV} {pt pt' : List Nat} {ln co : Int} {pl sg : Option AV} {i : Nat} (hf : (mend (T.take i)).foldl emit ([], []) = (ds, pt)) (he : ed = E0 ++ ds) (hp : pt' = pt) (hl : ln = 1 + (mend (T.take i)).count 10) (hc : co = colF 0 (mend (T.take i))) :
    lawJ ns DL T D D' E0 i ⟨[("script", some (.obj (intsP ns))), ("text", some (.str T)), ("due", some (.ref D')), ("part", some (.str pt')), ("line", some (.int ln)), ("column", some (.int co)), ("place", pl), ("sign", sg), ("t", none)],
        [(D', AO.list ed), (D, AO.list DL)]⟩ := ⟨ds, pt, pl, sg, hf, by subst he hl hc hp; rfl⟩
theorem fold_snoc {N : List Nat} {c : Nat} {ds : List AV} {pt : List Nat} (h : N.foldl emit ([], []) = (ds, pt)) : (N ++ [c]).foldl emit ([], []) = emit (ds, pt) c := by rw [List.foldl_append, h]; rfl
theorem fold_snoc1 {N : List Nat} {c : Nat} {ds : List AV} {pt : List Nat} (h : N.foldl emit ([], []) = (ds, pt)) (hc : c ≠ 0) : (N ++ [c]).foldl emit ([], []) = (ds, pt ++ [c]) := by rw [fold_snoc h]; unfold emit; rw [if_neg hc]
theorem fold_snoc0 {N : List Nat} {c : Nat} {ds : List AV} {pt : List Nat} (h : N.foldl emit ([], []) = (ds, pt)) (hc : c = 0) : (N ++ [c]).foldl emit ([], []) = (ds ++ (part1 pt ++ [kErr', kCh [65533]]), []) := by rw [fold_snoc h]; unfold emit; rw [if_pos hc]
theorem col_snoc (N : List Nat) (c : Nat) : colF 0 (N ++ [c]) = if c = 10 then 0 else colF 0 N + 1 := by unfold colF; rw [List.foldl_append]; rfl
theorem cnt_snoc (N : List Nat) (c : Nat) : (((N ++ [c]).count 10 : Nat) : Int) = N.count 10 + if c = 10 then 1 else 0 := by
  rw [List.count_append]
  by_cases h : c = 10
  · subst h; simp
  · simp [h]
set_option maxHeartbeats 8000000 in
theorem c_law : LawHolds := by
  intro B hB ns hns
  refine C_go ["script"] ["text", "due", "part", "line", "column", "place", "sign", "t"] (by k_offL) (by k_clsL) (.one fun _ => rfl) fun L => ?_
  kas_types
  refine g_comp ["n"] (fun i l objs => l = ((ns.take 24).take i).map (fun n => AV.str (piece n)) ∧ objs = []) ?_
  refine g_sliceInts ?_
  kas_types
  refine ⟨ns, 24, rfl, rfl, by decide, by omega, fun v => ?_⟩
  refine ⟨_, _, It_lst, ⟨rfl, rfl⟩, fun i hi C ys objs D a p v => ?_, fun ys objs D => ?_⟩
  · rintro ⟨rfl, rfl⟩
    have hi' : i < (ns.take 24).length := by simpa using hi
    obtain ⟨k, hk, hk'⟩ : ∃ k, ((List.take (Int.toNat 24) ns).map AV.int).getD i .any = .int k ∧ (ns.take 24).take (i + 1) = (ns.take 24).take i ++ [k] := by
      refine ⟨(ns.take 24)[i], ?_, ?_⟩
      · rw [List.getD_eq_getElem?_getD, List.getElem?_map, List.getElem?_eq_getElem (show i < (List.take (Int.toNat 24) ns).length from hi')]; rfl
      · rw [List.take_add_one, List.getElem?_eq_getElem hi']; rfl
    rw [hk]
    dsimp only [bare, List.map]
    kas_types
    refine U_lst (j := (k.fmod 16).toNat) (d := .str (piece k)) (by k_ownIn) (by k_ownIn) (Int.fmod_nonneg_of_pos k (by decide)) rfl (piece_get k) (by decide) ?_
    kas_types
    exact ⟨_, _, rfl, by simp; omega, by rw [hk', List.map_append]; rfl, rfl⟩
  · rintro ⟨rfl, rfl⟩
    have htk : List.take (List.map AV.int (List.take (Int.toNat 24) ns)).length (List.take 24 ns) = List.take 24 ns := List.take_of_length_le (by simp)
    rw [htk]
    have hlen : ((ns.take 24).map piece).flatten.length ≤ 288 := by have := flat_len (ns.take 24); simp at this ⊢; omega
    have hok : ∀ c ∈ ((ns.take 24).map piece).flatten, okSign c = true := fun c hc => by
      obtain ⟨x, hx, hc⟩ := List.mem_flatten.mp hc
      obtain ⟨k, _, rfl⟩ := List.mem_map.mp hx
      exact piece_ok k c hc
    kas_types
    refine B_glue (ms := (ns.take 24).map piece) (by k_ownIn) (by k_ownIn) (by k_ownIn) (texts_map piece _) (by omega) ?_
    generalize ((ns.take 24).map piece).flatten = T at hlen hok ⊢
    generalize List.map (fun n => AV.str (piece n)) (List.take 24 ns) = DL
    kas_types
    refine g_assignComp ["sign"] (fun i l objs => l = ((T.take i).filter fun c => decide ([c] ∈ faulty)).map (fun _ => kErr') ∧ objs = [(D, AO.list DL)]) ?_
    kas_types
    refine ⟨_, _, It_str, ⟨rfl, rfl⟩, fun i hi C ys objs D' a p v => ?_, fun ys objs D' => ?_⟩
    · rintro ⟨rfl, rfl⟩
      have hT : T.take (i + 1) = T.take i ++ [T.getD i 0] := by rw [List.take_add_one, List.getD_eq_getElem?_getD, List.getElem?_eq_getElem hi]; rfl
      dsimp only [bare, List.map]
      kas_types
      refine Br_of (fun h => ?_) fun h => ?_
      · have h' : decide ([T.getD i 0] ∈ faulty) = true := h
        kas_types
        refine ⟨_, _, rfl, ?_, ?_, rfl⟩
        · rw [List.length_map]
          have := List.length_filter_le (fun c => decide ([c] ∈ faulty)) (T.take i)
          rw [List.length_take] at this
          omega
        · rw [hT, List.filter_append, List.map_append, List.filter_cons, if_pos h']; rfl
      · have h' : ¬ decide ([T.getD i 0] ∈ faulty) = true := by intro q; exact absurd (show decide ([T.getD i 0] ∈ faulty) = false from h) (by rw [q]; decide)
        exact ⟨_, _, rfl, by rw [hT, List.filter_append, List.map_append, List.filter_cons, if_neg h']; simp, rfl⟩
    · rintro ⟨rfl, rfl⟩
      rw [List.take_length]
      have hE : ((T.filter fun c => decide ([c] ∈ faulty)).map fun _ => kErr').length ≤ 288 := by
        rw [List.length_map]; exact Nat.le_trans (List.length_filter_le _ _) hlen
      have hE' : ((T.filter fun c => decide ([c] ∈ faulty)).map fun _ => kErr') = (bads T).map eTok := by
        unfold bads
        rw [List.map_map]
        rw [List.filter_congr (q := fun (c : Nat) => inv (c : Int)) fun c hc => by
          have := hok c hc
          simp only [okSign, Bool.and_eq_true, beq_iff_eq] at this
          exact this.2.symm]
        rfl
      rw [hE'] at hE ⊢
      generalize hE0 : (bads T).map eTok = E0 at hE ⊢
      kas_types
      refine g_for (lawJ ns DL T D D' E0) ?_
      kas_types
      refine ⟨T.length, fun i => .int (0 + i), ?_, lawJ_mk (ds := []) (pt := []) rfl (by simp) rfl (by simp [mend]) (by simp [mend, colF]), ?_, fun i loc objs a p v hi => ?_⟩
      · rw [← Int.zero_add (T.length : Int)]
        exact It_range (by decide) (by decide) (by omega)
      · rintro σ ⟨ds, pt, pl, sgn, hf, rfl⟩
        rw [List.take_length] at hf ⊢
        have hel := emit_len (mend T) [] []
        rw [hf] at hel
        have hml := mend_len T
        have hp : pt.length ≤ 288 := by simp at hel; omega
        have hds : ds.length ≤ 864 := by simp at hel; omega
        have hed : (E0 ++ ds).length ≤ 2000 := by simp; omega
        have htk := emit_toks (mend T) [] []
        rw [hf, List.nil_append] at htk
        dsimp only at htk
        have hdue : E0 ++ (ds ++ part1 pt) = E0 ++ toksG [] (mend T) := by rw [htk]
        have hTurns : ∀ (st dx tx tdx er tk kdx lf qa : Addr), Turns B st dx tx tdx er tk kdx lf qa T (fun d _ => d) (AtEnd (mend T)) (T.length + 5) SS0 346 .none [] (E0 ++ toksG [] (mend T)) := fun st dx tx tdx er tk kdx lf qa => by
          rw [← hE0]
          exact turns_text hB (by omega) (fun z hz => by
            have := hok z hz
            simp only [okSign, Bool.and_eq_true, decide_eq_true_eq, Bool.not_eq_true'] at this
            refine ⟨this.1.1, fun q => ?_⟩
            have h2 := this.1.2
            simp [q.1, q.2] at h2) qa
        have hflat : (E0 ++ toksG [] (mend T)).all flatD = true := by rw [List.all_append, ← hE0, errs_flat, toks_flat]; rfl
        have hh : HaltHere := ⟨⟩
        kas_types
        clear hh
        refine s_cut (fun σ => σ = ⟨[("script", some (.obj (intsP ns))), ("text", some (.str T)), ("due", some (.ref D')), ("part", some (.str pt)), ("line", some (.int (1 + (mend T).count 10))), ("column", some (.int (colF 0 (mend T)))), ("place", pl), ("sign", sgn), ("t", none)],
          [(D', AO.list (E0 ++ toksG [] (mend T))), (D, AO.list DL)]⟩) (fun Ψ hΨ => ?_) ?_
        · refine g_if ?_
          kas_types
          refine Br_of (fun h5 => ?_) fun h5 => ?_
          · have hpt : pt ≠ [] := by simpa using h5
            kas_types
            rw [show E0 ++ ds ++ [kCh pt] = E0 ++ (ds ++ part1 pt) from by unfold part1; rw [if_neg hpt]; simp, hdue]
            exact hΨ _ rfl
          · have hpt : pt = [] := by simpa using h5
            kas_types
            rw [show E0 ++ ds = E0 ++ (ds ++ part1 pt) from by unfold part1; rw [if_pos hpt]; simp, hdue]
            exact hΨ _ rfl
        rintro _ rfl
        kas_types
        rename_i tk kdx st dx tx tdx er lf _ _ _
        refine g_compGen (m := 6) ["token"] (fun d => d) (YJt st dx tx tdx er tk kdx lf T fun d _ => d) (RJt st dx tx tdx er tk kdx lf T (AtEnd (mend T))) (E0 ++ toksG [] (mend T)) (by decide) ?_
        kas_types
        refine ⟨tk, oS st dx tx tdx er T SS0 [(tk, .inst 762 kdx (tkF0 st 346 tk lf .none))], [(D', AO.list (E0 ++ toksG [] (mend T))), (D, AO.list DL)], rfl, rfl, gw_iter hB (fun _ _ _ => rfl) (hTurns st dx tx tdx er tk kdx lf), ?_, ?_⟩
        · rintro H x d gobjs ys ⟨qa, q, f, cur, ks, rest, rfl, -⟩ C l objs D2 a p v ⟨rfl, hy, rfl⟩
          dsimp only [bare, List.map]
          kas_types
          refine ⟨_, _, rfl, ?_, rfl, rfl⟩
          have h1 : (toksG [] (mend T)).length ≤ 2000 := by rw [← htk]; unfold part1; split <;> simp <;> omega
          rw [List.length_append] at hy
          omega
        · rintro gobjs' D2 ⟨qa, ⟨c, i, pl', pc', buf, pp, es⟩, f, cur, ks, rest, ⟨hq1, hq2, hq3, hq4⟩, rfl⟩
          dsimp only at hq1 hq2 hq3 hq4
          subst hq1 hq2 hq3 hq4
          rw [List.map_id']
          dsimp only [tS, oS, sO, List.cons_append]
          kas_types
          refine O_eqDicts (l := E0 ++ toksG [] (mend T)) (by k_ownIn) (by k_ownIn) (by k_ownIn) (.tail _ (.tail _ (.tail _ (.tail _ (.tail _ (.tail _ (List.mem_append_right _ (.head _)))))))) hflat ?_
          kas_types
          refine W_callC (CallJ.second (c_position hB)) (by decide) rfl (by k_allIn) ?_
          rintro _ _ ⟨h1, h2⟩
          subst h1 h2
          kas_types
          rw [law_place]
      · rintro ⟨ds, pt, pl, sgn, hf, e⟩
        cases e
        have hT : T.take (i + 1) = T.take i ++ [T[i]] := by rw [List.take_add_one, List.getElem?_eq_getElem hi]; rfl
        have hms := mend_snoc (T.take i) T[i]
        rw [← hT] at hms
        have hl := at_nat hi
        dsimp only
        rw [Int.zero_add]
        have hel := emit_len (mend (T.take i)) [] []
        rw [hf] at hel
        have hml := mend_len (T.take i)
        rw [List.length_take] at hml
        have hp : pt.length ≤ 288 := by simp at hel; omega
        have hds : ds.length ≤ 864 := by simp at hel; omega
        have hed : (E0 ++ ds).length ≤ 2000 := by simp; omega
        kas_types
        clear hl
        have stepN : ∀ x, ¬ (T[i] = 10 ∧ (T.take i).getLast? = some 13) → cr1 T[i] = x → mend (T.take (i + 1)) = mend (T.take i) ++ [x] := fun x h e => by rw [hms, if_neg h, e]
        refine Br_of (fun h1 => ?_) fun h1 => ?_
        · have hc : T[i] = 10 := by simpa using h1
          kas_types
          · omega
          kas_types
          · have := sl_le T none (some (i : Int)); omega
          kas_types
          rw [sl_tail (Nat.le_of_lt hi)]
          refine Br_of (fun h2 => ?_) fun h2 => ?_
          · have hl2 : (T.take i).getLast? = some 13 := by simpa using h2
            have hN : mend (T.take (i + 1)) = mend (T.take i) := by rw [hms, if_pos ⟨hc, hl2⟩]
            kas_types
            exact ⟨_, _, rfl, lawJ_mk (by rw [hN]; exact hf) rfl rfl (by rw [hN]) (by rw [hN])⟩
          · have hN := stepN 10 (fun q => by have := of_decide_eq_false h2; exact this q.2) (by rw [hc]; rfl)
            kas_types
            refine Br_yes (by rw [hc]; decide) ?_
            kas_types
            exact ⟨_, _, rfl, lawJ_mk (by rw [hN]; exact fold_snoc1 hf (by decide)) rfl rfl (by rw [hN, cnt_snoc]; simp; omega) (by rw [hN, col_snoc]; rfl)⟩
        · have hc : T[i] ≠ 10 := by simpa using h1
          have hnn : ¬ (T[i] = 10 ∧ (T.take i).getLast? = some 13) := fun q => hc q.1
          kas_types
          refine Br_of (fun h3 => ?_) fun h3 => ?_
          · have hc3 : T[i] = 13 := by
              have : [T[i]] ∈ [[13], [10]] := of_decide_eq_true h3
              simp at this; omega
            have hN := stepN 10 hnn (by rw [hc3]; rfl)
            kas_types
            exact ⟨_, _, rfl, lawJ_mk (by rw [hN]; exact fold_snoc1 hf (by decide)) rfl rfl (by rw [hN, cnt_snoc]; simp; omega) (by rw [hN, col_snoc]; rfl)⟩
          · have hc3 : T[i] ≠ 13 := by
              have : ¬ [T[i]] ∈ [[13], [10]] := of_decide_eq_false h3
              simp at this; omega
            have hN := stepN T[i] hnn (by unfold cr1; rw [if_neg hc3])
            kas_types
            refine Br_of (fun h4 => ?_) fun h4 => ?_
            · have hc4 : T[i] ≠ 0 := by simpa using h4
              kas_types
              exact ⟨_, _, rfl, lawJ_mk (by rw [hN]; exact fold_snoc1 hf hc4) rfl rfl (by rw [hN, cnt_snoc, if_neg hc]; omega) (by rw [hN, col_snoc, if_neg hc])⟩
            · have hc4 : T[i] = 0 := by simpa using h4
              kas_types
              refine Br_of (fun h5 => ?_) fun h5 => ?_
              · have hpt : pt ≠ [] := by simpa using h5
                kas_types
                exact ⟨_, _, rfl, lawJ_mk (by rw [hN]; exact fold_snoc0 hf hc4) (by unfold part1; rw [if_neg hpt]; simp) rfl (by rw [hN, cnt_snoc, if_neg hc]; omega) (by rw [hN, col_snoc, if_neg hc])⟩
              · have hpt : pt = [] := by simpa using h5
                kas_types
                exact ⟨_, _, rfl, lawJ_mk (by rw [hN]; exact fold_snoc0 hf hc4) (by unfold part1; rw [if_pos hpt]; simp) hpt (by rw [hN, cnt_snoc, if_neg hc]; omega) (by rw [hN, col_snoc, if_neg hc])⟩
theorem holds1 : PySem.Challenge.rw_te0034_01.Holds := cw c_law
end
end Mine

theorem PySem.Challenge.cw_te0034_01_holds : PySem.Challenge.rw_te0034_01.Holds := by
  exact Mine.holds1
