import PyProof.Rows.All
import Wide.All
import OpenK.AllK
import Wide.FinOn
import KE.KEqDict
import Lean
import PySem.Challenge.RW_te0034_03
open PySem PySem.W PySem.Calls PyProof.Rows
set_option Elab.async false
set_option maxRecDepth 100000
set_option maxHeartbeats 8000000
set_option linter.all false
set_option compiler.extract_closed false
set_option genSizeOf false
namespace Mine
theorem lB0 {a b : Nat} (h : Nat.ble a b = true) : a ≤ b := Nat.le_of_ble_eq_true h
theorem nT0 {a b c : Nat} (h : a ≤ b) (k : b ≤ c) : a ≤ c := Nat.le_trans h k
theorem mC0 {α : Type u} {a b : α} {l : List α} (h : a ∈ b :: l) : a = b ∨ a ∈ l := List.mem_cons.mp h
theorem nL0 {a b c : Nat} (h : a < b) (k : b ≤ c) : a < c := Nat.lt_of_lt_of_le h k
def ki (l : Array Lean.Syntax) : Lean.Syntax := .node .none `Lean.Parser.Tactic.tacticSeq #[.node .none `Lean.Parser.Tactic.tacticSeq1Indented #[.node .none `null l]]
def yx : Lean.Syntax := .node .none `Lean.Parser.Tactic.tacticRfl #[.atom .none "rfl"]
def qv : Lean.Syntax := .node .none `Lean.Parser.Term.hole #[.atom .none "_"]
def sIn (l : Array Lean.Syntax) : Lean.Syntax := .node .none `Lean.Parser.Tactic.intro #[.atom .none "intro", .node .none `null l]
def bR : Lean.Syntax := ki #[yx]
def bK : Lean.Syntax := ki #[.node .none `tacticKernel_rfl #[.atom .none "kernel_rfl"]]
def bW : Lean.Syntax := ki #[.node .none `Lean.Parser.Tactic.withUnfoldingAll #[.atom .none "with_unfolding_all", bR]]
def bI : Lean.Syntax := ki #[sIn #[qv], .atom .none ";", yx]
def bJ : Lean.Syntax := ki #[sIn #[qv, qv], .atom .none ";", yx]
section
variable {α : Type} {p : Program}
noncomputable section
theorem ku (t : Thread) : through t = (endAt 0 t).isSome := by
 cases t with
 | mk cur code pos st =>
  induction st using List.casesOn with
  | cons fr st => rfl
  | nil =>
   cases cur with
   | pure x => rcases x with _ | _ <;> rfl
   | _ => rfl
noncomputable abbrev nW := Flow × Shared × PySem.Code × PySem.Pos
noncomputable abbrev tp (X : Option nW) (o : Option Flow) (t : Thread) (s : Shared) : Option nW := Option.casesOn o X fun f => some (f, s, t.code, t.pos)
noncomputable abbrev rW (Y : Option Shared) (b : Bool) (s : Shared) : Option Shared := Bool.casesOn b Y (some s)
noncomputable abbrev uY (k : Bool) (X : Option α) : Option α := Bool.casesOn k none X
noncomputable abbrev v8 (x : Step) (S : Shared → Thread → Option α) : Option α := Step.casesOn x S fun _ _ => none
theorem qX {o : Option Flow} {b k : Bool} {x : Step} {S : Shared → Thread → Option nW} {T : Shared → Thread → Option Shared} {t : Thread} {s : Shared} {r : nW} (e : b = o.isSome) (ih : ∀ s t, S s t = some r → T s t = some r.2.1) :
 tp (uY k (v8 x S)) o t s = some r → rW (uY k (v8 x T)) b s = some r.2.1 := by
 subst e
 induction o using Option.casesOn with
 | some g => exact fun h => congrArg (fun z : nW => some z.2.1) (Option.some.inj h)
 | none =>
  induction k using Bool.casesOn with
  | false => exact nofun
  | true =>
   induction x using Step.casesOn with
   | halt => exact nofun
   | go s t => exact ih s t
theorem kZ {tb : String → Option Builtin} {w : World} {n₀ : Nat} {ann : Option Value} {r : nW} (n : Nat) : ∀ (s : Shared) (t : Thread), segRun tb p w n₀ ann 0 n s t = some r → topRun tb p w n₀ ann n s t = some r.2.1 := by
 induction n with
 | zero => exact fun _ _ h => nomatch h
 | succ n ih =>
  intro s t
  exact Eq.mp (by kernel_rfl) (qX (o := endAt 0 t) (b := through t) (k := stepOk n₀ ann t) (x := step (denote tb) p w s t) (s := s) (t := t) (ku t) ih)
noncomputable def jR (P : Params) : BT :=
 .node (boot_o_0 P) (.node (boot_o_1 P) (.node (boot_o_3 P) (.node (boot_o_7 P) .nil .nil) .nil) (.node (boot_o_5 P) (.node (boot_o_9 P) .nil .nil) .nil))
  (.node (boot_o_2 P) (.node (boot_o_4 P) (.node (boot_o_8 P) .nil .nil) .nil) (.node (boot_o_6 P) (.node (boot_o_10 P) .nil .nil) .nil))
theorem rE (P : Params) : absHeap (jR P) 11 {} = boot_heap P := by kernel_rfl
noncomputable abbrev kf (w : World) (os : OsState) : SharedT := ⟨jR w.params, 11, {}, #[], boot_drawn, boot_toks, os⟩
noncomputable def gm (p q : Program) (loose : List Str) (Xt : Shared → Bool) (Yf : Shared → α) (P : Params) (s : Shared) :=
 ((staticsOk (importedModules p.main.body) (boot_heap P) s.heap && namesBound p s.heap && gensDone s && laidKept (boot_heap P) s.heap), openSeen q loose (importedModules p.main.body) Xt true s, Yf s)
noncomputable abbrev pX (p : Program) (s s' : Shared) : Bool := staticsOk (importedModules p.main.body) s.heap s'.heap && namesBound p s'.heap && gensDone s' && laidKept s.heap s'.heap
noncomputable abbrev AQ (s' : Shared) (b : Bool) : Option Shared := Bool.casesOn b none (some s')
noncomputable abbrev vw (p : Program) (s : Shared) (o : Option Shared) : Option Shared := o.bind fun s' => AQ s' (pX p s s')
noncomputable abbrev zp (p : Program) (w : World) (N : Nat) (s : Shared) (z : Bool × Nat × Option Value) : Option Shared := Bool.casesOn z.1 none (vw p s (topRun treeTable p w z.2.1 z.2.2 N s (topStub p)))
theorem sa {w : World} {N : Nat} {s s' : Shared} {z : Nat × Option Value} (e : (s.heap.isNs mainGlobals && s.gens.size == 0, s.heap.objs.size, s.heap.nsMap mainGlobals "__annotations__") = (true, z)) (r : topRun treeTable p w z.1 z.2 N s (topStub p) = some s') (l : pX p s s' = true) : topFrom treeTable p w N s = some s' :=
 Eq.trans (by kernel_rfl) ((congrArg (zp p w N s) e).trans ((congrArg (vw p s) r).trans (congrArg (AQ s') l)))
theorem sk {q : Program} {loose : List Str} {Xt : Shared → Bool} {Yf : Shared → α} {Ya : World → α} {N M : Nat} {ann : Option Value}
 (e : opening p = plainProg p.main.scope.names) (hN : Nat.ble 600 N = true) (f : ∀ s, fenceModules? p s = some s)
 (size : ∀ w : World, ((boot_heap w.params).isNs mainGlobals && (#[] : Array GenState).size == 0, (boot_heap w.params).objs.size, (boot_heap w.params).nsMap mainGlobals "__annotations__") = (true, 11, ann))
 (run : ∀ w : World, (fun os => (segRunT treeTable p w 11 ann 0 M (kf w os) (topStub p)).map fun r => gm p q loose Xt Yf w.params r.2.1.abs) = fun _ => some (true, openGood q loose, Ya w))
 (le : Nat.ble M N = true) : LeftO p q loose Xt Yf Ya N := fun w => by
 obtain ⟨s, e, e'⟩ := Option.map_eq_some_iff.mp (boot_open e hN f w)
 have es : s = ⟨boot_heap w.params, #[], boot_drawn, boot_toks, s.os⟩ := congrArg (fun z => Shared.mk z.1 z.2.1 z.2.2.1 z.2.2.2 s.os) e'
 obtain ⟨r, hr, hl⟩ := Option.map_eq_some_iff.mp (congrFun (run w) s.os)
 have r1 := topRun_mono (N - M) _ _ _ _ (kZ _ _ _ (segRun_of hr))
 have r2 := (congr (congrArg (fun n s => topRun treeTable p w 11 ann n s (topStub p)) (Nat.add_sub_of_le (lB0 le)).symm) (es.trans (congrArg (fun h => Shared.mk h #[] boot_drawn boot_toks s.os) (rE w.params).symm))).trans r1
 have t := sa (p := p) (z := (11, ann)) ((congrArg (fun s : Shared => (s.heap.isNs mainGlobals && s.gens.size == 0, s.heap.objs.size, s.heap.nsMap mainGlobals "__annotations__")) es).trans (size w)) r2 ((congrArg (fun s' : Shared => pX p s' r.2.1.abs) es).trans (congrArg Prod.fst hl))
 exact (congrArg (Option.map _) ((congrArg (fun z : Option Shared => z.bind (topFrom treeTable p w N)) e).trans t)).trans (congrArg (fun z => some z.2) hl : some (gm p q loose Xt Yf w.params r.2.1.abs).2 = _)
end
end
section
noncomputable section
noncomputable abbrev pw : Program := PySem.Challenge.pw_te0034_03
noncomputable abbrev rw1 : OpenLaw := PySem.Challenge.rw_te0034_03
noncomputable def iG (i : Nat) : Stmt := pw.main.body.getD i (.Pass default)
noncomputable def rA (s : Stmt) : List Stmt := by
 cases s with
 | FunctionDef _ _ b => exact b
 | ClassDef _ _ _ b => exact b
 | _ => exact []
noncomputable def ym (s : Stmt) : Arguments := by
 cases s with
 | FunctionDef _ a => exact a
 | _ => exact ⟨[], [], none, [], [], none, []⟩
noncomputable def u7 (s : Stmt) : Scope := by
 cases s with
 | FunctionDef _ _ _ _ _ _ c => exact c
 | _ => exact default
noncomputable def cE (i j : Nat) : Stmt := (rA (iG i)).getD j (.Pass default)
noncomputable def z8 : Stmt := cE 13 0
noncomputable def zG : Stmt := cE 13 1
noncomputable def z5 : Stmt := iG 14
noncomputable def zV : Stmt := cE 15 1
noncomputable def xR : Stmt := cE 15 2
noncomputable def wy : Stmt := cE 15 3
noncomputable def vA : Stmt := cE 15 4
noncomputable def wl : Stmt := cE 15 5
noncomputable def wM : Stmt := cE 15 6
noncomputable def yt : Stmt := cE 15 7
noncomputable def xS : Stmt := cE 15 8
noncomputable def yA : Stmt := cE 15 9
noncomputable def wN : Stmt := cE 15 10
noncomputable def we : Stmt := cE 21 0
noncomputable def xr : Stmt := cE 21 1
noncomputable def yk : Stmt := cE 21 6
noncomputable def wG : Stmt := cE 21 13
noncomputable def wz : Stmt := cE 21 14
noncomputable def xX : Stmt := cE 21 48
noncomputable def vW : Stmt := cE 21 49
noncomputable def x8 : Stmt := cE 21 50
noncomputable def xq : Stmt := cE 21 51
noncomputable def wj : Stmt := cE 21 52
noncomputable def yg : Stmt := cE 21 53
noncomputable def vH : Stmt := cE 21 54
noncomputable def wX : Stmt := cE 21 55
noncomputable def wn : Stmt := iG 25
noncomputable def xE : Stmt := iG 26
noncomputable def xh : Stmt := iG 27
noncomputable def yy : Stmt := iG 28
noncomputable def vR : Stmt := iG 29
noncomputable def yi : Stmt := iG 30
noncomputable def wh : Stmt := iG 31
noncomputable def xj : Stmt := iG 32
noncomputable def sv1 (s : String) (t : Nat) : Value := .str (Str.ofString s) t
noncomputable def en1 (P : Params) (s : String) (t : Nat) (v : Value) : DictEntry := ⟨PyData.keyHash P (Str.ofString s), .str (Str.ofString s) t, v⟩
noncomputable abbrev od1 (l : List DictEntry) (n : Nat) : Obj := { cls := .type "dict", dict := none, data := .dict l.toArray n, slots := #[] }
noncomputable abbrev os1 (k : String) (l : List Value) : Obj := { cls := .type k, dict := none, data := .seq l.toArray 0, slots := #[] }
noncomputable def iv1 (n : Nat) : Value := .int n 0
noncomputable def oc1 (nm qn : String) (t ln ac fl : Nat) (r1 r2 r3 r4 r5 r6 : Value) (x : Nat) : Obj := { cls := .type "code", dict := none, data := .fields #[sv1 nm t, sv1 qn (t + 1), sv1 "/claim/cut.py" (t + 2), iv1 ln, iv1 ac, iv1 0, iv1 0, iv1 fl, r1, .bool true, iv1 181, r2, r3, r4, r5, r6, iv1 x, iv1 ln, sv1 "/claim/cut.py" (x + 1)], slots := #[] }
noncomputable def of1 (st : Stmt) (nm qn : String) (df md : Value) (c : Addr) : Obj := { cls := .type "function", dict := none, data := .func { name := Str.ofString nm, qualname := Str.ofString qn, params := ym st, body := .stmts (rA st), scope := u7 st, globals := 3, closure := [], defaults := df, kwdefaults := .none, doc := .none, pyModule := md, annotations := none, code := .ref c, closureTuple := .none, builtins := 0 }, slots := #[] }
noncomputable def fn1 (a : Addr) (st : Stmt) (nm qn : String) (t ln ac fl x : Nat) (df md : Value) (r : Frag) : Frag := (a, oc1 nm qn t ln ac fl (.ref (a - 5)) (.ref (a - 4)) .none (.ref (a - 3)) (.ref (a - 2)) (.ref (a - 1)) x) :: (a + 1, of1 st nm qn df md a) :: r
noncomputable def ot1 (a ns m t1 t2 : Addr) (nm : String) : Obj := { cls := .type "type", dict := none, data := .cls { name := Str.ofString nm, bases := [.type "object"], mro := [.ref a, .type "object"], ns := ns, qualname := Str.ofString nm, hasDict := true, slotNames := [], subclasses := [], abstract := false, collection := none, hasDel := false }, slots := #[some (.ref m), none, some (sv1 nm t1), some (sv1 nm t2), some (.builtin "object.__new__"), some (.bool true)] }
noncomputable def md0 : Value := sv1 "html5lib._inputstream" 564
noncomputable def md1 : Value := sv1 "html5lib._tokenizer" 827
noncomputable def md2 : Value := sv1 "law_te0034_03" 1444
noncomputable def eC (P : Params) : Frag :=
 (3, od1 [en1 P "__name__" 165 (sv1 "law_te0034_03" 1444), en1 P "__doc__" 166 .none, en1 P "__package__" 167 .none, en1 P "__loader__" 168 (.builtin "__main__.__loader__#opaque"), en1 P "__spec__" 169 .none, en1 P "__annotations__" 170 (.ref 6), en1 P "__builtins__" 171 (.ref 4), en1 P "__file__" 173 (sv1 "/claim/cut.py" 172), en1 P "__cached__" 174 .none, en1 P "_wall" 193 (.ref 21), en1 P "EOF" 196 .none, en1 P "spaceCharacters" 202 (.ref 22), en1 P "asciiLetters" 256 (.ref 27), en1 P "digits" 268 (.ref 32), en1 P "hexDigits" 292 (.ref 37), en1 P "asciiLower" 298 (.ref 42), en1 P "entities" 428 (.ref 43), en1 P "replacementCharacters" 531 (.ref 46), en1 P "tokenTypes" 556 (.ref 48), en1 P "tagTokenTypes" 563 (.ref 49), en1 P "Text" 604 (.ref 73), en1 P "_is_invalid" 611 (.ref 84), en1 P "HTMLUnicodeInputStream" 737 (.ref 166), en1 P "bisect_left" 751 (.ref 178), en1 P "Trie" 826 (.ref 230), en1 P "entitiesTrie" 843 (.ref 236), en1 P "HTMLTokenizer" 1443 (.ref 762), en1 P "_law_PIECES" 1470 (.ref 767), en1 P "_law_BLANK" 1472 (sv1 "\t\n " 1471), en1 P "_law_TAILS" 1478 (.ref 774), en1 P "_law_until" 1487 (.ref 781), en1 P "_law_marks" 1498 (.ref 788), en1 P "_law_token" 1506 (.ref 795), en1 P "_law_note" 1512 (.ref 800), en1 P "_law_odd" 1524 (.ref 807), en1 P "_law_read" 1539 (.ref 814), en1 P "law" 1545 (.ref 819)] 37) ::
 (22, os1 "tuple" [sv1 "\t" 197, sv1 "\n" 198, sv1 "\x0c" 199, sv1 " " 200, sv1 "\r" 201]) ::
 (27, os1 "tuple" [sv1 "a" 204, sv1 "b" 205, sv1 "c" 206, sv1 "d" 207, sv1 "e" 208, sv1 "f" 209, sv1 "g" 210, sv1 "h" 211, sv1 "i" 212, sv1 "j" 213, sv1 "k" 214, sv1 "l" 215, sv1 "m" 216, sv1 "n" 217, sv1 "o" 218, sv1 "p" 219, sv1 "q" 220, sv1 "r" 221, sv1 "s" 222, sv1 "t" 223, sv1 "u" 224, sv1 "v" 225, sv1 "w" 226, sv1 "x" 227, sv1 "y" 228, sv1 "z" 229, sv1 "A" 230, sv1 "B" 231, sv1 "C" 232, sv1 "D" 233, sv1 "E" 234, sv1 "F" 235, sv1 "G" 236, sv1 "H" 237, sv1 "I" 238, sv1 "J" 239, sv1 "K" 240, sv1 "L" 241, sv1 "M" 242, sv1 "N" 243, sv1 "O" 244, sv1 "P" 245, sv1 "Q" 246, sv1 "R" 247, sv1 "S" 248, sv1 "T" 249, sv1 "U" 250, sv1 "V" 251, sv1 "W" 252, sv1 "X" 253, sv1 "Y" 254, sv1 "Z" 255]) ::
 (48, od1 [en1 P "Doctype" 532 (.int 0 533), en1 P "Characters" 534 (.int 1 535), en1 P "SpaceCharacters" 536 (.int 2 537), en1 P "StartTag" 538 (.int 3 539), en1 P "EndTag" 540 (.int 4 541), en1 P "EmptyTag" 542 (.int 5 543), en1 P "Comment" 544 (.int 6 545), en1 P "ParseError" 546 (.int 7 547)] 8) ::
 fn1 62 z8 "__init__" "Text.__init__" 578 19 2 3 583 .none md0 (
 fn1 69 zG "read" "Text.read" 586 23 2 3 592 .none md0 (
 (72, od1 [en1 P "__module__" 573 (sv1 "html5lib._inputstream" 564), en1 P "__firstlineno__" 577 (.int 17 576), en1 P "__init__" 585 (.ref 63), en1 P "read" 594 (.ref 70), en1 P "__static_attributes__" 597 (.ref 71), en1 P "__dict__" 599 (.ref 74), en1 P "__weakref__" 601 (.ref 75), en1 P "__doc__" 602 .none] 4) ::
 (73, ot1 73 72 50 566 574 "Text") ::
 fn1 83 z5 "_is_invalid" "_is_invalid" 605 27 1 3 609 .none md0 (
 fn1 97 zV "__init__" "HTMLUnicodeInputStream.__init__" 626 32 2 3 631 .none md0 (
 fn1 104 xR "reset" "HTMLUnicodeInputStream.reset" 634 38 1 3 638 .none md0 (
 fn1 111 wy "openStream" "HTMLUnicodeInputStream.openStream" 641 47 2 3 647 .none md0 (
 fn1 118 vA "_position" "HTMLUnicodeInputStream._position" 650 51 2 3 660 .none md0 (
 fn1 125 wl "position" "HTMLUnicodeInputStream.position" 663 62 1 3 669 .none md0 (
 fn1 132 wM "char" "HTMLUnicodeInputStream.char" 672 66 1 3 678 .none md0 (
 (134, os1 "tuple" [.none]) ::
 fn1 140 yt "readChunk" "HTMLUnicodeInputStream.readChunk" 681 75 2 3 688 (.ref 134) md0 (
 fn1 147 xS "characterErrorsUCS4" "HTMLUnicodeInputStream.characterErrorsUCS4" 691 101 2 3 697 .none md0 (
 (149, os1 "tuple" [.bool false]) ::
 fn1 155 yA "charsUntil" "HTMLUnicodeInputStream.charsUntil" 700 106 3 3 709 (.ref 149) md0 (
 fn1 162 wN "unget" "HTMLUnicodeInputStream.unget" 712 125 2 3 717 .none md0 (
 (165, od1 [en1 P "__module__" 619 (sv1 "html5lib._inputstream" 564), en1 P "__firstlineno__" 623 (.int 29 622), en1 P "_defaultChunkSize" 625 (.int 10240 624), en1 P "__init__" 633 (.ref 98), en1 P "reset" 640 (.ref 105), en1 P "openStream" 649 (.ref 112), en1 P "_position" 662 (.ref 119), en1 P "position" 671 (.ref 126), en1 P "char" 680 (.ref 133), en1 P "readChunk" 690 (.ref 141), en1 P "characterErrorsUCS4" 699 (.ref 148), en1 P "charsUntil" 711 (.ref 156), en1 P "unget" 719 (.ref 163), en1 P "__static_attributes__" 730 (.ref 164), en1 P "__dict__" 732 (.ref 167), en1 P "__weakref__" 734 (.ref 168), en1 P "__doc__" 735 .none] 4) ::
 (166, ot1 166 165 85 612 620 "HTMLUnicodeInputStream") ::
 (254, os1 "tuple" [.none]) ::
 fn1 260 we "__init__" "HTMLTokenizer.__init__" 856 184 3 3 862 (.ref 254) md1 (
 fn1 267 xr "__iter__" "HTMLTokenizer.__iter__" 865 193 1 35 869 .none md1 (
 fn1 303 yk "dataState" "HTMLTokenizer.dataState" 920 304 1 3 926 .none md1 (
 fn1 352 wG "tagOpenState" "HTMLTokenizer.tagOpenState" 971 342 1 3 976 .none md1 (
 fn1 359 wz "closeTagOpenState" "HTMLTokenizer.closeTagOpenState" 979 366 1 3 984 .none md1 (
 fn1 597 xX "bogusCommentState" "HTMLTokenizer.bogusCommentState" 1232 682 1 3 1237 .none md1 (
 fn1 604 vW "markupDeclarationOpenState" "HTMLTokenizer.markupDeclarationOpenState" 1240 690 1 3 1247 .none md1 (
 fn1 611 x8 "commentStartState" "HTMLTokenizer.commentStartState" 1250 715 1 3 1255 .none md1 (
 fn1 618 xq "commentStartDashState" "HTMLTokenizer.commentStartDashState" 1258 735 1 3 1263 .none md1 (
 fn1 625 wj "commentState" "HTMLTokenizer.commentState" 1266 755 1 3 1271 .none md1 (
 fn1 632 yg "commentEndDashState" "HTMLTokenizer.commentEndDashState" 1274 770 1 3 1279 .none md1 (
 fn1 639 vH "commentEndState" "HTMLTokenizer.commentEndState" 1282 787 1 3 1287 .none md1 (
 fn1 646 wX "commentEndBangState" "HTMLTokenizer.commentEndBangState" 1290 812 1 3 1295 .none md1 (
 (761, od1 [en1 P "__module__" 851 (sv1 "html5lib._tokenizer" 827), en1 P "__firstlineno__" 855 (.int 182 854), en1 P "__init__" 864 (.ref 261), en1 P "__iter__" 871 (.ref 268), en1 P "consumeNumberEntity" 886 (.ref 275), en1 P "consumeEntity" 901 (.ref 283), en1 P "processEntityInAttribute" 909 (.ref 290), en1 P "emitCurrentToken" 919 (.ref 297), en1 P "dataState" 928 (.ref 304), en1 P "entityDataState" 935 (.ref 311), en1 P "rcdataState" 942 (.ref 318), en1 P "characterReferenceInRcdata" 949 (.ref 325), en1 P "rawtextState" 956 (.ref 332), en1 P "scriptDataState" 963 (.ref 339), en1 P "plaintextState" 970 (.ref 346), en1 P "tagOpenState" 978 (.ref 353), en1 P "closeTagOpenState" 986 (.ref 360), en1 P "tagNameState" 994 (.ref 367), en1 P "rcdataLessThanSignState" 1001 (.ref 374), en1 P "rcdataEndTagOpenState" 1008 (.ref 381), en1 P "rcdataEndTagNameState" 1015 (.ref 388), en1 P "rawtextLessThanSignState" 1022 (.ref 395), en1 P "rawtextEndTagOpenState" 1029 (.ref 402), en1 P "rawtextEndTagNameState" 1036 (.ref 409), en1 P "scriptDataLessThanSignState" 1043 (.ref 416), en1 P "scriptDataEndTagOpenState" 1050 (.ref 423), en1 P "scriptDataEndTagNameState" 1057 (.ref 430), en1 P "scriptDataEscapeStartState" 1064 (.ref 437), en1 P "scriptDataEscapeStartDashState" 1071 (.ref 444), en1 P "scriptDataEscapedState" 1078 (.ref 451), en1 P "scriptDataEscapedDashState" 1085 (.ref 458), en1 P "scriptDataEscapedDashDashState" 1092 (.ref 465), en1 P "scriptDataEscapedLessThanSignState" 1099 (.ref 472), en1 P "scriptDataEscapedEndTagOpenState" 1106 (.ref 479), en1 P "scriptDataEscapedEndTagNameState" 1113 (.ref 486), en1 P "scriptDataDoubleEscapeStartState" 1120 (.ref 493), en1 P "scriptDataDoubleEscapedState" 1127 (.ref 500), en1 P "scriptDataDoubleEscapedDashState" 1134 (.ref 507), en1 P "scriptDataDoubleEscapedDashDashState" 1141 (.ref 514), en1 P "scriptDataDoubleEscapedLessThanSignState" 1148 (.ref 521), en1 P "scriptDataDoubleEscapeEndState" 1155 (.ref 528), en1 P "beforeAttributeNameState" 1163 (.ref 535), en1 P "attributeNameState" 1175 (.ref 542), en1 P "afterAttributeNameState" 1183 (.ref 549), en1 P "beforeAttributeValueState" 1191 (.ref 556), en1 P "attributeValueDoubleQuotedState" 1199 (.ref 563), en1 P "attributeValueSingleQuotedState" 1207 (.ref 570), en1 P "attributeValueUnQuotedState" 1215 (.ref 577), en1 P "afterAttributeValueState" 1223 (.ref 584), en1 P "selfClosingStartTagState" 1231 (.ref 591), en1 P "bogusCommentState" 1239 (.ref 598), en1 P "markupDeclarationOpenState" 1249 (.ref 605), en1 P "commentStartState" 1257 (.ref 612), en1 P "commentStartDashState" 1265 (.ref 619), en1 P "commentState" 1273 (.ref 626), en1 P "commentEndDashState" 1281 (.ref 633), en1 P "commentEndState" 1289 (.ref 640), en1 P "commentEndBangState" 1297 (.ref 647), en1 P "doctypeState" 1305 (.ref 654), en1 P "beforeDoctypeNameState" 1313 (.ref 661), en1 P "doctypeNameState" 1321 (.ref 668), en1 P "afterDoctypeNameState" 1331 (.ref 675), en1 P "afterDoctypePublicKeywordState" 1339 (.ref 682), en1 P "beforeDoctypePublicIdentifierState" 1347 (.ref 689), en1 P "doctypePublicIdentifierDoubleQuotedState" 1355 (.ref 696), en1 P "doctypePublicIdentifierSingleQuotedState" 1363 (.ref 703), en1 P "afterDoctypePublicIdentifierState" 1371 (.ref 710), en1 P "betweenDoctypePublicAndSystemIdentifiersState" 1379 (.ref 717), en1 P "afterDoctypeSystemKeywordState" 1387 (.ref 724), en1 P "beforeDoctypeSystemIdentifierState" 1395 (.ref 731), en1 P "doctypeSystemIdentifierDoubleQuotedState" 1403 (.ref 738), en1 P "doctypeSystemIdentifierSingleQuotedState" 1411 (.ref 745), en1 P "afterDoctypeSystemIdentifierState" 1419 (.ref 752), en1 P "bogusDoctypeState" 1427 (.ref 759), en1 P "__static_attributes__" 1436 (.ref 760), en1 P "__dict__" 1438 (.ref 763), en1 P "__weakref__" 1440 (.ref 764), en1 P "__doc__" 1441 .none] 4) ::
 (762, ot1 762 761 247 844 852 "HTMLTokenizer") ::
 (767, os1 "list" [sv1 "<!--" 1446, sv1 "-->" 1447, sv1 "-" 1448, sv1 "--" 1449, sv1 ">" 1450, sv1 "!" 1451, sv1 "<" 1452, sv1 "<!" 1453, sv1 " " 1454, sv1 "\n" 1455, sv1 "1" 1456, sv1 "--!" 1457, sv1 "</" 1458, sv1 "<?" 1459, sv1 "é" 1460, sv1 "/" 1461, sv1 "--!>" 1462, sv1 "?" 1463, sv1 "=" 1464, sv1 "\t" 1465, sv1 "->" 1466, sv1 "<>" 1467, sv1 "</>" 1468, sv1 "2" 1469]) ::
 fn1 773 wn "_law_TAILS" "_law_TAILS" 1473 1188 0 3 1476 .none md2 (
 fn1 780 xE "_law_until" "_law_until" 1479 1190 3 3 1485 .none md2 (
 fn1 787 xh "_law_marks" "_law_marks" 1488 1194 1 3 1496 .none md2 (
 fn1 794 yy "_law_token" "_law_token" 1499 1200 2 3 1504 .none md2 (
 (799, oc1 "_law_note" "_law_note" 1507 1202 3 3 (.ref 796) (.ref 797) .none .none .none (.ref 798) 1510) ::
 (800, of1 vR "_law_note" "_law_note" .none md2 799) ::
 fn1 806 yi "_law_odd" "_law_odd" 1513 1231 4 3 1522 .none md2 (
 fn1 813 wh "_law_read" "_law_read" 1525 1237 1 3 1537 .none md2 (
 (818, oc1 "law" "law" 1540 1275 1 3 (.ref 815) (.ref 816) .none .none .none (.ref 817) 1543) ::
 (819, of1 xj "law" "law" .none md2 818) ::
 []))))))))))))))))))))))))))))))))
noncomputable def vr : List Addr := [3, 22, 27, 48, 62, 63, 69, 70, 72, 73, 83, 84, 97, 98, 104, 105, 111, 112, 118, 119, 125, 126, 132, 133, 134, 140, 141, 147, 148, 149, 155, 156, 162, 163, 165, 166, 254, 260, 261, 267, 268, 303, 304, 352, 353, 359, 360, 597, 598, 604, 605, 611, 612, 618, 619, 625, 626, 632, 633, 639, 640, 646, 647, 761, 762, 767, 773, 774, 780, 781, 787, 788, 794, 795, 799, 800, 806, 807, 813, 814, 818, 819]
noncomputable def d8 : List Str := [Str.ofString "_wall", Str.ofString "EOF", Str.ofString "spaceCharacters", Str.ofString "asciiLetters", Str.ofString "digits", Str.ofString "hexDigits", Str.ofString "asciiLower", Str.ofString "entities", Str.ofString "replacementCharacters", Str.ofString "tokenTypes", Str.ofString "tagTokenTypes", Str.ofString "Text", Str.ofString "_is_invalid", Str.ofString "HTMLUnicodeInputStream", Str.ofString "bisect_left", Str.ofString "Trie", Str.ofString "entitiesTrie", Str.ofString "HTMLTokenizer", Str.ofString "_law_PIECES", Str.ofString "_law_BLANK", Str.ofString "_law_TAILS", Str.ofString "_law_until", Str.ofString "_law_marks", Str.ofString "_law_token", Str.ofString "_law_note", Str.ofString "_law_odd", Str.ofString "_law_read"]
noncomputable def bq : Program := PySem.W.view pw [32]
theorem A9 (P : Params) : vr = (eC P).map (·.1) := by kernel_rfl
noncomputable def bf : Hook := kHook eC vr A9
noncomputable abbrev j4 (s : Shared) : Bool := xlAt bq [] s && recOk (RowW.records (OpenRow.toRowW rw1.row)) s
end
end
section
theorem zA (w : World) : (fun os => (PySem.W.Fast.tw10110043849684766642 PySem.W.Fast.tw14364793385576792824 pw (w.withFollow "special-get-raises" false) 11 (some (.ref 6)) 0 8521 (kf (w.withFollow "special-get-raises" false) os) (topStub pw)).map fun r => gm pw bq d8 j4 bf.obs (w.withFollow "special-get-raises" false).params r.2.1.abs) = fun _ => some (true, openGood bq d8, bf.val (w.withFollow "special-get-raises" false)) := by kernel_rfl
theorem yU (w : World) : (fun os => (PySem.W.Fast.tw10110043849684766642 PySem.W.Fast.tw14364793385576792824 pw (w.withFollow "special-get-raises" true) 11 (some (.ref 6)) 0 8521 (kf (w.withFollow "special-get-raises" true) os) (topStub pw)).map fun r => gm pw bq d8 j4 bf.obs (w.withFollow "special-get-raises" true).params r.2.1.abs) = fun _ => some (true, openGood bq d8, bf.val (w.withFollow "special-get-raises" true)) := by kernel_rfl
end
section
theorem wF : namesResolve pw = true := by
 rw [PySem.W.Fast.te8377067652309620493]; kernel_rfl
theorem wC : noRoadLSs { strict := !(importedModules pw.main.body).all cThrough.contains, foot := none, bare := (["vars","dir","locals"] : List Str).filter (readsOut pw pw.main.body) } pw.main.body = true := by
 rw [PySem.W.Fast.te8326940854005059898]; kernel_rfl
theorem yE : (namesMeet pw pw.main.body fun _ n => attrL n) = true := by
 rw [PySem.W.Fast.te17119622794617984870]; kernel_rfl
theorem Av : looksOpen rw1.row.prog = true := by
 unfold looksOpen
 repeat' (with_reducible refine look_both ?_ ?_)
 · rw [PySem.W.Fast.te11788848310118352699]; kernel_rfl
 · kernel_rfl
 · exact wF
 · rw [PySem.W.Fast.te18344453789297297638]; kernel_rfl
 · exact wC
 · exact yE
theorem zd : rw1.wellSaid = true := by
 unfold OpenLaw.wellSaid OpenRow.wellSaid OpenRow.partSaid
 repeat' (with_reducible first | exact Av | refine look_both ?_ ?_)
 all_goals first
  | (rw [PySem.W.Fast.te17119622794617984870]; kernel_rfl)
  | (rw [PySem.W.Fast.te8326940854005059898]; kernel_rfl)
  | (rw [PySem.W.Fast.te8179353310426384613]; kernel_rfl)
  | (rw [PySem.W.Fast.te9558739934217749035]; kernel_rfl)
  | (rw [PySem.W.Fast.te16286561074155671207]; kernel_rfl)
  | (rw [PySem.W.Fast.te5318747976498570220]; kernel_rfl)
  | (rw [PySem.W.Fast.te18344453789297297638]; kernel_rfl)
  | (rw [PySem.W.Fast.te797321630700447069]; kernel_rfl)
  | (rw [PySem.W.Fast.te10501279942588096481]; kernel_rfl)
  | kernel_rfl
end
section
theorem tf (w : World) : (fun os => (segRunT treeTable pw w 11 (some (.ref 6)) 0 8521 (kf w os) (topStub pw)).map fun r => gm pw bq d8 j4 bf.obs w.params r.2.1.abs) = fun _ => some (true, openGood bq d8, bf.val w) := by
 rw [PySem.W.Fast.te10110043849684766642, PySem.W.Fast.te14364793385576792824]
 exact byRow2 "special-get-raises" (P := fun w => (fun os => (PySem.W.Fast.tw10110043849684766642 PySem.W.Fast.tw14364793385576792824 pw w 11 (some (.ref 6)) 0 8521 (kf w os) (topStub pw)).map fun r => gm pw bq d8 j4 bf.obs w.params r.2.1.abs) = fun _ => some (true, openGood bq d8, bf.val w)) zA yU w
theorem zt : opening pw = plainProg pw.main.scope.names := by kernel_rfl
theorem y8 (s : Shared) : fenceModules? pw s = some s := by kernel_rfl
theorem Ax (w : World) : ((boot_heap w.params).isNs mainGlobals && (#[] : Array GenState).size == 0, (boot_heap w.params).objs.size, (boot_heap w.params).nsMap mainGlobals "__annotations__") = (true, 11, some (.ref 6)) := by kernel_rfl
theorem zr : LeftO pw bq d8 j4 bf.obs bf.val 8521 := sk zt (by decide) y8 Ax tf (by decide)
theorem sN (h : ∀ d kwd, d.name = rw1.row.name → WalkO bq d8 (XL bq []) bf.says rw1.row.toRowW d kwd fun f vs => PySem.call f vs) : PySem.Challenge.rw_te0034_03.Holds := by
 refine holds_law zd fun said => ?_
 refine holds_open (q := bq) (loose := d8) (Xt := j4) (XP := XL bq []) (Yf := bf.obs) (Ya := bf.val) (YP := bf.says) (N := 8521) zr bf.of bf.keeps (fun s e => xl_of s (Bool.and_eq_true_iff.mp e).1) XL.keeps (by rfl) (by rfl) (by rfl) (fun s e => recFacts_of (Bool.and_eq_true_iff.mp e).2) ?d said ?e ?f ?hw (h _ _ (defOf_name (p := bq) (by rfl)))
 case d => rfl
 case e => decide +kernel
 case f => exact ⟨rfl, rfl, rfl, rfl, rfl, by decide +kernel⟩
 case hw => w_witness2
end
section
section
universe u0 u1 u2 u3 u4 u5
variable {α : Sort u0} {β : Sort u1} {γ : Sort u2} {δ : Sort u3} {ε : Sort u4} {ζ : Sort u5} {G : Prop}
theorem x03 {p q r : Prop} (h : p ∧ q ∧ r) (k : p → q → r → G) : G := k h.1 h.2.1 h.2.2
theorem x04 {p q r s : Prop} (h : p ∧ q ∧ r ∧ s) (k : p → q → r → s → G) : G := k h.1 h.2.1 h.2.2.1 h.2.2.2
theorem x12 {p q : α → Prop} (h : ∃ a, p a ∧ q a) (k : ∀ a, p a → q a → G) : G := h.elim fun a y0 => k a y0.1 y0.2
theorem x13 {p q r : α → Prop} (h : ∃ a, p a ∧ q a ∧ r a) (k : ∀ a, p a → q a → r a → G) : G := h.elim fun a y0 => k a y0.1 y0.2.1 y0.2.2
theorem x14 {p q r s : α → Prop} (h : ∃ a, p a ∧ q a ∧ r a ∧ s a) (k : ∀ a, p a → q a → r a → s a → G) : G := h.elim fun a y0 => k a y0.1 y0.2.1 y0.2.2.1 y0.2.2.2
theorem x21 {p : α → β → Prop} (h : ∃ a b, p a b) (k : ∀ a b, p a b → G) : G := h.elim fun a y0 => y0.elim fun b y1 => k a b y1
theorem x22 {p q : α → β → Prop} (h : ∃ a b, p a b ∧ q a b) (k : ∀ a b, p a b → q a b → G) : G := h.elim fun a y0 => y0.elim fun b y1 => k a b y1.1 y1.2
theorem x23 {p q r : α → β → Prop} (h : ∃ a b, p a b ∧ q a b ∧ r a b) (k : ∀ a b, p a b → q a b → r a b → G) : G := h.elim fun a y0 => y0.elim fun b y1 => k a b y1.1 y1.2.1 y1.2.2
theorem x24 {p q r s : α → β → Prop} (h : ∃ a b, p a b ∧ q a b ∧ r a b ∧ s a b) (k : ∀ a b, p a b → q a b → r a b → s a b → G) : G := h.elim fun a y0 => y0.elim fun b y1 => k a b y1.1 y1.2.1 y1.2.2.1 y1.2.2.2
theorem x25 {p q r s t : α → β → Prop} (h : ∃ a b, p a b ∧ q a b ∧ r a b ∧ s a b ∧ t a b) (k : ∀ a b, p a b → q a b → r a b → s a b → t a b → G) : G := h.elim fun a y0 => y0.elim fun b y1 => k a b y1.1 y1.2.1 y1.2.2.1 y1.2.2.2.1 y1.2.2.2.2
theorem x31 {p : α → β → γ → Prop} (h : ∃ a b c, p a b c) (k : ∀ a b c, p a b c → G) : G := h.elim fun a y0 => y0.elim fun b y1 => y1.elim fun c y2 => k a b c y2
theorem x32 {p q : α → β → γ → Prop} (h : ∃ a b c, p a b c ∧ q a b c) (k : ∀ a b c, p a b c → q a b c → G) : G := h.elim fun a y0 => y0.elim fun b y1 => y1.elim fun c y2 => k a b c y2.1 y2.2
theorem x33 {p q r : α → β → γ → Prop} (h : ∃ a b c, p a b c ∧ q a b c ∧ r a b c) (k : ∀ a b c, p a b c → q a b c → r a b c → G) : G := h.elim fun a y0 => y0.elim fun b y1 => y1.elim fun c y2 => k a b c y2.1 y2.2.1 y2.2.2
theorem x34 {p q r s : α → β → γ → Prop} (h : ∃ a b c, p a b c ∧ q a b c ∧ r a b c ∧ s a b c) (k : ∀ a b c, p a b c → q a b c → r a b c → s a b c → G) : G := h.elim fun a y0 => y0.elim fun b y1 => y1.elim fun c y2 => k a b c y2.1 y2.2.1 y2.2.2.1 y2.2.2.2
theorem x35 {p q r s t : α → β → γ → Prop} (h : ∃ a b c, p a b c ∧ q a b c ∧ r a b c ∧ s a b c ∧ t a b c) (k : ∀ a b c, p a b c → q a b c → r a b c → s a b c → t a b c → G) : G := h.elim fun a y0 => y0.elim fun b y1 => y1.elim fun c y2 => k a b c y2.1 y2.2.1 y2.2.2.1 y2.2.2.2.1 y2.2.2.2.2
theorem x36 {p q r s t u : α → β → γ → Prop} (h : ∃ a b c, p a b c ∧ q a b c ∧ r a b c ∧ s a b c ∧ t a b c ∧ u a b c) (k : ∀ a b c, p a b c → q a b c → r a b c → s a b c → t a b c → u a b c → G) : G := h.elim fun a y0 => y0.elim fun b y1 => y1.elim fun c y2 => k a b c y2.1 y2.2.1 y2.2.2.1 y2.2.2.2.1 y2.2.2.2.2.1 y2.2.2.2.2.2
theorem x53 {p q r : α → β → γ → δ → ε → Prop} (h : ∃ a b c d e, p a b c d e ∧ q a b c d e ∧ r a b c d e) (k : ∀ a b c d e, p a b c d e → q a b c d e → r a b c d e → G) : G := h.elim fun a y0 => y0.elim fun b y1 => y1.elim fun c y2 => y2.elim fun d y3 => y3.elim fun e y4 => k a b c d e y4.1 y4.2.1 y4.2.2
theorem x54 {p q r s : α → β → γ → δ → ε → Prop} (h : ∃ a b c d e, p a b c d e ∧ q a b c d e ∧ r a b c d e ∧ s a b c d e) (k : ∀ a b c d e, p a b c d e → q a b c d e → r a b c d e → s a b c d e → G) : G := h.elim fun a y0 => y0.elim fun b y1 => y1.elim fun c y2 => y2.elim fun d y3 => y3.elim fun e y4 => k a b c d e y4.1 y4.2.1 y4.2.2.1 y4.2.2.2
theorem x61 {p : α → β → γ → δ → ε → ζ → Prop} (h : ∃ a b c d e f, p a b c d e f) (k : ∀ a b c d e f, p a b c d e f → G) : G := h.elim fun a y0 => y0.elim fun b y1 => y1.elim fun c y2 => y2.elim fun d y3 => y3.elim fun e y4 => y4.elim fun f y5 => k a b c d e f y5
theorem x62 {p q : α → β → γ → δ → ε → ζ → Prop} (h : ∃ a b c d e f, p a b c d e f ∧ q a b c d e f) (k : ∀ a b c d e f, p a b c d e f → q a b c d e f → G) : G := h.elim fun a y0 => y0.elim fun b y1 => y1.elim fun c y2 => y2.elim fun d y3 => y3.elim fun e y4 => y4.elim fun f y5 => k a b c d e f y5.1 y5.2
theorem x63 {p q r : α → β → γ → δ → ε → ζ → Prop} (h : ∃ a b c d e f, p a b c d e f ∧ q a b c d e f ∧ r a b c d e f) (k : ∀ a b c d e f, p a b c d e f → q a b c d e f → r a b c d e f → G) : G := h.elim fun a y0 => y0.elim fun b y1 => y1.elim fun c y2 => y2.elim fun d y3 => y3.elim fun e y4 => y4.elim fun f y5 => k a b c d e f y5.1 y5.2.1 y5.2.2
end
end
local macro_rules | `(tactic| omega) => `(tactic| first | assumption | exact lB0 rfl | exact nT0 ‹_› (lB0 rfl) | lia)
set_option bootstrap.genMatcherCode false
section
noncomputable abbrev S (l : List Nat) : Str := ⟨l.toArray⟩
inductive AV where
 | none | bool (b : Bool) | int (i : Int) | str (l : List Nat) | lit (v : Value) | ref (a : Addr)
 | tup (l : List AV) | lst (l : List AV) | dct (l : List (Str × AV)) | meth (f self : Addr) | obj (p : Obj → Prop) | any
noncomputable abbrev HL := List (Value × AV)
noncomputable abbrev FL := List (Str × AV)
noncomputable abbrev LL := List (Str × Option AV)
noncomputable abbrev Fz := Addr → Option Obj
noncomputable abbrev gY (vs : List Value) (n : Nat) : Obj := { cls := .type "tuple", data := .seq vs.toArray n }
noncomputable abbrev bE (vs : List Value) (n : Nat) : Obj := { cls := .type "list", data := .seq vs.toArray n }
mutual
inductive Is (P : Params) (F : Fz) : Value → AV → Prop
 | none : Is P F .none .none
 | bool (b) : Is P F (.bool b) (.bool b)
 | int (i t) : Is P F (.int i t) (.int i)
 | str (l t) : Is P F (.str (S l) t) (.str l)
 | lit (v) : Is P F v (.lit v)
 | ref (a) : Is P F (.ref a) (.ref a)
 | tup {a vs n l} : F a = some (gY vs n) → IsAll P F vs l → Is P F (.ref a) (.tup l)
 | lst {a vs n l} : F a = some (bE vs n) → IsAll P F vs l → Is P F (.ref a) (.lst l)
 | dct {a es n l} : F a = some (dictOf es n) → IsEnts P F es l → (l.map (·.1)).Nodup → (a == sysModules) = false → Is P F (.ref a) (.dct l)
 | meth {a f self} : F a = some (methodObj (.ref f) (.ref self)) → Is P F (.ref a) (.meth f self)
 | obj {a o p} : F a = some o → p o → Is P F (.ref a) (.obj p)
 | any (v) : Is P F v .any
inductive IsAll (P : Params) (F : Fz) : List Value → List AV → Prop
 | nil : IsAll P F [] []
 | cons {v d vs l} : Is P F v d → IsAll P F vs l → IsAll P F (v :: vs) (d :: l)
inductive IsEnts (P : Params) (F : Fz) : List DictEntry → FL → Prop
 | nil : IsEnts P F [] []
 | cons {x t v d es l} : Is P F v d → IsEnts P F es l → IsEnts P F (⟨PyData.keyHash P x, .str x t, v⟩ :: es) ((x, d) :: l)
end
noncomputable def Fz.le (F F' : Fz) : Prop := ∀ b o, F b = some o → F' b = some o
theorem Fz.le.refl (F : Fz) : F.le F := fun _ _ e => e
theorem Fz.le.trans {F G H : Fz} (a : F.le G) (b : G.le H) : F.le H := fun x o e => b x o (a x o e)
section
variable {P : Params} {F F' : Fz}
theorem Is.mono (k : F.le F') {v : Value} {d : AV} (h : Is P F v d) : Is P F' v d :=
 Is.rec (motive_1 := fun v d _ => Is P F' v d) (motive_2 := fun vs l _ => IsAll P F' vs l) (motive_3 := fun es l _ => IsEnts P F' es l) .none .bool .int .str .lit .ref (fun h _ r => .tup (k _ _ h) r) (fun h _ r => .lst (k _ _ h) r) (fun h _ n q r => .dct (k _ _ h) r n q) (fun h => .meth (k _ _ h)) (fun h q => .obj (k _ _ h) q) .any .nil (fun _ _ a b => .cons a b) .nil (fun _ _ a b => .cons a b) h
theorem IsAll.ind {C : List Value → List AV → Prop} (nil : C [] []) (cons : ∀ v d vs l, Is P F v d → IsAll P F vs l → C vs l → C (v :: vs) (d :: l)) {vs : List Value} {l : List AV} (h : IsAll P F vs l) : C vs l :=
 IsAll.rec (motive_1 := fun _ _ _ => True) (motive_2 := fun vs l _ => C vs l) (motive_3 := fun _ _ _ => True) trivial (fun _ => trivial) (fun _ _ => trivial) (fun _ _ => trivial) (fun _ => trivial) (fun _ => trivial) (fun _ _ _ => trivial) (fun _ _ _ => trivial) (fun _ _ _ _ _ => trivial) (fun _ => trivial) (fun _ _ => trivial) (fun _ => trivial) nil (fun h r _ c => cons _ _ _ _ h r c) trivial (fun _ _ _ _ => trivial) h
theorem IsEnts.ind {C : List DictEntry → FL → Prop} (nil : C [] []) (cons : ∀ x t v d es l, Is P F v d → IsEnts P F es l → C es l → C (⟨PyData.keyHash P x, .str x t, v⟩ :: es) ((x, d) :: l)) {es : List DictEntry} {l : FL} (h : IsEnts P F es l) : C es l :=
 IsEnts.rec (motive_1 := fun _ _ _ => True) (motive_2 := fun _ _ _ => True) (motive_3 := fun es l _ => C es l) trivial (fun _ => trivial) (fun _ _ => trivial) (fun _ _ => trivial) (fun _ => trivial) (fun _ => trivial) (fun _ _ _ => trivial) (fun _ _ _ => trivial) (fun _ _ _ _ _ => trivial) (fun _ => trivial) (fun _ _ => trivial) (fun _ => trivial) trivial (fun _ _ _ _ => trivial) nil (fun h r _ c => cons _ _ _ _ _ _ h r c) h
theorem IsAll.mono (k : F.le F') {vs : List Value} {l : List AV} (h : IsAll P F vs l) : IsAll P F' vs l := h.ind .nil fun _ _ _ _ q _ c => .cons (q.mono k) c
theorem IsEnts.mono (k : F.le F') {es : List DictEntry} {l : FL} (h : IsEnts P F es l) : IsEnts P F' es l := h.ind .nil fun _ _ _ _ _ _ q _ c => .cons (q.mono k) c
end
inductive AO where
 | inst (C dx : Addr) (fs : FL)
 | list (l : List AV)
 | dict (l : FL)
 | cell (v : Option AV)
 | is (p : Obj → Prop)
noncomputable abbrev OL := List (Addr × AO)
noncomputable def AO.more : AO → List Addr
 | .inst _ dx _ => [dx]
 | _ => []
noncomputable def ad : OL → List Addr
 | [] => []
 | p :: r => p.1 :: (p.2.more ++ ad r)
noncomputable def OAt (P : Params) (F : Fz) (h : Heap) (a : Addr) : AO → Prop
 | .inst C dx fs => h.get? a = some (instObj C dx) ∧ ∃ es n, h.get? dx = some (dictOf es n) ∧ IsEnts P F es fs
 | .list l => ∃ vs n, h.get? a = some (bE vs n) ∧ IsAll P F vs l
 | .dict l => (∃ es n, h.get? a = some (dictOf es n) ∧ IsEnts P F es l) ∧ (l.map (·.1)).Nodup ∧ (a == sysModules) = false
 | .cell none => h.IsCell a none
 | .cell (some d) => ∃ v, h.IsCell a (some v) ∧ Is P F v d
 | .is p => ∃ o, h.get? a = some o ∧ p o
structure St where
 loc : LL
 objs : OL
structure Holds (P : Params) (G : Heap) (L : Addr) (F : Fz) (H : HL) (σ : St) (h : Heap) : Prop where
 core : ∀ b o, G.get? b = some o → F b = some o
 sub : ∀ b o, F b = some o → h.get? b = some o
 loc : ∃ m, h.Ns L m ∧ ∀ x d, (x, some d) ∈ σ.loc → ∃ v, m x = some v ∧ Is P F v d
 names : (σ.loc.map (·.1)).Nodup
 objs : ∀ p ∈ σ.objs, OAt P F h p.1 p.2
 nodup : (L :: ad σ.objs).Nodup
 apart : ∀ b ∈ L :: ad σ.objs, F b = none
 held : ∀ p ∈ H, Is P F p.1 p.2
 low : G.objs.size ≤ L
structure bV (a b : Array GenState) : Prop where
 keep : ∀ (g : Nat) (x : GenState), a[g]? = some x → b[g]? = some x
 bare : ∀ (g : Nat) (x : GenState), b[g]? = some x → a[g]? = some x ∨ x.bare = true
theorem bV.refl (a : Array GenState) : bV a a := ⟨fun _ _ e => e, fun _ _ e => .inl e⟩
theorem bV.of {a b : Array GenState} (h : b = a) : bV a b := h ▸ .refl a
theorem bV.trans {a b c : Array GenState} (x : bV a b) (y : bV b c) : bV a c := ⟨fun g z e => y.keep g z (x.keep g z e), fun g z e => (y.bare g z e).elim (x.bare g z) .inr⟩
structure aM (O : List Addr) (F : Fz) (s : Shared) (O' : List Addr) (F' : Fz) (s' : Shared) : Prop where
 keep : ∀ b o, b ∉ O → s.heap.get? b = some o → s'.heap.get? b = some o
 own : ∀ b ∈ O', b ∈ O ∨ s.heap.get? b = none
 frz : ∀ b o, F' b = some o → F b = some o ∨ b ∈ O ∨ s.heap.get? b = none
 mono : F.le F'
 gens : bV s.gens s'.gens
 os : s'.os = s.os
theorem aM.refl (O : List Addr) (F : Fz) (s : Shared) : aM O F s O F s :=
 ⟨fun _ _ _ e => e, fun _ h => .inl h, fun _ _ e => .inl e, .refl F, .refl _, rfl⟩
theorem mt {h h' : Heap} (k : ∀ b o, h.get? b = some o → h'.get? b = some o) {b : Addr} (e : h'.get? b = none) : h.get? b = none :=
 Option.eq_none_iff_forall_ne_some.mpr fun o w => nomatch (k b o w).symm.trans e
theorem aM.trans {O F s O' F' s' O'' F'' s''} (a : aM O F s O' F' s') (b : aM O' F' s' O'' F'' s'') : aM O F s O'' F'' s'' :=
 have key : ∀ x, s'.heap.get? x = none → x ∈ O ∨ s.heap.get? x = none := fun x hx =>
  (Classical.em (x ∈ O)).imp_right fun hm => Option.eq_none_iff_forall_ne_some.mpr fun o w => nomatch (a.keep x o hm w).symm.trans hx
 ⟨fun x o hx e => b.keep x o (fun hm => (a.own x hm).elim hx fun h => nomatch h.symm.trans e) (a.keep x o hx e), fun x hx => (b.own x hx).elim (a.own x) (key x),
  fun x o e => (b.frz x o e).elim (a.frz x o) fun h => .inr (h.elim (a.own x) (key x)), a.mono.trans b.mono, a.gens.trans b.gens, b.os.trans a.os⟩
theorem aM.over {O O₁ O' : List Addr} {F F' : Fz} {s s₁ s' : Shared} (p : aM O₁ F s₁ O' F' s') (low : ∀ b ∈ O₁, b ∈ O ∨ s.heap.get? b = none) (k : ∀ b o, s.heap.get? b = some o → s₁.heap.get? b = some o) (g : bV s.gens s₁.gens) (os : s₁.os = s.os) : aM O F s O' F' s' :=
 ⟨fun b o hb e => p.keep b o (fun hm => (low b hm).elim hb fun z => nomatch z.symm.trans e) (k _ _ e), fun b hb => (p.own b hb).elim (low b) fun z => .inr (mt k z),
  fun b o e => (p.frz b o e).imp_right fun z => z.elim (low b) fun z => .inr (mt k z), p.mono, g.trans p.gens, p.os.trans os⟩
theorem aM.fewer {O O' O'' : List Addr} {F F' : Fz} {s s' : Shared} (p : aM O F s O' F' s') (h : ∀ b ∈ O'', b ∈ O') : aM O F s O'' F' s' := ⟨p.keep, fun b hb => p.own b (h b hb), p.frz, p.mono, p.gens, p.os⟩
theorem aH {objs : OL} {b : Addr} : b ∈ ad objs ↔ ∃ p ∈ objs, b = p.1 ∨ b ∈ p.2.more := by
 induction objs with
 | nil => simp [ad]
 | cons p r ih =>
  simp only [ad, List.mem_cons, List.mem_append, ih]
  constructor
  · rintro (h | h | ⟨q, hq, h⟩)
    · exact ⟨p, .inl rfl, .inl h⟩
    · exact ⟨p, .inl rfl, .inr h⟩
    · exact ⟨q, .inr hq, h⟩
  · intro z9; refine x12 z9 ?_; clear z9; rintro q (rfl | hq) h
    · rcases h with h | h
      · exact .inl h
      · exact .inr (.inl h)
    · exact .inr (.inr ⟨q, hq, h⟩)
theorem bb (a b : OL) : ad (a ++ b) = ad a ++ ad b := by
 induction a with
 | nil => rfl
 | cons p r ih => simp [ad, ih]
theorem OAt.there {P : Params} {F : Fz} {h : Heap} {a : Addr} {o : AO} (H : OAt P F h a o) : ∀ b, b = a ∨ b ∈ o.more → ∃ x, h.get? b = some x := by
 intro b hb
 cases o with
 | inst C dx fs =>
  obtain ⟨h1, es, n, h2, _⟩ := H
  rcases hb with rfl | hb
  · exact ⟨_, h1⟩
  · exact (List.mem_singleton.mp hb) ▸ (⟨_, h2⟩)
 | list l => refine x22 (H) ?_; clear H; rintro vs n h1 _; rcases hb with rfl | hb; exact ⟨_, h1⟩; contradiction
 | dict l => obtain ⟨⟨vs, n, h1, _⟩, _⟩ := H; rcases hb with rfl | hb; exact ⟨_, h1⟩; contradiction
 | cell v =>
  induction v using Option.casesOn with
  | none => refine x12 (H) ?_; clear H; rintro o h1 _; rcases hb with rfl | hb; exact ⟨_, h1⟩; contradiction
  | some d => refine x12 (H) ?_; clear H; rintro v ⟨o, h1, _⟩ _; rcases hb with rfl | hb; exact ⟨_, h1⟩; contradiction
 | is p => refine x12 (H) ?_; clear H; rintro o h1 _; rcases hb with rfl | hb; exact ⟨_, h1⟩; contradiction
theorem OAt.move {P : Params} {F F' : Fz} {h h' : Heap} {a : Addr} {o : AO} (H : OAt P F h a o) (k : F.le F') (e : ∀ b x, b = a ∨ b ∈ o.more → h.get? b = some x → h'.get? b = some x) : OAt P F' h' a o := by
 cases o with
 | inst C dx fs =>
  obtain ⟨h1, es, n, h2, h3⟩ := H
  exact ⟨e _ _ (.inl rfl) h1, es, n, e _ _ (.inr (List.mem_singleton.mpr rfl)) h2, h3.mono k⟩
 | list l => refine x22 (H) ?_; clear H; rintro vs n h1 h2; exact ⟨vs, n, e _ _ (.inl rfl) h1, h2.mono k⟩
 | dict l => obtain ⟨⟨vs, n, h1, h2⟩, h3⟩ := H; exact ⟨⟨vs, n, e _ _ (.inl rfl) h1, h2.mono k⟩, h3⟩
 | cell v =>
  induction v using Option.casesOn with
  | none => refine x12 (H) ?_; clear H; rintro o h1 h2; exact ⟨o, e _ _ (.inl rfl) h1, h2⟩
  | some d => refine x12 (H) ?_; clear H; rintro v ⟨o, h1, h3⟩ h2; exact ⟨v, ⟨o, e _ _ (.inl rfl) h1, h3⟩, h2.mono k⟩
 | is p => refine x12 (H) ?_; clear H; rintro o h1 h2; exact ⟨o, e _ _ (.inl rfl) h1, h2⟩
section
variable {P : Params} {G : Heap} {L : Addr} {F F' : Fz} {H : HL} {σ : St} {h h' : Heap}
theorem Holds.there (x : Holds P G L F H σ h) : ∀ b ∈ L :: ad σ.objs, ∃ o, h.get? b = some o := by
 intro b hb
 rcases mC0 hb with rfl | hb
 · obtain ⟨m, ⟨o, _, _, ho, _⟩, _⟩ := x.loc; exact ⟨o, ho⟩
 · obtain ⟨p, hp, hb⟩ := aH.mp hb
   exact (x.objs p hp).there b hb
theorem Holds.grow (x : Holds P G L F H σ h) (k : ∀ b o, h.get? b = some o → h'.get? b = some o) : Holds P G L F H σ h' :=
 ⟨x.core, fun b o e => k _ _ (x.sub b o e), let ⟨m, hm, r⟩ := x.loc; ⟨m, hm.keeps k, r⟩, x.names, fun p hp => (x.objs p hp).move (.refl F) fun b o _ e => k _ _ e, x.nodup, x.apart, x.held, x.low⟩
noncomputable def Fz.put (F : Fz) (a : Addr) (o : Obj) : Fz := fun b => if b = a then some o else F b
theorem Fz.put_self (F : Fz) (a : Addr) (o : Obj) : F.put a o a = some o := by simp [Fz.put]
theorem Fz.le_put {F : Fz} {a : Addr} {o : Obj} (n : F a = none) : F.le (F.put a o) := fun b o' e => by
 unfold Fz.put
 split
 · rename_i q; rw [q, n] at e; contradiction
 · exact e
theorem Holds.frozen (x : Holds P G L F H σ h) (k : ∀ b o, h.get? b = some o → h'.get? b = some o) {a : Addr} {o : Obj} (hn : h.get? a = none) (ha : h'.get? a = some o) :
 Holds P G L (F.put a o) H σ h' ∧ F.le (F.put a o) := by
 have hF : F a = none := by
  induction q : F a using Option.casesOn with
  | none => rfl
  | some o' => rw [x.sub _ _ q] at hn; contradiction
 have le := Fz.le_put (o := o) hF
 refine ⟨⟨fun b o' e => le _ _ (x.core b o' e), fun b o' e => ?_, ?_, x.names, fun p hp => (x.objs p hp).move le fun b o' _ e => k _ _ e, x.nodup, fun b hb => ?_, fun p hp => (x.held p hp).mono le, x.low⟩, le⟩
 · unfold Fz.put at e
   split at e
   · rename_i q; subst q; obtain rfl := Option.some.inj e; exact ha
   · exact k _ _ (x.sub _ _ e)
 · refine x12 (x.loc) ?_; rintro m hm r
   exact ⟨m, hm.keeps k, fun y d hy => let ⟨v, e, q⟩ := r y d hy; ⟨v, e, q.mono le⟩⟩
 · unfold Fz.put
   split
   · rename_i q
     obtain ⟨o', ho'⟩ := x.there b hb
     rw [q, hn] at ho'; contradiction
   · exact x.apart b hb
theorem Holds.weaken (x : Holds P G L F H σ h) {H' : HL} (e : ∀ p ∈ H', p ∈ H) : Holds P G L F H' σ h :=
 ⟨x.core, x.sub, x.loc, x.names, x.objs, x.nodup, x.apart, fun p hp => x.held p (e p hp), x.low⟩
theorem Holds.push (x : Holds P G L F H σ h) {v : Value} {d : AV} (q : Is P F v d) : Holds P G L F ((v, d) :: H) σ h :=
 ⟨x.core, x.sub, x.loc, x.names, x.objs, x.nodup, x.apart, fun p hp => by rcases mC0 hp with rfl | hp; exact q; exact x.held p hp, x.low⟩
theorem Holds.hold (x : Holds P G L F H σ h) {v : Value} {d : AV} (q : (v, d) ∈ H) : Is P F v d := x.held _ q
end
end
section
variable {A : Around} {F : Fz} {s s' : Shared} {Ψ : Fz → St → Prop} {vs : List Value} {v : Value} {d : AV}
structure ab where
 prog : Program
 w : World
 G : Heap
 K : Frag
 X : K.In G
 g : ∃ mg, G.Ns mainGlobals mg
 b : ∃ mb, G.Ns builtinsNs mb ∧ ∀ x, x ≠ ("__name__" : Str) → mb x = bootBuiltins x
 nolimit : G.NoLimit
noncomputable abbrev ab.M (B : ab) : Model := model B.prog B.w
noncomputable abbrev ab.P (B : ab) : Params := B.w.params
structure cA (n : Nat) (A : Around) : Prop where
 handled : A.handled = none
 depth : A.depth + n ≤ 900
 units : A.units + 8 * n ≤ 9000
theorem cA.le {n m : Nat} (h : cA n A) (e : m ≤ n) : cA m A := ⟨h.1, by have := h.2; omega, by have := h.3; omega⟩
noncomputable abbrev PV := Value → AV → St → Prop
inductive am (B : ab) (L : Addr) (H : HL) (σ : St) (F : Fz) (s s' : Shared) (Ψ : Fz → St → Prop) : Prop
 | mk (F' : Fz) (σ' : St) (x : Holds B.P B.G L F' H σ' s'.heap) (p : aM (L :: ad σ.objs) F s (L :: ad σ'.objs) F' s') (q : Ψ F' σ')
structure W {α : Type} (B : ab) (n : Nat) (L : Addr) (t : Sem α) (H : HL) (σ : St) (Ψ : α → Fz → St → Prop) : Prop where
 run : ∀ A F s, cA n A → Holds B.P B.G L F H σ s.heap → wpAny B.M A t (fun a s' => am B L H σ F s s' (Ψ a)) (fun _ _ => False) s
theorem ae {α : Type} {B : ab} {n : Nat} {L : Addr} {t : Sem α} {H : HL} {σ : St} {Ψ : α → Fz → St → Prop}
 (h : ∀ A F s, cA n A → Holds B.P B.G L F H σ s.heap → wpAny B.M A t (fun a s' => am B L H σ F s s' (Ψ a)) (fun _ _ => False) s) : W B n L t H σ Ψ := ⟨h⟩
noncomputable abbrev WV (B : ab) (n : Nat) (L : Addr) (t : Sem Value) (H : HL) (σ : St) (Φ : PV) : Prop :=
 W B n L t H σ (fun v F' σ' => ∃ d, Is B.P F' v d ∧ Φ v d σ')
noncomputable abbrev WB (B : ab) (n : Nat) (L : Addr) (t : Sem Bool) (H : HL) (σ : St) (Φ : Bool → St → Prop) : Prop :=
 W B n L t H σ (fun b _ σ' => Φ b σ')
noncomputable abbrev WU (B : ab) (n : Nat) (L : Addr) (t : Sem Unit) (H : HL) (σ : St) (Φ : St → Prop) : Prop :=
 W B n L t H σ (fun _ _ σ' => Φ σ')
inductive Fl where
 | next | brk | cont | ret (d : AV)
noncomputable def iz (P : Params) (F : Fz) : Flow → Fl → Prop
 | .next, .next => True
 | .brk, .brk => True
 | .cont, .cont => True
 | .ret v, .ret d => Is P F v d
 | _, _ => False
noncomputable abbrev WF (B : ab) (n : Nat) (L : Addr) (t : Sem Flow) (H : HL) (σ : St) (Φ : Fl → St → Prop) : Prop :=
 W B n L t H σ (fun f F' σ' => ∃ e, iz B.P F' f e ∧ Φ e σ')
noncomputable abbrev PF := Fl → St → Prop
section
variable {B : ab} {n : Nat} {L : Addr} {H : HL} {σ : St} {α β : Type}
theorem am.here (h : Holds B.P B.G L F H σ s.heap) (q : Ψ F σ) : am B L H σ F s s Ψ := ⟨F, σ, h, .refl _ _ _, q⟩
theorem am.mono {Ψ' : Fz → St → Prop} (h : am B L H σ F s s' Ψ) (k : ∀ F' σ', Ψ F' σ' → Ψ' F' σ') : am B L H σ F s s' Ψ' :=
 let ⟨F', σ', a, b, c⟩ := h; ⟨F', σ', a, b, k _ _ c⟩
theorem iS {t : Sem α} {Ψ : α → Fz → St → Prop} (h : ∀ A F s (Q : α → Shared → Prop), cA n A → Holds B.P B.G L F H σ s.heap → (∀ a s', am B L H σ F s s' (Ψ a) → Q a s') → wpAny B.M A t Q (fun _ _ => False) s) : W B n L t H σ Ψ :=
 ⟨fun A F s hA X => h A F s _ hA X fun _ _ z => z⟩
theorem W.then {t : Sem α} {Ψ : α → Fz → St → Prop} (w : W B n L t H σ Ψ) {Q : α → Shared → Prop} {E : Value → Shared → Prop} (hA : cA n A) (X : Holds B.P B.G L F H σ s.heap)
 (k : ∀ a s' F' σ', Holds B.P B.G L F' H σ' s'.heap → aM (L :: ad σ.objs) F s (L :: ad σ'.objs) F' s' → Ψ a F' σ' → Q a s') : wpAny B.M A t Q E s :=
 wpAny_mono (w.run A F s hA X) (fun a s' z => by cases z with | mk F' σ' x p q => exact k a s' F' σ' x p q) fun _ _ z => z.elim
theorem jA {t : Sem α} {Ψ Ψ' : α → Fz → St → Prop} (h : W B n L t H σ Ψ) (k : ∀ a F σ, Ψ a F σ → Ψ' a F σ) : W B n L t H σ Ψ' :=
 ae fun A F s hA x => wpAny_mono (h.run A F s hA x) (fun _ _ y => y.mono fun _ _ z => k _ _ _ z) fun _ _ y => y
theorem eT {t : Sem α} {k : α → Sem β} {Ψ₁ : α → Fz → St → Prop} {Ψ : β → Fz → St → Prop} (h : W B n L t H σ Ψ₁)
 (hk : ∀ a F σ₁, Ψ₁ a F σ₁ → ∃ H', (∀ p ∈ H, p ∈ H') ∧ (∀ p ∈ H', p ∈ H ∨ Is B.P F p.1 p.2) ∧ W B n L (k a) H' σ₁ Ψ) : W B n L (t >>= k) H σ Ψ := by
 refine ae fun A F s hA x => ?_
 refine wpAny_bind (wpAny_mono (h.run A F s hA x) (fun a s₁ y => ?_) fun _ _ y => y)
 obtain ⟨F₁, σ₁, x₁, p₁, q⟩ := y
 refine x13 (hk a F₁ σ₁ q) ?_; rintro H' e1 e2 w
 have x₁' : Holds B.P B.G L F₁ H' σ₁ s₁.heap := ⟨x₁.core, x₁.sub, x₁.loc, x₁.names, x₁.objs, x₁.nodup, x₁.apart, fun p hp => (e2 p hp).elim (x₁.held p) id, x₁.low⟩
 refine wpAny_mono (w.run A F₁ s₁ hA x₁') (fun b s₂ y => ?_) fun _ _ y => y
 obtain ⟨F₂, σ₂, x₂, p₂, q₂⟩ := y
 exact ⟨F₂, σ₂, x₂.weaken e1, p₁.trans p₂, q₂⟩
theorem aj {t : Sem Value} {k : Value → Sem β} {Ψ : β → Fz → St → Prop} (h : WV B n L t H σ (fun v d σ₁ => W B n L (k v) ((v, d) :: H) σ₁ Ψ)) : W B n L (t >>= k) H σ Ψ :=
 eT h fun a F σ₁ q => by
  refine x12 (q) ?_; clear q; rintro d hd w
  exact ⟨(a, d) :: H, fun p hp => .tail _ hp, fun p hp => by rcases mC0 hp with rfl | hp; exact .inr hd; exact .inl hp, w⟩
theorem cy {t : Sem Bool} {k : Bool → Sem β} {Ψ : β → Fz → St → Prop} (h : WB B n L t H σ (fun b σ₁ => W B n L (k b) H σ₁ Ψ)) : W B n L (t >>= k) H σ Ψ :=
 eT h fun a F σ₁ q => ⟨H, fun _ h => h, fun _ h => .inl h, q⟩
theorem bT {t : Sem Unit} {k : Unit → Sem β} {Ψ : β → Fz → St → Prop} (h : WU B n L t H σ (fun σ₁ => W B n L (k ()) H σ₁ Ψ)) : W B n L (t >>= k) H σ Ψ :=
 eT h fun a F σ₁ q => ⟨H, fun _ h => h, fun _ h => .inl h, q⟩
theorem ag {t : Sem α} {Ψ : α → Fz → St → Prop} (h : W B n L t H σ Ψ) : W B n L (holding vs t) H σ Ψ := ae fun A F s hA x => wpAny_holding (h.run A F s hA x)
theorem al {p : Pos} {k : Unit → Sem β} {Ψ : β → Fz → St → Prop} (h : W B n L (k ()) H σ Ψ) : W B n L (standAt p >>= k) H σ Ψ := ae fun A F s hA x => wpAny_bind (wpAny_standAt (h.run A F s hA x))
theorem am.toks {tk : Nat} (h : Holds B.P B.G L F H σ s.heap) (q : Ψ F σ) : am B L H σ F s { s with toks := tk } Ψ :=
 ⟨F, σ, h, ⟨fun _ _ _ e => e, fun _ h => .inl h, fun _ _ e => .inl e, .refl F, .refl _, rfl⟩, q⟩
theorem am.more (h : Holds B.P B.G L F H σ s.heap) (k : ∀ b o, s.heap.get? b = some o → s'.heap.get? b = some o) (g : s'.gens = s.gens) (o : s'.os = s.os) (q : Ψ F σ) : am B L H σ F s s' Ψ :=
 ⟨F, σ, h.grow k, ⟨fun b o _ e => k b o e, fun _ h => .inl h, fun _ _ e => .inl e, .refl F, .of g, o⟩, q⟩
theorem am.fresh (h : Holds B.P B.G L F H σ s.heap) {a : Addr} {o : Obj} (k : ∀ b o, s.heap.get? b = some o → s'.heap.get? b = some o)
 (hn : s.heap.get? a = none) (ha : s'.heap.get? a = some o) (g : s'.gens = s.gens) (os : s'.os = s.os) (q : F.le (F.put a o) → Ψ (F.put a o) σ) : am B L H σ F s s' Ψ := by
 obtain ⟨x, le⟩ := h.frozen k hn ha
 refine ⟨_, σ, x, ⟨fun b o _ e => k b o e, fun _ h => .inl h, fun b o' e => ?_, le, .of g, os⟩, q le⟩
 unfold Fz.put at e
 split at e
 · rename_i z; subst z; exact .inr (.inr hn)
 · exact .inl e
end
variable {A : Around} {F : Fz} {s s' : Shared} {Ψ : Fz → St → Prop} {vs : List Value} {v : Value} {d : AV}
section
variable {B : ab} {n : Nat} {L : Addr} {H : HL} {σ : St} {α β : Type}
theorem am.weaken {H' : HL} (y : am B L H' σ F s s' Ψ) (e : ∀ p ∈ H, p ∈ H') : am B L H σ F s s' Ψ :=
 let ⟨F', σ', a, b, c⟩ := y; ⟨F', σ', a.weaken e, b, c⟩
theorem am.then {t : Sem β} {s₁ : Shared} {Ψ₁ : Fz → St → Prop} {Ψ : β → Fz → St → Prop} (y : am B L H σ F s s₁ Ψ₁)
 (k : ∀ F₁ σ₁, Holds B.P B.G L F₁ H σ₁ s₁.heap → Ψ₁ F₁ σ₁ → wpAny B.M A t (fun b s₂ => am B L H σ₁ F₁ s₁ s₂ (Ψ b)) (fun _ _ => False) s₁) :
 wpAny B.M A t (fun b s₂ => am B L H σ F s s₂ (Ψ b)) (fun _ _ => False) s₁ := by
 obtain ⟨F₁, σ₁, x₁, p₁, q⟩ := y
 refine wpAny_mono (k F₁ σ₁ x₁ q) (fun b s₂ y => ?_) fun _ _ z => z
 obtain ⟨F₂, σ₂, x₂, p₂, q₂⟩ := y
 exact ⟨F₂, σ₂, x₂, p₁.trans p₂, q₂⟩
theorem am.fin {s₁ s₂ : Shared} {Ψ₁ : Fz → St → Prop} (y : am B L H σ F s s₁ Ψ₁)
 (k : ∀ F₁ σ₁, Holds B.P B.G L F₁ H σ₁ s₁.heap → Ψ₁ F₁ σ₁ → am B L H σ₁ F₁ s₁ s₂ Ψ) : am B L H σ F s s₂ Ψ := by
 obtain ⟨F₁, σ₁, x₁, p₁, q⟩ := y
 obtain ⟨F₂, σ₂, x₂, p₂, q₂⟩ := k F₁ σ₁ x₁ q
 exact ⟨F₂, σ₂, x₂, p₁.trans p₂, q₂⟩
theorem gS {t : Sem β} {Ψ : β → Fz → St → Prop} (w : W B n L t H σ Ψ) : W B n L t ((v, d) :: H) σ Ψ :=
 ae fun A F s hA x => by
  have y := w.run A F s hA (x.weaken fun _ hp => .tail _ hp)
  refine wpAny_mono y (fun b s' z => ?_) fun _ _ z => z
  obtain ⟨F', σ', a, b', c⟩ := z
  exact ⟨F', σ', ⟨a.core, a.sub, a.loc, a.names, a.objs, a.nodup, a.apart, fun p hp => (x.held p hp).mono b'.mono, x.low⟩, b', c⟩
end
variable {A : Around} {F : Fz} {s s' : Shared} {Ψ : Fz → St → Prop} {vs : List Value} {v : Value} {d : AV}
section
variable {B : ab} {n : Nat} {L : Addr} {H : HL} {σ : St} {α β : Type}
theorem af {t : Sem Value} {Φ Φ' : PV} (h : WV B n L t H σ Φ) (k : ∀ v d σ, Φ v d σ → Φ' v d σ) : WV B n L t H σ Φ' :=
 jA h fun _ _ _ ⟨d, hd, q⟩ => ⟨d, hd, k _ _ _ q⟩
theorem cw {t : Sem Bool} {Φ Φ' : Bool → St → Prop} (h : WB B n L t H σ Φ) (k : ∀ b σ, Φ b σ → Φ' b σ) : WB B n L t H σ Φ' := jA h fun _ _ _ q => k _ _ q
theorem di {t : Sem Unit} {Φ Φ' : St → Prop} (h : WU B n L t H σ Φ) (k : ∀ σ, Φ σ → Φ' σ) : WU B n L t H σ Φ' := jA h fun _ _ _ q => k _ q
theorem jJ {t : Sem Flow} {Φ Φ' : PF} (h : WF B n L t H σ Φ) (k : ∀ f σ, Φ f σ → Φ' f σ) : WF B n L t H σ Φ' := jA h fun _ _ _ ⟨d, hd, q⟩ => ⟨d, hd, k _ _ q⟩
theorem c0 {m : Sem Value} {Ψ : Value → Fz → St → Prop} (h : W B n L m H σ Ψ) : W B n L (operate vs m) H σ Ψ := ae fun A F s hA x => wpAny_operateT (h.run A F s hA x)
theorem iW {ks : List Value} {k : Unit → Sem β} {Ψ : β → Fz → St → Prop} (h : W B n L (k ()) H σ Ψ) : W B n L (release vs ks >>= k) H σ Ψ := ae fun A F s hA x => wpAny_bind (wpAny_release (h.run A F s hA x))
theorem dC {ks : List Value} {Φ : St → Prop} (h : Φ σ) : WU B n L (release vs ks) H σ Φ := ae fun A F s hA x => wpAny_release (.here x h)
theorem l5 {Φ : PV} (m : (v, d) ∈ H) (h : Φ v d σ) : WV B n L (pure v) H σ Φ := ae fun _ _ _ _ x => wpAny_pure (.here x ⟨d, x.hold m, h⟩)
theorem iP {a : α} {Φ : α → St → Prop} (h : Φ a σ) : W B n L (pure a) H σ (fun a _ σ => Φ a σ) := ae fun _ _ _ _ x => wpAny_pure (.here x h)
theorem fk {Φ : PF} (h : Φ .next σ) : WF B n L (pure .next) H σ Φ := ae fun _ _ _ _ x => wpAny_pure (.here x ⟨.next, trivial, h⟩)
theorem oe {H' : HL} {t : Sem α} {Ψ : α → Fz → St → Prop} (h : W B n L t H' σ Ψ) (e : ∀ p ∈ H', p ∈ H) : W B n L t H σ Ψ := ae fun A F s hA x => by
 refine wpAny_mono (h.run A F s hA (x.weaken e)) (fun b s' z => ?_) fun _ _ z => z
 obtain ⟨F', σ', a, b', c⟩ := z
 exact ⟨F', σ', ⟨a.core, a.sub, a.loc, a.names, a.objs, a.nodup, a.apart, fun p hp => (x.held p hp).mono b'.mono, x.low⟩, b', c⟩
end
end
section
variable {Φ : PV} {x l r e t : Expr} {v : Value} {rest : List Expr}
noncomputable def aW (B : ab) (v : Value) (d : AV) : Prop := ∀ F : Fz, (∀ b o, B.G.get? b = some o → F b = some o) → Is B.P F v d
theorem aW.lit (B : ab) (v : Value) : aW B v (.lit v) := fun _ _ => .lit v
section
variable {B : ab} {n : Nat} {L : Addr} {H : HL} {σ : St} {env : Env}
theorem xi {k pos} (h : Φ .none .none σ) : WV B n L (eval (.Constant .none k pos) env) H σ Φ :=
 ae fun _ _ _ _ x => wpAny_Constant_none (.here x ⟨_, .none, h⟩)
theorem yQ {b k pos} (h : Φ (.bool b) (.bool b) σ) : WV B n L (eval (.Constant (.bool b) k pos) env) H σ Φ :=
 ae fun _ _ _ _ x => wpAny_Constant_bool (.here x ⟨_, .bool b, h⟩)
theorem zx {i k pos} (h : ∀ v, Φ v (.int i) σ) : WV B n L (eval (.Constant (.int i) k pos) env) H σ Φ :=
 ae fun _ _ _ _ x => wpAny_Constant_int (.toks x ⟨_, .int i _, h _⟩)
theorem A2 {x : Str} {l : List Nat} {k pos} (e : x = S l) (h : ∀ v, Φ v (.str l) σ) : WV B n L (eval (.Constant (.str x) k pos) env) H σ Φ :=
 ae fun _ _ _ _ y => wpAny_Constant_str (.toks y ⟨_, e ▸ .str l _, h _⟩)
theorem mz {x : Str} {pos d} (hm : (x, some d) ∈ σ.loc) (h : ∀ v, Φ v d σ) (hk : autoParam (env.scope.kind = .function) bR) (hl : autoParam (env.kindOf x = some .local) bR)
 (hL : autoParam (env.locals = L) bR) (hd : (x == ("__debug__" : Str)) = false := by decide) : WV B n L (eval (.Name x pos) env) H σ Φ := by
 refine ae fun A F s hA X => ?_
 refine x12 (X.loc) ?_; rintro m hns r
 refine x12 (r x d hm) ?_; rintro v e q
 exact wpAny_Name (wpAny_loadName_local hk hl (hL.symm ▸ hns) e (.here X ⟨d, q, h v⟩)) hd
theorem k9 {x : Str} {pos} {d : AV} (e : nsIn B.K mainGlobals x = some (some v)) (c : aW B v d) (h : Φ v d σ) (hk : autoParam (env.scope.kind = .function) bR)
 (hl : autoParam (env.kindOf x = some .globalImplicit) bR) (hg : autoParam (env.globals = mainGlobals) bR) (hd : (x == ("__debug__" : Str)) = false := by decide) : WV B n L (eval (.Name x pos) env) H σ Φ := by
 refine ae fun A F s hA X => ?_
 obtain ⟨mg, g⟩ := B.g
 refine Calls.Name_function_global hk hl (Calls.loadGlobal_global (hg.symm ▸ (g.keeps fun b o e => X.sub _ _ (X.core b o e))) (mg_of B.X g e) ?_) hd
 exact .here X ⟨d, c F X.core, h⟩
theorem oo {x : Str} {pos} (e : nsIn B.K mainGlobals x = some none) (hb : bootBuiltins x = some v) (h : Φ v (.lit v) σ) (hk : autoParam (env.scope.kind = .function) bR)
 (hl : autoParam (env.kindOf x = some .globalImplicit) bR) (hg : autoParam (env.globals = mainGlobals) bR) (hbl : autoParam (env.builtins = builtinsNs) bR) (hn : x ≠ ("__name__" : Str) := by decide)
 (hd : (x == ("__debug__" : Str)) = false := by decide) : WV B n L (eval (.Name x pos) env) H σ Φ := by
 refine ae fun A F s hA X => ?_
 obtain ⟨mg, g⟩ := B.g
 refine x12 (B.b) ?_; rintro mb b hmb
 have up : ∀ b o, B.G.get? b = some o → s.heap.get? b = some o := fun b o e => X.sub _ _ (X.core b o e)
 refine Calls.Name_function_global hk hl (Calls.loadGlobal_builtin (hg.symm ▸ (g.keeps up)) (mg_none_of B.X g e) (hbl.symm ▸ (b.keeps up)) ((hmb x hn).trans hb) ?_) hd
 exact .here X ⟨_, .lit v, h⟩
theorem mX {op pos}
 (h : WV B n L (eval l env) H σ fun a x σ₁ => WV B n L (eval r env) ((a, x) :: H) σ₁ fun b y σ₂ => WV B n L (binaryOp op a b) ((b, y) :: (a, x) :: H) σ₂ Φ) :
 WV B n L (eval (.BinOp l op r pos) env) H σ Φ := by
 rw [eval_BinOp]
 exact aj (af h fun a x σ₁ w => aj (ag (af w fun b y σ₂ w₂ => al (c0 w₂))))
theorem iY {op pos}
 (h : WV B n L (eval l env) H σ fun a x σ₁ => WV B n L (eval r env) ((a, x) :: H) σ₁ fun b y σ₂ => WV B n L (compareOp op a b) ((b, y) :: (a, x) :: H) σ₂ Φ)
 (hm : autoParam (behindInMarks op r = false) bW) : WV B n L (eval (.Compare l [op] [r] pos) env) H σ Φ := by
 rw [eval_Compare1, markedBehindIn_of_false hm]
 exact aj (af h fun a x σ₁ w => aj (ag (af w fun b y σ₂ w₂ => al (c0 w₂))))
theorem fx {b : Bool} {Φ : Bool → St → Prop} (m : (v, .bool b) ∈ H) (h : Φ b σ) : WB B n L (truthy v) H σ Φ := ae fun A F s hA x => by
 have := x.hold m
 cases this
 exact wpAny_truthy_bool (.here x h)
theorem iM {op pos whole} {Φ : Bool → St → Prop}
 (h : WV B n L (eval l env) H σ fun a x σ₁ => WV B n L (eval r env) ((a, x) :: H) σ₁ fun b y σ₂ => WV B n L (compareOp op a b) ((b, y) :: (a, x) :: H) σ₂ fun _ z σ₃ => ∃ c, z = .bool c ∧ Φ c σ₃)
 (hm : autoParam (behindInMarks op r = false) bW) : WB B n L (isTrue (.Compare l [op] [r] pos) env whole) H σ Φ := by
 rw [isTrue_Compare1, markedBehindIn_of_false hm]
 exact aj (af h fun a x σ₁ w => aj (ag (af w fun b y σ₂ w₂ => al (aj (c0 (af w₂ fun c z σ₃ ⟨k, e, q⟩ => by
  subst e; exact ag (fx (.head _) q)))))))
theorem jC {Φ : Bool → St → Prop} (h : WV B n L (eval e env) H σ fun v d σ₁ => WB B n L (truthy v) ((v, d) :: H) σ₁ Φ)
 (hs : ∀ whole, isTrue e env whole = (do let v ← whole; standAt e.pos; holding [v] (truthy v)) := by with_unfolding_all exact fun _ => rfl) :
 WB B n L (isTrue e env (eval e env)) H σ Φ := by
 rw [hs]
 exact aj (af h fun v d σ₁ w => al (ag w))
theorem Aj {pos whole} {Φ : Bool → St → Prop} (h : WB B n L (isTrue x env (eval x env)) H σ fun b σ₁ => Φ (!b) σ₁) : WB B n L (isTrue (.UnaryOp .Not x pos) env whole) H σ Φ :=
 cy (k := fun b => pure !b) (cw h fun _ _ q => iP q)
theorem uT {pos whole} {Φ : Bool → St → Prop} (h : WB B n L (allTrue .And (x :: rest) env) H σ Φ) : WB B n L (isTrue (.BoolOp .And (x :: rest) pos) env whole) H σ Φ := h
theorem yX {pos whole} {Φ : Bool → St → Prop} (h : WB B n L (allTrue .Or (x :: rest) env) H σ Φ) : WB B n L (isTrue (.BoolOp .Or (x :: rest) pos) env whole) H σ Φ := h
theorem kj {Φ : Bool → St → Prop} (h : Φ true σ) : WB B n L (allTrue .And [] env) H σ Φ := iP h
theorem nq {Φ : Bool → St → Prop} (h : Φ false σ) : WB B n L (allTrue .Or [] env) H σ Φ := iP h
theorem gh {Φ : Bool → St → Prop} (h : WB B n L (isTrue x env (eval x env)) H σ fun b σ₁ => (b = true → WB B n L (allTrue .And rest env) H σ₁ Φ) ∧ (b = false → Φ false σ₁)) :
 WB B n L (allTrue .And (x :: rest) env) H σ Φ := by
 rw [arm_allTrue_cons]
 refine cy (cw h fun b σ₁ q => ?_)
 induction b using Bool.casesOn with
 | true => exact q.1 rfl
 | false => exact iP (q.2 rfl)
theorem iF {Φ : Bool → St → Prop} (h : WB B n L (isTrue x env (eval x env)) H σ fun b σ₁ => (b = true → Φ true σ₁) ∧ (b = false → WB B n L (allTrue .Or rest env) H σ₁ Φ)) :
 WB B n L (allTrue .Or (x :: rest) env) H σ Φ := by
 rw [arm_allTrue_cons]
 refine cy (cw h fun b σ₁ q => ?_)
 induction b using Bool.casesOn with
 | false => exact q.2 rfl
 | true => exact iP (q.1 rfl)
theorem nk {b o : Expr} {pos} (h : WB B n L (isTrue t env (eval t env)) H σ fun c σ₁ => (c = true → WV B n L (eval b env) H σ₁ Φ) ∧ (c = false → WV B n L (eval o env) H σ₁ Φ)) :
 WV B n L (eval (.IfExp t b o pos) env) H σ Φ := by
 rw [arm_eval_IfExp]
 refine cy (cw h fun b σ₁ q => ?_)
 induction b using Bool.casesOn with
 | true => exact q.1 rfl
 | false => exact q.2 rfl
theorem An {pos} (h : WV B n L (eval x env) H σ fun v d σ₁ => WB B n L (truthy v) ((v, d) :: H) σ₁ fun b σ₂ => Φ (.bool (!b)) (.bool (!b)) σ₂) :
 WV B n L (eval (.UnaryOp .Not x pos) env) H σ Φ := by
 rw [arm_eval_UnaryOp]
 refine aj (af h fun v d σ₁ w => al (ag <| ae fun A F s hA x => ?_))
 exact not_value (wpAny_mono (w.run A F s hA x) (fun b s₂ z => z.fin fun F₂ σ₂ x₂ q => .here x₂ ⟨_, .bool _, q⟩) fun _ _ z => z)
theorem A8 {pos} (h : WV B n L (eval x env) H σ fun _ d σ₁ => ∃ i, d = .int i ∧ ∀ v, Φ v (.int (-i)) σ₁) :
 WV B n L (eval (.UnaryOp .USub x pos) env) H σ Φ := by
 rw [arm_eval_UnaryOp]
 refine aj (af h fun v d σ₁ ⟨i, e, q⟩ => al (ag <| ae fun A F s hA x => ?_))
 subst e
 have := x.hold (.head _)
 cases this
 exact neg_int (.toks x ⟨_, .int _ _, q _⟩)
theorem uS {Φ : PF} (h : Φ .next σ) : WF B n L (execs [] env) H σ Φ := ae fun _ _ _ _ x => wpAny_execs_nil (.here x ⟨.next, trivial, h⟩)
theorem yf {st : Stmt} {rest : List Stmt} {Φ : PF} (h : WF B n L (exec st env) H σ fun f σ₁ => match f with | .next => WF B n L (execs rest env) H σ₁ Φ | f => Φ f σ₁) :
 WF B n L (execs (st :: rest) env) H σ Φ := ae fun A F s hA x => by
 rw [execs_cons]
 refine wpAny_bind (wpAny_mono (h.run A F s hA x) (fun f s₁ z => z.then fun F₁ σ₁ x₁ ⟨e, he, q⟩ => ?_) fun _ _ z => z)
 cases f with
 | next => rcases e with _ | _ <;> first | exact he.elim | exact q.run A F₁ s₁ hA x₁
 | brk => rcases e with _ | _ <;> first | exact he.elim | exact wpAny_pure (.here x₁ ⟨.brk, trivial, q⟩)
 | cont => rcases e with _ | _ <;> first | exact he.elim | exact wpAny_pure (.here x₁ ⟨.cont, trivial, q⟩)
 | ret v => rcases e with _ | _ <;> first | exact he.elim | exact wpAny_pure (.here x₁ ⟨.ret _, he, q⟩)
theorem xG {pos} {Φ : PF} (h : Φ .next σ) : WF B n L (exec (.Pass pos) env) H σ Φ := ae fun _ _ _ _ x => wpAny_Pass (.here x ⟨.next, trivial, h⟩)
theorem ut {pos} {Φ : PF} (h : Φ .brk σ) : WF B n L (exec (.Break pos) env) H σ Φ := ae fun _ _ _ _ x => wpAny_Break (.here x ⟨.brk, trivial, h⟩)
theorem lS {pos} {Φ : PF} (h : Φ .cont σ) : WF B n L (exec (.Continue pos) env) H σ Φ := ae fun _ _ _ _ x => wpAny_Continue (.here x ⟨.cont, trivial, h⟩)
theorem ig {pos} {Φ : PF} (h : WV B n L (eval e env) H σ fun _ d σ₁ => Φ (.ret d) σ₁) : WF B n L (exec (.Return (some e) pos) env) H σ Φ := ae fun A F s hA x =>
 wpAny_Return_some (wpAny_mono (h.run A F s hA x) (fun v s₁ z => z.fin fun F₁ σ₁ x₁ ⟨d, hd, q⟩ => .here x₁ ⟨.ret d, hd, q⟩) fun _ _ z => z)
theorem ju {pos} {Φ : PF} (h : Φ (.ret .none) σ) : WF B n L (exec (.Return none pos) env) H σ Φ := ae fun _ _ _ _ x => wpAny_Return_none (.here x ⟨.ret .none, .none, h⟩)
theorem xy {body orelse : List Stmt} {pos} {Φ : PF}
 (h : WB B n L (isTrue t env (eval t env)) H σ fun b σ₁ => (b = true → WF B n L (execs body env) H σ₁ Φ) ∧ (b = false → WF B n L (execs orelse env) H σ₁ Φ)) : WF B n L (exec (.If t body orelse pos) env) H σ Φ := by
 rw [arm_exec_If]
 refine al (cy (cw h fun b σ₁ q => ?_))
 induction b using Bool.casesOn with
 | true => exact q.1 rfl
 | false => exact q.2 rfl
theorem qR {pos} {Φ : PF} (h : WV B n L (eval e env) H σ fun _ _ σ₁ => Φ .next σ₁) (hi : autoParam (interactive env = false) bR) (hs : autoParam (swapsWith e none pos.line env = pure false) bR) :
 WF B n L (exec (.Expr e pos) env) H σ Φ := by
 rw [exec_Expr env e pos hi hs]
 refine al (aj (af h fun v d σ₁ q => ae fun A F s hA x => ?_))
 exact wpAny_dropValue (.here x ⟨.next, trivial, q⟩)
theorem qC {msg pos} {Φ : PF} (h : WB B n L (isTrue t env (eval t env)) H σ fun b σ₁ => b = true ∧ Φ .next σ₁) : WF B n L (exec (.Assert t msg pos) env) H σ Φ := by
 rw [arm_exec_Assert]
 refine al (cy (cw h fun b σ₁ q => ?_))
 obtain ⟨rfl, q⟩ := q
 exact fk q
theorem ft {x : Str} {Φ : St → Prop} (h : WU B n L (storeName env x v) H σ Φ) : WU B n L (bindName env x v) H σ Φ := ae fun A F s hA x => wpAny_bindName (h.run A F s hA x)
theorem cX {x : Str} {p pos} {Φ : PF} (h : WV B n L (eval e env) H σ fun v d σ₁ => WU B n L (storeName env x v) ((v, d) :: H) σ₁ fun σ₂ => Φ .next σ₂)
 (hs : autoParam (swapsWith e (some (.Name x p)) pos.line env = pure false) bR) : WF B n L (exec (.Assign [.Name x p] e pos) env) H σ Φ := by
 rw [exec_Assign_Name env x p e pos hs]
 exact al (aj (af h fun v d σ₁ w => al (bT (ft (di w fun σ₂ q => fk q)))))
theorem wT {x : Str} {p pos op} {Φ : PF}
 (h : WV B n L (loadName env x) H σ fun a d σ₁ => WV B n L (eval e env) ((a, d) :: H) σ₁ fun b y σ₂ => WV B n L (inplaceOp op a b) ((b, y) :: (a, d) :: H) σ₂ fun c z σ₃ => WU B n L (storeName env x c) ((c, z) :: H) σ₃ fun σ₄ => Φ .next σ₄) :
 WF B n L (exec (.AugAssign (.Name x p) op e pos) env) H σ Φ := by
 rw [exec_AugAssign_Name]
 refine al (aj (af h fun a d σ₁ w => ?_))
 refine aj (ag (af w fun b y σ₂ w₂ => ?_))
 refine al (aj (c0 (af w₂ fun c z σ₃ w₃ => ?_)))
 refine al (bT (ft (oe (di w₃ fun σ₄ q => fk q) fun q hq => ?_)))
 rcases mC0 hq with rfl | hq
 · exact .head _
 · exact .tail _ (.tail _ (.tail _ hq))
end
end
section
variable {d : AV} {l : List AV} {ms : List (List Nat)} {P : Params} {F : Fz} {vs : List Value} {h : Heap} {v : Value} {p : PyData} {Ψ : Bool → St → Prop}
theorem aV : sizeLine = 16777216 := by decide
theorem kl (a b : List Nat) : S a ++ S b = S (a ++ b) := by
 show Str.append (S a) (S b) = _
 simp [Str.append, S]
theorem ay (a : List Nat) : (S a).length = a.length := by simp [Str.length, S]
theorem yY {a b : List Nat} : S a = S b ↔ a = b := by
 constructor
 · intro e; injection e with e; simpa using e
 · rintro rfl; rfl
theorem qd (a b : List Nat) : (S a == S b) = decide (a = b) := by
 rw [Bool.eq_iff_iff]; simp [yY]
noncomputable def aG : List AV → Option (List (List Nat))
 | [] => some []
 | .str x :: r => (aG r).map (x :: ·)
 | _ => none
theorem iD (e : aG (d :: l) = some ms) : ∃ x m, d = .str x ∧ aG l = some m ∧ ms = x :: m := by
 rcases d with _ | _ <;> try contradiction
 refine x12 (Option.map_eq_some_iff.mp e) ?_; rintro m e1 e2
 exact ⟨_, m, rfl, e1, e2.symm⟩
theorem dP (h : IsAll P F vs l) (e : aG l = some ms) : StrsAre vs (ms.map S) :=
 h.ind (C := fun vs l => ∀ ms, aG l = some ms → StrsAre vs (ms.map S)) (fun ms e => Option.some.inj e ▸ .nil) (fun v d vs l q r ih ms e => by
  refine x23 (iD e) ?_; rintro x m rfl e1 rfl
  cases q
  exact .cons (S x) _ (ih m e1)) ms e
theorem uZ (ms : List (List Nat)) (x : List Nat) : ((ms.map S).any fun y => y == S x) = decide (x ∈ ms) := by
 induction ms with
 | nil => exact (decide_eq_false (nomatch ·)).symm
 | cons m r ih =>
  rw [List.map_cons, List.any_cons, ih, qd, Bool.eq_iff_iff, Bool.or_eq_true, decide_eq_true_iff, decide_eq_true_iff, decide_eq_true_iff]
  constructor
  · rintro (h | h)
    · exact h ▸ .head _
    · exact .tail _ h
  · intro h
    cases h with
    | head => exact .inl rfl
    | tail _ h => exact .inr h
mutual
noncomputable def eu : AV → Option PyData
 | .none => some .none
 | .bool b => some (.bool b)
 | .int i => some (.int i)
 | .str x => some (.str (S x))
 | .tup l => (dataAll l).map .tuple
 | .lst l => (dataAll l).map .list
 | _ => none
noncomputable def dataAll : List AV → Option (List PyData)
 | [] => some []
 | d :: r => (eu d).bind fun a => (dataAll r).map (a :: ·)
end
theorem nt {ps : List PyData} (e : dataAll (d :: l) = some ps) : ∃ a b, eu d = some a ∧ dataAll l = some b ∧ ps = a :: b := by
 refine x12 (Option.bind_eq_some_iff.mp (show (eu d).bind (fun a => (dataAll l).map (a :: ·)) = some ps from e)) ?_; rintro a e1 e2
 refine x12 (Option.map_eq_some_iff.mp e2) ?_; rintro b e3 e4
 exact ⟨a, b, e1, e3, e4.symm⟩
theorem fA (k : ∀ b o, F b = some o → h.get? b = some o) (i : Is P F v d) (e : eu d = some p) : ∃ as, Reads h v p as :=
 Is.rec (motive_1 := fun v d _ => ∀ p, eu d = some p → ∃ as, Reads h v p as) (motive_2 := fun vs l _ => ∀ ps, dataAll l = some ps → ∃ as, ReadsAll h vs ps as) (motive_3 := fun _ _ _ => True)
  (fun _ e => Option.some.inj e ▸ ⟨_, .none⟩) (fun b _ e => Option.some.inj e ▸ ⟨_, .bool b⟩) (fun i t _ e => Option.some.inj e ▸ ⟨_, .int i t⟩) (fun x t _ e => Option.some.inj e ▸ ⟨_, .str _ t⟩) (fun _ _ e => nomatch e) (fun _ _ e => nomatch e)
  (fun h _ ih p e => by
   refine x12 (Option.map_eq_some_iff.mp (show (dataAll _).map PyData.tuple = some p from e)) ?_; rintro qs e1 rfl
   obtain ⟨as, q⟩ := ih qs e1
   exact ⟨as, .tuple (k _ _ h) rfl rfl q⟩)
  (fun h _ ih p e => by
   refine x12 (Option.map_eq_some_iff.mp (show (dataAll _).map PyData.list = some p from e)) ?_; rintro qs e1 rfl
   obtain ⟨as, q⟩ := ih qs e1
   exact ⟨_, .list (k _ _ h) rfl rfl q⟩)
  (fun _ _ _ _ _ _ e => nomatch e) (fun _ _ e => nomatch e) (fun _ _ _ e => nomatch e) (fun _ _ e => nomatch e)
  (fun _ e => Option.some.inj e ▸ ⟨_, .nil⟩)
  (fun _ _ i1 i2 ps e => by
   refine x23 (nt e) ?_; rintro a b ea eb rfl
   obtain ⟨as, q⟩ := i1 a ea
   obtain ⟨bs, q'⟩ := i2 b eb
   exact ⟨_, .cons q q'⟩)
  trivial (fun _ _ _ _ => trivial) i p e
theorem IsAll.length (h : IsAll P F vs l) : vs.length = l.length := h.ind (C := fun vs l => vs.length = l.length) rfl fun _ _ _ _ _ _ c => congrArg (· + 1) c
noncomputable def uX (P : Params) (F : Fz) (v : Value) (d : AV) : Prop := AV.casesOn d (v = .none) (fun b => v = .bool b) (fun i => ∃ t, v = .int i t) (fun x => ∃ t, v = .str (S x) t) (fun w => v = w) (fun a => v = .ref a) (fun l => ∃ a vs n, v = .ref a ∧ F a = some (gY vs n) ∧ IsAll P F vs l) (fun l => ∃ a vs n, v = .ref a ∧ F a = some (bE vs n) ∧ IsAll P F vs l)
 (fun l => ∃ a es n, v = .ref a ∧ F a = some (dictOf es n) ∧ IsEnts P F es l ∧ (l.map (·.1)).Nodup) (fun f self => ∃ a, v = .ref a ∧ F a = some (methodObj (.ref f) (.ref self))) (fun p => ∃ a o, v = .ref a ∧ F a = some o ∧ p o) True
theorem dF (h : Is P F v d) : uX P F v d :=
 @Is.casesOn P F (fun v d _ => uX P F v d) v d h rfl (fun _ => rfl) (fun _ t => ⟨t, rfl⟩) (fun _ t => ⟨t, rfl⟩) (fun _ => rfl) (fun _ => rfl) (fun e k => ⟨_, _, _, rfl, e, k⟩) (fun e k => ⟨_, _, _, rfl, e, k⟩) (fun e k n _ => ⟨_, _, _, rfl, e, k, n⟩) (fun e => ⟨_, rfl, e⟩) (fun e k => ⟨_, _, rfl, e, k⟩) fun _ => trivial
theorem au {i : Int} (h : Is P F v (.int i)) : ∃ t, v = .int i t := dF h
theorem az {x : List Nat} (h : Is P F v (.str x)) : ∃ t, v = .str (S x) t := dF h
theorem eK (h : Is P F v .none) : v = .none := dF h
theorem aE {a : Addr} (h : Is P F v (.ref a)) : v = .ref a := dF h
theorem cf (h : Is P F v (.tup l)) : ∃ a vs n, v = .ref a ∧ F a = some (gY vs n) ∧ IsAll P F vs l := dF h
theorem dh (h : Is P F v (.lst l)) : ∃ a vs n, v = .ref a ∧ F a = some (bE vs n) ∧ IsAll P F vs l := dF h
theorem mn {l : FL} (h : Is P F v (.dct l)) : ∃ a es n, v = .ref a ∧ F a = some (dictOf es n) ∧ IsEnts P F es l ∧ (l.map (·.1)).Nodup := dF h
theorem ij {f self : Addr} (h : Is P F v (.meth f self)) : ∃ a, v = .ref a ∧ F a = some (methodObj (.ref f) (.ref self)) := dF h
theorem mj {p : Obj → Prop} (h : Is P F v (.obj p)) : ∃ a o, v = .ref a ∧ F a = some o ∧ p o := dF h
noncomputable def qe (P : Params) (F : Fz) (vs : List Value) (l : List AV) : Prop := List.casesOn l (vs = []) fun d l => ∃ v ws, vs = v :: ws ∧ Is P F v d ∧ IsAll P F ws l
theorem fR (h : IsAll P F vs l) : qe P F vs l := h.ind (C := fun vs l => qe P F vs l) rfl fun v _ ws _ q r _ => ⟨v, ws, rfl, q, r⟩
theorem uK {d1 : AV} (h : IsAll P F vs [d1]) : ∃ v1, vs = [v1] ∧ Is P F v1 d1 := x23 (fR h) fun v _ e q r => ⟨v, e.trans (congrArg (v :: ·) (fR r)), q⟩
theorem rP {d1 d2 : AV} (h : IsAll P F vs [d1, d2]) : ∃ v1 v2, vs = [v1, v2] ∧ Is P F v1 d1 ∧ Is P F v2 d2 := x23 (fR h) fun v _ e q r => x12 (uK r) fun w e2 q2 => ⟨v, w, e.trans (congrArg (v :: ·) e2), q, q2⟩
theorem yF {d1 d2 d3 : AV} (h : IsAll P F vs [d1, d2, d3]) : ∃ v1 v2 v3, vs = [v1, v2, v3] ∧ Is P F v1 d1 ∧ Is P F v2 d2 ∧ Is P F v3 d3 := x23 (fR h) fun v _ e q r => x23 (rP r) fun w u e2 q2 q3 => ⟨v, w, u, e.trans (congrArg (v :: ·) e2), q, q2, q3⟩
theorem Ba {d1 d2 d3 d4 : AV} (h : IsAll P F vs [d1, d2, d3, d4]) : ∃ v1 v2 v3 v4, vs = [v1, v2, v3, v4] ∧ Is P F v1 d1 ∧ Is P F v2 d2 ∧ Is P F v3 d3 ∧ Is P F v4 d4 := x23 (fR h) fun v _ e q r => x34 (yF r) fun w u z e2 q2 q3 q4 => ⟨v, w, u, z, e.trans (congrArg (v :: ·) e2), q, q2, q3, q4⟩
section
variable {B : ab} {n : Nat} {L : Addr} {H : HL} {σ : St} {a b : Value} {i j : Int} {x y : List Nat} {Φ : PV}
theorem zE (ma : (a, .int i) ∈ H) (mb : (b, .int j) ∈ H) (h : ∀ v, Φ v (.int (i + j)) σ) : WV B n L (binaryOp .Add a b) H σ Φ := ae fun A F s hA X => by
 obtain ⟨t1, rfl⟩ := au (X.hold ma); obtain ⟨t2, rfl⟩ := au (X.hold mb)
 with_reducible exact P.add_int (.toks X ⟨_, .int _ _, h _⟩)
theorem Al (ma : (a, .int i) ∈ H) (mb : (b, .int j) ∈ H) (h : ∀ v, Φ v (.int (i - j)) σ) : WV B n L (binaryOp .Sub a b) H σ Φ := ae fun A F s hA X => by
 obtain ⟨t1, rfl⟩ := au (X.hold ma); obtain ⟨t2, rfl⟩ := au (X.hold mb)
 with_reducible exact P.sub_int (.toks X ⟨_, .int _ _, h _⟩)
theorem A7 (ma : (a, .int i) ∈ H) (mb : (b, .int j) ∈ H) (hb : j ≠ 0) (h : ∀ v, Φ v (.int (i.fmod j)) σ) : WV B n L (binaryOp .Mod a b) H σ Φ := ae fun A F s hA X => by
 obtain ⟨t1, rfl⟩ := au (X.hold ma); obtain ⟨t2, rfl⟩ := au (X.hold mb)
 with_reducible exact mod_int' hb (.toks X ⟨_, .int _ _, h _⟩)
theorem y7 (ma : (a, .int i) ∈ H) (mb : (b, .int j) ∈ H) (h : ∀ v, Φ v (.int (i + j)) σ) : WV B n L (inplaceOp .Add a b) H σ Φ := ae fun A F s hA X => by
 obtain ⟨t1, rfl⟩ := au (X.hold ma); obtain ⟨t2, rfl⟩ := au (X.hold mb)
 with_reducible exact P.iadd_int (.toks X ⟨_, .int _ _, h _⟩)
theorem xx (ma : (a, .int i) ∈ H) (mb : (b, .int j) ∈ H) (h : ∀ v, Φ v (.int (i - j)) σ) : WV B n L (inplaceOp .Sub a b) H σ Φ := ae fun A F s hA X => by
 obtain ⟨t1, rfl⟩ := au (X.hold ma); obtain ⟨t2, rfl⟩ := au (X.hold mb)
 with_reducible exact P.isub_int (.toks X ⟨_, .int _ _, h _⟩)
theorem BU (ma : (a, .int i) ∈ H) (mb : (b, .int j) ∈ H) (h : ∀ v, Φ v (.bool (decide (i < j))) σ) : WV B n L (compareOp .Lt a b) H σ Φ := ae fun A F s hA X => by
 obtain ⟨t1, rfl⟩ := au (X.hold ma); obtain ⟨t2, rfl⟩ := au (X.hold mb)
 with_reducible exact P.lt_int (.here X ⟨_, .bool _, h _⟩)
theorem Bw (ma : (a, .int i) ∈ H) (mb : (b, .int j) ∈ H) (h : ∀ v, Φ v (.bool (decide (i ≤ j))) σ) : WV B n L (compareOp .LtE a b) H σ Φ := ae fun A F s hA X => by
 obtain ⟨t1, rfl⟩ := au (X.hold ma); obtain ⟨t2, rfl⟩ := au (X.hold mb)
 with_reducible exact P.le_int (.here X ⟨_, .bool _, h _⟩)
theorem BQ (ma : (a, .int i) ∈ H) (mb : (b, .int j) ∈ H) (h : ∀ v, Φ v (.bool (decide (j < i))) σ) : WV B n L (compareOp .Gt a b) H σ Φ := ae fun A F s hA X => by
 obtain ⟨t1, rfl⟩ := au (X.hold ma); obtain ⟨t2, rfl⟩ := au (X.hold mb)
 with_reducible exact P.gt_int (.here X ⟨_, .bool _, h _⟩)
theorem B3 (ma : (a, .int i) ∈ H) (mb : (b, .int j) ∈ H) (h : ∀ v, Φ v (.bool (decide (j ≤ i))) σ) : WV B n L (compareOp .GtE a b) H σ Φ := ae fun A F s hA X => by
 obtain ⟨t1, rfl⟩ := au (X.hold ma); obtain ⟨t2, rfl⟩ := au (X.hold mb)
 with_reducible exact P.ge_int (.here X ⟨_, .bool _, h _⟩)
theorem Bh (ma : (a, .int i) ∈ H) (mb : (b, .int j) ∈ H) (h : ∀ v, Φ v (.bool (decide (i = j))) σ) : WV B n L (compareOp .Eq a b) H σ Φ := ae fun A F s hA X => by
 obtain ⟨t1, rfl⟩ := au (X.hold ma); obtain ⟨t2, rfl⟩ := au (X.hold mb)
 have e : (i == j) = decide (i = j) := by rw [Bool.eq_iff_iff]; simp
 with_reducible exact P.eq_int (.here X ⟨_, .bool _, e ▸ h _⟩)
theorem Bm (ma : (a, .int i) ∈ H) (mb : (b, .int j) ∈ H) (h : ∀ v, Φ v (.bool (!decide (i = j))) σ) : WV B n L (compareOp .NotEq a b) H σ Φ := ae fun A F s hA X => by
 obtain ⟨t1, rfl⟩ := au (X.hold ma); obtain ⟨t2, rfl⟩ := au (X.hold mb)
 have e : (i != j) = !decide (i = j) := by rw [Bool.eq_iff_iff]; simp
 with_reducible exact P.ne_int (.here X ⟨_, .bool _, e ▸ h _⟩)
theorem z7 (ma : (a, .int i) ∈ H) (h : Ψ (!decide (i = 0)) σ) : WB B n L (truthy a) H σ Ψ := ae fun A F s hA X => by
 obtain ⟨t1, rfl⟩ := au (X.hold ma)
 have e : (i != 0) = !decide (i = 0) := by rw [Bool.eq_iff_iff]; simp
 with_reducible exact P.truthy_int (.here X (e ▸ h))
theorem xC (ma : (a, .none) ∈ H) (h : Ψ false σ) : WB B n L (truthy a) H σ Ψ := ae fun A F s hA X => by
 obtain rfl := eK (X.hold ma)
 with_reducible exact truthy_none (.here X h)
theorem xl (ma : (a, .str x) ∈ H) (mb : (b, .str y) ∈ H) (hz : x.length + y.length ≤ 16777216) (h : ∀ v, Φ v (.str (x ++ y)) σ) : WV B n L (binaryOp .Add a b) H σ Φ := ae fun A F s hA X => by
 obtain ⟨t1, rfl⟩ := az (X.hold ma); obtain ⟨t2, rfl⟩ := az (X.hold mb)
 with_reducible exact add_str (fun _ _ => .toks X ⟨_, kl x y ▸ .str _ _, h _⟩) (by rw [ay, ay, aV]; exact hz)
theorem ub (ma : (a, .str x) ∈ H) (mb : (b, .str y) ∈ H) (hz : x.length + y.length ≤ 16777216) (h : ∀ v, Φ v (.str (x ++ y)) σ) : WV B n L (inplaceOp .Add a b) H σ Φ := ae fun A F s hA X => by
 obtain ⟨t1, rfl⟩ := az (X.hold ma); obtain ⟨t2, rfl⟩ := az (X.hold mb)
 with_reducible exact iadd_str (fun _ _ => .toks X ⟨_, kl x y ▸ .str _ _, h _⟩) (by rw [ay, ay, aV]; exact hz)
theorem zo (ma : (a, .str x) ∈ H) (mb : (b, .str y) ∈ H) (h : ∀ v, Φ v (.bool (decide (x = y))) σ) : WV B n L (compareOp .Eq a b) H σ Φ := ae fun A F s hA X => by
 obtain ⟨t1, rfl⟩ := az (X.hold ma); obtain ⟨t2, rfl⟩ := az (X.hold mb)
 with_reducible exact eq_str (.here X ⟨_, .bool _, qd x y ▸ h _⟩)
theorem zN (ma : (a, .str x) ∈ H) (mb : (b, .str y) ∈ H) (h : ∀ v, Φ v (.bool (!decide (x = y))) σ) : WV B n L (compareOp .NotEq a b) H σ Φ := ae fun A F s hA X => by
 obtain ⟨t1, rfl⟩ := az (X.hold ma); obtain ⟨t2, rfl⟩ := az (X.hold mb)
 have e : (S x != S y) = !decide (x = y) := by rw [bne, qd]
 with_reducible exact ne_str (.here X ⟨_, .bool _, e ▸ h _⟩)
theorem zY (ma : (a, .str x) ∈ H) (hz : x.length ≤ 16777216) (h : Ψ (!decide (x = [])) σ) : WB B n L (truthy a) H σ Ψ := ae fun A F s hA X => by
 obtain ⟨t1, rfl⟩ := az (X.hold ma)
 have e : (((S x).length : Int) != 0) = !decide (x = []) := by rw [ay, Bool.eq_iff_iff]; simp
 with_reducible exact P.truthy_str (by rw [ay]; omega) (.toks X (e ▸ h))
theorem pS (ma : (a, d) ∈ H) (mb : (b, .none) ∈ H) (hd : ∀ P F v, Is P F v d → (v == Value.none) = c) (h : ∀ v, Φ v (.bool c) σ) : WV B n L (compareOp .Is a b) H σ Φ := ae fun A F s hA X => by
 have p := X.hold ma; obtain rfl := eK (X.hold mb)
 with_reducible exact is_none (.here X ⟨_, .bool _, hd _ _ _ p ▸ h _⟩)
theorem jW (ma : (a, d) ∈ H) (mb : (b, .none) ∈ H) (hd : ∀ P F v, Is P F v d → (v == Value.none) = c) (h : ∀ v, Φ v (.bool (!c)) σ) : WV B n L (compareOp .IsNot a b) H σ Φ := ae fun A F s hA X => by
 have p := X.hold ma; obtain rfl := eK (X.hold mb)
 with_reducible exact isNot_none (.here X ⟨_, .bool _, hd _ _ _ p ▸ h _⟩)
theorem uI (P : Params) (F : Fz) (v : Value) (h : Is P F v .none) : (v == Value.none) = true := by cases h; rfl
theorem qc {x : List Nat} (P : Params) (F : Fz) (v : Value) (h : Is P F v (.str x)) : (v == Value.none) = false := by cases h; rfl
theorem qS {x : Int} (P : Params) (F : Fz) (v : Value) (h : Is P F v (.int x)) : (v == Value.none) = false := by cases h; rfl
theorem ru {x : Addr} (P : Params) (F : Fz) (v : Value) (h : Is P F v (.ref x)) : (v == Value.none) = false := by cases h; rfl
theorem qb {x} (P : Params) (F : Fz) (v : Value) (h : Is P F v (.dct x)) : (v == Value.none) = false := by cases h; rfl
theorem c6 (k : ∀ b o, F b = some o → h.get? b = some o) {t : Addr} {m : Nat} (e : F t = some (gY vs m)) : IsTup h t vs.toArray := ⟨_, k _ _ e, rfl, m, rfl⟩
theorem cW (k : ∀ b o, F b = some o → h.get? b = some o) {t : Addr} {m : Nat} (e : F t = some (bE vs m)) : h.IsList t vs.toArray := ⟨_, k _ _ e, rfl, m, rfl⟩
theorem ve (ma : (a, .str x) ∈ H) (mb : (b, .tup l) ∈ H) (e : aG l = some ms) (h : ∀ v, Φ v (.bool (decide (x ∈ ms))) σ) : WV B n L (compareOp .In a b) H σ Φ := ae fun A F s hA X => by
 obtain ⟨t1, rfl⟩ := az (X.hold ma); refine x33 (cf (X.hold mb)) ?_; rintro r2 vs n1 rfl h1 h2
 with_reducible exact in_tuple_strs (c6 X.sub h1) (by simpa using dP h2 e) (.here X ⟨_, .bool _, uZ ms x ▸ h _⟩)
theorem pE (ma : (a, .str x) ∈ H) (mb : (b, .tup l) ∈ H) (e : aG l = some ms) (h : ∀ v, Φ v (.bool (!decide (x ∈ ms))) σ) : WV B n L (compareOp .NotIn a b) H σ Φ := ae fun A F s hA X => by
 obtain ⟨t1, rfl⟩ := az (X.hold ma); refine x33 (cf (X.hold mb)) ?_; rintro r2 vs n1 rfl h1 h2
 with_reducible exact notin_tuple_strs (c6 X.sub h1) (by simpa using dP h2 e) (.here X ⟨_, .bool _, uZ ms x ▸ h _⟩)
theorem pV {e : AV} {q : PyData} {c : Bool} (ma : (a, d) ∈ H) (mb : (b, e) ∈ H) (hd : eu d = some p) (he : eu e = some q) (sp : SeqAt.shaped p = true) (sq : SeqAt.shaped q = true) (hc : PyData.eqv p q = c)
 (h : ∀ v, Φ v (.bool c) σ) : WV B n L (compareOp .Eq a b) H σ Φ := ae fun A F s hA X => by
 obtain ⟨as, ra⟩ := fA X.sub (X.hold ma) hd
 obtain ⟨bs, rb⟩ := fA X.sub (X.hold mb) he
 refine eq_dataH ra rb sp sq ?_ (.here X ⟨_, .bool _, hc ▸ h _⟩)
 have := hA.units
 show A.units + 64 < 9900
 omega
theorem rz {ps : List PyData} {c : Bool} (ma : (a, d) ∈ H) (mb : (b, .tup l) ∈ H) (hd : eu d = some p) (he : dataAll l = some ps) (sp : p.canLay0 = true) (sq : PyData.canLayAll0 ps = true)
 (dp : p.depth ≤ 64) (hc : (ps.any fun y => PyData.eqv y p) = c) (h : ∀ v, Φ v (.bool c) σ) : WV B n L (compareOp .In a b) H σ Φ := ae fun A F s hA X => by
 obtain ⟨as, ra⟩ := fA X.sub (X.hold ma) hd
 obtain ⟨bs, rb⟩ := fA (p := .tuple ps) X.sub (X.hold mb) (show (dataAll l).map PyData.tuple = some (.tuple ps) by refine he ▸ ?_; rfl)
 refine SeqAt.in_tuple_reads rb ra sq sp ?_ (.here X ⟨_, .bool _, hc ▸ h _⟩)
 have := hA.units
 show A.units + 1 + min (PyData.depthAll ps) p.depth < 9900
 omega
end
end
section
variable {x : Str} {v : Value} {es : List DictEntry} {fs : FL} {d : AV} {ex : List Addr}
noncomputable def bp (x : Str) (fs : FL) : Option AV := (fs.find? (fun p => p.1 == x)).map (·.2)
noncomputable def c5 (x : Str) (d : AV) : FL → FL
 | [] => [(x, d)]
 | p :: r => if p.1 == x then (x, d) :: r else p :: c5 x d r
section
variable {P : Params} {F : Fz}
theorem gW (x : Str) (d : AV) (r : FL) : bp x ((x, d) :: r) = some d := by unfold bp; rw [List.find?_cons, beq_self_eq_true]; rfl
theorem g5 {y : Str} (d : AV) (r : FL) (q : ¬(y == x) = true) : bp x ((y, d) :: r) = bp x r := by unfold bp; rw [List.find?_cons]; simp only [q]
theorem rq {y : Str} {t : Tok} {w : Value} (q : ¬(y == x) = true) (e : getL x es = some (some w)) : getL x (⟨PyData.keyHash P y, .str y t, v⟩ :: es) = some (some w) := by
 simp only [getL, List.find?_cons, Value.isStr, q] at e ⊢
 split at e
 · rename_i h; cases e; rw [h]
 · split at e <;> cases e
theorem jV (h : IsEnts P F es fs) (e : bp x fs = some d) : ∃ v, getL x es = some (some v) ∧ Is P F v d :=
 h.ind (C := fun es fs => bp x fs = some d → ∃ v, getL x es = some (some v) ∧ Is P F v d) nofun (fun y t v c es l h r ih e => by
  by_cases q : (y == x) = true
  · have z := eq_of_beq q
    subst z
    exact ⟨v, by simp [getL, Value.isStr], Option.some.inj ((gW _ c l).symm.trans e) ▸ h⟩
  · refine x12 (ih ((g5 c l q).symm.trans e)) ?_; rintro w e1 e2
    exact ⟨w, rq q e1, e2⟩) e
theorem lD (h : IsEnts P F es fs) : es.any (·.refKey) = false := h.ind (C := fun es _ => es.any (·.refKey) = false) rfl fun _ _ _ _ _ _ _ _ c => c
theorem nv (h : IsEnts P F es fs) (e : bp x fs = none) : es.find? (·.key.isStr x) = none :=
 h.ind (C := fun es fs => bp x fs = none → es.find? (·.key.isStr x) = none) (fun _ => rfl) (fun y t v d es l _ _ ih e => by
  by_cases q : (y == x) = true
  · have z := eq_of_beq q
    subst z
    exact nomatch (gW _ d l).symm.trans e
  · rw [List.find?_cons]
    simp only [Value.isStr, q]
    exact ih ((g5 d l q).symm.trans e)) e
theorem eU (h : IsEnts P F es fs) (e : bp x fs = none) : getL x es = some none := by
 unfold getL
 rw [nv h e]
 dsimp only
 rw [lD h]; rfl
theorem nA (h : IsEnts P F es fs) : (getL x es).isSome = true := by
 induction e : bp x fs using Option.casesOn with
 | none => rw [eU h e]; rfl
 | some d => refine x12 (jV h e) ?_; rintro v e1 _; rw [e1]; rfl
theorem gZ {t : Tok} (q : Is P F v d) : ∀ {es : List DictEntry} {fs : FL}, IsEnts P F es fs → IsEnts P F (putL x (PyData.keyHash P x) (.str x t) v es) (c5 x d fs)
 | _, _, .nil => .cons q .nil
 | _, _, .cons (x := y) (t := u) h r => by
  unfold putL c5
  split
  · rename_i e
    have e : (y == x) = true := e
    rw [if_pos e]
    obtain rfl := beq_iff_eq.mp e
    exact .cons q r
  · rename_i e
    have e : ¬ (y == x) = true := e
    rw [if_neg e]
    exact .cons h (gZ q r)
theorem eH : ∀ {es : List DictEntry} {fs : FL}, IsEnts P F es fs → es.length = fs.length
 | _, _, .nil => rfl
 | _, _, .cons _ r => by simp [eH r]
end
noncomputable def cR (K : Frag) (C : Addr) (x : Str) : Bool := plainGet K C x && hasDictIn K C && (match findIn K (.ref C) x with | some a => noGet K a | none => false)
noncomputable def dr (K : Frag) (C : Addr) (x : Str) : Bool := (findIn K (.ref C) "__setattr__" == some (some (.builtin "object.__setattr__"))) && plainOver K C && (takerIn K C x == some none) && hasDictIn K C
noncomputable def bP (K : Frag) (C : Addr) (x : Str) (f : Addr) : Bool :=
 plainGet K C x && hasDictIn K C && (findIn K (.ref C) x == some (some (.ref f))) && isFn K (.ref f) && (specialIn K (.ref f) "__get__" == some (some (.builtin "function.__get__"))) && (takesIn K (.ref f) == some false) && !(copiedNames.contains x)
noncomputable def dw : AV → Bool
 | .lit v => handedIn v
 | .any => false
 | _ => true
theorem nG {P : Params} {F : Fz} (h : Is P F v d) (e : dw d = true) : handedIn v = true := by
 cases h <;> first | rfl | exact e | exact Bool.noConfusion e
noncomputable def iq (G h : Heap) (L : Addr) (ex : List Addr) : List (Addr × Obj) :=
 (List.range h.objs.size).filterMap fun a => if a = L ∨ a ∈ ex ∨ (G.get? a).isSome = true then none else (h.get? a).map (a, ·)
theorem fw {a : Addr} {o : Obj} : (a, o) ∈ iq G h L ex ↔ h.get? a = some o ∧ a ≠ L ∧ a ∉ ex ∧ G.get? a = none := by
 unfold iq
 rw [List.mem_filterMap]
 constructor
 · intro z9; refine x12 z9 ?_; clear z9; rintro b hb e
   split at e
   · contradiction
   · rename_i q
     refine x12 (Option.map_eq_some_iff.mp e) ?_; rintro o' h1 h2
     cases h2
     simp only [not_or, Bool.not_eq_true, Option.isSome_eq_false_iff, Option.isNone_iff_eq_none] at q
     exact ⟨h1, q.1, q.2.1, q.2.2⟩
 · intro z9; refine x04 z9 ?_; clear z9; rintro h1 h2 h3 h4
   refine ⟨a, List.mem_range.mpr (Heap.lt_size h1), ?_⟩
   rw [if_neg (by simp only [not_or, Bool.not_eq_true, Option.isSome_eq_false_iff, Option.isNone_iff_eq_none]; exact ⟨h2, h3, h4⟩), h1]; rfl
theorem kA : News G L h (iq G h L ex) := fun p hp => by
 obtain ⟨a, o⟩ := p
 refine x04 (fw.mp hp) ?_; rintro h1 h2 _ h4
 exact ⟨h1, h2, h4⟩
theorem ti {h' : Heap} {m : Str → Option Value} {news : List (Addr × Obj)} (low : ∀ b o, G.get? b = some o → h.get? b = some o) (F' : Fr G L h' m) (N' : News G L h' news) (sub : ∀ p ∈ iq G h L ex, p ∈ news) :
 ∀ b o, b ≠ L → b ∉ ex → h.get? b = some o → h'.get? b = some o := by
 intro b o h1 h2 h3
 induction q : G.get? b using Option.casesOn with
 | none => exact (N' _ (sub (b, o) (fw.mpr ⟨h3, h1, h2, q⟩))).1
 | some o' =>
  have := low _ _ q
  rw [h3] at this
  obtain rfl := Option.some.inj this
  exact F'.keep _ _ q
section
variable {P : Params} {G : Heap} {L : Addr} {F : Fz} {H : HL} {h : Heap} {loc : LL} {objs pre post : OL} {a : Addr} {o o' : AO}
theorem Holds.frame (x : Holds P G L F H ⟨loc, objs⟩ h) : ∃ m, Fr G L h m ∧ ∀ y d, (y, some d) ∈ loc → ∃ v, m y = some v ∧ Is P F v d := by
 refine x12 (x.loc) ?_; rintro m hm r
 exact ⟨m, ⟨hm, fun b o e => x.sub _ _ (x.core _ _ e), x.low⟩, r⟩
theorem Holds.outG (x : Holds P G L F H ⟨loc, objs⟩ h) {b : Addr} (hb : b ∈ L :: ad objs) : G.get? b = none := by
 induction q : G.get? b using Option.casesOn with
 | none => rfl
 | some o => have := x.apart b hb; rw [x.core _ _ q] at this; contradiction
theorem Holds.obj (x : Holds P G L F H ⟨loc, objs⟩ h) (m : (a, o) ∈ objs) : OAt P F h a o := x.objs _ m
theorem cr : ad (pre ++ (a, o) :: post) = ad pre ++ (a :: (o.more ++ ad post)) := by rw [bb]; rfl
theorem Holds.change (x : Holds P G L F H ⟨loc, pre ++ (a, o) :: post⟩ h) {h' : Heap} {c : Addr} (hc : c = a ∨ c ∈ o.more) (em : o'.more = o.more)
 (k : ∀ b y, b ≠ L → b ≠ c → h.get? b = some y → h'.get? b = some y) (hl : ∃ m, h'.Ns L m ∧ ∀ x d, (x, some d) ∈ loc → ∃ v, m x = some v ∧ Is P F v d) (q : OAt P F h' a o') : Holds P G L F H ⟨loc, pre ++ (a, o') :: post⟩ h' := by
 have hcm : c ∈ a :: o.more := by rcases hc with rfl | hc; exact .head _; exact .tail _ hc
 have hnd := x.nodup
 have eo : ad (pre ++ (a, o') :: post) = ad (pre ++ (a, o) :: post) := by rw [cr, cr, em]
 have hco : c ∈ ad (pre ++ (a, o) :: post) := aH.mpr ⟨(a, o), by simp, by rcases hc with h | h; exact .inl h; exact .inr h⟩
 have other : ∀ p : Addr × AO, p ∈ pre ∨ p ∈ post → ∀ b, b = p.1 ∨ b ∈ p.2.more → b ≠ c := by
  intro p hp b hb e
  rw [List.nodup_cons] at hnd
  have nd := hnd.2
  rw [show (⟨loc, pre ++ (a, o) :: post⟩ : St).objs = pre ++ (a, o) :: post from rfl, cr] at nd
  have nd2 := (List.nodup_append.mp nd)
  rcases hp with hp | hp
  · exact nd2.2.2 b (aH.mpr ⟨p, hp, hb⟩) c (by
     rw [show a :: (o.more ++ ad post) = (a :: o.more) ++ ad post from rfl]
     exact List.mem_append_left _ hcm) e
  · have nd3 := nd2.2.1
    rw [show a :: (o.more ++ ad post) = (a :: o.more) ++ ad post from rfl, List.nodup_append] at nd3
    exact nd3.2.2 c hcm b (aH.mpr ⟨p, hp, hb⟩) e.symm
 have neO : ∀ p : Addr × AO, p ∈ pre ∨ p ∈ post → ∀ b, b = p.1 ∨ b ∈ p.2.more → b ≠ L := by
  intro p hp b hb e
  rw [List.nodup_cons] at hnd
  exact hnd.1 (e ▸ aH.mpr ⟨p, by rcases hp with hp | hp; exact List.mem_append_left _ hp; exact List.mem_append_right _ (.tail _ hp), hb⟩)
 refine ⟨x.core, fun b y e => k b y (fun z => ?_) (fun z => ?_) (x.sub _ _ e), hl, x.names, fun p hp => ?_, by rw [eo]; exact x.nodup, by rw [eo]; exact x.apart, x.held, x.low⟩
 · subst z
   have := x.apart b (.head _)
   rw [e] at this; contradiction
 · subst z
   have := x.apart b (.tail _ hco)
   rw [e] at this; contradiction
 · rcases List.mem_append.mp hp with hp | hp
   · exact (x.objs p (List.mem_append_left _ hp)).move (.refl F) fun b y hb e => k _ _ (neO p (.inl hp) b hb) (other p (.inl hp) b hb) e
   · rcases mC0 hp with rfl | hp
     · exact q
     · exact (x.objs p (List.mem_append_right _ (.tail _ hp))).move (.refl F) fun b y hb e => k _ _ (neO p (.inr hp) b hb) (other p (.inr hp) b hb) e
end
section
variable {B : ab} {n : Nat} {L : Addr} {H : HL} {loc : LL} {objs pre post : OL} {a : Addr} {o o' : AO}
theorem am.change {F : Fz} {s s' : Shared} {Ψ : Fz → St → Prop} (x : Holds B.P B.G L F H ⟨loc, pre ++ (a, o) :: post⟩ s.heap) {c : Addr} (hc : c = a ∨ c ∈ o.more) (em : o'.more = o.more)
 (k : ∀ b y, b ≠ L → b ≠ c → s.heap.get? b = some y → s'.heap.get? b = some y) (hl : ∃ m, s'.heap.Ns L m ∧ ∀ x d, (x, some d) ∈ loc → ∃ v, m x = some v ∧ Is B.P F v d) (q : OAt B.P F s'.heap a o') (g : s'.gens = s.gens) (os : s'.os = s.os) (z : Ψ F ⟨loc, pre ++ (a, o') :: post⟩) :
 am B L H ⟨loc, pre ++ (a, o) :: post⟩ F s s' Ψ := by
 have hco : c ∈ L :: ad (pre ++ (a, o) :: post) := .tail _ (aH.mpr ⟨(a, o), by simp, by rcases hc with h | h; exact .inl h; exact .inr h⟩)
 refine ⟨F, _, x.change hc em k hl q, ⟨fun b y hb e => k b y (fun z => hb (z ▸ .head _)) (fun z => hb (z ▸ hco)) e, fun b hb => .inl ?_, fun b y e => .inl e, .refl F, .of g, os⟩, z⟩
 rw [show ad (pre ++ (a, o') :: post) = ad (pre ++ (a, o) :: post) from by rw [cr, cr, em]] at hb
 exact hb
end
end
section
variable {f : Addr} {args : List AV} {Φ : AV → OL → Prop}
structure dT (P : Params) (G : Heap) (F : Fz) (os : OL) (h : Heap) : Prop where
 core : ∀ b o, G.get? b = some o → F b = some o
 sub : ∀ b o, F b = some o → h.get? b = some o
 objs : ∀ p ∈ os, OAt P F h p.1 p.2
 nodup : (ad os).Nodup
 apart : ∀ b ∈ ad os, F b = none
 big : G.objs.size ≤ h.objs.size
inductive s6 (B : ab) (objs : OL) (F : Fz) (s : Shared) (Φ : AV → OL → Prop) (r : Result) (s' : Shared) : Prop
 | mk (v : Value) (d : AV) (objs' : OL) (F' : Fz) (e : r = .ok (.ret v)) (i : Is B.P F' v d) (y : dT B.P B.G F' objs' s'.heap) (p : aM (ad objs) F s (ad objs') F' s') (q : Φ d objs')
noncomputable def aa (B : ab) (n : Nat) (f : Addr) (args : List AV) (objs : OL) (Φ : AV → OL → Prop) : Prop :=
 ∀ A F s vs, cA n A → dT B.P B.G F objs s.heap → IsAll B.P F vs args →
  codeAny B.M A (.call (.ref f) ⟨vs, []⟩) (s6 B objs F s Φ) s
theorem aa.mono {n : Nat} {objs : OL} {Φ' : AV → OL → Prop} (h : aa B n f args objs Φ) (k : ∀ d o, Φ d o → Φ' d o) : aa B n f args objs Φ' :=
 fun A F s vs hA x hv => codeAny_mono (h A F s vs hA x hv) fun _ _ ⟨v, d, o, F', a, b, c, e, q⟩ => ⟨v, d, o, F', a, b, c, e, k _ _ q⟩
theorem aa.room {n m : Nat} {objs : OL} (h : aa B m f args objs Φ) (e : m ≤ n) : aa B n f args objs Φ :=
 fun A F s vs hA x hv => h A F s vs (hA.le e) x hv
section
variable {P : Params} {G : Heap} {L : Addr} {F : Fz} {H : HL} {h : Heap} {σ : St}
theorem Holds.big (x : Holds P G L F H σ h) : G.objs.size ≤ h.objs.size := by
 obtain ⟨m, ⟨o, _, _, ho, _⟩, _⟩ := x.loc
 exact Nat.le_of_lt (Nat.lt_of_le_of_lt x.low (Heap.lt_size ho))
theorem Holds.call (x : Holds P G L F H σ h) : dT P G F σ.objs h :=
 ⟨x.core, x.sub, x.objs, (List.nodup_cons.mp x.nodup).2, fun b hb => x.apart b (.tail _ hb), x.big⟩
theorem Holds.back {B : ab} {s s' : Shared} {F' : Fz} {objs' : OL} (x : Holds B.P B.G L F H σ s.heap) (y : dT B.P B.G F' objs' s'.heap) (p : aM (ad σ.objs) F s (ad objs') F' s') :
 Holds B.P B.G L F' H ⟨σ.loc, objs'⟩ s'.heap ∧ aM (L :: ad σ.objs) F s (L :: ad objs') F' s' := by
 have hL : L ∉ ad σ.objs := (List.nodup_cons.mp x.nodup).1
 obtain ⟨oL, hoL⟩ := x.there L (.head _)
 have hL' : L ∉ ad objs' := fun hm => by
  rcases p.own L hm with q | q
  · exact hL q
  · rw [hoL] at q; contradiction
 refine ⟨⟨y.core, y.sub, ?_, x.names, y.objs, List.nodup_cons.mpr ⟨hL', y.nodup⟩, fun b hb => ?_, fun q hq => (x.held q hq).mono p.mono, x.low⟩, ⟨fun b o hb e => p.keep b o (fun hm => hb (.tail _ hm)) e, fun b hb => ?_, fun b o e => ?_, p.mono, p.gens, p.os⟩⟩
 · obtain ⟨m, ⟨o, es, ep, e1, r1⟩, r⟩ := x.loc
   exact ⟨m, ⟨o, es, ep, p.keep _ _ hL e1, r1⟩, fun z d hz => let ⟨v, e, q⟩ := r z d hz; ⟨v, e, q.mono p.mono⟩⟩
 · rcases mC0 hb with rfl | hb
   · induction q : F' b using Option.casesOn with
     | none => rfl
     | some o =>
      rcases p.frz b o q with z | z | z
      · rw [x.apart b (.head _)] at z; contradiction
      · exact absurd z hL
      · rw [hoL] at z; contradiction
   · exact y.apart b hb
 · rcases mC0 hb with rfl | hb
   · exact .inl (.head _)
   · exact (p.own b hb).imp_left (.tail _)
 · rcases p.frz b o e with z | z | z
   · exact .inl z
   · exact .inr (.inl (.tail _ z))
   · exact .inr (.inr z)
end
section
variable {B : ab} {n : Nat} {L : Addr} {H : HL} {σ : St} {env : Env}
theorem fz {P : Params} {F : Fz} {G : Heap} {h : Heap} (x : Holds P G L F H σ h) : ∀ {vs : List Value} {ds : List AV}, vs.length = ds.length → (∀ p ∈ vs.zip ds, p ∈ H) → IsAll P F vs ds
 | [], [], _, _ => .nil
 | v :: vs, d :: ds, e, k => .cons (x.held _ (k _ (.head _))) (fz x (Nat.succ.inj e) fun p hp => k p (.tail _ hp))
theorem uj {f : Addr} {vs : List Value} {ds : List AV} {Φ : PV} (e : vs.length = ds.length) (k : ∀ p ∈ vs.zip ds, p ∈ H)
 (c : aa B n f ds σ.objs fun d objs' => ∀ v, Φ v d ⟨σ.loc, objs'⟩) : WV B n L (call (.ref f) vs) H σ Φ := ae fun A F s hA x => by
 refine wpAny_call (codeAny_mono (c A F s vs hA x.call (fz x e k)) fun r s' z => ?_)
 obtain ⟨v, d, objs', F', rfl, hd, y, p, q⟩ := z
 obtain ⟨x', p'⟩ := x.back y p
 exact ⟨F', _, x', p', d, hd, q v⟩
noncomputable abbrev WL (B : ab) (n : Nat) (L : Addr) (t : Sem (List Value)) (H : HL) (σ : St) (Φ : List Value → List AV → St → Prop) : Prop :=
 W B n L t H σ (fun vs F' σ' => ∃ ds, IsAll B.P F' vs ds ∧ Φ vs ds σ')
theorem mK {pos} {Φ : List Value → List AV → St → Prop} (h : Φ [] [] σ) : WL B n L (spliced (backTo pos (starEach [] env))) H σ Φ := ae fun _ _ _ _ x => spliced_nil (.here x ⟨[], .nil, h⟩)
theorem mV {e : Expr} {rest : List Expr} {pos} {Φ : List Value → List AV → St → Prop}
 (h : WV B n L (eval e env) H σ fun v d σ₁ => WL B n L (spliced (backTo pos (starEach rest env))) ((v, d) :: H) σ₁ fun vs ds σ₂ => Φ (v :: vs) (d :: ds) σ₂)
 (he : autoParam (starEach (e :: rest) env = (false, eval e env) :: starEach rest env) bR) : WL B n L (spliced (backTo pos (starEach (e :: rest) env))) H σ Φ := ae fun A F s hA x => by
 refine he ▸ ?_
 refine spliced_cons (wpAny_mono (h.run A F s hA x) (fun v s₁ z => z.then fun F₁ σ₁ x₁ ⟨d, hd, w⟩ => ?_) fun _ _ z => z)
 refine wpAny_mono (w.run A F₁ s₁ hA (x₁.push hd)) (fun vs s₂ z => ?_) fun _ _ z => z
 exact (z.fin fun F₂ σ₂ x₂ ⟨ds, hds, q⟩ => .here x₂ ⟨d :: ds, .cons (x₂.hold (.head _)) hds, q⟩).weaken fun _ hp => .tail _ hp
theorem c8 {M : Model} {A : Around} {E : Value → Shared → Prop} {s : Shared} {f : Value} {args : List (Bool × Sem Value)} {Q : Args → Shared → Prop} (hp : args.any (·.1) = false)
 (h : wpAny M A (spliced args) (fun vs s' => Q ⟨vs, []⟩ s') E s) : wpAny M A (evalArgs f true args []) Q E s := by
 induction args using List.casesOn with
 | nil =>
  unfold evalArgs
  exact wpAny_bind (wpAny_mono h (fun vs s' z => wpAny_bind (wpAny_pure (wpAny_holding (wpAny_bind (wpAny_pure (wpAny_bind (wpAny_pure (wpAny_pure z)))))))) fun _ _ z => z)
 | cons a r =>
  obtain ⟨b, x⟩ := a
  induction b using Bool.casesOn with
  | true => simp at hp
  | false => exact evalArgs_plain h
theorem gT {first : List Value} {args : List Expr} {pos} {Φ : PV} (hk : keepIn B.K (.ref f) = true)
 (h : WL B n L (spliced (backTo pos (starEach args env))) H σ fun vs ds σ₁ => WV B n L (call (.ref f) (first ++ vs)) (vs.zip ds ++ H) σ₁ Φ)
 (hp : autoParam ((backTo pos (starEach args env)).any (·.1) = false) bR) : WV B n L (callWith pos (.ref f) first (backTo pos (starEach args env)) []) H σ Φ := ae fun A F s hA x => by
 refine callWith_of (by rw [hp]; rfl) (keeps_K hk) (c8 hp (wpAny_mono (h.run A F s hA x) (fun vs s₁ z => ⟨?_, ?_⟩) fun _ _ z => z))
 · obtain ⟨_, _, x₁, _⟩ := z
   exact B.X.keeps fun b o e => x₁.sub _ _ (x₁.core _ _ e)
 · refine z.then fun F₁ σ₁ x₁ ⟨ds, hds, w⟩ => ?_
   have x₂ : Holds B.P B.G L F₁ (vs.zip ds ++ H) σ₁ s₁.heap := ⟨x₁.core, x₁.sub, x₁.loc, x₁.names, x₁.objs, x₁.nodup, x₁.apart, fun p hp => by
    rcases List.mem_append.mp hp with hp | hp
    · exact zip_is hds p hp
    · exact x₁.held p hp, x₁.low⟩
   exact wpAny_mono (w.run A F₁ s₁ hA x₂) (fun _ _ y => y.weaken fun _ hp => List.mem_append_right _ hp) fun _ _ z => z
where
 zip_is {P : Params} {F : Fz} {vs : List Value} {ds : List AV} (h : IsAll P F vs ds) : ∀ p ∈ vs.zip ds, Is P F p.1 p.2 := h.ind (C := fun vs ds => ∀ p ∈ vs.zip ds, Is P F p.1 p.2) (fun _ hp => nomatch hp) fun _ _ _ _ h _ c => List.forall_mem_cons.mpr ⟨h, c⟩
end
section
variable {B : ab} {n : Nat} {objs : OL}
noncomputable def ko (Φ : AV → OL → Prop) : PF
 | .ret d, σ => Φ d σ.objs
 | .next, σ => Φ .none σ.objs
 | _, _ => False
theorem kB {P : Params} {F : Fz} {fl : Flow} {e : Fl} {σ' : St} (he : iz P F fl e) (q : ko Φ e σ') : ∃ d, Is P F (match fl with | .ret v => v | _ => .none) d ∧ Φ d σ'.objs := by
 rcases fl with _ | _ <;> rcases e with _ | _ <;> first | exact he.elim | exact q.elim | exact ⟨_, he, q⟩ | exact ⟨_, .none, q⟩
theorem un (h : Heap) : h.get? h.objs.size = none := Option.eq_none_iff_forall_ne_some.mpr fun _ q => absurd (Heap.lt_size q) (Nat.lt_irrefl _)
theorem Ar {name qual : Str} {params : Arguments} {body : List Stmt} {scope : Scope} {dV kV doc pm cdv ct oc : Value} {an od : Option Addr} {osl : Array (Option Value)} {loc : LL}
 (ho : B.K.lookup f = some ⟨oc, od, .func (fnOf name qual params body scope dV kV doc pm an cdv ct), osl⟩) (hcd : codeIn B.K cdv qual = true)
 (hb : ∀ (F : Fz) (s : Shared) (vs : List Value), IsAll B.P F vs args → B.K.In s.heap → (∀ b o, B.G.get? b = some o → F b = some o) → ∃ binds, BindsTo s (fnOf name qual params body scope dV kV doc pm an cdv ct) ⟨vs, []⟩ binds ∧ (∀ y ∈ binds, scope.names.lookup y.1 = some .local) ∧
  ∀ x d, (x, some d) ∈ loc → ∃ v, binds.reverse.lookup x = some v ∧ Is B.P F v d)
 (hn : (loc.map (·.1)).Nodup) (h : ∀ L, WF B n L (execs body (envOf qual scope L f cdv)) [] ⟨loc, objs⟩ (ko Φ))
 (hco : autoParam (scope.isCoroutine = false) bR) (hgen : autoParam (scope.isGenerator = false) bR) (hk : autoParam (scope.kind = .function) bR) (hcell : ∀ x ∈ scope.names, x.2 ≠ .cell := by decide) : aa B (n + 1) f args objs Φ := by
 intro A F s vs hA x hvs
 have up : ∀ b o, B.G.get? b = some o → s.heap.get? b = some o := fun b o e => x.sub _ _ (x.core _ _ e)
 refine x13 (hb F s vs hvs (B.X.keeps up) x.core) ?_; rintro binds hbind hloc hl
 refine codeAny_call_def (fd := fnOf name qual params body scope dV kV doc pm an cdv ct) (body := body) (binds := binds) (by have := hA.depth; show A.depth < 1000; omega) ((B.X.keeps up) _ _ ho) rfl (B.nolimit.keeps up)
  (codeRec_of (B.X.keeps up) hcd) rfl hbind hcell hloc (fun h₁ hns hk₁ => ?_) hco hgen hk
 have hL := un s.heap
 have there : ∀ b ∈ ad objs, ∃ o, s.heap.get? b = some o := fun b hb => by
  refine x12 (aH.mp hb) ?_; rintro p hp hb
  exact (x.objs p hp).there b hb
 have hLo : s.heap.objs.size ∉ ad objs := fun hm => by obtain ⟨o, ho⟩ := there _ hm; rw [hL] at ho; contradiction
 have hLF : F s.heap.objs.size = none := Option.eq_none_iff_forall_ne_some.mpr fun o q => nomatch (x.sub _ _ q).symm.trans hL
 have X : Holds B.P B.G s.heap.objs.size F [] ⟨loc, objs⟩ h₁ :=
  ⟨x.core, fun b o e => hk₁ _ _ (x.sub _ _ e), ⟨_, hns, hl⟩, hn, fun p hp => (x.objs p hp).move (.refl F) fun b o _ e => hk₁ _ _ e, List.nodup_cons.mpr ⟨hLo, x.nodup⟩,
   fun b hb => by rcases mC0 hb with rfl | hb; exact hLF; exact x.apart b hb, fun _ hp => (nomatch hp), x.big⟩
 have hA' : cA n (A.deeper (callEnv (fnOf name qual params body scope dV kV doc pm an cdv ct) s.heap.objs.size f)) :=
  ⟨hA.handled, by have := hA.depth; show A.depth + 1 + n ≤ 900; omega, by have := hA.units; show A.units + 3 + 8 * n ≤ 9000; omega⟩
 refine wpAny_mono ((h s.heap.objs.size).run _ F { s with heap := h₁, toks := s.toks + binds.length } hA' X) (fun fl s' z => ?_) fun _ _ z => z.elim
 obtain ⟨F', σ', x', p, e, he, q⟩ := z
 refine x12 (kB he q) ?_; rintro d hd q
 exact .mk _ d σ'.objs F' rfl hd x'.call ((p.over (fun b hb => (mC0 hb).elim (fun e => .inr (e ▸ hL)) .inl) hk₁ (.refl _) rfl).fewer fun _ => .tail _) q
end
end
section
variable {x C dx : Addr} {fs : FL} {name : Str} {v₀ : Value} {d : AV}
inductive Chg (a : Addr) (o o' : AO) : OL → OL → Prop
 | head {r} : Chg a o o' ((a, o) :: r) ((a, o') :: r)
 | tail {p r r'} : Chg a o o' r r' → Chg a o o' (p :: r) (p :: r')
theorem Chg.split {a : Addr} {o o' : AO} {l l' : OL} (h : Chg a o o' l l') : ∃ pre post, l = pre ++ (a, o) :: post ∧ l' = pre ++ (a, o') :: post := by
 induction h with
 | head => exact ⟨[], _, rfl, rfl⟩
 | @tail p _ _ _ ih =>
  refine x22 (ih) ?_; clear ih; rintro pre post e e'
  exact ⟨p :: pre, post, congrArg (List.cons p) e, congrArg (List.cons p) e'⟩
section
variable {B : ab} {n : Nat} {L : Addr} {H : HL} {σ : St} {env : Env}
theorem Holds.K {F : Fz} {h : Heap} (x : Holds B.P B.G L F H σ h) : B.K.In h := B.X.keeps fun b o e => x.sub _ _ (x.core _ _ e)
theorem vy {expr : Bool} {Φ : PV} (mv : (v₀, .ref x) ∈ H) (m : (x, AO.inst C dx fs) ∈ σ.objs) (ho : cR B.K C name = true)
 (hf : bp name fs = some d) (hd : dw d = true) (h : ∀ v, Φ v d σ) : WV B n L (getAttr v₀ name expr) H σ Φ := by
 refine ae fun A F s hA X => ?_
 obtain rfl := aE (X.hold mv)
 obtain ⟨h1, es, k, h2, h3⟩ := X.objs _ m
 refine x12 (jV h3 hf) ?_; rintro v e1 e2
 simp only [cR, Bool.and_eq_true] at ho
 obtain ⟨⟨hg, hh⟩, hn⟩ := ho
 induction ha : findIn B.K (.ref C) name using Option.casesOn with
 | none => rw [ha] at hn; exact Bool.noConfusion hn
 | some attr =>
  rw [ha] at hn
  exact get_value X.K (⟨h1, rfl, rfl, h2⟩ : InstAt s.heap x (instObj C dx) C (some (dictOf es k))) (plainGet_of hg).1 (findObj_own hh ha hn (by rw [lookIn_dict]; exact e1)) (nG e2 hd) (.toks X ⟨d, e2, h v⟩)
theorem rM {f : Addr} {expr : Bool} {Φ : PV} (mv : (v₀, .ref x) ∈ H) (m : (x, AO.inst C dx fs) ∈ σ.objs) (ho : bP B.K C name f = true)
 (hf : bp name fs = none) (h : ∀ v, Φ v (.meth f x) σ) : WV B n L (getAttr v₀ name expr) H σ Φ := by
 refine ae fun A F s hA X => ?_
 obtain rfl := aE (X.hold mv)
 obtain ⟨h1, es, k, h2, h3⟩ := X.objs _ m
 simp only [bP, Bool.and_eq_true, beq_iff_eq, Bool.not_eq_true'] at ho
 obtain ⟨⟨⟨⟨⟨⟨hg, hh⟩, ha⟩, hfn⟩, hgf⟩, ht⟩, hc⟩ := ho
 refine get_bind X.K (⟨h1, rfl, rfl, h2⟩ : InstAt s.heap x (instObj C dx) C (some (dictOf es k))) (plainGet_of hg).1 (findObj_fn hh ha hgf ht hc (by rw [lookIn_dict]; exact eU h3 hf)) (plainGet_of hg).2
  (wpAny_call (fn_get (s := { s with toks := s.toks + 1 }) X.K (beq_iff_eq.mp hfn) (handed_on rfl ?_)))
 exact am.fresh X (fun b o e => Heap.get?_push_of_some _ e) (by
  induction q : s.heap.get? s.heap.objs.size using Option.casesOn with
  | none => rfl
  | some o => exact absurd (Heap.lt_size q) (Nat.lt_irrefl _)) (Heap.get?_push_size _ rfl) rfl rfl fun le => ⟨_, .meth (Fz.put_self ..), h _⟩
theorem p7 {f : Addr} {pl : Sem Bool} {Ψ : Value × List Value → Fz → St → Prop} (mv : (v₀, .ref x) ∈ H) (m : (x, AO.inst C dx fs) ∈ σ.objs) (ho : bP B.K C name f = true)
 (hf : bp name fs = none) (h : ∀ F, Ψ (.ref f, [v₀]) F σ) : W B n L (getMethod v₀ name pl) H σ Ψ := by
 refine ae fun A F s hA X => ?_
 obtain rfl := aE (X.hold mv)
 obtain ⟨h1, es, k, h2, h3⟩ := X.objs _ m
 simp only [bP, Bool.and_eq_true, beq_iff_eq, Bool.not_eq_true'] at ho
 obtain ⟨⟨⟨⟨⟨⟨hg, hh⟩, ha⟩, hfn⟩, hgf⟩, ht⟩, hc⟩ := ho
 exact method_fn X.K (⟨h1, rfl, rfl, h2⟩ : InstAt s.heap x (instObj C dx) C (some (dictOf es k))) (plainGet_of hg).1 (plainGet_of hg).2 ha (beq_iff_eq.mp hfn) (by
  show (lookIn name (dictOf es k)).map _ = _
  rw [lookIn_dict, eU h3 hf]; rfl) (.here X (h F))
theorem gx {pl : Sem Bool} {Ψ : Value × List Value → Fz → St → Prop} (mv : (v₀, .ref x) ∈ H) (m : (x, AO.inst C dx fs) ∈ σ.objs)
 (ho : cR B.K C name = true) (hn : findIn B.K (.ref C) name = some none) (hf : bp name fs = some d) (hd : dw d = true) (h : ∀ v F, Is B.P F v d → Ψ (v, []) F σ) : W B n L (getMethod v₀ name pl) H σ Ψ := by
 refine ae fun A F s hA X => ?_
 have mv' := mv
 obtain rfl := aE (X.hold mv)
 obtain ⟨h1, es, k, h2, h3⟩ := X.objs _ m
 have hg : plainGet B.K C name = true := by
  simp only [cR, Bool.and_eq_true] at ho
  exact ho.1.1
 refine method_usual X.K (⟨h1, rfl, rfl, h2⟩ : InstAt s.heap x (instObj C dx) C (some (dictOf es k))) (plainGet_of hg).1 (plainGet_of hg).2 hn rfl ?_
 refine wpAny_mono ((vy (n := n) (Φ := fun _ e σ' => e = d ∧ σ' = σ) mv m ho hf hd (fun _ => ⟨rfl, rfl⟩)).run A F s hA X) (fun v s' z => ?_) fun _ _ z => z
 obtain ⟨F', σ', X', p, e, he, rfl, rfl⟩ := z
 exact ⟨F', _, X', p, h v F' he⟩
theorem v6 {v : Value} {objs' : OL} {Φ : St → Prop} (mv : (v₀, .ref x) ∈ H) (md : (v, d) ∈ H) (m : Chg x (.inst C dx fs) (.inst C dx (c5 name d fs)) σ.objs objs')
 (ho : dr B.K C name = true) (hz : fs.length ≤ 900) (h : Φ ⟨σ.loc, objs'⟩) : WU B n L (setAttr v₀ name v) H σ Φ := by
 refine ae fun A F s hA X => ?_
 obtain ⟨loc, objs⟩ := σ
 refine x22 (m.split) ?_; rintro pre post rfl rfl
 obtain rfl := aE (X.hold mv)
 have hd := X.hold md
 obtain ⟨h1, es, k, h2, h3⟩ := X.objs (x, .inst C dx fs) (by simp)
 simp only [dr, Bool.and_eq_true, beq_iff_eq] at ho
 obtain ⟨⟨⟨hs, hp⟩, ht⟩, hh⟩ := ho
 refine x12 (X.frame) ?_; rintro m₀ FR hl
 have hdo : dx ∈ ad (pre ++ (x, AO.inst C dx fs) :: post) := aH.mpr ⟨(x, .inst C dx fs), by simp, .inr (.head _)⟩
 have hdx : dx ∈ L :: ad (pre ++ (x, AO.inst C dx fs) :: post) := .tail _ hdo
 have neL : dx ≠ L := fun e => (List.nodup_cons.mp X.nodup).1 (e ▸ hdo)
 have nex : x ≠ dx := fun e => by
  have := (List.nodup_cons.mp X.nodup).2
  rw [show (⟨loc, pre ++ (x, AO.inst C dx fs) :: post⟩ : St).objs = _ from rfl, cr] at this
  have := (List.nodup_append.mp this).2.1
  exact (List.nodup_cons.mp this).1 (by exact (e) ▸ (.head _))
 have nxL : x ≠ L := fun e => (List.nodup_cons.mp X.nodup).1 (e ▸ aH.mpr ⟨(x, .inst C dx fs), by simp, .inl rfl⟩)
 have N : News B.G L s.heap ((dx, dictOf es k) :: iq B.G s.heap L [dx]) := fun p hp => by
  rcases mC0 hp with rfl | hp
  · exact ⟨h2, neL, X.outG hdx⟩
  · exact kA _ hp
 refine set_dict FR B.X N (⟨h1, rfl, rfl, h2⟩ : InstAt s.heap x (instObj C dx) C (some (dictOf es k))) rfl hs hp ht hh (nA h3) (es' := _) (n' := _) rfl
  (Upd.head fun p hp => by
   obtain ⟨a, o⟩ := p
   exact fun e => (fw.mp hp).2.2.1 (e ▸ .head _)) ?_ fun h' F' N' => ?_
 · have e1 := eH h3
   have e2 : (putL name (PyData.keyHash B.w.params name) (.str name (s.toks + 1)) v es).length = _ := eH (gZ (x := name) (t := s.toks + 1) hd h3)
   have : ∀ fs : FL, (c5 name d fs).length ≤ fs.length + 1 := by
    intro fs
    induction fs with
    | nil => simp [c5]
    | cons p r ih =>
     unfold c5
     split
     · simp
     · simp only [List.length_cons]; exact Nat.lt_succ_of_le ‹_›
   have := this fs
   omega
 · have keep : ∀ b o, b ≠ L → b ≠ dx → s.heap.get? b = some o → h'.get? b = some o := fun b o q1 q2 e =>
    ti (fun b o e => X.sub _ _ (X.core _ _ e)) F' N' (ex := [dx]) (h := s.heap) (fun p hp => .tail _ hp) b o q1 (fun hm => q2 (List.mem_singleton.mp hm)) e
   exact am.change (o' := .inst C dx (c5 name d fs)) X (c := dx) (.inr (.head _)) rfl (fun b o q1 q2 e => keep b o q1 q2 e) ⟨m₀, F'.ns, hl⟩ ⟨keep _ _ nxL nex h1, _, _, (N' _ (.head _)).1, gZ hd h3⟩ rfl rfl h
end
end
section
variable {x attr : Str} {d : AV} {l l' : LL} {Φ : PV} {e o : Expr}
inductive e5 (x : Str) (d : AV) : LL → LL → Prop
 | hit {o r} : e5 x d ((x, o) :: r) ((x, some d) :: r)
 | skip {p r r'} : e5 x d r r' → e5 x d (p :: r) (p :: r')
theorem e5.keys (h : e5 x d l l') : l'.map (·.1) = l.map (·.1) := by
 induction h with
 | hit => rfl
 | skip _ ih => exact congrArg (List.cons _) ih
theorem e5.isKey (h : e5 x d l l') : x ∈ l.map (·.1) := by
 induction h with
 | hit => exact .head _
 | skip _ ih => exact .tail _ ih
theorem e5.mem {y : Str} {e : AV} (s : e5 x d l l') (n : (l.map (·.1)).Nodup) (h : (y, some e) ∈ l') : (y = x ∧ e = d) ∨ (y ≠ x ∧ (y, some e) ∈ l) := by
 induction s with
 | hit =>
  rcases mC0 h with h | h
  · cases h; exact .inl ⟨rfl, rfl⟩
  · exact .inr ⟨fun z => (List.nodup_cons.mp n).1 (List.mem_map.mpr ⟨(y, some e), h, z⟩), .tail _ h⟩
 | skip s ih =>
  rcases mC0 h with h | h
  · subst h; exact .inr ⟨fun z => (List.nodup_cons.mp n).1 (z ▸ s.isKey), .head _⟩
  · exact (ih (List.nodup_cons.mp n).2 h).imp_right fun q => ⟨q.1, .tail _ q.2⟩
section
variable {B : ab} {n : Nat} {L : Addr} {H : HL} {σ : St} {env : Env}
theorem sx {v : Value} {loc' : LL} {Φ : St → Prop} (md : (v, d) ∈ H) (m : e5 x d σ.loc loc') (h : Φ ⟨loc', σ.objs⟩) (hl : autoParam (env.kindOf x = some .local) bR)
 (hL : autoParam (env.locals = L) bR) (hp : autoParam ((env.scope.kind == .class || (env.scope.kind == .module && env.locals != env.globals)) = false) bR) : WU B n L (storeName env x v) H σ Φ := by
 refine ae fun A F s hA X => ?_
 subst hL
 refine x12 (X.loc) ?_; rintro m₀ hns r
 refine wpAny_storeName_local hl hns (fun h' hn hs => ?_) hp
 have keep : ∀ b o, b ≠ env.locals → s.heap.get? b = some o → h'.get? b = some o := fun b o q e => (hs.2 b q).trans e
 refine ⟨F, ⟨loc', σ.objs⟩, ⟨X.core, fun b o e => keep b o (fun z => ?_) (X.sub _ _ e), ⟨_, hn, fun y e hy => ?_⟩, by refine m.keys ▸ ?_; exact X.names, fun p hp => (X.objs p hp).move (.refl F) fun b o hb e => keep b o (fun z => ?_) e,
  X.nodup, X.apart, X.held, X.low⟩, ⟨fun b o hb e => keep b o (fun z => hb (z ▸ .head _)) e, fun b hb => .inl hb, fun b o e => .inl e, .refl F, .refl _, rfl⟩, h⟩
 · have := X.apart b (z ▸ .head _)
   rw [e] at this; contradiction
 · rcases m.mem X.names hy with ⟨rfl, rfl⟩ | ⟨q, hy⟩
   · exact ⟨v, if_pos rfl, X.hold md⟩
   · refine x12 (r y e hy) ?_; rintro w e1 e2
     exact ⟨w, by refine (if_neg q) ▸ ?_; exact e1, e2⟩
 · exact (List.nodup_cons.mp X.nodup).1 (z ▸ aH.mpr ⟨p, hp, hb⟩)
theorem vP {d} (hm : (x, some d) ∈ σ.loc) (h : ∀ v, Φ v d σ) (hk : autoParam (env.scope.kind = .function) bR) (hl : autoParam (env.kindOf x = some .local) bR)
 (hL : autoParam (env.locals = L) bR) : WV B n L (loadName env x) H σ Φ := by
 refine ae fun A F s hA X => ?_
 refine x12 (X.loc) ?_; rintro m hns r
 refine x12 (r x d hm) ?_; rintro v e q
 exact wpAny_loadName_local hk hl (hL.symm ▸ hns) e (.here X ⟨d, q, h v⟩)
theorem xZ {pos} (h : WV B n L (eval e env) H σ fun o d σ₁ => WV B n L (getAttr o attr true) ((o, d) :: H) σ₁ Φ)
 (he : autoParam (eval (.Attribute e attr pos) env = (do
  let o ← eval e env
  standAt pos.atName
  let r ← holding [o] (getAttr o attr true)
  letTemporaryGo e o r
  pure r)) bW) : WV B n L (eval (.Attribute e attr pos) env) H σ Φ := by
 rw [he]
 refine aj (af h fun o d σ₁ w => al (aj (ag (af w fun r d₂ σ₂ q => ?_))))
 exact ae fun A F s hA x => wpAny_bind (wpAny_letTemporaryGo (wpAny_pure (.here x ⟨_, x.hold (.head _), q⟩)))
theorem kT {name : Str} {apos pos} {args : List Expr} {pl : Sem Bool}
 (h : WV B n L (eval o env) H σ fun ov d σ₁ => W B n L (getMethod ov name pl) ((ov, d) :: H) σ₁ fun p _ σ₂ => WV B n L (callWith pos p.1 p.2 (backTo pos (starEach args env)) []) ((ov, d) :: H) σ₂ Φ)
 (he : autoParam (eval (.Call (.Attribute o name apos) args [] pos) env = (do
  let ov ← eval o env
  standAt apos.atName
  let (f, first) ← holding [ov] (getMethod ov name pl)
  callWith pos f first (backTo pos (starEach args env)) [])) bR) : WV B n L (eval (.Call (.Attribute o name apos) args [] pos) env) H σ Φ := by
 rw [he]
 refine aj (af h fun ov d σ₁ w => al ?_)
 exact eT (ag w) fun p F σ₂ q => ⟨(ov, d) :: H, fun _ h => h, fun _ h => .inl h, q⟩
theorem gr {f : Expr} {args : List Expr} {pos}
 (h : WV B n L (eval f env) H σ fun fv d σ₁ => WV B n L (callWith pos fv [] (backTo pos (starEach args env)) []) ((fv, d) :: H) σ₁ Φ)
 (he : autoParam (eval (.Call f args [] pos) env = (do callWith pos (← eval f env) [] (backTo pos (starEach args env)) [])) bR) : WV B n L (eval (.Call f args [] pos) env) H σ Φ := by
 rw [he]
 exact aj h
theorem cU {p pos} {Φ : PF}
 (h : WV B n L (eval e env) H σ fun v d σ₁ => WV B n L (eval o env) ((v, d) :: H) σ₁ fun ov od σ₂ => WU B n L (setAttr ov attr v) ((ov, od) :: (v, d) :: H) σ₂ fun σ₃ => Φ .next σ₃)
 (hs : autoParam (swapsWith e (some (.Attribute o attr p)) pos.line env = pure false) bR) : WF B n L (exec (.Assign [.Attribute o attr p] e pos) env) H σ Φ := by
 rw [plainObj_exec_Assign_Attribute o attr p e pos hs]
 refine al (aj (af h fun v d σ₁ w => ?_))
 rw [arm_assign_Attribute]
 refine bT (aj (ag (af w fun ov od σ₂ w₂ => al (bT (ag (di w₂ fun σ₃ q => ?_))))))
 exact dC (fk q)
theorem om {p pos op} {Φ : PF}
 (h : WV B n L (eval o env) H σ fun ov od σ₁ => WV B n L (getAttr ov attr true) ((ov, od) :: H) σ₁ fun a d σ₂ => WV B n L (eval e env) ((a, d) :: (ov, od) :: H) σ₂ fun b y σ₃ =>
  WV B n L (inplaceOp op a b) ((b, y) :: (a, d) :: (ov, od) :: H) σ₃ fun c z σ₄ => WU B n L (setAttr ov attr c) ((c, z) :: (ov, od) :: H) σ₄ fun σ₅ => Φ .next σ₅) :
 WF B n L (exec (.AugAssign (.Attribute o attr p) op e pos) env) H σ Φ := by
 rw [arm_exec_AugAssign_2]
 refine al (aj (af h fun ov od σ₁ w => aj (ag ?_)))
 refine al (aj (af w fun a d σ₂ w₂ => aj (ag (af w₂ fun b y σ₃ w₃ => al (c0 (af w₃ fun c z σ₄ w₄ => ?_))))))
 refine al (bT (ag (di w₄ fun σ₅ q => ?_)))
 exact ae fun A F s hA x => wpAny_bind (wpAny_release (wpAny_pure (.here x ⟨.next, trivial, q⟩)))
end
end
section
variable {M : Model} {p pos : Pos} {s s' : Shared} {α : Type} {elts : List Expr} {Φ : PV} {loc : LL} {objs : OL}
theorem ee (s : Shared) (g : Nat) (x : GenState) : (s.setGen g x).toks = s.toks := rfl
theorem gf {Γ : Ctx} {t : Sem Fin} {fs : List Frame} {e : End} (h : Runs M Γ p t fs s e s') : s.toks ≤ s'.toks := by
 induction h <;> (try simp only [ee] at *) <;> (try dsimp only at *) <;> omega
theorem lG {Γ : Ctx} {g : Nat} {r : Resume} {res : GenResult} (h : Wakes M Γ p g r s res s') : s.toks ≤ s'.toks := by
 unfold Wakes at h
 split at h
 · exact h.elim
 · split at h
   · refine x24 (h) ?_; clear h; rintro e s₁ h1 _ _ rfl
     have := gf h1
     simpa only [ee] using this
   · obtain ⟨_, rfl⟩ := h; exact Nat.le_refl _
   · obtain ⟨_, rfl⟩ := h; exact Nat.le_refl _
 · refine x24 (h) ?_; clear h; rintro e s₁ h1 _ _ rfl
   have := gf h1
   simpa only [ee] using this
 · obtain ⟨_, rfl⟩ := h; exact Nat.le_refl _
 · obtain ⟨_, rfl⟩ := h; exact Nat.le_refl _
theorem mW (M : Model) (Γ : Ctx) (t : Sem α) {Q : α → Pos → Shared → Prop} {E : Value → Pos → Shared → Prop} (n : Nat) (hn : n ≤ s.toks) (h : Sem.wp M Γ t Q E p s) : Sem.wp M Γ t (fun a p' s' => n ≤ s'.toks ∧ Q a p' s') E p s := by
 induction t generalizing p s with
 | pure a => exact ⟨hn, h⟩
 | raise e => exact h
 | call c hd g l k ih =>
  refine x22 (h) ?_; clear h; rintro r s₁ h1 h2
  exact ⟨r, s₁, h1, ih r (nT0 hn (gf h1)) h2⟩
 | resume g r l k ih =>
  refine x22 (h) ?_; clear h; rintro r s₁ h1 h2
  exact ⟨r, s₁, h1, ih r (nT0 hn (lG h1)) h2⟩
 | fresh k ih => exact ih _ (Nat.le_succ_of_le hn) h
 | load a part k ih => refine x12 (h) ?_; clear h; rintro o h1 h2; exact ⟨o, h1, ih _ hn h2⟩
 | genState g k ih => refine x12 (h) ?_; clear h; rintro o h1 h2; exact ⟨o, h1, ih _ hn h2⟩
 | update a part f k ih => exact ⟨h.1, ih _ hn h.2⟩
 | choose src m k ih => exact ⟨h.1, ih _ hn h.2⟩
 | rule _ k ih => exact ih _ hn h
 | «at» _ k ih => exact ih _ hn h
 | loadIfAlive _ k ih => exact ih _ hn h
 | point _ k ih => exact ih _ hn h
 | alloc _ k ih => exact ih _ hn h
 | ask k ih => exact ih _ hn h
 | os _ _ k ih => exact ih _ hn h
 | handled _ k ih => exact ih _ hn h
 | newGen _ k ih => exact ih _ hn h
 | stack k ih => exact ih _ hn h
 | thread k ih => exact ih _ hn h
 | _ => exact h.elim
theorem dB {A : Around} {t : Sem α} {Q : α → Shared → Prop} {E : Value → Shared → Prop} (h : wpAny M A t Q E s) : wpAny M A t (fun a s' => s.toks ≤ s'.toks ∧ Q a s') E s :=
 fun Γ p hΓ => mW M Γ t s.toks (Nat.le_refl _) (h Γ p hΓ)
theorem bn (h : Heap) : h.get? h.objs.size = none := by
 induction q : h.get? h.objs.size using Option.casesOn with
 | none => rfl
 | some o => exact absurd (Heap.lt_size q) (Nat.lt_irrefl _)
section
variable {B : ab} {n : Nat} {L : Addr} {H : HL} {σ : St} {env : Env}
theorem am.track {F : Fz} {Ψ : Fz → St → Prop} (x : Holds B.P B.G L F H σ s.heap) {a : Addr} {o : AO} (k : ∀ b y, s.heap.get? b = some y → s'.heap.get? b = some y)
 (hn : ∀ b ∈ a :: o.more, s.heap.get? b = none) (nd : (a :: o.more).Nodup) (q : OAt B.P F s'.heap a o) (g : s'.gens = s.gens) (os : s'.os = s.os) (z : Ψ F ⟨σ.loc, (a, o) :: σ.objs⟩) : am B L H σ F s s' Ψ := by
 have old : ∀ b ∈ L :: ad σ.objs, b ∉ a :: o.more := fun b hb hm => by obtain ⟨y, hy⟩ := x.there b hb; rw [hn b hm] at hy; contradiction
 have x' := x.grow k
 have eo : ad ((a, o) :: σ.objs) = (a :: o.more) ++ ad σ.objs := rfl
 refine ⟨F, ⟨σ.loc, (a, o) :: σ.objs⟩, ⟨x.core, x'.sub, x'.loc, x.names, fun p hp => ?_, ?_, fun b hb => ?_, x.held, x.low⟩, ⟨fun b o _ e => k b o e, fun b hb => ?_, fun b o e => .inl e, .refl F, .of g, os⟩, z⟩
 · rcases mC0 hp with rfl | hp
   · exact q
   · exact x'.objs p hp
 · have xn := List.nodup_cons.mp x.nodup
   rw [eo, List.nodup_cons, List.nodup_append]
   refine ⟨fun hm => ?_, nd, xn.2, fun b hb c hc e => old c (.tail _ hc) (e ▸ hb)⟩
   rcases List.mem_append.mp hm with hm | hm
   · exact old L (.head _) hm
   · exact xn.1 hm
 · rw [eo] at hb
   rcases mC0 hb with rfl | hb
   · exact x.apart b (.head _)
   rcases List.mem_append.mp hb with hb | hb
   · induction w : F b using Option.casesOn with
     | none => rfl
     | some y => have := x.sub _ _ w; rw [hn b hb] at this; contradiction
   · exact x.apart b (.tail _ hb)
 · rw [eo] at hb
   rcases mC0 hb with rfl | hb
   · exact .inl (.head _)
   rcases List.mem_append.mp hb with hb | hb
   · exact .inr (hn b hb)
   · exact .inl (.tail _ hb)
theorem n8 {k : Nat} (h : WL B n L (spliced (backTo pos (starEach elts env))) H σ fun _ ds σ₁ => ds.length ≤ 16777216 ∧ ∀ v, Φ v (.tup ds) σ₁) :
 WV B n L (eval (.Tuple elts k pos) env) H σ Φ := ae fun A F s hA x => by
 refine wpAny_Tuple (wpAny_mono (h.run A F s hA x) (fun vs s₁ z => ⟨?_, ?_⟩) fun _ _ z => z)
 · obtain ⟨_, _, _, _, ds, hds, hz, _⟩ := z
   refine hds.length ▸ aV ▸ ?_; exact hz
 · refine z.fin fun F₁ σ₁ x₁ ⟨ds, hds, _, q⟩ => ?_
   exact am.fresh x₁ (fun b o e => Heap.get?_push_of_some _ e) (bn _) (Heap.get?_push_size _ rfl) rfl rfl fun le => ⟨.tup ds, .tup (Fz.put_self ..) (hds.mono le), q _⟩
theorem tZ (h : WL B n L (spliced (backTo pos (starEach elts env))) H σ fun _ ds σ₁ => ds.length ≤ 16777216 ∧ ∀ v, Φ v (.lst ds) σ₁) :
 WV B n L (eval (.List elts pos) env) H σ Φ := ae fun A F s hA x => by
 refine wpAny_List (wpAny_mono (h.run A F s hA x) (fun vs s₁ z => ⟨?_, ?_⟩) fun _ _ z => z)
 · obtain ⟨_, _, _, _, ds, hds, hz, _⟩ := z
   refine hds.length ▸ aV ▸ ?_; exact hz
 · refine z.fin fun F₁ σ₁ x₁ ⟨ds, hds, _, q⟩ => ?_
   exact am.fresh x₁ (fun b o e => Heap.get?_push_of_some _ e) (bn _) (Heap.get?_push_size _ rfl) rfl rfl fun le => ⟨.lst ds, .lst (Fz.put_self ..) (hds.mono le), q _⟩
theorem lJ (h : WL B n L (spliced (backTo pos (starEach elts env))) H σ fun _ ds σ₁ => ds.length ≤ 16777216 ∧ ∀ a, Φ (.ref a) (.ref a) ⟨σ₁.loc, (a, .list ds) :: σ₁.objs⟩) :
 WV B n L (eval (.List elts pos) env) H σ Φ := ae fun A F s hA x => by
 refine wpAny_List (wpAny_mono (h.run A F s hA x) (fun vs s₁ z => ⟨?_, ?_⟩) fun _ _ z => z)
 · obtain ⟨_, _, _, _, ds, hds, hz, _⟩ := z
   refine hds.length ▸ aV ▸ ?_; exact hz
 · refine z.fin fun F₁ σ₁ x₁ ⟨ds, hds, _, q⟩ => ?_
   exact am.track (a := s₁.heap.objs.size) (o := .list ds) x₁ (fun b o e => Heap.get?_push_of_some _ e) (fun b hb => by refine (List.mem_singleton.mp hb) ▸ ?_; exact bn _) (by simp [AO.more]) ⟨_, _, Heap.get?_push_size _ rfl, hds⟩ rfl rfl ⟨_, .ref _, q _⟩
theorem b6 {a b : OL} (h : a.Perm b) : (ad a).Perm (ad b) := by
 induction h with
 | nil => exact .refl _
 | cons p _ ih => exact (List.Perm.append_left (p.1 :: p.2.more) ih)
 | swap p q r =>
  show ((q.1 :: q.2.more) ++ ((p.1 :: p.2.more) ++ ad r)).Perm ((p.1 :: p.2.more) ++ ((q.1 :: q.2.more) ++ ad r))
  rw [← List.append_assoc, ← List.append_assoc]
  exact List.Perm.append_right _ List.perm_append_comm
 | trans _ _ ih1 ih2 => exact ih1.trans ih2
theorem Holds.drop {P : Params} {G : Heap} {F : Fz} {h : Heap} {objs' rest : OL} (x : Holds P G L F H ⟨loc, objs⟩ h) (e : objs.Perm (objs' ++ rest)) : Holds P G L F H ⟨loc, objs'⟩ h := by
 have pe := b6 e
 rw [bb] at pe
 have sub : ∀ b ∈ ad objs', b ∈ ad objs := fun b hb => pe.mem_iff.mpr (List.mem_append_left _ hb)
 have nd := List.nodup_cons.mp x.nodup
 refine ⟨x.core, x.sub, x.loc, x.names, fun p hp => x.objs p (e.mem_iff.mpr (List.mem_append_left _ hp)), List.nodup_cons.mpr ⟨fun hm => nd.1 (sub _ hm), ?_⟩, fun b hb => ?_, x.held, x.low⟩
 · exact (List.nodup_append.mp (pe.nodup_iff.mp nd.2)).1
 · rcases mC0 hb with rfl | hb
   · exact x.apart b (.head _)
   · exact x.apart b (.tail _ (sub b hb))
theorem lu {t : Sem α} {Ψ : α → Fz → St → Prop} {objs' rest : OL} (e : objs.Perm (objs' ++ rest)) (h : W B n L t H ⟨loc, objs'⟩ Ψ) : W B n L t H ⟨loc, objs⟩ Ψ := ae fun A F s hA x => by
 have pe := b6 e
 rw [bb] at pe
 have sub : ∀ b ∈ L :: ad objs', b ∈ L :: ad objs := fun b hb => by
  rcases mC0 hb with rfl | hb
  · exact .head _
  · exact .tail _ (pe.mem_iff.mpr (List.mem_append_left _ hb))
 refine wpAny_mono (h.run A F s hA (x.drop e)) (fun a s' z => ?_) fun _ _ z => z
 obtain ⟨F', σ', x', p, q⟩ := z
 refine ⟨F', σ', x', ⟨fun b o hb => p.keep b o fun hm => hb (sub b hm), fun b hb => (p.own b hb).imp_left (sub b), fun b o e => ?_, p.mono, p.gens, p.os⟩, q⟩
 rcases p.frz b o e with z | z | z
 · exact .inl z
 · exact .inr (.inl (sub b z))
 · exact .inr (.inr z)
end
end
section
variable {id : String} {v₀ : Value}
noncomputable def c4 (n : Nat) (i : Int) : Nat := Int.casesOn i (fun k => min k n) fun k => n - (k + 1)
noncomputable def sl (l : List Nat) (lo hi : Option Int) : List Nat := (l.take ((hi.map (c4 l.length)).getD l.length)).drop ((lo.map (c4 l.length)).getD 0)
theorem kS {n m : Int} (h0 : 0 ≤ m) (h1 : m ≤ n) : max 0 (min m n) = m := by rw [Int.min_eq_left h1, Int.max_eq_right h0]
theorem og {n m : Int} (h : m < 0) : max 0 (min m n) = 0 := Int.max_eq_left (Int.le_trans (Int.min_le_left _ _) (Int.le_of_lt h))
theorem nQ (k n : Nat) : max 0 (min (k : Int) (n : Int)) = ((min k n : Nat) : Int) :=
 (Nat.le_total k n).elim (fun h => (kS (Int.natCast_nonneg k) (Int.ofNat_le.mpr h)).trans (congrArg Int.ofNat (Nat.min_eq_left h).symm)) fun h => (congrArg (max 0) (Int.min_eq_right (Int.ofNat_le.mpr h))).trans ((Int.max_eq_right (Int.natCast_nonneg n)).trans (congrArg Int.ofNat (Nat.min_eq_right h).symm))
theorem nY (k n : Nat) : max 0 (min (Int.subNatNat n (k + 1)) (n : Int)) = ((n - (k + 1) : Nat) : Int) :=
 (Nat.lt_or_ge n (k + 1)).elim (fun h => (congrArg (fun z : Int => max 0 (min z (n : Int))) (Int.subNatNat_of_lt h)).trans ((og (Int.negSucc_lt_zero _)).trans (congrArg Int.ofNat (Nat.sub_eq_zero_of_le (Nat.le_of_lt h)).symm))) fun h => (congrArg (fun z : Int => max 0 (min z (n : Int))) (Int.subNatNat_of_le h)).trans (kS (Int.natCast_nonneg _) (Int.ofNat_le.mpr (Nat.sub_le _ _)))
theorem fj (l : List Nat) (i j : Int) : sl l (some i) (some j) = (l.take (c4 l.length j)).drop (c4 l.length i) := rfl
theorem p0 (l : List Nat) (i : Int) : sl l (some i) none = (l.take l.length).drop (c4 l.length i) := rfl
theorem Az (l : List Nat) (j : Int) : sl l none (some j) = (l.take (c4 l.length j)).drop 0 := rfl
theorem im (n : Nat) (i : Int) : max 0 (min (if i < 0 then i + n else i) (n : Int)) = ((c4 n i : Nat) : Int) := by
 induction i using Int.casesOn with
 | ofNat k => exact (congrArg (fun z : Int => max 0 (min z (n : Int))) (if_neg (Int.not_lt.mpr (Int.natCast_nonneg k)))).trans (nQ k n)
 | negSucc k => exact (congrArg (fun z : Int => max 0 (min z (n : Int))) (if_pos (Int.negSucc_lt_zero k))).trans (nY k n)
theorem np (n : Nat) (i : Int) : c4 n i ≤ n := by
 induction i using Int.casesOn with
 | ofNat k => exact Nat.min_le_right _ _
 | negSucc k => exact Nat.sub_le _ _
theorem b4 {n i : Nat} (h : i ≤ n) : c4 n (i : Int) = i := Nat.min_eq_left h
theorem fK {n : Nat} {i : Int} (h : (n : Int) ≤ i) : c4 n i = n := by
 induction i using Int.casesOn with
 | ofNat k => exact Nat.min_eq_right (Int.ofNat_le.mp h)
 | negSucc k => exact absurd h (Int.not_le.mpr (Int.lt_of_lt_of_le (Int.negSucc_lt_zero k) (Int.natCast_nonneg n)))
theorem iI (v : Option Int) (d n : Nat) : (Option.casesOn v (d : Int) fun i => max 0 (min (if i < 0 then i + n else i) (n : Int)) : Int) = ((v.map (c4 n)).getD d : Nat) := by
 induction v using Option.casesOn with
 | none => rfl
 | some i => exact im n i
theorem f5 (lo hi : Option Int) (n : Nat) : Builtin.Str.strSliceIndices lo hi 1 n = sliceRange ((lo.map (c4 n)).getD 0 : Nat) ((hi.map (c4 n)).getD n : Nat) 1 :=
 Eq.trans (by kernel_rfl) ((congrArg (fun x => sliceRange x (Option.casesOn hi (n : Int) fun i => max 0 (min (if i < 0 then i + n else i) (n : Int))) 1) (iI lo 0 n)).trans (congrArg (fun y => sliceRange ((lo.map (c4 n)).getD 0 : Nat) y 1) (iI hi n n)))
theorem uF (l : List Nat) (lo hi : Option Int) : Txt.slice (S l) lo hi = S (sl l lo hi) := by
 have e := f5 lo hi (S l).length
 have hb : (hi.map (c4 l.length)).getD l.length ≤ l.length := by rcases hi with _ | _; exact Nat.le_refl _; exact np _ _
 unfold Txt.slice sl
 rw [e, ay]
 generalize (lo.map (c4 l.length)).getD 0 = a
 generalize (hi.map (c4 l.length)).getD l.length = b at hb ⊢
 by_cases hab : a ≤ b
 · have e2 := f5 (some a) (some b) (S l).length
   have := StrLaws.sliceText_nat (S l) hab (by rw [ay]; exact hb)
   unfold StrLaws.sliceText at this
   rw [e2, ay] at this
   have e3 : ((some (a : Int)).map (c4 l.length)).getD 0 = a := b4 (nT0 hab hb)
   have e4 : ((some (b : Int)).map (c4 l.length)).getD l.length = b := b4 hb
   rw [e3, e4] at this
   rw [List.drop_take]
   exact this
 · have h1 : (l.take b).drop a = [] := List.drop_eq_nil_of_le (nT0 (List.length_take_le ..) (Nat.le_of_not_le hab))
   have h2 : sliceRange (a : Int) (b : Int) 1 = [] := by
    unfold sliceRange
    rw [if_pos (by decide), if_neg (Int.not_lt.mpr (Int.ofNat_le.mpr (Nat.le_of_not_le hab)))]
    rfl
   rw [h1, h2]
   rcases l with _ | _ <;> rfl
noncomputable def at? (l : List Nat) (i : Int) : Option Nat := (seqIndex? i l.length).bind (l[·]?)
theorem cH {l : List Nat} {k : Nat} (h : k < l.length) : at? l k = some l[k] := by
 unfold at? seqIndex?
 rw [if_neg (show ¬ ((k : Nat) : Int) < 0 by simp +arith)]
 simp [h]
section
variable {B : ab} {n : Nat} {L : Addr} {H : HL} {σ : St} {env : Env}
theorem u9 {first : List Value} {args : List Expr} {pos} {Φ : PV}
 (h : WL B n L (spliced (backTo pos (starEach args env))) H σ fun vs ds σ₁ => WV B n L (call (.builtin id) (first ++ vs)) (vs.zip ds ++ H) σ₁ Φ)
 (hp : autoParam ((backTo pos (starEach args env)).any (·.1) = false) bR) : WV B n L (callWith pos (.builtin id) first (backTo pos (starEach args env)) []) H σ Φ := ae fun A F s hA x => by
 refine Calls.callWith_builtin hp (c8 hp (wpAny_mono (h.run A F s hA x) (fun vs s₁ z => ?_) fun _ _ z => z))
 refine z.then fun F₁ σ₁ x₁ ⟨ds, hds, w⟩ => ?_
 have x₂ : Holds B.P B.G L F₁ (vs.zip ds ++ H) σ₁ s₁.heap := ⟨x₁.core, x₁.sub, x₁.loc, x₁.names, x₁.objs, x₁.nodup, x₁.apart, fun p hp => by
  rcases List.mem_append.mp hp with hp | hp
  · exact gT.zip_is hds p hp
  · exact x₁.held p hp, x₁.low⟩
 exact wpAny_mono (w.run A F₁ s₁ hA x₂) (fun _ _ y => y.weaken fun _ hp => List.mem_append_right _ hp) fun _ _ z => z
theorem Am {name : Str} {x : List Nat} {pl : Sem Bool} {Ψ : Value × List Value → Fz → St → Prop} (mv : (v₀, .str x) ∈ H) (slot : Slot "str" name id) (ty : typeOf (.builtin id) = pure (.type "method_descriptor"))
 (h : ∀ F, Ψ (.builtin id, [v₀]) F σ) : W B n L (getMethod v₀ name pl) H σ Ψ := ae fun A F s hA X => by
 obtain ⟨t, rfl⟩ := az (X.hold mv)
 exact getMethod_builtin (typeIs_str _ _ _) PySem.F.plainAttrs_str slot ty (fun _ e => nomatch e) (.here X (h _))
theorem wK {name : Str} {a : Addr} {l : List AV} {pl : Sem Bool} {Ψ : Value × List Value → Fz → St → Prop} (mv : (v₀, .ref a) ∈ H) (m : (a, AO.list l) ∈ σ.objs) (slot : Slot "list" name id) (ty : typeOf (.builtin id) = pure (.type "method_descriptor"))
 (h : ∀ F, Ψ (.builtin id, [v₀]) F σ) : W B n L (getMethod v₀ name pl) H σ Ψ := ae fun A F s hA X => by
 obtain rfl := aE (X.hold mv)
 refine x22 (X.objs _ m) ?_; rintro vs k h1 _
 exact getMethod_builtin (T := "list") ⟨_, h1, rfl⟩ PySem.F.plainAttrs_list slot ty (fun b e => by cases e; exact ⟨_, h1, rfl⟩) (.here X (h _))
theorem iA {a : Addr} {l : List AV} {v : Value} {d : AV} {objs' : OL} {Φ : PV} (mv : (v₀, .ref a) ∈ H) (md : (v, d) ∈ H) (m : Chg a (.list l) (.list (l ++ [d])) σ.objs objs') (hz : l.length ≤ 16777216)
 (h : Φ .none .none ⟨σ.loc, objs'⟩) : WV B n L (call (.builtin "list.append") [v₀, v]) H σ Φ := ae fun A F s hA X => by
 obtain ⟨loc, objs⟩ := σ
 refine x22 (m.split) ?_; rintro pre post rfl rfl
 obtain rfl := aE (X.hold mv)
 have hd := X.hold md
 refine x22 (X.objs (a, .list l) (by simp)) ?_; rintro vs k h1 h2
 refine append_at h1 (fun h' hs ho => ?_) (by rw [aV]; simpa [h2.length] using hz)
 refine am.change (o' := .list (l ++ [d])) X (c := a) (.inl rfl) rfl (fun b y _ q e => (hs.2 b q).trans e) ?_ ⟨vs ++ [v], k + 1, by rw [ho]; simp [bE], snoc h2 hd⟩ rfl rfl ⟨_, .none, h⟩
 refine x12 (X.frame) ?_; rintro m₀ FR hl
 exact ⟨m₀, FR.ns.sameBut hs (fun e => (List.nodup_cons.mp X.nodup).1 (by rw [e]; exact aH.mpr ⟨_, List.mem_append_right _ (.head _), .inl rfl⟩)), hl⟩
where
 snoc {P : Params} {F : Fz} {v : Value} {d : AV} {vs : List Value} {l : List AV} (h : IsAll P F vs l) (q : Is P F v d) : IsAll P F (vs ++ [v]) (l ++ [d]) := h.ind (C := fun vs l => IsAll P F (vs ++ [v]) (l ++ [d])) (.cons q .nil) fun _ _ _ _ h _ c => .cons h c
end
end
section
variable {a : Addr} {l : List AV} {v₀ v : Value} {Φ : PV} {x : List Nat} {c : Nat}
noncomputable def bD (c : Nat) (l : List Nat) (hi : Int) : Nat := (Builtin.Str.occurrences (S l) (S [c]) 0 (min (c4 l.length hi) l.length) (l.length + 1)).length
noncomputable def d5 (c : Nat) (l : List Nat) (hi : Int) : Int := match Builtin.Str.lastOccurrence (S l) (S [c]) 0 (min (c4 l.length hi) l.length) with | some i => (i : Int) | none => -1
section
variable {B : ab} {n : Nat} {L : Addr} {H : HL} {σ : St} {env : Env}
theorem f0 {l' : List AV} {d : AV} {k : Nat} {i : Int} {objs' : OL} (mv : (v₀, .ref a) ∈ H) (md : (v, .int i) ∈ H) (hi : Builtin.List.listFitsIndex i = true) (hk : seqIndex? i l.length = some k) (hd : l[k]? = some d)
 (hl : l.eraseIdx k = l') (m : Chg a (.list l) (.list l') σ.objs objs') (hz : l.length ≤ 16777216)
 (h : ∀ v, Φ v d ⟨σ.loc, objs'⟩) : WV B n L (call (.builtin "list.pop") [v₀, v]) H σ Φ := ae fun A F s hA X => by
 obtain ⟨loc, objs⟩ := σ
 refine x22 (m.split) ?_; rintro pre post rfl rfl
 obtain rfl := aE (X.hold mv)
 obtain ⟨t, rfl⟩ := au (X.hold md)
 refine x22 (X.objs (a, .list l) (by simp)) ?_; rintro vs q h1 h2
 have hlen := h2.length
 refine x12 (nth h2 hd) ?_; rintro y hy hyd
 have hkl : k < l.length := (List.getElem?_eq_some_iff.mp hd).1
 refine call_meets PySem.F.slot_list_pop ⟨_, h1, rfl⟩ PySem.F.entry_list_pop (PySem.F.args_list_pop_2 _ _) (MeetsSeq.list_pop_at a vs.toArray q i t k y hi (by simpa [hlen] using hk) (by simpa using hy) (by rw [aV]; simpa [hlen] using hz)) ⟨h1, ?_⟩
 have er : vs.toArray.eraseIdxIfInBounds k = (vs.eraseIdx k).toArray := by
  unfold Array.eraseIdxIfInBounds
  rw [dif_pos (by simpa [hlen] using hkl)]
  simp
 refine am.change (o' := .list l') X (c := a) (.inl rfl) rfl (fun b y _ q e => ((Heap.SameBut.update (h := s.heap) (a := a) (f := Obj.mapSeq fun xs => xs.eraseIdxIfInBounds k)).2 b q).trans e) ?_ ⟨vs.eraseIdx k, q + 1, ?_, hl ▸ era h2 k⟩ rfl rfl ⟨d, hyd, h _⟩
 · refine x12 (X.frame) ?_; rintro m₀ FR hl
   exact ⟨m₀, FR.ns.sameBut (Heap.SameBut.update ..) (fun e => (List.nodup_cons.mp X.nodup).1 (by rw [e]; exact aH.mpr ⟨_, List.mem_append_right _ (.head _), .inl rfl⟩)), hl⟩
 · have e : Obj.mapSeq (fun xs => xs.eraseIdxIfInBounds k) (bE vs q) = bE (vs.eraseIdx k) (q + 1) := by
    show (⟨_, _, .seq (vs.toArray.eraseIdxIfInBounds k) (if (vs.toArray.eraseIdxIfInBounds k).size == vs.toArray.size then q else q + 1), _⟩ : Obj) = _
    rw [er]
    have : ((vs.eraseIdx k).toArray.size == vs.toArray.size) = false := by
     simp only [List.size_toArray, List.length_eraseIdx]
     rw [if_pos (by omega)]
     exact beq_eq_false_iff_ne.mpr (by omega)
    rw [this]; rfl
   rw [Heap.get?_update_self _ h1 (by rw [e]; rfl), e]
where
 nth {P : Params} {F : Fz} {vs : List Value} {l : List AV} {k : Nat} {d : AV} (h : IsAll P F vs l) (e : l[k]? = some d) : ∃ y, vs[k]? = some y ∧ Is P F y d :=
  h.ind (C := fun vs l => ∀ k, l[k]? = some d → ∃ y, vs[k]? = some y ∧ Is P F y d) (fun k e => by contradiction) (fun v d vs l h r ih k e => by
   induction k using Nat.casesOn with
   | zero => exact ⟨v, rfl, Option.some.inj e ▸ h⟩
   | succ k => exact ih k e) k e
 era {P : Params} {F : Fz} {vs : List Value} {l : List AV} (h : IsAll P F vs l) (k : Nat) : IsAll P F (vs.eraseIdx k) (l.eraseIdx k) :=
  h.ind (C := fun vs l => ∀ k, IsAll P F (vs.eraseIdx k) (l.eraseIdx k)) (fun _ => .nil) (fun v d vs l h r ih k => Nat.casesOn (motive := fun k => IsAll P F ((v :: vs).eraseIdx k) ((d :: l).eraseIdx k)) k r fun k => .cons h (ih k)) k
theorem lj {ms : List (List Nat)} (mv : (v₀, .str x) ∈ H) (md : (v, .ref a) ∈ H) (m : (a, AO.list l) ∈ σ.objs) (e : aG l = some ms)
 (hz : (ms.map (·.length)).sum + ms.length * x.length ≤ 16777216) (h : ∀ v, Φ v (.str (List.intercalate x ms)) σ) : WV B n L (call (.builtin "str.join") [v₀, v]) H σ Φ := ae fun A F s hA X => by
 obtain ⟨t, rfl⟩ := az (X.hold mv)
 obtain rfl := aE (X.hold md)
 refine x22 (X.objs _ m) ?_; rintro vs k h1 h2
 exact join_list (s := s) (D := a) (items := vs.toArray) ⟨_, h1, rfl, _, rfl⟩ (by simpa using dP h2 e) (by rw [lens, ay, List.length_map]; exact hz) fun t' k => .toks X ⟨_, by rw [joined]; exact .str _ _, h _⟩
where
 lens {ms : List (List Nat)} : (ms.map S).map (·.length) = ms.map (·.length) := by rw [List.map_map]; exact List.map_congr_left fun a _ => ay a
 inter {x a b : List Nat} {r : List (List Nat)} : List.intercalate x ((a ++ x ++ b) :: r) = List.intercalate x (a :: b :: r) := by
  rcases r with _ | _ <;> simp [List.intercalate, List.intersperse]
 joined {x : List Nat} {ms : List (List Nat)} : Txt.join (S x) (ms.map S) = S (List.intercalate x ms) := by
  show Builtin.Str.glued _ _ = _
  rw [StrLaws.glued_eq_join]
  induction ms using List.casesOn with
  | nil => rfl
  | cons a r =>
   rw [List.map_cons, ← StrLaws.glued_cons]
   induction r generalizing a with
   | nil => simp [List.intercalate]
   | cons b r ih =>
    rw [List.map_cons, List.foldl_cons]
    have := ih (a ++ x ++ b)
    simp only [S, List.append_toArray] at this ⊢
    rw [this, inter]
theorem sS {ms : List (List Nat)} (mv : (v₀, .str x) ∈ H) (md : (v, .lst l) ∈ H) (e : aG l = some ms)
 (hz : (ms.map (·.length)).sum + ms.length * x.length ≤ 16777216) (h : ∀ v, Φ v (.str (List.intercalate x ms)) σ) : WV B n L (call (.builtin "str.join") [v₀, v]) H σ Φ := ae fun A F s hA X => by
 obtain ⟨t, rfl⟩ := az (X.hold mv)
 refine x33 (dh (X.hold md)) ?_; rintro a vs k rfl h1 h2
 exact join_list (s := s) (D := a) (items := vs.toArray) (cW X.sub h1) (by simpa using dP h2 e) (by rw [lj.lens, ay, List.length_map]; exact hz) fun t' k => .toks X ⟨_, by rw [lj.joined]; exact .str _ _, h _⟩
theorem xP (mv : (v, .str x) ∈ H) (hz : x.length ≤ 16777216) (h : ∀ v, Φ v (.int x.length) σ) : WV B n L (call (.builtin "len") [v]) H σ Φ := ae fun A F s hA X => by
 obtain ⟨t, rfl⟩ := az (X.hold mv)
 exact PyProof.Rows.len_str (by rw [ay]; omega) (.toks X ⟨_, by rw [ay]; exact .int _ _, h _⟩)
theorem vT (mv : (v, .ref a) ∈ H) (m : (a, AO.list l) ∈ σ.objs) (hz : l.length ≤ 16777216) (h : ∀ v, Φ v (.int l.length) σ) : WV B n L (call (.builtin "len") [v]) H σ Φ := ae fun A F s hA X => by
 obtain rfl := aE (X.hold mv)
 refine x22 (X.objs _ m) ?_; rintro vs k h1 h2
 have hlen := h2.length
 exact Calls.call_len_list (l := a) (items := vs.toArray) ⟨_, h1, rfl, _, rfl⟩ (by simp [hlen]; omega) (.toks X ⟨.int l.length, by simp only [List.size_toArray, hlen]; exact .int _ _, h _⟩)
theorem AF (mv : (v, .str [c]) ∈ H) (h : ∀ v, Φ v (.int c) σ) : WV B n L (call (.builtin "ord") [v]) H σ Φ := ae fun A F s hA X => by
 obtain ⟨t, rfl⟩ := az (X.hold mv)
 exact PySem.P.ord_of_char (c := c) (.toks X ⟨_, .int _ _, h _⟩)
theorem vB {Ψ : Bool → St → Prop} (mv : (v, .ref a) ∈ H) (m : (a, AO.list l) ∈ σ.objs) (hz : l.length ≤ 16777216) (h : Ψ (!l.isEmpty) σ) : WB B n L (truthy v) H σ Ψ := ae fun A F s hA X => by
 obtain rfl := aE (X.hold mv)
 refine x22 (X.objs _ m) ?_; rintro vs k h1 h2
 have hlen := h2.length
 have e : vs.toArray.isEmpty = l.isEmpty := by
  induction vs using List.casesOn with
  | nil => induction l using List.casesOn with
   | nil => rfl
   | cons _ _ => cases hlen
  | cons _ _ => induction l using List.casesOn with
   | nil => cases hlen
   | cons _ _ => simp [Array.isEmpty]
 exact wpAny_truthy_list (l := a) (items := vs.toArray) ⟨_, h1, rfl, _, rfl⟩ (by simp [hlen]; omega) (.toks X (e ▸ h))
theorem nJ (y : Int) (n : Nat) : min (max 0 y).toNat n = (max 0 (min y n)).toNat := by
 rcases Int.le_total y 0 with h | h
 · rw [Int.max_eq_left h, Int.max_eq_left (Int.le_trans (Int.min_le_left _ _) h)]; exact Nat.zero_min n
 · obtain ⟨m, rfl⟩ := Int.eq_ofNat_of_zero_le h
   rw [Int.max_eq_right h]
   rcases Nat.le_total m n with q | q
   · rw [Int.min_eq_left (Int.ofNat_le.mpr q), Int.max_eq_right h]; exact Nat.min_eq_left q
   · rw [Int.min_eq_right (Int.ofNat_le.mpr q), Int.max_eq_right (Int.natCast_nonneg n)]; exact Nat.min_eq_right q
theorem jh (n : Nat) (hi : Int) : min (fromIndex n hi) n = min (c4 n hi) n := (nJ _ n).trans ((congrArg Int.toNat (im n hi)).trans (Nat.min_eq_left (np n hi)).symm)
theorem pO {hi : Int} {v1 v2 v3 : Value} (m0 : (v₀, .str x) ∈ H) (m1 : (v1, .str [c]) ∈ H) (m2 : (v2, .int 0) ∈ H) (m3 : (v3, .int hi) ∈ H) (h : ∀ v, Φ v (.int (bD c x hi)) σ) :
 WV B n L (call (.builtin "str.count") [v₀, v1, v2, v3]) H σ Φ := ae fun A F s hA X => by
 obtain ⟨t0, rfl⟩ := az (X.hold m0); obtain ⟨t1, rfl⟩ := az (X.hold m1); obtain ⟨t2, rfl⟩ := au (X.hold m2); obtain ⟨t3, rfl⟩ := au (X.hold m3)
 refine call_gives (m := .int (bD c x hi)) PySem.F.slot_str_count (typeIs_str _ _ _) PySem.F.entry_str_count (PySem.F.args_str_count_4 _ _ _ _) ?_ (.toks X ⟨_, .int _ _, h _⟩)
 have e : fromIndex (S x).length 0 = 0 := by simp [fromIndex]
 have e2 : min (fromIndex (S x).length hi) (S x).length = min (c4 x.length hi) x.length := by rw [ay]; exact jh _ _
 show Gives (retInt (Builtin.Str.occurrences (S x) (S [c]) (fromIndex (S x).length 0) (min (fromIndex (S x).length hi) (S x).length) ((S x).length + 1)).length) _
 rw [e, e2, ay]
 exact .of_eq rfl
theorem qG {hi : Int} {v1 v2 v3 : Value} (m0 : (v₀, .str x) ∈ H) (m1 : (v1, .str [c]) ∈ H) (m2 : (v2, .int 0) ∈ H) (m3 : (v3, .int hi) ∈ H) (h : ∀ v, Φ v (.int (d5 c x hi)) σ) :
 WV B n L (call (.builtin "str.rfind") [v₀, v1, v2, v3]) H σ Φ := ae fun A F s hA X => by
 obtain ⟨t0, rfl⟩ := az (X.hold m0); obtain ⟨t1, rfl⟩ := az (X.hold m1); obtain ⟨t2, rfl⟩ := au (X.hold m2); obtain ⟨t3, rfl⟩ := au (X.hold m3)
 refine call_gives (m := .int (d5 c x hi)) PySem.F.slot_str_rfind (typeIs_str _ _ _) PySem.F.entry_str_rfind (PySem.F.args_str_rfind_4 _ _ _ _) ?_ (.toks X ⟨_, .int _ _, h _⟩)
 have e : fromIndex (S x).length 0 = 0 := by simp [fromIndex]
 have e2 : min (fromIndex (S x).length hi) (S x).length = min (c4 x.length hi) x.length := by rw [ay]; exact jh _ _
 show Gives (match Builtin.Str.lastOccurrence (S x) (S [c]) (fromIndex (S x).length 0) (min (fromIndex (S x).length hi) (S x).length) with | some i => retInt i | none => (do rule "str.rfind.not-found"; retInt (-1))) _
 rw [e, e2]
 unfold d5
 induction Builtin.Str.lastOccurrence (S x) (S [c]) 0 (min (c4 x.length hi) x.length) using Option.casesOn with
 | none => exact .rule (.of_eq rfl)
 | some i => exact .of_eq rfl
end
end
section
variable {k : Int} {j : Nat} {value slice : Expr} {o i : Value} {Φ : PV} {d : AV}
theorem ez {n : Nat} (h : seqIndex? k n = some j) : -(n : Int) ≤ k ∧ k < n := by
 unfold seqIndex? at h
 by_cases hk : k < 0
 · simp only [hk, if_true] at h
   split at h
   · rename_i q
     simp only [Bool.and_eq_true, decide_eq_true_eq] at q
     omega
   · contradiction
 · simp only [hk, if_false] at h
   split at h
   · rename_i q
     simp only [Bool.and_eq_true, decide_eq_true_eq] at q
     omega
   · contradiction
section
variable {B : ab} {n : Nat} {L : Addr} {H : HL} {σ : St} {env : Env}
theorem cv {T id : String} (hT : ∀ F (s : Shared), Holds B.P B.G L F H σ s.heap → s.TypeIs o T) (hl : typeLookup (.type T) "__getitem__" = pure (some (.builtin id)))
 (h : WV B n L (getItem o i) H σ Φ) (hs : ∃ ops, subscripted slice false o i = operate ops (getItem o i) := by exact ⟨_, rfl⟩) : WV B n L (subscriptTail value slice o i) H σ Φ := ae fun A F s hA X => by
 obtain ⟨ops, hs⟩ := hs
 unfold subscriptTail
 refine wpAny_bind ?_
 rw [getitemInPython_of_ne (hT F s X).not_modules]
 refine wpAny_bind (wpAny_specialOf (hT F s X) hl ?_)
 have fin : wpAny B.M A (subscripted slice false o i) (fun r s₃ => wpAny B.M A (letTemporaryGo value o r >>= fun _ => pure r) (fun a s' => am B L H σ F s s' ((fun v F' σ' => ∃ d, Is B.P F' v d ∧ Φ v d σ') a)) (fun _ _ => False) s₃) (fun _ _ => False) s := by
  rw [hs]
  exact wpAny_operateT (wpAny_mono (h.run A F s hA X) (fun r s₃ h₃ => wpAny_bind (wpAny_letTemporaryGo (wpAny_pure h₃))) fun _ _ x => x)
 first
  | exact wpAny_pure (wpAny_bind fin)
  | exact wpAny_bind (wpAny_pure (wpAny_bind fin))
  | exact wpAny_bind fin
theorem vq {pos} (h : WV B n L (eval value env) H σ fun o d σ₁ => WV B n L (eval slice env) ((o, d) :: H) σ₁ fun i e σ₂ => WV B n L (subscriptTail value slice o i) ((i, e) :: (o, d) :: H) σ₂ Φ) :
 WV B n L (eval (.Subscript value slice pos) env) H σ Φ := by
 rw [eval_Subscript]
 exact aj (af h fun o d σ₁ w => aj (ag (af w fun i e σ₂ w₂ => al w₂)))
theorem zB {x : List Nat} {c : Nat} (mo : (o, .str x) ∈ H) (mi : (i, .int k) ∈ H) (hc : at? x k = some c) (hz : x.length ≤ 16777216) (h : ∀ v, Φ v (.str [c]) σ)
 (hs : ∃ ops, subscripted slice false o i = operate ops (getItem o i) := by exact ⟨_, rfl⟩) : WV B n L (subscriptTail value slice o i) H σ Φ := by
 refine cv (T := "str") (fun F s X => ?_) PySem.F.slot_str_getitem.lookup (ae fun A F s hA X => ?_) hs
 · obtain ⟨t, rfl⟩ := az (X.hold mo); exact typeIs_str _ _ _
 · obtain ⟨t, rfl⟩ := az (X.hold mo)
   obtain ⟨u, rfl⟩ := au (X.hold mi)
   refine PyProof.Rows.getItem_str (c := c) ?_ ?_ (.toks X ⟨_, .str [c] _, h _⟩)
   · have : ∃ j, seqIndex? k x.length = some j := by
      unfold at? at hc
      induction q : seqIndex? k x.length using Option.casesOn with
      | none => rw [q] at hc; contradiction
      | some j => exact ⟨j, rfl⟩
     obtain ⟨j, hj⟩ := this
     have := ez hj
     simp only [Bool.or_eq_false_iff, decide_eq_false_iff_not]
     omega
   · rw [ay]
     unfold at? at hc
     simpa [S] using hc
theorem zO {l : List AV} (mo : (o, .tup l) ∈ H) (mi : (i, .int k) ∈ H) (hj : seqIndex? k l.length = some j) (hd : l[j]? = some d) (hz : l.length ≤ 16777216) (h : ∀ v, Φ v d σ)
 (hs : ∃ ops, subscripted slice false o i = operate ops (getItem o i) := by exact ⟨_, rfl⟩) : WV B n L (subscriptTail value slice o i) H σ Φ := by
 refine cv (T := "tuple") (fun F s X => ?_) slot_tuple_getitem.lookup (ae fun A F s hA X => ?_) hs
 · refine x33 (cf (X.hold mo)) ?_; rintro a vs m rfl h1 h2; exact (c6 X.sub h1).typeIs
 · refine x33 (cf (X.hold mo)) ?_; rintro a vs m rfl h1 h2
   obtain ⟨u, rfl⟩ := au (X.hold mi)
   refine x12 (f0.nth h2 hd) ?_; rintro y hy hyd
   have hlen := h2.length
   have rng := ez hj
   exact getItem_tuple (c6 X.sub h1) (by omega) (by omega) (by simpa [hlen] using hj) (by simpa using hy) (.here X ⟨d, hyd, h _⟩)
theorem vx {l : List AV} (mo : (o, .lst l) ∈ H) (mi : (i, .int k) ∈ H) (hk : 0 ≤ k) (hj : k.toNat = j) (hd : l[j]? = some d) (hz : l.length ≤ 16777216) (h : ∀ v, Φ v d σ)
 (hs : ∃ ops, subscripted slice false o i = operate ops (getItem o i) := by exact ⟨_, rfl⟩) : WV B n L (subscriptTail value slice o i) H σ Φ := by
 refine cv (T := "list") (fun F s X => ?_) slot_list_getitem.lookup (ae fun A F s hA X => ?_) hs
 · refine x33 (dh (X.hold mo)) ?_; rintro a vs m rfl h1 h2; exact (cW X.sub h1).typeIs
 · refine x33 (dh (X.hold mo)) ?_; rintro a vs m rfl h1 h2
   obtain ⟨u, rfl⟩ := au (X.hold mi)
   refine x12 (f0.nth h2 hd) ?_; rintro y hy hyd
   have hlen := h2.length
   have hjl : j < l.length := (List.getElem?_eq_some_iff.mp hd).1
   exact wpAny_getItem_list (l := a) (items := vs.toArray) (cW X.sub h1) (by omega) (by omega) (by simpa [hj] using hy) (.here X ⟨d, hyd, h _⟩)
noncomputable def fZ : AV → Option (Option Int)
 | .none => some none
 | .int i => some (some i)
 | _ => none
theorem jg {P : Params} {F : Fz} {v : Value} {i : Option Int} (h : Is P F v d) (e : fZ d = some i) : ∃ p : Option (Int × Tok), v = partValue p ∧ p.map (·.1) = i := by
 induction d using AV.casesOn with
 | none => obtain rfl := eK h; obtain rfl := Option.some.inj e; exact ⟨none, rfl, rfl⟩
 | int k => obtain ⟨t, rfl⟩ := au h; obtain rfl := Option.some.inj e; exact ⟨some (k, t), rfl, rfl⟩
 | _ => contradiction
theorem iU (l : List Nat) (i j : Option Int) : (sl l i j).length ≤ l.length := by
 unfold sl
 rw [List.length_drop, List.length_take]
 omega
theorem lw {x : Str} {t : Tok} {pl pu : Option (Int × Tok)} {s : Shared} {Q : Value → Shared → Prop} (hl : (Txt.slice x (pl.map (·.1)) (pu.map (·.1))).length ≤ sizeLine)
 (h : ∀ t' k, Q (.str (Txt.slice x (pl.map (·.1)) (pu.map (·.1))) t') { s with toks := k }) : (sliceMade x t pl pu none).post Q s := by
 unfold sliceMade
 unfold Txt.slice at hl h
 exact post_val_or_str ⟨hl, h⟩
theorem na (h : Φ .none .none σ) : WV B n L (evalPart none env) H σ Φ := ae fun _ _ _ _ x => wpAny_pure (.here x ⟨_, .none, h⟩)
theorem mP {e : Expr} (h : WV B n L (eval e env) H σ Φ) : WV B n L (evalPart (some e) env) H σ Φ := h
theorem mC {lo hi : Option Expr} {p pos}
 (h : WV B n L (eval value env) H σ fun o d σ₁ => WV B n L (evalPart lo env) ((o, d) :: H) σ₁ fun l dl σ₂ => WV B n L (evalPart hi env) ((l, dl) :: (o, d) :: H) σ₂ fun _ du σ₃ =>
  ∃ x i j, d = .str x ∧ fZ dl = some i ∧ fZ du = some j ∧ x.length ≤ 16777216 ∧ ∀ v, Φ v (.str (sl x i j)) σ₃) :
 WV B n L (eval (.Subscript value (.Slice lo hi none p) pos) env) H σ Φ := iS fun A F s Q hA X fq => by
 rw [eval_Subscript]
 refine wpAny_bind (h.then hA X fun o s₁ F₁ σ₁ x₁ p₁ z => x12 z fun d hd w₁ => ?_)
 refine wpAny_bind (wpAny_holding (wpAny_Slice (w₁.then hA (x₁.push hd) fun l s₂ F₂ σ₂ x₂ p₂ z => x12 z fun dl hdl w₂ => ?_)))
 refine w₂.then hA (x₂.push hdl) fun u s₃ F₃ σ₃ x₃ p₃ z => ?_
 refine x12 z ?_; clear z; rintro du hdu z; refine x35 z ?_; clear z; rintro x i j rfl bi bj hz q
 refine wpAny_pure (wpAny_bind (wpAny_standAt ?_))
 obtain ⟨t, rfl⟩ := az (x₃.hold (.tail _ (.head _)))
 refine x12 (jg (x₃.hold (.head _)) bi) ?_; rintro pl rfl e1
 refine x12 (jg hdu bj) ?_; rintro pu rfl e2
 have x₃' := x₃.weaken (H' := H) fun p hp => .tail _ (.tail _ hp)
 have fin : wpAny B.M A (operate [.ref s₃.heap.objs.size, .str (S x) t] (getItem (.str (S x) t) (.ref s₃.heap.objs.size))) (fun r s₄ => wpAny B.M A (letTemporaryGo value (.str (S x) t) r >>= fun _ => pure r) Q (fun _ _ => False) s₄) (fun _ _ => False)
  { s₃ with heap := s₃.heap.push { cls := .type "slice", data := .fields #[partValue pl, partValue pu, .none] } } := by
  refine wpAny_operateT (wpAny_getItem_str_slice (l := pl) (u := pu) (st := none) ⟨_, Heap.get?_push_size _ rfl, rfl, rfl⟩ rfl ?_)
  have e : Txt.slice (S x) (pl.map (·.1)) (pu.map (·.1)) = S (sl x i j) := by rw [uF, e1, e2]
  refine lw (Q := fun r s₄ => wpAny B.M A (letTemporaryGo value (.str (S x) t) r >>= fun _ => pure r) Q (fun _ _ => False) s₄) ?_ fun t' k => ?_
  · rw [e, ay, aV]
    exact nT0 (iU x i j) hz
  · refine wpAny_bind (wpAny_letTemporaryGo (wpAny_pure ?_))
    refine e ▸ ?_
    exact fq _ _ ⟨F₃, σ₃, x₃'.grow fun b o e => Heap.get?_push_of_some _ e, p₁.trans (p₂.trans (p₃.trans ⟨fun b o _ e => Heap.get?_push_of_some _ e, fun _ h => .inl h, fun _ _ e => .inl e, .refl _, .refl _, rfl⟩)), .str (sl x i j), .str _ _, q _⟩
 refine wpAny_bind ?_
 refine (getitemInPython_of_ne (typeIs_str s₃ (S x) t).not_modules) ▸ ?_
 refine wpAny_bind (wpAny_specialOf (typeIs_str _ (S x) t) PySem.F.slot_str_getitem.lookup ?_)
 first
  | exact wpAny_pure (wpAny_bind fin)
  | exact wpAny_bind (wpAny_pure (wpAny_bind fin))
  | exact wpAny_bind fin
end
end
section
variable {P : Params} {F : Fz} {vs : List (Value × Value)} {l : FL} {prog : Program} {w : World} {es : List DictEntry}
noncomputable def aA (env : Env) (pos : Pos) : List (Option Expr) → List Expr → List (Sem Value × Sem Value)
 | some k :: ks, v :: vs => (eval k env, do let x ← eval v env; standAt pos; pure x) :: aA env pos ks vs
 | _, _ => []
inductive KV (P : Params) (F : Fz) : List (Value × Value) → FL → Prop
 | nil : KV P F [] []
 | cons {x t v d vs l} : Is P F v d → KV P F vs l → KV P F ((.str x t, v) :: vs) ((x, d) :: l)
theorem KV.mono {F' : Fz} (k : F.le F') (h : KV P F vs l) : KV P F' vs l := by
 induction h with
 | nil => exact .nil
 | cons h _ ih => exact .cons (h.mono k) ih
noncomputable def KV.vals : List (Value × Value) → FL → List (Str × Value)
 | (_, v) :: vs, (x, _) :: l => (x, v) :: KV.vals vs l
 | _, _ => []
theorem KV.carries (h : KV P F vs l) : Carries (strKind prog w) vs (KV.vals vs l) := by
 induction h with
 | nil => exact trivial
 | cons _ _ ih => exact ⟨beq_self_eq_true _, rfl, ih⟩
theorem KV.keys (h : KV P F vs l) : (KV.vals vs l).map (·.1) = l.map (·.1) := by
 induction h with
 | nil => rfl
 | cons _ _ ih => exact congrArg (List.cons _) ih
inductive KM (P : Params) (F : Fz) : List (Str × Value) → FL → Prop
 | nil : KM P F [] []
 | cons {x v d r l} : Is P F v d → KM P F r l → KM P F ((x, v) :: r) ((x, d) :: l)
theorem uo {x : Str} {v : Value} {d : AV} {e : DictEntry} (h1 : (strKind prog w).is x e.key = true) (h2 : e.val = v) (hk : ∃ k, (strKind prog w).is k e.key = true ∧ e.hash = (strKind prog w).hash k) (h : Is w.params F v d) (r : IsEnts w.params F es l) : IsEnts w.params F (e :: es) ((x, d) :: l) := by
 obtain ⟨hh, key, val⟩ := e
 obtain ⟨t, ht⟩ := Value.isStrOf_shape h1
 refine x12 (hk) ?_; clear hk; rintro k k1 k2
 have ek : k = x := (strKind prog w).inj _ _ _ k1 h1
 subst ek
 dsimp only at ht k2 h2
 subst ht k2 h2
 exact .cons h r
theorem KM.ents {kvs : List (Str × Value)} (h : KM w.params F kvs l) (p : Pairs (strKind prog w) es kvs)
 (hk : ∀ e ∈ es, ∃ k, (strKind prog w).is k e.key = true ∧ e.hash = (strKind prog w).hash k) : IsEnts w.params F es l := by
 induction h generalizing es with
 | nil => cases p; exact .nil
 | cons h r ih => cases p with | cons h1 h2 rest => exact uo h1 h2 (hk _ (.head _)) h (ih rest fun e he => hk e (.tail _ he))
theorem KV.km (h : KV P F vs l) : KM P F (KV.vals vs l) l := by
 induction h with
 | nil => exact .nil
 | cons h _ ih => exact .cons h ih
theorem KV.ents (h : KV w.params F vs l) (p : Pairs (strKind prog w) es (KV.vals vs l))
 (hk : ∀ e ∈ es, ∃ k, (strKind prog w).is k e.key = true ∧ e.hash = (strKind prog w).hash k) : IsEnts w.params F es l := h.km.ents p hk
section
variable {B : ab} {n : Nat} {L : Addr} {H : HL} {σ : St} {env : Env}
noncomputable abbrev WD (B : ab) (n : Nat) (L : Addr) (t : Sem (List (Value × Value))) (H : HL) (σ : St) (Φ : FL → St → Prop) : Prop :=
 W B n L t H σ (fun vs F' σ' => ∃ l, KV B.P F' vs l ∧ Φ l σ')
theorem uO {pos} {Φ : FL → St → Prop} (h : Φ [] σ) : WD B n L (evalPairs (aA env pos [] [])) H σ Φ := ae fun _ _ _ _ x => evalPairs_nil (.here x ⟨[], .nil, h⟩)
theorem pK {x : Str} {kk kp pos} {ks : List (Option Expr)} {v : Expr} {vs : List Expr} {Φ : FL → St → Prop}
 (h : WV B n L (eval v env) H σ fun a d σ₁ => WD B n L (evalPairs (aA env pos ks vs)) ((a, d) :: H) σ₁ fun l σ₂ => Φ ((x, d) :: l) σ₂) :
 WD B n L (evalPairs (aA env pos (some (.Constant (.str x) kk kp) :: ks) (v :: vs))) H σ Φ := ae fun A F s hA X => by
 refine evalPairs_cons (wpAny_Constant_str (wpAny_bind ?_))
 refine wpAny_mono (h.run A F { s with toks := s.toks + 1 } hA X) (fun a s₁ z => wpAny_bind (wpAny_standAt (wpAny_pure ?_))) fun _ _ z => z
 obtain ⟨F₁, σ₁, x₁, p₁, d, hd, w⟩ := z
 refine wpAny_mono (w.run A F₁ s₁ hA (x₁.push hd)) (fun b s₂ z => ?_) fun _ _ z => z
 obtain ⟨F₂, σ₂, x₂, p₂, l, hl, q⟩ := z
 have pr := p₁.trans p₂
 exact ⟨F₂, σ₂, x₂.weaken fun _ hp => .tail _ hp, ⟨pr.keep, pr.own, pr.frz, pr.mono, pr.gens, pr.os⟩, (x, d) :: l, .cons (x₂.hold (.head _)) hl, q⟩
theorem gk {kvs : List (Str × Value)} {h : Heap} {a : Addr} (x : h.DictOf (strKind B.prog B.w) a kvs) : ∃ es m, h.get? a = some (dictOf es m) ∧ Pairs (strKind B.prog B.w) es kvs ∧
 ∀ e ∈ es, ∃ k, (strKind B.prog B.w).is k e.key = true ∧ e.hash = (strKind B.prog B.w).hash k := by
 refine x36 (x) ?_; clear x; rintro ⟨cls, dict, data, slots⟩ es ep ho ⟨h1, h2, h3⟩ hd hk hp _
 dsimp only at h1 h2 h3 hd
 subst h1 h2 h3 hd
 exact ⟨es.toList, ep, ho, hp, fun e he => hk e (Array.mem_toList_iff.mp he)⟩
theorem Holds.frozenAt {G : Heap} {h h' : Heap} {a : Addr} {o : Obj} (x : Holds P G L F H σ h) (hF : F a = none) (hO : a ∉ L :: ad σ.objs) (k : ∀ b o, b ≠ a → h.get? b = some o → h'.get? b = some o) (ha : h'.get? a = some o) :
 Holds P G L (F.put a o) H σ h' ∧ F.le (F.put a o) := by
 have le := Fz.le_put (o := o) hF
 have sub : ∀ b o, F b = some o → h'.get? b = some o := fun b o e => k b o (fun z => by rw [z, hF] at e; contradiction) (x.sub _ _ e)
 refine ⟨⟨fun b o' e => le _ _ (x.core b o' e), fun b o' e => ?_, ?_, x.names, fun p hp => (x.objs p hp).move le fun b o' hb e => k _ _ (fun z => hO (z ▸ .tail _ (aH.mpr ⟨p, hp, hb⟩))) e, x.nodup, fun b hb => ?_, fun p hp => (x.held p hp).mono le, x.low⟩, le⟩
 · unfold Fz.put at e
   split at e
   · rename_i q; subst q; obtain rfl := Option.some.inj e; exact ha
   · exact sub _ _ e
 · obtain ⟨m, ⟨o', es, ep, e1, e2⟩, r⟩ := x.loc
   exact ⟨m, ⟨o', es, ep, k _ _ (fun z => hO (z ▸ .head _)) e1, e2⟩, fun y d hy => let ⟨v, e, q⟩ := r y d hy; ⟨v, e, q.mono le⟩⟩
 · unfold Fz.put
   split
   · rename_i q; exact absurd (q ▸ hb) hO
   · exact x.apart b hb
theorem n4 {n : Nat} (h : B.G.objs.size ≤ n) : (n == sysModules) = false := by
 obtain ⟨mg, g⟩ := B.g
 have := g.lt
 have h2 : mainGlobals = 3 := rfl
 rw [h2] at this
 refine beq_eq_false_iff_ne.mpr fun e => ?_
 have h3 : sysModules = 1 := rfl
 rw [h3] at e
 have h' : 3 < B.G.objs.size := this
 omega
theorem rh {keys : List (Option Expr)} {values : List Expr} {pos : Pos} {Φ : PV}
 (h : WD B n L (evalPairs (aA env pos keys values)) H σ fun l σ₁ => (l.map (·.1)).Nodup ∧ ∀ v, Φ v (.dct l) σ₁)
 (hs : autoParam ((evalEachOpt keys env).zip ((evalEach values env).map fun v => do let x ← v; standAt pos; pure x) = (aA env pos keys values).map fun p => (some p.1, p.2)) bR)
 (h0 : aA env pos keys values ≠ [] := by exact List.cons_ne_nil _ _) (hl : (aA env pos keys values).length ≤ 15 := by decide) : WV B n L (eval (.Dict keys values pos) env) H σ Φ := ae fun A F s hA X => by
 refine wpAny_Dict_pairs (knd := strKind B.prog B.w) hs h0 hl ?_
 have hn := bn s.heap
 have up : ∀ b o, s.heap.get? b = some o → (s.heap.push { cls := .type "dict", data := .dict #[] }).get? b = some o := fun b o e => Heap.get?_push_of_some _ e
 have aO : s.heap.objs.size ∉ L :: ad σ.objs := fun hm => by obtain ⟨o, ho⟩ := X.there _ hm; rw [hn] at ho; contradiction
 refine wpAny_mono (h.run A F _ hA (X.grow up)) (fun vs s₁ z => ?_) fun _ _ z => z
 obtain ⟨F₁, σ₁, x₁, p₁, l, hl, hnd, q⟩ := z
 have a0 : s₁.heap.get? s.heap.objs.size = some { cls := .type "dict", data := .dict #[] } := p₁.keep _ _ aO (Heap.get?_push_size _ rfl)
 refine ⟨KV.vals vs l, KV.carries hl, ⟨_, #[], _, a0, ⟨rfl, rfl, rfl⟩, rfl, (fun e he => by simp at he), .nil, List.nodup_nil⟩, fun h' hd hs' => ?_⟩
 rw [merged_nil_of_nodup _ (by rw [KV.keys hl]; exact hnd)] at hd
 refine x23 (gk hd) ?_; rintro es m e1 e2 e3
 have aF : F₁ s.heap.objs.size = none := by
  induction w : F₁ s.heap.objs.size using Option.casesOn with
  | none => rfl
  | some o =>
   rcases p₁.frz _ _ w with z | z | z
   · have := X.sub _ _ z; rw [hn] at this; contradiction
   · exact absurd z aO
   · rw [Heap.get?_push_size _ rfl] at z; contradiction
 have aO' : s.heap.objs.size ∉ L :: ad σ₁.objs := fun hm => by
  rcases p₁.own _ hm with z | z
  · exact aO z
  · rw [Heap.get?_push_size _ rfl] at z; contradiction
 obtain ⟨x₂, le⟩ := x₁.frozenAt (h' := h') (o := dictOf es m) aF aO' (fun b o hb e => (hs'.2 b hb).trans e) e1
 refine ⟨_, σ₁, x₂, ⟨fun b o hb e => (hs'.2 b (fun z => by rw [z, hn] at e; contradiction)).trans (p₁.keep _ _ hb (up _ _ e)), fun b hb => (p₁.own b hb).imp_right fun e => ?_, fun b o e => ?_, p₁.mono.trans le, p₁.gens, p₁.os⟩, .dct l, .dct (Fz.put_self ..) ((KV.ents hl e2 e3).mono le) hnd (n4 X.big), q _⟩
 · induction w : s.heap.get? b using Option.casesOn with
   | none => rfl
   | some o => rw [up _ _ w] at e; contradiction
 · unfold Fz.put at e
   split at e
   · rename_i z; exact .inr (.inr (by rw [z]; exact hn))
   · refine (p₁.frz _ _ e).imp_right (Or.imp_right fun e => ?_)
     induction w : s.heap.get? b using Option.casesOn with
     | none => rfl
     | some o => rw [up _ _ w] at e; contradiction
end
end
section
variable {target : Expr} {a : Addr} {v : Value} {Φ : PF} {body : List Stmt}
noncomputable def vm (o : Obj) : Prop := ∃ n, o.cls = .type n ∧ ["enumerate", "zip", "dict_itemiterator", "dict_reverseitemiterator", "odict_iterator", "itertools.zip_longest", "itertools.pairwise"].contains n = false
section
variable {prog : Program} {w : World} {A : Around} {E : Value → Shared → Prop} {s : Shared}
theorem kL {o : Obj} {Q : Unit → Shared → Prop} (h : s.heap.get? a = some o) (q : vm o) (hQ : Q () s) : wpAny (model prog w) A (letOwnedTupleGo target (.ref a) v) Q E s := by
 refine x12 (q) ?_; clear q; rintro n hc hn
 unfold letOwnedTupleGo
 have key : ∀ r : Addr, wpAny (model prog w) A (load a >>= fun o => match o.cls, o.data with
  | .type n, .fields vs => if (["enumerate", "zip", "dict_itemiterator", "dict_reverseitemiterator", "odict_iterator", "itertools.zip_longest", "itertools.pairwise"].contains n && vs[0]? == some (rawInt r)) = true then (do rule "for.unpacks-the-owned-tuple"; updateField a 0 .none) else pure ()
  | _, _ => pure ()) Q E s := fun r => by
  refine wpAny_bind (wpAny_load h ?_)
  rw [hc]
  cases o.data <;> first | exact wpAny_pure hQ | (dsimp only; rw [hn, Bool.false_and, if_neg Bool.false_ne_true]; exact wpAny_pure hQ)
 split
 · rcases v with _ | _ <;> first | exact wpAny_pure hQ | exact key _
 · rcases v with _ | _ <;> first | exact wpAny_pure hQ | exact key _
 · exact wpAny_pure hQ
end
section
variable {B : ab} {n : Nat} {L : Addr} {H : HL} {σ : St} {env : Env}
theorem jo {x : Str} {p} {Φ : St → Prop} (h : WU B n L (storeName env x v) H σ Φ) : WU B n L (assign (.Name x p) env v) H σ Φ := ae fun A F s hA X => wpAny_assign_Name (h.run A F s hA X)
theorem wL {o : Expr} {attr : Str} {p} {Φ : St → Prop} (h : WV B n L (eval o env) H σ fun ov d σ₁ => WU B n L (setAttr ov attr v) ((ov, d) :: H) σ₁ Φ) : WU B n L (assign (.Attribute o attr p) env v) H σ Φ := by
 rw [arm_assign_Attribute]
 refine aj (ag (af h fun ov od σ₂ w => al (bT (ag (W_dropU w fun σ₃ q => ?_)))))
 exact dC q
where
 W_dropU {t : Sem Unit} {H' : HL} {Φ : St → Prop} {Ψ : St → Prop} {σ : St} (h : WU B n L t H' σ Φ) (k : ∀ σ, Φ σ → Ψ σ) : WU B n L t H' σ Ψ := di h k
theorem gg {t1 t2 e : Expr} {k p pos}
 (h : WV B n L (eval e env) H σ fun v d σ₁ => ∃ d1 d2, d = .tup [d1, d2] ∧ ∀ v1 v2, WU B n L (assign t1 env v1) ((v1, d1) :: (v2, d2) :: H) σ₁ fun σ₂ => WU B n L (assign t2 env v2) ((v1, d1) :: (v2, d2) :: H) σ₂ fun σ₃ => Φ .next σ₃)
 (hs : autoParam (swapsWithSole [.Tuple [t1, t2] k p] e pos.line env = pure false) bR) (hw : autoParam (swappedStores [.Tuple [t1, t2] k p] e env = pure none) bR)
 (he : autoParam (assignEach [t1, t2] env = [(false, assign t1 env), (false, assign t2 env)]) bR) : WF B n L (exec (.Assign [.Tuple [t1, t2] k p] e pos) env) H σ Φ := ae fun A F s hA X => by
 refine PyProof.Rows.Assign_Tuple (wpAny_mono (h.run A F s hA X) (fun v s₁ z => ?_) fun _ _ z => z) hs hw
 obtain ⟨F₁, σ₁, x₁, p₁, d, hd, d1, d2, rfl, w⟩ := z
 refine x33 (cf hd) ?_; rintro a vs m rfl e1 e2
 refine x23 (two e2) ?_; rintro v1 v2 rfl q1 q2
 refine assign_Tuple_tuple hA.handled (c6 x₁.sub e1) (by rw [he]; rfl) (by rw [he]; rfl) fun h' hk => ?_
 rw [he]
 have keep : ∀ b o, s₁.heap.get? b = some o → h'.get? b = some o := fun b o e => hk b o (Nat.ne_of_lt (Heap.lt_size e)) e
 have x₂ := ((x₁.grow keep).push q2).push q1
 refine assignInOrder_cons ?_
 refine wpAny_mono ((w v1 v2).run A F₁ { s₁ with heap := h' } hA x₂) (fun _ s₃ z => ?_) fun _ _ z => z
 obtain ⟨F₃, σ₃, x₃, p₃, w₃⟩ := z
 refine assignInOrder_cons (wpAny_mono (w₃.run A F₃ s₃ hA x₃) (fun _ s₄ z => ?_) fun _ _ z => z)
 obtain ⟨F₄, σ₄, x₄, p₄, q⟩ := z
 refine assignInOrder_nil ⟨F₄, σ₄, x₄.weaken fun _ hp => .tail _ (.tail _ hp), p₁.trans (aM.trans (s' := { s₁ with heap := h' }) ⟨fun b o _ e => keep b o e, fun _ h => .inl h, fun _ _ e => .inl e, .refl F₁, .refl _, rfl⟩ (p₃.trans p₄)), .next, trivial, q⟩
where
 two {P : Params} {F : Fz} {vs : List Value} {d1 d2 : AV} (h : IsAll P F vs [d1, d2]) : ∃ v1 v2, vs = [v1, v2] ∧ Is P F v1 d1 ∧ Is P F v2 d2 := by
  exact rP h
noncomputable def gM (J : St → Prop) (Φ : PF) : PF
 | .next, σ => J σ
 | .cont, σ => J σ
 | .brk, σ => Φ .next σ
 | .ret d, σ => Φ (.ret d) σ
theorem gV {test : Expr} {pos} (J : Nat → St → Prop) (k : Nat) (h0 : J k σ)
 (h : ∀ k σ, J k σ → WB B n L (isTrue test env (eval test env)) H σ fun b σ₁ => (b = true → WF B n L (execs body env) H σ₁ (gM (fun σ₂ => ∃ m, m < k ∧ J m σ₂) Φ)) ∧ (b = false → Φ .next σ₁)) :
 WF B n L (exec (.While test body [] pos) env) H σ Φ := ae fun A F s hA X => by
 refine wpAny_While ?_
 refine codeAny_whileLoop (fun k s' => ∃ F' σ', Holds B.P B.G L F' H σ' s'.heap ∧ aM (L :: ad σ.objs) F s (L :: ad σ'.objs) F' s' ∧ J k σ') (fun k s₁ hI => ?_) k ⟨F, σ, X, .refl _ _ _, h0⟩
 refine x23 (hI) ?_; clear hI; rintro F₁ σ₁ x₁ p₁ j₁
 refine wpAny_mono ((h k σ₁ j₁).run A F₁ s₁ hA x₁) (fun b s₂ z => ?_) fun _ _ z => z.elim
 obtain ⟨F₂, σ₂, x₂, p₂, q⟩ := z
 induction b using Bool.casesOn with
 | false => exact wpAny_execs_nil ⟨F₂, σ₂, x₂, p₁.trans p₂, .next, trivial, q.2 rfl⟩
 | true =>
  refine wpAny_mono ((q.1 rfl).run A F₂ s₂ hA x₂) (fun f s₃ z => ?_) fun _ _ z => z.elim
  obtain ⟨F₃, σ₃, x₃, p₃, e, he, q⟩ := z
  have pp := p₁.trans (p₂.trans p₃)
  cases f with
  | next => rcases e with _ | _ <;> first | exact he.elim | (refine x12 (q) ?_; clear q; rintro m hm j; exact ⟨m, hm, F₃, σ₃, x₃, pp, j⟩)
  | cont => rcases e with _ | _ <;> first | exact he.elim | (refine x12 (q) ?_; clear q; rintro m hm j; exact ⟨m, hm, F₃, σ₃, x₃, pp, j⟩)
  | brk => rcases e with _ | _ <;> first | exact he.elim | exact ⟨F₃, σ₃, x₃, pp, .next, trivial, q⟩
  | ret v => rcases e with _ | _ <;> first | exact he.elim | exact ⟨F₃, σ₃, x₃, pp, .ret _, he, q⟩
inductive pM (B : ab) (n : Nat) (xv : Value) (d : AV) (N : Nat) (item : Nat → AV) (a : Addr) (K : Nat → Obj → Prop) : Prop
 | mk (next : ∀ L' i loc objs H, i < N → (xv, d) ∈ H → W B n L' (pyNext (.ref a)) H ⟨loc, (a, .is (K i)) :: objs⟩ fun r F σ' => ∃ v, r = some v ∧ Is B.P F v (item i) ∧ σ' = ⟨loc, (a, .is (K (i + 1))) :: objs⟩)
  (stop : ∀ L' loc objs H, (xv, d) ∈ H → W B n L' (pyNext (.ref a)) H ⟨loc, (a, .is (K N)) :: objs⟩ fun r _ σ' => r = none ∧ σ' = ⟨loc, objs⟩)
  (self : ∀ L' loc objs H, W B n L' (pyIter (.ref a)) H ⟨loc, (a, .is (K 0)) :: objs⟩ fun r _ σ' => r = .ref a ∧ σ' = ⟨loc, (a, .is (K 0)) :: objs⟩) (quiet : ∀ i o, K i o → vm o)
noncomputable def bO (B : ab) (n : Nat) (L : Addr) (xv : Value) (d : AV) (N : Nat) (item : Nat → AV) : Prop :=
 ∀ H σ, (xv, d) ∈ H → W B n L (pyIter xv) H σ fun r _ σ' => ∃ (a : Addr) (K : Nat → Obj → Prop), r = .ref a ∧ σ' = ⟨σ.loc, (a, .is (K 0)) :: σ.objs⟩ ∧ pM B n xv d N item a K
noncomputable def dS (a : Addr) (p : Obj → Prop) (J : St → Prop) (Φ : PF) : PF
 | .next, σ => ∃ loc objs, σ = ⟨loc, (a, .is p) :: objs⟩ ∧ J ⟨loc, objs⟩
 | .cont, σ => ∃ loc objs, σ = ⟨loc, (a, .is p) :: objs⟩ ∧ J ⟨loc, objs⟩
 | .brk, σ => Φ .next σ
 | .ret d, σ => Φ (.ret d) σ
theorem kC {p : Obj → Prop} {J : St → Prop} {H' : HL} (st : WU B n L (assign target env v) H' σ fun σ₂ => WF B n L (execs body env) H σ₂ (dS a p J Φ))
 {A : Around} {F : Fz} {s : Shared} {C : Flow → Shared → Prop} {E E' : Value → Shared → Prop} (hA : cA n A) (X : Holds B.P B.G L F H' σ s.heap) (hH : ∀ q ∈ H, q ∈ H')
 (k : ∀ f s' F' σ' e, Holds B.P B.G L F' H σ' s'.heap → aM (L :: ad σ.objs) F s (L :: ad σ'.objs) F' s' → iz B.P F' f e → dS a p J Φ e σ' → C f s') : wpAny B.M A (assign target env v) (fun _ s₂ => wpAny B.M A (execs body env) C E s₂) E' s :=
 st.then hA X fun _ _ _ _ x₁ p₁ w => w.then hA (x₁.weaken hH) fun _ _ _ _ x₂ p₂ q => Exists.elim q fun _ q => k _ _ _ _ _ x₂ (p₁.trans p₂) q.1 q.2
noncomputable def Bf (G : Prop) (Q : Flow → Prop) : Flow → Prop
 | .next | .cont => G
 | .brk => Q .next
 | .ret v => Q (.ret v)
theorem mf {P : Params} {F : Fz} {f : Flow} {e : Fl} {σ' : St} {p : Obj → Prop} {J : St → Prop} {G : Prop} {Q : Flow → Prop} (he : iz P F f e) (q : dS a p J Φ e σ')
 (go : ∀ loc objs, σ' = ⟨loc, (a, .is p) :: objs⟩ → J ⟨loc, objs⟩ → G) (out : ∀ f e, iz P F f e → Φ e σ' → Q f) : Bf G Q f := by
 have g : (∃ loc objs, σ' = ⟨loc, (a, .is p) :: objs⟩ ∧ J ⟨loc, objs⟩) → G := fun ⟨loc, objs, e, j⟩ => go loc objs e j
 rcases f with _ | _ <;> rcases e with _ | _ <;> first | exact he.elim | exact g q | exact out .next .next trivial q | exact out (.ret _) (.ret _) he q
inductive zm (B : ab) (L : Addr) (H : HL) (σ : St) (F : Fz) (s : Shared) (a : Addr) (K : Nat → Obj → Prop) (N : Nat) (J : Nat → St → Prop) (k : Nat) (s' : Shared) : Prop
 | mk (i : Nat) (F' : Fz) (loc : LL) (objs : OL) (e : k = N - i) (hi : i ≤ N) (j : J i ⟨loc, objs⟩) (x : Holds B.P B.G L F' H ⟨loc, (a, .is (K i)) :: objs⟩ s'.heap) (p : aM (L :: ad σ.objs) F s (L :: ad ((a, AO.is (K i)) :: objs)) F' s')
inductive pB (B : ab) (n : Nat) (L : Addr) (H : HL) (env : Env) (target : Expr) (body : List Stmt) (J : Nat → St → Prop) (Φ : PF) (xv : Value) (d : AV) (σ₁ : St) : Prop
 | mk (N : Nat) (item : Nat → AV) (it : bO B n L xv d N item) (j0 : J 0 σ₁) (fin : ∀ σ, J N σ → Φ .next σ) (step : ∀ i loc objs a p v, i < N → J i ⟨loc, objs⟩ → WU B n L (assign target env v) ((v, item i) :: (xv, d) :: H) ⟨loc, (a, .is p) :: objs⟩ fun σ₂ => WF B n L (execs body env) H σ₂ (dS a p (J (i + 1)) Φ))
theorem vu {iter : Expr} {pos} (J : Nat → St → Prop) (h : WV B n L (eval iter env) H σ (pB B n L H env target body J Φ))
 (hs : autoParam (∀ x, foldedSetIterable iter env x = pure x) bI) (ht : autoParam (∀ it v, letOwnedTupleGo target it v = pure ()) bJ) : WF B n L (exec (.For target iter body [] pos) env) H σ Φ := iS fun A F s Q hA X fq => by
 refine wpAny_For (h.then hA X fun xv s₁ F₁ σ₁ x₁ p₁ q => ?_) hs
 refine x12 (q) ?_; clear q; rintro d hd ⟨N, item, it, j0, fin, step⟩
 refine (it _ σ₁ (.head _)).then hA (x₁.push hd) fun r s₂ F₂ σ₂ x₂ p₂ q => ?_
 refine x23 (q) ?_; clear q; rintro a K rfl rfl ⟨next, stop, _⟩
 refine codeAny_forLoop (zm B L ((xv, d) :: H) σ F s a K N J) (fun k s₃ hI => ?_) N ⟨0, F₂, σ₁.loc, σ₁.objs, rfl, Nat.zero_le _, j0, x₂, p₁.trans p₂⟩ (ht _)
 obtain ⟨i, F₃, loc, objs, e, hi, j, x₃, p₃⟩ := hI
 by_cases hN : i = N
 · subst hN
   refine (stop L loc objs _ (.head _)).then hA x₃ fun r s₄ F₄ σ₄ x₄ p₄ q => ?_
   obtain ⟨rfl, rfl⟩ := q
   exact wpAny_execs_nil (fq _ _ ⟨F₄, _, x₄.weaken fun _ hp => .tail _ hp, p₃.trans p₄, .next, trivial, fin _ j⟩)
 · have hlt : i < N := Nat.lt_of_le_of_ne hi hN
   refine (next L i loc objs _ hlt (.head _)).then hA x₃ fun r s₄ F₄ σ₄ x₄ p₄ q => ?_
   refine x13 (q) ?_; clear q; rintro v rfl hv rfl
   refine kC (step i loc objs a (K (i + 1)) v hlt j) hA (x₄.push hv) (fun _ hp => .tail _ (.tail _ hp)) fun f s₅ F₅ σ₅ fe x₅ p₅ he q => ?_
   have pp := p₃.trans (p₄.trans p₅)
   refine mf (G := ∃ m, m < k ∧ zm B L ((xv, d) :: H) σ F s a K N J m s₅) (Q := fun f => Q f s₅) he q (fun loc' objs' e' j' => ?_) fun f e he q => fq _ _ ⟨F₅, σ₅, x₅, pp, e, he, q⟩
   subst e'
   exact ⟨N - (i + 1), e ▸ Nat.sub_succ_lt_self _ _ hlt, i + 1, F₅, loc', objs', rfl, hlt, j', x₅.push ((x₄.hold (.head _)).mono p₅.mono), pp⟩
end
end
section
variable {F : Fz} {objs : OL} {loc : LL} {s s' : Shared} {Ψ : Fz → St → Prop} {xv : Value}
section
variable {B : ab} {n : Nat} {L : Addr} {H : HL} {σ : St} {env : Env}
theorem Holds.add {P : Params} {G : Heap} {h : Heap} {H' : HL} (x : Holds P G L F H σ h) (k : ∀ p ∈ H', Is P F p.1 p.2) : Holds P G L F (H' ++ H) σ h :=
 ⟨x.core, x.sub, x.loc, x.names, x.objs, x.nodup, x.apart, fun p hp => (List.mem_append.mp hp).elim (k p) (x.held p), x.low⟩
theorem dT.enter {P : Params} {G : Heap} {h h₁ : Heap} {C : Addr} (x : dT P G F objs h) (hC : h.get? C = none) (big : G.objs.size ≤ C)
 (k : ∀ b o, h.get? b = some o → h₁.get? b = some o) (hl : ∃ m, h₁.Ns C m ∧ ∀ y d, (y, some d) ∈ loc → ∃ v, m y = some v ∧ Is P F v d) (hn : (loc.map (·.1)).Nodup) (hH : ∀ p ∈ H, Is P F p.1 p.2) : Holds P G C F H ⟨loc, objs⟩ h₁ := by
 have there : ∀ b ∈ ad objs, ∃ o, h.get? b = some o := fun b hb => by
  refine x12 (aH.mp hb) ?_; rintro p hp hb
  exact (x.objs p hp).there b hb
 refine ⟨x.core, fun b o e => k _ _ (x.sub _ _ e), hl, hn, fun p hp => (x.objs p hp).move (.refl F) fun b o _ e => k _ _ e, List.nodup_cons.mpr ⟨fun hm => ?_, x.nodup⟩, fun b hb => ?_, hH, big⟩
 · obtain ⟨o, ho⟩ := there _ hm; rw [hC] at ho; contradiction
 · rcases mC0 hb with rfl | hb
   · induction q : F b using Option.casesOn with
     | none => rfl
     | some o => have := x.sub _ _ q; rw [hC] at this; contradiction
   · exact x.apart b hb
theorem aM.leave {F' : Fz} {s₁ : Shared} {O O' : List Addr} {C : Addr} (p : aM (C :: O) F s₁ (C :: O') F' s') (hC : s.heap.get? C = none) (k : ∀ b o, s.heap.get? b = some o → s₁.heap.get? b = some o) (g : bV s.gens s₁.gens) (os : s₁.os = s.os) (nC : C ∉ O') : aM O F s O' F' s' :=
 (p.over (fun b hb => (mC0 hb).elim (fun e => .inr (e ▸ hC)) .inl) k g os).fewer fun _ => .tail _
theorem am.remove {a : Addr} {o : AO} (x : Holds B.P B.G L F H ⟨loc, (a, o) :: objs⟩ s.heap)
 (k : ∀ b y, b ≠ a → s.heap.get? b = some y → s'.heap.get? b = some y) (g : s'.gens = s.gens) (os : s'.os = s.os) (z : Ψ F ⟨loc, objs⟩) : am B L H ⟨loc, (a, o) :: objs⟩ F s s' Ψ := by
 have x' := x.drop (objs' := objs) (rest := [(a, o)]) (List.perm_append_comm (l₁ := [(a, o)]))
 have aO : a ∈ L :: ad ((a, o) :: objs) := .tail _ (.head _)
 have nd := x.nodup
 have nL : a ≠ L := fun e => (List.nodup_cons.mp nd).1 (e ▸ .head _)
 have nO : a ∉ ad objs := fun hm => (List.nodup_cons.mp (List.nodup_cons.mp nd).2).1 (List.mem_append_right _ hm)
 have keep : ∀ b y, b ≠ a → s.heap.get? b = some y → s'.heap.get? b = some y := k
 refine ⟨F, ⟨loc, objs⟩, ⟨x.core, fun b y e => keep b y (fun q => ?_) (x.sub _ _ e), ?_, x'.names, fun p hp => (x'.objs p hp).move (.refl F) fun b y hb e => keep b y (fun q => nO (q ▸ aH.mpr ⟨p, hp, hb⟩)) e, x'.nodup, x'.apart, x'.held, x.low⟩,
  ⟨fun b y hb e => keep b y (fun q => hb (q ▸ aO)) e, fun b hb => .inl ?_, fun _ _ e => .inl e, .refl F, .of g, os⟩, z⟩
 · have := x.apart a aO; rw [← q, e] at this; contradiction
 · obtain ⟨m, ⟨o', es, ep, e1, e2⟩, r⟩ := x.loc
   exact ⟨m, ⟨o', es, ep, keep _ _ (fun q => nL q.symm) e1, e2⟩, r⟩
 · rcases mC0 hb with rfl | hb
   · exact .head _
   · exact .tail _ (.tail _ (List.mem_append_right _ hb))
theorem am.turn {a : Addr} {p p' : Obj → Prop} (x : Holds B.P B.G L F H ⟨loc, (a, .is p) :: objs⟩ s.heap)
 (k : Heap.SameBut a s.heap s'.heap) (q : ∃ o, s'.heap.get? a = some o ∧ p' o) (g : s'.gens = s.gens) (os : s'.os = s.os) (z : Ψ F ⟨loc, (a, .is p') :: objs⟩) : am B L H ⟨loc, (a, .is p) :: objs⟩ F s s' Ψ := by
 have nL : L ≠ a := fun e => (List.nodup_cons.mp x.nodup).1 (e ▸ .head _)
 refine am.change (pre := []) (o' := .is p') x (c := a) (.inl rfl) rfl (fun b y _ h e => (k.2 b h).trans e) ?_ q g os z
 refine x12 (x.loc) ?_; rintro m hm r
 exact ⟨m, hm.sameBut k nL, r⟩
theorem am.begin (x : Holds B.P B.G L F H σ s.heap) {o : Obj} {p : Obj → Prop} {tk : Nat} (hp : p o) (z : Ψ F ⟨σ.loc, (s.heap.objs.size, .is p) :: σ.objs⟩)
 (hf : (s.heap.push o).get? s.heap.objs.size = some o := by exact Heap.get?_push_size _ rfl) : am B L H σ F s { s with heap := s.heap.push o, toks := tk } Ψ :=
 am.track (o := .is p) x (fun b y e => Heap.get?_push_of_some _ e) (fun b hb => by rw [List.mem_singleton.mp hb]; exact bn _) (by simp [AO.more]) ⟨o, hf, hp⟩ rfl rfl z
noncomputable def mT (T : String) (l : List Nat) (t : Tok) (i : Nat) (o : Obj) : Prop := o.cls = .type T ∧ o.data = .fields #[.str (S l) t, .int i 0]
theorem rB {l : List Nat} : bO B n L xv (.str l) l.length (fun i => .str [l.getD i 0]) := by
 intro H σ m; refine ae fun A F s hA X => ?_
 obtain ⟨t, rfl⟩ := az (X.hold m)
 have cps : ∀ i : Nat, (S l).cps[i]? = l[i]? := fun i => by simp
 induction ha : (S l).cps.all (· < 128) using Bool.casesOn with
 | true =>
  refine wpAny_pyIter_ascii ha (am.begin (p := mT "str_ascii_iterator" l t 0) X ⟨rfl, rfl⟩ ⟨_, fun i => mT "str_ascii_iterator" l t i, rfl, rfl, fun L' i loc objs H hi _ => ae fun A F s hA X => ?_, fun L' loc objs H _ => ae fun A F s hA X => ?_, (fun L' loc objs H => ae fun A F s hA X => ?_), fun i o ho => ⟨_, (by first | exact ho.1 | exact congrArg Obj.cls ho), rfl⟩⟩)
  · refine x13 (X.objs _ (.head _)) ?_; rintro o ho hc hd
    refine wpAny_pyNext_ascii_item (x := S l) (t := t) (i := i) (c := l[i]) ⟨o, ho, hc, hd⟩ (by rw [cps]; simp [hi]) fun h' hit hs => ?_
    exact am.turn X hs hit rfl rfl ⟨_, rfl, (by have e : l.getD i 0 = l[i] := (by simp [hi]); show Is B.P F _ (.str [l.getD i 0]); rw [e]; exact .str _ _), rfl⟩
  · refine x13 (X.objs _ (.head _)) ?_; rintro o ho hc hd
    refine wpAny_pyNext_ascii_end (x := S l) (t := t) (i := l.length) hA.handled ⟨o, ho, hc, hd⟩ (by rw [cps]; simp) fun h' hs => ?_
    exact am.remove X (fun b y hb e => hs b y hb e) rfl rfl ⟨rfl, rfl⟩
  · refine x13 (X.objs _ (.head _)) ?_; rintro o ho hc hd
    exact wpAny_pyIter_striter_ascii (i := 0) ⟨o, ho, hc, hd⟩ (.here X ⟨rfl, rfl⟩)
 | false =>
  refine wpAny_pyIter_wide ha (am.begin (p := mT "str_iterator" l t 0) X ⟨rfl, rfl⟩ ⟨_, fun i => mT "str_iterator" l t i, rfl, rfl, fun L' i loc objs H hi _ => ae fun A F s hA X => ?_, fun L' loc objs H _ => ae fun A F s hA X => ?_, (fun L' loc objs H => ae fun A F s hA X => ?_), fun i o ho => ⟨_, (by first | exact ho.1 | exact congrArg Obj.cls ho), rfl⟩⟩)
  · refine x13 (X.objs _ (.head _)) ?_; rintro o ho hc hd
    refine wpAny_pyNext_wide_item (x := S l) (t := t) (i := i) (c := l[i]) ⟨o, ho, hc, hd⟩ (by rw [cps]; simp [hi]) fun h' hit hs => ?_
    exact am.turn X hs hit rfl rfl ⟨_, rfl, (by have e : l.getD i 0 = l[i] := (by simp [hi]); show Is B.P F _ (.str [l.getD i 0]); rw [e]; exact .str _ _), rfl⟩
  · refine x13 (X.objs _ (.head _)) ?_; rintro o ho hc hd
    refine wpAny_pyNext_wide_end (x := S l) (t := t) (i := l.length) hA.handled ⟨o, ho, hc, hd⟩ (by rw [cps]; simp) fun h' hs => ?_
    exact am.remove X (fun b y hb e => hs b y hb e) rfl rfl ⟨rfl, rfl⟩
  · refine x13 (X.objs _ (.head _)) ?_; rintro o ho hc hd
    exact wpAny_pyIter_striter_wide (i := 0) ⟨o, ho, hc, hd⟩ (.here X ⟨rfl, rfl⟩)
noncomputable def fY (a b : Int) (o : Obj) : Prop := ∃ t u v, o = { cls := .type "range", dict := none, data := .fields #[.int a t, .int b u, .int 1 v], slots := #[] }
theorem lE {l : List AV} : bO B n L xv (.tup l) l.length (fun i => l.getD i .any) := by
 intro H σ m; refine ae fun A F s hA X => ?_
 refine x33 (cf (X.hold m)) ?_; rintro t vs q rfl e1 e2
 have hlen := e2.length
 refine iter_tuple (c6 X.sub e1) (am.begin (p := fun o => o.cls = .type "tuple_iterator" ∧ o.data = .fields #[.ref t, .int (0 : Nat) 0]) X ⟨rfl, rfl⟩ ⟨_, fun i o => o.cls = .type "tuple_iterator" ∧ o.data = .fields #[.ref t, .int (i : Nat) 0], rfl, rfl, fun L' i loc objs H hi mm => ae fun A F s hA X => ?_, fun L' loc objs H mm => ae fun A F s hA X => ?_, (fun L' loc objs H => ae fun A F s hA X => ?_), fun i o ho => ⟨_, (by first | exact ho.1 | exact congrArg Obj.cls ho), rfl⟩⟩)
 · refine x13 (X.objs _ (.head _)) ?_; rintro o ho hc hd
   refine x33 (cf (X.hold mm)) ?_; rintro t' vs' q' et e1 e2
   cases et
   refine x12 (f0.nth e2 (k := i) (d := l[i]) (by simp [hi])) ?_; rintro y hy hyd
   refine next_tuple_item (i := i) ⟨o, ho, hc, hd⟩ (c6 X.sub e1) (x := y) (by simpa using hy) fun h' hit hs => ?_
   exact am.turn X hs hit rfl rfl ⟨_, rfl, (by have e : l.getD i .any = l[i] := (by simp [hi]); show Is B.P F _ (l.getD i .any); rw [e]; exact hyd), rfl⟩
 · refine x13 (X.objs _ (.head _)) ?_; rintro o ho hc hd
   refine x33 (cf (X.hold mm)) ?_; rintro t' vs' q' et e1 e2
   cases et
   refine next_tuple_end (i := l.length) hA.handled ⟨o, ho, hc, hd⟩ (c6 X.sub e1) (by have := e2.length; simp; omega) fun h' hs => ?_
   exact am.remove X (fun b y hb e => hs b y hb e) rfl rfl ⟨rfl, rfl⟩
 · refine x13 (X.objs _ (.head _)) ?_; rintro o ho hc hd
   exact wpAny_pyIter_tupleiter (t := t) (i := 0) ⟨o, ho, hc, hd⟩ (.here X ⟨rfl, rfl⟩)
theorem lI {l : List AV} : bO B n L xv (.lst l) l.length (fun i => l.getD i .any) := by
 intro H σ m; refine ae fun A F s hA X => ?_
 refine x33 (dh (X.hold m)) ?_; rintro t vs q rfl e1 e2
 have hlen := e2.length
 refine wpAny_pyIter_list (cW X.sub e1) (am.begin (p := fun o => o.cls = .type "list_iterator" ∧ o.data = .fields #[.ref t, .int (0 : Nat) 0]) X ⟨rfl, rfl⟩ ⟨_, fun i o => o.cls = .type "list_iterator" ∧ o.data = .fields #[.ref t, .int (i : Nat) 0], rfl, rfl, fun L' i loc objs H hi mm => ae fun A F s hA X => ?_, fun L' loc objs H mm => ae fun A F s hA X => ?_, (fun L' loc objs H => ae fun A F s hA X => ?_), fun i o ho => ⟨_, (by first | exact ho.1 | exact congrArg Obj.cls ho), rfl⟩⟩)
 · refine x13 (X.objs _ (.head _)) ?_; rintro o ho hc hd
   refine x33 (dh (X.hold mm)) ?_; rintro t' vs' q' et e1 e2
   cases et
   refine x12 (f0.nth e2 (k := i) (d := l[i]) (by simp [hi])) ?_; rintro y hy hyd
   refine wpAny_pyNext_list_item (i := i) ⟨o, ho, hc, hd⟩ (cW X.sub e1) (x := y) (by simpa using hy) fun h' hit hs => ?_
   exact am.turn X hs hit rfl rfl ⟨_, rfl, (by have e : l.getD i .any = l[i] := (by simp [hi]); show Is B.P F _ (l.getD i .any); rw [e]; exact hyd), rfl⟩
 · refine x13 (X.objs _ (.head _)) ?_; rintro o ho hc hd
   refine x33 (dh (X.hold mm)) ?_; rintro t' vs' q' et e1 e2
   cases et
   refine wpAny_pyNext_list_end (i := l.length) hA.handled ⟨o, ho, hc, hd⟩ (cW X.sub e1) (by have := e2.length; simp; omega) fun h' hs => ?_
   exact am.remove X (fun b y hb e => hs b y hb e) rfl rfl ⟨rfl, rfl⟩
 · refine x13 (X.objs _ (.head _)) ?_; rintro o ho hc hd
   exact wpAny_pyIter_listiter (l := t) (i := 0) ⟨o, ho, hc, hd⟩ (.here X ⟨rfl, rfl⟩)
end
end
section
variable {Φ : PV}
section
variable {B : ab} {n : Nat} {L : Addr} {H : HL} {σ : St} {env : Env}
theorem kJ (C : Value) (vs : List Value) (kw : List (Str × Value)) (C' : Addr) (e : C = .ref C') : (Code.builtin "type.__call__" ⟨C :: vs, kw⟩).weight = 1 := by subst e; kernel_rfl
theorem xL {C fI : Addr} {vs : List Value} {ds : List AV} (hm : makesIn B.K C = true) (hi : findIn B.K (.ref C) "__init__" = some (some (.ref fI))) (hf : isFn B.K (.ref fI) = true)
 (e : vs.length = ds.length) (k : ∀ p ∈ vs.zip ds, p ∈ H) (c : ∀ x dx, aa B n fI (.ref x :: ds) ((x, .inst C dx []) :: σ.objs) fun d objs' => d = .none ∧ Φ (.ref x) (.ref x) ⟨σ.loc, objs'⟩) :
 WV B (n + 1) L (call (.ref C) vs) H σ Φ := ae fun A F s hA X => by
 obtain ⟨hh, g, d, t, os⟩ := s
 refine wpAny_call (make_core (makes_of X.K hm) (looks_findIn X.K hi) (fun self => bind_fn X.K self (beq_iff_eq.mp hf)) (.inl rfl) ?_)
 have T : am B L H σ F ⟨hh, g, d, t, os⟩ ⟨(hh.push emptyDict).push (instObj C hh.objs.size), g, d, t, os⟩ (fun F' σ' => F' = F ∧ σ' = ⟨σ.loc, (hh.objs.size + 1, .inst C hh.objs.size []) :: σ.objs⟩) := by
  have h1 : ((hh.push emptyDict).push (instObj C hh.objs.size)).get? (hh.objs.size + 1) = some (instObj C hh.objs.size) := by heap_get
  have h2 : ((hh.push emptyDict).push (instObj C hh.objs.size)).get? hh.objs.size = some (dictOf [] 0) := Heap.get?_push_of_some _ (Heap.get?_push_size _ rfl)
  refine am.track (o := .inst C hh.objs.size []) X (fun b y e => Heap.get?_push_of_some _ (Heap.get?_push_of_some _ e)) (fun b hb => ?_) (by simp [AO.more]) ⟨h1, [], 0, h2, .nil⟩ rfl rfl ⟨rfl, rfl⟩
  induction q : hh.get? b using Option.casesOn with
  | none => rfl
  | some o =>
   have : b < hh.objs.size := Heap.lt_size q
   rcases mC0 hb with rfl | hb
   · exact absurd this (Nat.not_lt.mpr (Nat.le_succ _))
   · rw [List.mem_singleton.mp hb] at this; exact absurd this (Nat.lt_irrefl _)
 obtain ⟨F₁, σ₁, X₁, p₁, rfl, rfl⟩ := T
 have hA' : cA n (A.under (.builtin "type.__call__" ⟨.ref C :: vs, []⟩)) := by
  refine ⟨hA.handled, ?_, ?_⟩
  · have := hA.depth
    show A.depth + (Code.builtin "type.__call__" ⟨.ref C :: vs, []⟩).weight + n ≤ 900
    rw [kJ (.ref C) vs [] C rfl]; omega
  · have := hA.units
    show A.units + (Code.builtin "type.__call__" ⟨.ref C :: vs, []⟩).cUnits + 8 * n ≤ 9000
    have : (Code.builtin "type.__call__" ⟨.ref C :: vs, []⟩).cUnits = 1 := by kernel_rfl
    omega
 refine codeAny_mono (c _ _ _ F₁ _ _ hA' X₁.call (.cons (.ref _) (fz X e k))) fun r s' z => ?_
 obtain ⟨v, d', objs', F', rfl, hd, y, p, rfl, q⟩ := z
 obtain ⟨x', p'⟩ := X₁.back y p
 exact ⟨eK hd, F', _, x', p₁.trans p', _, .ref _, q⟩
theorem sT {T : String} {first : List Value} {args : List Expr} {pos}
 (h : WL B n L (spliced (backTo pos (starEach args env))) H σ fun vs ds σ₁ => WV B n L (call (.type T) (first ++ vs)) (vs.zip ds ++ H) σ₁ Φ)
 (hp : autoParam ((backTo pos (starEach args env)).any (·.1) = false) bR) : WV B n L (callWith pos (.type T) first (backTo pos (starEach args env)) []) H σ Φ := ae fun A F s hA x => by
 refine PyProof.Rows.callWith_type hp (c8 hp (wpAny_mono (h.run A F s hA x) (fun vs s₁ z => ?_) fun _ _ z => z))
 refine z.then fun F₁ σ₁ x₁ ⟨ds, hds, w⟩ => ?_
 exact wpAny_mono (w.run A F₁ s₁ hA (x₁.add (gT.zip_is hds))) (fun _ _ y => y.weaken fun _ hp => List.mem_append_right _ hp) fun _ _ z => z
theorem ph {v u : Value} {a b : Int} (mv : (v, .int a) ∈ H) (mu : (u, .int b) ∈ H) (h : ∀ v, Φ v (.obj (fY a b)) σ) : WV B n L (call (.type "range") [v, u]) H σ Φ := ae fun A F s hA X => by
 obtain ⟨t, rfl⟩ := au (X.hold mv)
 obtain ⟨t', rfl⟩ := au (X.hold mu)
 refine call_range_2 (am.fresh X (fun b o e => Heap.get?_push_of_some _ e) (bn _) (Heap.get?_push_size _ rfl) rfl rfl fun le => ⟨_, .obj (Fz.put_self ..) ⟨_, _, _, rfl⟩, h _⟩)
theorem Holds.freeze {P : Params} {G : Heap} {F : Fz} {h : Heap} {loc : LL} {objs : OL} {a : Addr} {l : List AV} (x : Holds P G L F H ⟨loc, (a, .list l) :: objs⟩ h) :
 ∃ F', F.le F' ∧ Holds P G L F' H ⟨loc, objs⟩ h ∧ Is P F' (.ref a) (.lst l) ∧ ∀ b o, F' b = some o → F b = some o ∨ b = a := by
 refine x22 (x.objs _ (.head _)) ?_; rintro vs m h1 h2
 have aF : F a = none := x.apart a (.tail _ (.head _))
 have le := Fz.le_put (o := bE vs m) aF
 have x' := x.drop (objs' := objs) (rest := [(a, AO.list l)]) (List.perm_append_comm (l₁ := [(a, AO.list l)]))
 have nd := x.nodup
 have nL : a ≠ L := fun e => (List.nodup_cons.mp nd).1 (e ▸ .head _)
 have nO : a ∉ ad objs := fun hm => (List.nodup_cons.mp (List.nodup_cons.mp nd).2).1 (List.mem_append_right _ hm)
 refine ⟨F.put a (bE vs m), le, ⟨fun b o' e => le _ _ (x.core b o' e), fun b o' e => ?_, let ⟨m, hm, r⟩ := x.loc; ⟨m, hm, fun y d hy => let ⟨v, e, q⟩ := r y d hy; ⟨v, e, q.mono le⟩⟩, x'.names,
  fun p hp => (x'.objs p hp).move le fun _ _ _ e => e, x'.nodup, fun b hb => ?_, fun p hp => (x.held p hp).mono le, x.low⟩, .lst (Fz.put_self ..) (h2.mono le), fun b o e => ?_⟩
 · unfold Fz.put at e
   split at e
   · rename_i q; subst q; obtain rfl := Option.some.inj e; exact h1
   · exact x.sub _ _ e
 · unfold Fz.put
   split
   · rename_i q
     subst q
     rcases mC0 hb with h | hb
     · exact absurd h nL
     · exact absurd hb nO
   · exact x'.apart b hb
 · unfold Fz.put at e
   split at e
   · exact .inr ‹_›
   · exact .inl e
theorem kq {t : Sem Value} (h : WV B n L t H σ fun v d σ₁ => ∃ a l loc objs, d = .ref a ∧ σ₁ = ⟨loc, (a, .list l) :: objs⟩ ∧ Φ v (.lst l) ⟨loc, objs⟩) : WV B n L t H σ Φ := ae fun A F s hA X => by
 refine wpAny_mono (h.run A F s hA X) (fun v s₁ z => ?_) fun _ _ z => z
 obtain ⟨F₁, σ₁, x₁, p₁, d, hd, a, l, loc, objs, rfl, rfl, q⟩ := z
 refine x14 (x₁.freeze) ?_; rintro F₂ le x₂ hl back
 obtain rfl := aE hd
 have aO : a ∈ L :: ad σ.objs ∨ s.heap.get? a = none := p₁.own a (.tail _ (.head _))
 refine ⟨F₂, _, x₂, ⟨p₁.keep, fun b hb => p₁.own b ?_, fun b o e => ?_, p₁.mono.trans le, p₁.gens, p₁.os⟩, _, hl, q⟩
 · rcases mC0 hb with rfl | hb
   · exact .head _
   · exact .tail _ (.tail _ hb)
 · rcases back b o e with z | rfl
   · exact p₁.frz b o z
   · rcases aO with z | z
     · exact .inr (.inl z)
     · exact .inr (.inr z)
end
end
section
variable {xs : List Str} {F : Fz} {C a D : Addr} {objs : OL}
noncomputable def bare (xs : List Str) : LL := xs.map (·, none)
theorem gt (xs : List Str) : (bare xs).map (·.1) = xs := by
 unfold bare; rw [List.map_map]; exact (List.map_congr_left fun _ _ => rfl).trans (List.map_id _)
theorem gj {y : Str} {d : AV} (h : (y, some d) ∈ bare xs) : False := by
 unfold bare at h
 refine x12 (List.mem_map.mp h) ?_; rintro _ _ e
 cases e
noncomputable abbrev fP (ifs : List Expr) (env : Env) : Sem Bool := forIn ifs true fun c r => if r = true then do let ok ← isTrue c env (eval c env); pure (ForInStep.yield ok) else pure (ForInStep.yield r)
section
variable {B : ab} {n : Nat} {L : Addr} {H : HL} {σ : St} {env : Env}
theorem x1 {Φ : Bool → St → Prop} (h : Φ true σ) : WB B n L (fP [] env) H σ Φ := ae fun _ _ _ _ x => by
 exact wpAny_pure (.here x h)
theorem Ag {c : Expr} {Φ : Bool → St → Prop} (h : WB B n L (isTrue c env (eval c env)) H σ Φ) : WB B n L (fP [c] env) H σ Φ := ae fun A F s hA x => wpAny_tests_one (h.run A F s hA x)
theorem Holds.besides {P : Params} {G : Heap} {h h' : Heap} (x : Holds P G L F H σ h) (hF : F C = none) (hO : C ∉ L :: ad σ.objs) (k : ∀ b o, b ≠ C → h.get? b = some o → h'.get? b = some o) : Holds P G L F H σ h' := by
 refine ⟨x.core, fun b o e => k b o (fun z => by rw [z, hF] at e; contradiction) (x.sub _ _ e), ?_, x.names, fun p hp => (x.objs p hp).move (.refl F) fun b o' hb e => k _ _ (fun z => hO (z ▸ .tail _ (aH.mpr ⟨p, hp, hb⟩))) e, x.nodup, x.apart, x.held, x.low⟩
 refine x12 (x.loc) ?_; rintro m ⟨o', es, ep, e1, e2⟩ r
 exact ⟨m, ⟨o', es, ep, k _ _ (fun z => hO (z ▸ .head _)) e1, e2⟩, r⟩
end
section
variable {prog : Program} {w : World} {A : Around} {E : Value → Shared → Prop} {s : Shared}
variable {R : Result → Shared → Prop}
theorem ze {elt target iter : Expr} {ifs : List Expr} {scope : Scope} {pos : Pos} {it acc : Value} {env : Env} (I : Nat → Shared → Prop)
 (turn : ∀ n s, I n s → wpAny (model prog w) A (pyNext it) (fun r s₁ => match r with
  | none => R (.ok .next) s₁
  | some v => wpAny (model prog w) A (letOwnedTupleGo target it v) (fun _ s₀ => wpAny (model prog w) A (assign target env v) (fun _ s₂ =>
   wpAny (model prog w) A (fP ifs env) (fun ok s₃ =>
    if ok = true then wpAny (model prog w) A (eval elt env) (fun x s₄ =>
     wpAny (model prog w) A (call (.builtin "list.append") [acc, x]) (fun _ s₅ => ∃ m, m < n ∧ I m s₅) (notedBy (model prog w) A env fun e s' => R (.error e) s') s₄) (notedBy (model prog w) A env fun e s' => R (.error e) s') s₃
    else ∃ m, m < n ∧ I m s₃) (notedBy (model prog w) A env fun e s' => R (.error e) s') s₂) (notedBy (model prog w) A env fun e s' => R (.error e) s') s₀) (notedBy (model prog w) A env fun e s' => R (.error e) s') s₁) (notedBy (model prog w) A env fun e s' => R (.error e) s') s)
 (n : Nat) (h : I n s) : codeAny (model prog w) A (.compLoop (.ListComp elt [⟨target, iter, ifs, 0⟩] scope pos) 0 it acc env) R s := by
 refine codeAny_loop rfl I (fun n s hI => ?_) n h
 show wpAny _ A ((compTurn (.ListComp elt [⟨target, iter, ifs, 0⟩] scope pos) 0 it acc env).onRaise (fun x => do noteFrame x env; theTreesLotGoes x)) _ _ s
 refine wpAny_noted ?_
 rw [compTurn_list]
 refine wpAny_bind (wpAny_standAt (wpAny_bind (wpAny_mono (turn n s hI) (fun r s₁ h₁ => ?_) fun _ _ h' => h')))
 induction r using Option.casesOn with
 | none => exact wpAny_pure h₁
 | some v =>
  refine wpAny_bind (wpAny_mono h₁ (fun _ s₀ h₀ => ?_) fun _ _ h' => h')
  refine wpAny_bind (wpAny_mono h₀ (fun _ s₂ h₂ => wpAny_bind (wpAny_mono h₂ (fun ok s₃ h₃ => ?_) fun _ _ h' => h')) fun _ _ h' => h')
  induction ok using Bool.casesOn with
  | false => exact wpAny_pure ⟨rfl, h₃⟩
  | true => exact wpAny_bind (wpAny_bind (wpAny_mono h₃ (fun x s₄ h₄ => wpAny_bind (wpAny_mono h₄ (fun _ s₅ h₅ => wpAny_pure (wpAny_pure ⟨rfl, h₅⟩)) fun _ _ h' => h')) fun _ _ h' => h'))
end
section
variable {B : ab} {n : Nat} {L : Addr} {H : HL} {σ : St} {env : Env}
noncomputable def iy (B : ab) (n : Nat) (target elt : Expr) (ifs : List Expr) (cenv : Addr → Env) (H : HL) (xs : List Str) (item : AV) (J J' : List AV → OL → Prop) : Prop :=
 ∀ C ys objs D a p v, J ys objs → WU B n C (assign target (cenv C) v) ((v, item) :: H) ⟨bare xs, (D, .list ys) :: (a, .is p) :: objs⟩ fun σ₂ => WB B n C (fP ifs (cenv C)) H σ₂ fun ok σ₃ =>
  (ok = true → WV B n C (eval elt (cenv C)) H σ₃ fun _ e σ₄ => ∃ loc objs', σ₄ = ⟨loc, (D, .list ys) :: (a, .is p) :: objs'⟩ ∧ ys.length ≤ 16777215 ∧ J' (ys ++ [e]) objs') ∧
  (ok = false → ∃ loc objs', σ₃ = ⟨loc, (D, .list ys) :: (a, .is p) :: objs'⟩ ∧ J' ys objs')
theorem aM.less {o o' rest : OL} (h : o.Perm (o' ++ rest)) : aM (C :: ad o) F s (C :: ad o') F s := by
 have pe := b6 h
 rw [bb] at pe
 refine ⟨fun _ _ _ e => e, fun b hb => .inl ?_, fun _ _ e => .inl e, .refl F, .refl _, rfl⟩
 rcases mC0 hb with rfl | hb
 · exact .head _
 · exact .tail _ (pe.mem_iff.mpr (List.mem_append_left _ hb))
theorem aM.rest {O O' : List Addr} {F' : Fz} {s' : Shared} {h' : Heap} (p : aM O F s O' F' s') (hC : s.heap.get? C = none) (k : ∀ b, b ≠ C → h'.get? b = s'.heap.get? b) : aM O F s O' F' { s' with heap := h' } :=
 ⟨fun b o hb e => (k b (fun z => nomatch (z ▸ e).symm.trans hC)).trans (p.keep b o hb e), p.own, p.frz, p.mono, p.gens, p.os⟩
inductive v5 (B : ab) (C : Addr) (H : HL) (O : List Addr) (F : Fz) (s : Shared) (xs : List Str) (a D : Addr) (K : Nat → Obj → Prop) (N : Nat) (J : Nat → List AV → OL → Prop) (k : Nat) (s' : Shared) : Prop
 | mk (i : Nat) (F' : Fz) (ys : List AV) (objs' : OL) (e : k = N - i) (hi : i ≤ N) (j : J i ys objs') (x : Holds B.P B.G C F' H ⟨bare xs, (a, .is (K i)) :: (D, .list ys) :: objs'⟩ s'.heap) (p : aM O F s (C :: ad ((a, AO.is (K i)) :: (D, .list ys) :: objs')) F' s')
inductive sn (B : ab) (L : Addr) (H : HL) (O : List Addr) (F : Fz) (s : Shared) (loc : LL) (D : Addr) (J : List AV → OL → Prop) (C : Addr) (s₅ : Shared) : Prop
 | mk (ys : List AV) (objs' : OL) (F' : Fz) (m : Str → Option Value) (hns : s₅.heap.Ns C m) (j : J ys objs') (x : Holds B.P B.G L F' H ⟨loc, (D, .list ys) :: objs'⟩ s₅.heap) (p : aM O F s (L :: ad ((D, AO.list ys) :: objs')) F' s₅) (hC : C ∉ L :: ad ((D, AO.list ys) :: objs')) (hF : F' C = none)
theorem bX {p : Obj → Prop} {ys : List AV} : ((D, AO.list ys) :: (a, AO.is p) :: objs).Perm (((a, AO.is p) :: (D, AO.list ys) :: objs) ++ []) := by rw [List.append_nil]; exact .swap _ _ _
theorem l0 {p : Obj → Prop} {ys : List AV} : ((a, AO.is p) :: (D, AO.list ys) :: objs).Perm (((D, AO.list ys) :: (a, AO.is p) :: objs) ++ []) := by rw [List.append_nil]; exact .swap _ _ _
theorem Holds.forget {P : Params} {G : Heap} {loc : LL} {h : Heap} (hx : xs.Nodup) (x : Holds P G C F H ⟨loc, objs⟩ h) : Holds P G C F H ⟨bare xs, objs⟩ h :=
 ⟨x.core, x.sub, x.loc.imp fun m q => ⟨q.1, fun y d h => (gj h).elim⟩, by rw [gt]; exact hx, x.objs, x.nodup, x.apart, x.held, x.low⟩
theorem ol {elt target iter : Expr} {ifs : List Expr} {scope : Scope} {pos : Pos} {cl : List (Str × Addr)} {N : Nat} {item : Nat → AV} {K : Nat → Obj → Prop} {xv : Value} {d : AV} {J : Nat → List AV → OL → Prop}
 {loc : LL} {A : Around} {R : Addr → Result → Shared → Prop} {E : Value → Shared → Prop} (hA : cA n A) (hx : xs.Nodup) (hm : (xv, d) ∈ H)
 (X : Holds B.P B.G L F H ⟨loc, (D, .list []) :: (a, .is (K 0)) :: objs⟩ s.heap) (it : pM B n xv d N item a K)
 (h0 : J 0 [] objs) (step : ∀ i, i < N → iy B n target elt ifs (fun C => compEnvC scope cl C env) H xs (item i) (J i) (J (i + 1)))
 (hcell : ∀ y ∈ scope.names, y.2 ≠ .cell) (hkind : scope.kind = .function)
 (hR : ∀ C s₅, s.heap.get? C = none → sn B L H (L :: ad ((D, AO.list []) :: (a, AO.is (K 0)) :: objs)) F s loc D (J N) C s₅ → R C (.ok .next) s₅) :
 wpAny B.M A (newFunctionEnv scope env.globals cl [] env.qual none .none (some env)) (fun cenv s₄ =>
  codeAny B.M A (.compStart (.ListComp elt [⟨target, iter, ifs, 0⟩] scope pos) 0 (.ref a) (.ref D) { cenv with scope := relabel scope env }) (R cenv.locals) s₄) E s := by
 obtain ⟨next, stop, self, hq⟩ := it
 refine wpAny_newFunctionEnv hcell (fun _ hy => nomatch hy) (fun h₁ hns₁ hsb₁ => ?_) hkind
 have hC := bn s.heap
 generalize hCe : s.heap.objs.size = C at *
 have up : ∀ b o, s.heap.get? b = some o → h₁.get? b = some o := fun b o e => hsb₁.extBut b o (fun z => by rw [z, hC] at e; contradiction) (Heap.get?_push_of_some _ e)
 have big : B.G.objs.size ≤ C := hCe ▸ X.big
 have X₁ : Holds B.P B.G C F H ⟨bare xs, (D, .list []) :: (a, .is (K 0)) :: objs⟩ h₁ := X.call.enter hC big up ⟨_, hns₁, fun y d h => (gj h).elim⟩ (by rw [gt]; exact hx) X.held
 show codeAny B.M A (.compStart (.ListComp elt [⟨target, iter, ifs, 0⟩] scope pos) 0 (.ref a) (.ref D) (compEnvC scope cl C env)) (R C) { s with heap := h₁, toks := s.toks + ([] : List (Str × Value)).length }
 have hR := hR C
 generalize R C = R at *
 obtain ⟨s₁, es⟩ : ∃ s₁ : Shared, s₁ = { s with heap := h₁, toks := s.toks + ([] : List (Str × Value)).length } := ⟨_, rfl⟩
 have eh : s₁.heap = h₁ := congrArg Shared.heap es
 have eg : s₁.gens = s.gens := by rw [es]
 have eo : s₁.os = s.os := by rw [es]
 rw [← es]
 clear es
 subst eh
 have loop : ∀ k s', v5 B C H (C :: ad ((D, AO.list []) :: (a, AO.is (K 0)) :: objs)) F s₁ xs a D K N J k s' → codeAny B.M A (.compLoop (.ListComp elt [⟨target, iter, ifs, 0⟩] scope pos) 0 (.ref a) (.ref D) (compEnvC scope cl C env)) R s' := fun k s' hI => by
  refine ze _ (fun k s₂ hI => ?_) k hI
  obtain ⟨i, F₂, ys, objs₂, e, hi, j, x₂, p₂⟩ := hI
  by_cases hN : i = N
  · subst hN
    refine (stop C _ _ _ hm).then hA x₂ fun r s₃ F₃ σ₃ x₃ p₃ z => ?_
    obtain ⟨rfl, rfl⟩ := z
    have nC : C ∉ ad ((D, AO.list ys) :: objs₂) := (List.nodup_cons.mp x₃.nodup).1
    obtain ⟨y, py⟩ := X.back x₃.call (aM.leave (s := s) (p₂.trans p₃) hC up (.of eg) eo nC)
    refine x12 (x₃.loc) ?_; rintro m hm' _
    exact hR _ hC ⟨ys, objs₂, F₃, m, hm', j, y, py, fun hm => (mC0 hm).elim (fun z => by obtain ⟨o, ho⟩ := X.there C (z ▸ .head _); rw [hC] at ho; contradiction) nC, x₃.apart _ (.head _)⟩
  · have hlt : i < N := Nat.lt_of_le_of_ne hi hN
    refine (next C i _ _ _ hlt hm).then hA x₂ fun r s₃ F₃ σ₃ x₃ p₃ z => ?_
    refine x13 (z) ?_; clear z; rintro v rfl hv rfl
    refine x12 (x₃.objs _ (.head _)) ?_; rintro o₃ ho₃ hk₃
    refine kL ho₃ (hq _ _ hk₃) ?_
    refine (lu l0 (step i hlt C ys objs₂ D a (K (i + 1)) v j)).then hA (x₃.push hv) fun _ s₄ F₄ σ₄ x₄ p₄ w => ?_
    refine w.then hA (x₄.weaken fun _ hp => .tail _ hp) fun ok s₅ F₅ σ₅ x₅ p₅ z => ?_
    have pp := p₂.trans (p₃.trans (p₄.trans p₅))
    induction ok using Bool.casesOn with
    | false =>
     refine x22 (z.2 rfl) ?_; rintro loc' objs' rfl j'
     exact ⟨N - (i + 1), e ▸ Nat.sub_succ_lt_self _ _ hlt, i + 1, F₅, ys, objs', rfl, hlt, j', (x₅.forget hx).drop bX, pp.trans (aM.less bX)⟩
    | true =>
     refine (z.1 rfl).then hA x₅ fun y s₆ F₆ σ₆ x₆ p₆ z => ?_
     refine x12 (z) ?_; clear z; rintro e' he ⟨loc', objs', rfl, hz, j'⟩
     refine (iA (v₀ := .ref D) (v := y) (d := e') (H := (y, e') :: (.ref D, .ref D) :: H) (Φ := fun _ _ σ' => σ' = ⟨loc', (D, .list (ys ++ [e'])) :: (a, .is (K (i + 1))) :: objs'⟩) (.tail _ (.head _)) (.head _) .head (Nat.le_succ_of_le hz) rfl).then hA ((x₆.push (.ref D)).push he) fun _ s₇ F₇ σ₇ x₇ p₇ z => ?_
     refine x12 (z) ?_; clear z; rintro _ _ rfl
     exact ⟨N - (i + 1), e ▸ Nat.sub_succ_lt_self _ _ hlt, i + 1, F₇, ys ++ [e'], objs', rfl, hlt, j', ((x₇.weaken fun _ hp => .tail _ (.tail _ hp)).forget hx).drop bX, pp.trans (p₆.trans (p₇.trans (aM.less bX)))⟩
 have begin_ : v5 B C H (C :: ad ((D, AO.list []) :: (a, AO.is (K 0)) :: objs)) F s₁ xs a D K N J N s₁ := ⟨0, F, [], objs, rfl, Nat.zero_le _, h0, X₁.drop bX, aM.less bX⟩
 refine codeAny_compStart_list (loop _ _ begin_) ?_
 refine (lu bX (self C (bare xs) ((D, .list []) :: objs) H)).then hA X₁ fun r s' F₂ σ₂ x₂ p₂ z => ?_
 obtain ⟨rfl, rfl⟩ := z
 exact loop N s' ⟨0, F₂, [], objs, rfl, Nat.zero_le _, h0, x₂, p₂⟩
end
end
section
variable {elt target iter : Expr} {ifs : List Expr} {scope : Scope} {pos : Pos} {cl : List (Str × Addr)}
section
variable {B : ab} {n : Nat} {L : Addr} {H : HL} {σ : St} {env : Env}
inductive gn (B : ab) (n : Nat) (L : Addr) (H : HL) (target elt : Expr) (ifs : List Expr) (cenv : Addr → Env) (xs : List Str) (J : Nat → List AV → OL → Prop) (Q : Addr → St → Prop) (xv : Value) (d : AV) (σ₁ : St) : Prop
 | mk (N : Nat) (item : Nat → AV) (it : bO B n L xv d N item) (j0 : J 0 [] σ₁.objs) (step : ∀ i, i < N → iy B n target elt ifs cenv ((xv, d) :: H) xs (item i) (J i) (J (i + 1))) (fin : ∀ ys objs D, J N ys objs → Q D ⟨σ₁.loc, (D, .list ys) :: objs⟩)
theorem jP {ps : Pos} {use : Option (Value → Sem Unit)} {P : Addr → St → Prop} {A : Around} {F : Fz} {s : Shared} {E : Value → Shared → Prop} {Q : Value → Shared → Prop} (xs : List Str) (J : Nat → List AV → OL → Prop)
 (h : WV B n L (eval iter env) H σ (gn B n L H target elt ifs (fun C => compEnvC scope cl C env) xs J P)) (hA : cA n A) (X : Holds B.P B.G L F H σ s.heap)
 (k : ∀ D C s₅ F' ys objs loc m O₃ F₃ s₃, aM (L :: ad σ.objs) F s O₃ F₃ s₃ → s₃.heap.get? C = none → Holds B.P B.G L F' H ⟨loc, (D, .list ys) :: objs⟩ s₅.heap → aM O₃ F₃ s₃ (L :: ad ((D, AO.list ys) :: objs)) F' s₅ → s₅.heap.Ns C m → C ∉ L :: ad ((D, AO.list ys) :: objs) → F' C = none → P D ⟨loc, (D, .list ys) :: objs⟩ → compPost B.M A E use Q (.ref D) C (.ok .next) s₅)
 (hclos : closureFor scope env = pure cl) (hx : xs.Nodup) (hcell : ∀ y ∈ scope.names, y.2 ≠ .cell) (hkind : scope.kind = .function) (hnames : ∀ y ∈ scope.names, y.2 = .local → scope.names.lookup y.1 = some .local)
 (hs : ∀ x, foldedSetIterable iter env x = pure x) : wpAny B.M A (comprehension (.ListComp elt [⟨target, iter, ifs, 0⟩] scope pos) scope env ps (newList []) false (eval iter env) use) Q E s := by
 refine wpAny_comprehension_free rfl hs hclos hkind hnames (h.then hA X fun xv s₁ F₁ σ₁ x₁ p₁ z => ?_)
 refine x12 (z) ?_; clear z; rintro d hd ⟨N, item, it, j0, step, fin⟩
 refine (it _ σ₁ (.head _)).then hA (x₁.push hd) fun r s₂ F₂ σ₂ x₂ p₂ z => ?_
 refine x23 (z) ?_; clear z; rintro a K rfl rfl it
 refine wpAny_newObj_type ?_
 have T : am B L ((xv, d) :: H) ⟨σ₁.loc, (a, .is (K 0)) :: σ₁.objs⟩ F₂ s₂ { s₂ with heap := s₂.heap.push (bE [] 0) } (fun F' σ' => F' = F₂ ∧ σ' = ⟨σ₁.loc, (s₂.heap.objs.size, .list []) :: (a, .is (K 0)) :: σ₁.objs⟩) :=
  am.track (o := .list []) x₂ (fun b y e => Heap.get?_push_of_some _ e) (fun b hb => by rw [List.mem_singleton.mp hb]; exact bn _) (by simp [AO.more]) ⟨[], 0, Heap.get?_push_size _ rfl, .nil⟩ rfl rfl ⟨rfl, rfl⟩
 obtain ⟨F₃, σ₃, x₃, p₃, rfl, rfl⟩ := T
 have up := p₁.trans (p₂.trans p₃)
 refine ol (R := fun C => compPost B.M A E use Q (.ref s₂.heap.objs.size) C) hA hx (.head _) x₃ it j0 step hcell hkind fun C s₅ hC z => ?_
 obtain ⟨ys, objs', F₅, m, hns, j, x₅, p₅, nC, hF⟩ := z
 exact k _ C s₅ F₅ ys objs' _ m _ _ _ up hC (x₅.weaken fun _ hp => .tail _ hp) p₅ hns nC hF (fin ys objs' _ j)
theorem y6 {Φ : PV} (xs : List Str) (J : Nat → List AV → OL → Prop)
 (h : WV B n L (eval iter env) H σ (gn B n L H target elt ifs (fun C => compEnvC scope cl C env) xs J fun D => Φ (.ref D) (.ref D)))
 (hclos : closureFor scope env = pure cl) (hx : xs.Nodup := by decide)
 (hcell : ∀ y ∈ scope.names, y.2 ≠ .cell := by decide) (hkind : autoParam (scope.kind = .function) bR) (hnames : ∀ y ∈ scope.names, y.2 = .local → scope.names.lookup y.1 = some .local := by decide)
 (hs : autoParam (∀ x, foldedSetIterable iter env x = pure x) bI) :
 WV B n L (eval (.ListComp elt [⟨target, iter, ifs, 0⟩] scope pos) env) H σ Φ := iS fun A F s Q hA X fq => by
 rw [eval_ListComp]
 exact jP (use := none) xs J h hA X (fun D C s₅ F' ys objs loc m O₃ F₃ s₃ p hC x p₅ hns nC hF q => ⟨m, hns, fun h' hs' => fq _ _ ⟨F', _, x.besides hF nC fun b o hb e => (hs'.2 b hb).trans e, p.trans (p₅.rest hC hs'.2), _, .ref _, q⟩⟩) hclos hx hcell hkind hnames hs
theorem jF {p pos' : Pos} {x : Str} {Φ : PF} (xs : List Str) (J : Nat → List AV → OL → Prop)
 (h : WV B n L (eval iter env) H σ (gn B n L H target elt ifs (fun C => compEnvC scope cl C env) xs J fun D σ₁ => WU B n L (storeName env x (.ref D)) ((.ref D, .ref D) :: H) σ₁ fun σ₂ => Φ .next σ₂))
 (hsw : swapsWith (.ListComp elt [⟨target, iter, ifs, 0⟩] scope pos) (some (.Name x p)) pos'.line env = pure true)
 (hclos : closureFor scope env = pure cl) (hx : xs.Nodup := by decide)
 (hcell : ∀ y ∈ scope.names, y.2 ≠ .cell := by decide) (hkind : autoParam (scope.kind = .function) bR) (hnames : ∀ y ∈ scope.names, y.2 = .local → scope.names.lookup y.1 = some .local := by decide)
 (hs : autoParam (∀ x, foldedSetIterable iter env x = pure x) bI) :
 WF B n L (exec (.Assign [.Name x p] (.ListComp elt [⟨target, iter, ifs, 0⟩] scope pos) pos') env) H σ Φ := iS fun A F s Q hA X fq => by
 rw [exec_Assign_Name_used _ _ _ _ hsw]
 refine wpAny_bind (wpAny_standAt (wpAny_bind (wpAny_bind (jP (ps := firstIterPos [⟨target, iter, ifs, 0⟩] pos) (use := some (assign (.Name x p) env)) xs J h hA X (fun D C s₅ F' ys objs loc m O₃ F₃ s₃ p₀ hC x p₅ hns nC hF q => ?_) hclos hx hcell hkind hnames hs))))
 refine (jo (p := p) q).then hA (x.push (.ref D)) fun _ s₆ F₆ σ₆ x₆ p₆ q => ?_
 refine x32 (hns) ?_; clear hns; rintro oC es ep e1 r
 refine ⟨m, ⟨oC, es, ep, p₆.keep C _ nC e1, r⟩, fun h' hs' => wpAny_pure (wpAny_pure (fq _ _ ⟨F₆, σ₆, (x₆.weaken fun _ hp => .tail _ hp).besides ?_ (fun hm => (p₆.own _ hm).elim nC fun z => nomatch z.symm.trans e1) fun b o hb e => (hs'.2 b hb).trans e, p₀.trans ((p₅.trans p₆).rest hC hs'.2), .next, trivial, q⟩))⟩
 exact Option.eq_none_iff_forall_ne_some.mpr fun o w => (p₆.frz _ _ w).elim (fun z => nomatch z.symm.trans hF) fun z => z.elim nC fun z => nomatch z.symm.trans e1
end
end
section
variable {ps : List Str} {fd : FuncData} {p1 p2 : Str} {d1 d2 : AV}
noncomputable def bL : List Str → List AV → LL
 | x :: xs, d :: ds => (x, some d) :: bL xs ds
 | _, _ => []
theorem kg : ∀ {ds : List AV}, ps.length = ds.length → (bL ps ds).map (·.1) = ps := by
 induction ps with
 | nil => intro ds h; cases ds with | nil => rfl | cons => contradiction
 | cons p ps ih => intro ds h; cases ds with | nil => cases h | cons d ds => exact congrArg (p :: ·) (ih (Nat.succ.inj h))
theorem ia {x : Str} {v : Value} : ∀ {l : List (Str × Value)}, (l.map (·.1)).Nodup → (x, v) ∈ l → l.reverse.lookup x = some v
 | (y, w) :: r, n, h => by
  rw [List.map_cons, List.nodup_cons] at n
  rw [List.reverse_cons, List.lookup_append]
  cases h with
  | head =>
   have : r.reverse.lookup x = none := by
    rw [List.lookup_eq_none_iff]
    intro p hp
    refine bne_iff_ne.mpr fun e => n.1 ?_
    exact List.mem_map.mpr ⟨p, List.mem_reverse.mp hp, e.symm⟩
   rw [this]; simp
  | tail _ h => rw [ia n.2 h]; rfl
theorem oi {P : Params} {F : Fz} {x : Str} {d : AV} : ∀ {vals : List Value} {ds : List AV}, IsAll P F vals ds → (x, some d) ∈ bL ps ds → ∃ v, (x, v) ∈ ps.zip vals ∧ Is P F v d := by
 induction ps with
 | nil => intro vals ds _ m; rcases ds with _ | _ <;> contradiction
 | cons p ps ih =>
  intro vals ds h m
  cases h with
  | nil => contradiction
  | cons h r =>
   rename_i v0 d0 vs0 ds0
   have m : (x, some d) ∈ (p, some _) :: bL ps _ := m
   cases m with
   | head => exact ⟨_, .head _, h⟩
   | tail _ m => refine x12 (ih r m) ?_; rintro v a b; exact ⟨v, .tail _ a, b⟩
theorem jO : ∀ {vals : List Value}, ((ps.zip vals).map (·.1)).Sublist ps := by
 induction ps with
 | nil => intro vals; rcases vals with _ | _ <;> exact .slnil
 | cons p r ih =>
  intro vals
  induction vals using List.casesOn with
  | nil => exact List.nil_sublist _
  | cons v vs => exact (ih (vals := vs)).cons_cons p
section
variable {B : ab} {n : Nat} {objs : OL}
noncomputable def bm (B : ab) (fd : FuncData) (ps : List Str) (args ds : List AV) : Prop :=
 ∀ (F : Fz) (s : Shared) (vs : List Value), IsAll B.P F vs args → B.K.In s.heap → (∀ b o, B.G.get? b = some o → F b = some o) → ∃ vals, IsAll B.P F vals ds ∧ BindsTo s fd ⟨vs, []⟩ (ps.zip vals)
theorem bm.one (h : ∀ v1, bindArgs fd ⟨[v1], []⟩ = pure [(p1, v1)]) : bm B fd [p1] [d1] [d1] := fun F s vs hv _ _ => by
 obtain ⟨v1, rfl, q1⟩ := uK hv; exact ⟨_, .cons q1 .nil, .of_eq (h _)⟩
theorem bm.two (h : ∀ v1 v2, bindArgs fd ⟨[v1, v2], []⟩ = pure [(p1, v1), (p2, v2)]) : bm B fd [p1, p2] [d1, d2] [d1, d2] := fun F s vs hv _ _ => by
 obtain ⟨v1, v2, rfl, q1, q2⟩ := rP hv; exact ⟨_, .cons q1 (.cons q2 .nil), .of_eq (h _ _)⟩
theorem bm.three {p3 : Str} {d3 : AV} (h : ∀ v1 v2 v3, bindArgs fd ⟨[v1, v2, v3], []⟩ = pure [(p1, v1), (p2, v2), (p3, v3)]) : bm B fd [p1, p2, p3] [d1, d2, d3] [d1, d2, d3] := fun F s vs hv _ _ => by
 obtain ⟨v1, v2, v3, rfl, q1, q2, q3⟩ := yF hv; exact ⟨_, .cons q1 (.cons q2 (.cons q3 .nil)), .of_eq (h _ _ _)⟩
theorem bm.dflt {T : Addr} {o : Obj} {w : Value} {m : Nat} {k : Value → Option (Array Value) → Sem (List (Str × Value))} (hd : fd.defaults = .ref T) (ho : B.K.lookup T = some o) (hs : o.data = .seq #[w] m)
 (h₁ : ∀ v1, bindArgs fd ⟨[v1], []⟩ = seqItems? fd.defaults >>= k v1) (h₂ : ∀ v1, k v1 (some #[w]) = pure [(p1, v1), (p2, w)]) (c : aW B w d2) : bm B fd [p1, p2] [d1] [d1, d2] := fun F s vs hv X core => by
 obtain ⟨v1, rfl, q1⟩ := uK hv; exact ⟨_, .cons q1 (.cons (c F core) .nil), .of_defaults hd (X _ _ ho) hs (h₁ _) (h₂ _)⟩
theorem bm.dflt3 {p3 : Str} {d3 : AV} {T : Addr} {o : Obj} {w : Value} {m : Nat} {k : Value → Value → Option (Array Value) → Sem (List (Str × Value))} (hd : fd.defaults = .ref T) (ho : B.K.lookup T = some o) (hs : o.data = .seq #[w] m)
 (h₁ : ∀ v1 v2, bindArgs fd ⟨[v1, v2], []⟩ = seqItems? fd.defaults >>= k v1 v2) (h₂ : ∀ v1 v2, k v1 v2 (some #[w]) = pure [(p1, v1), (p2, v2), (p3, w)]) (c : aW B w d3) : bm B fd [p1, p2, p3] [d1, d2] [d1, d2, d3] := fun F s vs hv X core => by
 obtain ⟨v1, v2, rfl, q1, q2⟩ := rP hv; exact ⟨_, .cons q1 (.cons q2 (.cons (c F core) .nil)), .of_defaults hd (X _ _ ho) hs (h₁ _ _) (h₂ _ _)⟩
theorem BR {name qual : Str} {params : Arguments} {body : List Stmt} {scope : Scope} {dV kV doc pm cdv ct oc : Value} {an od : Option Addr} {osl : Array (Option Value)} {f : Addr} {args ds : List AV} {Φ : AV → OL → Prop} {loc : LL} (ps xs : List Str)
 (ho : B.K.lookup f = some ⟨oc, od, .func (fnOf name qual params body scope dV kV doc pm an cdv ct), osl⟩) (hcd : codeIn B.K cdv qual = true)
 (hb : bm B (fnOf name qual params body scope dV kV doc pm an cdv ct) ps args ds) (h : ∀ L, WF B n L (execs body (envOf qual scope L f cdv)) [] ⟨loc, objs⟩ (ko Φ))
 (hloc : bL ps ds ++ bare xs = loc := by simp only [bL, bare, List.map_cons, List.map_nil, List.cons_append, List.nil_append]; rfl) (hl : autoParam (ps.length = ds.length) bR) (hn : (ps ++ xs).Nodup := by decide) (hps : autoParam (ps.all (fun y => scope.names.lookup y == some .local) = true) bR)
 (hco : autoParam (scope.isCoroutine = false) bR) (hgen : autoParam (scope.isGenerator = false) bR) (hk : autoParam (scope.kind = .function) bR) (hcell : ∀ x ∈ scope.names, x.2 ≠ .cell := by decide) : aa B (n + 1) f args objs Φ := by
 subst hloc
 refine Ar (loc := bL ps ds ++ bare xs) ho hcd (fun F s vs hvs X core => ?_) (by rw [List.map_append, kg hl, gt]; exact hn) h hco hgen hk hcell
 refine x12 (hb F s vs hvs X core) ?_; rintro vals hv hbind
 have sub : ((ps.zip vals).map (·.1)).Nodup := (jO).nodup (List.nodup_append.mp hn).1
 refine ⟨_, hbind, fun y hy => ?_, fun y d hy => ?_⟩
 · exact beq_iff_eq.mp (List.all_eq_true.mp hps y.1 (jO.subset (List.mem_map_of_mem hy)))
 · rcases List.mem_append.mp hy with hy | hy
   · refine x12 (oi hv hy) ?_; rintro v hv q
     exact ⟨v, ia sub hv, q⟩
   · exact (gj hy).elim
end
end
section
variable {Φ : PV} {x y : Expr} {rest : List Expr}
theorem ua (a b : Int) : PyData.eqv (.int a) (.int b) = decide (a = b) := by
 first | rfl | (simp [PyData.eqv]; done) | (unfold PyData.eqv; simp)
section
variable {B : ab} {n : Nat} {L : Addr} {H : HL} {σ : St} {env : Env}
noncomputable def ip : List AV → Option (List Int)
 | [] => some []
 | .int i :: r => (ip r).map (i :: ·)
 | _ => none
theorem kP {l : List AV} : ∀ {ks : List Int}, ip l = some ks → dataAll l = some (ks.map .int) := by
 induction l with
 | nil => intro ks e; obtain rfl := Option.some.inj e; rfl
 | cons d r ih =>
  intro ks e
  rcases d with _ | _ <;> try contradiction
  refine x12 (Option.map_eq_some_iff.mp e) ?_; rintro m e1 rfl
  show (dataAll r).map (PyData.int _ :: ·) = _
  refine (ih e1) ▸ ?_; rfl
theorem kz : ∀ ks : List Int, PyData.canLayAll0 (ks.map .int) = true
 | [] => rfl
 | k :: r => by simp only [List.map_cons, PyData.canLayAll0, PyData.canLay0, kz r, Bool.and_true]
theorem kQ (i : Int) : ∀ ks : List Int, ((ks.map PyData.int).any fun y => PyData.eqv y (.int i)) = decide (i ∈ ks)
 | [] => (decide_eq_false (nomatch ·)).symm
 | k :: r => by
  rw [List.map_cons, List.any_cons, kQ i r, ua, Bool.eq_iff_iff, Bool.or_eq_true, decide_eq_true_iff, decide_eq_true_iff, decide_eq_true_iff, List.mem_cons]
  exact ⟨fun h => h.imp_left Eq.symm, fun h => h.imp_left Eq.symm⟩
theorem Ac {a b : Value} {i : Int} {l : List AV} {ks : List Int} (ma : (a, .int i) ∈ H) (mb : (b, .tup l) ∈ H) (e : ip l = some ks) (h : ∀ v, Φ v (.bool (decide (i ∈ ks))) σ) : WV B n L (compareOp .In a b) H σ Φ :=
 rz ma mb rfl (kP e) rfl (kz ks) (by simp [PyData.depth]) (kQ i ks) h
theorem ly {l m r : Expr} {op op' pos}
 (h : WV B n L (eval l env) H σ fun a x σ₁ => WV B n L (eval m env) ((a, x) :: H) σ₁ fun b y σ₂ => WV B n L (compareOp op a b) ((b, y) :: (a, x) :: H) σ₂ fun _ z σ₃ => ∃ c, z = .bool c ∧ (c = false → ∀ v, Φ v (.bool false) σ₃) ∧
  (c = true → WV B n L (eval r env) ((b, y) :: (a, x) :: H) σ₃ fun d w σ₄ => WV B n L (compareOp op' b d) ((d, w) :: (b, y) :: (a, x) :: H) σ₄ Φ))
 (hm : autoParam (markedEach [op, op'] [m, r] (evalEach [m, r] env) = [eval m env, eval r env]) bW) : WV B n L (eval (.Compare l [op, op'] [m, r] pos) env) H σ Φ := by
 rw [arm_eval_Compare, hm]
 refine aj (af h fun a x σ₁ w => ?_)
 show W B n L (do
  let rv ← holding [a] (eval m env)
  standAt pos
  let c ← holding [a, rv] (compareOp op a rv)
  release [a, rv] [c]
  if ← holding [c, rv] (truthy c) then compareChain pos rv [op'] [eval r env] else pure c) ((a, x) :: H) σ₁ _
 refine aj (ag (af w fun b y σ₂ w => al (aj (ag (af w fun c z σ₃ ⟨k, e, q0, q1⟩ => ?_)))))
 subst e
 refine iW (cy (ag (fx (.head _) ?_)))
 induction k using Bool.casesOn with
 | false => exact l5 (.head _) (q0 rfl _)
 | true =>
  refine gS ?_
  show W B n L (do
   let rv ← holding [b] (eval r env)
   standAt pos
   operate [b, rv] (compareOp op' b rv)) _ _ _
  exact aj (ag (af (q1 rfl) fun d w σ₄ w => al (c0 w)))
theorem nP {l m r : Expr} {op op' pos}
 (h : WV B n L (eval l env) H σ fun a x σ₁ => WV B n L (eval m env) ((a, x) :: H) σ₁ fun b y σ₂ => WV B n L (compareOp op a b) ((b, y) :: (a, x) :: H) σ₂ fun _ z σ₃ => ∃ c c', z = .bool c ∧
  WV B n L (eval r env) ((b, y) :: (a, x) :: H) σ₃ (fun d w σ₄ => WV B n L (compareOp op' b d) ((d, w) :: (b, y) :: (a, x) :: H) σ₄ fun _ z σ₅ => z = .bool c' ∧ σ₅ = σ₃) ∧ ∀ v, Φ v (.bool (c && c')) σ₃)
 (hm : autoParam (markedEach [op, op'] [m, r] (evalEach [m, r] env) = [eval m env, eval r env]) bW) : WV B n L (eval (.Compare l [op, op'] [m, r] pos) env) H σ Φ :=
 ly (af h fun a x σ₁ w => af w fun b y σ₂ w => af w fun _ z σ₃ ⟨c, c', e, w, q⟩ => ⟨c, e, fun hc v => by subst hc; exact q v, fun hc => by
  subst hc
  exact af w fun d w σ₄ q₄ => af q₄ fun v z σ₅ ⟨e, e'⟩ => by subst e e'; exact q v⟩) hm
theorem jj {op : BoolOp} {values : List Expr} {pos} (h : WV B n L (boolOp pos op (evalEach values env)) H σ Φ) : WV B n L (eval (.BoolOp op values pos) env) H σ Φ := h
theorem jt {op : BoolOp} {pos} (h : WV B n L (eval x env) H σ Φ) : WV B n L (boolOp pos op (evalEach [x] env)) H σ Φ := h
theorem qJ {pos}
 (h : WV B n L (eval x env) H σ fun v d σ₁ => WB B n L (truthy v) ((v, d) :: H) σ₁ fun c σ₂ => (c = true → Φ v d σ₂) ∧ (c = false → WV B n L (boolOp pos .Or (evalEach (y :: rest) env)) H σ₂ Φ)) :
 WV B n L (boolOp pos .Or (evalEach (x :: y :: rest) env)) H σ Φ := by
 show W B n L (do
  let v ← eval x env
  standAt pos
  let t ← holding [v] (truthy v)
  match BoolOp.Or, t with
  | .And, false | .Or, true => pure v
  | _, _ => boolOp pos .Or (evalEach (y :: rest) env)) H σ _
 refine aj (af h fun v d σ₁ w => al (cy (ag (cw w fun c σ₂ q => ?_))))
 induction c using Bool.casesOn with
 | false => exact gS (q.2 rfl)
 | true => exact l5 (.head _) (q.1 rfl)
theorem lh {pos}
 (h : WV B n L (eval x env) H σ fun v d σ₁ => WB B n L (truthy v) ((v, d) :: H) σ₁ fun c σ₂ => (c = false → Φ v d σ₂) ∧ (c = true → WV B n L (boolOp pos .And (evalEach (y :: rest) env)) H σ₂ Φ)) :
 WV B n L (boolOp pos .And (evalEach (x :: y :: rest) env)) H σ Φ := by
 show W B n L (do
  let v ← eval x env
  standAt pos
  let t ← holding [v] (truthy v)
  match BoolOp.And, t with
  | .And, false | .Or, true => pure v
  | _, _ => boolOp pos .And (evalEach (y :: rest) env)) H σ _
 refine aj (af h fun v d σ₁ w => al (cy (ag (cw w fun c σ₂ q => ?_))))
 induction c using Bool.casesOn with
 | true => exact gS (q.2 rfl)
 | false => exact l5 (.head _) (q.1 rfl)
theorem AY {pos}
 (h : WV B n L (eval x env) H σ fun _ d σ₁ => ∃ c, d = .bool c ∧ (c = true → ∀ v, Φ v (.bool true) σ₁) ∧ (c = false → WV B n L (boolOp pos .Or (evalEach (y :: rest) env)) H σ₁ Φ)) :
 WV B n L (boolOp pos .Or (evalEach (x :: y :: rest) env)) H σ Φ :=
 qJ (af h fun v d σ₁ ⟨c, e, q1, q2⟩ => by
  subst e
  exact fx (.head _) ⟨fun hc => by subst hc; exact q1 rfl v, q2⟩)
theorem yC {pos}
 (h : WV B n L (eval x env) H σ fun _ d σ₁ => ∃ c, d = .bool c ∧ (c = false → ∀ v, Φ v (.bool false) σ₁) ∧ (c = true → WV B n L (boolOp pos .And (evalEach (y :: rest) env)) H σ₁ Φ)) :
 WV B n L (boolOp pos .And (evalEach (x :: y :: rest) env)) H σ Φ :=
 lh (af h fun v d σ₁ ⟨c, e, q1, q2⟩ => by
  subst e
  exact fx (.head _) ⟨fun hc => by subst hc; exact q1 rfl v, q2⟩)
end
end
section
inductive gG (x : Str) (d : AV) : FL → FL → Prop
 | hit {e r} : gG x d ((x, e) :: r) ((x, d) :: r)
 | skip {y e r r'} : (y == x) = false → gG x d r r' → gG x d ((y, e) :: r) ((y, e) :: r')
 | new : gG x d [] [(x, d)]
theorem gG.eq {x : Str} {d : AV} {l l' : FL} (h : gG x d l l') : c5 x d l = l' := by
 induction h with
 | hit => unfold c5; rw [if_pos (beq_self_eq_true _)]
 | skip h _ ih => unfold c5; rw [if_neg (by rw [h]; exact Bool.false_ne_true), ih]
 | new => rfl
inductive o6 (x : Str) (d : AV) : FL → Prop
 | hit {r} : o6 x d ((x, d) :: r)
 | skip {y e r} : (y == x) = false → o6 x d r → o6 x d ((y, e) :: r)
theorem o6.eq {x : Str} {d : AV} {l : FL} (h : o6 x d l) : bp x l = some d := by
 induction h with
 | hit => exact gW _ _ _
 | skip h _ ih => exact (g5 _ _ (by refine h ▸ ?_; exact Bool.false_ne_true)).trans ih
section
variable {B : ab} {n : Nat} {L : Addr} {H : HL} {σ : St} {env : Env}
noncomputable def fE (B : ab) (n : Nat) (L : Addr) (rest : List Stmt) (env : Env) (H : HL) (Φ : PF) : PF
 | .next, σ => WF B n L (execs rest env) H σ Φ
 | .brk, σ => Φ .brk σ
 | .cont, σ => Φ .cont σ
 | .ret d, σ => Φ (.ret d) σ
theorem cB {st : Stmt} {rest : List Stmt} {Φ : PF} (h : WF B n L (exec st env) H σ (fE B n L rest env H Φ)) : WF B n L (execs (st :: rest) env) H σ Φ :=
 yf (jJ h fun f σ q => by rcases f with _ | _ <;> exact q)
theorem gB {x : Str} {v : Value} {d : AV} {loc loc' : LL} {objs : OL} {Φ : St → Prop} (md : (v, d) ∈ H) (m : e5 x d loc loc') (h : Φ ⟨loc', objs⟩) (hl : autoParam (env.kindOf x = some .local) bK)
 (hL : autoParam (env.locals = L) bR) (hp : autoParam ((env.scope.kind == .class || (env.scope.kind == .module && env.locals != env.globals)) = false) bR) : WU B n L (storeName env x v) H ⟨loc, objs⟩ Φ := sx (σ := ⟨loc, objs⟩) md m h hl hL hp
theorem As {x : Addr} {C dx : Addr} {fs fs' : FL} {name : Str} {v₀ v : Value} {d : AV} {loc : LL} {objs objs' : OL} {Φ : St → Prop} (mv : (v₀, .ref x) ∈ H) (md : (v, d) ∈ H) (mx : (x, AO.inst C dx fs) ∈ objs) (hp : gG name d fs fs')
 (m : Chg x (.inst C dx fs) (.inst C dx fs') objs objs') (ho : dr B.K C name = true) (hz : fs.length ≤ 900 := by simp) (h : Φ ⟨loc, objs'⟩) : WU B n L (setAttr v₀ name v) H ⟨loc, objs⟩ Φ := by
 obtain rfl := hp.eq
 exact v6 (σ := ⟨loc, objs⟩) mv md m ho hz h
theorem fL {m : Nat} {f : Addr} {vs : List Value} {ds : List AV} {loc : LL} {objs : OL} {Φ : PV} {Φ₀ : AV → OL → Prop} (c : aa B m f ds objs Φ₀) (hm : m ≤ n) (e : vs.length = ds.length) (k : ∀ p ∈ vs.zip ds, p ∈ H)
 (h : ∀ d objs', Φ₀ d objs' → ∀ v, Φ v d ⟨loc, objs'⟩) : WV B n L (call (.ref f) vs) H ⟨loc, objs⟩ Φ := uj (σ := ⟨loc, objs⟩) e k ((c.room hm).mono fun d o q v => h d o q v)
end
noncomputable def sg (s : String) : List Nat := (Str.ofString s).cps.toList
theorem mO (s : String) : Str.ofString s = S (sg s) := by unfold sg S; cases Str.ofString s; rfl
theorem mI : Str.ofString "" = S [] := by kernel_rfl
theorem xd : Str.ofString "<" = S [60] := by kernel_rfl
theorem yR : Str.ofString ">" = S [62] := by kernel_rfl
theorem pY : Str.ofString "/" = S [47] := by kernel_rfl
theorem oZ : Str.ofString "!" = S [33] := by kernel_rfl
theorem Ad : Str.ofString "?" = S [63] := by kernel_rfl
noncomputable def Go {α : Type} (_ : α) (p : Prop) : Prop := p
noncomputable def GoT {α : Type} (_ : α) (p : Prop) : Prop := p
noncomputable def GoB {α : Type} (_ : α) (p : Prop) : Prop := p
noncomputable def cu : List Str → Bool
 | [] => true
 | x :: r => r.all (fun y => !(y == x)) && cu r
theorem aP : ∀ {l : List Str}, cu l = true → l.Nodup
 | [], _ => List.nodup_nil
 | x :: r, h => by
  simp only [cu, Bool.and_eq_true, List.all_eq_true, Bool.not_eq_true', beq_eq_false_iff_ne] at h
  exact List.nodup_cons.mpr ⟨fun m => h.1 x m rfl, aP h.2⟩
inductive Op | get | set | store | load | meth | callw | callm | methO | call | tail | truth | test | assign
noncomputable def Br (b : Bool) (p q : Prop) : Prop := (b = true → p) ∧ (b = false → q)
section
variable {B : ab} {n : Nat} {L : Addr} {H : HL} {σ : St} {env : Env}
theorem rT {objs : OL} {name qual : Str} {params : Arguments} {body body' : List Stmt} {scope scope' : Scope} {dV kV doc pm cdv ct oc : Value} {an od : Option Addr} {osl : Array (Option Value)} {f : Addr} {args ds : List AV} {Φ : AV → OL → Prop} {loc : LL} (ps xs : List Str)
 (ho : B.K.lookup f = some ⟨oc, od, .func (fnOf name qual params body scope dV kV doc pm an cdv ct), osl⟩) (hcd : codeIn B.K cdv qual = true)
 (hb : bm B (fnOf name qual params body scope dV kV doc pm an cdv ct) ps args ds) (h : ∀ L, GoB body' (WF B n L (execs body' (envOf qual scope' L f cdv)) [] ⟨loc, objs⟩ (ko Φ)))
 (eb : body = body' := by (conv => lhs; whnf)) (es : scope = scope' := by (conv => lhs; whnf))
 (hloc : bL ps ds ++ bare xs = loc := by simp only [bL, bare, List.map_cons, List.map_nil, List.cons_append, List.nil_append] <;> rfl) (hl : autoParam (ps.length = ds.length) bR) (hn : (ps ++ xs).Nodup := by decide) (hps : autoParam (ps.all (fun y => scope'.names.lookup y == some .local) = true) bR)
 (hco : autoParam (scope'.isCoroutine = false) bR) (hgen : autoParam (scope'.isGenerator = false) bR) (hk : autoParam (scope'.kind = .function) bR) (hcell : ∀ x ∈ scope'.names, x.2 ≠ .cell := by decide) : aa B (n + 1) f args objs Φ := by
 subst eb es
 exact BR ps xs ho hcd hb h hloc hl hn hps hco hgen hk hcell
end
end
section
variable {i : Int} {Φ : PF} {v : Value} {f self : Addr} {loc : LL} {objs : OL} {rest : List Stmt}
noncomputable def ie (K : Frag) (C : Addr) (x : Str) : Option Int := match findIn K (.ref C) x with
 | some (some (.int i t)) => if plainGet K C x && hasDictIn K C && (specialIn K (.int i t) "__get__" == some none) && !(copiedNames.contains x) then some i else none
 | _ => none
noncomputable def eF (x y z : List Nat) : List Nat := (Txt.replace (S x) (S y) (S z)).cps.toList
theorem vD (x y z : List Nat) : Txt.replace (S x) (S y) (S z) = S (eF x y z) := by unfold eF S; cases Txt.replace _ _ _; rfl
section
variable {B : ab} {n : Nat} {L : Addr} {H : HL} {σ : St} {env : Env}
theorem pW {x : Addr} {C dx : Addr} {fs : FL} {name : Str} {expr : Bool} {v₀ : Value} {Φ : PV} (mv : (v₀, .ref x) ∈ H) (m : (x, AO.inst C dx fs) ∈ σ.objs) (ho : ie B.K C name = some i)
 (hf : bp name fs = none) (h : ∀ v, Φ v (.int i) σ) : WV B n L (getAttr v₀ name expr) H σ Φ := by
 refine ae fun A F s hA X => ?_
 obtain rfl := aE (X.hold mv)
 obtain ⟨h1, es, k, h2, h3⟩ := X.objs _ m
 unfold ie at ho
 split at ho
 · rename_i j t e
   split at ho
   · rename_i hc
     obtain rfl := Option.some.inj ho
     simp only [Bool.and_eq_true, beq_iff_eq, Bool.not_eq_true'] at hc
     obtain ⟨⟨⟨hg, hh⟩, hs⟩, hcp⟩ := hc
     exact get_value X.K (⟨h1, rfl, rfl, h2⟩ : InstAt s.heap x (instObj C dx) C (some (dictOf es k))) (plainGet_of hg).1 (findObj_cls hh e hs rfl hcp (by rw [lookIn_dict]; exact eU h3 hf)) rfl (.toks X ⟨_, .int _ _, h _⟩)
   · contradiction
 · contradiction
theorem eZ : typeLookup (.type "method") "__bool__" = pure none := by rw [typeLookup_type, builtinLookup_eq_fast]; kernel_rfl
theorem g8 : typeLookup (.type "method") "__len__" = pure none := by rw [typeLookup_type, builtinLookup_eq_fast]; kernel_rfl
theorem vQ {Ψ : Bool → St → Prop} (mv : (v, .meth f self) ∈ H) (h : Ψ true σ) : WB B n L (truthy v) H σ Ψ := ae fun A F s hA X => by
 refine x12 (ij (X.hold mv)) ?_; rintro a rfl ha
 have hT : s.TypeIs (.ref a) "method" := ⟨_, X.sub _ _ ha, rfl⟩
 unfold truthy
 first
  | refine wpAny_bind (wpAny_callSpecial?_none (name := Str.ofString "__bool__") hT eZ ?_)
  | refine wpAny_bind (wpAny_pure (wpAny_bind (wpAny_callSpecial?_none (name := Str.ofString "__bool__") hT eZ ?_)))
 first
  | refine wpAny_bind (wpAny_specialOf (name := Str.ofString "__len__") hT g8 ?_)
  | refine wpAny_bind (wpAny_pure (wpAny_bind (wpAny_specialOf (name := Str.ofString "__len__") hT g8 ?_)))
 exact wpAny_pure (.here X h)
theorem m8 {args : List Expr} {pos} {Φ : PV} (mv : (v, .meth f self) ∈ H) (hf : fnIn B.K f = true)
 (h : WL B n L (spliced (backTo pos (starEach args env))) H σ fun vs ds σ₁ => WV B n L (call v ([] ++ vs)) (vs.zip ds ++ H) σ₁ Φ)
 (hp : autoParam ((backTo pos (starEach args env)).any (·.1) = false) bR) : WV B n L (callWith pos v [] (backTo pos (starEach args env)) []) H σ Φ := ae fun A F s hA x => by
 refine x12 (ij (x.hold mv)) ?_; rintro q rfl hq
 refine callWith_of (P := MethP B.K q f (.ref self)) (by rw [hp]; rfl) (keeps_M hf) (c8 hp (wpAny_mono (h.run A F s hA x) (fun vs s₁ z => ⟨?_, ?_⟩) fun _ _ z => z))
 · obtain ⟨F₁, _, x₁, p₁, _⟩ := z
   exact ⟨x₁.sub _ _ (p₁.mono _ _ hq), x₁.K⟩
 · refine z.then fun F₁ σ₁ x₁ ⟨ds, hds, w⟩ => ?_
   exact wpAny_mono (w.run A F₁ s₁ hA (x₁.add (gT.zip_is hds))) (fun _ _ y => y.weaken fun _ hp => List.mem_append_right _ hp) fun _ _ z => z
theorem kO {m : Nat} {vs : List Value} {ds : List AV} {Φ : PV} {Φ₀ : AV → OL → Prop} (mv : (v, .meth f self) ∈ H) (c : aa B m f (.ref self :: ds) objs Φ₀) (hm : m ≤ n) (e : vs.length = ds.length)
 (k : ∀ p ∈ vs.zip ds, p ∈ H) (h : ∀ d objs', Φ₀ d objs' → ∀ v, Φ v d ⟨loc, objs'⟩) : WV B n L (call v vs) H ⟨loc, objs⟩ Φ := ae fun A F s hA X => by
 refine x12 (ij (X.hold mv)) ?_; rintro q rfl hq
 refine wpAny_call (method_call (X.sub _ _ hq) (codeAny_mono (c A F s _ (hA.le hm) X.call (.cons (.ref self) (fz X e k))) fun r s' z => ?_))
 obtain ⟨w, d, objs', F', rfl, hd, y, p, q⟩ := z
 obtain ⟨x', p'⟩ := X.back y p
 exact ⟨F', _, x', p', d, hd, h d objs' q w⟩
structure WP {α : Type} (B : ab) (n : Nat) (L : Addr) (t : Sem α) (H : HL) (σ : St) (Ψ : α → Fz → St → Prop) : Prop where
 run : ∀ A F s, cA n A → 0 < s.toks → Holds B.P B.G L F H σ s.heap → wpAny B.M A t (fun a s' => am B L H σ F s s' (Ψ a)) (fun _ _ => False) s
noncomputable abbrev WPF (B : ab) (n : Nat) (L : Addr) (t : Sem Flow) (H : HL) (σ : St) (Φ : PF) : Prop :=
 WP B n L t H σ (fun f F' σ' => ∃ e, iz B.P F' f e ∧ Φ e σ')
noncomputable def dY (B : ab) (n : Nat) (L : Addr) (rest : List Stmt) (env : Env) (H : HL) (Φ : PF) : PF
 | .next, σ => WPF B n L (execs rest env) H σ Φ
 | .brk, σ => Φ .brk σ
 | .cont, σ => Φ .cont σ
 | .ret d, σ => Φ (.ret d) σ
theorem AE {α : Type} {t : Sem α} {Ψ : α → Fz → St → Prop} (h : W B n L t H σ Ψ) : WP B n L t H σ Ψ := ⟨fun A F s hA _ x => h.run A F s hA x⟩
theorem eM {A : Around} {env : Env} {F : Fz} {s s₁ : Shared} {f : Flow} (hA : cA n A) (ht : 0 < s₁.toks)
 (z : am B L H σ F s s₁ fun F' σ' => ∃ e, iz B.P F' f e ∧ dY B n L rest env H Φ e σ') :
 wpAny B.M A (match f with | .next => execs rest env | f => pure f) (fun b s₂ => am B L H σ F s s₂ fun F' σ' => ∃ e, iz B.P F' b e ∧ Φ e σ') (fun _ _ => False) s₁ := by
 refine z.then fun F₁ σ₁ x₁ ⟨e, he, q⟩ => ?_
 cases f with
 | next => rcases e with _ | _ <;> first | exact he.elim | exact q.run A F₁ s₁ hA ht x₁
 | brk => rcases e with _ | _ <;> first | exact he.elim | exact wpAny_pure (.here x₁ ⟨.brk, trivial, q⟩)
 | cont => rcases e with _ | _ <;> first | exact he.elim | exact wpAny_pure (.here x₁ ⟨.cont, trivial, q⟩)
 | ret v => rcases e with _ | _ <;> first | exact he.elim | exact wpAny_pure (.here x₁ ⟨.ret _, he, q⟩)
theorem zz {st : Stmt} (h : WF B n L (exec st env) H σ (dY B n L rest env H Φ)) : WPF B n L (execs (st :: rest) env) H σ Φ := ⟨fun A F s hA ht x => by
 rw [execs_cons]
 refine wpAny_bind (wpAny_mono (dB (h.run A F s hA x)) (fun f s₁ z => ?_) fun _ _ z => z)
 have := eM (s₁ := s₁) hA (nL0 ht z.1) z.2
 rcases f with _ | _ <;> exact this⟩
theorem rS {kk kp} {o : Expr} {attr : Str} {p pos}
 (h : ∀ v, WV B n L (eval o env) ((v, .int i) :: H) σ fun ov od σ₂ => WU B n L (setAttr ov attr v) ((ov, od) :: (v, .int i) :: H) σ₂ fun σ₃ => dY B n L rest env H Φ .next σ₃) :
 WF B n L (execs (.Assign [.Attribute o attr p] (.Constant (.int i) kk kp) pos :: rest) env) H σ Φ := ae fun A F s hA x => by
 rw [execs_cons, plainObj_exec_Assign_Attribute o attr p (.Constant (.int i) kk kp) pos rfl]
 refine wpAny_bind (wpAny_bind (wpAny_standAt (wpAny_bind (wpAny_Constant_int ?_))))
 have w : WF B n L (do assign (.Attribute o attr p) env (.int i s.toks); pure Flow.next) ((.int i s.toks, .int i) :: H) σ (dY B n L rest env H Φ) := by
  rw [arm_assign_Attribute]
  refine bT (aj (ag (af (h _) fun ov od σ₂ w₂ => al (bT (ag (di w₂ fun σ₃ q => ?_))))))
  exact dC (fk q)
 have x' : Holds B.P B.G L F ((.int i s.toks, .int i) :: H) σ { s with toks := s.toks + 1 }.heap := x.push (.int i _)
 refine wpAny_mono (dB (w.run A F { s with toks := s.toks + 1 } hA x')) (fun f s₁ z => ?_) fun _ _ z => z
 have ht : 0 < s₁.toks := nL0 (Nat.succ_pos _) z.1
 obtain ⟨F₁, σ₁, x₁, p₁, e, he, q⟩ := z.2
 have z' : am B L H σ F s s₁ fun F' σ' => ∃ e, iz B.P F' f e ∧ dY B n L rest env H Φ e σ' := ⟨F₁, σ₁, x₁.weaken fun _ hp => .tail _ hp, ⟨p₁.keep, p₁.own, p₁.frz, p₁.mono, p₁.gens, p₁.os⟩, e, he, q⟩
 have := eM (s₁ := s₁) hA ht z'
 rcases f with _ | _ <;> exact this
theorem nU {x y : Str} {a b : Str} {la lb l : List Nat} {p q ap pos pos' ka kb pa pb} {loc' : LL} (ea : a = S la) (eb : b = S lb) (m : (y, some (.str l)) ∈ loc) (sl : e5 x (.str (eF l la lb)) loc loc')
 (hz : l.length ≤ 1048576) (hb : lb.length ≤ 14) (hk : env.scope.kind = .function) (hy : env.kindOf y = some .local) (hx : env.kindOf x = some .local) (hL : env.locals = L) (hd : (y == ("__debug__" : Str)) = false)
 (hp : (env.scope.kind == .class || (env.scope.kind == .module && env.locals != env.globals)) = false) (hne : (S la == S lb) = false)
 (hline : (ap.endLine == pos'.line) = true) (h : WPF B n L (execs rest env) H ⟨loc', objs⟩ Φ) (hs : autoParam (swapsWith (.Call (.Attribute (.Name y q) "replace" ap) [.Constant (.str a) ka pa, .Constant (.str b) kb pb] [] pos') (some (.Name x p)) pos.line env = pure false) bR) :
 WPF B n L (execs (.Assign [.Name x p] (.Call (.Attribute (.Name y q) "replace" ap) [.Constant (.str a) ka pa, .Constant (.str b) kb pb] [] pos') pos :: rest) env) H ⟨loc, objs⟩ Φ := ⟨fun A F s hA ht X => by
 subst ea eb hL
 rw [execs_cons, exec_Assign_Name env x p _ pos hs]
 refine wpAny_bind (wpAny_bind (wpAny_standAt (wpAny_bind ?_)))
 refine x12 (X.loc) ?_; rintro m₀ hns r
 refine x12 (r y _ m) ?_; rintro v e hv
 obtain ⟨t, rfl⟩ := az hv
 have base : attributeBase (.Name y q) "replace" env (eval (.Name y q) env) = eval (.Name y q) env := rfl
 refine wpAny_Call_method_late base (by rfl) hline rfl ?_
 refine wpAny_Name (wpAny_loadName_local hk hy hns e ⟨"str", "str.replace", PySem.F.plainAttrs_str, PySem.F.slot_str_replace, PySem.F.type_str_replace, typeIs_str _ _ _, (fun _ e => nomatch e), ?_⟩) hd
 refine Calls.callWith_builtin rfl (c8 rfl ?_)
 refine (show starEach [Expr.Constant (.str (S la)) ka pa, Expr.Constant (.str (S lb)) kb pb] env = (false, eval (.Constant (.str (S la)) ka pa) env) :: starEach [Expr.Constant (.str (S lb)) kb pb] env from rfl) ▸ ?_
 refine spliced_cons (show wpAny _ _ (eval (.Constant (.str (S la)) ka pa) env) _ _ _ from wpAny_Constant_str ?_)
 refine (show starEach [Expr.Constant (.str (S lb)) kb pb] env = (false, eval (.Constant (.str (S lb)) kb pb) env) :: starEach [] env from rfl) ▸ ?_
 refine spliced_cons (show wpAny _ _ (eval (.Constant (.str (S lb)) kb pb) env) _ _ _ from wpAny_Constant_str (spliced_nil ?_))
 refine wpAny_mono (dB (SC.replaceW (x := S l) (y := S la) (z := S lb) (Q := fun r s' => ∃ t' k, r = .str (Txt.replace (S l) (S la) (S lb)) t' ∧ s' = { s with toks := k }) (Nat.pos_iff_ne_zero.mp ht) (Nat.succ_ne_zero _) (Nat.ne_of_lt (Nat.lt_succ_self _)) hne
  (by rw [ay]; exact hz) (by rw [ay]; exact hb) fun t' k => ⟨t', k, rfl, rfl⟩)) (fun r s' z => ?_) fun _ _ z => z
 obtain ⟨hk', t', k, rfl, rfl⟩ := z
 have q : Is B.P F (.str (Txt.replace (S l) (S la) (S lb)) t') (.str (eF l la lb)) := by rw [vD]; exact .str _ _
 have w : WF B n env.locals (do standAt p; bindName env x (.str (Txt.replace (S l) (S la) (S lb)) t'); pure Flow.next) ((.str (Txt.replace (S l) (S la) (S lb)) t', .str (eF l la lb)) :: H) ⟨loc, objs⟩ (dY B n env.locals rest env H Φ) :=
  al (bT (ft (gB (.head _) sl (fk (Φ := dY B n env.locals rest env H Φ) h) hx rfl hp)))
 have X' : Holds B.P B.G env.locals F ((.str (Txt.replace (S l) (S la) (S lb)) t', .str (eF l la lb)) :: H) ⟨loc, objs⟩ { s with toks := k }.heap := X.push q
 refine wpAny_mono (dB (w.run A F { s with toks := k } hA X')) (fun f s₁ z => ?_) fun _ _ z => z
 have hk'' : s.toks + 1 + 1 ≤ k := hk'
 have h1 : k ≤ s₁.toks := z.1
 have ht₁ : 0 < s₁.toks := by omega
 obtain ⟨F₁, σ₁, x₁, p₁, e, he, q⟩ := z.2
 have z' : am B env.locals H ⟨loc, objs⟩ F s s₁ fun F' σ' => ∃ e, iz B.P F' f e ∧ dY B n env.locals rest env H Φ e σ' := ⟨F₁, σ₁, x₁.weaken fun _ hp => .tail _ hp, ⟨p₁.keep, p₁.own, p₁.frz, p₁.mono, p₁.gens, p₁.os⟩, e, he, q⟩
 have := eM (s₁ := s₁) hA ht₁ z'
 rcases f with _ | _ <;> exact this⟩
noncomputable def Bz (p : Prop) : Prop := p
end
structure zK : Prop where
section
variable {B : ab} {n : Nat} {L : Addr} {H : HL} {σ : St} {env : Env} {s : Stmt} {R : PF}
theorem aa.of {args : List AV} {P : AV → OL → Prop} (h : ∀ Φ : AV → OL → Prop, (∀ d o, P d o → Φ d o) → aa B n f args objs Φ) : aa B n f args objs P := h P fun _ _ h => h
end
end
section
variable {es : List DictEntry} {l : FL} {d : AV} {a : Addr} {Φ : PV} {vs : List Value} {m : Nat}
noncomputable def hJ : List DictEntry → FL → List (Str × Value)
 | e :: es, (x, _) :: l => (x, e.val) :: hJ es l
 | _, _ => []
section
variable {prog : Program} {w : World} {F : Fz}
theorem gO (h : IsEnts w.params F es l) : (hJ es l).map (·.1) = l.map (·.1) := h.ind (C := fun es l => (hJ es l).map (·.1) = l.map (·.1)) rfl fun _ _ _ _ _ _ _ _ c => congrArg (List.cons _) c
theorem qi (h : IsEnts w.params F es l) : Pairs (strKind prog w) es (hJ es l) := h.ind (C := fun es l => Pairs (strKind prog w) es (hJ es l)) .nil fun _ _ _ _ _ _ _ _ c => .cons (beq_self_eq_true _) rfl c
theorem uu (h : IsEnts w.params F es l) : ∀ e ∈ es, ∃ k, (strKind prog w).is k e.key = true ∧ e.hash = (strKind prog w).hash k :=
 h.ind (C := fun es _ => ∀ e ∈ es, ∃ k, (strKind prog w).is k e.key = true ∧ e.hash = (strKind prog w).hash k) (fun _ h => nomatch h) fun x _ _ _ _ _ _ _ c => List.forall_mem_cons.mpr ⟨⟨x, beq_self_eq_true _, rfl⟩, c⟩
theorem uN (h : IsEnts w.params F es l) : KM w.params F (hJ es l) l := h.ind (C := fun es l => KM w.params F (hJ es l) l) .nil fun _ _ _ _ _ _ h _ c => .cons h c
theorem KM.value {P : Params} {x : Str} {r : List (Str × Value)} (h : KM P F r l) (e : bp x l = some d) : ∃ v, valueAt r x = some v ∧ Is P F v d := by
 induction h with
 | nil => contradiction
 | @cons y v c r l h _ ih =>
  by_cases q : (y == x) = true
  · have z := eq_of_beq q
    subst z
    exact ⟨v, by simp [valueAt], Option.some.inj ((gW _ c l).symm.trans e) ▸ h⟩
  · refine x12 (ih ((g5 c l q).symm.trans e)) ?_; rintro w e1 e2
    refine ⟨w, ?_, e2⟩
    show Option.map _ (List.find? _ ((y, v) :: r)) = _
    rw [List.find?_cons]
    simp only [decide_eq_false fun z => q (beq_iff_eq.mpr z)]
    exact e1
theorem fC {x : Str} (h : IsEnts w.params F es l) (e : bp x l = some d) : ∃ v, valueAt (hJ es l) x = some v ∧ Is w.params F v d := (uN h).value e
theorem eP {h : Heap} (e : IsEnts w.params F es l) (nd : (l.map (·.1)).Nodup) (hg : h.get? a = some (dictOf es n)) : h.DictOf (strKind prog w) a (hJ es l) :=
 ⟨_, es.toArray, n, hg, ⟨rfl, rfl, rfl⟩, rfl, fun x hx => uu e x (by simpa using hx), qi e, by rw [gO e]; exact nd⟩
end
section
variable {B : ab} {n : Nat} {L : Addr} {H : HL} {σ : St} {env : Env}
theorem AX {value slice : Expr} {o i : Value} {x : List Nat} (mo : (o, .dct l) ∈ H) (mi : (i, .str x) ∈ H) (hd : bp (S x) l = some d) (h : ∀ v, Φ v d σ)
 (hs : ∃ ops, subscripted slice false o i = operate ops (getItem o i) := by exact ⟨_, rfl⟩) : WV B n L (subscriptTail value slice o i) H σ Φ := by
 refine cv (T := "dict") (fun F s X => ?_) slot_dict_getitem.lookup (ae fun A F s hA X => ?_) hs
 · refine x34 (mn (X.hold mo)) ?_; rintro a es k rfl h1 h2 h3; exact ⟨_, X.sub _ _ h1, rfl⟩
 · refine x34 (mn (X.hold mo)) ?_; rintro a es k rfl h1 h2 h3
   obtain ⟨t, rfl⟩ := az (X.hold mi)
   refine x12 (fC h2 hd) ?_; rintro v e1 e2
   exact wpAny_getItem_of (knd := strKind B.prog B.w) (k := S x) (beq_self_eq_true _) (eP h2 h3 (X.sub _ _ h1)).mapOf e1 (.toks X ⟨d, e2, h _⟩)
noncomputable def gp : Value → AV
 | .none => .none
 | .bool b => .bool b
 | .int i _ => .int i
 | .str x _ => .str x.cps.toList
 | v => .lit v
theorem jz (P : Params) (F : Fz) : ∀ v, Is P F v (gp v)
 | .none => .none
 | .bool b => .bool b
 | .int i t => .int i t
 | .str x t => by
  have e : S x.cps.toList = x := by cases x; rfl
  have q : Is P F (.str (S x.cps.toList) t) (.str x.cps.toList) := .str _ _
  rw [e] at q
  exact q
 | .float .. => .lit _
 | .bytes .. => .lit _
 | .type _ => .lit _
 | .builtin _ => .lit _
 | .ref _ => .lit _
 | .ellipsis => .lit _
 | .notImplemented => .lit _
theorem i7 (P : Params) (F : Fz) : ∀ vs, IsAll P F vs (vs.map gp)
 | [] => .nil
 | v :: r => .cons (jz P F v) (i7 P F r)
theorem kh {l : List AV} (h : B.K.lookup a = some (gY vs m)) (e : vs.map gp = l) : aW B (.ref a) (.tup l) := fun F core => e ▸ .tup (core _ _ (B.X _ _ h)) (i7 B.P F vs)
theorem pC {l : List AV} (h : B.K.lookup a = some (bE vs m)) (e : vs.map gp = l) : aW B (.ref a) (.lst l) := fun F core => e ▸ .lst (core _ _ (B.X _ _ h)) (i7 B.P F vs)
noncomputable def fM : List DictEntry → FL
 | ⟨_, .str x _, v⟩ :: r => (x, gp v) :: fM r
 | _ => []
noncomputable def jk (P : Params) : List DictEntry → Prop
 | [] => True
 | e :: r => (∃ x t, e.key = .str x t ∧ e.hash = PyData.keyHash P x) ∧ jk P r
theorem j3 (P : Params) (F : Fz) : ∀ es, jk P es → IsEnts P F es (fM es)
 | [], _ => .nil
 | ⟨hs, key, v⟩ :: r, ⟨⟨x, t, e1, e2⟩, q⟩ => by
  dsimp only at e1 e2
  subst e1 e2
  exact .cons (jz P F v) (j3 P F r q)
theorem oT (h : B.K.lookup a = some (dictOf es m)) (ok : jk B.P es) (e : fM es = l) (nd : (l.map (·.1)).Nodup) (ha : (a == sysModules) = false := by decide) : aW B (.ref a) (.dct l) :=
 fun F core => e ▸ .dct (core _ _ (B.X _ _ h)) (j3 B.P F es ok) (by rw [e]; exact nd) ha
end
theorem dT.perm {P : Params} {G : Heap} {F : Fz} {o o' : OL} {h : Heap} (e : o.Perm o') (x : dT P G F o h) : dT P G F o' h :=
 ⟨x.core, x.sub, fun p hp => x.objs p (e.mem_iff.mpr hp), (b6 e).nodup_iff.mp x.nodup, fun b hb => x.apart b ((b6 e).mem_iff.mpr hb), x.big⟩
theorem aM.perm {O O₁ O' O₁' : List Addr} {F F' : Fz} {s s' : Shared} (e : O.Perm O₁) (e' : O'.Perm O₁') (p : aM O F s O' F' s') : aM O₁ F s O₁' F' s' :=
 ⟨fun b o hb => p.keep b o fun h => hb (e.mem_iff.mp h), fun b hb => (p.own b (e'.mem_iff.mpr hb)).imp_left e.mem_iff.mp, fun b o h => (p.frz b o h).imp_right (Or.imp_left e.mem_iff.mp), p.mono, p.gens, p.os⟩
theorem aa.perm {B : ab} {f : Addr} {args : List AV} {o o₁ : OL} {Φ Φ₁ : AV → OL → Prop} (e : o.Perm o₁) (c : aa B n f args o₁ Φ₁) (k : ∀ d q, Φ₁ d q → ∃ q', q.Perm q' ∧ Φ d q') : aa B n f args o Φ :=
 fun A F s vs hA x hv => codeAny_mono (c A F s vs hA (x.perm e) hv) fun r s' ⟨v, d, objs', F', a, b, y, p, q⟩ => by
  refine x12 (k d objs' q) ?_; rintro q' e' hq
  exact ⟨v, d, q', F', a, b, y.perm e', p.perm (b6 e).symm (b6 e'), hq⟩
theorem aa.second {B : ab} {f : Addr} {args : List AV} {a a' b : Addr × AO} {rest : OL} {d₀ : AV} (c : aa B n f args (a :: b :: rest) fun d o => d = d₀ ∧ o = a' :: b :: rest) : aa B n f args (b :: a :: rest) fun d o => d = d₀ ∧ o = b :: a' :: rest :=
 c.perm (.swap _ _ _) fun d q ⟨e1, e2⟩ => ⟨b :: a' :: rest, by rw [e2]; exact .swap _ _ _, e1, rfl⟩
section
variable {B : ab} {n : Nat} {L : Addr} {H : HL} {σ : St} {env : Env}
theorem kX {l m r : Expr} {op op' pos whole} {Φ : Bool → St → Prop}
 (h : Go l (WV B n L (eval l env) H σ fun a x σ₁ => Go m (WV B n L (eval m env) ((a, x) :: H) σ₁ fun b y σ₂ => Go op (WV B n L (compareOp op a b) ((b, y) :: (a, x) :: H) σ₂ fun _ z σ₃ => ∃ c, z = .bool c ∧ ∃ c',
  Go r (WV B n L (eval r env) ((b, y) :: (a, x) :: H) σ₃ (fun d w σ₄ => Go op' (WV B n L (compareOp op' b d) ((d, w) :: (b, y) :: (a, x) :: H) σ₄ fun _ z σ₅ => z = .bool c' ∧ σ₅ = σ₃))) ∧ Φ (c && c') σ₃))))
 (hm : autoParam (markedEach [op, op'] [m, r] (evalEach [m, r] env) = [eval m env, eval r env]) bW) : GoT (Expr.Compare l [op, op'] [m, r] pos) (WB B n L (isTrue (.Compare l [op, op'] [m, r] pos) env whole) H σ Φ) := by
 show WB B n L (isTrue (.Compare l [op, op'] [m, r] pos) env whole) H σ Φ
 rw [arm_isTrue_Compare, hm]
 refine aj (af h fun a x σ₁ w => ?_)
 show W B n L (do
  let rv ← holding [a] (eval m env)
  standAt pos
  let c ← holding [a, rv] (compareOp op a rv)
  release [a, rv] [c]
  if ← holding [c, rv] (truthy c) then testChain pos rv [op'] [eval r env] else pure false) ((a, x) :: H) σ₁ _
 refine aj (ag (af w fun b y σ₂ w => al (aj (ag (af w fun c z σ₃ ⟨k, e, c', w, q⟩ => ?_)))))
 subst e
 refine iW (cy (ag (fx (.head _) ?_)))
 induction k using Bool.casesOn with
 | false => exact iP q
 | true =>
  refine gS ?_
  show W B n L (do
   let rv ← holding [b] (eval r env)
   standAt pos
   let c ← operate [b, rv] (compareOp op' b rv)
   holding [c] (truthy c)) _ _ _
  refine aj (ag (af w fun d w' σ₄ w => al (aj (c0 (af w fun v z σ₅ ⟨e, e'⟩ => ?_)))))
  subst e e'
  exact ag (fx (.head _) q)
end
section
variable {B : ab} {n : Nat} {L : Addr} {H : HL} {σ : St} {env : Env}
end
section
variable {B : ab} {n : Nat} {L : Addr} {H : HL} {σ : St} {env : Env}
theorem v7 {C fI : Addr} {ds : List AV} {loc : LL} {objs : OL} {Φ₀ : Addr → Addr → AV → OL → Prop} (hm : makesIn B.K C = true) (hi : findIn B.K (.ref C) "__init__" = some (some (.ref fI))) (hf : isFn B.K (.ref fI) = true)
 (c : ∀ x dx, aa B m fI (.ref x :: ds) ((x, .inst C dx []) :: objs) (Φ₀ x dx)) (hn : m ≤ n) (e : vs.length = ds.length) (k : ∀ p ∈ vs.zip ds, p ∈ H)
 (h : ∀ x dx d objs', Φ₀ x dx d objs' → d = .none ∧ Φ (.ref x) (.ref x) ⟨loc, objs'⟩) : WV B (n + 1) L (call (.ref C) vs) H ⟨loc, objs⟩ Φ :=
 xL (σ := ⟨loc, objs⟩) hm hi hf e k fun x dx => ((c x dx).room hn).mono fun d o q => h x dx d o q
end
end
section
section
variable {B : ab} {n : Nat} {L : Addr} {H : HL} {σ : St} {env : Env}
theorem uP {a b : Value} {c : Nat} {x : List Nat} {Φ : PV} (ma : (a, .str [c]) ∈ H) (mb : (b, .str x) ∈ H) (h : ∀ v, Φ v (.bool (decide (c ∈ x))) σ) : WV B n L (compareOp .In a b) H σ Φ := ae fun A F s hA X => by
 obtain ⟨t1, rfl⟩ := az (X.hold ma); obtain ⟨t2, rfl⟩ := az (X.hold mb)
 have e : (!(Builtin.Str.occurrences (S x) (S [c]) 0 (S x).length 1).isEmpty) = decide (c ∈ x) := StrLaws.found_one (S x) c
 with_reducible exact in_str (.here X ⟨_, .bool _, e ▸ h _⟩)
theorem qV (a b : Bool) : PyData.eqv (.bool a) (.bool b) = (a == b) := by rcases a with _ | _ <;> rcases b with _ | _ <;> first | rfl | simp [PyData.eqv]
theorem Ak {a b : Value} {x y : Bool} {Φ : PV} (ma : (a, .bool x) ∈ H) (mb : (b, .bool y) ∈ H) (h : ∀ v, Φ v (.bool (x == y)) σ) : WV B n L (compareOp .Eq a b) H σ Φ :=
 pV ma mb rfl rfl rfl rfl (qV x y) h
end
theorem aa.drop {B : ab} {n : Nat} {f : Addr} {args : List AV} {o : OL} {Φ : AV → OL → Prop} (c : aa B n f args o fun d q => ∃ q' g, q.Perm (q' ++ g) ∧ Φ d q') : aa B n f args o Φ :=
 fun A F s vs hA x hv => codeAny_mono (c A F s vs hA x hv) fun r s' ⟨v, d, objs', F', a, b, y, p, q', g, e, hq⟩ => by
  have pe := b6 e
  rw [bb] at pe
  have sub : ∀ b ∈ ad q', b ∈ ad objs' := fun b hb => pe.mem_iff.mpr (List.mem_append_left _ hb)
  exact ⟨v, d, q', F', a, b, ⟨y.core, y.sub, fun p hp => y.objs p (e.mem_iff.mpr (List.mem_append_left _ hp)), (List.nodup_append.mp (pe.nodup_iff.mp y.nodup)).1, fun b hb => y.apart b (sub b hb), y.big⟩,
   ⟨p.keep, fun b hb => p.own b (sub b hb), p.frz, p.mono, p.gens, p.os⟩, hq⟩
end
section
theorem aa.dropH {B : ab} {n : Nat} {f : Addr} {args : List AV} {o : OL} {Φ : AV → OL → Prop} (c : aa B n f args o fun d q => Bz (∃ q' g, q.Perm (q' ++ g) ∧ Φ d q')) : aa B n f args o Φ := aa.drop c
theorem aa.ahead {B : ab} {n : Nat} {f : Addr} {args : List AV} {a : Addr × AO} {o o' : OL} {d₀ : AV} (c : aa B n f args (o ++ [a]) fun d q => d = d₀ ∧ q = o' ++ [a]) : aa B n f args (a :: o) fun d q => d = d₀ ∧ q = a :: o' :=
 c.perm (List.perm_append_comm (l₁ := [a])) fun d q ⟨e1, e2⟩ => ⟨a :: o', by rw [e2]; exact List.perm_append_comm (l₂ := [a]), e1, rfl⟩
theorem ir (ms : List (List Nat)) : List.intercalate [] ms = ms.flatten := by
 induction ms with
 | nil => rfl
 | cons a r ih => induction r using List.casesOn with
  | nil => simp [List.intercalate, List.intersperse]
  | cons b r => simp only [List.intercalate, List.intersperse_cons_cons, List.flatten_cons] at ih ⊢; refine ih ▸ ?_; simp
theorem dI {l : List AV} {ms : List (List Nat)} {x : List Nat} (h : aG l = some ms) : aG (l ++ [.str x]) = some (ms ++ [x]) := by
 induction l generalizing ms with
 | nil => obtain rfl := Option.some.inj h; rfl
 | cons d r ih =>
  refine x23 (iD h) ?_; rintro y m rfl e1 rfl
  show (aG (r ++ [.str x])).map (y :: ·) = _
  refine (ih e1) ▸ ?_
  rfl
theorem mA (l : List Nat) (i : Nat) : sl l (some i) none = l.drop i := by
 rw [p0, List.take_length]
 by_cases h : i ≤ l.length
 · exact congrArg (fun k => l.drop k) (b4 h)
 · exact (congrArg (fun k => l.drop k) (Nat.min_eq_right (Nat.le_of_not_le h))).trans ((List.drop_eq_nil_of_le (Nat.le_refl _)).trans (List.drop_eq_nil_of_le (Nat.le_of_not_le h)).symm)
theorem yP {l : List Nat} {i j : Nat} (h : i ≤ l.length) (h' : j ≤ l.length) : sl l (some i) (some j) = (l.take j).drop i := by
 rw [fj]
 rw [b4 h, b4 h']
theorem tq {l : List Nat} {i : Nat} (h : i ≤ l.length) : sl l (some i) (some i) = [] := by rw [yP h h]; simp
theorem kx (ms : List (List Nat)) : (ms.map (·.length)).sum = ms.flatten.length := by rw [List.length_flatten]
section
variable {B : ab} {n : Nat} {L : Addr} {H : HL} {σ : St} {env : Env}
theorem wd {a : Addr} {l : List AV} {ms : List (List Nat)} {v₀ v : Value} {Φ : PV} (mv : (v₀, .str []) ∈ H) (md : (v, .ref a) ∈ H) (m : (a, AO.list l) ∈ σ.objs) (e : aG l = some ms)
 (hz : ms.flatten.length ≤ 16777216) (h : ∀ v, Φ v (.str ms.flatten) σ) : WV B n L (call (.builtin "str.join") [v₀, v]) H σ Φ :=
 lj mv md m e (by rw [kx]; simpa using hz) (by rw [ir]; exact h)
end
end
section
section
variable {M : Model} {A : Around} {c : Code} {fs : List Frame} {s : Shared} {Q : End → Shared → Prop} {K : Flow → Sem Fin} {Hh : Value → Sem Fin} {gd : Bool → Bool} {lv : List Value → List Value} {env : Env}
noncomputable def Sg (M : Model) (A : Around) (c : Code) (t : Sem Fin) (fs : List Frame) (s : Shared) (Q : End → Shared → Prop) : Prop :=
 ∀ Γ p, Γ.code = c → Γ.Woken A → ∃ e s', Runs M Γ p t fs s e s' ∧ (e.quiet = true ∧ Q e s')
theorem Sg.tree {α : Type} {m : Sem α} {K : α → Sem Fin} {Hh : Value → Sem Fin} (h : wpAny M (A.over c fs) m (fun a s' => Sg M A c (K a) fs s' Q) (fun x s' => Sg M A c (Hh x) fs s' Q) s) : Sg M A c (m.wrap K Hh gd lv) fs s Q := by
 rintro Γ p rfl hΓ
 exact runs_wrap_of_wp K Hh gd lv m (h (Γ.over fs) p (hΓ.over fs)) (fun a p' s' w => w Γ p' rfl hΓ) fun x p' s' w => w Γ p' rfl hΓ
theorem Sg.stand {p' : Pos} {k : Unit → Sem Fin} (h : Sg M A c (k ()) fs s Q) : Sg M A c (.at p' k) fs s Q := Sg.tree (m := standAt p') (K := k) (Hh := .raise) (gd := id) (lv := id) (wpAny_standAt h)
theorem Sg.spot {l : List Value} {k : Unit → Sem Fin} (h : Sg M A c (k ()) fs s Q) : Sg M A c (.point l k) fs s Q := Sg.tree (m := point) (K := k) (Hh := .raise) (gd := id) (lv := fun _ => l) (wpAny_point h)
theorem Sg.into {c' : Code} {h g l} {k : Result → Sem Fin} (w : ∀ p, Sg M A c' (M.den c') (.ret k h g l c p [] :: fs) s Q) : Sg M A c (.call c' h g l k) fs s Q := by
 rintro Γ p rfl hΓ
 refine x22 (w p (Γ.goto c') p rfl (hΓ.goto c')) ?_; rintro e s' hr q
 exact ⟨e, s', runs_call_seg hr, q⟩
theorem Sg.back {k h g l c₁ p₁ kp} (r : Result) (w : Sg M A c₁ (k r) fs s Q) : Sg M A c (leafOf r) (.ret k h g l c₁ p₁ kp :: fs) s Q := by
 rintro Γ p rfl hΓ
 refine x22 (w (Γ.goto c₁) p₁ rfl (hΓ.goto c₁)) ?_; rintro e s' hr q
 exact ⟨e, s', Runs.pop r hr, q⟩
theorem Sg.turn {c' : Code} (hq : c'.quiet = true) (w : Sg M A c' (M.den c') fs s Q) : Sg M A c (.pure (.again c')) fs s Q := by
 rintro Γ p rfl hΓ
 refine x22 (w (Γ.goto c') p rfl (hΓ.goto c')) ?_; rintro e s' hr q
 exact ⟨e, s', Runs.head (c₁ := c') (fun _ _ x => .again hq x) hr, q⟩
theorem Sg.over (r : Result) (h : Q (.ret r) s) : Sg M A c (leafOf r) [] s Q := by
 rintro Γ p rfl _
 exact ⟨.ret r, s, Runs.leaf r, rfl, h⟩
theorem Sg.give {v g l} {k : Resume → Sem Fin} (hfs : splitAtGen fs = none) (hg : g = false) (hfg : fs.any Frame.guarded = false) (h : ∀ p, Q (.susp v g l k c p fs) s) : Sg M A c (.yield v g l k) fs s Q := by
 rintro Γ p rfl _
 exact ⟨_, s, Runs.yield' fs hfs, by simp [End.quiet, hg, hfg], h p⟩
noncomputable def Wk (M : Model) (A : Around) (gs : GenState) (s : Shared) (Q : End → Shared → Prop) : Prop :=
 match gs with
 | .fresh c => Sg M A c (M.den c) [] s Q
 | .suspended k _ c _ fs _ => Sg M A c (k (.send .none)) fs s Q
 | _ => False
theorem lN {E : Value → Shared → Prop} {g : Nat} {gs : GenState} {l : List Value} {α : Type} {k : GenResult → Sem α} {R : α → Shared → Prop} (hg : s.gens[g]? = some gs) (w : Wk M A gs (s.setGen g .running) Q)
 (h : ∀ e s₁, e.quiet = true → Q e s₁ → wpAny M A (k e.result) R E (s₁.setGen g e.genState)) : wpAny M A (.resume g (.send .none) l k) R E s := by
 intro Γ p hΓ
 rw [Sem.wp_resume]
 cases gs with
 | running => exact w.elim
 | finished => exact w.elim
 | fresh c =>
  refine x23 (w (Γ.wake c p) p rfl (hΓ.wake c p)) ?_; rintro e s' hr q z
  exact ⟨_, _, by unfold Wakes; rw [hg]; exact ⟨e, s', hr, q, rfl, rfl⟩, h e s' q z Γ p hΓ⟩
 | suspended k₀ l₀ c p₀ fs cl =>
  refine x23 (w (Γ.wake c p) p₀ rfl (hΓ.wake c p)) ?_; rintro e s' hr q z
  exact ⟨_, _, by unfold Wakes; rw [hg]; exact ⟨e, s', hr, q, rfl, rfl⟩, h e s' q z Γ p hΓ⟩
theorem Sg.steps {st : Stmt} {rest : List Stmt} (h : Sg M A c ((exec st env).wrap (fun f => match f with | .next => (execs rest env).wrap K Hh gd lv | f => K f) Hh gd lv) fs s Q) : Sg M A c ((execs (st :: rest) env).wrap K Hh gd lv) fs s Q := by
 rw [execs_cons_wrap]; exact h
theorem Sg.yields {e : Expr} {yp pos : Pos} (hfs : splitAtGen fs = none) (hgd : gd false = false) (hfg : fs.any Frame.guarded = false)
 (h : wpAny M (A.over c fs) (eval e env) (fun v s' => ∀ l k p, k (.send .none) = K .next → Q (.susp v (gd false) l k c p fs) s') (fun _ _ => False) s) (hco : env.scope.isCoroutine = false) (hi : interactive env = false) :
 Sg M A c ((exec (.Expr (.Yield (some e) yp) pos) env).wrap K Hh gd lv) fs s Q := by
 rw [exec_Expr env _ pos hi rfl]
 have hy : ∀ v, yieldOut env v = yieldValue v := fun v => by simp only [yieldOut, hco, Bool.false_eq_true, if_false]
 show Sg M A c (.at pos fun _ => ((eval e env >>= fun v => (standAt yp >>= fun _ => yieldOut env v)) >>= fun x => dropValue (.Yield (some e) yp) pos x).wrap K Hh gd lv) fs s Q
 simp only [hy]
 refine Sg.stand ?_
 rw [Sem.bind_eq_wrap', Sem.bind_eq_wrap', Sem.wrap_wrap, Sem.wrap_wrap]
 refine Sg.tree (wpAny_mono h (fun v s' z => ?_) fun _ _ z => z.elim)
 exact Sg.stand (Sg.give hfs hgd hfg fun p => z _ _ p rfl)
theorem Sg.whiles {test : Expr} {body : List Stmt} {pos : Pos}
 (h : ∀ p k, (∀ f, k (.ok f) = K f) → Sg M A (.whileLoop test body [] env) (M.den (.whileLoop test body [] env)) (.ret k none (gd false) (lv []) c p [] :: fs) s Q) : Sg M A c ((exec (.While test body [] pos) env).wrap K Hh gd lv) fs s Q :=
 Sg.stand (Sg.into fun p => h p _ fun f => rfl)
end
section
variable {prog : Program} {w : World} {A : Around} {fs : List Frame} {s : Shared} {Q : End → Shared → Prop} {env : Env}
theorem Sg.round {test : Expr} {body : List Stmt} (h : wpAny (model prog w) (A.over (.whileLoop test body [] env) fs) (isTrue test env (eval test env)) (fun b s' =>
 (b = true → ∀ Hh, Sg (model prog w) A (.whileLoop test body [] env) ((execs body env).wrap (fun f => match f with
  | .next | .cont => .pure (.again (.whileLoop test body [] env))
  | .brk => .pure (.done .next)
  | .ret v => .pure (.done (.ret v))) Hh id id) fs s' Q) ∧
 (b = false → Sg (model prog w) A (.whileLoop test body [] env) (.pure (.done .next)) fs s' Q)) (fun _ _ => False) s) :
 Sg (model prog w) A (.whileLoop test body [] env) ((model prog w).den (.whileLoop test body [] env)) fs s Q := by
 show Sg _ A _ ((whileTurn test body [] env).onRaise (fun x => do noteFrame x env; theTreesLotGoes x)) fs s Q
 unfold whileTurn
 rw [Sem.onRaise_eq_wrap, Sem.bind_eq_wrap', Sem.wrap_wrap]
 refine Sg.tree (wpAny_mono h (fun b s' z => ?_) fun _ _ z => z.elim)
 induction b using Bool.casesOn with
 | true =>
  show Sg _ A _ (Sem.wrap _ _ _ _ (execs body env >>= _)) fs s' Q
  rw [Sem.bind_eq_wrap', Sem.wrap_wrap]
  rw [Sem.wrap_congr (execs body env) (K' := fun f => match f with
   | .next | .cont => .pure (.again (.whileLoop test body [] env))
   | .brk => .pure (.done .next)
   | .ret v => .pure (.done (.ret v))) _ _ (fun f => by rcases f with _ | _ <;> rfl) (fun e => rfl)]
  exact z.1 rfl _
 | false => exact z.2 rfl
theorem Sg.body {body : List Stmt} (h : ∀ Hh, Sg (model prog w) A (.func body env) ((execs body env).wrap (fun f => .pure (.done (.ret (match f with | .ret v => v | _ => .none)))) Hh id id) fs s Q) :
 Sg (model prog w) A (.func body env) ((model prog w).den (.func body env)) fs s Q := by
 show Sg _ A _ (.point [] fun _ => ((execs body env).onRaise (leaving env)) >>= _) fs s Q
 refine Sg.spot ?_
 rw [Sem.onRaise_eq_wrap, Sem.bind_eq_wrap', Sem.wrap_wrap]
 rw [Sem.wrap_congr (execs body env) (K' := fun f => .pure (.done (.ret (match f with | .ret v => v | _ => .none)))) _ _ (fun f => by rcases f with _ | _ <;> rfl) (fun e => rfl)]
 exact h _
end
end
section
variable {st : Stmt} {pos : Pos} {test : Expr}
theorem Sg.mono {M : Model} {A : Around} {c : Code} {t : Sem Fin} {fs : List Frame} {s : Shared} {Q Q' : End → Shared → Prop} (h : Sg M A c t fs s Q) (k : ∀ e s', Q e s' → Q' e s') : Sg M A c t fs s Q' := fun Γ p e hΓ =>
 let ⟨x, s', hr, q, z⟩ := h Γ p e hΓ; ⟨x, s', hr, q, k _ _ z⟩
section
variable {γ : Type}
noncomputable def nT (B : ab) (m : Nat) (L : Addr) (YJ : γ → AV → OL → Prop) (RJ : OL → Prop) : List γ → List Addr → Fz → Shared → End → Shared → Prop
 | [] => fun O F s e s₁ => e = .ret (.ok (.ret .none)) ∧ ∃ F' σ', Holds B.P B.G L F' [] σ' s₁.heap ∧ aM O F s (L :: ad σ'.objs) F' s₁ ∧ RJ σ'.objs
 | x :: tr => fun O F s e s₁ => ∃ v g l k c p fs F' σ' d, e = .susp v g l k c p fs ∧ Holds B.P B.G L F' [(v, d)] σ' s₁.heap ∧ aM O F s (L :: ad σ'.objs) F' s₁ ∧ YJ x d σ'.objs ∧
  ∀ A F₂ s₂, cA m A → Holds B.P B.G L F₂ [] σ' s₂.heap → Sg B.M A c (k (.send .none)) fs s₂ (nT B m L YJ RJ tr (L :: ad σ'.objs) F₂ s₂)
variable {B : ab} {m n : Nat} {L : Addr} {YJ : γ → AV → OL → Prop} {RJ : OL → Prop}
theorem nT.trans {tr : List γ} {O O' : List Addr} {F F' : Fz} {s s' s₁ : Shared} {e : End} (p : aM O F s O' F' s') (h : nT B m L YJ RJ tr O' F' s' e s₁) : nT B m L YJ RJ tr O F s e s₁ := by
 induction tr using List.casesOn with
 | nil =>
  obtain ⟨rfl, F₁, σ₁, x, q, r⟩ := h
  exact ⟨rfl, F₁, σ₁, x, p.trans q, r⟩
 | cons x tr =>
  refine x61 (h) ?_; clear h; rintro v g l k c p' ⟨fs, F₁, σ₁, d, rfl, x, q, r⟩
  exact ⟨v, g, l, k, c, p', fs, F₁, σ₁, d, rfl, x, p.trans q, r⟩
structure GW (B : ab) (m : Nat) (L : Addr) (YJ : γ → AV → OL → Prop) (RJ : OL → Prop) (c : Code) (fs : List Frame) (t : Sem Fin) (tr : List γ) (σ : St) : Prop where
 run : ∀ A F s, cA m A → Holds B.P B.G L F [] σ s.heap → Sg B.M A c t fs s (nT B m L YJ RJ tr (L :: ad σ.objs) F s)
variable {c : Code} {fs : List Frame} {tr : List γ} {σ : St} {K : Flow → Sem Fin} {Hh : Value → Sem Fin} {gd : Bool → Bool} {lv : List Value → List Value} {env : Env}
noncomputable def bF (m n : Nat) (c : Code) (fs : List Frame) : Prop := ∀ A, cA m A → cA n (A.over c fs)
theorem GW.bind {α : Type} {t : Sem α} {K : α → Sem Fin} (hr : bF m n c fs) (h : W B n L t [] σ fun a _ σ' => GW B m L YJ RJ c fs (K a) tr σ') : GW B m L YJ RJ c fs (t.wrap K Hh gd lv) tr σ := ⟨fun A F s hA X =>
 Sg.tree (wpAny_mono (h.run _ F s (hr A hA) X) (fun a s' ⟨F', σ', X', p, w⟩ => (w.run A F' s' hA X').mono fun _ _ z => z.trans p) fun _ _ z => z.elim)⟩
theorem GW.stmt (hr : bF m n c fs) (h : WF B n L (exec st env) [] σ fun e σ' => e = .next ∧ GW B m L YJ RJ c fs (K .next) tr σ') : GW B m L YJ RJ c fs ((exec st env).wrap K Hh gd lv) tr σ :=
 GW.bind hr ⟨fun A F s hA X => wpAny_mono (h.run A F s hA X) (fun f s' ⟨F', σ', X', p, e, he, q, w⟩ => ⟨F', σ', X', p, by subst q; rcases f with _ | _ <;> first | exact w | exact he.elim⟩) fun _ _ z => z⟩
theorem GW.steps {rest : List Stmt} (h : GW B m L YJ RJ c fs ((exec st env).wrap (fun f => match f with | .next => (execs rest env).wrap K Hh gd lv | f => K f) Hh gd lv) tr σ) : GW B m L YJ RJ c fs ((execs (st :: rest) env).wrap K Hh gd lv) tr σ :=
 ⟨fun A F s hA X => Sg.steps (h.run A F s hA X)⟩
theorem GW.yields {x : γ} {e : Expr} {yp : Pos} (hr : bF m n c fs) (hfs : splitAtGen fs = none) (hgd : gd false = false) (hfg : fs.any Frame.guarded = false)
 (h : WV B n L (eval e env) [] σ fun v d σ' => YJ x d σ'.objs ∧ GW B m L YJ RJ c fs (K .next) tr σ') (hco : env.scope.isCoroutine = false) (hi : interactive env = false) :
 GW B m L YJ RJ c fs ((exec (.Expr (.Yield (some e) yp) pos) env).wrap K Hh gd lv) (x :: tr) σ := ⟨fun A F s hA X =>
 Sg.yields hfs hgd hfg (wpAny_mono (h.run _ F s (hr A hA) X) (fun v s' ⟨F', σ', X', p, d, hd, y, w⟩ l k p' hk => ⟨v, gd false, l, k, c, p', fs, F', σ', d, rfl, X'.push hd, p, y, fun A F₂ s₂ hA X₂ => by rw [hk]; exact w.run A F₂ s₂ hA X₂⟩) fun _ _ z => z) hco hi⟩
theorem GW.whiles {body : List Stmt}
 (h : ∀ p k, (∀ f, k (.ok f) = K f) → GW B m L YJ RJ (.whileLoop test body [] env) (.ret k none (gd false) (lv []) c p [] :: fs) (B.M.den (.whileLoop test body [] env)) tr σ) : GW B m L YJ RJ c fs ((exec (.While test body [] pos) env).wrap K Hh gd lv) tr σ :=
 ⟨fun A F s hA X => Sg.whiles fun p k e => (h p k e).run A F s hA X⟩
theorem GW.round {body : List Stmt} (hr : bF m n (.whileLoop test body [] env) fs) (h : WB B n L (isTrue test env (eval test env)) [] σ fun b σ' =>
 (b = true → ∀ Hh, GW B m L YJ RJ (.whileLoop test body [] env) fs ((execs body env).wrap (fun f => match f with
  | .next | .cont => .pure (.again (.whileLoop test body [] env))
  | .brk => .pure (.done .next)
  | .ret v => .pure (.done (.ret v))) Hh id id) tr σ') ∧
 (b = false → GW B m L YJ RJ (.whileLoop test body [] env) fs (.pure (.done .next)) tr σ')) : GW B m L YJ RJ (.whileLoop test body [] env) fs (B.M.den (.whileLoop test body [] env)) tr σ :=
 ⟨fun A F s hA X => Sg.round (wpAny_mono (h.run _ F s (hr A hA) X) (fun b s' ⟨F', σ', X', p, w⟩ => ⟨fun e Hh => ((w.1 e Hh).run A F' s' hA X').mono fun _ _ z => z.trans p, fun e => ((w.2 e).run A F' s' hA X').mono fun _ _ z => z.trans p⟩) fun _ _ z => z)⟩
theorem GW.turn {c' : Code} (hq : c'.quiet = true) (h : GW B m L YJ RJ c' fs (B.M.den c') tr σ) : GW B m L YJ RJ c fs (.pure (.again c')) tr σ := ⟨fun A F s hA X => Sg.turn hq (h.run A F s hA X)⟩
theorem GW.back {k : Result → Sem Fin} {h' g l c₁ p₁ kp} {f : Flow} (h : GW B m L YJ RJ c₁ fs (k (.ok f)) tr σ) : GW B m L YJ RJ c (.ret k h' g l c₁ p₁ kp :: fs) (.pure (.done f)) tr σ := ⟨fun A F s hA X => Sg.back (.ok f) (h.run A F s hA X)⟩
theorem GW.body {body : List Stmt} (h : ∀ Hh, GW B m L YJ RJ (.func body env) fs ((execs body env).wrap (fun f => .pure (.done (.ret (match f with | .ret v => v | _ => .none)))) Hh id id) tr σ) :
 GW B m L YJ RJ (.func body env) fs (B.M.den (.func body env)) tr σ := ⟨fun A F s hA X => Sg.body fun Hh => (h Hh).run A F s hA X⟩
theorem GW.over (h : RJ σ.objs) : GW B m L YJ RJ c [] (.pure (.done (.ret .none))) [] σ := ⟨fun A F s hA X => Sg.over (.ok (.ret .none)) ⟨rfl, F, σ, X, .refl _ _ _, h⟩⟩
theorem bZ {body : List Stmt} : bF (n + 1) n (.func body env) [] := fun A hA => by
 have h1 : (Code.func body env).weight = 1 := by rfl
 have h2 : (Code.func body env).cUnits = 3 := by rfl
 refine ⟨hA.handled, ?_, ?_⟩
 · have := hA.depth
   show A.depth + frameCount ([].map Frame.where_) + (Code.func body env).weight + n ≤ 900
   rw [h1]; simp [frameCount]; omega
 · have := hA.units
   show A.units + unitsOf ([].map Frame.where_) + (Code.func body env).cUnits + 8 * n ≤ 9000
   rw [h2]; simp [unitsOf]; omega
theorem aT {body : List Stmt} {env' : Env} {k : Result → Sem Fin} {g l p kp} (h : bF m n c fs) : bF m n (.whileLoop test body [] env') (.ret k none g l c p kp :: fs) := fun A hA => by
 obtain ⟨r1, r2, r3⟩ := h A hA
 have h1 : (Code.whileLoop test body [] env').weight = 0 := by rfl
 have h2 : (Code.whileLoop test body [] env').cUnits = 0 := by rfl
 refine ⟨?_, ?_, ?_⟩
 · exact r1
 · have : A.depth + frameCount (fs.map Frame.where_) + c.weight + n ≤ 900 := r2
   show A.depth + frameCount ((Frame.ret k none g l c p kp :: fs).map Frame.where_) + (Code.whileLoop test body [] env').weight + n ≤ 900
   rw [h1, List.map_cons, show (Frame.ret k none g l c p kp).where_ = (c, p) from rfl, frameCount_cons]; omega
 · have : A.units + unitsOf (fs.map Frame.where_) + c.cUnits + 8 * n ≤ 9000 := r3
   show A.units + unitsOf ((Frame.ret k none g l c p kp :: fs).map Frame.where_) + (Code.whileLoop test body [] env').cUnits + 8 * n ≤ 9000
   rw [h2, List.map_cons, show (Frame.ret k none g l c p kp).where_ = (c, p) from rfl, unitsOf_cons]; omega
end
variable {st : Stmt} {pos : Pos} {test : Expr}
section
variable {γ : Type} {B : ab} {m n : Nat} {L : Addr} {YJ : γ → AV → OL → Prop} {RJ : OL → Prop} {c : Code} {fs : List Frame} {tr : List γ} {K : Flow → Sem Fin} {Hh : Value → Sem Fin} {gd : Bool → Bool} {lv : List Value → List Value} {env : Env} {t : Sem Fin}
theorem GW.perm {loc : LL} {objs objs' rest : OL} (e : objs.Perm (objs' ++ rest)) (h : GW B m L YJ RJ c fs t tr ⟨loc, objs'⟩) : GW B m L YJ RJ c fs t tr ⟨loc, objs⟩ := ⟨fun A F s hA X => by
 refine (h.run A F s hA (X.drop e)).mono fun x s' z => z.trans ?_
 have pe := b6 e
 rw [bb] at pe
 refine ⟨fun _ _ _ e => e, fun b hb => .inl ?_, fun _ _ e => .inl e, .refl F, .refl _, rfl⟩
 rcases mC0 hb with rfl | hb
 · exact .head _
 · exact .tail _ (pe.mem_iff.mpr (List.mem_append_left _ hb))⟩
end
end
section
variable {g : Nat} {gs : GenState} {F' : Fz}
section
variable {prog : Program} {w : World} {A : Around} {E : Value → Shared → Prop} {s : Shared}
theorem nZ {a : Addr} {Q₀ : End → Shared → Prop} {Q : Option Value → Shared → Prop} (hh : A.handled = none) (hl : s.heap.NoLimit) (hroom : A.depth < recursionLimit) (hg : s.heap.IsGen a g) (hgs : s.gens[g]? = some gs)
 (wk : Wk (model prog w) A.in1 gs (s.setGen g .running) Q₀)
 (h : ∀ e s₁, e.quiet = true → Q₀ e s₁ → match e with
  | .susp v g₀ l k c p fs => Q (some v) (s₁.setGen g (End.susp v g₀ l k c p fs).genState)
  | .ret r => r = .ok (.ret .none) ∧ ∀ h', (∀ b o, s₁.heap.get? b = some o → h'.get? b = some o) → Q none { s₁.setGen g .finished with heap := h' }) :
 wpAny (model prog w) A (pyNext (.ref a)) Q E s := by
 unfold pyNext
 refine wpAny_bind (wpAny_attempt (wpAny_callSpecial?_slot (name := Str.ofString "__next__") hg.typeIs slot_gen_next (wpAny_call_entry slot_gen_next hg.typeIs entry_gen_next ?_ (args_gen_next _))))
 show wpAny _ _ (Builtin.Generator.genWake (.ref a) (.send .none)) _ _ s
 unfold Builtin.Generator.genWake
 refine wpAny_bind (wpAny_holding (wpAny_genNumber hg (wpAny_bind (wpAny_genState hgs ?_))))
 cases gs with
 | running => exact wk.elim
 | finished => exact wk.elim
 | _ =>
  refine wpAny_bind (wpAny_roomToWake hl hroom ?_)
  refine lN hgs wk (fun e s₁ hq z => ?_)
  cases e with
  | susp v g₀ l k c p fs => exact wpAny_pure ⟨v, rfl, wpAny_pure (h _ s₁ hq z)⟩
  | ret r =>
   obtain ⟨rfl, z'⟩ := h _ s₁ hq z
   show wpAny _ _ (newExc (.type "StopIteration") [] >>= _) _ _ _
   refine wpAny_bind ?_
   simp only [newExc, newTuple]
   refine wpAny_bind (wpAny_newObj_type ?_ (by size_fits))
   refine wpAny_bind (m := firstArgMember _ _) (wpAny_of_eq (a := Value.none) (by first | rfl | (simp only [firstArgMember]; rfl)) ?_)
   refine wpAny_newObj_type ?_ (by size_fits)
   simp only [raiseNew]
   refine wpAny_bind (wpAny_bind (wpAny_handled ?_))
   rw [show A.in1.handled = none from hh]
   refine wpAny_throw ?_
   refine wpAny_bind (wpAny_isInstance (T := "StopIteration") (b := true) ⟨_, Heap.get?_push_size _ rfl, rfl⟩ isSubtype_stop ?_)
   exact wpAny_pure (z' _ fun b o hb => Heap.get?_push_of_some _ (Heap.get?_push_of_some _ hb))
end
theorem Shared.set_set (s : Shared) (g : Nat) (x y : GenState) : (s.setGen g x).setGen g y = s.setGen g y := by
 unfold Shared.setGen; simp
theorem bV.fin {a b : Array GenState} {x : GenState} (h : bV a b) (hg : a[g]? = some x) : bV (a.setIfInBounds g .finished) (b.setIfInBounds g .finished) := by
 have ha : g < a.size := by by_cases q : g < a.size; exact q; simp [q] at hg
 have hb : g < b.size := by
  have := h.keep g x hg
  by_cases q : g < b.size; exact q; simp [q] at this
 refine ⟨fun i y e => ?_, fun i y e => ?_⟩
 · rw [Array.getElem?_setIfInBounds] at e ⊢
   by_cases q : g = i
   · subst q; rw [if_pos rfl, if_pos ha] at e; rw [if_pos rfl, if_pos hb]; exact e
   · rw [if_neg q] at e; rw [if_neg q]; exact h.keep i y e
 · rw [Array.getElem?_setIfInBounds] at e
   by_cases q : g = i
   · subst q; rw [if_pos rfl, if_pos hb] at e; obtain rfl := Option.some.inj e; exact .inr rfl
   · rw [if_neg q] at e
     rw [Array.getElem?_setIfInBounds, if_neg q]
     exact h.bare i y e
noncomputable abbrev fin (g : Nat) (s : Shared) : Shared := s.setGen g .finished
theorem aM.fin {O O' : List Addr} {F : Fz} {s' : Shared} {x : GenState} (p : aM O F s O' F' s') (hg : s.gens[g]? = some x) : aM O F (fin g s) O' F' (fin g s') :=
 ⟨p.keep, p.own, p.frz, p.mono, p.gens.fin hg, p.os⟩
section
variable {γ : Type} {B : ab} {m n : Nat} {L : Addr} {YJ : γ → AV → OL → Prop} {RJ : OL → Prop} {tr : List γ}
structure lO (B : ab) (m : Nat) (Lg : Addr) (YJ : γ → AV → OL → Prop) (RJ : OL → Prop) (tr : List γ) (o : Obj) (gobjs : OL) (F : Fz) (gs : GenState) : Prop where
 it : ∃ gloc : LL, (∃ mm, (∀ h : Heap, h.get? Lg = some o → h.Ns Lg mm) ∧ ∀ x d, (x, some d) ∈ gloc → ∃ v, mm x = some v ∧ Is B.P F v d) ∧ (gloc.map (·.1)).Nodup ∧
  ∀ A F s, cA m A → Holds B.P B.G Lg F [] ⟨gloc, gobjs⟩ s.heap → Wk B.M A gs s (nT B m Lg YJ RJ tr (Lg :: ad gobjs) F s)
 low : B.G.objs.size ≤ Lg
theorem lO.mono {Lg : Addr} {o : Obj} {gobjs : OL} {F : Fz} (h : lO B m Lg YJ RJ tr o gobjs F gs) (k : F.le F') : lO B m Lg YJ RJ tr o gobjs F' gs := by
 obtain ⟨⟨gloc, ⟨mm, a, b⟩, c, d⟩, e⟩ := h
 exact ⟨⟨gloc, ⟨mm, a, fun x d hx => let ⟨v, q, r⟩ := b x d hx; ⟨v, q, r.mono k⟩⟩, c, d⟩, e⟩
noncomputable abbrev frO (Lg : Addr) (o : Obj) : Addr × AO := (Lg, .is (· = o))
variable {H : HL} {loc : LL} {gobjs own : OL} {Lg : Addr} {o : Obj} {F : Fz}
theorem Holds.inner {h : Heap} {gloc : LL} (X : Holds B.P B.G L F H ⟨loc, frO Lg o :: (gobjs ++ own)⟩ h) (low : B.G.objs.size ≤ Lg) (nd : (gloc.map (·.1)).Nodup)
 (hl : ∃ mm, (∀ h : Heap, h.get? Lg = some o → h.Ns Lg mm) ∧ ∀ x d, (x, some d) ∈ gloc → ∃ v, mm x = some v ∧ Is B.P F v d) : Holds B.P B.G Lg F [] ⟨gloc, gobjs⟩ h := by
 refine x12 (X.objs _ (.head _)) ?_; rintro o' e1 e2
 have nd2 := (List.nodup_cons.mp X.nodup).2
 have e : ad (frO Lg o :: (gobjs ++ own)) = (Lg :: ad gobjs) ++ ad own := by simp [ad, AO.more, bb]
 rw [show ad (⟨loc, frO Lg o :: (gobjs ++ own)⟩ : St).objs = _ from e] at nd2
 refine ⟨X.core, X.sub, ?_, nd, fun p hp => X.objs p (.tail _ (List.mem_append_left _ hp)), (List.nodup_append.mp nd2).1, fun b hb => X.apart b (.tail _ (by rw [show ad (⟨loc, frO Lg o :: (gobjs ++ own)⟩ : St).objs = _ from e]; exact List.mem_append_left _ hb)), fun _ hp => (nomatch hp), low⟩
 refine x12 (hl) ?_; clear hl; rintro mm a b
 exact ⟨mm, a h (by rw [e1, e2]), b⟩
theorem Holds.outer {s₁ : Shared} {H' : HL} {σ' : St} (X : Holds B.P B.G L F H ⟨loc, frO Lg o :: (gobjs ++ own)⟩ s.heap) (Y : Holds B.P B.G Lg F' H' σ' s₁.heap) (p : aM (Lg :: ad gobjs) F s (Lg :: ad σ'.objs) F' s₁) :
 ∃ o', (∃ mm, (∀ h : Heap, h.get? Lg = some o' → h.Ns Lg mm) ∧ ∀ x d, (x, some d) ∈ σ'.loc → ∃ v, mm x = some v ∧ Is B.P F' v d) ∧
  Holds B.P B.G L F' H ⟨loc, frO Lg o' :: (σ'.objs ++ own)⟩ s₁.heap ∧ aM (L :: ad (frO Lg o :: (gobjs ++ own))) F s (L :: ad (frO Lg o' :: (σ'.objs ++ own))) F' s₁ := by
 refine x12 (Y.loc) ?_; rintro mm ⟨o', es, ep, e1, e2⟩ e3
 have e : ∀ o (g : OL), ad (frO Lg o :: (g ++ own)) = (Lg :: ad g) ++ ad own := fun o g => by simp [ad, AO.more, bb]
 have nd := X.nodup
 rw [show ad (⟨loc, frO Lg o :: (gobjs ++ own)⟩ : St).objs = _ from e o gobjs] at nd
 obtain ⟨nL, nd2⟩ := List.nodup_cons.mp nd
 refine x03 (List.nodup_append.mp nd2) ?_; rintro n1 n2 n3
 have there : ∀ b ∈ L :: ad own, ∃ y, s.heap.get? b = some y := fun b hb => X.there b (by
  refine (show ad (⟨loc, frO Lg o :: (gobjs ++ own)⟩ : St).objs = _ from e o gobjs) ▸ ?_
  rcases mC0 hb with rfl | hb
  · exact .head _
  · exact .tail _ (List.mem_append_right _ hb))
 -- what the asker has is none of the generator's
 have apart : ∀ b ∈ L :: ad own, b ∉ Lg :: ad gobjs := fun b hb hm => by
  rcases mC0 hb with rfl | hb
  · exact nL (List.mem_append_left _ hm)
  · exact n3 b hm b hb rfl
 have apart' : ∀ b ∈ L :: ad own, b ∉ Lg :: ad σ'.objs := fun b hb hm => by
  rcases p.own b hm with z | z
  · exact apart b hb z
  · obtain ⟨y, hy⟩ := there b hb; rw [hy] at z; contradiction
 have keep : ∀ b ∈ L :: ad own, ∀ y, s.heap.get? b = some y → s₁.heap.get? b = some y := fun b hb y hy => p.keep b y (apart b hb) hy
 have noF : ∀ b ∈ L :: ad own, F' b = none := fun b hb => by
  induction q : F' b using Option.casesOn with
  | none => rfl
  | some y =>
   rcases p.frz b y q with z | z | z
   · rw [X.apart b (by
      refine (show ad (⟨loc, frO Lg o :: (gobjs ++ own)⟩ : St).objs = _ from e o gobjs) ▸ ?_
      rcases mC0 hb with rfl | hb
      · exact .head _
      · exact .tail _ (List.mem_append_right _ hb))] at z; contradiction
   · exact absurd z (apart b hb)
   · obtain ⟨y', hy⟩ := there b hb; rw [hy] at z; contradiction
 refine ⟨o', ⟨mm, fun h eh => ⟨o', es, ep, eh, e2⟩, e3⟩, ⟨Y.core, Y.sub, ?_, X.names, fun q hq => ?_, ?_, fun b hb => ?_, fun q hq => (X.held q hq).mono p.mono, X.low⟩, ⟨fun b y hb => p.keep b y fun hm => hb ?_, fun b hb => ?_, fun b y h => ?_, p.mono, p.gens, p.os⟩⟩
 · refine x12 (X.loc) ?_; rintro mL ⟨oL, esL, epL, l1, l2⟩ l3
   exact ⟨mL, ⟨oL, esL, epL, keep L (.head _) _ l1, l2⟩, fun x d hx => let ⟨v, a, b⟩ := l3 x d hx; ⟨v, a, b.mono p.mono⟩⟩
 · rcases mC0 hq with rfl | hq
   · exact ⟨o', e1, rfl⟩
   · rcases List.mem_append.mp hq with hq | hq
     · exact Y.objs q hq
     · exact (X.objs q (.tail _ (List.mem_append_right _ hq))).move p.mono fun b y hb => keep b (.tail _ (aH.mpr ⟨q, hq, hb⟩)) y
 · show (L :: ad (frO Lg o' :: (σ'.objs ++ own))).Nodup
   rw [e]
   refine List.nodup_cons.mpr ⟨fun hm => ?_, List.nodup_append.mpr ⟨Y.nodup, n2, fun a ha b hb q => apart' b (.tail _ hb) (q ▸ ha)⟩⟩
   rcases List.mem_append.mp hm with hm | hm
   · exact apart' L (.head _) hm
   · exact nL (List.mem_append_right _ hm)
 · rw [show ad (⟨loc, frO Lg o' :: (σ'.objs ++ own)⟩ : St).objs = _ from e o' σ'.objs] at hb
   rcases mC0 hb with rfl | hb
   · exact noF _ (.head _)
   · rcases List.mem_append.mp hb with hb | hb
     · exact Y.apart b hb
     · exact noF b (.tail _ hb)
 · rw [e]; exact .tail _ (List.mem_append_left _ hm)
 · rw [e] at hb
   rw [e]
   rcases mC0 hb with rfl | hb
   · exact .inl (.head _)
   · rcases List.mem_append.mp hb with hb | hb
     · exact (p.own b hb).imp_left fun h => .tail _ (List.mem_append_left _ h)
     · exact .inl (.tail _ (List.mem_append_right _ hb))
 · rw [e]
   exact (p.frz b y h).imp_right (Or.imp_left fun h => .tail _ (List.mem_append_left _ h))
noncomputable def zw (B : ab) (m : Nat) (L Lg : Addr) (YJ : γ → AV → OL → Prop) (RJ : OL → Prop) (H : HL) (loc : LL) (own : OL) (O : List Addr) (F : Fz) (g : Nat) (s : Shared) : List γ → Option Value → Shared → Prop
 | [], r, s' => r = none ∧ ∃ F' gobjs' o', Holds B.P B.G L F' H ⟨loc, frO Lg o' :: (gobjs' ++ own)⟩ s'.heap ∧ aM O F (fin g s) (L :: ad (frO Lg o' :: (gobjs' ++ own))) F' s' ∧ RJ gobjs'
 | x :: tr, r, s' => ∃ v d F' gobjs' o' gs', r = some v ∧ Is B.P F' v d ∧ YJ x d gobjs' ∧ Holds B.P B.G L F' H ⟨loc, frO Lg o' :: (gobjs' ++ own)⟩ s'.heap ∧ aM O F (fin g s) (L :: ad (frO Lg o' :: (gobjs' ++ own))) F' (fin g s') ∧ s'.gens[g]? = some gs' ∧ lO B m Lg YJ RJ tr o' gobjs' F' gs'
theorem ask {A : Around} {a : Addr} (hA : cA (m + 1) A) (X : Holds B.P B.G L F H ⟨loc, frO Lg o :: (gobjs ++ own)⟩ s.heap) (hg : s.heap.IsGen a g) (hgs : s.gens[g]? = some gs) (lv : lO B m Lg YJ RJ tr o gobjs F gs) :
 wpAny B.M A (pyNext (.ref a)) (zw B m L Lg YJ RJ H loc own (L :: ad (frO Lg o :: (gobjs ++ own))) F g s tr) (fun _ _ => False) s := by
 obtain ⟨⟨gloc, hl, hn, wk⟩, low⟩ := lv
 have X₁ : Holds B.P B.G L F H ⟨loc, frO Lg o :: (gobjs ++ own)⟩ (s.setGen g .running).heap := X
 have hsz : g < s.gens.size := by by_cases q : g < s.gens.size; exact q; simp [q] at hgs
 have hrun : (s.setGen g .running).gens[g]? = some .running := by unfold Shared.setGen; simp [hsz]
 refine nZ hA.handled (B.nolimit.keeps fun b o e => X.sub _ _ (X.core _ _ e)) (by have := hA.depth; show A.depth < 1000; omega) hg hgs
  (wk A.in1 F (s.setGen g .running) ⟨hA.handled, by have := hA.depth; show A.depth + m ≤ 900; exact Nat.le_of_lt ‹_›, by have := hA.units; show A.units + 1 + 8 * m ≤ 9000; omega⟩ (X₁.inner low hn hl)) fun e s₁ hq z => ?_
 induction tr using List.casesOn with
 | nil =>
  obtain ⟨rfl, F', σ', Y, p, r⟩ := z
  refine ⟨rfl, fun h' hk => ?_⟩
  refine x13 (X₁.outer Y p) ?_; rintro o' _ X' p'
  have p'' := p'.fin hrun
  rw [show fin g (s.setGen g .running) = fin g s from Shared.set_set s g _ _] at p''
  exact ⟨rfl, F', σ'.objs, o', X'.grow hk, ⟨fun b y hb e => hk _ _ (p''.keep b y hb e), p''.own, p''.frz, p''.mono, p''.gens, p''.os⟩, r⟩
 | cons x tr =>
  refine x61 (z) ?_; clear z; rintro v g₀ l k c p₀ ⟨fs, F', σ', d, rfl, Y, p, y, nx⟩
  refine x13 (X₁.outer Y p) ?_; rintro o' hl' X' p'
  have p'' := p'.fin hrun
  rw [show fin g (s.setGen g .running) = fin g s from Shared.set_set s g _ _] at p''
  have h1 : s₁.gens[g]? = some .running := p'.gens.keep _ _ hrun
  have hsz₁ : g < s₁.gens.size := by by_cases q : g < s₁.gens.size; exact q; simp [q] at h1
  refine ⟨v, d, F', σ'.objs, o', (End.susp v g₀ l k c p₀ fs).genState, rfl, Y.hold (.head _), y, X', ?_, by unfold Shared.setGen; simp [hsz₁], ⟨⟨σ'.loc, hl', Y.names, fun A₂ F₂ s₂ hA₂ X₂ => nx A₂ F₂ s₂ hA₂ X₂⟩, low⟩⟩
  rw [show fin g (s₁.setGen g (End.susp v g₀ l k c p₀ fs).genState) = fin g s₁ from Shared.set_set s₁ g _ _]
  exact p''
end
end
section
noncomputable def lz (g : Nat) (o : Obj) : Prop := o.cls = .type "generator" ∧ (∃ nm qn, o.data = .fields #[.int g 0, nm, qn]) ∧ o.slots = #[]
theorem oQ (a : Array GenState) (x : GenState) : bV a ((a.push x).setIfInBounds a.size .finished) := by
 refine ⟨fun i y e => ?_, fun i y e => ?_⟩
 · have : i < a.size := by by_cases q : i < a.size; exact q; simp [q] at e
   rw [Array.getElem?_setIfInBounds, if_neg (by exact Nat.ne_of_gt ‹_›), Array.getElem?_push, if_neg (by exact Nat.ne_of_lt ‹_›)]; exact e
 · rw [Array.getElem?_setIfInBounds] at e
   by_cases q : a.size = i
   · subst q; simp at e; subst e; exact .inr rfl
   · rw [if_neg q, Array.getElem?_push, if_neg (fun z => q z.symm)] at e; exact .inl e
section
variable {B : ab} {n : Nat} {L : Addr} {H : HL} {loc : LL} {objs : OL}
theorem ll {F : Fz} {a : Addr} {g : Nat} {P : Params} {h : Heap} (x : Is P F (.ref a) (.obj (lz g))) (sub : ∀ b o, F b = some o → h.get? b = some o) : h.IsGen a g := by
 cases x with
 | obj e p => refine x03 (p) ?_; clear p; rintro p1 ⟨nm, qn, p2⟩ p3; exact ⟨_, nm, qn, sub _ _ e, p1, p2, p3⟩
theorem q9 {A : Around} {F : Fz} {s : Shared} {x C dx f : Addr} {fs : FL} {name qual : Str} {params : Arguments} {body : List Stmt} {scope : Scope} {dV kV doc pm cdv ct oc : Value} {an od : Option Addr} {osl : Array (Option Value)} {pself : Str} (hA : cA n A)
 (X : Holds B.P B.G L F H ⟨loc, objs⟩ s.heap) (mo : (x, AO.inst C dx fs) ∈ objs) (hi : findIn B.K (.ref C) "__iter__" = some (some (.ref f))) (hfn : isFn B.K (.ref f) = true)
 (ho : B.K.lookup f = some ⟨oc, od, .func (fnOf name qual params body scope dV kV doc pm an cdv ct), osl⟩) (hcd : codeIn B.K cdv qual = true) (hb : bm B (fnOf name qual params body scope dV kV doc pm an cdv ct) [pself] [.ref x] [.ref x])
 (hps : scope.names.lookup pself = some .local) (hco : autoParam (scope.isCoroutine = false) bR) (hgen : autoParam (scope.isGenerator = true) bR) (hk : autoParam (scope.kind = .function) bR) (hcell : ∀ x ∈ scope.names, x.2 ≠ .cell := by decide) :
 wpAny B.M A (pyIter (.ref x)) (fun r s' => ∃ a g Lg o F', r = .ref a ∧ Holds B.P B.G L F' H ⟨loc, frO Lg o :: objs⟩ s'.heap ∧ aM (L :: ad objs) F s (L :: ad (frO Lg o :: objs)) F' (fin g s') ∧ Is B.P F' (.ref a) (.obj (lz g)) ∧
  s'.gens[g]? = some (.fresh (.func body (envOf qual scope Lg f cdv))) ∧ (∃ mm, (∀ h : Heap, h.get? Lg = some o → h.Ns Lg mm) ∧ ∀ y d, (y, some d) ∈ [(pself, some (AV.ref x))] → ∃ v, mm y = some v ∧ Is B.P F' v d) ∧ B.G.objs.size ≤ Lg) (fun _ _ => False) s := by
 obtain ⟨h1, es, k, h2, h3⟩ := X.objs _ mo
 have I : InstAt s.heap x (instObj C dx) C (some (dictOf es k)) := ⟨h1, rfl, rfl, h2⟩
 have spec : Looks B.M s.heap (specialOf (.ref x) "__iter__") (some (.ref f)) := I.type.andThen (looks_findIn X.K hi)
 have bnd : Looks B.M s.heap (bindSpecial (.ref f) (.ref x)) (.ref f, [.ref x]) := bind_fn X.K _ (beq_iff_eq.mp hfn)
 unfold pyIter
 refine wpAny_bind (spec.here ?_)
 refine wpAny_bind ?_
 simp only [callSpecialIfBoundUnlessNone?, bindSpecialIfBound?]
 refine wpAny_holding (wpAny_bind (wpAny_bind (spec.here ?_)))
 refine wpAny_bind (wpAny_askSetting (wpAny_ite ?_))
 have nn : (Value.ref f == Value.none) = false := by rfl
 have fin_ : ∀ (Q : Option Value → Shared → Prop) (refuse : Sem Value), wpAny B.M A (call (.ref f) [.ref x]) (fun v => Q (some v)) (fun _ _ => False) s →
  wpAny B.M A (if (Value.ref f == Value.none) = true then (refuse >>= fun v => pure (some v)) else (call (.ref f) [.ref x] >>= fun v => pure (some v))) Q (fun _ _ => False) s := fun Q refuse w => by
  refine nn ▸ (if_neg Bool.false_ne_true) ▸ ?_
  exact wpAny_bind (wpAny_mono w (fun v s' z => wpAny_pure z) fun _ _ z => z)
 have main : wpAny B.M A (call (.ref f) [.ref x]) (fun v s' => ∃ a g Lg o F', v = .ref a ∧ Holds B.P B.G L F' H ⟨loc, frO Lg o :: objs⟩ s'.heap ∧ aM (L :: ad objs) F s (L :: ad (frO Lg o :: objs)) F' (fin g s') ∧ Is B.P F' (.ref a) (.obj (lz g)) ∧
  s'.gens[g]? = some (.fresh (.func body (envOf qual scope Lg f cdv))) ∧ (∃ mm, (∀ h : Heap, h.get? Lg = some o → h.Ns Lg mm) ∧ ∀ y d, (y, some d) ∈ [(pself, some (AV.ref x))] → ∃ v, mm y = some v ∧ Is B.P F' v d) ∧ B.G.objs.size ≤ Lg) (fun _ _ => False) s := by
  refine x12 (hb F s [.ref x] (.cons (.ref x) .nil) X.K X.core) ?_; rintro vals hv hbind
  obtain ⟨v1, q1, rfl⟩ : ∃ v1, Is B.P F v1 (.ref x) ∧ vals = [v1] := by obtain ⟨v1, rfl, q1⟩ := uK hv; exact ⟨_, q1, rfl⟩
  have hlim : s.heap.NoLimit := B.nolimit.keeps fun b o e => X.sub _ _ (X.core _ _ e)
  refine wpAny_call (codeAny_call_generator (body := body) (by have := hA.depth; show A.depth < 1000; omega) (X.K _ _ ho) rfl hco hgen rfl (codeRec_of X.K hcd) (hbind _ _ _ _ ?_))
  refine wpAny_newFunctionEnv hcell (fun y hy => by rcases List.mem_singleton.mp hy with rfl; exact hps) (fun h₁ hns₁ hsb₁ => ⟨hlim.fresh _ hsb₁, ?_⟩) hk
  have hC := bn s.heap
  have up : ∀ b o, s.heap.get? b = some o → h₁.get? b = some o := fun b o e => hsb₁.extBut b o (fun z => by rw [z, hC] at e; contradiction) (Heap.get?_push_of_some _ e)
  refine x32 (hns₁) ?_; clear hns₁; rintro oL es' ep l1 l2
  have T : am B L H ⟨loc, objs⟩ F s { s with heap := h₁ } (fun F' σ' => F' = F ∧ σ' = ⟨loc, frO s.heap.objs.size oL :: objs⟩) :=
   am.track (o := .is (· = oL)) X up (fun b hb => by refine (List.mem_singleton.mp hb) ▸ ?_; exact hC) (by simp [AO.more]) ⟨oL, l1, rfl⟩ rfl rfl ⟨rfl, rfl⟩
  obtain ⟨F₁, σ₁, X₁, p₁, rfl, rfl⟩ := T
  obtain ⟨go, hgo⟩ : ∃ go : Obj, go = { cls := .type "generator", data := .fields #[.int s.gens.size 0, .str name (s.toks + ([pself].zip [v1]).length), .str qual (s.toks + ([pself].zip [v1]).length + 1)] } := ⟨_, rfl⟩
  have pg : lz s.gens.size go := by subst hgo; exact ⟨rfl, ⟨_, _, rfl⟩, rfl⟩
  have hga : (h₁.push go).get? h₁.objs.size = some go := Heap.get?_push_size _ (by subst hgo; rfl)
  obtain ⟨X₂, le⟩ := X₁.frozen (h' := h₁.push go) (fun b o e => Heap.get?_push_of_some _ e) (bn h₁) hga
  refine ⟨h₁.objs.size, s.gens.size, s.heap.objs.size, oL, F₁.put h₁.objs.size go, rfl, ?_⟩
  refine ⟨by rw [hgo] at X₂ ⊢; exact X₂, ⟨fun b o hb e => Heap.get?_push_of_some _ (p₁.keep b o hb e), p₁.own, fun b o e => ?_, p₁.mono.trans le, oQ _ _, rfl⟩, .obj (Fz.put_self ..) pg, ?_, ⟨_, fun h e => ⟨oL, es', ep, e, l2⟩, fun y d hy => ?_⟩, X.big⟩
  · unfold Fz.put at e
    split at e
    · rename_i z
      refine .inr (.inr ?_)
      refine z ▸ ?_
      induction w : s.heap.get? h₁.objs.size using Option.casesOn with
      | none => rfl
      | some o => have := up _ _ w; rw [bn h₁] at this; contradiction
    · exact p₁.frz b o e
  · show (s.gens.push _)[s.gens.size]? = some _
    rw [Array.getElem?_push_size]; rfl
  · rcases List.mem_singleton.mp hy with e
    cases e
    exact ⟨v1, by simp, q1.mono le⟩
 split
 · refine wpAny_bind (bnd.here (wpAny_pure (fin_ _ _ (wpAny_mono main (fun v s' z => ?_) fun _ _ z => z))))
   refine x53 (z) ?_; clear z; rintro a g Lg o F' rfl X' r
   exact wpAny_bind (wpAny_specialOf (ll r.2.1 X'.sub).typeIs slot_gen_next.lookup (wpAny_pure ⟨a, g, Lg, o, F', rfl, X', r⟩))
 · refine wpAny_tryCatch (wpAny_bind (bnd.here (wpAny_pure (fin_ _ _ (wpAny_mono main (fun v s' z => ?_) fun _ _ z => z.elim)))))
   refine x53 (z) ?_; clear z; rintro a g Lg o F' rfl X' r
   exact wpAny_bind (wpAny_specialOf (ll r.2.1 X'.sub).typeIs slot_gen_next.lookup (wpAny_pure ⟨a, g, Lg, o, F', rfl, X', r⟩))
end
end
section
section
variable {γ : Type} {B : ab} {m n : Nat} {L : Addr} {YJ : γ → AV → OL → Prop} {RJ : OL → Prop} {tr : List γ} {H : HL} {env : Env} {own : OL} {fi : γ → AV}
end
end
section
section
variable {γ : Type} {B : ab} {m n : Nat} {L : Addr} {YJ : γ → AV → OL → Prop} {RJ : OL → Prop} {tr : List γ} {H : HL} {env : Env} {σ : St}
noncomputable def eS (B : ab) (n m : Nat) (x : Addr) (gobjs : OL) (YJ : γ → AV → OL → Prop) (RJ : OL → Prop) (tr : List γ) : Prop :=
 ∀ A F s L H loc own, cA n A → Holds B.P B.G L F H ⟨loc, gobjs ++ own⟩ s.heap → wpAny B.M A (pyIter (.ref x)) (fun r s' => ∃ a g Lg o F' gs, r = .ref a ∧ Holds B.P B.G L F' H ⟨loc, frO Lg o :: (gobjs ++ own)⟩ s'.heap ∧
  aM (L :: ad (gobjs ++ own)) F s (L :: ad (frO Lg o :: (gobjs ++ own))) F' (fin g s') ∧ Is B.P F' (.ref a) (.obj (lz g)) ∧ s'.gens[g]? = some gs ∧ lO B m Lg YJ RJ tr o gobjs F' gs) (fun _ _ => False) s
theorem eS.of {x C dx f : Addr} {fs : FL} {gobjs : OL} {name qual : Str} {params : Arguments} {body body' : List Stmt} {scope scope' : Scope} {dV kV doc pm cdv ct oc : Value} {an od : Option Addr} {osl : Array (Option Value)} {pself : Str}
 (ho : B.K.lookup f = some ⟨oc, od, .func (fnOf name qual params body scope dV kV doc pm an cdv ct), osl⟩) (mo : (x, AO.inst C dx fs) ∈ gobjs) (hi : findIn B.K (.ref C) "__iter__" = some (some (.ref f))) (hfn : isFn B.K (.ref f) = true)
 (hcd : codeIn B.K cdv qual = true) (hb : bm B (fnOf name qual params body scope dV kV doc pm an cdv ct) [pself] [.ref x] [.ref x])
 (hw : ∀ Lg, GW B m Lg YJ RJ (.func body' (envOf qual scope' Lg f cdv)) [] (B.M.den (.func body' (envOf qual scope' Lg f cdv))) tr ⟨[(pself, some (.ref x))], gobjs⟩)
 (eb : body = body' := by (conv => lhs; whnf)) (es : scope = scope' := by (conv => lhs; whnf))
 (hps : autoParam (scope'.names.lookup pself = some .local) bR) (hco : autoParam (scope'.isCoroutine = false) bR) (hgen : autoParam (scope'.isGenerator = true) bR) (hk : autoParam (scope'.kind = .function) bR) (hcell : ∀ x ∈ scope'.names, x.2 ≠ .cell := by decide) : eS B n m x gobjs YJ RJ tr := fun A F s L H loc own hA X => by
 subst eb es
 refine wpAny_mono (q9 hA X (List.mem_append_left _ mo) hi hfn ho hcd hb hps hco hgen hk hcell) (fun r s' z => ?_) fun _ _ z => z
 refine x54 (z) ?_; clear z; rintro a g Lg o F' rfl X' p ⟨ga, hg, hl, low⟩
 exact ⟨a, g, Lg, o, F', _, rfl, X', p, ga, hg, ⟨⟨_, hl, by simp, fun A₂ F₂ s₂ hA₂ X₂ => (hw Lg).run A₂ F₂ s₂ hA₂ X₂⟩, low⟩⟩
end
end
section
noncomputable def dj (ns : List Int) (o : Obj) : Prop := o.cls = .type "list" ∧ ∃ vs n, o.data = .seq vs.toArray n ∧ IntsAre vs ns
theorem oY {P : Params} {F : Fz} {vs : List Value} {ns : List Int} (h : IntsAre vs ns) : IsAll P F vs (ns.map .int) := by
 induction h with
 | nil => exact .nil
 | cons n t _ ih => exact .cons (.int n t) ih
section
variable {B : ab} {n : Nat} {L : Addr} {H : HL} {σ : St} {env : Env}
theorem kn {value hi : Expr} {p pos} {Φ : PV}
 (h : WV B n L (eval value env) H σ fun o d σ₁ => WV B n L (eval hi env) ((o, d) :: H) σ₁ fun _ du σ₂ => ∃ ns j, d = .obj (dj ns) ∧ du = .int j ∧ 0 ≤ j ∧ ns.length ≤ 16777216 ∧ ∀ v, Φ v (.lst ((ns.take j.toNat).map .int)) σ₂)
 (hs : ∀ o i, ∃ ops, subscripted (.Slice none (some hi) none p) false o i = operate ops (getItem o i) := by intro _ _; exact ⟨_, rfl⟩) (ht : ∀ l r, letTemporaryGo value (.ref l) r = pure () := by intro _ _; with_unfolding_all rfl) :
 WV B n L (eval (.Subscript value (.Slice none (some hi) none p) pos) env) H σ Φ := iS fun A F s Q hA X fq => by
 rw [eval_Subscript]
 refine wpAny_bind (h.then hA X fun o s₁ F₁ σ₁ x₁ p₁ z => x12 z fun d hd w₁ => ?_)
 refine wpAny_bind (wpAny_holding (wpAny_Slice (wpAny_pure (w₁.then hA (x₁.push hd) fun u s₃ F₃ σ₃ x₃ p₃ z => ?_))))
 refine x12 z ?_; clear z; rintro du hdu z; refine x25 z ?_; clear z; rintro ns j rfl rfl hj hz q
 refine wpAny_pure (wpAny_bind (wpAny_standAt ?_))
 obtain ⟨tj, rfl⟩ := au hdu
 obtain ⟨l, o', rfl, e1, e2, vs, m, e3, e4⟩ : ∃ l o', o = .ref l ∧ F₃ l = some o' ∧ o'.cls = .type "list" ∧ ∃ vs n, o'.data = .seq vs.toArray n ∧ IntsAre vs ns := by
  exact mj (x₃.hold (.head _))
 have hl : s₃.heap.IsList l vs.toArray := ⟨o', x₃.sub _ _ e1, e2, m, e3⟩
 obtain ⟨ops, hs⟩ := hs (.ref l) (.ref s₃.heap.objs.size)
 refine subscriptTail_ops (Heap.IsList.typeIs (s := { s₃ with heap := s₃.heap.push { cls := .type "slice", data := .fields #[.none, .int j tj, .none] } }) (hl.push _)) list_getitem_lookup
  (wpAny_getItem_list_slice (lo := none) (hi := some j) (st := none) (hl.push _) (Heap.IsSliceOf.new ..) .none (.int j tj) .none (by simp) ?_ (by rw [aV, List.size_toArray, e4.length]; exact hz)) hs (ht l)
 have i4 := slice_ints_uptoW e4 hj
 have e : ({ cls := .type "list", data := .seq (slicePick vs.toArray none (some j) none) } : Obj) = bE (slicePick vs.toArray none (some j) none).toList 0 := by simp [bE]
 rw [e]
 have x₃' := x₃.weaken (H' := H) fun p hp => .tail _ hp
 have hn : s₃.heap.get? (s₃.heap.push { cls := .type "slice", data := .fields #[.none, .int j tj, .none] }).objs.size = none := by
  induction w : s₃.heap.get? (s₃.heap.push { cls := .type "slice", data := .fields #[.none, .int j tj, .none] }).objs.size using Option.casesOn with
  | none => rfl
  | some y => have := Heap.lt_size w; rw [Heap.size_push] at this; exact absurd this (Nat.not_lt.mpr (Nat.le_succ _))
 obtain ⟨F₄, σ₄, x₄, p₄, hF, rfl⟩ := am.fresh (B := B) (L := L) (H := H) (σ := σ₃) (F := F₃) (s := s₃) (s' := { s₃ with heap := (s₃.heap.push { cls := .type "slice", data := .fields #[.none, .int j tj, .none] }).push (bE (slicePick vs.toArray none (some j) none).toList 0) })
  (Ψ := fun F' σ' => F' = F₃.put (s₃.heap.push { cls := .type "slice", data := .fields #[.none, .int j tj, .none] }).objs.size (bE (slicePick vs.toArray none (some j) none).toList 0) ∧ σ' = σ₃) x₃' (fun b o e => Heap.get?_push_of_some _ (Heap.get?_push_of_some _ e)) hn (Heap.get?_push_size _ rfl) rfl rfl fun le => ⟨rfl, rfl⟩
 subst hF
 exact fq _ _ ⟨_, σ₄, x₄, p₁.trans (p₃.trans p₄), _, .lst (Fz.put_self ..) (oY i4), q _⟩
end
end
section
theorem tT {prog : Program} {w : World} {K : Frag} {s₁ : Shared} {mg mb : Str → Option Value} {x : Str} {fa fl l : Addr} {vs : List Value} {ns : List Int} {n : Nat} {Q : Result → Shared → Prop}
 (KX : K.In s₁.heap) (hmg : mg x = some (.ref fa)) (g : s₁.heap.Ns mainGlobals mg) (b : s₁.heap.Ns builtinsNs mb) (hb : ∀ x, x ≠ ("__name__" : Str) → mb x = bootBuiltins x) (nl : s₁.heap.NoLimit) (e : nsIn K mainGlobals x = some (some (.ref fl)))
 (hL : s₁.heap.IsList l vs.toArray) (hI : IntsAre vs ns) (hg : s₁.gens = #[]) (hn : n ≤ 500)
 (c : ∀ B : ab, B.prog = prog → B.w = w → B.K = K → aa B n fl [.obj (dj ns)] [] fun d _ => d = .bool true)
 (hQ : ∀ s', (∀ b o, s₁.heap.get? b = some o → s'.heap.get? b = some o) → s'.os = s₁.os → AllBare s'.gens → Q (.ok (.ret (.bool true))) s') :
 codeAny (model prog w) callerA (.call (.ref fa) ⟨[.ref l], []⟩) Q s₁ := by
 have ef := mg_of KX g e
 rw [hmg] at ef
 cases ef
 let B : ab := ⟨prog, w, s₁.heap, K, KX, ⟨mg, g⟩, ⟨mb, b, hb⟩, nl⟩
 refine x13 (hL) ?_; clear hL; rintro o ho hc ⟨m, hd⟩
 have hA : cA n callerA := by
  refine ⟨rfl, ?_, ?_⟩
  · have : callerA.depth = 301 := by decide +kernel
    rw [this]; omega
  · show 4 + 8 * n ≤ 9000; omega
 refine codeAny_mono (c B rfl rfl rfl callerA (s₁.heap.get? ·) s₁ [.ref l] hA ⟨fun _ _ e => e, fun _ _ e => e, (fun p hp => nomatch hp), List.nodup_nil, (fun b hb => nomatch hb), Nat.le_refl _⟩ (.cons (.obj ho ⟨hc, vs, m, hd, hI⟩) .nil)) fun r s' z => ?_
 obtain ⟨v, d, objs', F', rfl, hv, x, p, rfl⟩ := z
 have : v = .bool true := by cases hv; rfl
 subst this
 refine hQ s' (fun b o e => p.keep b o (fun h => nomatch h) e) p.os fun y hy => ?_
 obtain ⟨i, hi, e⟩ := Array.getElem_of_mem hy
 rcases p.gens.bare i y (by rw [Array.getElem?_eq_getElem hi, e]) with z | z
 · rw [hg] at z; simp at z
 · exact z
end
section
section
variable {B : ab} {n : Nat} {L : Addr} {H : HL} {σ : St} {env : Env}
end
end
section
variable {A : Around} {s : Shared} {l b : Addr}
noncomputable def EqH (prog : Program) (w : World) (A : Around) (s : Shared) (v y : Value) : Prop := ∀ (E : Value → Shared → Prop) (Q : Bool → Shared → Prop), Q true s → wpAny (model prog w) A (eqBool v y) Q E s
section
variable {prog : Program} {w : World}
theorem EqH.of {v y : Value} (h : SeqAt.EqAt A s v y true) : EqH prog w A s v y := fun E Q q => h prog w E Q q
theorem EqH.refs (h : ∀ (E : Value → Shared → Prop) (Q : Value → Shared → Prop), Q (.bool true) s → wpAny (model prog w) A (richCompare .Eq (.ref l) (.ref b)) Q E s) : EqH prog w A s (.ref l) (.ref b) := fun E Q q => by
 by_cases e : l = b
 · subst e; exact SeqAt.EqAt.same _ prog w E Q q
 · unfold eqBool
   refine wpAny_holding ?_
   refine wpAny_ite_split (fun hab => absurd (by have := eq_of_beq hab; injection this) e) (fun _ => ?_)
   exact wpAny_bind (h E _ (wpAny_truthy_bool q))
theorem sA {items items2 : Array Value} {n n2 : Nat} {dd dd2 : Option Addr} {sl sl2 : Array (Option Value)} (hsz : items.size = items2.size) (k : Nat) :
 ∀ i : Nat, items.size - i = k → ∀ (A : Around) (R : Result → Shared → Prop) (s : Shared), s.heap.get? l = some { cls := .type "list", dict := dd, data := .seq items n, slots := sl } → s.heap.get? b = some { cls := .type "list", dict := dd2, data := .seq items2 n2, slots := sl2 } →
  (∀ j (h1 : j < items.size) (h2 : j < items2.size), EqH prog w A.in1 s items[j] items2[j]) → R (.ok (.ret (.bool true))) s →
  wpAny (model prog w) A.in1 (Builtin.«list.__eq__.loop» ⟨[.ref l, .ref b, rawInt i, rawInt 2], []⟩) (fun fin s' => match fin with | .done f => R (.ok f) s' | .again c' => c'.quiet = true ∧ codeAny (model prog w) A c' R s') (fun e s' => R (.error e) s') s := by
 induction k with
 | zero =>
  intro i hk A R s hl hb he h
  obtain ⟨hp, g, d, tk, os⟩ := s
  wp_walk using AutoSeq1.wpAny_loadPart' hl, AutoSeq1.wpAny_loadPart' hb
  have hi1 : items[((i : Nat) : Int).toNat]? = none := by simp; omega
  have hi2 : items2[((i : Nat) : Int).toNat]? = none := by simp; omega
  rw [hi1, hi2]
  wp_walk using AutoSeq1.wpAny_loadPart' hl, AutoSeq1.wpAny_loadPart' hb
  show R (.ok (.ret (.bool (items.size == items2.size)))) _
  rw [hsz]
  simpa using h
 | succ k ih =>
  intro i hk A R s hl hb he h
  obtain ⟨hp, g, d, tk, os⟩ := s
  wp_walk using AutoSeq1.wpAny_loadPart' hl, AutoSeq1.wpAny_loadPart' hb
  have hlt : i < items.size := by omega
  have hlt2 : i < items2.size := by omega
  have hi1 : items[((i : Nat) : Int).toNat]? = some items[i] := by simp [hlt]
  have hi2 : items2[((i : Nat) : Int).toNat]? = some items2[i] := by simp [hlt2]
  have hc : ((i : Int) + 1) = ((i + 1 : Nat) : Int) := by push_cast; rfl
  rw [hi1, hi2]
  refine wpAny_bind (he i hlt hlt2 _ _ ?_)
  wp_walk
  rw [hc]
  exact ⟨plainId_quiet MeetsSeq3.plain_eq_loop _, codeAny_builtin MeetsSeq3.entry_eq_loop (by
   rw [Around.under_plainId MeetsSeq3.plain_eq_loop _]
   exact ih (i + 1) (by omega) A R _ hl hb he h)⟩
theorem kI {E : Value → Shared → Prop} {items items2 : Array Value} {Q : Value → Shared → Prop} (hl : s.heap.IsList l items) (hb : s.heap.IsList b items2) (hsz : items.size = items2.size) (hu : A.units < cLine)
 (he : ∀ j (h1 : j < items.size) (h2 : j < items2.size), EqH prog w A.in1 s items[j] items2[j]) (h : Q (.bool true) s) : wpAny (model prog w) A (richCompare .Eq (.ref l) (.ref b)) Q E s := by
 refine x13 (id hl) ?_; rintro ⟨cls, dd, data, sl⟩ ho hc ⟨n, hd⟩
 refine x13 (id hb) ?_; rintro ⟨cls2, dd2, data2, sl2⟩ ho2 hc2 ⟨n2, hd2⟩
 simp only at hc hd hc2 hd2
 subst hc hd hc2 hd2
 have f3 := AutoSeq1.sub_list_list
 have hne : ¬ (items.size != items2.size) = true := by simp [hsz]
 have hT : s.TypeIs (.ref l) "list" := ⟨_, ho, rfl⟩
 refine wpAny_richCompare_same_room (op := .Eq) hT ⟨_, ho2, rfl⟩ F.slot_list_eq (wpAny_call (codeAny_call_builtin F.slot_list_eq.plain F.entry_list_eq (F.slot_list_eq.check _ _ _ _ _ _ _ _ hT (F.args_list_eq_2 _ _) ?_))) hu
 obtain ⟨hp, g, d, tk, os⟩ := s
 wp_walk using AutoSeq1.wpAny_loadPart' ho, AutoSeq1.wpAny_loadPart' ho2
 exact ⟨plainId_quiet MeetsSeq3.plain_eq_loop _, codeAny_builtin MeetsSeq3.entry_eq_loop (by
  rw [Around.under_plainId MeetsSeq3.plain_eq_loop _]
  exact sA hsz _ 0 rfl A (wants (fun v s' => v ≠ .notImplemented ∧ Q v s') E) _ ho ho2 he ⟨(fun x => nomatch x), h⟩)⟩
end
end
section
noncomputable def vt : AV → Bool
 | .none => true | .bool _ => true | .int _ => true | .str _ => true | _ => false
theorem rK {P : Params} {F : Fz} {A : Around} {s : Shared} {v y : Value} {d : AV} (h : Is P F v d) (k : Is P F y d) (f : vt d = true) : SeqAt.EqAt A s v y true := by
 cases h with
 | none => cases k; exact SeqAt.EqAt.same _
 | bool b => cases k; exact SeqAt.EqAt.same _
 | int i t =>
  cases k with | int _ u =>
  have := SeqAt.EqAt.int_int (A := A) (s := s) i t i u
  rw [beq_self_eq_true] at this; exact this
 | str l t =>
  cases k with | str _ u =>
  have := SeqAt.EqAt.str_str (A := A) (s := s) (S l) t (S l) u
  rw [beq_self_eq_true] at this; exact this
 | lit v => exact Bool.noConfusion f
 | ref a => exact Bool.noConfusion f
 | tup _ _ => exact Bool.noConfusion f
 | lst _ _ => exact Bool.noConfusion f
 | dct _ _ _ _ => exact Bool.noConfusion f
 | meth _ => exact Bool.noConfusion f
 | obj _ _ => exact Bool.noConfusion f
 | any v => exact Bool.noConfusion f
theorem lC {l : FL} (nd : (l.map (·.1)).Nodup) {p : Str × AV} (hp : p ∈ l) : bp p.1 l = some p.2 := by
 induction l with
 | nil => contradiction
 | cons q r ih =>
  rw [List.map_cons, List.nodup_cons] at nd
  unfold bp
  rw [List.find?_cons]
  rcases mC0 hp with rfl | hp
  · simp
  · have : (q.1 == p.1) = false := beq_eq_false_iff_ne.mpr fun e => nd.1 (e ▸ List.mem_map_of_mem hp)
    exact (this) ▸ (ih nd.2 hp)
section
variable {prog : Program} {w : World} {F : Fz} {A : Around} {s : Shared}
end
section
variable {B : ab} {n : Nat} {L : Addr} {H : HL} {σ : St} {env : Env}
end
end
section
section
variable {γ : Type} {B : ab} {m n : Nat} {L : Addr} {H : HL} {env : Env} {σ : St}
theorem ro {a b : Value} {i j k l : Int} {Φ : PV} (ma : (a, .tup [.int i, .int j]) ∈ H) (mb : (b, .tup [.int k, .int l]) ∈ H) (h : ∀ v, Φ v (.bool (i == k && j == l)) σ) : WV B n L (compareOp .Eq a b) H σ Φ :=
 pV ma mb rfl rfl (by simp [SeqAt.shaped, PyData.canLay0, PyData.canLayAll0, PyData.depth, PyData.depthAll]) (by simp [SeqAt.shaped, PyData.canLay0, PyData.canLayAll0, PyData.depth, PyData.depthAll]) (by simp [PyData.eqv, PyData.eqvAll]) h
end
end
section
section
variable {prog : Program} {w : World}
theorem nH {A : Around} {E : Value → Shared → Prop} {s : Shared} {l b : Addr} {items items2 : Array Value} {Q : Value → Shared → Prop} (hl : s.heap.IsTuple l items) (hb : s.heap.IsTuple b items2) (hsz : items.size = items2.size) (hu : A.units < cLine)
 (he : ∀ j (h1 : j < items.size) (h2 : j < items2.size), EqH prog w A.in1 s items[j] items2[j]) (h : Q (.bool true) s) : wpAny (model prog w) A (richCompare .Eq (.ref l) (.ref b)) Q E s := by
 refine x13 (id hl) ?_; rintro ⟨cls, dd, data, sl⟩ ho hc ⟨n, hd⟩
 refine x13 (id hb) ?_; rintro ⟨cls2, dd2, data2, sl2⟩ ho2 hc2 ⟨n2, hd2⟩
 simp only at hc hd hc2 hd2
 subst hc hd hc2 hd2
 have f2 := AutoSeq1.sub_tuple_tuple
 have hT : s.TypeIs (.ref l) "tuple" := ⟨_, ho, rfl⟩
 refine wpAny_richCompare_same_room (op := .Eq) hT ⟨_, ho2, rfl⟩ F.slot_tuple_eq (wpAny_call (codeAny_call_builtin F.slot_tuple_eq.plain F.entry_tuple_eq (F.slot_tuple_eq.check _ _ _ _ _ _ _ _ hT (F.args_tuple_eq_2 _ _) ?_))) hu
 obtain ⟨hp, g, d, tk, os⟩ := s
 have hZ : (items.toList.zip items2.toList).length = min items.size items2.size := by simp
 have main : wpAny (model prog w) A.in1 (Builtin.«tuple.__eq__» ⟨[.ref l, .ref b], []⟩) (fun fin s' => ∃ v, fin = .done (.ret v) ∧ (v ≠ .notImplemented ∧ Q v s')) (fun e s' => E e s') ⟨hp, g, d, tk, os⟩ := by
  wp_walk using AutoSeq1.wpAny_loadPart' ho, AutoSeq1.wpAny_loadPart' ho2, wpAny_forIn_list _ (fun rest b s' => b.1 = none ∧ s' = ⟨hp, g, d, tk, os⟩ ∧ ∃ i, rest = (items.toList.zip items2.toList).drop i) _
  case turn =>
   rintro ⟨y, x⟩ rest b s' ⟨hb', rfl, i, hz⟩
   have hlt : i < (items.toList.zip items2.toList).length := by
    rcases Nat.lt_or_ge i (items.toList.zip items2.toList).length with h' | h'
    · exact h'
    · rw [List.drop_of_length_le h'] at hz; contradiction
   have hm : i < min items.size items2.size := hZ ▸ hlt
   have h1 : i < items.size := nL0 hm (Nat.min_le_left _ _)
   have h2 : i < items2.size := nL0 hm (Nat.min_le_right _ _)
   rw [List.drop_eq_getElem_cons hlt] at hz
   injection hz with hyx hrest
   have hy : y = items[i] := by have := congrArg Prod.fst hyx; simpa using this
   have hx : x = items2[i] := by have := congrArg Prod.snd hyx; simpa using this
   subst hy hx
   refine wpAny_bind (he i h1 h2 _ _ ?_)
   wp_walk
   exact ⟨rfl, rfl, i + 1, hrest⟩
  case fin =>
   rintro ⟨b1, b2⟩ s' ⟨hb', rfl, i, hz⟩
   simp only at hb'
   subst hb'
   wp_walk
   refine ⟨_, rfl, ?_⟩
   have : Builtin.Tuple.tupleCompareSizes .Eq items.size items2.size = .bool true := by rw [hsz]; simp [Builtin.Tuple.tupleCompareSizes]
   first
    | (exact (this) ▸ (⟨(fun x => nomatch x), h⟩))
    | (simp only [hsz, Builtin.Tuple.tupleCompareSizes, beq_self_eq_true]; exact ⟨(fun x => nomatch x), h⟩)
  case h =>
   exact ⟨rfl, rfl, 0, rfl⟩
 refine wpAny_mono main (fun fin s' z => ?_) fun _ _ z => z
 refine x12 (z) ?_; clear z; rintro v rfl q
 exact q
end
end
section
section
variable {prog : Program} {w : World} {A : Around} {E : Value → Shared → Prop} {s : Shared}
inductive ew (prog : Program) (w : World) (A : Around) (s : Shared) (kb : List (Str × Value)) : List (Str × Value) → Prop
 | nil : ew prog w A s kb []
 | cons {k : Str} {v y : Value} {r : List (Str × Value)} : valueAt kb k = some y → EqH prog w A s v y → ew prog w A s kb r → ew prog w A s kb ((k, v) :: r)
theorem kU {nm : String} {a b : Addr} {ka kb : List (Str × Value)} {Q : Bool → Shared → Prop} (ha : (a == sysModules) = false) (hb : (b == sysModules) = false)
 (da : s.heap.DictOf (strKind prog w) a ka) (db : s.heap.DictOf (strKind prog w) b kb) (hlen : ka.length = kb.length) (hits : ew prog w A s kb ka) (h : Q true s) :
 wpAny (model prog w) A (Builtin.Dict.samePairs nm a b) Q E s := by
 refine x36 (da) ?_; clear da; rintro oa es ep hoa _ hda hka hpa _
 refine x36 (db) ?_; clear db; rintro ob es' ep' hob _ hdb hkb hpb _
 have hla : ka.length = es.size := by rw [← hpa.length]; exact Array.length_toList
 have hlb : kb.length = es'.size := by rw [← hpb.length]; exact Array.length_toList
 have hsz : es.size = es'.size := by omega
 have hfind : ∀ k, findBy (strKind prog w).is es' k = valueAt kb k := fun k => by
  rw [← hpb.find k]
  clear hlb hpb hkb hdb hob hsz
  obtain ⟨l⟩ := es'
  simp [findBy]
 unfold Builtin.Dict.samePairs Builtin.Dict.showsAll
 rw [if_neg (show ¬ (a == sysModules) = true by rw [ha]; exact Bool.false_ne_true), if_neg (show ¬ (b == sysModules) = true by rw [hb]; exact Bool.false_ne_true)]
 refine wpAny_bind (wpAny_pure (wpAny_bind (wpAny_pure ?_)))
 refine wpAny_bind (wpAny_dictEntries hoa hda ?_)
 dsimp only
 refine wpAny_bind (wpAny_dictEntries hob hdb ?_)
 rw [if_neg (by rw [hsz]; simp)]
 refine wpAny_bind (wpAny_dictEpoch hoa hda ?_)
 refine wpAny_bind ?_
 rw [Std.Legacy.Range.forIn_eq_forIn_range']
 simp only [Std.Legacy.Range.size, Nat.sub_zero, Nat.add_sub_cancel, Nat.div_one]
 refine wpAny_forIn_list _ (fun rest q s' => s' = s ∧ q = (none, ()) ∧ ∃ i, rest = List.range' i (es.size - i) ∧ i ≤ es.size ∧ ew prog w A s kb (ka.drop i)) _ ?_ ?_ _ _ ⟨rfl, rfl, 0, by rfl, Nat.zero_le _, hits⟩
 · intro x rest q s' z9; refine x03 z9 ?_; clear z9; rintro rfl rfl ⟨i, hr, hi, hpre⟩
   have hlt : i < es.size := by
    rcases Nat.lt_or_ge i es.size with h | h
    · exact h
    · rw [Nat.sub_eq_zero_of_le h] at hr; simp at hr
   obtain ⟨rfl, hrest⟩ : x = i ∧ rest = List.range' (i + 1) (es.size - (i + 1)) := by
    have e : es.size - i = (es.size - (i + 1)) + 1 := by omega
    rw [e, List.range'_succ] at hr
    injection hr with h1 h2
    exact ⟨h1, h2⟩
   refine wpAny_bind (wpAny_dictEntries hoa hda ?_)
   rw [Array.getElem?_eq_getElem hlt]
   have hlt' : x < ka.length := by rw [hla]; exact hlt
   refine x21 (show ∃ k v, ka[x] = (k, v) from ⟨_, _, rfl⟩) ?_; rintro k v hkv
   have hdrop : ka.drop x = (k, v) :: ka.drop (x + 1) := by rw [← hkv]; exact List.drop_eq_getElem_cons hlt'
   obtain ⟨hkey, hval⟩ := hpa.get? (i := x) (e := es[x]) (k := k) (v := v) (by rw [Array.getElem?_toList]; exact Array.getElem?_eq_getElem hlt) (by rw [List.getElem?_eq_getElem hlt', hkv])
   refine x12 (hka es[x] (Array.getElem_mem hlt)) ?_; rintro k' hk' hh
   have ekk : k' = k := (strKind prog w).inj _ _ _ hk' hkey
   rw [ekk] at hh
   rw [hdrop] at hpre
   show wpAny _ _ (holding [es[x].key, es[x].val] _ >>= _) _ _ _
   rw [hh]
   refine wpAny_bind (wpAny_holding (wpAny_bind (wpAny_dictFind_of hkey hob hdb hkb ?_)))
   cases hpre with
   | @cons _ _ y _ hy he hrr =>
   induction hj : es'.findIdx? fun e => (strKind prog w).is k e.key using Option.casesOn with
   | none =>
    have hn : valueAt kb k = none := by rw [← hfind k, findBy_of_findIdx?, hj]
    rw [hn] at hy; exact nomatch hy
   | some j =>
    refine x12 (Array.findIdx?_eq_some_iff_getElem.mp hj) ?_; rintro hjlt _ _
    have hv' : valueAt kb k = some es'[j].val := by
     rw [← hfind k, findBy_of_findIdx?, hj]
     simp [Array.getElem?_eq_getElem hjlt]
    refine wpAny_bind (wpAny_dictEntries hob hdb ?_)
    rw [Array.getElem?_eq_getElem hjlt]
    have ey : es'[j].val = y := Option.some.inj (hv'.symm.trans hy)
    rw [← ey, ← hval] at he
    refine wpAny_holding (he _ _ ?_)
    show wpAny _ _ (if (!true) = true then _ else _) _ _ _
    rw [if_neg (by decide)]
    refine wpAny_bind (wpAny_dictEpoch hoa hda ?_)
    rw [if_neg (by simp)]
    exact wpAny_pure ⟨rfl, rfl, x + 1, hrest, hlt, hrr⟩
 · intro q s' z9; refine x03 z9 ?_; clear z9; rintro rfl rfl ⟨i, hr, hi, hpre⟩
   refine wpAny_pure ?_
   exact h
theorem pG {a b : Addr} {ka kb : List (Str × Value)} {Q : Value → Shared → Prop} (ha : (a == sysModules) = false) (hb : (b == sysModules) = false)
 (da : s.heap.DictOf (strKind prog w) a ka) (db : s.heap.DictOf (strKind prog w) b kb) (hu : A.units < cLine) (hlen : ka.length = kb.length) (hits : ew prog w A.in1 s kb ka) (h : Q (.bool true) s) :
 wpAny (model prog w) A (richCompare .Eq (.ref a) (.ref b)) Q E s := by
 refine wpAny_richCompare_same_room (op := .Eq) da.typeIs db.typeIs PySem.F.slot_dict_eq (wpAny_call_entry PySem.F.slot_dict_eq da.typeIs PySem.F.entry_dict_eq ?_ (PySem.F.args_dict_eq_2 _ _)) hu
 refine wpAny_bind ?_
 unfold Builtin.Dict.dictSlotArgs
 refine wpAny_bind (wpAny_notOrdered_dict da.typeIs ?_)
 refine wpAny_pure ?_
 refine wpAny_bind (wpAny_isInstance (T := "dict") db.typeIs PySem.F.sub_dict_dict ?_)
 simp only [Bool.not_true, Bool.false_eq_true, if_false]
 refine wpAny_bind (wpAny_pure (wpAny_bind (wpAny_pure ?_)))
 refine wpAny_bind (kU ha hb da db hlen hits ?_)
 refine wpAny_pure ⟨_, rfl, ?_, ?_⟩
 · exact fun x => nomatch x
 · simpa using h
end
inductive cG : Nat → AV → Prop
 | none {n} : cG n .none
 | bool {n b} : cG n (.bool b)
 | int {n i} : cG n (.int i)
 | str {n l} : cG n (.str l)
 | tup {n l} : (∀ d ∈ l, cG n d) → cG (n + 1) (.tup l)
 | lst {n l} : (∀ d ∈ l, cG n d) → cG (n + 1) (.lst l)
 | dct {n l} : (∀ p ∈ l, cG n p.2) → cG (n + 1) (.dct l)
section
variable {prog : Program} {w : World} {F : Fz} {s : Shared}
theorem IsAll.get {P : Params} {vs : List Value} {l : List AV} (h : IsAll P F vs l) {j : Nat} (hj : j < l.length) (h1 : j < vs.length) : Is P F vs[j] l[j] := by
 refine x12 (f0.nth h (k := j) (d := l[j]) (by simp [hj])) ?_; rintro v e q
 have : vs[j] = v := by rw [List.getElem?_eq_getElem h1] at e; exact Option.some.inj e
 exact (this) ▸ (q)
theorem sF (sub : ∀ b o, F b = some o → s.heap.get? b = some o) : ∀ (n : Nat) {d : AV}, cG n d → ∀ {A : Around} {v y : Value}, Is w.params F v d → Is w.params F y d → A.units + 2 * n < cLine → EqH prog w A s v y := by
 have leaf : ∀ {d : AV} {A : Around} {v y : Value}, vt d = true → Is w.params F v d → Is w.params F y d → EqH prog w A s v y := fun f h k => EqH.of (rK h k f)
 intro n
 induction n with
 | zero =>
  intro d hf A v y h k hu
  cases hf with
  | none => exact leaf rfl h k
  | bool => exact leaf rfl h k
  | int => exact leaf rfl h k
  | str => exact leaf rfl h k
 | succ n ih =>
  intro d hf A v y h k hu
  cases hf with
  | none => exact leaf rfl h k
  | bool => exact leaf rfl h k
  | int => exact leaf rfl h k
  | str => exact leaf rfl h k
  | @tup _ l f =>
   refine x33 (cf h) ?_; rintro a vs m rfl h1 h2
   refine x33 (cf k) ?_; rintro b us m' rfl k1 k2
   have e1 := h2.length
   have e2 := k2.length
   refine EqH.refs fun E Q q => nH (items := vs.toArray) (items2 := us.toArray) ⟨_, sub _ _ h1, rfl, m, rfl⟩ ⟨_, sub _ _ k1, rfl, m', rfl⟩ (by simp; omega) (by omega) (fun j j1 j2 => ?_) q
   have hj : j < l.length := by simp at j1; omega
   have g1 := h2.get hj (by simpa using j1)
   have g2 := k2.get hj (by simpa using j2)
   simp only [List.getElem_toArray]
   exact ih (f _ (List.getElem_mem hj)) g1 g2 (by show A.units + 1 + 2 * n < cLine; omega)
  | @lst _ l f =>
   refine x33 (dh h) ?_; rintro a vs m rfl h1 h2
   refine x33 (dh k) ?_; rintro b us m' rfl k1 k2
   have e1 := h2.length
   have e2 := k2.length
   refine EqH.refs fun E Q q => kI (items := vs.toArray) (items2 := us.toArray) ⟨_, sub _ _ h1, rfl, m, rfl⟩ ⟨_, sub _ _ k1, rfl, m', rfl⟩ (by simp; omega) (by omega) (fun j j1 j2 => ?_) q
   have hj : j < l.length := by simp at j1; omega
   have g1 := h2.get hj (by simpa using j1)
   have g2 := k2.get hj (by simpa using j2)
   simp only [List.getElem_toArray]
   exact ih (f _ (List.getElem_mem hj)) g1 g2 (by show A.units + 1 + 2 * n < cLine; omega)
  | @dct _ l f =>
   cases h with
   | dct h1 h2 h3 h4 =>
    cases k with
    | dct k1 k2 k3 k4 =>
     rename_i a es m b es' m'
     refine EqH.refs fun E Q q => pG (prog := prog) (w := w) h4 k4 (eP h2 h3 (sub _ _ h1)) (eP k2 h3 (sub _ _ k1)) (by omega) ?_ ?_ q
     · have e1 := congrArg List.length (gO h2)
       have e2 := congrArg List.length (gO k2)
       simp only [List.length_map] at e1 e2
       omega
     · have go : ∀ {es : List DictEntry} {l' : FL}, IsEnts w.params F es l' → (∀ p ∈ l', p ∈ l) → ew prog w A.in1 s (hJ es' l) (hJ es l') := by
        intro es l' hh
        induction es generalizing l' with
        | nil => intro _; cases hh; exact .nil
        | cons e es ihh =>
         cases hh with
         | @cons x t v d _ l'' hv r =>
          intro sb
          refine x12 (fC k2 (lC h3 (sb (x, d) (.head _)))) ?_; rintro y e1 e2
          exact ew.cons (k := x) e1 (ih (f _ (sb (x, d) (.head _))) hv e2 (by show A.units + 1 + 2 * n < cLine; omega)) (ihh r fun p hp => sb p (.tail _ hp))
       exact go h2 fun p hp => hp
end
section
variable {B : ab} {n : Nat} {L : Addr} {H : HL} {σ : St} {env : Env}
theorem pP {a b : Value} {x y : Addr} {l : List AV} {Φ : PV} (ma : (a, .ref x) ∈ H) (mb : (b, .ref y) ∈ H) (mx : (x, AO.list l) ∈ σ.objs) (my : (y, AO.list l) ∈ σ.objs) (f : ∀ d ∈ l, cG 50 d)
 (h : ∀ v, Φ v (.bool true) σ) : WV B n L (compareOp .Eq a b) H σ Φ := ae fun A F s hA X => by
 obtain rfl := aE (X.hold ma)
 obtain rfl := aE (X.hold mb)
 refine x22 (X.objs _ mx) ?_; rintro vs m h1 h2
 refine x22 (X.objs _ my) ?_; rintro us k k1 k2
 have e1 := h2.length
 have e2 := k2.length
 have hu := hA.units
 have hc : cLine = 9900 := rfl
 refine kI (items := vs.toArray) (items2 := us.toArray) ⟨_, h1, rfl, m, rfl⟩ ⟨_, k1, rfl, k, rfl⟩ (by simp; omega) (by rw [hc]; omega) (fun j j1 j2 => ?_) (.here X ⟨_, .bool true, h _⟩)
 have hj : j < l.length := by simp at j1; omega
 have g1 := h2.get hj (by simpa using j1)
 have g2 := k2.get hj (by simpa using j2)
 simp only [List.getElem_toArray]
 exact sF (w := B.w) X.sub 50 (f _ (List.getElem_mem hj)) g1 g2 (by show A.units + 1 + 2 * 50 < cLine; rw [hc]; omega)
end
end
section
variable {k : Str → Option NameKind} {x : Str}
noncomputable def aY : Addr → LL → OL
 | _, [] => []
 | c, (_, d) :: r => (c, .cell d) :: aY (c + 1) r
noncomputable def bw : Addr → LL → List (Str × Addr)
 | _, [] => []
 | c, (x, _) :: r => (x, c) :: bw (c + 1) r
theorem pt {v : Value} (hx : k x = some .local) : ∀ {b : List (Str × Value)} {m : Str → Option Value}, (b.map (·.1)).Nodup → (x, v) ∈ b → bindL k b m x = some v := by
 have out : ∀ {b : List (Str × Value)} {m : Str → Option Value}, x ∉ b.map (·.1) → bindL k b m x = m x := by
  intro b
  induction b with
  | nil => intro m _; rfl
  | cons p r ih =>
   intro m h
   rw [List.map_cons, List.mem_cons, not_or] at h
   unfold bindL
   rw [ih h.2]
   split
   · exact if_neg h.1
   · rfl
 intro b
 induction b with
 | nil => intro m _ h; contradiction
 | cons p r ih =>
  intro m nd h
  rw [List.map_cons, List.nodup_cons] at nd
  unfold bindL
  rcases mC0 h with e | h
  · subst e
    rw [out nd.1]
    rw [if_pos hx]; simp
  · exact ih nd.2 h
theorem iZ : ∀ {b : List (Str × Value)} {m : Str → Option Value}, x ∉ b.map (·.1) → bindC k b m x = m x := by
 intro b
 induction b with
 | nil => intro m _; rfl
 | cons p r ih =>
  intro m h
  rw [List.map_cons, List.mem_cons, not_or] at h
  unfold bindC
  rw [ih h.2]
  split
  · rfl
  · exact if_neg h.1
theorem pF {v : Value} (hx : k x ≠ some .local) : ∀ {b : List (Str × Value)} {m : Str → Option Value}, (b.map (·.1)).Nodup → (x, v) ∈ b → bindC k b m x = some v := by
 intro b
 induction b with
 | nil => intro m _ h; contradiction
 | cons p r ih =>
  intro m nd h
  rw [List.map_cons, List.nodup_cons] at nd
  unfold bindC
  rcases mC0 h with e | h
  · subst e
    rw [iZ nd.1]
    rw [if_neg hx]; simp
  · exact ih nd.2 h
theorem d9 : ∀ (c : Addr) (cn : LL), (bw c cn).map (·.1) = cn.map (·.1)
 | _, [] => rfl
 | c, (x, d) :: r => by rw [bw, List.map_cons, d9 (c + 1) r]; rfl
theorem g7 : ∀ {c : Addr} {cn : LL} {p : Addr × AO}, p ∈ aY c cn → ∃ x d, (x, d) ∈ cn ∧ (x, p.1) ∈ bw c cn ∧ p.2 = .cell d ∧ c ≤ p.1
 | _, [], _, h => nomatch h
 | c, (x, d) :: r, p, h => by
  rcases mC0 h with rfl | h
  · exact ⟨x, d, .head _, .head _, rfl, Nat.le_refl _⟩
  · refine x24 (g7 h) ?_; rintro y e h1 h2 h3 h4
    exact ⟨y, e, .tail _ h1, .tail _ h2, h3, nT0 (Nat.le_succ _) h4⟩
theorem eY : ∀ (c : Addr) (cn : LL), (ad (aY c cn)).Nodup ∧ ∀ b ∈ ad (aY c cn), c ≤ b
 | _, [] => ⟨List.nodup_nil, fun _ h => nomatch h⟩
 | c, (x, d) :: r => by
  obtain ⟨h1, h2⟩ := eY (c + 1) r
  have e : ad (aY c ((x, d) :: r)) = c :: ad (aY (c + 1) r) := rfl
  rw [e]
  refine ⟨List.nodup_cons.mpr ⟨fun h => absurd (h2 c h) (Nat.not_le.mpr (Nat.lt_succ_self c)), h1⟩, fun b hb => ?_⟩
  rcases mC0 hb with rfl | hb
  · exact Nat.le_refl _
  · exact nT0 (Nat.le_succ _) (h2 b hb)
section
variable {B : ab} {n : Nat} {objs : OL}
theorem t5 {name qual : Str} {params : Arguments} {body body' : List Stmt} {scope scope' : Scope} {dV kV doc pm cdv ct oc : Value} {an od : Option Addr} {osl : Array (Option Value)} {f : Addr} {args ds : List AV} {Φ : AV → OL → Prop} (ps : List Str) (loc : LL) (cn : LL)
 (ho : B.K.lookup f = some ⟨oc, od, .func (fnOf name qual params body scope dV kV doc pm an cdv ct), osl⟩) (hcd : codeIn B.K cdv qual = true)
 (hbind : ∀ vs, vs.length = args.length → bindArgs (fnOf name qual params body scope dV kV doc pm an cdv ct) ⟨vs, []⟩ = pure (ps.zip vs)) (hlen : ps.length = args.length) (hds : ds = args)
 (h : ∀ L, GoB body' (WF B n L (execs body' (envOfC qual scope' L f cdv)) [] ⟨loc, aY (L + 1) cn ++ objs⟩ (ko Φ)))
 (hloc : ∀ x d, (x, some d) ∈ loc → scope'.names.lookup x = some .local ∧ (x, d) ∈ ps.zip ds) (hln : (loc.map (·.1)).Nodup)
 (hcs : ∀ L, (bw (L + 1) cn).reverse = cellsFrom (L + 1) scope'.names []) (hcn : (cn.map (·.1)).Nodup)
 (hck : ∀ x d, (x, d) ∈ cn → scope'.names.lookup x = some .cell ∧ (match d with | some d => (x, d) ∈ ps.zip ds | none => x ∉ ps)) (hpn : ps.Nodup)
 (hpk : ∀ x ∈ ps, scope'.names.lookup x = some .local ∨ (scope'.names.lookup x = some .cell ∧ x ∈ cn.map (·.1)))
 (hco : autoParam (scope'.isCoroutine = false) bR) (hgen : autoParam (scope'.isGenerator = false) bR) (hk : autoParam (scope'.kind = .function) bR) (eb : body = body' := by (conv => lhs; whnf)) (es : scope = scope' := by (conv => lhs; whnf)) : aa B (n + 1) f args objs Φ := by
 subst eb es
 subst hds
 intro A F s vs hA x hvs
 have up : ∀ b o, B.G.get? b = some o → s.heap.get? b = some o := fun b o e => x.sub _ _ (x.core _ _ e)
 have hvl := hvs.length
 have keys : (ps.zip vs).map (·.1) = ps := by rw [List.map_fst_zip]; omega
 have look : ∀ L y c, (y, c) ∈ bw (L + 1) cn → (cellsFrom (L + 1) scope.names []).lookup y = some c := by
  intro L y c hm
  rw [← hcs L]
  have nd : ((bw (L + 1) cn).reverse.map (·.1)).Nodup := by rw [List.map_reverse, d9]; exact (List.reverse_perm _).nodup_iff.mpr hcn
  have hm' : (y, c) ∈ (bw (L + 1) cn).reverse := List.mem_reverse.mpr hm
  generalize (bw (L + 1) cn).reverse = l at nd hm'
  induction l with
  | nil => contradiction
  | cons p r ih =>
   rw [List.map_cons, List.nodup_cons] at nd
   rw [List.lookup_cons]
   rcases mC0 hm' with e | hm'
   · subst e; simp
   · have : (y == p.1) = false := beq_eq_false_iff_ne.mpr fun e => nd.1 (e ▸ List.mem_map_of_mem hm')
     rw [this]; exact ih nd.2 hm'
 have val : ∀ y d, (y, d) ∈ ps.zip ds → ∃ v, (y, v) ∈ ps.zip vs ∧ Is B.P F v d := by
  intro y d hm
  have : ∀ {ps : List Str} {vs : List Value} {ds : List AV}, IsAll B.P F vs ds → (y, d) ∈ ps.zip ds → ∃ v, (y, v) ∈ ps.zip vs ∧ Is B.P F v d := by
   intro ps vs ds hh
   induction ps generalizing vs ds with
   | nil => intro h; simp at h
   | cons p r ih =>
    intro h
    cases hh with
    | nil => simp at h
    | cons a b =>
     rw [List.zip_cons_cons] at h
     rcases mC0 h with e | h
     · cases e; exact ⟨_, .head _, a⟩
     · refine x12 (ih b h) ?_; rintro v h1 h2; exact ⟨v, .tail _ h1, h2⟩
  exact this hvs hm
 refine codeAny_call_cells (fd := fnOf name qual params body scope dV kV doc pm an cdv ct) (body := body) (binds := ps.zip vs) (by have := hA.depth; show A.depth < 1000; omega) ((B.X.keeps up) _ _ ho) rfl (B.nolimit.keeps up)
  (codeRec_of (B.X.keeps up) hcd) rfl (hbind vs hvl) rfl (fun y hy => ?_) (fun s₁ z => ?_) hco hgen hk
 · have hy1 : y.1 ∈ ps := keys ▸ List.mem_map_of_mem hy
   rcases hpk y.1 hy1 with q | ⟨q, q2⟩
   · exact .inl q
   · refine .inr ⟨q, ?_⟩
     rw [← d9 (s.heap.objs.size + 1) cn] at q2
     refine x12 (List.mem_map.mp q2) ?_; rintro p hp e
     rw [← e, look _ _ _ (show (p.1, p.2) ∈ _ from hp)]; rfl
 have hL : s.heap.get? s.heap.objs.size = none := bn _
 have there : ∀ b ∈ ad objs, ∃ o, s.heap.get? b = some o := fun b hb => by
  refine x12 (aH.mp hb) ?_; rintro p hp hb
  exact (x.objs p hp).there b hb
 have below : ∀ b ∈ ad objs, b < s.heap.objs.size := fun b hb => by obtain ⟨o, e⟩ := there b hb; exact Heap.lt_size e
 obtain ⟨z1, z2, z3, z4⟩ := z
 refine x22 (z1.done) ?_; rintro h₁ tk rfl keep
 have hns := z1.ns
 have big : B.G.objs.size ≤ s.heap.objs.size := x.big
 obtain ⟨cn1, cn2⟩ := eY (s.heap.objs.size + 1) cn
 have noneF : ∀ b, s.heap.objs.size ≤ b → F b = none := fun b hb => by
  induction q : F b using Option.casesOn with
  | none => rfl
  | some o => exact absurd (Heap.lt_size (x.sub _ _ q)) (Nat.not_lt.mpr hb)
 have eo : ad (aY (s.heap.objs.size + 1) cn ++ objs) = ad (aY (s.heap.objs.size + 1) cn) ++ ad objs := bb _ _
 have X : Holds B.P B.G s.heap.objs.size F [] ⟨loc, aY (s.heap.objs.size + 1) cn ++ objs⟩ h₁ := by
  refine ⟨x.core, fun b o e => keep _ _ (x.sub _ _ e), ⟨_, hns, fun y d hy => ?_⟩, hln, fun p hp => ?_, ?_, fun b hb => ?_, fun _ hp => (nomatch hp), big⟩
  · obtain ⟨k1, k2⟩ := hloc y d hy
    refine x12 (val y d k2) ?_; rintro v hv q
    exact ⟨v, pt (k := (callEnvC (fnOf name qual params body scope dV kV doc pm an cdv ct) s.heap.objs.size f).kindOf) k1 (by rw [keys]; exact hpn) hv, q⟩
  · rcases List.mem_append.mp hp with hp | hp
    · refine x24 (g7 hp) ?_; rintro y d m1 m2 m3 _
      have hc := z2 y p.1 (look _ _ _ m2)
      obtain ⟨k1, k2⟩ := hck y d m1
      rw [m3]
      induction d using Option.casesOn with
      | none =>
       have : bindC (callEnvC (fnOf name qual params body scope dV kV doc pm an cdv ct) s.heap.objs.size f).kindOf (ps.zip vs) (fun _ => none) y = none := iZ (by rw [keys]; exact k2)
       rw [this] at hc
       exact hc
      | some d =>
       refine x12 (val y d k2) ?_; rintro v hv q
       have : bindC (callEnvC (fnOf name qual params body scope dV kV doc pm an cdv ct) s.heap.objs.size f).kindOf (ps.zip vs) (fun _ => none) y = some v := pF (by show scope.names.lookup y ≠ _; rw [k1]; decide) (by rw [keys]; exact hpn) hv
       rw [this] at hc
       exact ⟨v, hc, q⟩
    · exact (x.objs p hp).move (.refl F) fun b o _ e => keep _ _ e
  · show (s.heap.objs.size :: ad (aY (s.heap.objs.size + 1) cn ++ objs)).Nodup
    rw [eo]
    refine List.nodup_cons.mpr ⟨fun hm => ?_, List.nodup_append.mpr ⟨cn1, x.nodup, fun a ha b hb e => ?_⟩⟩
    · rcases List.mem_append.mp hm with hm | hm
      · exact absurd (cn2 _ hm) (Nat.not_le.mpr (Nat.lt_succ_self _))
      · exact absurd (below _ hm) (Nat.lt_irrefl _)
    · have g1 := cn2 a ha
      have g2 := below b hb
      rw [← e] at g2
      exact absurd (nL0 g2 (Nat.le_succ _)) (Nat.not_lt.mpr g1)
  · rcases mC0 hb with rfl | hb
    · exact noneF _ (Nat.le_refl _)
    · rw [show ad (⟨loc, aY (s.heap.objs.size + 1) cn ++ objs⟩ : St).objs = _ from eo] at hb
      rcases List.mem_append.mp hb with hb | hb
      · exact noneF _ (nT0 (Nat.le_succ _) (cn2 _ hb))
      · exact x.apart b hb
 have hA' : cA n (A.deeper (callEnvC (fnOf name qual params body scope dV kV doc pm an cdv ct) s.heap.objs.size f)) :=
  ⟨hA.handled, by have := hA.depth; show A.depth + 1 + n ≤ 900; omega, by have := hA.units; show A.units + 3 + 8 * n ≤ 9000; omega⟩
 refine wpAny_mono ((h s.heap.objs.size).run _ F { s with heap := h₁, toks := tk } hA' X) (fun fl s' z => ?_) fun _ _ z => z.elim
 obtain ⟨F', σ', x', p, e, he, q⟩ := z
 refine x12 (kB he q) ?_; rintro d hd q
 exact .mk _ d σ'.objs F' rfl hd x'.call ((p.over (fun b hb => (mC0 hb).elim (fun e => .inr (e ▸ hL)) fun hb => by
  rw [eo] at hb
  exact (List.mem_append.mp hb).elim (fun hb => .inr (Option.eq_none_iff_forall_ne_some.mpr fun o w => absurd (Heap.lt_size w) (Nat.not_lt.mpr (nT0 (Nat.le_succ _) (cn2 _ hb))))) .inl) keep (.refl _) rfl).fewer fun _ => .tail _) q
end
end
section
variable {x : Str} {c a : Addr} {d : AV} {loc : LL} {objs objs' : OL} {Φ : PV} {v : Value} {P : Params} {G h : Heap} {F : Fz} {value : Expr} {l : FL}
section
variable {B : ab} {n : Nat} {L : Addr} {H : HL} {σ : St} {env : Env}
theorem qz {pos} (hc : env.cells.lookup x = some c) (m : (c, AO.cell (some d)) ∈ objs) (h : ∀ v, Φ v d ⟨loc, objs⟩)
 (hk : env.scope.kind = .function) (hl : env.kindOf x = some .cell) (hd : (x == ("__debug__" : Str)) = false) : WV B n L (eval (.Name x pos) env) H ⟨loc, objs⟩ Φ := ae fun A F s hA X => by
 refine x12 (X.objs _ m) ?_; rintro v h1 h2
 exact wpAny_Name (wpAny_loadName_cell hk hl hc h1 (.here X ⟨d, h2, h v⟩)) hd
theorem oI {o : Option AV} {Φ : St → Prop} (hc : env.cells.lookup x = some c) (md : (v, d) ∈ H) (m : Chg c (.cell o) (.cell (some d)) objs objs') (h : Φ ⟨loc, objs'⟩)
 (hk : env.scope.kind = .function) (hl : env.kindOf x = some .cell) : WU B n L (storeName env x v) H ⟨loc, objs⟩ Φ := ae fun A F s hA X => by
 refine x22 (m.split) ?_; rintro pre post rfl rfl
 have hd := X.hold md
 have : ∃ v₀, s.heap.IsCell c v₀ := by
  have := X.objs (c, .cell o) (by simp)
  induction o using Option.casesOn with
  | none => exact ⟨_, this⟩
  | some e => refine x12 (this) ?_; clear this; rintro v h1 _; exact ⟨_, h1⟩
 obtain ⟨v₀, h1⟩ := this
 refine wpAny_storeName_cell hk hl hc h1 fun h' hc' hs => ?_
 refine am.change (o' := .cell (some d)) X (c := c) (.inl rfl) rfl (fun b y _ q e => (hs.2 b q).trans e) ?_ ⟨v, hc', hd⟩ rfl rfl h
 refine x12 (X.frame) ?_; rintro m₀ FR hl
 exact ⟨m₀, FR.ns.sameBut hs (fun e => (List.nodup_cons.mp X.nodup).1 (by rw [e]; exact aH.mpr ⟨_, List.mem_append_right _ (.head _), .inl rfl⟩)), hl⟩
theorem Holds.trackAt {h' : Heap} {o : AO} (x : Holds P G L F H σ h) (hF : F a = none) (hO : a ∉ L :: ad σ.objs) (k : ∀ b o, b ≠ a → h.get? b = some o → h'.get? b = some o) (em : o.more = []) (q : OAt P F h' a o) :
 Holds P G L F H ⟨σ.loc, (a, o) :: σ.objs⟩ h' := by
 have x' := x.besides hF hO k
 have eo : ad ((a, o) :: σ.objs) = a :: ad σ.objs := by show a :: (o.more ++ ad σ.objs) = _; refine em ▸ ?_; rfl
 refine ⟨x'.core, x'.sub, x'.loc, x'.names, fun p hp => ?_, ?_, fun b hb => ?_, x'.held, x'.low⟩
 · rcases mC0 hp with rfl | hp
   · exact q
   · exact x'.objs p hp
 · show (L :: ad ((a, o) :: σ.objs)).Nodup
   refine eo ▸ ?_
   have nd := List.nodup_cons.mp x'.nodup
   have h1 : L ≠ a := fun e => hO (e ▸ .head _)
   have h2 : a ∉ ad σ.objs := fun hm => hO (.tail _ hm)
   refine List.nodup_cons.mpr ⟨fun hm => ?_, List.nodup_cons.mpr ⟨h2, nd.2⟩⟩
   rcases mC0 hm with e | hm
   · exact h1 e
   · exact nd.1 hm
 · rw [show ad (⟨σ.loc, (a, o) :: σ.objs⟩ : St).objs = _ from eo] at hb
   rcases mC0 hb with rfl | hb
   · exact x'.apart _ (.head _)
   rcases mC0 hb with rfl | hb
   · exact hF
   · exact x'.apart _ (.tail _ hb)
theorem ni {keys : List (Option Expr)} {values : List Expr} {pos : Pos}
 (h : WD B n L (evalPairs (aA env pos keys values)) H σ fun l σ₁ => (l.map (·.1)).Nodup ∧ ∀ a, Φ (.ref a) (.ref a) ⟨σ₁.loc, (a, .dict l) :: σ₁.objs⟩)
 (hs : autoParam ((evalEachOpt keys env).zip ((evalEach values env).map fun v => do let x ← v; standAt pos; pure x) = (aA env pos keys values).map fun p => (some p.1, p.2)) bR)
 (h0 : aA env pos keys values ≠ [] := by exact List.cons_ne_nil _ _) (hl : (aA env pos keys values).length ≤ 15 := by decide) : WV B n L (eval (.Dict keys values pos) env) H σ Φ := ae fun A F s hA X => by
 refine wpAny_Dict_pairs (knd := strKind B.prog B.w) hs h0 hl ?_
 have hn := bn s.heap
 have up : ∀ b o, s.heap.get? b = some o → (s.heap.push { cls := .type "dict", data := .dict #[] }).get? b = some o := fun b o e => Heap.get?_push_of_some _ e
 have aO : s.heap.objs.size ∉ L :: ad σ.objs := fun hm => by obtain ⟨o, ho⟩ := X.there _ hm; rw [hn] at ho; contradiction
 refine wpAny_mono (h.run A F _ hA (X.grow up)) (fun vs s₁ z => ?_) fun _ _ z => z
 obtain ⟨F₁, σ₁, x₁, p₁, l, hl, hnd, q⟩ := z
 have a0 : s₁.heap.get? s.heap.objs.size = some { cls := .type "dict", data := .dict #[] } := p₁.keep _ _ aO (Heap.get?_push_size _ rfl)
 refine ⟨KV.vals vs l, KV.carries hl, ⟨_, #[], _, a0, ⟨rfl, rfl, rfl⟩, rfl, (fun e he => by simp at he), .nil, List.nodup_nil⟩, fun h' hd hs' => ?_⟩
 rw [merged_nil_of_nodup _ (by refine (KV.keys hl) ▸ ?_; exact hnd)] at hd
 refine x23 (gk hd) ?_; rintro es m e1 e2 e3
 have aF : F₁ s.heap.objs.size = none := by
  induction w : F₁ s.heap.objs.size using Option.casesOn with
  | none => rfl
  | some o =>
   rcases p₁.frz _ _ w with z | z | z
   · have := X.sub _ _ z; rw [hn] at this; contradiction
   · exact absurd z aO
   · rw [Heap.get?_push_size _ rfl] at z; contradiction
 have aO' : s.heap.objs.size ∉ L :: ad σ₁.objs := fun hm => by
  rcases p₁.own _ hm with z | z
  · exact aO z
  · rw [Heap.get?_push_size _ rfl] at z; contradiction
 have x₂ := x₁.trackAt (h' := h') (o := .dict l) aF aO' (fun b o hb e => (hs'.2 b hb).trans e) rfl ⟨⟨es, m, e1, KV.ents hl e2 e3⟩, hnd, n4 X.big⟩
 have old : ∀ b, (s.heap.push { cls := .type "dict", data := .dict #[] }).get? b = none → s.heap.get? b = none := fun b e => by
  induction w : s.heap.get? b using Option.casesOn with
  | none => rfl
  | some o => rw [up _ _ w] at e; contradiction
 refine ⟨F₁, _, x₂, ⟨fun b o hb e => (hs'.2 b (fun z => by rw [z, hn] at e; contradiction)).trans (p₁.keep _ _ hb (up _ _ e)), fun b hb => ?_, fun b o e => (p₁.frz _ _ e).imp_right (Or.imp_right (old b)), p₁.mono, p₁.gens, p₁.os⟩, .ref _, .ref _, q _⟩
 rcases mC0 hb with rfl | hb
 · exact .inl (.head _)
 have hb' : b ∈ s.heap.objs.size :: ad σ₁.objs := hb
 rcases mC0 hb' with rfl | hb'
 · exact .inr hn
 · exact (p₁.own b (.tail _ hb')).imp_right (old b)
theorem yr {slice : Expr} {o i : Value} {x : List Nat} (mo : (o, .ref a) ∈ H) (ma : (a, AO.dict l) ∈ σ.objs) (mi : (i, .str x) ∈ H) (hd : bp (S x) l = some d) (h : ∀ v, Φ v d σ)
 (hs : ∃ ops, subscripted slice false o i = operate ops (getItem o i) := by exact ⟨_, rfl⟩) : WV B n L (subscriptTail value slice o i) H σ Φ := by
 refine cv (T := "dict") (fun F s X => ?_) slot_dict_getitem.lookup (ae fun A F s hA X => ?_) hs
 · obtain rfl := aE (X.hold mo); obtain ⟨⟨es, k, h1, _⟩, _⟩ := X.objs _ ma; exact ⟨_, h1, rfl⟩
 · obtain rfl := aE (X.hold mo)
   refine x03 (X.objs _ ma) ?_; rintro ⟨es, k, h1, h2⟩ h3 _
   obtain ⟨t, rfl⟩ := az (X.hold mi)
   refine x12 (fC h2 hd) ?_; rintro v e1 e2
   exact wpAny_getItem_of (knd := strKind B.prog B.w) (k := S x) (beq_self_eq_true _) (eP h2 h3 h1).mapOf e1 (.toks X ⟨d, e2, h _⟩)
theorem xK {o i : Value} {x : List Nat} (mo : (o, .ref a) ∈ H) (ma : (a, AO.dict l) ∈ σ.objs) (mi : (i, .str x) ∈ H) (hd : bp (S x) l = some d) (h : ∀ v, Φ v d σ) : WV B n L (getItem o i) H σ Φ := ae fun A F s hA X => by
 obtain rfl := aE (X.hold mo)
 refine x03 (X.objs _ ma) ?_; rintro ⟨es, k, h1, h2⟩ h3 _
 obtain ⟨t, rfl⟩ := az (X.hold mi)
 refine x12 (fC h2 hd) ?_; rintro v e1 e2
 exact wpAny_getItem_of (knd := strKind B.prog B.w) (k := S x) (beq_self_eq_true _) (eP h2 h3 h1).mapOf e1 (.toks X ⟨d, e2, h _⟩)
end
theorem KM.keys {r : List (Str × Value)} (h : KM P F r l) : r.map (·.1) = l.map (·.1) := by
 induction h with
 | nil => rfl
 | cons _ _ ih => exact congrArg (List.cons _) ih
theorem KM.stored {k : Str} (q : Is P F v d) : ∀ {kvs : List (Str × Value)} {l : FL}, KM P F kvs l → (l.map (·.1)).Nodup → KM P F (stored kvs k v) (c5 k d l)
 | _, _, .nil, _ => .cons q .nil
 | (y, u) :: r, (_, e) :: l, .cons h hr, nd => by
  rw [List.map_cons, List.nodup_cons] at nd
  by_cases hy : y = k
  · subst hy
    have hnot : ∀ p ∈ r, p.1 ≠ y := fun p hp e => nd.1 (by rw [← hr.keys, ← e]; exact List.mem_map_of_mem hp)
    have e1 : PySem.stored ((y, u) :: r) y v = (y, v) :: r := by
     unfold PySem.stored
     rw [if_pos (by simp)]
     rw [List.map_cons, if_pos rfl]
     congr 1
     have : r.map (fun kv => if kv.1 = y then (kv.1, v) else kv) = r.map id := List.map_congr_left fun p hp => by rw [if_neg (hnot p hp)]; rfl
     rw [this, List.map_id]
    have e2 : c5 y d ((y, e) :: l) = (y, d) :: l := by unfold c5; rw [if_pos (beq_self_eq_true _)]
    rw [e1, e2]
    exact .cons q hr
  · have e1 : PySem.stored ((y, u) :: r) k v = (y, u) :: PySem.stored r k v := by
     unfold PySem.stored
     rw [List.any_cons, List.map_cons, if_neg hy]
     simp only [hy, decide_false, Bool.false_or]
     split <;> rfl
    have e2 : c5 k d ((y, e) :: l) = (y, e) :: c5 k d l := by
     rw [c5, if_neg (by simpa using hy)]
    rw [e1, e2]
    exact .cons h (KM.stored q hr nd.2)
theorem iL {k : Str} : ∀ {l : FL}, (l.map (·.1)).Nodup → ((c5 k d l).map (·.1)).Nodup
 | [], _ => by simp [c5]
 | (y, e) :: l, nd => by
  have nd' := nd
  rw [List.map_cons, List.nodup_cons] at nd
  unfold c5
  split
  · rename_i h
    have h : y = k := by simpa using h
    subst h
    exact nd'
  · rename_i h
    have h : y ≠ k := by simpa using h
    rw [List.map_cons, List.nodup_cons]
    refine ⟨fun hm => ?_, iL nd.2⟩
    have : ∀ {l : FL}, y ∈ (c5 k d l).map (·.1) → y = k ∨ y ∈ l.map (·.1) := by
     intro l
     induction l with
     | nil => intro h; simp [c5] at h; exact .inl h
     | cons p r ih =>
      intro h
      unfold c5 at h
      split at h
      · rename_i hp
        have hp : p.1 = k := by simpa using hp
        rw [List.map_cons, List.mem_cons] at h
        rcases h with h | h
        · exact .inl h
        · exact .inr (.tail _ h)
      · rw [List.map_cons, List.mem_cons] at h
        rcases h with h | h
        · exact .inr (by rw [h]; exact .head _)
        · exact (ih h).imp_right (.tail _)
    rcases this hm with h' | h'
    · exact h h'
    · exact nd.1 h'
section
variable {B : ab} {n : Nat} {L : Addr} {H : HL} {σ : St} {env : Env}
theorem r7 {l' : FL} {x : List Nat} {ov iv : Value} {Φ : St → Prop} (mo : (ov, .ref a) ∈ H) (mi : (iv, .str x) ∈ H) (md : (v, d) ∈ H) (hp : gG (S x) d l l')
 (m : Chg a (.dict l) (.dict l') objs objs') (hz : l.length ≤ 900) (h : Φ ⟨loc, objs'⟩) : WU B n L (setItem ov iv v) H ⟨loc, objs⟩ Φ := ae fun A F s hA X => by
 refine x22 (m.split) ?_; rintro pre post rfl rfl
 obtain rfl := hp.eq
 obtain rfl := aE (X.hold mo)
 obtain ⟨t, rfl⟩ := az (X.hold mi)
 have hd := X.hold md
 refine x03 (X.objs (a, .dict l) (by simp)) ?_; rintro ⟨es, k, h1, h2⟩ h3 h4
 refine wpAny_setItem_pairs (knd := strKind B.prog B.w) (k := S x) (beq_self_eq_true _) (eP h2 h3 h1) (fun h' hm hs => ?_) ?_
 · refine x23 (gk hm) ?_; rintro es' m' e1 e2 e3
   refine am.change (o' := .dict (c5 (S x) d l)) X (c := a) (.inl rfl) rfl (fun b y _ q e => (hs.2 b q).trans e) ?_ ⟨⟨es', m', e1, KM.ents ((uN h2).stored hd h3) e2 e3⟩, iL h3, h4⟩ rfl rfl h
   refine x12 (X.frame) ?_; rintro m₀ FR hl
   exact ⟨m₀, FR.ns.sameBut hs (fun e => (List.nodup_cons.mp X.nodup).1 (by rw [e]; exact aH.mpr ⟨_, List.mem_append_right _ (.head _), .inl rfl⟩)), hl⟩
 · have := congrArg List.length (gO h2)
   simp only [List.length_map] at this
   rw [this, aV]; omega
theorem gA {o i : Expr} {p pos} {Φ : PF}
 (h : WV B n L (eval value env) H σ fun v d σ₁ => WV B n L (eval o env) ((v, d) :: H) σ₁ fun ov od σ₂ => WV B n L (eval i env) ((ov, od) :: (v, d) :: H) σ₂ fun iv e σ₃ => WU B n L (setItem ov iv v) ((iv, e) :: (ov, od) :: (v, d) :: H) σ₃ fun σ₄ => Φ .next σ₄)
 (hs : swapsWith value (some (.Subscript o i p)) pos.line env = pure false) : WF B n L (exec (.Assign [.Subscript o i p] value pos) env) H σ Φ := by
 rw [exec_Assign_Subscript o i p value pos hs]
 refine al (aj (af h fun v d σ₁ w => ?_))
 rw [assign_Subscript]
 refine bT (aj (ag (af w fun ov od σ₂ w => aj (ag (af w fun iv e σ₃ w => al (bT (ag (di w fun σ₄ q => dC (fk q)))))))))
theorem rt {o i : Expr} {p pos op} {Φ : PF}
 (h : WV B n L (eval o env) H σ fun ov od σ₁ => WV B n L (eval i env) ((ov, od) :: H) σ₁ fun iv e σ₂ => WV B n L (getItem ov iv) ((iv, e) :: (ov, od) :: H) σ₂ fun a d σ₃ => WV B n L (eval value env) ((a, d) :: (iv, e) :: (ov, od) :: H) σ₃ fun b y σ₄ =>
  WV B n L (inplaceOp op a b) ((b, y) :: (a, d) :: (iv, e) :: (ov, od) :: H) σ₄ fun c z σ₅ => WU B n L (setItem ov iv c) ((c, z) :: (iv, e) :: (ov, od) :: H) σ₅ fun σ₆ => Φ .next σ₆)
 (hi : ∀ ov iv c, augStore i ov iv c = (do holding [c, ov, iv] (setItem ov iv c); release [c, ov, iv] []; pure .next)) :
 WF B n L (exec (.AugAssign (.Subscript o i p) op value pos) env) H σ Φ := by
 rw [arm_exec_AugAssign_3]
 refine al (aj (af h fun ov od σ₁ w => aj (ag (af w fun iv e σ₂ w => aj (ag ?_)))))
 refine al (aj (af w fun a d σ₃ w => aj (ag (af w fun b y σ₄ w => al (c0 (af w fun c z σ₅ w => ?_))))))
 refine al ?_
 rw [hi]
 refine bT (ag (di w fun σ₆ q => ?_))
 exact ae fun A F s hA x => wpAny_bind (wpAny_release (wpAny_pure (.here x ⟨.next, trivial, q⟩)))
inductive dX (a : Addr) (o : AO) : OL → OL → Prop
 | head {r} : dX a o ((a, o) :: r) r
 | tail {p r r'} : dX a o r r' → dX a o (p :: r) (p :: r')
theorem dX.perm {o : AO} {l l' : OL} (h : dX a o l l') : l.Perm ((a, o) :: l') := by
 induction h with
 | head => exact .refl _
 | tail _ ih => exact (List.Perm.cons _ ih).trans (.swap _ _ _)
theorem Holds.freezeD (x : Holds P G L F H ⟨loc, (a, .dict l) :: objs⟩ h) :
 ∃ F', F.le F' ∧ Holds P G L F' H ⟨loc, objs⟩ h ∧ Is P F' (.ref a) (.dct l) ∧ ∀ b o, F' b = some o → F b = some o ∨ b = a := by
 refine x03 (x.objs _ (.head _)) ?_; rintro ⟨es, m, h1, h2⟩ h3 h4
 have aF : F a = none := x.apart a (.tail _ (.head _))
 have le := Fz.le_put (o := dictOf es m) aF
 have x' := x.drop (objs' := objs) (rest := [(a, AO.dict l)]) (List.perm_append_comm (l₁ := [(a, AO.dict l)]))
 have nd := x.nodup
 have nL : a ≠ L := fun e => (List.nodup_cons.mp nd).1 (e ▸ .head _)
 have nO : a ∉ ad objs := fun hm => (List.nodup_cons.mp (List.nodup_cons.mp nd).2).1 (List.mem_append_right _ hm)
 refine ⟨F.put a (dictOf es m), le, ⟨fun b o' e => le _ _ (x.core b o' e), fun b o' e => ?_, let ⟨m, hm, r⟩ := x.loc; ⟨m, hm, fun y d hy => let ⟨v, e, q⟩ := r y d hy; ⟨v, e, q.mono le⟩⟩, x'.names,
  fun p hp => (x'.objs p hp).move le fun _ _ _ e => e, x'.nodup, fun b hb => ?_, fun p hp => (x.held p hp).mono le, x.low⟩, .dct (Fz.put_self ..) (h2.mono le) h3 h4, fun b o e => ?_⟩
 · unfold Fz.put at e
   split at e
   · rename_i q; subst q; obtain rfl := Option.some.inj e; exact h1
   · exact x.sub _ _ e
 · unfold Fz.put
   split
   · rename_i q
     subst q
     rcases mC0 hb with h | hb
     · exact absurd h nL
     · exact absurd hb nO
   · exact x'.apart b hb
 · unfold Fz.put at e
   split at e
   · exact .inr ‹_›
   · exact .inl e
theorem Holds.perm (e : objs.Perm objs') (x : Holds P G L F H ⟨loc, objs⟩ h) : Holds P G L F H ⟨loc, objs'⟩ h :=
 x.drop (rest := []) (by rw [List.append_nil]; exact e)
theorem AT {α : Type} {t : Sem α} {Ψ : α → Fz → St → Prop} (mv : (v, .ref a) ∈ H) (tk : dX a (.dict l) objs objs') (w : W B n L t ((v, .dct l) :: H) ⟨loc, objs'⟩ Ψ) : W B n L t H ⟨loc, objs⟩ Ψ := ae fun A F s hA X => by
 refine x14 ((X.perm tk.perm).freezeD) ?_; rintro F' le x' hd back
 obtain rfl := aE (X.hold mv)
 refine wpAny_mono (w.run A F' s hA (x'.push hd)) (fun r s' z => ?_) fun _ _ z => z
 obtain ⟨F₂, σ₂, x₂, p₂, q⟩ := z
 have po := b6 tk.perm
 refine ⟨F₂, σ₂, x₂.weaken fun _ hp => .tail _ hp, aM.trans (s' := s) (O' := L :: ad objs') (F' := F') ⟨fun _ _ _ e => e, fun b hb => .inl ?_, fun b o e => ?_, le, .refl _, rfl⟩ p₂, q⟩
 · rcases mC0 hb with rfl | hb
   · exact .head _
   · exact .tail _ (po.mem_iff.mpr (.tail _ hb))
 · rcases back b o e with z | rfl
   · exact .inl z
   · exact .inr (.inl (.tail _ (po.mem_iff.mpr (.head _))))
end
end
section
variable {H : HL} {x : Str} {ds : List AV} {e t : Expr} {pos p : Pos} {c : Bool} {es : List Expr} {s : Stmt} {ss : List Stmt}
structure Cx where
 B : ab
 n : Nat
 L : Addr
 env : Env
structure Ev (X : Cx) (e : Expr) (σ : St) (d : AV) (σ' : St) : Prop where
 run : ∀ (H : HL) (Φ : PV), (∀ v, Φ v d σ') → WV X.B X.n X.L (eval e X.env) H σ Φ
structure EvX (X : Cx) (e : Expr) (σ : St) (v : Value) (d : AV) : Prop where
 run : ∀ (H : HL) (Φ : PV), Φ v d σ → WV X.B X.n X.L (eval e X.env) H σ Φ
structure Te (X : Cx) (e : Expr) (σ : St) (b : Bool) (σ' : St) : Prop where
 run : ∀ (H : HL) (Φ : Bool → St → Prop), Φ b σ' → WB X.B X.n X.L (isTrue e X.env (eval e X.env)) H σ Φ
structure TeA (X : Cx) (es : List Expr) (σ : St) (b : Bool) (σ' : St) : Prop where
 run : ∀ (H : HL) (Φ : Bool → St → Prop), Φ b σ' → WB X.B X.n X.L (allTrue .And es X.env) H σ Φ
structure TeO (X : Cx) (es : List Expr) (σ : St) (b : Bool) (σ' : St) : Prop where
 run : ∀ (H : HL) (Φ : Bool → St → Prop), Φ b σ' → WB X.B X.n X.L (allTrue .Or es X.env) H σ Φ
structure EvO (X : Cx) (es : List Expr) (σ : St) (d : AV) (σ' : St) : Prop where
 run : ∀ pos (H : HL) (Φ : PV), (∀ v, Φ v d σ') → WV X.B X.n X.L (boolOp pos .Or (evalEach es X.env)) H σ Φ
structure EvA (X : Cx) (es : List Expr) (σ : St) (d : AV) (σ' : St) : Prop where
 run : ∀ pos (H : HL) (Φ : PV), (∀ v, Φ v d σ') → WV X.B X.n X.L (boolOp pos .And (evalEach es X.env)) H σ Φ
structure EvL (X : Cx) (es : List Expr) (σ : St) (ds : List AV) (σ' : St) : Prop where
 run : ∀ pos (H : HL) (Φ : List Value → List AV → St → Prop), (∀ vs, vs.length = ds.length → Φ vs ds σ') → WL X.B X.n X.L (spliced (backTo pos (starEach es X.env))) H σ Φ
structure EvD (X : Cx) (ks : List (Option Expr)) (es : List Expr) (σ : St) (l : FL) (σ' : St) : Prop where
 run : ∀ pos (H : HL) (Φ : FL → St → Prop), Φ l σ' → WD X.B X.n X.L (evalPairs (aA X.env pos ks es)) H σ Φ
structure EvP (X : Cx) (e : Option Expr) (σ : St) (d : AV) (σ' : St) : Prop where
 run : ∀ (H : HL) (Φ : PV), (∀ v, Φ v d σ') → WV X.B X.n X.L (evalPart e X.env) H σ Φ
structure bG (X : Cx) (op : CmpOp) (a b : AV) (c : Bool) (σ : St) : Prop where
 run : ∀ (H : HL) va vb (Φ : PV), (va, a) ∈ H → (vb, b) ∈ H → (∀ v, Φ v (.bool c) σ) → WV X.B X.n X.L (compareOp op va vb) H σ Φ
structure jD (X : Cx) (op : Operator) (a b d : AV) (σ : St) : Prop where
 run : ∀ (H : HL) va vb (Φ : PV), (va, a) ∈ H → (vb, b) ∈ H → (∀ v, Φ v d σ) → WV X.B X.n X.L (binaryOp op va vb) H σ Φ
structure q7 (X : Cx) (op : Operator) (a b d : AV) (σ : St) : Prop where
 run : ∀ (H : HL) va vb (Φ : PV), (va, a) ∈ H → (vb, b) ∈ H → (∀ v, Φ v d σ) → WV X.B X.n X.L (inplaceOp op va vb) H σ Φ
structure hY (X : Cx) (a : AV) (c : Bool) (σ : St) : Prop where
 run : ∀ (H : HL) va (Φ : Bool → St → Prop), (va, a) ∈ H → Φ c σ → WB X.B X.n X.L (truthy va) H σ Φ
structure l7 (X : Cx) (o : AV) (name : Str) (d : AV) (σ : St) : Prop where
 run : ∀ (H : HL) vo (Φ : PV), (vo, o) ∈ H → (∀ v, Φ v d σ) → WV X.B X.n X.L (getAttr vo name true) H σ Φ
structure k6 (X : Cx) (o : AV) (name : Str) (d : AV) (σ σ' : St) : Prop where
 run : ∀ (H : HL) vo vd (Φ : St → Prop), (vo, o) ∈ H → (vd, d) ∈ H → Φ σ' → WU X.B X.n X.L (setAttr vo name vd) H σ Φ
structure f9 (X : Cx) (o : AV) (name : Str) (f : Value) (σ : St) : Prop where
 run : ∀ (H : HL) vo pl (Ψ : Value × List Value → Fz → St → Prop), (vo, o) ∈ H → (∀ F, Ψ (f, [vo]) F σ) → W X.B X.n X.L (getMethod vo name pl) H σ Ψ
structure oX (X : Cx) (o : AV) (name : Str) (d : AV) (σ : St) : Prop where
 run : ∀ (H : HL) vo pl (Ψ : Value × List Value → Fz → St → Prop), (vo, o) ∈ H → (∀ v F, Is X.B.P F v d → Ψ (v, []) F σ) → W X.B X.n X.L (getMethod vo name pl) H σ Ψ
structure bY (X : Cx) (value slice : Expr) (o i d : AV) (σ : St) : Prop where
 run : ∀ (H : HL) vo vi (Φ : PV), (vo, o) ∈ H → (vi, i) ∈ H → (∀ v, Φ v d σ) → WV X.B X.n X.L (subscriptTail value slice vo vi) H σ Φ
structure b5 (X : Cx) (f : Value) (ds : List AV) (σ : St) (d : AV) (σ' : St) : Prop where
 run : ∀ (H : HL) vs (Φ : PV), vs.length = ds.length → (∀ p ∈ vs.zip ds, p ∈ H) → (∀ v, Φ v d σ') → WV X.B X.n X.L (call f vs) H σ Φ
structure cL (X : Cx) (f : Value) : Prop where
 run : ∀ (H : HL) (σ : St) first args pos (Φ : PV), (backTo pos (starEach args X.env)).any (·.1) = false →
  WL X.B X.n X.L (spliced (backTo pos (starEach args X.env))) H σ (fun vs ds σ₁ => WV X.B X.n X.L (call f (first ++ vs)) (vs.zip ds ++ H) σ₁ Φ) → WV X.B X.n X.L (callWith pos f first (backTo pos (starEach args X.env)) []) H σ Φ
structure Ex (X : Cx) (s : Stmt) (σ : St) (f : Fl) (σ' : St) : Prop where
 run : ∀ (H : HL) (Φ : PF), Φ f σ' → WF X.B X.n X.L (exec s X.env) H σ Φ
structure ExB (X : Cx) (ss : List Stmt) (σ : St) (f : Fl) (σ' : St) : Prop where
 run : ∀ (H : HL) (Φ : PF), Φ f σ' → WF X.B X.n X.L (execs ss X.env) H σ Φ
structure ExP (X : Cx) (ss : List Stmt) (σ : St) (f : Fl) (σ' : St) : Prop where
 run : ∀ (H : HL) (Φ : PF), Φ f σ' → WPF X.B X.n X.L (execs ss X.env) H σ Φ
structure StR (X : Cx) (x : Str) (d : AV) (σ σ' : St) : Prop where
 run : ∀ (H : HL) v (Φ : St → Prop), (v, d) ∈ H → Φ σ' → WU X.B X.n X.L (storeName X.env x v) H σ Φ
structure AsR (X : Cx) (t : Expr) (d : AV) (σ σ' : St) : Prop where
 run : ∀ (H : HL) v (Φ : St → Prop), (v, d) ∈ H → Φ σ' → WU X.B X.n X.L (assign t X.env v) H σ Φ
section
variable {X : Cx} {σ σ₁ σ₂ σ₃ σ' : St} {d o a b : AV} {f : Value}
theorem hd0 {v : Value} {d : AV} : (v, d) ∈ (v, d) :: H := List.mem_cons_self
theorem hd1 {p : Value × AV} {v : Value} {d : AV} : (v, d) ∈ p :: (v, d) :: H := .tail _ (.head _)
theorem oG {k pos} : Ev X (.Constant .none k pos) σ .none σ := ⟨fun _ _ h => xi (h _)⟩
theorem rp {c k pos} : Ev X (.Constant (.bool c) k pos) σ (.bool c) σ := ⟨fun _ _ h => yQ (h _)⟩
theorem cO {i k pos} : Ev X (.Constant (.int i) k pos) σ (.int i) σ := ⟨fun _ _ h => zx h⟩
theorem bu {l : List Nat} {k pos} (e : x = S l) : Ev X (.Constant (.str x) k pos) σ (.str l) σ := ⟨fun _ _ h => A2 e h⟩
theorem a9 {pos d loc objs} (hm : (x, some d) ∈ loc) (hk : autoParam (X.env.scope.kind = .function) bR) (hl : autoParam (X.env.kindOf x = some .local) bK) (hL : autoParam (X.env.locals = X.L) bR) (hd : autoParam ((x == ("__debug__" : Str)) = false) bK) :
 Ev X (.Name x pos) ⟨loc, objs⟩ d ⟨loc, objs⟩ := ⟨fun _ _ h => mz (σ := ⟨loc, objs⟩) hm h hk hl hL hd⟩
theorem eB {pos v d} (e : nsIn X.B.K mainGlobals x = some (some v)) (c : aW X.B v d) (hk : autoParam (X.env.scope.kind = .function) bR) (hl : autoParam (X.env.kindOf x = some .globalImplicit) bK) (hg : autoParam (X.env.globals = mainGlobals) bR) (hd : autoParam ((x == ("__debug__" : Str)) = false) bK) :
 Ev X (.Name x pos) σ d σ := ⟨fun _ _ h => k9 e c (h _) hk hl hg hd⟩
theorem cg {pos v} (e : nsIn X.B.K mainGlobals x = some (some v)) (hk : autoParam (X.env.scope.kind = .function) bR) (hl : autoParam (X.env.kindOf x = some .globalImplicit) bK) (hg : autoParam (X.env.globals = mainGlobals) bR) (hd : autoParam ((x == ("__debug__" : Str)) = false) bK) :
 EvX X (.Name x pos) σ v (.lit v) := ⟨fun _ _ h => k9 e (aW.lit _ _) h hk hl hg hd⟩
theorem bx {pos v} (hb : bootBuiltins x = some v) (e : nsIn X.B.K mainGlobals x = some none) (hk : autoParam (X.env.scope.kind = .function) bR) (hl : autoParam (X.env.kindOf x = some .globalImplicit) bK) (hg : autoParam (X.env.globals = mainGlobals) bR) (hbl : autoParam (X.env.builtins = builtinsNs) bR)
 (hn : x ≠ ("__name__" : Str) := by (refine bne_iff_ne.mp ?_; kernel_rfl)) (hd : autoParam ((x == ("__debug__" : Str)) = false) bK) : EvX X (.Name x pos) σ v (.lit v) := ⟨fun _ _ h => oo e hb h hk hl hg hbl hn hd⟩
theorem qH {l r op pos c} (h1 : Ev X l σ a σ₁) (h2 : Ev X r σ₁ b σ₂) (h3 : bG X op a b c σ₂) (hm : autoParam (behindInMarks op r = false) bW) : Ev X (.Compare l [op] [r] pos) σ (.bool c) σ₂ :=
 ⟨fun _ _ h => iY (h1.run _ _ fun _ => h2.run _ _ fun _ => h3.run _ _ _ _ hd1 hd0 h) hm⟩
theorem nI {l m r op op' pos c c'} {y : AV} (h1 : Ev X l σ a σ₁) (h2 : Ev X m σ₁ b σ₂) (h3 : bG X op a b c σ₂) (h4 : Ev X r σ₂ y σ₂) (h5 : bG X op' b y c' σ₂)
 (hm : autoParam (markedEach [op, op'] [m, r] (evalEach [m, r] X.env) = [eval m X.env, eval r X.env]) bW) : Ev X (.Compare l [op, op'] [m, r] pos) σ (.bool (c && c')) σ₂ :=
 ⟨fun _ _ h => nP (h1.run _ _ fun _ => h2.run _ _ fun _ => h3.run _ _ _ _ hd1 hd0 fun _ => ⟨c, c', rfl, h4.run _ _ fun _ => h5.run _ _ _ _ hd1 hd0 fun _ => ⟨rfl, rfl⟩, h⟩) hm⟩
theorem fc {l r op pos} (h1 : Ev X l σ a σ₁) (h2 : Ev X r σ₁ b σ₂) (h3 : jD X op a b d σ₂) : Ev X (.BinOp l op r pos) σ d σ₂ := ⟨fun _ _ h => mX (h1.run _ _ fun _ => h2.run _ _ fun _ => h3.run _ _ _ _ hd1 hd0 h)⟩
theorem Cf {es pos} (h1 : EvO X es σ d σ') : Ev X (.BoolOp .Or es pos) σ d σ' := ⟨fun _ _ h => jj (h1.run _ _ _ h)⟩
theorem uV {es pos} (h1 : EvA X es σ d σ') : Ev X (.BoolOp .And es pos) σ d σ' := ⟨fun _ _ h => jj (h1.run _ _ _ h)⟩
theorem sE {e} (h1 : Ev X e σ d σ') : EvO X [e] σ d σ' := ⟨fun _ _ _ h => jt (h1.run _ _ h)⟩
theorem rR {e e' es c c'} (h1 : Ev X e σ (.bool c) σ) (h2 : EvO X (e' :: es) σ (.bool c') σ) : EvO X (e :: e' :: es) σ (.bool (c || c')) σ := ⟨fun _ _ _ h => AY (h1.run _ _ fun _ => ⟨c, rfl, fun q v => by subst q; exact h v, fun q => by subst q; exact h2.run _ _ _ h⟩)⟩
theorem mZ {e} (h1 : Ev X e σ d σ') : EvA X [e] σ d σ' := ⟨fun _ _ _ h => jt (h1.run _ _ h)⟩
theorem nr {e e' es c c'} (h1 : Ev X e σ (.bool c) σ) (h2 : EvA X (e' :: es) σ (.bool c') σ) : EvA X (e :: e' :: es) σ (.bool (c && c')) σ := ⟨fun _ _ _ h => yC (h1.run _ _ fun _ => ⟨c, rfl, fun q v => by subst q; exact h v, fun q => by subst q; exact h2.run _ _ _ h⟩)⟩
theorem dH {es k pos ds} (h1 : EvL X es σ ds σ₁) (hz : ds.length ≤ 16777216) : Ev X (.Tuple es k pos) σ (.tup ds) σ₁ := ⟨fun _ _ h => n8 (h1.run _ _ _ fun _ _ => ⟨hz, h⟩)⟩
theorem nc {es pos ds} (h1 : EvL X es σ ds σ₁) (hz : ds.length ≤ 16777216) : Ev X (.List es pos) σ (.lst ds) σ₁ := ⟨fun _ _ h => tZ (h1.run _ _ _ fun _ _ => ⟨hz, h⟩)⟩
theorem qI {ks es l pos} (h1 : EvD X ks es σ l σ₁) (hn : cu (l.map (·.1)) = true)
 (hs : autoParam ((evalEachOpt ks X.env).zip ((evalEach es X.env).map fun v => do let x ← v; standAt pos; pure x) = (aA X.env pos ks es).map fun p => (some p.1, p.2)) bR)
 (h0 : aA X.env pos ks es ≠ [] := by exact List.cons_ne_nil _ _) (hl : (aA X.env pos ks es).length ≤ 15 := by exact lB0 (by rfl)) : Ev X (.Dict ks es pos) σ (.dct l) σ₁ :=
 ⟨fun _ _ h => rh (h1.run _ _ _ ⟨aP hn, h⟩) hs h0 hl⟩
theorem kY : EvD X [] [] σ [] σ := ⟨fun _ _ _ h => uO h⟩
theorem fQ {kk kp ks v vs l} (h1 : Ev X v σ d σ₁) (h2 : EvD X ks vs σ₁ l σ₂) : EvD X (some (.Constant (.str x) kk kp) :: ks) (v :: vs) σ ((x, d) :: l) σ₂ := ⟨fun _ _ _ h => pK (h1.run _ _ fun _ => h2.run _ _ _ h)⟩
theorem aC : EvL X [] σ [] σ := ⟨fun _ _ _ h => mK (h [] rfl)⟩
theorem aq {e es ds} (h1 : Ev X e σ d σ₁) (h2 : EvL X es σ₁ ds σ₂) (he : autoParam (starEach (e :: es) X.env = (false, eval e X.env) :: starEach es X.env) bR) : EvL X (e :: es) σ (d :: ds) σ₂ :=
 ⟨fun _ _ _ h => mV (h1.run _ _ fun _ => h2.run _ _ _ fun _ hl => h _ (congrArg (· + 1) hl)) he⟩
theorem f4 {e s pos} {i : AV} (h1 : Ev X e σ o σ₁) (h2 : Ev X s σ₁ i σ₂) (h3 : bY X e s o i d σ₂) : Ev X (.Subscript e s pos) σ d σ₂ := ⟨fun _ _ h => vq (h1.run _ _ fun _ => h2.run _ _ fun _ => h3.run _ _ _ _ hd1 hd0 h)⟩
theorem gU {e lo hi p pos x i j} {dl du : AV} (h1 : Ev X e σ (.str x) σ₁) (h2 : EvP X lo σ₁ dl σ₂) (h3 : EvP X hi σ₂ du σ₃) (e1 : fZ dl = some i) (e2 : fZ du = some j) (hz : x.length ≤ 16777216) :
 Ev X (.Subscript e (.Slice lo hi none p) pos) σ (.str (sl x i j)) σ₃ := ⟨fun _ _ h => mC (h1.run _ _ fun _ => h2.run _ _ fun _ => h3.run _ _ fun _ => ⟨x, i, j, rfl, e1, e2, hz, h⟩)⟩
theorem uG : EvP X none σ .none σ := ⟨fun _ _ h => na (h _)⟩
theorem dD {e} (h1 : Ev X e σ d σ₁) : EvP X (some e) σ d σ₁ := ⟨fun _ _ h => mP (h1.run _ _ h)⟩
theorem de {e args pos ds dv} (h1 : EvX X e σ f dv) (hk : cL X f) (h2 : EvL X args σ ds σ₁) (h3 : b5 X f ds σ₁ d σ₂)
 (he : autoParam (eval (.Call e args [] pos) X.env = (do callWith pos (← eval e X.env) [] (backTo pos (starEach args X.env)) [])) bR) (hp : autoParam ((backTo pos (starEach args X.env)).any (·.1) = false) bR) : Ev X (.Call e args [] pos) σ d σ₂ :=
 ⟨fun _ _ h => gr (h1.run _ _ (hk.run _ _ _ _ _ _ hp (h2.run _ _ _ fun _ hl => h3.run _ _ _ hl (fun _ hp => List.mem_append_left _ hp) h))) he⟩
theorem gi {vo : Value} {o : AV} {vs : List Value} : ∀ p ∈ ([vo] ++ vs).zip (o :: ds), p ∈ vs.zip ds ++ ((vo, o) :: H) := fun p hp => by
 rw [List.singleton_append, List.zip_cons_cons] at hp
 rcases mC0 hp with rfl | hp
 · exact List.mem_append_right _ (.head _)
 · exact List.mem_append_left _ hp
theorem pI {name : Str} {apos : Pos} {args : List Expr} {pl : Sem Bool} (h1 : Ev X e σ o σ₁) (hm : f9 X o name f σ₁) (hk : cL X f) (h2 : EvL X args σ₁ ds σ₂) (h3 : b5 X f (o :: ds) σ₂ d σ₃)
 (he : autoParam (eval (.Call (.Attribute e name apos) args [] pos) X.env = (do
  let ov ← eval e X.env
  standAt apos.atName
  let (f, first) ← holding [ov] (getMethod ov name pl)
  callWith pos f first (backTo pos (starEach args X.env)) [])) bR) (hp : autoParam ((backTo pos (starEach args X.env)).any (·.1) = false) bR) : Ev X (.Call (.Attribute e name apos) args [] pos) σ d σ₃ :=
 ⟨fun _ _ h => kT (h1.run _ _ fun _ => hm.run _ _ _ _ hd0 fun _ => hk.run _ _ _ _ _ _ hp (h2.run _ _ _ fun _ hl => h3.run _ _ _ (by rw [List.length_append, List.length_singleton, List.length_cons, hl, Nat.add_comm]) gi h)) he⟩
theorem dg {l r : Expr} {op : CmpOp} (h1 : Ev X l σ a σ₁) (h2 : Ev X r σ₁ b σ₂) (h3 : bG X op a b c σ₂) (hm : autoParam (behindInMarks op r = false) bW) : Te X (.Compare l [op] [r] pos) σ c σ₂ :=
 ⟨fun _ _ h => iM (h1.run _ _ fun _ => h2.run _ _ fun _ => h3.run _ _ _ _ hd1 hd0 fun _ => ⟨c, rfl, h⟩) hm⟩
theorem Ai (h1 : Ev X e σ d σ₁) (h2 : hY X d c σ₁) (hs : ∀ whole, isTrue e X.env whole = (do let v ← whole; standAt e.pos; holding [v] (truthy v)) := by with_unfolding_all exact fun _ => rfl) : Te X e σ c σ₁ :=
 ⟨fun _ _ h => jC (h1.run _ _ fun _ => h2.run _ _ _ hd0 h) hs⟩
theorem uW (h1 : TeA X (e :: es) σ c σ₁) : Te X (.BoolOp .And (e :: es) pos) σ c σ₁ := ⟨fun _ _ h => uT (h1.run _ _ h)⟩
theorem BE (h1 : TeO X (e :: es) σ c σ₁) : Te X (.BoolOp .Or (e :: es) pos) σ c σ₁ := ⟨fun _ _ h => yX (h1.run _ _ h)⟩
theorem oJ : TeA X [] σ true σ := ⟨fun _ _ h => kj h⟩
theorem yH : TeO X [] σ false σ := ⟨fun _ _ h => nq h⟩
theorem gK {c' : Bool} (h1 : Te X e σ c σ) (h2 : TeA X es σ c' σ) : TeA X (e :: es) σ (c && c') σ := ⟨fun _ _ h => gh (h1.run _ _ ⟨fun q => by subst q; exact h2.run _ _ h, fun q => by subst q; exact h⟩)⟩
theorem mc {c' : Bool} (h1 : Te X e σ c σ) (h2 : TeO X es σ c' σ) : TeO X (e :: es) σ (c || c') σ := ⟨fun _ _ h => iF (h1.run _ _ ⟨fun q => by subst q; exact h, fun q => by subst q; exact h2.run _ _ h⟩)⟩
theorem gE (h1 : Ev X e σ d σ₁) : Ex X (.Return (some e) pos) σ (.ret d) σ₁ := ⟨fun _ _ h => ig (h1.run _ _ fun _ => h)⟩
theorem iB (h1 : Ev X e σ d σ₁) (h2 : StR X x d σ₁ σ₂) (hs : autoParam (swapsWith e (some (.Name x p)) pos.line X.env = pure false) bR) : Ex X (.Assign [.Name x p] e pos) σ .next σ₂ :=
 ⟨fun _ _ h => cX (h1.run _ _ fun _ => h2.run _ _ _ hd0 h) hs⟩
theorem vF {attr : Str} (h1 : Ev X e σ d σ₁) (h2 : Ev X t σ₁ o σ₂) (h3 : k6 X o attr d σ₂ σ₃) (hs : autoParam (swapsWith e (some (.Attribute t attr p)) pos.line X.env = pure false) bR) : Ex X (.Assign [.Attribute t attr p] e pos) σ .next σ₃ :=
 ⟨fun _ _ h => cU (h1.run _ _ fun _ => h2.run _ _ fun _ => h3.run _ _ _ _ hd0 hd1 h) hs⟩
theorem Af {t1 t2 : Expr} {k : Nat} {d1 d2 : AV} (h1 : Ev X e σ (.tup [d1, d2]) σ₁) (h2 : AsR X t1 d1 σ₁ σ₂) (h3 : AsR X t2 d2 σ₂ σ₃)
 (hs : autoParam (swapsWithSole [.Tuple [t1, t2] k p] e pos.line X.env = pure false) bR) (hw : autoParam (swappedStores [.Tuple [t1, t2] k p] e X.env = pure none) bR)
 (he : autoParam (assignEach [t1, t2] X.env = [(false, assign t1 X.env), (false, assign t2 X.env)]) bR) : Ex X (.Assign [.Tuple [t1, t2] k p] e pos) σ .next σ₃ :=
 ⟨fun _ _ h => gg (h1.run _ _ fun _ => ⟨d1, d2, rfl, fun _ _ => h2.run _ _ _ hd0 (h3.run _ _ _ hd1 h)⟩) hs hw he⟩
theorem re : ExB X [] σ .next σ := ⟨fun _ _ h => uS h⟩
theorem ej {fl : Fl} (h1 : Ex X s σ .next σ₁) (h2 : ExB X ss σ₁ fl σ₂) : ExB X (s :: ss) σ fl σ₂ := ⟨fun _ Φ h => cB (h1.run _ _ (h2.run _ Φ h))⟩
theorem gy (h1 : Ex X s σ (.ret d) σ₁) : ExB X (s :: ss) σ (.ret d) σ₁ := ⟨fun H Φ h => cB (h1.run _ (fE X.B X.n X.L ss X.env H Φ) h)⟩
end
end
section
variable {c : Nat} {id : String} {p : Pos} {d1 : AV} {ss : List Stmt}
section
variable {X : Cx} {σ σ₁ σ₂ σ₃ σ' : St} {d o a b : AV} {f : Value} {loc loc' : LL} {objs objs' : OL} {x y : List Nat} {i j : Int} {ms : List (List Nat)} {l : List AV}
theorem yw : bG X .Lt (.int i) (.int j) (decide (i < j)) σ := ⟨fun _ _ _ _ ma mb h => BU ma mb h⟩
theorem C4 : bG X .LtE (.int i) (.int j) (decide (i ≤ j)) σ := ⟨fun _ _ _ _ ma mb h => Bw ma mb h⟩
theorem B6 : bG X .Gt (.int i) (.int j) (decide (j < i)) σ := ⟨fun _ _ _ _ ma mb h => BQ ma mb h⟩
theorem Bc : bG X .GtE (.int i) (.int j) (decide (j ≤ i)) σ := ⟨fun _ _ _ _ ma mb h => B3 ma mb h⟩
theorem B8 : bG X .Eq (.int i) (.int j) (decide (i = j)) σ := ⟨fun _ _ _ _ ma mb h => Bh ma mb h⟩
theorem BA : bG X .NotEq (.int i) (.int j) (!decide (i = j)) σ := ⟨fun _ _ _ _ ma mb h => Bm ma mb h⟩
theorem f1 : bG X .Eq (.str x) (.str y) (decide (x = y)) σ := ⟨fun _ _ _ _ ma mb h => zo ma mb h⟩
theorem qO : bG X .NotEq (.str x) (.str y) (!decide (x = y)) σ := ⟨fun _ _ _ _ ma mb h => zN ma mb h⟩
theorem Ab {p q : Bool} : bG X .Eq (.bool p) (.bool q) (p == q) σ := ⟨fun _ _ _ _ ma mb h => Ak ma mb h⟩
theorem wH (hy : PyData.strOk (S y) = true) : bG X .Eq .none (.str y) false σ := ⟨fun _ _ _ _ ma mb h => pV ma mb rfl rfl (by simp [SeqAt.shaped, PyData.canLay0, PyData.depth]) (by simp [SeqAt.shaped, PyData.canLay0, PyData.depth, hy]) (by simp [PyData.eqv]) h⟩
theorem Cg {c : Bool} (hd : ∀ P F v, Is P F v a → (v == Value.none) = c) : bG X .Is a .none c σ := ⟨fun _ _ _ _ ma mb h => pS ma mb hd h⟩
theorem xY {c : Bool} (hd : ∀ P F v, Is P F v a → (v == Value.none) = c) : bG X .IsNot a .none (!c) σ := ⟨fun _ _ _ _ ma mb h => jW ma mb hd h⟩
theorem AA (e : aG l = some ms) : bG X .In (.str x) (.tup l) (decide (x ∈ ms)) σ := ⟨fun _ _ _ _ ma mb h => ve ma mb e h⟩
theorem wu (e : aG l = some ms) : bG X .NotIn (.str x) (.tup l) (!decide (x ∈ ms)) σ := ⟨fun _ _ _ _ ma mb h => pE ma mb e h⟩
theorem Ah {ks : List Int} (e : ip l = some ks) : bG X .In (.int i) (.tup l) (decide (i ∈ ks)) σ := ⟨fun _ _ _ _ ma mb h => Ac ma mb e h⟩
theorem vk : bG X .In (.str [c]) (.str x) (decide (c ∈ x)) σ := ⟨fun _ _ _ _ ma mb h => uP ma mb h⟩
theorem i5 : jD X .Add (.int i) (.int j) (.int (i + j)) σ := ⟨fun _ _ _ _ ma mb h => zE ma mb h⟩
theorem oM : jD X .Sub (.int i) (.int j) (.int (i - j)) σ := ⟨fun _ _ _ _ ma mb h => Al ma mb h⟩
theorem vc (hj : j ≠ 0) : jD X .Mod (.int i) (.int j) (.int (i.fmod j)) σ := ⟨fun _ _ _ _ ma mb h => A7 ma mb hj h⟩
theorem ye (hz : x.length + y.length ≤ 16777216) : jD X .Add (.str x) (.str y) (.str (x ++ y)) σ := ⟨fun _ _ _ _ ma mb h => xl ma mb hz h⟩
theorem zC : q7 X .Add (.int i) (.int j) (.int (i + j)) σ := ⟨fun _ _ _ _ ma mb h => y7 ma mb h⟩
theorem AM : q7 X .Sub (.int i) (.int j) (.int (i - j)) σ := ⟨fun _ _ _ _ ma mb h => xx ma mb h⟩
theorem xN (hz : x.length + y.length ≤ 16777216) : q7 X .Add (.str x) (.str y) (.str (x ++ y)) σ := ⟨fun _ _ _ _ ma mb h => ub ma mb hz h⟩
theorem jy {c : Bool} : hY X (.bool c) c σ := ⟨fun _ _ _ m h => fx m h⟩
theorem wq : hY X .none false σ := ⟨fun _ _ _ m h => xC m h⟩
theorem zf : hY X (.int i) (!decide (i = 0)) σ := ⟨fun _ _ _ m h => z7 m h⟩
theorem zZ (hz : x.length ≤ 16777216) : hY X (.str x) (!decide (x = [])) σ := ⟨fun _ _ _ m h => zY m hz h⟩
theorem yO {s : Addr} : hY X (.meth g s) true σ := ⟨fun _ _ _ m h => vQ m h⟩
theorem vS {c : Addr} (m : (c, AO.list l) ∈ objs) (hz : l.length ≤ 16777216) : hY X (.ref c) (!l.isEmpty) ⟨loc, objs⟩ := ⟨fun _ _ _ mv h => vB (σ := ⟨loc, objs⟩) mv m hz h⟩
variable {s : Addr} {C dx : Addr} {fs fs' : FL} {name : Str} {g : Addr}
theorem AG (m : (s, AO.inst C dx fs) ∈ objs) (hf : bp name fs = none) (ho : bP X.B.K C name g = true) : l7 X (.ref s) name (.meth g s) ⟨loc, objs⟩ := ⟨fun _ _ _ mv h => rM (σ := ⟨loc, objs⟩) mv m ho hf h⟩
theorem A4 (m : (s, AO.inst C dx fs) ∈ objs) (hf : bp name fs = none) (ho : ie X.B.K C name = some i) : l7 X (.ref s) name (.int i) ⟨loc, objs⟩ := ⟨fun _ _ _ mv h => pW (σ := ⟨loc, objs⟩) mv m ho hf h⟩
theorem kE (m : (s, AO.inst C dx fs) ∈ objs) (hp : gG name d fs fs') (hc : Chg s (.inst C dx fs) (.inst C dx fs') objs objs') (ho : dr X.B.K C name = true) (hz : fs.length ≤ 900 := by simp) : k6 X (.ref s) name d ⟨loc, objs⟩ ⟨loc, objs'⟩ :=
 ⟨fun _ _ _ _ mv md h => As mv md m hp hc ho hz h⟩
theorem lq (m : (s, AO.inst C dx fs) ∈ objs) (hf : bp name fs = none) (ho : bP X.B.K C name g = true) : f9 X (.ref s) name (.ref g) ⟨loc, objs⟩ := ⟨fun _ _ _ _ mv h => p7 (σ := ⟨loc, objs⟩) mv m ho hf h⟩
theorem rl (slot : Slot "str" name id) (ty : typeOf (.builtin id) = pure (.type "method_descriptor")) : f9 X (.str x) name (.builtin id) σ := ⟨fun _ _ _ _ mv h => Am mv slot ty h⟩
theorem yS {c : Addr} (m : (c, AO.list l) ∈ objs) (slot : Slot "list" name id) (ty : typeOf (.builtin id) = pure (.type "method_descriptor")) : f9 X (.ref c) name (.builtin id) ⟨loc, objs⟩ := ⟨fun _ _ _ _ mv h => wK (σ := ⟨loc, objs⟩) mv m slot ty h⟩
theorem Ao (m : (s, AO.inst C dx fs) ∈ objs) (hf : o6 name d fs) (ho : cR X.B.K C name = true) (hn : findIn X.B.K (.ref C) name = some none) (hd : dw d = true) : oX X (.ref s) name d ⟨loc, objs⟩ := ⟨fun _ _ _ _ mv h => gx (σ := ⟨loc, objs⟩) mv m ho hn hf.eq hd h⟩
theorem bH {nm : Str} (m : e5 nm d loc loc') (hl : autoParam (X.env.kindOf nm = some .local) bK) (hL : autoParam (X.env.locals = X.L) bR) (hp : autoParam ((X.env.scope.kind == .class || (X.env.scope.kind == .module && X.env.locals != X.env.globals)) = false) bR) : StR X nm d ⟨loc, objs⟩ ⟨loc', objs⟩ :=
 ⟨fun _ _ _ md h => gB md m h hl hL hp⟩
theorem bN {nm : Str} (h1 : StR X nm d σ σ') : AsR X (.Name nm p) d σ σ' := ⟨fun _ _ _ md h => jo (h1.run _ _ _ md h)⟩
variable {e1 e2 : Expr} {k : Nat}
theorem rn (hc : at? x i = some c) (hz : x.length ≤ 16777216) (hs : ∀ o i, ∃ ops, subscripted e2 false o i = operate ops (getItem o i) := by exact fun _ _ => ⟨_, rfl⟩) : bY X e1 e2 (.str x) (.int i) (.str [c]) σ := ⟨fun _ _ _ _ mo mi h => zB mo mi hc hz h (hs _ _)⟩
theorem pD {fs : FL} (hd : bp (S x) fs = some d) (hs : ∀ o i, ∃ ops, subscripted e2 false o i = operate ops (getItem o i) := by exact fun _ _ => ⟨_, rfl⟩) : bY X e1 e2 (.dct fs) (.str x) d σ := ⟨fun _ _ _ _ mo mi h => AX mo mi hd h (hs _ _)⟩
theorem cF (hk : keepIn X.B.K (.ref g) = true) : cL X (.ref g) := ⟨fun _ _ _ _ _ _ hp h => gT hk h hp⟩
theorem dU : cL X (.builtin id) := ⟨fun _ _ _ _ _ _ hp h => u9 h hp⟩
theorem vh {T : String} : cL X (.type T) := ⟨fun _ _ _ _ _ _ hp h => sT h hp⟩
theorem r_J {m : Nat} {ds : List AV} (c : aa X.B m g ds objs fun d' o' => d' = d ∧ o' = objs') (hm : m ≤ X.n) : b5 X (.ref g) ds ⟨loc, objs⟩ d ⟨loc, objs'⟩ := ⟨fun _ _ _ hl hp h => fL c hm hl hp fun d' o' e v => by obtain ⟨rfl, rfl⟩ := e; exact h v⟩
theorem d7 {α : Type} {n : Nat} {l : List α} (e : l.length = n + 1) : ∃ a r, l = a :: r ∧ r.length = n := by
 induction l using List.casesOn with
 | nil => contradiction
 | cons a r => exact ⟨a, r, rfl, Nat.succ.inj e⟩
theorem jG {α : Type} {l : List α} (e : l.length = 0) : l = [] := List.eq_nil_of_length_eq_zero e
theorem mq (h : ∀ (H : HL) v (Φ : PV), (v, d1) ∈ H → (∀ w, Φ w d σ') → WV X.B X.n X.L (call f [v]) H σ Φ) : b5 X f [d1] σ d σ' := ⟨fun H vs Φ hl hp k => by
 refine x22 (d7 hl) ?_; rintro v r rfl hl1
 cases jG hl1
 exact h H v Φ (hp _ (.head _)) k⟩
theorem gz {d2 : AV} (h : ∀ (H : HL) v w (Φ : PV), (v, d1) ∈ H → (w, d2) ∈ H → (∀ w, Φ w d σ') → WV X.B X.n X.L (call f [v, w]) H σ Φ) : b5 X f [d1, d2] σ d σ' := ⟨fun H vs Φ hl hp k => by
 refine x22 (d7 hl) ?_; rintro v r rfl hl1
 refine x22 (d7 hl1) ?_; rintro w r rfl hl2
 cases jG hl2
 exact h H v w Φ (hp _ (.head _)) (hp _ (.tail _ (.head _))) k⟩
theorem vj {d2 d3 d4 : AV} (h : ∀ (H : HL) v1 v2 v3 v4 (Φ : PV), (v1, d1) ∈ H → (v2, d2) ∈ H → (v3, d3) ∈ H → (v4, d4) ∈ H → (∀ w, Φ w d σ') → WV X.B X.n X.L (call f [v1, v2, v3, v4]) H σ Φ) : b5 X f [d1, d2, d3, d4] σ d σ' := ⟨fun H vs Φ hl hp k => by
 refine x22 (d7 hl) ?_; rintro v1 r rfl hl1
 refine x22 (d7 hl1) ?_; rintro v2 r rfl hl2
 refine x22 (d7 hl2) ?_; rintro v3 r rfl hl3
 refine x22 (d7 hl3) ?_; rintro v4 r rfl hl4
 cases jG hl4
 exact h H v1 v2 v3 v4 Φ (hp _ (.head _)) (hp _ (.tail _ (.head _))) (hp _ (.tail _ (.tail _ (.head _)))) (hp _ (.tail _ (.tail _ (.tail _ (.head _))))) k⟩
theorem fo (hz : x.length ≤ 16777216) : b5 X (.builtin "len") [.str x] σ (.int x.length) σ := mq fun _ _ _ m h => xP m hz h
theorem vZ {c : Addr} (m : (c, AO.list l) ∈ objs) (hz : l.length ≤ 16777216) : b5 X (.builtin "len") [.ref c] ⟨loc, objs⟩ (.int l.length) ⟨loc, objs⟩ := mq fun _ _ _ mv h => vT (σ := ⟨loc, objs⟩) mv m hz h
theorem AR : b5 X (.builtin "ord") [.str [c]] σ (.int c) σ := mq fun _ _ _ m h => AF m h
theorem tB : b5 X (.builtin "str.count") [.str x, .str [c], .int 0, .int i] σ (.int (bD c x i)) σ := vj fun _ _ _ _ _ _ m1 m2 m3 m4 h => pO m1 m2 m3 m4 h
theorem sL : b5 X (.builtin "str.rfind") [.str x, .str [c], .int 0, .int i] σ (.int (d5 c x i)) σ := vj fun _ _ _ _ _ _ m1 m2 m3 m4 h => qG m1 m2 m3 m4 h
theorem qk {c : Addr} (m : Chg c (.list l) (.list (l ++ [d])) objs objs') (hz : l.length ≤ 16777216) : b5 X (.builtin "list.append") [.ref c, d] ⟨loc, objs⟩ .none ⟨loc, objs'⟩ := gz fun _ _ _ _ mv md h => iA (σ := ⟨loc, objs⟩) mv md m hz (h _)
theorem pR {c : Addr} (m : (c, AO.list l) ∈ objs) (e : aG l = some ms) (hz : ms.flatten.length ≤ 16777216) : b5 X (.builtin "str.join") [.str [], .ref c] ⟨loc, objs⟩ (.str ms.flatten) ⟨loc, objs⟩ := gz fun _ _ _ _ mv md h => wd (σ := ⟨loc, objs⟩) mv md m e hz h
theorem gw {st : Stmt} (h1 : Ex X st σ .next σ₁) (h2 : ExP X ss σ₁ fl σ₂) : ExP X (st :: ss) σ fl σ₂ := ⟨fun H Φ h => zz (h1.run _ (dY X.B X.n X.L ss X.env H Φ) (h2.run _ Φ h))⟩
theorem xO (h1 : ExB X ss σ fl σ₁) : ExP X ss σ fl σ₁ := ⟨fun _ _ h => AE (h1.run _ _ h)⟩
theorem tD {i : Int} {kk : Nat} {kp : Pos} {t : Expr} {attr : Str} {pos : Pos} (h1 : Ev X t σ o σ₁) (h2 : k6 X o attr (.int i) σ₁ σ₂) (h3 : ExP X ss σ₂ fl σ₃) : ExB X (.Assign [.Attribute t attr p] (.Constant (.int i) kk kp) pos :: ss) σ fl σ₃ :=
 ⟨fun H Φ h => rS fun _ => h1.run _ _ fun _ => h2.run _ _ _ _ hd0 hd1 (h3.run H Φ h)⟩
theorem ic {u v : Str} {ca cb : Str} {la lb l : List Nat} {q ap pos pos' : Pos} {ka kb : Nat} {pa pb : Pos} (ea : ca = S la) (eb : cb = S lb) (m : (v, some (.str l)) ∈ loc) (sl : e5 u (.str (eF l la lb)) loc loc')
 (hz : l.length ≤ 1048576) (h : ExP X ss ⟨loc', objs⟩ fl σ') (hb : lb.length ≤ 14 := by decide) (hk : autoParam (X.env.scope.kind = .function) bR) (hy : autoParam (X.env.kindOf v = some .local) bK) (hx : autoParam (X.env.kindOf u = some .local) bK) (hL : autoParam (X.env.locals = X.L) bR) (hd : autoParam ((v == ("__debug__" : Str)) = false) bK)
 (hp : autoParam ((X.env.scope.kind == .class || (X.env.scope.kind == .module && X.env.locals != X.env.globals)) = false) bR) (hne : (S la == S lb) = false := by decide) (hline : autoParam ((ap.endLine == pos'.line) = true) bR)
 (hs : autoParam (swapsWith (.Call (.Attribute (.Name v q) "replace" ap) [.Constant (.str ca) ka pa, .Constant (.str cb) kb pb] [] pos') (some (.Name u p)) pos.line X.env = pure false) bR) :
 ExP X (.Assign [.Name u p] (.Call (.Attribute (.Name v q) "replace" ap) [.Constant (.str ca) ka pa, .Constant (.str cb) kb pb] [] pos') pos :: ss) ⟨loc, objs⟩ fl σ' := ⟨fun H Φ k => nU ea eb m sl hz hb hk hy hx hL hd hp hne hline (h.run H Φ k) hs⟩
end
section
variable {X : Cx} {σ σ₁ σ' : St} {d : AV} {fl f₁ : Fl}
noncomputable def SqB (X : Cx) (ss : List Stmt) : Fl → St → PF
 | .next, σ, fl, σ' => ExB X ss σ fl σ'
 | f, σ, fl, σ' => fl = f ∧ σ' = σ
noncomputable def AJ : Fl → AV → Prop
 | .ret d, e => d = e
 | .next, e => e = .none
 | _, _ => False
end
theorem ow {B : ab} {n : Nat} {objs objs' : OL} {name qual : Str} {params : Arguments} {body body' : List Stmt} {scope scope' : Scope} {dV kV doc pm cdv ct oc : Value} {an od : Option Addr} {osl : Array (Option Value)} {f : Addr} {args ds : List AV} {d : AV} {loc : LL} (ps xs : List Str)
 (ho : B.K.lookup f = some ⟨oc, od, .func (fnOf name qual params body scope dV kV doc pm an cdv ct), osl⟩) (hcd : codeIn B.K cdv qual = true)
 (hb : bm B (fnOf name qual params body scope dV kV doc pm an cdv ct) ps args ds) (h : ∀ L, ∃ fl loc' o', ExB ⟨B, n, L, envOf qual scope' L f cdv⟩ body' ⟨loc, objs⟩ fl ⟨loc', o'⟩ ∧ AJ fl d ∧ o' = objs')
 (eb : body = body' := by (conv => lhs; whnf)) (es : scope = scope' := by (conv => lhs; whnf))
 (hloc : bL ps ds ++ bare xs = loc := by simp only [bL, bare, List.map_cons, List.map_nil, List.cons_append, List.nil_append] <;> rfl) (hl : autoParam (ps.length = ds.length) bR) (hn : (ps ++ xs).Nodup := by decide) (hps : autoParam (ps.all (fun y => scope'.names.lookup y == some .local) = true) bR)
 (hco : autoParam (scope'.isCoroutine = false) bR) (hgen : autoParam (scope'.isGenerator = false) bR) (hk : autoParam (scope'.kind = .function) bR) (hcell : ∀ x ∈ scope'.names, x.2 ≠ .cell := by decide) : aa B (n + 1) f args objs fun d' o => d' = d ∧ o = objs' :=
 rT ps xs ho hcd hb (fun L => by
 refine x33 (h L) ?_; rintro fl loc' o' e r rfl
 refine e.run _ _ ?_
 cases fl with
 | ret d => exact ⟨r, rfl⟩
 | next => exact ⟨r.symm, rfl⟩
 | brk => exact r.elim
 | cont => exact r.elim) eb es hloc hl hn hps hco hgen hk hcell
end
section
variable {X : Cx} {σ : St}
theorem Cs {a b : Nat} (h : a ≤ b) : a ≤ b := h
theorem BN {b : Bool} (h : b = true) : b = true := h
theorem Cm {e : Expr} {σ' : St} {d : AV} (h : Ev X e σ d σ') : Ev X e σ d σ' := h
theorem Cn {e : Stmt} {σ' : St} {f : Fl} (h : Ex X e σ f σ') : Ex X e σ f σ' := h
theorem Bd {op : CmpOp} {a b : AV} {c : Bool} (h : bG X op a b c σ) : bG X op a b c σ := h
theorem ne1 {z k : Nat} (h : z ≠ k) : decide ([z] = [k]) = false := decide_eq_false fun q => h (List.cons.inj q).1
theorem B1 {p : Prop} (h : p) : p := h
end
section
variable {d : AV} {b : Bool} {e : List Expr} {v : Value}
section
variable {X : Cx} {σ σ' : St}
theorem Bn {es : List Expr} {ds : List AV} (h : EvL X es σ ds σ') : EvL X es σ ds σ' := h
theorem BB {e : Option Expr} (h : EvP X e σ d σ') : EvP X e σ d σ' := h
theorem BS {ss : List Stmt} {f : Fl} (h : ExB X ss σ f σ') : ExB X ss σ f σ' := h
theorem Bp {ss : List Stmt} {f f' : Fl} (h : SqB X ss f σ f' σ') : SqB X ss f σ f' σ' := h
theorem Ct {e : Expr} (h : Te X e σ b σ') : Te X e σ b σ' := h
theorem Cc (h : TeA X e σ b σ') : TeA X e σ b σ' := h
theorem BK (h : TeO X e σ b σ') : TeO X e σ b σ' := h
theorem BC (h : EvO X e σ d σ') : EvO X e σ d σ' := h
theorem Bu (h : EvA X e σ d σ') : EvA X e σ d σ' := h
theorem C3 {ks : List (Option Expr)} {l : FL} (h : EvD X ks e σ l σ') : EvD X ks e σ l σ' := h
theorem Co {c : Bool} {p q : Prop} (h : Br c p q) : Br c p q := h
theorem Bx {x : Str} (h : StR X x d σ σ') : StR X x d σ σ' := h
theorem BP {x : Expr} (h : AsR X x d σ σ') : AsR X x d σ σ' := h
theorem B0 {op : Operator} {a b : AV} (h : jD X op a b d σ) : jD X op a b d σ := h
theorem zi {e1 e2 : Expr} {a b : AV} (h : bY X e1 e2 a b d σ) : bY X e1 e2 a b d σ := h
theorem z0 (h : cL X v) : cL X v := h
theorem Ap {o : AV} {x : Str} (h : f9 X o x v σ) : f9 X o x v σ := h
theorem A5 {f : Value} {ds : List AV} (h : b5 X f ds σ d σ') : b5 X f ds σ d σ' := h
theorem Cl (h : σ = σ') : σ = σ' := h
theorem Cp {α : Sort _} {p : α → Prop} (h : ∃ x, p x) : ∃ x, p x := h
theorem Cu {α : Sort _} {p : α → Prop} (h : ∀ x, p x) : ∀ x, p x := h
theorem B2 {e : Expr} (h : EvX X e σ v d) : EvX X e σ v d := h
end
end
section
noncomputable abbrev bt (acc : List Nat) : AO := .dict [("type", .int 6), ("data", .str acc)]
noncomputable abbrev aD (acc : List Nat) : AV := .dct [("type", .int 6), ("data", .str acc)]
section
variable {X : Cx} {σ σ₁ : St} {a c : Addr} {loc loc' : LL} {objs objs' objs'' : OL} {acc y : List Nat} {l : FL} {ks : List AV}
theorem q6 (tk : dX a (.dict l) objs objs') (m : Chg c (.list ks) (.list (ks ++ [.dct l])) objs' objs'') (hz : ks.length ≤ 16777216) : b5 X (.builtin "list.append") [.ref c, .ref a] ⟨loc, objs⟩ .none ⟨loc, objs''⟩ :=
 gz fun _ _ _ _ mv md h => AT md tk (iA (σ := ⟨loc, objs'⟩) (.tail _ mv) (.head _) m hz (h _))
end
theorem B7 {p : Addr × AO} {l : OL} (h : p ∈ l) : p ∈ l := h
theorem Be {a : Addr} {o o' : AO} {l l' : OL} (h : Chg a o o' l l') : Chg a o o' l l' := h
end
section
noncomputable def Mk {α : Type} (t : Sem α) : Prop := ∀ (M : Model) (Γ : Ctx) {Q : α → Pos → Shared → Prop} {E : Value → Pos → Shared → Prop} {p : Pos} {s : Shared}, Sem.wp M Γ t Q E p s → Sem.wp M Γ t (fun a p' s' => 0 < s'.toks ∧ Q a p' s') E p s
section
variable {α β : Type}
theorem Mk.fst {t : Sem α} {k : α → Sem β} (h : Mk t) : Mk (t >>= k) := fun M Γ {Q E p s} w => by
 rw [Sem.wp_bind'] at w ⊢
 exact Sem.wp_mono M Γ t (fun a p' s' ⟨ht, q⟩ => mW M Γ (k a) 1 ht q) (fun _ _ _ e => e) p s (h M Γ w)
theorem Mk.snd {t : Sem α} {k : α → Sem β} (h : ∀ a, Mk (k a)) : Mk (t >>= k) := fun M Γ {Q E p s} w => by
 rw [Sem.wp_bind'] at w ⊢
 exact Sem.wp_mono M Γ t (fun a p' s' q => h a M Γ q) (fun _ _ _ e => e) p s w
theorem Mk.hold {vs : List Value} {t : Sem α} (h : Mk t) : Mk (holding vs t) := fun M Γ {Q E p s} w => by
 rw [Sem.wp_holding] at w ⊢
 exact h M Γ w
theorem Mk.str {x : Str} {k pos} {env : Env} : Mk (eval (.Constant (.str x) k pos) env) := fun M Γ {Q E p s} w => ⟨Nat.succ_pos _, w⟩
theorem Mk.args {f : Value} {x : Sem Value} {rest : List (Bool × Sem Value)} (h : Mk x) : Mk (evalArgs f true ((false, x) :: rest) []) := by
 unfold evalArgs
 refine Mk.fst ?_
 exact h.fst
theorem Mk.callW {pos : Pos} {f : Value} {first : List Value} {x : Sem Value} {rest : List (Bool × Sem Value)} (h : Mk x) : Mk (callWith pos f first ((false, x) :: rest) []) := by
 unfold callWith
 exact (Mk.args h).hold.fst
end
section
variable {B : ab} {n : Nat} {L : Addr} {H : HL} {σ : St} {env : Env}
theorem BV {st : Stmt} {rest : List Stmt} {Φ : PF} (mk : Mk (exec st env)) (h : WF B n L (exec st env) H σ (dY B n L rest env H Φ)) : WF B n L (execs (st :: rest) env) H σ Φ := ae fun A F s hA x => by
 rw [execs_cons]
 have w := h.run A F s hA x
 refine wpAny_bind (wpAny_mono (Q := fun f s' => 0 < s'.toks ∧ am B L H σ F s s' fun F' σ' => ∃ e, iz B.P F' f e ∧ dY B n L rest env H Φ e σ') (fun Γ p hΓ => mk B.M Γ (w Γ p hΓ)) (fun f s₁ z => ?_) fun _ _ z => z)
 have := eM (s₁ := s₁) hA z.1 z.2
 rcases f with _ | _ <;> exact this
theorem Mk.assignCall {x : Str} {e : Expr} {name : Str} {c : Str} {k : Nat} {kp p apos pos' pos : Pos} {pl : Sem Bool} (hs : swapsWith (.Call (.Attribute e name apos) [.Constant (.str c) k kp] [] pos') (some (.Name x p)) pos.line env = pure false)
 (he : eval (.Call (.Attribute e name apos) [.Constant (.str c) k kp] [] pos') env = (do
  let ov ← eval e env
  standAt apos.atName
  let (f, first) ← holding [ov] (getMethod ov name pl)
  callWith pos' f first (backTo pos' (starEach [.Constant (.str c) k kp] env)) [])) : Mk (exec (.Assign [.Name x p] (.Call (.Attribute e name apos) [.Constant (.str c) k kp] [] pos') pos) env) := by
 rw [exec_Assign_Name env x p _ pos hs, he]
 refine Mk.snd fun _ => Mk.fst (Mk.snd fun ov => Mk.snd fun _ => Mk.snd fun fp => ?_)
 exact Mk.callW (Mk.str (x := c) (k := k) (pos := kp) (env := env))
end
theorem C2 {X : Cx} {σ σ₁ σ₂ : St} {st : Stmt} {ss : List Stmt} {fl : Fl} (mk : Mk (exec st X.env)) (h1 : Ex X st σ .next σ₁) (h2 : ExP X ss σ₁ fl σ₂) : ExB X (st :: ss) σ fl σ₂ := ⟨fun H Φ h => BV mk (h1.run _ (dY X.B X.n X.L ss X.env H Φ) (h2.run _ Φ h))⟩
end
section
section
variable {B : ab} {n : Nat} {L : Addr} {H : HL} {σ : St} {env : Env}
theorem wY {value slice : Expr} {o i : Value} {a : Addr} {l : List AV} {d : AV} {Φ : PV} (mo : (o, .ref a) ∈ H) (ma : (a, AO.list (l ++ [d])) ∈ σ.objs) (mi : (i, .int (-1)) ∈ H) (hz : l.length ≤ 16777000) (h : ∀ v, Φ v d σ)
 (hs : ∃ ops, subscripted slice false o i = operate ops (getItem o i)) : WV B n L (subscriptTail value slice o i) H σ Φ := by
 refine cv (T := "list") (fun F s X => ?_) slot_list_getitem.lookup (ae fun A F s hA X => ?_) hs
 · obtain rfl := aE (X.hold mo); refine x22 (X.objs _ ma) ?_; rintro vs q h1 h2; exact ⟨_, h1, rfl⟩
 · obtain rfl := aE (X.hold mo)
   refine x22 (X.objs _ ma) ?_; rintro vs q h1 h2
   obtain ⟨u, rfl⟩ := au (X.hold mi)
   have hlen := h2.length
   rw [List.length_append, List.length_singleton] at hlen
   refine x12 (f0.nth h2 (k := l.length) (d := d) (by simp)) ?_; rintro y hy hyd
   refine wpAny_getItem_list_neg (l := a) (items := vs.toArray) ⟨_, h1, rfl, _, rfl⟩ (by decide) (by simp; omega) (by decide) ?_ (.here X ⟨d, hyd, h _⟩)
   have : ((-1 : Int) + (vs.toArray.size : Nat)).toNat = l.length := by simp; omega
   rw [this]
   simpa using hy
theorem wR {a : Addr} {l : List AV} {d : AV} {v₀ : Value} {loc : LL} {objs objs' : OL} {Φ : PV} (mv : (v₀, .ref a) ∈ H) (m : Chg a (.list (l ++ [d])) (.list l) objs objs') (hz : l.length ≤ 16777000)
 (h : ∀ v, Φ v d ⟨loc, objs'⟩) : WV B n L (call (.builtin "list.pop") [v₀]) H ⟨loc, objs⟩ Φ := ae fun A F s hA X => by
 refine x22 (m.split) ?_; rintro pre post rfl rfl
 obtain rfl := aE (X.hold mv)
 refine x22 (X.objs (a, .list (l ++ [d])) (by simp)) ?_; rintro vs q h1 h2
 have hlen := h2.length
 rw [List.length_append, List.length_singleton] at hlen
 refine x12 (f0.nth h2 (k := l.length) (d := d) (by simp)) ?_; rintro y hy hyd
 have hvs : IsAll B.P F vs.dropLast l := by
  have := f0.era h2 l.length
  rw [List.eraseIdx_append_of_length_le (Nat.le_refl _), Nat.sub_self] at this
  rw [show vs.dropLast = vs.eraseIdx l.length from by rw [← List.eraseIdx_eq_dropLast]; congr 1; omega]
  simpa using this
 refine PyProof.Rows.Copied.pop_at (D := a) (its := vs.toArray) (n := q) h1 (by simpa [hlen] using hy) (fun h' sb hg => ?_) (by rw [aV]; simp; omega)
 refine am.change (o' := .list l) X (c := a) (.inl rfl) rfl (fun b y _ q e => (sb.2 b q).trans e) ?_ ⟨vs.dropLast, q + 1, ?_, hvs⟩ rfl rfl ⟨d, hyd, h _⟩
 · refine x12 (X.frame) ?_; rintro m₀ FR hl
   exact ⟨m₀, FR.ns.sameBut sb (fun e => (List.nodup_cons.mp X.nodup).1 (by rw [e]; exact aH.mpr ⟨_, List.mem_append_right _ (.head _), .inl rfl⟩)), hl⟩
 · rw [hg]; simp [bE]
end
end
section
variable {ss : List Stmt} {t : Expr} {pos : Pos} {ds : List AV}
structure bB (X : Cx) (ss : List Stmt) (σ : St) (Q : PF) : Prop where
 run : ∀ (H : HL) (Φ : PF), (∀ f σ', Q f σ' → Φ f σ') → WF X.B X.n X.L (execs ss X.env) H σ Φ
structure ExQ (X : Cx) (s : Stmt) (σ : St) (Q : PF) : Prop where
 run : ∀ (H : HL) (Φ : PF), (∀ f σ', Q f σ' → Φ f σ') → WF X.B X.n X.L (exec s X.env) H σ Φ
inductive dW (X : Cx) (t : Expr) (body : List Stmt) : Nat → St → St → Prop
 | done {σ σ'} : Te X t σ false σ' → dW X t body 0 σ σ'
 | step {k σ σ₁ σ₂ σ'} : Te X t σ true σ₁ → ExB X body σ₁ .next σ₂ → dW X t body k σ₂ σ' → dW X t body (k + 1) σ σ'
section
variable {X : Cx} {σ σ₁ σ₂ σ' : St} {Q : PF} {loc loc' : LL} {objs objs' : OL} {a : Addr} {l : List AV} {d o : AV}
theorem bQ {f : Fl} (h1 : ExB X ss σ f σ') (h2 : Q f σ') : bB X ss σ Q := ⟨fun _ _ h => h1.run _ _ (h _ _ h2)⟩
theorem aN {s : Stmt} (h1 : Ex X s σ .next σ₁) (h2 : bB X ss σ₁ Q) : bB X (s :: ss) σ Q := ⟨fun H Φ h => cB (h1.run _ (fE X.B X.n X.L ss X.env H Φ) (h2.run _ Φ h))⟩
theorem jK {s : Stmt} (h1 : ExQ X s σ fun f σ' => f ≠ .next ∧ Q f σ') : bB X (s :: ss) σ Q := ⟨fun H Φ h => cB (h1.run _ (fE X.B X.n X.L ss X.env H Φ) fun f σ' ⟨ne, q⟩ => by
 induction f using Fl.casesOn with
 | next => exact absurd rfl ne
 | ret d => exact h _ _ q
 | brk => exact h _ _ q
 | cont => exact h _ _ q)⟩
theorem ii {x y : List Stmt} {c : Bool} (h1 : Te X t σ c σ₁) (h2 : Br c (bB X x σ₁ Q) (bB X y σ₁ Q)) : ExQ X (.If t x y pos) σ Q := ⟨fun _ _ h => xy (h1.run _ _ ⟨fun q => (h2.1 q).run _ _ h, fun q => (h2.2 q).run _ _ h⟩)⟩
theorem dG {x : Str} {es : List Expr} {p lp : Pos} (h1 : EvL X es σ ds ⟨loc, objs⟩) (hz : ds.length ≤ 16777216) (h2 : ∀ a, ∃ loc', e5 x (.ref a) loc loc' ∧ bB X ss ⟨loc', (a, .list ds) :: objs⟩ Q)
 (hs : autoParam (swapsWith (.List es lp) (some (.Name x p)) pos.line X.env = pure false) bR) (hl : autoParam (X.env.kindOf x = some .local) bK) (hL : autoParam (X.env.locals = X.L) bR) (hp : autoParam ((X.env.scope.kind == .class || (X.env.scope.kind == .module && X.env.locals != X.env.globals)) = false) bR) :
 bB X (.Assign [.Name x p] (.List es lp) pos :: ss) σ Q := ⟨fun H Φ h => cB (cX (lJ (h1.run _ _ _ fun _ _ => ⟨hz, fun a => by
 refine x12 (h2 a) ?_; rintro loc' hs' w
 exact gB hd0 hs' (w.run _ Φ h) hl hL hp⟩)) hs)⟩
theorem jN {body : List Stmt} {k : Nat} (r : dW X t body k σ σ') : Ex X (.While t body [] pos) σ .next σ' := ⟨fun _ Φ h => gV (fun k σ => dW X t body k σ σ') k r fun k σ r => by
 cases r with
 | done ht => exact ht.run _ _ ⟨(fun q => nomatch q), fun _ => h⟩
 | @step k' _ σ₁ σ₂ _ ht hb r => exact ht.run _ _ ⟨fun _ => hb.run _ (gM (fun σ₂ => ∃ m, m < k' + 1 ∧ dW X t body m σ₂ σ') Φ) ⟨k', Nat.lt_succ_self _, r⟩, fun q => nomatch q⟩⟩
theorem pv {e1 e2 : Expr} (m : (a, AO.list (l ++ [d])) ∈ objs) (hz : l.length ≤ 16777000) (hs : ∀ o i, ∃ ops, subscripted e2 false o i = operate ops (getItem o i) := by exact fun _ _ => ⟨_, rfl⟩) : bY X e1 e2 (.ref a) (.int (-1)) d ⟨loc, objs⟩ :=
 ⟨fun _ _ _ _ mo mi h => wY (σ := ⟨loc, objs⟩) mo m mi hz h (hs _ _)⟩
theorem yJ (m : Chg a (.list (l ++ [d])) (.list l) objs objs') (hz : l.length ≤ 16777000) : b5 X (.builtin "list.pop") [.ref a] ⟨loc, objs⟩ d ⟨loc, objs'⟩ := mq fun _ _ _ mv h => wR mv m hz h
theorem xe {ps : List PyData} (he : dataAll ds = some ps) (sq : PyData.canLayAll0 ps = true) (hc : (ps.any fun y => PyData.eqv y .none) = false) : bG X .In .none (.tup ds) false σ := ⟨fun _ _ _ _ ma mb h => rz (p := .none) ma mb rfl he rfl sq (by decide) hc h⟩
end
theorem jY {B : ab} {n : Nat} {objs : OL} {name qual : Str} {params : Arguments} {body body' : List Stmt} {scope scope' : Scope} {dV kV doc pm cdv ct oc : Value} {an od : Option Addr} {osl : Array (Option Value)} {f : Addr} {args : List AV} {P : AV → OL → Prop} {loc : LL} (ps xs : List Str)
 (ho : B.K.lookup f = some ⟨oc, od, .func (fnOf name qual params body scope dV kV doc pm an cdv ct), osl⟩) (hcd : codeIn B.K cdv qual = true)
 (hb : bm B (fnOf name qual params body scope dV kV doc pm an cdv ct) ps args ds) (h : ∀ L, bB ⟨B, n, L, envOf qual scope' L f cdv⟩ body' ⟨loc, objs⟩ fun f σ' => ∃ d, f = .ret d ∧ P d σ'.objs)
 (eb : body = body' := by (conv => lhs; whnf)) (es : scope = scope' := by (conv => lhs; whnf))
 (hloc : bL ps ds ++ bare xs = loc := by simp only [bL, bare, List.map_cons, List.map_nil, List.cons_append, List.nil_append] <;> rfl) (hl : autoParam (ps.length = ds.length) bR) (hn : (ps ++ xs).Nodup := by decide) (hps : autoParam (ps.all (fun y => scope'.names.lookup y == some .local) = true) bR)
 (hco : autoParam (scope'.isCoroutine = false) bR) (hgen : autoParam (scope'.isGenerator = false) bR) (hk : autoParam (scope'.kind = .function) bR) (hcell : ∀ x ∈ scope'.names, x.2 ≠ .cell := by decide) : aa B (n + 1) f args objs P :=
 rT ps xs ho hcd hb (fun L => (h L).run _ _ fun f σ' ⟨d, e, q⟩ => by subst e; exact q) eb es hloc hl hn hps hco hgen hk hcell
end
section
variable {e : Expr} {es : List Expr} {c : Bool} {pos : Pos}
section
variable {B : ab} {n : Nat} {L : Addr} {H : HL} {σ : St}
theorem ny {t : Sem Value} {Φ : PV} (h : WV B n L t H σ fun v d σ₁ => ∃ a l loc objs objs', d = .ref a ∧ σ₁ = ⟨loc, objs⟩ ∧ dX a (.dict l) objs objs' ∧ Φ v (.dct l) ⟨loc, objs'⟩) : WV B n L t H σ Φ := ae fun A F s hA X => by
 refine wpAny_mono (h.run A F s hA X) (fun v s₁ z => ?_) fun _ _ z => z
 obtain ⟨F₁, σ₁, x₁, p₁, d, hd, a, l, loc, objs, objs', rfl, rfl, tk, q⟩ := z
 refine x14 ((x₁.perm tk.perm).freezeD) ?_; rintro F₂ le x₂ hl back
 obtain rfl := aE hd
 have po := b6 tk.perm
 have aO : a ∈ L :: ad σ.objs ∨ s.heap.get? a = none := p₁.own a (.tail _ (po.mem_iff.mpr (.head _)))
 refine ⟨F₂, _, x₂, ⟨p₁.keep, fun b hb => p₁.own b ?_, fun b o e => ?_, p₁.mono.trans le, p₁.gens, p₁.os⟩, _, hl, q⟩
 · rcases mC0 hb with rfl | hb
   · exact .head _
   · exact .tail _ (po.mem_iff.mpr (.tail _ hb))
 · rcases back b o e with z | rfl
   · exact p₁.frz b o z
   · rcases aO with z | z
     · exact .inr (.inl z)
     · exact .inr (.inr z)
theorem qh {a b : Value} {c : Nat} {x : List Nat} {Φ : PV} (ma : (a, .str [c]) ∈ H) (mb : (b, .str x) ∈ H) (h : ∀ v, Φ v (.bool (!decide (c ∈ x))) σ) : WV B n L (compareOp .NotIn a b) H σ Φ := ae fun A F s hA X => by
 obtain ⟨t1, rfl⟩ := az (X.hold ma); obtain ⟨t2, rfl⟩ := az (X.hold mb)
 have e : (!(Builtin.Str.occurrences (S x) (S [c]) 0 (S x).length 1).isEmpty) = decide (c ∈ x) := StrLaws.found_one (S x) c
 with_reducible exact notIn_str (.here X ⟨_, .bool _, by rw [e]; exact h _⟩)
end
section
variable {X : Cx} {σ σ₁ σ₂ σ' : St} {Q : PF} {loc loc' : LL} {objs objs' : OL} {a : Addr} {d : AV} {x : List Nat}
theorem wW {c : Nat} : bG X .NotIn (.str [c]) (.str x) (!decide (c ∈ x)) σ := ⟨fun _ _ _ _ ma mb h => qh ma mb h⟩
theorem lg {y : Str} {l : FL} (hm : (y, some (.ref a)) ∈ loc) (tk : dX a (.dict l) objs objs') (hk : autoParam (X.env.scope.kind = .function) bR) (hl : autoParam (X.env.kindOf y = some .local) bK) (hL : autoParam (X.env.locals = X.L) bR) (hd : autoParam ((y == ("__debug__" : Str)) = false) bK) :
 Ev X (.Name y pos) ⟨loc, objs⟩ (.dct l) ⟨loc, objs'⟩ := ⟨fun _ _ h => ny (mz (σ := ⟨loc, objs⟩) hm (fun v => ⟨a, l, loc, objs, objs', rfl, rfl, tk, h v⟩) hk hl hL hd)⟩
theorem oV {y : Str} {f : Addr} {fe : Expr} {args : List Expr} {p cp : Pos} {ss : List Stmt} {ds : List AV} {dv : AV} {m : Nat} {P : AV → OL → Prop} (h1 : EvX X fe σ (.ref f) dv) (hk : cL X (.ref f)) (h2 : EvL X args σ ds ⟨loc, objs⟩) (c : aa X.B m f ds objs P) (hm : m ≤ X.n)
 (h3 : ∀ d o, P d o → ∃ loc', e5 y d loc loc' ∧ bB X ss ⟨loc', o⟩ Q)
 (he : autoParam (eval (.Call fe args [] cp) X.env = (do callWith cp (← eval fe X.env) [] (backTo cp (starEach args X.env)) [])) bR) (hp : autoParam ((backTo cp (starEach args X.env)).any (·.1) = false) bR)
 (hs : autoParam (swapsWith (.Call fe args [] cp) (some (.Name y p)) pos.line X.env = pure false) bR) (hl : autoParam (X.env.kindOf y = some .local) bK) (hL : autoParam (X.env.locals = X.L) bR) (hpp : autoParam ((X.env.scope.kind == .class || (X.env.scope.kind == .module && X.env.locals != X.env.globals)) = false) bR) :
 bB X (.Assign [.Name y p] (.Call fe args [] cp) pos :: ss) σ Q := ⟨fun H Φ h => cB (cX (gr (h1.run _ _ (hk.run _ _ _ _ _ _ hp (h2.run _ _ _ fun vs hl' => fL c hm hl' (fun _ hp => List.mem_append_left _ hp) fun d o q v => by
  refine x12 (h3 d o q) ?_; rintro loc' hs' w
  exact gB hd0 hs' (w.run _ Φ h) hl hL hpp))) he) hs)⟩
theorem jI {target iter : Expr} {body : List Stmt} {N : Nat} {item : Nat → AV} (lo : Nat → LL) (ob : Nat → OL) (h1 : Ev X iter σ d ⟨lo 0, ob 0⟩) (it : ∀ xv, bO X.B X.n X.L xv d N item)
 (h2 : ∀ i, i < N → ∀ a p, ∃ σ₂, AsR X target (item i) ⟨lo i, (a, .is p) :: ob i⟩ σ₂ ∧ ExB X body σ₂ .next ⟨lo (i + 1), (a, .is p) :: ob (i + 1)⟩)
 (hs : autoParam (∀ x, foldedSetIterable iter X.env x = pure x) bI) (ht : autoParam (∀ it v, letOwnedTupleGo target it v = pure ()) bJ) : Ex X (.For target iter body [] pos) σ .next ⟨lo N, ob N⟩ := ⟨fun _ Φ h => vu (fun i σ => σ = ⟨lo i, ob i⟩)
 (h1.run _ _ fun xv => ⟨N, item, it xv, rfl, fun σ e => e ▸ h, fun i loc objs a p v hi e => by
  obtain ⟨rfl, rfl⟩ := St.mk.inj e
  refine x12 (h2 i hi a p) ?_; rintro σ₂ w1 w2
  exact w1.run _ _ _ hd0 (w2.run _ (dS a p _ Φ) ⟨_, _, rfl, rfl⟩)⟩) hs ht⟩
end
end
section
variable {x : Str} {pos : Pos} {target elt : Expr} {ifs : List Expr} {item : Nat → AV}
section
variable {B : ab} {n : Nat} {L : Addr} {H : HL} {env : Env}
end
section
variable {X : Cx} {σ σ₁ σ₂ σ' : St} {Q : PF} {loc loc' : LL} {objs objs' : OL} {a c : Addr} {d : AV}
theorem fg (hc : X.env.cells.lookup x = some c) (m : (c, AO.cell (some d)) ∈ objs) (hk : autoParam (X.env.scope.kind = .function) bR) (hl : autoParam (X.env.kindOf x = some .cell) bK) (hd : autoParam ((x == ("__debug__" : Str)) = false) bK) :
 Ev X (.Name x pos) ⟨loc, objs⟩ d ⟨loc, objs⟩ := ⟨fun _ _ h => qz hc m h hk hl hd⟩
theorem yu {o : Option AV} (hc : X.env.cells.lookup x = some c) (m : Chg c (.cell o) (.cell (some d)) objs objs') (hk : autoParam (X.env.scope.kind = .function) bR) (hl : autoParam (X.env.kindOf x = some .cell) bK) : StR X x d ⟨loc, objs⟩ ⟨loc, objs'⟩ := ⟨fun _ _ _ md h => oI hc md m h hk hl⟩
structure TsR (X : Cx) (ifs : List Expr) (σ : St) (b : Bool) (σ' : St) : Prop where
 run : ∀ (H : HL) (Φ : Bool → St → Prop), Φ b σ' → WB X.B X.n X.L (fP ifs X.env) H σ Φ
theorem q5 : TsR X [] σ true σ := ⟨fun _ _ h => x1 h⟩
theorem r8 {t : Expr} {b : Bool} (h1 : Te X t σ b σ') : TsR X [t] σ b σ' := ⟨fun _ _ h => Ag (h1.run _ _ h)⟩
noncomputable def b3 (keep : Nat → Bool) (val : Nat → AV) : Nat → List AV
 | 0 => []
 | i + 1 => if keep i = true then b3 keep val i ++ [val i] else b3 keep val i
theorem eN (keep : Nat → Bool) (val : Nat → AV) : ∀ i, (b3 keep val i).length ≤ i
 | 0 => Nat.le_refl _
 | i + 1 => by
  unfold b3
  have := eN keep val i
  split
  · rw [List.length_append, List.length_singleton]; exact Nat.lt_succ_of_le ‹_›
  · exact Nat.le_succ_of_le ‹_›
structure j9 (B : ab) (n : Nat) (target elt : Expr) (ifs : List Expr) (cenv : Addr → Env) (xs : List Str) (item : AV) (k : Bool) (d : AV) (objs : OL) : Prop where
 run : ∀ C p q, ∃ loc₁ loc₂, AsR ⟨B, n, C, cenv C⟩ target item ⟨bare xs, p :: q :: objs⟩ ⟨loc₁, p :: q :: objs⟩ ∧ TsR ⟨B, n, C, cenv C⟩ ifs ⟨loc₁, p :: q :: objs⟩ k ⟨loc₁, p :: q :: objs⟩ ∧ (k = true → Ev ⟨B, n, C, cenv C⟩ elt ⟨loc₁, p :: q :: objs⟩ d ⟨loc₂, p :: q :: objs⟩)
theorem j9.step {B : ab} {n : Nat} {cenv : Addr → Env} {xs : List Str} {keep : Nat → Bool} {val : Nat → AV} {objs : OL} {H : HL} {i : Nat} (hi : i ≤ 16777215) (h : j9 B n target elt ifs cenv xs (item i) (keep i) (val i) objs) :
 iy B n target elt ifs cenv H xs (item i) (fun ys o => ys = b3 keep val i ∧ o = objs) (fun ys o => ys = b3 keep val (i + 1) ∧ o = objs) := by
 rintro C ys o D a p v ⟨rfl, rfl⟩
 refine x23 (h.run C (D, .list (b3 keep val i)) (a, .is p)) ?_; rintro loc₁ loc₂ h1 h2 h3
 refine h1.run _ _ _ (.head _) (h2.run _ _ ⟨fun hk => (h3 hk).run _ _ fun _ => ⟨_, _, rfl, nT0 (eN _ _ _) hi, ?_, rfl⟩, fun hk => ⟨_, _, rfl, ?_, rfl⟩⟩)
 · conv => rhs; unfold b3
   rw [if_pos hk]
 · conv => rhs; unfold b3
   rw [if_neg (by rw [hk]; exact Bool.false_ne_true)]
theorem qP {iter : Expr} {scope : Scope} {cl : List (Str × Addr)} {N : Nat} (xs : List Str) (keep : Nat → Bool) (val : Nat → AV) (hN : N ≤ 16777215) (h1 : Ev X iter σ d ⟨loc, objs⟩) (it : ∀ xv, bO X.B X.n X.L xv d N item)
 (h2 : ∀ i, i < N → j9 X.B X.n target elt ifs (fun C => compEnvC scope cl C X.env) xs (item i) (keep i) (val i) objs)
 (hclos : closureFor scope X.env = pure cl) (hx : xs.Nodup := by decide)
 (hcell : ∀ y ∈ scope.names, y.2 ≠ .cell := by decide) (hkind : autoParam (scope.kind = .function) bR) (hnames : ∀ y ∈ scope.names, y.2 = .local → scope.names.lookup y.1 = some .local := by decide)
 (hs : autoParam (∀ x, foldedSetIterable iter X.env x = pure x) bI) :
 Ev X (.ListComp elt [⟨target, iter, ifs, 0⟩] scope pos) σ (.lst (b3 keep val N)) ⟨loc, objs⟩ := ⟨fun _ _ h => kq (y6 xs (fun i ys o => ys = b3 keep val i ∧ o = objs) (h1.run _ _ fun xv => ⟨N, item, it xv, ⟨rfl, rfl⟩, fun i hi => j9.step (by exact Nat.le_of_lt (nL0 ‹_› ‹_›)) (h2 i hi), fun ys o D ⟨e1, e2⟩ => ⟨D, _, loc, objs, rfl, by rw [e1, e2], h _⟩⟩) hclos hx hcell hkind hnames hs)⟩
theorem mU {iter : Expr} {scope : Scope} {p pos' : Pos} {cl : List (Str × Addr)} {ss : List Stmt} {N : Nat} (xs : List Str) (keep : Nat → Bool) (val : Nat → AV) (hN : N ≤ 16777215) (h1 : Ev X iter σ d ⟨loc, objs⟩) (it : ∀ xv, bO X.B X.n X.L xv d N item)
 (h2 : ∀ i, i < N → j9 X.B X.n target elt ifs (fun C => compEnvC scope cl C X.env) xs (item i) (keep i) (val i) objs)
 (h3 : ∀ D, ∃ σ₂, StR X x (.ref D) ⟨loc, (D, .list (b3 keep val N)) :: objs⟩ σ₂ ∧ bB X ss σ₂ Q)
 (hsw : swapsWith (.ListComp elt [⟨target, iter, ifs, 0⟩] scope pos) (some (.Name x p)) pos'.line X.env = pure true)
 (hclos : closureFor scope X.env = pure cl) (hx : xs.Nodup := by decide)
 (hcell : ∀ y ∈ scope.names, y.2 ≠ .cell := by decide) (hkind : autoParam (scope.kind = .function) bR) (hnames : ∀ y ∈ scope.names, y.2 = .local → scope.names.lookup y.1 = some .local := by decide)
 (hs : autoParam (∀ x, foldedSetIterable iter X.env x = pure x) bI) :
 bB X (.Assign [.Name x p] (.ListComp elt [⟨target, iter, ifs, 0⟩] scope pos) pos' :: ss) σ Q := ⟨fun H Φ h => cB (jF xs (fun i ys o => ys = b3 keep val i ∧ o = objs) (h1.run _ _ fun xv => ⟨N, item, it xv, ⟨rfl, rfl⟩, fun i hi => j9.step (by omega) (h2 i hi), fun ys o D ⟨e1, e2⟩ => by
 subst e1 e2
 refine x12 (h3 D) ?_; rintro σ₂ w1 w2
 exact w1.run _ _ _ hd0 (w2.run _ Φ h)⟩) hsw hclos hx hcell hkind hnames hs)⟩
end
end
section
section
variable {X : Cx} {σ σ₁ σ₂ σ' : St} {Q : PF} {R : St → Prop} {f : Fl}
theorem qB {t : Expr} {body : List Stmt} {pos : Pos} (Inv : Nat → St → Prop) {n : Nat} (h0 : Inv n σ)
 (step : ∀ k σ, Inv k σ → (∃ σ', Te X t σ false σ' ∧ Q .next σ') ∨ ∃ σ₁, Te X t σ true σ₁ ∧ bB X body σ₁ fun f σ₂ => f = .next ∧ ∃ m, m < k ∧ Inv m σ₂) : ExQ X (.While t body [] pos) σ Q := ⟨fun _ Φ h => gV Inv n h0 fun k σ r => by
 rcases step k σ r with ⟨σ', ht, q⟩ | ⟨σ₁, ht, hb⟩
 · exact ht.run _ _ ⟨(fun q => nomatch q), fun _ => h _ _ q⟩
 · exact ht.run _ _ ⟨fun _ => hb.run _ (gM (fun σ₂ => ∃ m, m < k ∧ Inv m σ₂) Φ) (fun f σ₂ ⟨e, i⟩ => by subst e; exact i), fun q => nomatch q⟩⟩
theorem jM {s : Stmt} {ss : List Stmt} (R : St → Prop) (h1 : ExQ X s σ fun f σ' => f = .next ∧ R σ') (h2 : ∀ σ', R σ' → bB X ss σ' Q) : bB X (s :: ss) σ Q := ⟨fun H Φ h => cB (h1.run _ (fE X.B X.n X.L ss X.env H Φ) fun f σ' ⟨e, r⟩ => by subst e; exact (h2 σ' r).run _ Φ h)⟩
theorem zM {s : Stmt} (h1 : Ex X s σ f σ') (h2 : Q f σ') : ExQ X s σ Q := ⟨fun _ _ h => h1.run _ _ (h _ _ h2)⟩
theorem lX (h : Q .next σ) : bB X [] σ Q := bQ re h
section
variable {a : Addr} {x : List Nat} {d : AV} {l l' : FL} {loc : LL} {objs objs' : OL}
theorem vE {o i value : Expr} {p pos : Pos} (h1 : Ev X value σ d σ₁) (h2 : Ev X o σ₁ (.ref a) σ₂) (h3 : Ev X i σ₂ (.str x) ⟨loc, objs⟩) (hp : gG (S x) d l l') (m : Chg a (.dict l) (.dict l') objs objs') (hz : l.length ≤ 900)
 (hs : autoParam (swapsWith value (some (.Subscript o i p)) pos.line X.env = pure false) bR) : Ex X (.Assign [.Subscript o i p] value pos) σ .next ⟨loc, objs'⟩ :=
 ⟨fun _ _ h => gA (h1.run _ _ fun _ => h2.run _ _ fun _ => h3.run _ _ fun _ => r7 hd1 hd0 (.tail _ (.tail _ (.head _))) hp m hz h) hs⟩
theorem lB {ks : List (Option Expr)} {es : List Expr} {dp pos : Pos} {ss : List Stmt} {l : FL} (h1 : EvD X ks es σ l ⟨loc, objs⟩) (hn : cu (l.map (·.1)) = true) (h2 : ∀ a, Q (.ret (.ref a)) ⟨loc, (a, .dict l) :: objs⟩)
 (hs' : autoParam ((evalEachOpt ks X.env).zip ((evalEach es X.env).map fun v => do let x ← v; standAt dp; pure x) = (aA X.env dp ks es).map fun p => (some p.1, p.2)) bR)
 (h0 : aA X.env dp ks es ≠ [] := by exact List.cons_ne_nil _ _) (hl : (aA X.env dp ks es).length ≤ 15 := by exact lB0 (by rfl)) : bB X (.Return (some (.Dict ks es dp)) pos :: ss) σ Q :=
 ⟨fun H Φ h => cB (ig (ni (h1.run _ _ _ ⟨aP hn, fun a => h _ _ (h2 a)⟩) hs' h0 hl))⟩
end
end
end
section
section
variable {γ : Type} {B : ab} {m n : Nat} {L : Addr} {H : HL} {env : Env} {σ : St}
theorem q8 {tr todo : List γ} {i : Nat} {x : γ} (e : tr.drop i = x :: todo) : tr[i]? = some x ∧ tr.drop (i + 1) = todo := by
 constructor
 · rw [← Nat.add_zero i, ← List.getElem?_drop, e]; rfl
 · rw [← List.drop_drop, e]; rfl
theorem wf {t1 t2 : Expr} {k : Nat} {p : Pos} {v : Value} {d1 d2 : AV} {Φ : St → Prop} (mv : (v, .tup [d1, d2]) ∈ H) (h : ∀ v1 v2, WU B n L (assign t1 env v1) ((v1, d1) :: (v2, d2) :: H) σ fun σ₂ => WU B n L (assign t2 env v2) ((v1, d1) :: (v2, d2) :: H) σ₂ Φ)
 (he : autoParam (assignEach [t1, t2] env = [(false, assign t1 env), (false, assign t2 env)]) bR) : WU B n L (assign (.Tuple [t1, t2] k p) env v) H σ Φ := ae fun A F s hA X => by
 refine x33 (cf (X.hold mv)) ?_; rintro a vs m rfl e1 e2
 refine x23 (gg.two e2) ?_; rintro v1 v2 rfl q1 q2
 refine assign_Tuple_tuple hA.handled (c6 X.sub e1) (by rw [he]; rfl) (by rw [he]; rfl) fun h' hk => ?_
 rw [he]
 have keep : ∀ b o, s.heap.get? b = some o → h'.get? b = some o := fun b o e => hk b o (Nat.ne_of_lt (Heap.lt_size e)) e
 have x₂ := ((X.grow keep).push q2).push q1
 refine assignInOrder_cons ?_
 refine wpAny_mono ((h v1 v2).run A F { s with heap := h' } hA x₂) (fun _ s₃ z => ?_) fun _ _ z => z
 obtain ⟨F₃, σ₃, x₃, p₃, w₃⟩ := z
 refine assignInOrder_cons (wpAny_mono (w₃.run A F₃ s₃ hA x₃) (fun _ s₄ z => ?_) fun _ _ z => z)
 obtain ⟨F₄, σ₄, x₄, p₄, q⟩ := z
 exact assignInOrder_nil ⟨F₄, σ₄, x₄.weaken fun _ hp => .tail _ (.tail _ hp), aM.trans (s' := { s with heap := h' }) ⟨fun b o _ e => keep b o e, fun _ h => .inl h, fun _ _ e => .inl e, .refl F, .refl _, rfl⟩ (p₃.trans p₄), q⟩
inductive zc (B : ab) (m : Nat) (L : Addr) (H : HL) (O : List Addr) (F : Fz) (s : Shared) (a g Lg : Addr) (YJ : γ → AV → OL → Prop) (RJ : OL → Prop) (tr : List γ) (lo : Nat → LL) (own : Nat → OL) (k : Nat) (s' : Shared) : Prop
 | mk (i : Nat) (F' : Fz) (o' : Obj) (gobjs' : OL) (gs' : GenState) (hi : i ≤ tr.length) (e : k = tr.length - i) (x : Holds B.P B.G L F' ((.ref a, .obj (lz g)) :: H) ⟨lo i, frO Lg o' :: (gobjs' ++ own i)⟩ s'.heap)
  (p : aM O F s (L :: ad (frO Lg o' :: (gobjs' ++ own i))) F' (fin g s')) (hg : s'.gens[g]? = some gs') (lv : lO B m Lg YJ RJ (tr.drop i) o' gobjs' F' gs')
inductive oN (B : ab) (m n : Nat) (L : Addr) (env : Env) (target : Expr) (body : List Stmt) (YJ : γ → AV → OL → Prop) (RJ : OL → Prop) (tr : List γ) (lo : Nat → LL) (own : Nat → OL) (Φ : PF) (d : AV) (σ₁ : St) : Prop
 | mk (x : Addr) (gobjs : OL) (ed : d = .ref x) (es : σ₁ = ⟨lo 0, gobjs ++ own 0⟩) (it : eS B n m x gobjs YJ RJ tr)
  (step : ∀ H i x d gobjs a p v, tr[i]? = some x → YJ x d gobjs → WU B n L (assign target env v) ((v, d) :: H) ⟨lo i, (a, .is p) :: (own i ++ gobjs)⟩ fun σ₂ => WF B n L (execs body env) H σ₂ (dS a p (fun σ => σ = ⟨lo (i + 1), own (i + 1) ++ gobjs⟩) fun _ _ => False))
  (fin : ∀ gobjs', RJ gobjs' → Φ .next ⟨lo tr.length, own tr.length ++ gobjs'⟩)
theorem qN {target iter : Expr} {body : List Stmt} {pos : Pos} {Φ : PF} (YJ : γ → AV → OL → Prop) (RJ : OL → Prop) (tr : List γ) (lo : Nat → LL) (own : Nat → OL) (hm : m + 1 ≤ n)
 (h : WV B n L (eval iter env) H σ fun _ => oN B m n L env target body YJ RJ tr lo own Φ)
 (hs : autoParam (∀ x, foldedSetIterable iter env x = pure x) bI) (ht : autoParam (∀ it v, letOwnedTupleGo target it v = pure ()) bJ) : WF B n L (exec (.For target iter body [] pos) env) H σ Φ := iS fun A F s Q hA X fq => by
 refine wpAny_For (h.then hA X fun xv s₁ F₁ σ₁ x₁ p₁ q => ?_) hs
 refine x12 (q) ?_; clear q; rintro d hd ⟨x, gobjs, rfl, rfl, it, step, fin_⟩
 obtain rfl := aE hd
 refine wpAny_mono (it A F₁ s₁ L _ _ _ hA x₁) (fun r s₂ z => ?_) fun _ _ z => z.elim
 refine x63 (z) ?_; clear z; rintro a g Lg o F₂ gs rfl x₂ ⟨p₂, ga, hg, lv⟩
 have hA' : cA (m + 1) A := hA.le hm
 refine codeAny_forLoop (zc B m L H (L :: ad σ.objs) F s a g Lg YJ RJ tr lo own) (fun k s₃ hI => ?_) tr.length ⟨0, F₂, o, gobjs, gs, Nat.zero_le _, rfl, x₂.push ga, p₁.trans p₂, hg, lv⟩ (ht _)
 obtain ⟨i, F₃, o₃, gobjs₃, gs₃, hi, ek, x₃, p₃, hg₃, lv₃⟩ := hI
 refine wpAny_mono (ask hA' x₃ (ll (x₃.hold (.head _)) x₃.sub) hg₃ lv₃) (fun r s₄ z => ?_) fun _ _ z => z.elim
 have fl : ∀ (u v : OL), (frO Lg o₃ :: (u ++ v)).Perm ((frO Lg o₃ :: (v ++ u)) ++ []) := fun _ _ => by rw [List.append_nil]; exact .cons _ List.perm_append_comm
 induction todo : tr.drop i using List.casesOn with
 | nil =>
  rw [todo] at z
  obtain ⟨rfl, F₄, gobjs₄, o₄, x₄, p₄, rj⟩ := z
  obtain rfl : i = tr.length := Nat.le_antisymm hi (List.drop_eq_nil_iff.mp todo)
  have pm : (frO Lg o₄ :: (gobjs₄ ++ own tr.length)).Perm ((own tr.length ++ gobjs₄) ++ [frO Lg o₄]) := (List.perm_append_comm (l₁ := [_])).trans (List.perm_append_comm.append_right _)
  exact wpAny_execs_nil (fq _ _ ⟨F₄, _, (x₄.drop pm).weaken fun _ hp => .tail _ hp, (p₃.trans p₄).trans (aM.less pm), .next, trivial, fin_ _ rj⟩)
 | cons x todo' =>
  rw [todo] at z
  refine x63 (z) ?_; clear z; rintro v d F₄ gobjs₄ o₄ gs₄ rfl hv ⟨yj, x₄, p₄, hg₄, lv₄⟩
  obtain ⟨hx, e'⟩ := q8 todo
  have hlt := (List.getElem?_eq_some_iff.mp hx).1
  have fl : ∀ (u v : OL), (frO Lg o₄ :: (u ++ v)).Perm ((frO Lg o₄ :: (v ++ u)) ++ []) := fun _ _ => by rw [List.append_nil]; exact .cons _ List.perm_append_comm
  refine kC (step ((.ref a, .obj (lz g)) :: H) i x d gobjs₄ Lg (· = o₄) v hx yj) hA ((x₄.drop (fl gobjs₄ (own i))).push hv) (fun _ hp => .tail _ hp) fun f s₅ F₅ σ₅ fe x₅ p₅ he q => ?_
  refine mf (G := ∃ m', m' < k ∧ zc B m L H (L :: ad σ.objs) F s a g Lg YJ RJ tr lo own m' s₅) (Q := fun f => Q f s₅) he q (fun loc' objs' e1 e2 => ?_) fun _ _ _ q => False.elim q
  subst e1
  obtain ⟨rfl, rfl⟩ := St.mk.inj e2
  exact ⟨tr.length - (i + 1), ek ▸ Nat.sub_succ_lt_self _ _ hlt, i + 1, F₅, o₄, gobjs₄, gs₄, hlt, rfl, x₅.drop (fl (own (i + 1)) gobjs₄), (p₃.trans p₄).trans ((((aM.less (fl gobjs₄ (own i))).trans p₅).trans (aM.less (fl (own (i + 1)) gobjs₄))).fin hg₄), p₅.gens.keep _ _ hg₄, e' ▸ lv₄.mono p₅.mono⟩
end
end
section
variable {m : Nat} {p pos : Pos} {ss : List Stmt}
section
variable {X : Cx} {σ σ₁ σ₂ σ' : St} {Q : PF} {loc loc' : LL} {objs objs' : OL} {a : Addr} {d : AV} {l : List AV}
theorem mY {f : Addr} {fe : Expr} {args : List Expr} {cp : Pos} {ds : List AV} {dv : AV} (h1 : EvX X fe σ (.ref f) dv) (hk : cL X (.ref f)) (h2 : EvL X args σ ds ⟨loc, objs⟩) (c : aa X.B m f ds objs fun d o => ∃ a, d = .ref a ∧ o = (a, .list l) :: objs') (hm : m ≤ X.n)
 (he : autoParam (eval (.Call fe args [] cp) X.env = (do callWith cp (← eval fe X.env) [] (backTo cp (starEach args X.env)) [])) bR) (hp : autoParam ((backTo cp (starEach args X.env)).any (·.1) = false) bR) : Ev X (.Call fe args [] cp) σ (.lst l) ⟨loc, objs'⟩ :=
 ⟨fun H Φ h => kq (gr (h1.run _ _ (hk.run _ _ _ _ _ _ hp (h2.run _ _ _ fun vs hl' => fL c hm hl' (fun _ hp => List.mem_append_left _ hp) fun d o q v => by
  refine x12 (q) ?_; clear q; rintro a rfl rfl
  exact ⟨a, l, loc, objs', rfl, rfl, h v⟩))) he)⟩
theorem tI {ms : List (List Nat)} (e : aG l = some ms) (hz : ms.flatten.length ≤ 16777216) : b5 X (.builtin "str.join") [.str [], .lst l] σ (.str ms.flatten) σ :=
 gz fun _ _ _ _ mv md h => sS mv md e (by rw [kx]; simpa using hz) (by rw [ir]; exact h)
theorem rk {y : Str} {C fI : Addr} {fe : Expr} {args : List Expr} {cp : Pos} {ds : List AV} {dv : AV} {n' : Nat} {Φ₀ : Addr → Addr → AV → OL → Prop} (h1 : EvX X fe σ (.ref C) dv) (hk : cL X (.ref C)) (h2 : EvL X args σ ds ⟨loc, objs⟩)
 (hmk : makesIn X.B.K C = true) (hi : findIn X.B.K (.ref C) "__init__" = some (some (.ref fI))) (hf : isFn X.B.K (.ref fI) = true) (c : ∀ x dx, aa X.B m fI (.ref x :: ds) ((x, .inst C dx []) :: objs) (Φ₀ x dx)) (hn : X.n = n' + 1) (hm : m ≤ n')
 (h3 : ∀ x dx d o, Φ₀ x dx d o → d = .none ∧ ∃ loc', e5 y (.ref x) loc loc' ∧ bB X ss ⟨loc', o⟩ Q)
 (he : autoParam (eval (.Call fe args [] cp) X.env = (do callWith cp (← eval fe X.env) [] (backTo cp (starEach args X.env)) [])) bR) (hp : autoParam ((backTo cp (starEach args X.env)).any (·.1) = false) bR)
 (hs : autoParam (swapsWith (.Call fe args [] cp) (some (.Name y p)) pos.line X.env = pure false) bR) (hl : autoParam (X.env.kindOf y = some .local) bK) (hL : autoParam (X.env.locals = X.L) bR) (hpp : autoParam ((X.env.scope.kind == .class || (X.env.scope.kind == .module && X.env.locals != X.env.globals)) = false) bR) :
 bB X (.Assign [.Name y p] (.Call fe args [] cp) pos :: ss) σ Q := by
 obtain ⟨B, n, L, env⟩ := X
 dsimp only at *
 subst hn
 exact ⟨fun H Φ h => cB (cX (gr (h1.run _ _ (hk.run _ _ _ _ _ _ hp (h2.run _ _ _ fun vs hl' => v7 hmk hi hf c hm hl' (fun _ hp => List.mem_append_left _ hp) fun x dx d o q => by
  obtain ⟨e, loc', hs', w⟩ := h3 x dx d o q
  exact ⟨e, gB hd0 hs' (w.run _ Φ h) hl hL hpp⟩))) he) hs)⟩
theorem oj {γ : Type} {target iter : Expr} {body : List Stmt} {x : Addr} {gobjs : OL} (YJ : γ → AV → OL → Prop) (RJ : OL → Prop) (tr : List γ) (lo : Nat → LL) (own : Nat → OL) (hm : m + 1 ≤ X.n)
 (h1 : Ev X iter σ (.ref x) ⟨lo 0, gobjs ++ own 0⟩) (g : eS X.B X.n m x gobjs YJ RJ tr)
 (h2 : ∀ i x d gobjs a p, tr[i]? = some x → YJ x d gobjs → ∃ σ₂, AsR X target d ⟨lo i, (a, .is p) :: (own i ++ gobjs)⟩ σ₂ ∧ ExB X body σ₂ .next ⟨lo (i + 1), (a, .is p) :: (own (i + 1) ++ gobjs)⟩)
 (h3 : ∀ gobjs', RJ gobjs' → bB X ss ⟨lo tr.length, own tr.length ++ gobjs'⟩ Q)
 (hs : autoParam (∀ x, foldedSetIterable iter X.env x = pure x) bI) (ht : autoParam (∀ it v, letOwnedTupleGo target it v = pure ()) bJ) : bB X (.For target iter body [] pos :: ss) σ Q :=
 ⟨fun H Φ h => cB (qN YJ RJ tr lo own hm (h1.run _ _ fun xv => ⟨x, gobjs, rfl, rfl, g, fun H i x d gobjs a p v hx hy => by
  refine x12 (h2 i x d gobjs a p hx hy) ?_; rintro σ₂ w1 w2
  exact w1.run _ _ _ hd0 (w2.run _ (dS a p _ _) ⟨_, _, rfl, rfl⟩), fun gobjs' r => (h3 gobjs' r).run _ Φ h⟩) hs ht)⟩
theorem A1 {t1 t2 : Expr} {k : Nat} {d1 d2 : AV} (h1 : AsR X t1 d1 σ σ₁) (h2 : AsR X t2 d2 σ₁ σ₂) (he : autoParam (assignEach [t1, t2] X.env = [(false, assign t1 X.env), (false, assign t2 X.env)]) bR) : AsR X (.Tuple [t1, t2] k p) (.tup [d1, d2]) σ σ₂ :=
 ⟨fun _ _ _ mv h => wf mv (fun _ _ => h1.run _ _ _ hd0 (h2.run _ _ _ hd1 h)) he⟩
theorem uf {rest : OL} (e : objs.Perm (objs' ++ rest)) (h : bB X ss ⟨loc, objs'⟩ Q) : bB X ss ⟨loc, objs⟩ Q := ⟨fun H Φ k => lu e (h.run H Φ k)⟩
theorem ke {value hi : Expr} {ns : List Int} {j : Int} (h1 : Ev X value σ (.obj (dj ns)) σ₁) (h2 : Ev X hi σ₁ (.int j) σ₂) (hj : 0 ≤ j) (hz : ns.length ≤ 16777216)
 (hs : ∀ o i, ∃ ops, subscripted (.Slice none (some hi) none p) false o i = operate ops (getItem o i) := by intro _ _; exact ⟨_, rfl⟩) (ht : ∀ l r, letTemporaryGo value (.ref l) r = pure () := by intro _ _; with_unfolding_all rfl) :
 Ev X (.Subscript value (.Slice none (some hi) none p) pos) σ (.lst ((ns.take j.toNat).map .int)) σ₂ := ⟨fun _ _ h => kn (h1.run _ _ fun _ => h2.run _ _ fun _ => ⟨ns, j, rfl, rfl, hj, hz, h⟩) hs ht⟩
theorem wA {e1 e2 : Expr} {i : Int} {j : Nat} (hi : 0 ≤ i) (hj : i.toNat = j) (hd : l[j]? = some d) (hz : l.length ≤ 16777216) (hs : ∀ o i, ∃ ops, subscripted e2 false o i = operate ops (getItem o i) := by exact fun _ _ => ⟨_, rfl⟩) : bY X e1 e2 (.lst l) (.int i) d σ :=
 ⟨fun _ _ _ _ mo mi h => vx mo mi hi hj hd hz h (hs _ _)⟩
theorem ry {x y : Addr} (mx : (x, AO.list l) ∈ objs) (my : (y, AO.list l) ∈ objs) (f : ∀ d ∈ l, cG 50 d) : bG X .Eq (.ref x) (.ref y) true ⟨loc, objs⟩ := ⟨fun _ _ _ _ ma mb h => pP (σ := ⟨loc, objs⟩) ma mb mx my f h⟩
theorem qy {i j k m : Int} : bG X .Eq (.tup [.int i, .int j]) (.tup [.int k, .int m]) (i == k && j == m) σ := ⟨fun _ _ _ _ ma mb h => ro ma mb h⟩
end
end
section
variable {pos : Pos} {ds : List AV} {e : Expr}
structure EvQ (X : Cx) (e : Expr) (σ : St) (R : AV → St → Prop) : Prop where
 run : ∀ (H : HL) (Φ : PV), (∀ v d σ', R d σ' → Φ v d σ') → WV X.B X.n X.L (eval e X.env) H σ Φ
section
variable {X : Cx} {σ σ₁ σ₂ : St} {Q : PF} {R : AV → St → Prop} {loc : LL} {objs : OL} {o : AV} {m : Nat} {f : Addr}
theorem s0 {es : List Expr} (h1 : EvL X es σ ds ⟨loc, objs⟩) (hz : ds.length ≤ 16777216) : EvQ X (.List es pos) σ fun d σ' => ∃ a, d = .ref a ∧ σ' = ⟨loc, (a, .list ds) :: objs⟩ :=
 ⟨fun _ _ h => lJ (h1.run _ _ _ fun _ _ => ⟨hz, fun a => h _ _ _ ⟨a, rfl, rfl⟩⟩)⟩
theorem me {name : Str} {apos : Pos} {args : List Expr} {pl : Sem Bool} {P : AV → OL → Prop} (h1 : Ev X e σ o σ₁) (hm : f9 X o name (.ref f) σ₁) (hk : cL X (.ref f)) (h2 : EvL X args σ₁ ds ⟨loc, objs⟩) (c : aa X.B m f (o :: ds) objs P) (hn : m ≤ X.n)
 (he : autoParam (eval (.Call (.Attribute e name apos) args [] pos) X.env = (do
  let ov ← eval e X.env
  standAt apos.atName
  let (f, first) ← holding [ov] (getMethod ov name pl)
  callWith pos f first (backTo pos (starEach args X.env)) [])) bR) (hp : autoParam ((backTo pos (starEach args X.env)).any (·.1) = false) bR) : EvQ X (.Call (.Attribute e name apos) args [] pos) σ fun d σ' => ∃ q, P d q ∧ σ' = ⟨loc, q⟩ :=
 ⟨fun _ _ h => kT (h1.run _ _ fun _ => hm.run _ _ _ _ hd0 fun _ => hk.run _ _ _ _ _ _ hp (h2.run _ _ _ fun _ hl => fL c hn (by rw [List.length_append, List.length_singleton, List.length_cons, hl, Nat.add_comm]) gi fun d q w v => h _ _ _ ⟨q, w, rfl⟩)) he⟩
theorem vV {C fI : Addr} {fe : Expr} {args : List Expr} {cp : Pos} {dv : AV} {n' : Nat} {Φ₀ : Addr → Addr → AV → OL → Prop} (h1 : EvX X fe σ (.ref C) dv) (hk : cL X (.ref C)) (h2 : EvL X args σ ds ⟨loc, objs⟩)
 (hmk : makesIn X.B.K C = true) (hi : findIn X.B.K (.ref C) "__init__" = some (some (.ref fI))) (hf : isFn X.B.K (.ref fI) = true) (c : ∀ x dx, aa X.B m fI (.ref x :: ds) ((x, .inst C dx []) :: objs) (Φ₀ x dx)) (hn : X.n = n' + 1) (hm : m ≤ n') (hΦ : ∀ x dx d q, Φ₀ x dx d q → d = .none)
 (he : autoParam (eval (.Call fe args [] cp) X.env = (do callWith cp (← eval fe X.env) [] (backTo cp (starEach args X.env)) [])) bR) (hp : autoParam ((backTo cp (starEach args X.env)).any (·.1) = false) bR) :
 EvQ X (.Call fe args [] cp) σ fun d σ' => ∃ x dx q, Φ₀ x dx .none q ∧ d = .ref x ∧ σ' = ⟨loc, q⟩ := by
 obtain ⟨B, n, L, env⟩ := X
 dsimp only at *
 subst hn
 exact ⟨fun H Φ h => gr (h1.run _ _ (hk.run _ _ _ _ _ _ hp (h2.run _ _ _ fun vs hl' => v7 hmk hi hf c hm hl' (fun _ hp => List.mem_append_left _ hp) fun x dx d q w => by
  obtain rfl := hΦ _ _ _ _ w
  exact ⟨rfl, h _ _ _ ⟨x, dx, q, w, rfl, rfl⟩⟩))) he⟩
theorem kr {t : Expr} {attr : Str} {p : Pos} {ss : List Stmt} (h1 : EvQ X e σ R) (h2 : ∀ d σ', R d σ' → ∃ o σ₁ σ₂, Ev X t σ' o σ₁ ∧ k6 X o attr d σ₁ σ₂ ∧ bB X ss σ₂ Q) (hs : autoParam (swapsWith e (some (.Attribute t attr p)) pos.line X.env = pure false) bR) :
 bB X (.Assign [.Attribute t attr p] e pos :: ss) σ Q := ⟨fun H Φ h => cB (cU (h1.run _ _ fun v d σ' w => by
 refine x33 (h2 d σ' w) ?_; rintro o σ₁ σ₂ w1 w2 w3
 exact w1.run _ _ fun _ => w2.run _ _ _ _ hd0 hd1 (w3.run _ Φ h)) hs)⟩
theorem qD {ss : List Stmt} (h1 : EvQ X e σ R) (h2 : ∀ d σ', R d σ' → bB X ss σ' Q) (hi : autoParam (interactive X.env = false) bR) (hs : autoParam (swapsWith e none pos.line X.env = pure false) bR) :
 bB X (.Expr e pos :: ss) σ Q := ⟨fun H Φ h => cB (qR (h1.run _ _ fun v d σ' w => (h2 d σ' w).run _ Φ h) hi hs)⟩
end
theorem uU {B : ab} {n : Nat} {objs : OL} {name qual : Str} {params : Arguments} {body body' : List Stmt} {scope scope' : Scope} {dV kV doc pm cdv ct oc : Value} {an od : Option Addr} {osl : Array (Option Value)} {f : Addr} {args : List AV} {P : AV → OL → Prop} {loc : LL} (ps xs : List Str)
 (ho : B.K.lookup f = some ⟨oc, od, .func (fnOf name qual params body scope dV kV doc pm an cdv ct), osl⟩) (hcd : codeIn B.K cdv qual = true)
 (hb : bm B (fnOf name qual params body scope dV kV doc pm an cdv ct) ps args ds) (h : ∀ L, bB ⟨B, n, L, envOf qual scope' L f cdv⟩ body' ⟨loc, objs⟩ fun f σ' => f = .next ∧ P .none σ'.objs)
 (eb : body = body' := by (conv => lhs; whnf)) (es : scope = scope' := by (conv => lhs; whnf))
 (hloc : bL ps ds ++ bare xs = loc := by simp only [bL, bare, List.map_cons, List.map_nil, List.cons_append, List.nil_append] <;> rfl) (hl : autoParam (ps.length = ds.length) bR) (hn : (ps ++ xs).Nodup := by decide) (hps : autoParam (ps.all (fun y => scope'.names.lookup y == some .local) = true) bR)
 (hco : autoParam (scope'.isCoroutine = false) bR) (hgen : autoParam (scope'.isGenerator = false) bR) (hk : autoParam (scope'.kind = .function) bR) (hcell : ∀ x ∈ scope'.names, x.2 ≠ .cell := by decide) : aa B (n + 1) f args objs P :=
 rT ps xs ho hcd hb (fun L => (h L).run _ _ fun f σ' ⟨e, q⟩ => by subst e; exact q) eb es hloc hl hn hps hco hgen hk hcell
end
section
set_option genInjectivity false
variable {k i : Nat} {v : DV} {ps : List DV} {l : List (Str × DV)} {o : DO} {x : Str}
noncomputable section
inductive DV where
 | av (d : AV) | slot (i : Nat) | meth (f : Addr) (i : Nat)
inductive DO where
 | inst (C dx : Addr) (fs : List (Str × DV))
 | list (l : List AV) (ps : List DV)
 | dict (l : List (Str × DV))
 | cell (v : Option DV)
 | ao (o : AO)
structure DS where
 loc : List (Str × Option DV)
 objs : List (Nat × DO)
 rest : OL
inductive DF where
 | next | brk | cont | ret (v : DV)
inductive cD where
 | br (b : Bool)
 | ch (c : Nat)
 | cmp (c : Bool)
 | itm (d : AV)
 | call (k : Nat) (v : DV) (objs : List (Nat × DO)) (rest : OL) (m : Nat)
 | val (k : Nat) (v : DV) (D : DS)
 | stm (k : Nat) (D : DS)
structure Sy where
 D : DS
 n : Nat
 o : List cD
 c : Prop
structure Px where
 X : Cx
 K : Frag
 ρ : List Addr
 gl : List (Addr × AV)
 cl : List (Str × Nat)
noncomputable def aB (ρ : List Addr) : Nat → Addr := List.rec (fun _ => 0) (fun a _ ih i => Nat.casesOn i a ih) ρ
noncomputable def DV.to (ρ : List Addr) : DV → AV
 | .av d => d
 | .slot i => .ref (aB ρ i)
 | .meth f i => .meth f (aB ρ i)
noncomputable abbrev tos (ρ : List Addr) (l : List DV) : List AV := l.map (DV.to ρ)
noncomputable abbrev dA (ρ : List Addr) (l : List (Str × DV)) : FL := l.map fun p => (p.1, p.2.to ρ)
noncomputable def toL (ρ : List Addr) (l : List AV) (ps : List DV) : List AV := List.casesOn ps l fun p r => l ++ tos ρ (p :: r)
noncomputable def DO.to (ρ : List Addr) : DO → AO
 | .inst C dx fs => .inst C dx (dA ρ fs)
 | .list l ps => .list (toL ρ l ps)
 | .dict l => .dict (dA ρ l)
 | .cell v => .cell (v.map (DV.to ρ))
 | .ao o => o
noncomputable abbrev a8 (ρ : List Addr) (rest : OL) (l : List (Nat × DO)) : OL := l.map (fun p => (aB ρ p.1, p.2.to ρ)) ++ rest
noncomputable abbrev cM (ρ : List Addr) (l : List (Str × Option DV)) : LL := l.map fun p => (p.1, p.2.map (DV.to ρ))
noncomputable abbrev DS.to (ρ : List Addr) (D : DS) : St := ⟨cM ρ D.loc, a8 ρ D.rest D.objs⟩
noncomputable def DF.to (ρ : List Addr) : DF → Fl
 | .next => .next | .brk => .brk | .cont => .cont | .ret v => .ret (v.to ρ)
noncomputable def DV.bel (n : Nat) : DV → Bool
 | .av _ => true
 | .slot i => Nat.blt i n
 | .meth _ i => Nat.blt i n
noncomputable def xA (n : Nat) (o : Option DV) : Bool := Option.casesOn o true (DV.bel n)
noncomputable def DO.bel (n : Nat) : DO → Bool
 | .inst _ _ fs => fs.all fun p => p.2.bel n
 | .list _ ps => ps.all (DV.bel n)
 | .dict l => l.all fun p => p.2.bel n
 | .cell v => xA n v
 | .ao _ => true
noncomputable def qf (n : Nat) (l : List (Str × Option DV)) : Bool := l.all fun p => xA n p.2
noncomputable def C1 (n : Nat) (l : List (Nat × DO)) : Bool := l.all fun p => Nat.blt p.1 n && p.2.bel n
noncomputable def DS.bel (n : Nat) (D : DS) : Bool := qf n D.loc && C1 n D.objs
noncomputable def nw (k : Nat) : (List Addr → Prop) → Prop := Nat.rec (fun p => p []) (fun _ ih p => ∀ a, ih fun as => p (a :: as)) k
noncomputable def exX (k : Nat) : (List Addr → Prop) → Prop := Nat.rec (fun p => p []) (fun _ ih p => ∃ a, ih fun as => p (a :: as)) k
theorem g9 : ∀ {p : List Addr → Prop}, nw k p → ∀ as, as.length = k → p as := by
 induction k with
 | zero => exact fun h as e => List.eq_nil_of_length_eq_zero e ▸ h
 | succ k ih =>
  intro p h as e
  induction as using List.casesOn with
  | nil => contradiction
  | cons a r => exact ih (h a) r (Nat.succ.inj e)
theorem lH : ∀ {p : List Addr → Prop}, exX k p → ∃ as, as.length = k ∧ p as := by
 induction k with
 | zero => exact fun h => ⟨[], rfl, h⟩
 | succ k ih => exact fun ⟨a, h⟩ => let ⟨as, e, q⟩ := ih h; ⟨a :: as, congrArg (· + 1) e, q⟩
theorem p8 : ∀ {p : List Addr → Prop} {as : List Addr}, as.length = k → p as → exX k p := by
 induction k with
 | zero =>
  intro p as e h
  obtain rfl := List.eq_nil_of_length_eq_zero e
  exact h
 | succ k ih =>
  intro p as e h
  induction as using List.casesOn with
  | nil => contradiction
  | cons a r => exact ⟨a, ih (Nat.succ.inj e) h⟩
theorem dt {t : List Addr} : ∀ {i : Nat}, i < ρ.length → aB (ρ ++ t) i = aB ρ i := by
 induction ρ with
 | nil => exact fun h => absurd h (Nat.not_lt_zero _)
 | cons a r ih =>
  intro i h
  induction i using Nat.casesOn with
  | zero => rfl
  | succ i => exact ih (Nat.lt_of_succ_lt_succ h)
theorem nM {x : Addr} : aB (ρ ++ [x]) ρ.length = x := by
 induction ρ with
 | nil => rfl
 | cons a r ih => exact ih
theorem fy {n : Nat} (h : Nat.blt i n = true) : i < n := lB0 h
theorem ax {a b : Bool} (h : (a && b) = true) : a = true := (Bool.and_eq_true_iff.mp h).1
theorem aJ {a b : Bool} (h : (a && b) = true) : b = true := (Bool.and_eq_true_iff.mp h).2
theorem gH {α β : Type} {l : List α} {p : α → Bool} {f g : α → β} (h : l.all p = true) (k : ∀ a, p a = true → f a = g a) : l.map f = l.map g := List.map_congr_left fun a ha => k a (List.all_eq_true.mp h a ha)
section
variable {ρ t : List Addr}
theorem DV.to_app (h : v.bel ρ.length = true) : v.to (ρ ++ t) = v.to ρ := by
 induction v using DV.casesOn with
 | av d => rfl
 | slot i => exact congrArg AV.ref (dt (fy h))
 | meth f i => exact congrArg (AV.meth f) (dt (fy h))
theorem m7 (h : ps.all (DV.bel ρ.length) = true) : tos (ρ ++ t) ps = tos ρ ps := gH h fun _ => DV.to_app
theorem ib {ps : List (Str × DV)} (h : (ps.all fun p => p.2.bel ρ.length) = true) : dA (ρ ++ t) ps = dA ρ ps := gH h fun p q => congrArg (Prod.mk p.1) (DV.to_app q)
theorem mF {v : Option DV} (h : xA ρ.length v = true) : v.map (DV.to (ρ ++ t)) = v.map (DV.to ρ) := by
 induction v using Option.casesOn with
 | none => rfl
 | some v => exact congrArg some (DV.to_app h)
theorem fm {l : List AV} : toL ρ l ps = l ++ tos ρ ps := by
 induction ps using List.casesOn with
 | nil => exact (List.append_nil _).symm
 | cons _ _ => rfl
theorem DO.to_app (h : o.bel ρ.length = true) : o.to (ρ ++ t) = o.to ρ := by
 cases o with
 | inst C dx fs => exact congrArg (AO.inst C dx) (ib h)
 | list l ps => exact congrArg AO.list (by rw [fm, fm, m7 h])
 | dict l => exact congrArg AO.dict (ib h)
 | cell v => exact congrArg AO.cell (mF h)
 | ao o => rfl
theorem iT {l : List (Str × Option DV)} (h : qf ρ.length l = true) : cM (ρ ++ t) l = cM ρ l := gH h fun p q => congrArg (Prod.mk p.1) (mF q)
theorem DS.to_app {D : DS} (h : D.bel ρ.length = true) : D.to (ρ ++ t) = D.to ρ := by
 show St.mk _ (_ ++ _) = St.mk _ (_ ++ _)
 rw [iT (ax h), gH (g := fun p => (aB ρ p.1, p.2.to ρ)) (aJ h) fun p q => congr (congrArg Prod.mk (dt (fy (ax q)))) (DO.to_app (aJ q))]
noncomputable def cc {α : Type} (x : Str) (l : List (Str × α)) : Option α := (l.find? fun p => p.1 == x).map (·.2)
noncomputable def jT (x : Str) (d : DV) (l : List (Str × DV)) : List (Str × DV) := List.rec [(x, d)] (fun p r ih => bif p.1 == x then (x, d) :: r else p :: ih) l
noncomputable def oA (x : Str) (d : DV) (l : List (Str × Option DV)) : Option (List (Str × Option DV)) := List.rec none (fun p r ih => bif p.1 == x then some ((x, some d) :: r) else ih.map (p :: ·)) l
noncomputable def ba (i : Nat) (l : List (Nat × DO)) : Option DO := (l.find? fun p => Nat.beq p.1 i).map (·.2)
noncomputable def fS (i : Nat) (o : DO) (l : List (Nat × DO)) : List (Nat × DO) := List.rec [] (fun p r ih => bif Nat.beq p.1 i then (i, o) :: r else p :: ih) l
noncomputable def j8 (i : Nat) (l : List (Nat × DO)) : List (Nat × DO) := List.rec [] (fun p r ih => bif Nat.beq p.1 i then r else p :: ih) l
variable {rest : OL}
theorem mJ : bp x (dA ρ l) = (cc x l).map (DV.to ρ) := by
 unfold bp cc
 rw [List.find?_map]
 show ((l.find? fun p => p.1 == x).map _).map _ = _
 cases l.find? fun p => p.1 == x <;> rfl
theorem gR (h : cc x l = some v) : bp x (dA ρ l) = some (v.to ρ) := by refine mJ ▸ h ▸ ?_; rfl
theorem gb (h : cc x l = none) : bp x (dA ρ l) = none := by refine mJ ▸ h ▸ ?_; rfl
theorem k8 {l : List (Str × Option DV)} (h : cc x l = some (some v)) : (x, some (v.to ρ)) ∈ cM ρ l := by
 refine x12 (Option.map_eq_some_iff.mp h) ?_; rintro p h1 h2
 have e := List.find?_some h1
 refine List.mem_map.mpr ⟨p, List.mem_of_find?_eq_some h1, ?_⟩
 refine (eq_of_beq e) ▸ h2 ▸ ?_; rfl
theorem nh {d : DV} : dA ρ (jT x d l) = c5 x (d.to ρ) (dA ρ l) := by
 induction l with
 | nil => rfl
 | cons p r ih =>
  show dA ρ (bif p.1 == x then (x, d) :: r else p :: jT x d r) = if p.1 == x then (x, d.to ρ) :: dA ρ r else (p.1, p.2.to ρ) :: c5 x (d.to ρ) (dA ρ r)
  induction p.1 == x using Bool.casesOn with
  | true => rfl
  | false => exact congrArg (List.cons _) ih
theorem jm {d : DV} {l : List (Str × Option DV)} : ∀ {l' : List (Str × Option DV)}, oA x d l = some l' → e5 x (d.to ρ) (cM ρ l) (cM ρ l') := by
 induction l with
 | nil => exact fun h => nomatch h
 | cons p r ih =>
  intro l' h
  replace h : (bif p.1 == x then some ((x, some d) :: r) else (oA x d r).map (p :: ·)) = some l' := h
  induction q : p.1 == x using Bool.casesOn with
  | true => rw [q] at h; obtain rfl := eq_of_beq q; obtain rfl := Option.some.inj h; exact .hit
  | false =>
   rw [q] at h
   refine x12 (Option.map_eq_some_iff.mp h) ?_; rintro r' h1 h2
   exact h2 ▸ .skip (ih h1)
theorem iK {p : Nat × DO} {r : List (Nat × DO)} (h : ba i (p :: r) = some o) : (Nat.beq p.1 i = true ∧ p = (i, o)) ∨ (Nat.beq p.1 i = false ∧ ba i r = some o) := by
 unfold ba at h
 rw [List.find?_cons] at h
 induction q : Nat.beq p.1 i using Bool.casesOn with
 | true => rw [q] at h; exact .inl ⟨rfl, by obtain rfl := Nat.eq_of_beq_eq_true q; obtain rfl := Option.some.inj h; rfl⟩
 | false => rw [q] at h; exact .inr ⟨rfl, h⟩
theorem bA {l : List (Nat × DO)} (h : ba i l = some o) : (aB ρ i, o.to ρ) ∈ a8 ρ rest l := by
 refine x12 (Option.map_eq_some_iff.mp h) ?_; rintro p h1 h2
 exact List.mem_append_left _ (List.mem_map.mpr ⟨p, List.mem_of_find?_eq_some h1, by rw [Nat.eq_of_beq_eq_true (List.find?_some (p := fun p : Nat × DO => Nat.beq p.1 i) h1), h2]⟩)
theorem dK {o' : DO} {l : List (Nat × DO)} (h : ba i l = some o) : Chg (aB ρ i) (o.to ρ) (o'.to ρ) (a8 ρ rest l) (a8 ρ rest (fS i o' l)) := by
 induction l with
 | nil => contradiction
 | cons p r ih =>
  show Chg _ _ _ _ (a8 ρ rest (bif Nat.beq p.1 i then (i, o') :: r else p :: fS i o' r))
  rcases iK h with ⟨e1, e2⟩ | ⟨e1, e2⟩
  · refine e1 ▸ e2 ▸ ?_; exact .head
  · refine e1 ▸ ?_; exact .tail (ih e2)
theorem oU {l : List (Nat × DO)} (h : ba i l = some o) : dX (aB ρ i) (o.to ρ) (a8 ρ rest l) (a8 ρ rest (j8 i l)) := by
 induction l with
 | nil => contradiction
 | cons p r ih =>
  show dX _ _ _ (a8 ρ rest (bif Nat.beq p.1 i then r else p :: j8 i r))
  rcases iK h with ⟨e1, e2⟩ | ⟨e1, e2⟩
  · refine e1 ▸ e2 ▸ ?_; exact .head
  · refine e1 ▸ ?_; exact .tail (ih e2)
theorem dO {l : List AV} : (toL ρ l ps).length = l.length + ps.length := by rw [fm, List.length_append, List.length_map]
theorem fF {l : List AV} {p : DV} : AO.list (toL ρ l (ps ++ [p])) = .list (toL ρ l ps ++ [p.to ρ]) := by rw [fm, fm, tos, List.map_append, List.append_assoc]; rfl
end
noncomputable def lm (v : DV) : Option AV := DV.casesOn v some (fun _ => none) fun _ _ => none
theorem iN {d : AV} (h : lm v = some d) : v.to ρ = d := by
 induction v using DV.casesOn with
 | av x => exact Option.some.inj h
 | slot => contradiction
 | meth => contradiction
noncomputable def ik (ps : List DV) : Option (List AV) := List.rec (some []) (fun v _ ih => (lm v).bind fun d => ih.map (d :: ·)) ps
noncomputable def gX (ps : List (Str × DV)) : Option (FL) := List.rec (some []) (fun p _ ih => (lm p.2).bind fun d => ih.map ((p.1, d) :: ·)) ps
theorem iO : ∀ {l : List AV}, ik ps = some l → tos ρ ps = l := by
 induction ps with
 | nil => exact fun h => Option.some.inj h
 | cons v r ih =>
  intro l h
  refine x12 (Option.bind_eq_some_iff.mp h) ?_; rintro d h1 h2
  refine x12 (Option.map_eq_some_iff.mp h2) ?_; rintro l' h3 h4
  exact h4 ▸ congr (congrArg List.cons (iN h1)) (ih h3)
theorem iJ {ps : List (Str × DV)} : ∀ {l : FL}, gX ps = some l → dA ρ ps = l := by
 induction ps with
 | nil => exact fun h => Option.some.inj h
 | cons v r ih =>
  intro l h
  refine x12 (Option.bind_eq_some_iff.mp h) ?_; rintro d h1 h2
  refine x12 (Option.map_eq_some_iff.mp h2) ?_; rintro l' h3 h4
  exact h4 ▸ congr (congrArg (fun z => List.cons (v.1, z)) (iN h1)) (ih h3)
end
end
section
set_option genInjectivity false
variable {α : Type} {e : Expr} {es : List Expr} {pos : Pos}
noncomputable section
noncomputable def bk (e : Expr) : Bool := by
 cases e with
 | Starred => exact false
 | ListComp => exact false
 | SetComp => exact false
 | DictComp => exact false
 | Set => exact false
 | Slice => exact false
 | _ => exact true
noncomputable abbrev dJ := bk
noncomputable abbrev f8 := bk
noncomputable abbrev bd := bk
noncomputable def eA (e : Expr) : Bool := by
 cases e with
 | Call => exact false
 | _ => exact true
noncomputable def z6 (o : UnaryOp) : Bool := by
 cases o with
 | Not => exact true
 | _ => exact false
noncomputable def pL (e : Expr) : Bool := by
 cases e with
 | UnaryOp op => exact !z6 op
 | BoolOp => exact false
 | IfExp => exact false
 | Compare => exact false
 | _ => exact true
noncomputable abbrev kt (p : α → Bool) (l : List α) : Bool := l.all p
theorem cd {b : Bool} {x y : α} (h : b = true) (e : x = cond b y x) : x = y := by
 subst h; exact e
section
variable {env : Env}
theorem gI {t : Option Expr} {l : Nat} (h : dJ e = true) : swapsWith e t l env = pure false := cd h (by clear h; rcases e with _ | _ <;> rfl)
theorem gJ (h : bk e = true) : starEach (e :: es) env = (false, eval e env) :: starEach es env := cd h (by clear h; rcases e with _ | _ <;> rfl)
theorem h6 (h : kt bk es = true) : (backTo pos (starEach es env)).any (·.1) = false := by
 induction es with
 | nil => rfl
 | cons e es ih => exact (gJ (ax h)) ▸ (ih (aJ h))
theorem ot (h : kt bk es = true) : (backTo pos (starEach es env)).all (!·.1) = true := by
 induction es with
 | nil => rfl
 | cons e es ih => exact (gJ (ax h)) ▸ (ih (aJ h))
theorem tN {o : Expr} {attr : Str} {w : Sem Value} (h : eA o = true) : attributeBase o attr env w = w := cd h (by clear h; rcases o with _ | _ <;> rfl)
theorem jH {op : CmpOp} (h : f8 e = true) : behindInMarks op e = false := cd h (by clear h; rcases e with _ | _ <;> rfl)
theorem s7 {x : Str} {xp : Pos} {args : List Expr} : eval (.Call (.Name x xp) args [] pos) env = (do callWith pos (← eval (.Name x xp) env) [] (backTo pos (starEach args env)) []) := rfl
theorem uL {attr : Str} (h : eA e = true) : eval (.Attribute e attr pos) env = (do
 let o ← eval e env
 standAt pos.atName
 let r ← holding [o] (getAttr o attr true)
 letTemporaryGo e o r
 pure r) := cd h (by clear h; rcases e with _ | _ <;> rfl)
theorem mB {o : Expr} {name : Str} {args : List Expr} {apos : Pos} (h : eA o = true) (hs : kt bk args = true) (hl : Nat.blt args.length 30 = true) (hp : (apos.endLine == pos.line) = true) :
 eval (.Call (.Attribute o name apos) args [] pos) env = (do
  let ov ← eval o env
  standAt apos.atName
  let (f, first) ← holding [ov] (getMethod ov name (do return (← importBound o env).getD true))
  callWith pos f first (backTo pos (starEach args env)) []) := by
 have hf : methodCallForm (args.length + 0) (backTo pos (starEach args env)) (backToKw pos (keywordEach [] env)) = true := by
  unfold methodCallForm
  rw [ot hs, show (backToKw pos (keywordEach [] env)) = [] from rfl]
  exact decide_eq_true (fy hl)
 have e1 : eval (.Call (.Attribute o name apos) args [] pos) env = (do
  let ov ← attributeBase o name env (eval o env)
  standAt apos.atName
  methodCall o name apos pos env ov (args.length + 0) (backTo pos (starEach args env)) (backToKw pos (keywordEach [] env))) := rfl
 have e2 : methodCallPos true o env apos pos = pure pos := by
  unfold methodCallPos
  rw [hp]; rfl
 rw [e1, tN h]
 unfold methodCall
 simp only [hf, e2]
 rfl
theorem rJ (h : pL e = true) (whole : Sem Value) : isTrue e env whole = (do let v ← whole; standAt e.pos; holding [v] (truthy v)) := cd h (by
 clear h
 cases e with
 | UnaryOp op => rcases op with _ | _ <;> rfl
 | _ => rfl)
theorem fh (h : bd e = true) (o i : Value) : ∃ ops, subscripted e false o i = operate ops (getItem o i) := ⟨[o, i], cd h (by clear h; rcases e with _ | _ <;> rfl)⟩
theorem qr (h : bk e = true) : assignEach (e :: es) env = (false, assign e env) :: assignEach es env := cd h (by clear h; rcases e with _ | _ <;> rfl)
theorem lc {c : Prop} [Decidable c] {x : Sem α} {v : α} (h : x = pure v) : (if c then pure v else x) = pure v := by
 subst h; exact ite_self _
theorem lV {ts vs : List Expr} {k k' : Nat} {p p' : Pos} {env : Env} (h : vs.all (foldedForSure 8) = true) : swappedStores [.Tuple ts k p] (.Tuple vs k' p') env = pure none := by
 unfold swappedStores
 exact lc (lc (lc ((congrArg (fun b => ite (b = true) (pure none) _) h).trans rfl)))
noncomputable def rg (e : Expr) : Bool := by
 cases e with
 | Tuple vs => exact vs.all (foldedForSure 8)
 | _ => exact true
theorem oK {ts : List Expr} {k : Nat} {p : Pos} {env : Env} (h : rg e = true) : swappedStores [.Tuple ts k p] e env = pure none := by
 rcases e with _ | _
 case Tuple => exact lV h
 all_goals rfl
theorem xz (h : bd e = true) (ov iv c : Value) : augStore e ov iv c = (do holding [c, ov, iv] (setItem ov iv c); release [c, ov, iv] []; pure .next) := cd h (by clear h; rcases e with _ | _ <;> rfl)
end
end
end
section
set_option genInjectivity false
variable {op : CmpOp} {a : DV} {s : Sy} {X : Cx} {ρ : List Addr} {i j : Nat} {D : DS} {K : Frag} {name : Str} {C dx : Addr} {fs : List (Str × DV)}
noncomputable section
noncomputable def ob {α : Type u} {β : Type v} (o : Option α) (f : α → Option β) : Option β := Option.casesOn o none f
noncomputable def obe {α : Type u} {β : Type v} (o : Option α) (f : ∀ a, o = some a → Option β) : Option β := Option.casesOn (motive := fun o => (∀ a, o = some a → Option β) → Option β) o (fun _ => none) (fun a f => f a rfl) f
noncomputable def gd {α : Type u} (b : Bool) (f : b = true → Option α) : Option α := Bool.casesOn (motive := fun b => (b = true → Option α) → Option α) b (fun _ => none) (fun f => f rfl) f
inductive DB where
 | yes | no | is (c : Bool)
noncomputable def DB.val : DB → Bool
 | .yes => true
 | .no => false
 | .is c => c
noncomputable abbrev RA (op : CmpOp) (a b : AV) := {r : DB // ∀ X σ, bG X op a b r.val σ}
noncomputable abbrev RA.r {a b : AV} (x : RA op a b) : DB := x.1
theorem RA.ok {a b : AV} (x : RA op a b) : ∀ X σ, bG X op a b x.r.val σ := x.2
noncomputable abbrev RC (op : CmpOp) (a b : DV) := {r : DB // ∀ X σ ρ, bG X op (a.to ρ) (b.to ρ) r.val σ}
noncomputable abbrev RC.r {b : DV} (x : RC op a b) : DB := x.1
theorem RC.ok {b : DV} (x : RC op a b) : ∀ X σ ρ, bG X op (a.to ρ) (b.to ρ) x.r.val σ := x.2
noncomputable def zD (i j : Int) : (op : CmpOp) → Option (RA op (.int i) (.int j))
 | .Eq => some ⟨.is _, fun _ _ => B8⟩
 | .NotEq => some ⟨.is _, fun _ _ => BA⟩
 | .Lt => some ⟨.is _, fun _ _ => yw⟩
 | .LtE => some ⟨.is _, fun _ _ => C4⟩
 | .Gt => some ⟨.is _, fun _ _ => B6⟩
 | .GtE => some ⟨.is _, fun _ _ => Bc⟩
 | _ => none
noncomputable def zs (x y : List Nat) : (op : CmpOp) → Option (RA op (.str x) (.str y))
 | .Eq => some ⟨.is _, fun _ _ => f1⟩
 | .NotEq => some ⟨.is _, fun _ _ => qO⟩
 | .In => (match x with
  | [c] => some ⟨.is _, fun _ _ => vk⟩
  | _ => none)
 | .NotIn => (match x with
  | [c] => some ⟨.is _, fun _ _ => wW⟩
  | _ => none)
 | _ => none
noncomputable def AP (x : List Nat) (l : List AV) : (op : CmpOp) → Option (RA op (.str x) (.tup l))
 | .In => obe (aG l) fun ms e => some ⟨.is _, fun _ _ => AA e⟩
 | .NotIn => obe (aG l) fun ms e => some ⟨.is _, fun _ _ => wu e⟩
 | _ => none
noncomputable def A3 (i : Int) (l : List AV) : (op : CmpOp) → Option (RA op (.int i) (.tup l))
 | .In => obe (ip l) fun ms e => some ⟨.is _, fun _ _ => Ah e⟩
 | _ => none
noncomputable def zS (l : List AV) : (op : CmpOp) → Option (RA op .none (.tup l))
 | .In => obe (dataAll l) fun ps e => gd (PyData.canLayAll0 ps && !(ps.any fun y => PyData.eqv y .none)) fun q => some ⟨.no, fun _ _ => xe e (ax q) (by simpa using aJ q)⟩
 | _ => none
noncomputable def zn (y : List Nat) : (op : CmpOp) → Option (RA op .none (.str y))
 | .Eq => gd (PyData.strOk (S y)) fun q => some ⟨.no, fun _ _ => wH q⟩
 | _ => none
noncomputable def zj (p q : Bool) : (op : CmpOp) → Option (RA op (.bool p) (.bool q))
 | .Eq => some ⟨.is _, fun _ _ => Ab⟩
 | _ => none
noncomputable def oB (op : CmpOp) (a b : AV) : Option (RA op a b) := match a with
 | .int i => (match b with
  | .int j => zD i j op
  | .tup l => A3 i l op
  | _ => none)
 | .str x => (match b with
  | .str y => zs x y op
  | .tup l => AP x l op
  | _ => none)
 | .none => (match b with
  | .str y => zn y op
  | .tup l => zS l op
  | _ => none)
 | .bool p => (match b with
  | .bool q => zj p q op
  | _ => none)
 | _ => none
noncomputable abbrev RN (a : DV) := {r : Bool // ∀ ρ P F v, Is P F v (a.to ρ) → (v == Value.none) = r}
noncomputable abbrev RN.r (x : RN a) : Bool := x.1
theorem RN.ok (x : RN a) : ∀ ρ P F v, Is P F v (a.to ρ) → (v == Value.none) = x.r := x.2
noncomputable def vz : (a : DV) → Option (RN a)
 | .av d => (match d with
  | .none => some ⟨true, fun _ => uI⟩
  | .str _ => some ⟨false, fun _ => qc⟩
  | .int _ => some ⟨false, fun _ => qS⟩
  | .dct _ => some ⟨false, fun _ => qb⟩
  | _ => none)
 | .slot _ => some ⟨false, fun _ => ru⟩
 | _ => none
noncomputable def DB.of (b : Bool) : DB := Bool.casesOn b .no .yes
theorem DB.of_val (b : Bool) : (DB.of b).val = b := by rcases b with _ | _ <;> rfl
noncomputable def Bi (op : CmpOp) (a b : DV) : Option (RC op a b) := match b with
 | .av y => (match op with
  | .Is => (match y with
   | .none => ob (vz a) fun q => some ⟨.of q.r, fun X σ ρ => (DB.of_val _).symm ▸ Cg (q.ok ρ)⟩
   | _ => none)
  | .IsNot => (match y with
   | .none => ob (vz a) fun q => some ⟨.of !q.r, fun X σ ρ => (DB.of_val _).symm ▸ xY (q.ok ρ)⟩
   | _ => none)
  | op => (match a with
   | .av x => ob (oB op x y) fun q => some ⟨q.r, fun X σ _ => q.ok X σ⟩
   | _ => none))
 | _ => none
noncomputable def Sy.need (s : Sy) (p : Prop) : Sy := ⟨s.D, s.n, s.o, s.c ∧ p⟩
structure eX (s s' : Sy) : Prop where
 D : s'.D = s.D
 n : s'.n = s.n
 c : s'.c → s.c
theorem eX.refl (s : Sy) : eX s s := ⟨rfl, rfl, id⟩
theorem eX.need (s : Sy) (p : Prop) : eX s (s.need p) := ⟨rfl, rfl, And.left⟩
noncomputable abbrev RB (op : Operator) (a b : DV) (s : Sy) := Sigma fun v : DV => {s' : Sy // eX s s' ∧ (s'.c → ∀ X σ ρ, jD X op (a.to ρ) (b.to ρ) (v.to ρ) σ ∧ q7 X op (a.to ρ) (b.to ρ) (v.to ρ) σ)}
noncomputable abbrev RB.v {op : Operator} {b : DV} (x : RB op a b s) : DV := x.1
noncomputable abbrev RB.s' {op : Operator} {b : DV} (x : RB op a b s) : Sy := x.2.1
theorem RB.A {op : Operator} {b : DV} (x : RB op a b s) : eX s x.s' := x.2.2.1
theorem RB.ok {op : Operator} {b : DV} (x : RB op a b s) : x.s'.c → ∀ X σ ρ, jD X op (a.to ρ) (b.to ρ) (x.v.to ρ) σ ∧ q7 X op (a.to ρ) (b.to ρ) (x.v.to ρ) σ := x.2.2.2
noncomputable def u6 (op : Operator) (a b : DV) (s : Sy) : Option (RB op a b s) := match a with
 | .av (.int i) => (match b with
  | .av (.int j) => (match op with
   | .Add => some ⟨.av (.int (i + j)), s, .refl s, fun _ _ _ _ => ⟨i5, zC⟩⟩
   | .Sub => some ⟨.av (.int (i - j)), s, .refl s, fun _ _ _ _ => ⟨oM, AM⟩⟩
   | _ => none)
  | _ => none)
 | .av (.str x) => (match b with
  | .av (.str y) => (match op with
   | .Add => some ⟨.av (.str (x ++ y)), s.need (x.length + y.length ≤ 16777216), .need _ _, fun c _ _ _ => ⟨ye c.2, xN c.2⟩⟩
   | _ => none)
  | _ => none)
 | _ => none
noncomputable abbrev RT (a : DV) (s : Sy) := Sigma fun r : DB => {s' : Sy // eX s s' ∧ (s'.c → ∀ X ρ, hY X (a.to ρ) r.val (s.D.to ρ))}
noncomputable abbrev RT.r (x : RT a s) : DB := x.1
noncomputable abbrev RT.s' (x : RT a s) : Sy := x.2.1
theorem RT.A (x : RT a s) : eX s x.s' := x.2.2.1
theorem RT.ok (x : RT a s) : x.s'.c → ∀ X ρ, hY X (a.to ρ) x.r.val (s.D.to ρ) := x.2.2.2
theorem n9 {l : List AV} {ps : List DV} (e : ba i D.objs = some (.list l ps)) (hz : l.length + ps.length ≤ 16777216) : hY X (.ref (aB ρ i)) (!(toL ρ l ps).isEmpty) (D.to ρ) :=
 vS (bA e) (by refine dO ▸ ?_; exact hz)
noncomputable def C8 (i : Nat) (s : Sy) (l : List AV) (ps : List DV) (e : ba i s.D.objs = some (.list l ps)) : RT (.slot i) s := match ps with
 | [] => ⟨.is (!l.isEmpty), s.need (l.length + 0 ≤ 16777216), .need _ _, fun c X ρ => n9 e c.2⟩
 | p :: r => ⟨.yes, s.need (l.length + (p :: r).length ≤ 16777216), .need _ _, fun c X ρ => by
  have w := n9 (X := X) (ρ := ρ) e c.2
  rw [show (!(toL ρ l (p :: r)).isEmpty) = true by rcases l with _ | _ <;> rfl] at w
  exact w⟩
noncomputable def wV (a : DV) (s : Sy) : Option (RT a s) := match a with
 | .av d => (match d with
  | .none => some ⟨.no, s, .refl s, fun _ _ _ => wq⟩
  | .bool c => some ⟨.is c, s, .refl s, fun _ _ _ => jy⟩
  | .int i => some ⟨.is (!decide (i = 0)), s, .refl s, fun _ _ _ => zf⟩
  | .str x => some ⟨.is (!decide (x = [])), s.need (x.length ≤ 16777216), .need _ _, fun c _ _ => zZ c.2⟩
  | _ => none)
 | .meth _ _ => some ⟨.yes, s, .refl s, fun _ _ _ => yO⟩
 | .slot i => obe (ba i s.D.objs) fun o e => (match o, e with
  | .list l ps, e => some (C8 i s l ps e)
  | _, _ => none)
noncomputable abbrev RD (r : DB) (s : Sy) := Sigma fun b : Bool => {s' : Sy // eX s s' ∧ (s'.c → r.val = b)}
noncomputable abbrev RD.b {r : DB} (x : RD r s) : Bool := x.1
noncomputable abbrev RD.s' {r : DB} (x : RD r s) : Sy := x.2.1
theorem RD.A {r : DB} (x : RD r s) : eX s x.s' := x.2.2.1
theorem RD.ok {r : DB} (x : RD r s) : x.s'.c → r.val = x.b := x.2.2.2
noncomputable def sG (r : DB) (s : Sy) : Option (RD r s) := match r with
 | .yes => some ⟨true, s, .refl s, fun _ => rfl⟩
 | .no => some ⟨false, s, .refl s, fun _ => rfl⟩
 | .is c => (match s.o with
  | .br b :: o => some ⟨b, ⟨s.D, s.n, o, s.c ∧ c = b⟩, ⟨rfl, rfl, And.left⟩, And.right⟩
  | _ => none)
noncomputable abbrev RG (K : Frag) (i : Nat) (name : Str) (s : Sy) := {v : DV // ∀ X : Cx, X.B.K = K → ∀ ρ, l7 X (.ref (aB ρ i)) name (v.to ρ) (s.D.to ρ)}
noncomputable abbrev RG.v (x : RG K i name s) : DV := x.1
theorem RG.ok (x : RG K i name s) : ∀ X : Cx, X.B.K = K → ∀ ρ, l7 X (.ref (aB ρ i)) name (x.v.to ρ) (s.D.to ρ) := x.2
noncomputable def jw (v : DV) : Bool := DV.casesOn v dw (fun _ => true) fun _ _ => true
theorem ox {v : DV} (h : jw v = true) : dw (v.to ρ) = true := by
 induction v using DV.casesOn with
 | av d => exact h
 | slot i => rfl
 | meth f i => rfl
theorem wS {v : DV} (hK : X.B.K = K) (e : ba i D.objs = some (.inst C dx fs)) (q : cc name fs = some v) (h : (cR K C name && jw v) = true) : l7 X (.ref (aB ρ i)) name (v.to ρ) (D.to ρ) := by
 subst hK
 exact ⟨fun _ _ _ mv k => vy mv (bA e) (ax h) (gR q) (ox (aJ h)) k⟩
theorem xm {g : Addr} (hK : X.B.K = K) (e : ba i D.objs = some (.inst C dx fs)) (q : cc name fs = none) (h : bP K C name g = true) : l7 X (.ref (aB ρ i)) name (.meth g (aB ρ i)) (D.to ρ) := by
 subst hK
 exact AG (bA e) (gb q) h
theorem xu {k : Int} (hK : X.B.K = K) (e : ba i D.objs = some (.inst C dx fs)) (q : cc name fs = none) (h : ie K C name = some k) : l7 X (.ref (aB ρ i)) name (.int k) (D.to ρ) := by
 subst hK
 exact A4 (bA e) (gb q) h
noncomputable def vp (o : Option (Option Value)) : Option Addr := match o with
 | some (some (.ref g)) => some g
 | _ => none
noncomputable def yT (K : Frag) (i : Nat) (name : Str) (s : Sy) : Option (RG K i name s) := obe (ba i s.D.objs) fun o e => match o, e with
 | .inst C dx fs, e => Option.casesOn (motive := fun z => cc name fs = z → Option (RG K i name s)) (cc name fs)
  (fun q => Option.casesOn (motive := fun _ => Option (RG K i name s)) (vp (findIn K (.ref C) name)) (obe (ie K C name) fun k h => some ⟨.av (.int k), fun X hK ρ => xu hK e q h⟩) fun g => gd (bP K C name g) fun h => some ⟨.meth g i, fun X hK ρ => xm hK e q h⟩)
  (fun v q => gd (cR K C name && jw v) fun h => some ⟨v, fun X hK ρ => wS hK e q h⟩) rfl
 | _, _ => none
noncomputable def Sy.objs (s : Sy) (l : List (Nat × DO)) : Sy := ⟨⟨s.D.loc, l, s.D.rest⟩, s.n, s.o, s.c⟩
noncomputable abbrev RS (K : Frag) (i : Nat) (name : Str) (v : DV) (s : Sy) := {l : List (Nat × DO) // ∀ X : Cx, X.B.K = K → ∀ ρ, k6 X (.ref (aB ρ i)) name (v.to ρ) (s.D.to ρ) ((s.objs l).D.to ρ)}
noncomputable abbrev RS.l {v : DV} (x : RS K i name v s) : List (Nat × DO) := x.1
theorem RS.ok {v : DV} (x : RS K i name v s) : ∀ X : Cx, X.B.K = K → ∀ ρ, k6 X (.ref (aB ρ i)) name (v.to ρ) (s.D.to ρ) ((s.objs x.l).D.to ρ) := x.2
theorem yl {v : DV} (hK : X.B.K = K) (e : ba i s.D.objs = some (.inst C dx fs)) (h : (dr K C name && Nat.ble fs.length 900) = true) : k6 X (.ref (aB ρ i)) name (v.to ρ) (s.D.to ρ) ((s.objs (fS i (.inst C dx (jT name v fs)) s.D.objs)).D.to ρ) := by
 subst hK
 have m := dK (ρ := ρ) (rest := s.D.rest) (o' := .inst C dx (jT name v fs)) e
 rw [show (DO.inst C dx (jT name v fs)).to ρ = .inst C dx (c5 name (v.to ρ) (dA ρ fs)) from congrArg (AO.inst C dx) nh] at m
 exact ⟨fun _ _ _ _ mv md k => v6 (σ := s.D.to ρ) mv md m (ax h) (by rw [List.length_map]; exact lB0 (aJ h)) k⟩
noncomputable def zW (K : Frag) (i : Nat) (name : Str) (v : DV) (s : Sy) : Option (RS K i name v s) := obe (ba i s.D.objs) fun o e => match o, e with
 | .inst C dx fs, e => gd (dr K C name && Nat.ble fs.length 900) fun h => some ⟨_, fun X hK ρ => yl hK e h⟩
 | _, _ => none
noncomputable abbrev RI (a i : DV) (s : Sy) := Sigma fun v : DV => {s' : Sy // eX s s' ∧ (s'.c → ∀ X ρ e1 e2, bd e2 = true → bY X e1 e2 (a.to ρ) (i.to ρ) (v.to ρ) (s.D.to ρ))}
noncomputable abbrev RI.v {i : DV} (x : RI a i s) : DV := x.1
noncomputable abbrev RI.s' {i : DV} (x : RI a i s) : Sy := x.2.1
theorem RI.A {i : DV} (x : RI a i s) : eX s x.s' := x.2.2.1
theorem RI.ok {i : DV} (x : RI a i s) : x.s'.c → ∀ X ρ e1 e2, bd e2 = true → bY X e1 e2 (a.to ρ) (i.to ρ) (x.v.to ρ) (s.D.to ρ) := x.2.2.2
theorem uy {l : List AV} {ps : List DV} {v : DV} {e1 e2 : Expr} (e : ba j D.objs = some (.list l ps)) (q : ps.getLast? = some v) (hz : l.length + ps.length ≤ 16777000) (hs : bd e2 = true) : bY X e1 e2 (.ref (aB ρ j)) (.int (-1)) (v.to ρ) (D.to ρ) := by
 have m := bA (ρ := ρ) (rest := D.rest) e
 obtain ⟨qs, rfl⟩ := List.getLast?_eq_some_iff.mp q
 rw [DO.to, fF] at m
 exact pv m (by refine dO ▸ ?_; rw [List.length_append] at hz; exact nT0 (Nat.add_le_add_left (Nat.le_add_right _ _) _) hz) (fh hs)
theorem yI {l : List (Str × DV)} {x : List Nat} {v : DV} {e1 e2 : Expr} (e : ba j D.objs = some (.dict l)) (q : cc (S x) l = some v) (hs : bd e2 = true) : bY X e1 e2 (.ref (aB ρ j)) (.str x) (v.to ρ) (D.to ρ) :=
 ⟨fun _ _ _ _ mo mi k => yr mo (bA e) mi (gR q) k (fh hs _ _)⟩
noncomputable def BI (a i : DV) (s : Sy) : Option (RI a i s) := match i with
 | .av (.str x) => (match a with
  | .av (.dct l) => obe (bp (S x) l) fun d e => some ⟨.av d, s, .refl s, fun _ X ρ e1 e2 hs => pD e (fh hs)⟩
  | .slot j => obe (ba j s.D.objs) fun o e => (match o, e with
   | .dict l, e => obe (cc (S x) l) fun v q => some ⟨v, s, .refl s, fun _ X ρ e1 e2 hs => yI e q hs⟩
   | _, _ => none)
  | _ => none)
 | .av (.int k) => (match a with
  | .av (.str x) => (match s.o with
   | .ch c :: o => some ⟨.av (.str [c]), ⟨s.D, s.n, o, (s.c ∧ at? x k = some c) ∧ x.length ≤ 16777216⟩, ⟨rfl, rfl, fun c => c.1.1⟩, fun h X ρ e1 e2 hs => rn h.1.2 h.2 (fh hs)⟩
   | _ => none)
  | .slot j => (match k with
   | .negSucc 0 => obe (ba j s.D.objs) fun o e => (match o, e with
    | .list l ps, e => obe ps.getLast? fun v q => some ⟨v, s.need (l.length + ps.length ≤ 16777000), .need _ _, fun c X ρ e1 e2 hs => uy e q c.2 hs⟩
    | _, _ => none)
   | _ => none)
  | _ => none)
 | _ => none
structure xD (X : Cx) (a i d : AV) (σ σ' : St) : Prop where
 run : ∀ (H : HL) va vi vd (Φ : St → Prop), (va, a) ∈ H → (vi, i) ∈ H → (vd, d) ∈ H → Φ σ' → WU X.B X.n X.L (setItem va vi vd) H σ Φ
structure Aw (X : Cx) (a i d : AV) (σ : St) : Prop where
 run : ∀ (H : HL) va vi (Φ : PV), (va, a) ∈ H → (vi, i) ∈ H → (∀ v, Φ v d σ) → WV X.B X.n X.L (getItem va vi) H σ Φ
noncomputable abbrev RJ (a i v : DV) (s : Sy) := {l : List (Nat × DO) // ∀ X ρ, xD X (a.to ρ) (i.to ρ) (v.to ρ) (s.D.to ρ) ((s.objs l).D.to ρ)}
noncomputable abbrev RJ.l {i v : DV} (x : RJ a i v s) : List (Nat × DO) := x.1
theorem RJ.ok {i v : DV} (x : RJ a i v s) : ∀ X ρ, xD X (a.to ρ) (i.to ρ) (v.to ρ) (s.D.to ρ) ((s.objs x.l).D.to ρ) := x.2
theorem sQ {x : Str} {d : AV} {l : FL} : gG x d l (c5 x d l) := by
 induction l with
 | nil => exact .new
 | cons p r ih =>
  show gG x d (p :: r) (if p.1 == x then (x, d) :: r else p :: c5 x d r)
  induction q : p.1 == x using Bool.casesOn with
  | true => obtain rfl := eq_of_beq q; exact .hit
  | false => exact .skip q ih
theorem yh {l : List (Str × DV)} {x : List Nat} {v : DV} (e : ba j s.D.objs = some (.dict l)) (h : Nat.ble l.length 900 = true) : xD X (.ref (aB ρ j)) (.str x) (v.to ρ) (s.D.to ρ) ((s.objs (fS j (.dict (jT (S x) v l)) s.D.objs)).D.to ρ) := by
 have m := dK (ρ := ρ) (rest := s.D.rest) (o' := .dict (jT (S x) v l)) e
 rw [show (DO.dict (jT (S x) v l)).to ρ = .dict (c5 (S x) (v.to ρ) (dA ρ l)) from congrArg AO.dict nh] at m
 exact ⟨fun _ _ _ _ _ ma mi md k => r7 ma mi md sQ m (by rw [List.length_map]; exact lB0 h) k⟩
noncomputable def yV (a i v : DV) (s : Sy) : Option (RJ a i v s) := match i with
 | .av (.str x) => (match a with
  | .slot j => obe (ba j s.D.objs) fun o e => (match o, e with
   | .dict l, e => gd (Nat.ble l.length 900) fun h => some ⟨_, fun X ρ => yh e h⟩
   | _, _ => none)
  | _ => none)
 | _ => none
noncomputable abbrev RK (a i : DV) (s : Sy) := {v : DV // ∀ X ρ, Aw X (a.to ρ) (i.to ρ) (v.to ρ) (s.D.to ρ)}
noncomputable abbrev RK.v {i : DV} (x : RK a i s) : DV := x.1
theorem RK.ok {i : DV} (x : RK a i s) : ∀ X ρ, Aw X (a.to ρ) (i.to ρ) (x.v.to ρ) (s.D.to ρ) := x.2
noncomputable def BY (a i : DV) (s : Sy) : Option (RK a i s) := match i with
 | .av (.str x) => (match a with
  | .slot j => obe (ba j s.D.objs) fun o e => (match o, e with
   | .dict l, e => obe (cc (S x) l) fun v q => some ⟨v, fun X ρ => ⟨fun _ _ _ _ ma mi k => xK ma (bA e) mi (gR q) k⟩⟩
   | _, _ => none)
  | _ => none)
 | _ => none
end
end
section
set_option genInjectivity false
variable {k : Option NameKind} {x : Str} {s : Sy} {v : Value} {g : Addr} {b : Bl} {fs : List (Str × DV)} {Φ : PV} {l : List AV} {ρ : List Addr} {ps : List DV}
noncomputable section
structure cZ (P : Px) : Prop where
 K : P.X.B.K = P.K
 kind : P.X.env.scope.kind = .function
 loc : P.X.env.locals = P.X.L
 glob : P.X.env.globals = mainGlobals
 blt : P.X.env.builtins = builtinsNs
 gl : ∀ p ∈ P.gl, aW P.X.B (.ref p.1) p.2
 cl : ∀ x i, cc x P.cl = some i → P.X.env.cells.lookup x = some (aB P.ρ i) ∧ i < P.ρ.length
noncomputable def Px.N (P : Px) (s : Sy) : Nat := P.ρ.length + s.n
inductive Bl where
 | append | pop | join | count | rfind | len | ord | min | max
noncomputable def Bl.id : Bl → String
 | .append => "list.append"
 | .pop => "list.pop"
 | .join => "str.join"
 | .count => "str.count"
 | .rfind => "str.rfind"
 | .len => "len"
 | .ord => "ord"
 | .min => "min"
 | .max => "max"
inductive Ce where
 | fn (g : Addr) | bl (b : Bl)
noncomputable def Ce.val : Ce → Value
 | .fn g => .ref g
 | .bl b => .builtin b.id
noncomputable def f6 (x : Str) (b : Bl) : Prop := bootBuiltins x = some (.builtin b.id) ∧ x ≠ ("__name__" : Str)
theorem rL : f6 "len" .len := ⟨PyProof.Rows.Boot.«len», by refine bne_iff_ne.mp ?_; kernel_rfl⟩
theorem sC : f6 "ord" .ord := ⟨PyProof.Rows.Boot.«ord», by refine bne_iff_ne.mp ?_; kernel_rfl⟩
theorem tC : f6 "min" .min := ⟨PyProof.Rows.Boot.«min», by refine bne_iff_ne.mp ?_; kernel_rfl⟩
theorem sY : f6 "max" .max := ⟨PyProof.Rows.Boot.«max», by refine bne_iff_ne.mp ?_; kernel_rfl⟩
noncomputable def jL {β : Str → Type} (x y : Str) (b : β y) (z : Option (β x)) : Option (β x) := Bool.casesOn (motive := fun c => (x == y) = c → Option (β x)) (x == y) (fun _ => z) (fun e => some (eq_of_beq e ▸ b)) rfl
noncomputable def s9 (x : Str) : Option {b : Bl // f6 x b} := jL (β := fun x => {b : Bl // f6 x b}) x "len" ⟨.len, rL⟩ (jL (β := fun x => {b : Bl // f6 x b}) x "ord" ⟨.ord, sC⟩ (jL (β := fun x => {b : Bl // f6 x b}) x "min" ⟨.min, tC⟩ (jL (β := fun x => {b : Bl // f6 x b}) x "max" ⟨.max, sY⟩ none)))
noncomputable def oR (gl : List (Addr × AV)) (a : Addr) : AV := List.rec (.lit (.ref a)) (fun p _ ih => bif Nat.beq p.1 a then p.2 else ih) gl
noncomputable def pq (gl : List (Addr × AV)) : Value → AV
 | .ref a => oR gl a
 | v => gp v
theorem qM {B : ab} {gl : List (Addr × AV)} (h : ∀ p ∈ gl, aW B (.ref p.1) p.2) (a : Addr) : aW B (.ref a) (oR gl a) := by
 induction gl with
 | nil => exact aW.lit _ _
 | cons p r ih =>
  show aW B (.ref a) (bif Nat.beq p.1 a then p.2 else oR r a)
  induction q : Nat.beq p.1 a using Bool.casesOn with
  | true => obtain rfl := Nat.eq_of_beq_eq_true q; exact h p (.head _)
  | false => exact ih fun p hp => h p (.tail _ hp)
theorem oO {B : ab} {gl : List (Addr × AV)} (h : ∀ p ∈ gl, aW B (.ref p.1) p.2) (v : Value) : aW B v (pq gl v) := by
 rcases v with _ | _ <;> first | exact qM h _ | exact fun F _ => jz _ _ _
noncomputable def gD (k : Option NameKind) : Bool := match k with
 | some .local => true
 | _ => false
noncomputable def hW (k : Option NameKind) : Bool := match k with
 | some .globalImplicit => true
 | _ => false
noncomputable def j6 (k : Option NameKind) : Bool := match k with
 | some .cell => true
 | _ => false
theorem k7 (h : j6 k = true) : k = some .cell := by
 induction k using Option.casesOn with
 | none => exact Bool.noConfusion h
 | some k => rcases k with _ | _ <;> first | rfl | exact Bool.noConfusion h
theorem e7 (h : gD k = true) : k = some .local := by
 induction k using Option.casesOn with
 | none => exact Bool.noConfusion h
 | some k => rcases k with _ | _ <;> first | rfl | exact Bool.noConfusion h
theorem h8 (h : hW k = true) : k = some .globalImplicit := by
 induction k using Option.casesOn with
 | none => exact Bool.noConfusion h
 | some k => rcases k with _ | _ <;> first | rfl | exact Bool.noConfusion h
noncomputable def two {α : Type} (o : Option (Option α)) : Option α := Option.casesOn o none id
theorem ld {α : Type} {o : Option (Option α)} {a : α} (h : two o = some a) : o = some (some a) := by
 induction o using Option.casesOn with
 | none => contradiction
 | some o => exact congrArg some h
section
variable {P : Px} (O : cZ P)
include O in
theorem w8 {v : DV} (h : (!(x == ("__debug__" : Str)) && gD (P.X.env.kindOf x)) = true) (e : two (cc x s.D.loc) = some v) (ρ : List Addr) (pos : Pos) : Ev P.X (.Name x pos) (s.D.to ρ) (v.to ρ) (s.D.to ρ) :=
 a9 (k8 (ld e)) O.kind (e7 (aJ h)) O.loc (by simpa using ax h)
include O in
theorem vI {σ : St} (h : (!(x == ("__debug__" : Str)) && hW (P.X.env.kindOf x)) = true) (e : two (nsIn P.K mainGlobals x) = some v) (pos : Pos) : Ev P.X (.Name x pos) σ (pq P.gl v) σ :=
 eB (by rw [O.K]; exact ld e) (oO O.gl _) O.kind (h8 (aJ h)) O.glob (by simpa using ax h)
include O in
theorem xg {v : DV} {i : Nat} (h : (!(x == ("__debug__" : Str)) && j6 (P.X.env.kindOf x)) = true) (e : cc x P.cl = some i) (q : ba i s.D.objs = some (.cell (some v))) (as : List Addr) (pos : Pos) : Ev P.X (.Name x pos) (s.D.to (P.ρ ++ as)) (v.to (P.ρ ++ as)) (s.D.to (P.ρ ++ as)) := by
 obtain ⟨h1, h2⟩ := O.cl x i e
 rw [← dt (t := as) h2] at h1
 exact ⟨fun _ _ k => qz h1 (bA q) k O.kind (k7 (aJ h)) (by simpa using ax h)⟩
noncomputable abbrev NmR (P : Px) (x : Str) (s : Sy) : Type := {v : DV // ∀ as pos, Ev P.X (.Name x pos) (s.D.to (P.ρ ++ as)) (v.to (P.ρ ++ as)) (s.D.to (P.ρ ++ as))}
noncomputable def vn (x : Str) (s : Sy) : Option (NmR P x s) :=
 Bool.casesOn (motive := fun b => (!(x == ("__debug__" : Str)) && gD (P.X.env.kindOf x)) = b → Option (NmR P x s)) (!(x == ("__debug__" : Str)) && gD (P.X.env.kindOf x))
  (fun _ => Bool.casesOn (motive := fun b => (!(x == ("__debug__" : Str)) && hW (P.X.env.kindOf x)) = b → Option (NmR P x s)) (!(x == ("__debug__" : Str)) && hW (P.X.env.kindOf x))
   (fun _ => gd (!(x == ("__debug__" : Str)) && j6 (P.X.env.kindOf x)) fun h => obe (cc x P.cl) fun i e => obe (ba i s.D.objs) fun o q => match o, q with
    | .cell (some v), q => some ⟨v, fun as pos => xg O h e q as pos⟩
    | _, _ => none)
   (fun h => obe (two (nsIn P.K mainGlobals x)) fun v e => some ⟨.av (pq P.gl v), fun _ pos => vI O h e pos⟩) rfl)
  (fun h => obe (two (cc x s.D.loc)) fun v e => some ⟨v, fun as pos => w8 O h e _ pos⟩) rfl
noncomputable def tg (P : Px) (x : Str) (c : Ce) : Prop := (∀ σ pos, EvX P.X (.Name x pos) σ c.val (.lit c.val)) ∧ cL P.X c.val
include O in
theorem zJ (h : (!(x == ("__debug__" : Str)) && hW (P.X.env.kindOf x)) = true) (e : nsIn P.K mainGlobals x = some (some (.ref g))) (hk : keepIn P.K (.ref g) = true) : tg P x (.fn g) :=
 ⟨fun σ pos => cg (by rw [O.K]; exact e) O.kind (h8 (aJ h)) O.glob (by simpa using ax h), cF (by rw [O.K]; exact hk)⟩
include O in
theorem AU (h : (!(x == ("__debug__" : Str)) && hW (P.X.env.kindOf x)) = true) (e : nsIn P.K mainGlobals x = some none) (q : f6 x b) : tg P x (.bl b) :=
 ⟨fun σ pos => bx q.1 (by rw [O.K]; exact e) O.kind (h8 (aJ h)) O.glob O.blt q.2 (by simpa using ax h), dU⟩
noncomputable def BZ (x : Str) : Option {c : Ce // tg P x c} := gd (!(x == ("__debug__" : Str)) && hW (P.X.env.kindOf x)) fun h => obe (nsIn P.K mainGlobals x) fun o e => match o, e with
 | some (.ref g), e => gd (keepIn P.K (.ref g)) fun hk => some ⟨.fn g, zJ O h e hk⟩
 | none, e => ob (s9 x) fun b => some ⟨.bl b.1, AU O h e b.2⟩
 | _, _ => none
end
noncomputable def iQ (T : String) (x : Str) (b : Bl) : Prop := Slot T x b.id ∧ typeOf (.builtin b.id) = pure (.type "method_descriptor")
theorem pH : iQ "str" "join" .join := ⟨PySem.F.slot_str_join, PySem.F.type_str_join⟩
theorem nz : iQ "str" "count" .count := ⟨PySem.F.slot_str_count, PySem.F.type_str_count⟩
theorem o0 : iQ "str" "rfind" .rfind := ⟨PySem.F.slot_str_rfind, PySem.F.type_str_rfind⟩
theorem l8 : iQ "list" "append" .append := ⟨slot_list_append, type_list_append⟩
theorem tA : iQ "list" "pop" .pop := ⟨PySem.F.slot_list_pop, PySem.F.type_list_pop⟩
noncomputable abbrev lA (T : String) (x : Str) : Type := {b : Bl // iQ T x b}
noncomputable def rV (x : Str) : Option (lA "str" x) := jL (β := lA "str") x "join" ⟨.join, pH⟩ (jL (β := lA "str") x "count" ⟨.count, nz⟩ (jL (β := lA "str") x "rfind" ⟨.rfind, o0⟩ none))
noncomputable def tE (x : Str) : Option (lA "list" x) := jL (β := lA "list") x "append" ⟨.append, l8⟩ (jL (β := lA "list") x "pop" ⟨.pop, tA⟩ none)
inductive MeD (P : Px) (o : DV) (name : Str) (s : Sy) where
 | cls (c : Ce) (ok : ∀ ρ, f9 P.X (o.to ρ) name c.val (s.D.to ρ) ∧ cL P.X c.val)
 | own (g : Addr) (j : Nat) (ok : ∀ ρ, oX P.X (o.to ρ) name (.meth g (aB ρ j)) (s.D.to ρ)) (hf : fnIn P.X.B.K g = true)
section
variable {P : Px} (O : cZ P)
include O in
theorem xJ {i : Nat} {name : Str} {C dx : Addr} (e : ba i s.D.objs = some (.inst C dx fs)) (q : cc name fs = none) (h : (bP P.K C name g && keepIn P.K (.ref g)) = true) (ρ : List Addr) : f9 P.X (.ref (aB ρ i)) name (.ref g) (s.D.to ρ) ∧ cL P.X (.ref g) := by
 rw [← O.K] at h
 exact ⟨lq (bA e) (gb q) (ax h), cF (aJ h)⟩
noncomputable def xc (o : Option (Option Value)) : Bool := match o with
 | some none => true
 | _ => false
theorem tV {o : Option (Option Value)} (h : xc o = true) : o = some none := by
 induction o using Option.casesOn with
 | none => exact Bool.noConfusion h
 | some o => rcases o with _ | _ <;> first | rfl | exact Bool.noConfusion h
include O in
theorem yc {i j : Nat} {name : Str} {C dx : Addr} (e : ba i s.D.objs = some (.inst C dx fs)) (q : cc name fs = some (.meth g j)) (h : (cR P.K C name && xc (findIn P.K (.ref C) name) && fnIn P.K g) = true) (ρ : List Addr) : oX P.X (.ref (aB ρ i)) name (.meth g (aB ρ j)) (s.D.to ρ) := by
 rw [← O.K] at h
 exact ⟨fun _ _ _ _ mv k => gx mv (bA e) (ax (ax h)) (tV (aJ (ax h))) (gR q) rfl k⟩
noncomputable def BX (i : Nat) (name : Str) (s : Sy) (C dx : Addr) (fs : List (Str × DV)) (e : ba i s.D.objs = some (.inst C dx fs)) : Option (MeD P (.slot i) name s) :=
 Option.casesOn (motive := fun z => cc name fs = z → Option (MeD P (.slot i) name s)) (cc name fs)
  (fun q => ob (vp (findIn P.K (.ref C) name)) fun g => gd (bP P.K C name g && keepIn P.K (.ref g)) fun h => some (.cls (.fn g) fun ρ => xJ O e q h ρ))
  (fun v q => match v, q with
   | .meth g j, q => gd (cR P.K C name && xc (findIn P.K (.ref C) name) && fnIn P.K g) fun h => some (.own g j (fun ρ => yc O e q h ρ) (by exact (O.K) ▸ (aJ h)))
   | _, _ => none) rfl
noncomputable def BL (o : DV) (name : Str) (s : Sy) : Option (MeD P o name s) := match o with
 | .av (.str x) => ob (rV name) fun b => some (.cls (.bl b.1) fun ρ => ⟨rl b.2.1 b.2.2, dU⟩)
 | .slot i => obe (ba i s.D.objs) fun o e => (match o, e with
  | .list l ps, e => ob (tE name) fun b => some (.cls (.bl b.1) fun ρ => ⟨yS (bA e) b.2.1 b.2.2, dU⟩)
  | .inst C dx fs, e => BX O i name s C dx fs e
  | _, _ => none)
 | _ => none
end
section
variable {B : ab} {n : Nat} {L : Addr} {H : HL} {σ : St}
theorem wZ {a b : Int} {w : Value} (mv : (v, .int a) ∈ H) (mw : (w, .int b) ∈ H) (h : ∀ v, Φ v (.int (min a b)) σ) : WV B n L (call (.builtin "min") [v, w]) H σ Φ := ae fun A F s hA X => by
 obtain ⟨t, rfl⟩ := au (X.hold mv); obtain ⟨u, rfl⟩ := au (X.hold mw)
 refine min_two_ints hA.handled fun h' tk k => am.more X k rfl rfl ?_
 by_cases q : b < a
 · exact (if_pos q) ▸ (⟨.int (min a b), by rw [Int.min_eq_right (Int.le_of_lt q)]; exact .int _ _, h _⟩)
 · exact (if_neg q) ▸ (⟨.int (min a b), by rw [Int.min_eq_left (Int.not_lt.mp q)]; exact .int _ _, h _⟩)
theorem xb {a b : Int} {w : Value} (mv : (v, .int a) ∈ H) (mw : (w, .int b) ∈ H) (h : ∀ v, Φ v (.int (max a b)) σ) : WV B n L (call (.builtin "max") [v, w]) H σ Φ := ae fun A F s hA X => by
 obtain ⟨t, rfl⟩ := au (X.hold mv); obtain ⟨u, rfl⟩ := au (X.hold mw)
 refine max_two_ints hA.handled fun h' tk k => am.more X k rfl rfl ?_
 by_cases q : b > a
 · exact (if_pos q) ▸ (⟨.int (max a b), by rw [Int.max_eq_right (Int.le_of_lt q)]; exact .int _ _, h _⟩)
 · exact (if_neg q) ▸ (⟨.int (max a b), by rw [Int.max_eq_left (Int.not_lt.mp q)]; exact .int _ _, h _⟩)
end
section
variable {X : Cx} {σ : St} {i j : Int}
theorem xV : b5 X (.builtin "min") [.int i, .int j] σ (.int (min i j)) σ := gz fun _ _ _ _ mv mw h => wZ mv mw h
theorem oP : b5 X (.builtin "max") [.int i, .int j] σ (.int (max i j)) σ := gz fun _ _ _ _ mv mw h => xb mv mw h
end
section
variable {B : ab} {n : Nat} {L : Addr} {H : HL} {σ : St} {env : Env}
theorem xT {a : Addr} {d : AV} {v₀ : Value} {loc : LL} {objs objs' : OL} (mv : (v₀, .ref a) ∈ H) (md : (v, .int 0) ∈ H) (mo : (a, AO.list (d :: l)) ∈ objs)
 (m : Chg a (.list (d :: l)) (.list l) objs objs') (hz : (d :: l).length ≤ 16777216) (h : ∀ v, Φ v d ⟨loc, objs'⟩) : WV B n L (call (.builtin "list.pop") [v₀, v]) H ⟨loc, objs⟩ Φ :=
 f0 (σ := ⟨loc, objs⟩) (k := 0) (i := 0) mv md (by rfl) (by unfold seqIndex?; rw [if_neg (show ¬ (0 : Int) < 0 by simp +arith)]; simp) rfl rfl m hz h
end
theorem vY {i : Nat} {d : AV} (e : ba i s.D.objs = some (.list (d :: l) [])) (hz : l.length ≤ 16777215) : b5 X (.builtin "list.pop") [.ref (aB ρ i), .int 0] (s.D.to ρ) d ((s.objs (fS i (.list l []) s.D.objs)).D.to ρ) :=
 gz fun _ _ _ _ mv md h => xT mv md (bA (ρ := ρ) (rest := s.D.rest) e) (dK (ρ := ρ) (rest := s.D.rest) (o' := .list l []) e) (Nat.succ_le_succ hz) h
noncomputable abbrev BcR (b : Bl) (vs : List DV) (s : Sy) : Type := {p : DV × Sy // p.2.n = s.n ∧ (p.2.c → s.c) ∧ (p.2.c → ∀ X ρ, b5 X (.builtin b.id) (tos ρ vs) (s.D.to ρ) (p.1.to ρ) (p.2.D.to ρ))}
noncomputable def jX {vs : List DV} (v : DV) (h : ∀ X ρ, b5 X (.builtin b.id) (tos ρ vs) (s.D.to ρ) (v.to ρ) (s.D.to ρ)) : Option (BcR b vs s) := some ⟨(v, s), rfl, id, fun _ => h⟩
noncomputable def ix {vs : List DV} (v : DV) (l : List (Nat × DO)) (q : Prop) (h : q → ∀ X ρ, b5 X (.builtin b.id) (tos ρ vs) (s.D.to ρ) (v.to ρ) ((s.objs l).D.to ρ)) : Option (BcR b vs s) := some ⟨(v, (s.objs l).need q), rfl, And.left, fun c => h c.2⟩
theorem yL {i : Nat} (e : ba i s.D.objs = some (.list l ps)) (h : l.length + ps.length ≤ 16777216) : b5 X (.builtin "len") [.ref (aB ρ i)] (s.D.to ρ) (.int (l.length + ps.length : Nat)) (s.D.to ρ) := by
 have := vZ (X := X) (loc := cM ρ s.D.loc) (bA (ρ := ρ) (rest := s.D.rest) e) (by exact (dO) ▸ (h))
 rw [dO] at this
 exact this
theorem zv {i : Nat} {d : DV} (e : ba i s.D.objs = some (.list l ps)) (hz : l.length + ps.length ≤ 16777216) : b5 X (.builtin "list.append") [.ref (aB ρ i), d.to ρ] (s.D.to ρ) .none ((s.objs (fS i (.list l (ps ++ [d])) s.D.objs)).D.to ρ) := by
 have m := dK (ρ := ρ) (rest := s.D.rest) (o' := .list l (ps ++ [d])) e
 rw [show (DO.list l (ps ++ [d])).to ρ = _ from fF] at m
 exact qk m (by exact (dO) ▸ (hz))
theorem Ae {i j : Nat} {fs' : FL} (e : ba j s.D.objs = some (.dict fs)) (q : gX fs = some fs') (e' : ba i (j8 j s.D.objs) = some (.list l ps)) (hz : l.length + ps.length ≤ 16777216) :
 b5 X (.builtin "list.append") [.ref (aB ρ i), .ref (aB ρ j)] (s.D.to ρ) .none ((s.objs (fS i (.list l (ps ++ [.av (.dct fs')])) (j8 j s.D.objs))).D.to ρ) := by
 have m := dK (ρ := ρ) (rest := s.D.rest) (o' := .list l (ps ++ [.av (.dct fs')])) e'
 rw [show (DO.list l (ps ++ [.av (.dct fs')])).to ρ = _ from fF] at m
 have tk := oU (ρ := ρ) (rest := s.D.rest) e
 rw [DO.to, iJ q] at tk
 exact q6 tk m (by exact (dO) ▸ (hz))
theorem AH {i : Nat} {v : DV} (e : ba i s.D.objs = some (.list l ps)) (q : ps.getLast? = some v) (hz : l.length + ps.length ≤ 16777000) : b5 X (.builtin "list.pop") [.ref (aB ρ i)] (s.D.to ρ) (v.to ρ) ((s.objs (fS i (.list l ps.dropLast) s.D.objs)).D.to ρ) := by
 have m := dK (ρ := ρ) (rest := s.D.rest) (o' := .list l ps.dropLast) e
 obtain ⟨qs, rfl⟩ := List.getLast?_eq_some_iff.mp q
 rw [show (DO.list l (qs ++ [v])).to ρ = _ from fF, List.dropLast_concat] at m
 rw [List.dropLast_concat]
 rw [List.length_append] at hz
 exact yJ m (by rw [dO]; exact nT0 (Nat.add_le_add_left (Nat.le_add_right _ _) _) hz)
theorem xF {i : Nat} {l' : List AV} {ms : List (List Nat)} (e : ba i s.D.objs = some (.list l ps)) (q : ik ps = some l') (t : aG (l ++ l') = some ms) (hz : ms.flatten.length ≤ 16777216) : b5 X (.builtin "str.join") [.str [], .ref (aB ρ i)] (s.D.to ρ) (.str ms.flatten) (s.D.to ρ) :=
 pR (bA e) (by rw [fm, iO q]; exact t) hz
noncomputable def zq (b : Bl) (i : Nat) (s : Sy) : Option (BcR b [.slot i] s) := obe (ba i s.D.objs) fun o e => match o, e with
 | .list l ps, e => (match b with
  | .len => ix (.av (.int (l.length + ps.length : Nat))) s.D.objs (l.length + ps.length ≤ 16777216) fun h X ρ => yL e h
  | .pop => obe ps.getLast? fun v q => ix v (fS i (.list l ps.dropLast) s.D.objs) (l.length + ps.length ≤ 16777000) fun h X ρ => AH e q h
  | _ => none)
 | _, _ => none
noncomputable def Bt (b : Bl) (x : List Nat) (s : Sy) : Option (BcR b [.av (.str x)] s) := match b with
 | .len => ix (.av (.int x.length)) s.D.objs (x.length ≤ 16777216) fun h X ρ => fo h
 | .ord => (match x with
  | [c] => jX (.av (.int c)) fun X ρ => AR
  | _ => none)
 | _ => none
noncomputable def A0 (i : Nat) (d : DV) (s : Sy) : Option (BcR .append [.slot i, d] s) := obe (ba i s.D.objs) fun o e => match o, e with
 | .list l ps, e => ix (.av .none) (fS i (.list l (ps ++ [d])) s.D.objs) (l.length + ps.length ≤ 16777216) fun h X ρ => zv e h
 | _, _ => none
noncomputable def Cb (i j : Nat) (s : Sy) (fs : List (Str × DV)) (e : ba j s.D.objs = some (.dict fs)) : Option (BcR .append [.slot i, .slot j] s) := obe (gX fs) fun fs' q => obe (ba i (j8 j s.D.objs)) fun o e' => match o, e' with
 | .list l ps, e' => ix (.av .none) (fS i (.list l (ps ++ [.av (.dct fs')])) (j8 j s.D.objs)) (l.length + ps.length ≤ 16777216) fun h X ρ => Ae e q e' h
 | _, _ => none
noncomputable def Bb (b : Bl) (x y : DV) (s : Sy) : Option (BcR b [x, y] s) := match b with
 | .append => (match x with
  | .slot i => (match y with
   | .slot j => obe (ba j s.D.objs) fun o e => (match o, e with
    | .dict fs, e => Cb i j s fs e
    | _, _ => A0 i (.slot j) s)
   | d => A0 i d s)
  | _ => none)
 | .min => (match x, y with
  | .av (.int i), .av (.int j) => jX (.av (.int (Min.min i j))) fun X ρ => xV
  | _, _ => none)
 | .max => (match x, y with
  | .av (.int i), .av (.int j) => jX (.av (.int (Max.max i j))) fun X ρ => oP
  | _, _ => none)
 | .pop => (match x with
  | .slot i => (match y with
   | .av (.int (.ofNat 0)) => obe (ba i s.D.objs) fun o e => (match o, e with
    | .list (d :: l) [], e => ix (.av d) (fS i (.list l []) s.D.objs) (l.length ≤ 16777215) fun h X ρ => vY e h
    | _, _ => none)
   | _ => none)
  | _ => none)
 | .join => (match x with
  | .av (.str []) => (match y with
   | .slot i => obe (ba i s.D.objs) fun o e => (match o, e with
    | .list l ps, e => obe (ik ps) fun l' q => obe (aG (l ++ l')) fun ms t => ix (.av (.str ms.flatten)) s.D.objs (ms.flatten.length ≤ 16777216) fun h X ρ => xF e q t h
    | _, _ => none)
   | _ => none)
  | _ => none)
 | _ => none
noncomputable def zQ (b : Bl) (x y z w : DV) (s : Sy) : Option (BcR b [x, y, z, w] s) := match x, y, z, w with
 | .av (.str x), .av (.str [c]), .av (.int (.ofNat 0)), .av (.int i) => (match b with
  | .count => jX (.av (.int (bD c x i))) fun X ρ => tB
  | .rfind => jX (.av (.int (d5 c x i))) fun X ρ => sL
  | _ => none)
 | _, _, _, _ => none
noncomputable def Cd (b : Bl) (vs : List DV) (s : Sy) : Option (BcR b vs s) := match vs with
 | [.slot i] => zq b i s
 | [.av (.str x)] => Bt b x s
 | [x, y] => Bb b x y s
 | [x, y, z, w] => zQ b x y z w s
 | _ => none
end
end
section
set_option genInjectivity false
variable {a i x y : DV} {op : CmpOp} {b : Bool} {D : DS} {l : List (Str × DV)} {t e m : Expr} {body : List Stmt} {pos : Pos} {k : Nat} {o : List cD} {g : Addr} {vs : List DV} {es : List Expr} {ks : List (Option Expr)}
noncomputable abbrev RY (P : Px) (a i : DV) (s : Sy) := Sigma fun v : DV => {s' : Sy // eX s s' ∧ (s'.c → ∀ as, as.length = s.n → ∀ e1 e2, bd e2 = true → bY P.X e1 e2 (a.to (P.ρ ++ as)) (i.to (P.ρ ++ as)) (v.to (P.ρ ++ as)) (s.D.to (P.ρ ++ as)))}
noncomputable abbrev RY.v (x : RY P a i s) : DV := x.1
noncomputable abbrev RY.s' (x : RY P a i s) : Sy := x.2.1
theorem RY.A (x : RY P a i s) : eX s x.s' := x.2.2.1
theorem RY.ok (x : RY P a i s) : x.s'.c → ∀ as, as.length = s.n → ∀ e1 e2, bd e2 = true → bY P.X e1 e2 (a.to (P.ρ ++ as)) (i.to (P.ρ ++ as)) (x.v.to (P.ρ ++ as)) (s.D.to (P.ρ ++ as)) := x.2.2.2
noncomputable abbrev RX (P : Px) (op : CmpOp) (a b : DV) (s : Sy) := Sigma fun r : DB => {s' : Sy // eX s s' ∧ (s'.c → ∀ as, as.length = s.n → bG P.X op (a.to (P.ρ ++ as)) (b.to (P.ρ ++ as)) r.val (s.D.to (P.ρ ++ as)))}
noncomputable abbrev RX.r {b : DV} (x : RX P op a b s) : DB := x.1
noncomputable abbrev RX.s' {b : DV} (x : RX P op a b s) : Sy := x.2.1
theorem RX.A {b : DV} (x : RX P op a b s) : eX s x.s' := x.2.2.1
theorem RX.ok {b : DV} (x : RX P op a b s) : x.s'.c → ∀ as, as.length = s.n → bG P.X op (a.to (P.ρ ++ as)) (b.to (P.ρ ++ as)) x.r.val (s.D.to (P.ρ ++ as)) := x.2.2.2
section
variable {P : Px} {s s' : Sy} {as bs : List Addr}
theorem fH {α : Type} {f : List Addr → α} {n : Nat} (h : ∀ ρ t : List Addr, ρ.length = n → f (ρ ++ t) = f ρ) (hn : P.N s = n) (ha : as.length = s.n) (hp : as <+: bs) : f (P.ρ ++ bs) = f (P.ρ ++ as) := by
 obtain ⟨t, rfl⟩ := hp
 rw [← List.append_assoc]
 exact h _ _ (by rw [List.length_append, ha]; exact hn)
theorem b9 {v : DV} (h : v.bel (P.N s) = true) (ha : as.length = s.n) (hp : as <+: bs) : v.to (P.ρ ++ bs) = v.to (P.ρ ++ as) := fH (f := fun ρ => v.to ρ) (fun ρ t e => DV.to_app (by rw [e]; exact h)) rfl ha hp
theorem yD {l : List (Str × Option DV)} (h : qf (P.N s) l = true) (ha : as.length = s.n) (hp : as <+: bs) : cM (P.ρ ++ bs) l = cM (P.ρ ++ as) l := fH (f := fun ρ => cM ρ l) (fun ρ t e => iT (by rw [e]; exact h)) rfl ha hp
theorem By (h : D.bel (P.N s) = true) (ha : as.length = s.n) (hp : as <+: bs) : D.to (P.ρ ++ bs) = D.to (P.ρ ++ as) := fH (f := fun ρ => D.to ρ) (fun ρ t e => DS.to_app (by rw [e]; exact h)) rfl ha hp
theorem Bo (h : (l.all fun p => p.2.bel (P.N s)) = true) (ha : as.length = s.n) (hp : as <+: bs) : dA (P.ρ ++ bs) l = dA (P.ρ ++ as) l := fH (f := fun ρ => dA ρ l) (fun ρ t e => ib (by rw [e]; exact h)) rfl ha hp
theorem BO {l : List DV} (h : l.all (DV.bel (P.N s)) = true) (ha : as.length = s.n) (hp : as <+: bs) : tos (P.ρ ++ bs) l = tos (P.ρ ++ as) l := fH (f := fun ρ => tos ρ l) (fun ρ t e => m7 (by rw [e]; exact h)) rfl ha hp
end
structure SV (P : Px) (e : Expr) (s : Sy) (v : DV) (s' : Sy) : Prop where
 c : s'.c → s.c
 run : s'.c → ∀ as, as.length = s.n → ∀ (H : HL) (Φ : PV), (∀ w bs, bs.length = s'.n → as <+: bs → Φ w (v.to (P.ρ ++ bs)) (s'.D.to (P.ρ ++ bs))) → WV P.X.B P.X.n P.X.L (eval e P.X.env) H (s.D.to (P.ρ ++ as)) Φ
structure ST (P : Px) (e : Expr) (s : Sy) (b : Bool) (s' : Sy) : Prop where
 c : s'.c → s.c
 run : s'.c → ∀ as, as.length = s.n → ∀ (H : HL) (Φ : Bool → St → Prop), (∀ bs, bs.length = s'.n → as <+: bs → Φ b (s'.D.to (P.ρ ++ bs))) → WB P.X.B P.X.n P.X.L (isTrue e P.X.env (eval e P.X.env)) H (s.D.to (P.ρ ++ as)) Φ
structure SX (P : Px) (st : Stmt) (s : Sy) (f : DF) (s' : Sy) : Prop where
 c : s'.c → s.c
 run : s'.c → ∀ as, as.length = s.n → ∀ (H : HL) (Φ : PF), (∀ bs, bs.length = s'.n → as <+: bs → Φ (f.to (P.ρ ++ bs)) (s'.D.to (P.ρ ++ bs))) → WF P.X.B P.X.n P.X.L (exec st P.X.env) H (s.D.to (P.ρ ++ as)) Φ
structure SL (P : Px) (es : List Expr) (s : Sy) (vs : List DV) (s' : Sy) : Prop where
 c : s'.c → s.c
 run : s'.c → ∀ as, as.length = s.n → ∀ pos (H : HL) (Φ : List Value → List AV → St → Prop), (∀ ws bs, ws.length = vs.length → bs.length = s'.n → as <+: bs → Φ ws (tos (P.ρ ++ bs) vs) (s'.D.to (P.ρ ++ bs))) →
  WL P.X.B P.X.n P.X.L (spliced (backTo pos (starEach es P.X.env))) H (s.D.to (P.ρ ++ as)) Φ
structure SD (P : Px) (ks : List (Option Expr)) (es : List Expr) (s : Sy) (l : List (Str × DV)) (s' : Sy) : Prop where
 c : s'.c → s.c
 len : l.length = es.length
 zip : ∀ pos, (evalEachOpt ks P.X.env).zip ((evalEach es P.X.env).map fun v => do let x ← v; standAt pos; pure x) = (aA P.X.env pos ks es).map fun p => (some p.1, p.2)
 plen : ∀ pos, (aA P.X.env pos ks es).length = es.length
 run : s'.c → ∀ as, as.length = s.n → ∀ pos (H : HL) (Φ : FL → St → Prop), (∀ bs, bs.length = s'.n → as <+: bs → Φ (dA (P.ρ ++ bs) l) (s'.D.to (P.ρ ++ bs))) → WD P.X.B P.X.n P.X.L (evalPairs (aA P.X.env pos ks es)) H (s.D.to (P.ρ ++ as)) Φ
structure SP (P : Px) (e : Option Expr) (s : Sy) (v : DV) (s' : Sy) : Prop where
 c : s'.c → s.c
 run : s'.c → ∀ as, as.length = s.n → ∀ (H : HL) (Φ : PV), (∀ w bs, bs.length = s'.n → as <+: bs → Φ w (v.to (P.ρ ++ bs)) (s'.D.to (P.ρ ++ bs))) → WV P.X.B P.X.n P.X.L (evalPart e P.X.env) H (s.D.to (P.ρ ++ as)) Φ
structure SA (P : Px) (op : BoolOp) (es : List Expr) (s : Sy) (b : Bool) (s' : Sy) : Prop where
 c : s'.c → s.c
 run : s'.c → ∀ as, as.length = s.n → ∀ (H : HL) (Φ : Bool → St → Prop), (∀ bs, bs.length = s'.n → as <+: bs → Φ b (s'.D.to (P.ρ ++ bs))) → WB P.X.B P.X.n P.X.L (allTrue op es P.X.env) H (s.D.to (P.ρ ++ as)) Φ
structure SB (P : Px) (ss : List Stmt) (s : Sy) (f : DF) (s' : Sy) : Prop where
 c : s'.c → s.c
 run : s'.c → ∀ as, as.length = s.n → ∀ (H : HL) (Φ : PF), (∀ bs, bs.length = s'.n → as <+: bs → Φ (f.to (P.ρ ++ bs)) (s'.D.to (P.ρ ++ bs))) → WF P.X.B P.X.n P.X.L (execs ss P.X.env) H (s.D.to (P.ρ ++ as)) Φ
structure SC (P : Px) (f : Value) (vs : List DV) (s : Sy) (v : DV) (s' : Sy) : Prop where
 c : s'.c → s.c
 run : s'.c → ∀ as, as.length = s.n → ∀ (H : HL) ws (Φ : PV), ws.length = vs.length → (∀ p ∈ ws.zip (tos (P.ρ ++ as) vs), p ∈ H) → (∀ w bs, bs.length = s'.n → as <+: bs → Φ w (v.to (P.ρ ++ bs)) (s'.D.to (P.ρ ++ bs))) →
  WV P.X.B P.X.n P.X.L (call f ws) H (s.D.to (P.ρ ++ as)) Φ
structure SK (P : Px) (g : Addr) (vs : List DV) (s : Sy) (v : DV) (s' : Sy) : Prop where
 c : s'.c → s.c
 ok : ∃ m, m ≤ P.X.n ∧ (s'.c → ∀ as, as.length = s.n → aa P.X.B m g (tos (P.ρ ++ as) vs) (a8 (P.ρ ++ as) s.D.rest s.D.objs) fun d o => ∃ bs, bs.length = s'.n ∧ as <+: bs ∧ d = v.to (P.ρ ++ bs) ∧ (⟨cM (P.ρ ++ as) s.D.loc, o⟩ : St) = s'.D.to (P.ρ ++ bs))
structure SG (P : Px) (t : Expr) (v : DV) (s s' : Sy) : Prop where
 c : s'.c → s.c
 n : s'.n = s.n
 run : s'.c → ∀ as, as.length = s.n → ∀ (H : HL) w (Φ : St → Prop), (w, v.to (P.ρ ++ as)) ∈ H → Φ (s'.D.to (P.ρ ++ as)) → WU P.X.B P.X.n P.X.L (assign t P.X.env w) H (s.D.to (P.ρ ++ as)) Φ
 stm : ∀ e pos, (∀ t l, swapsWith e t l P.X.env = pure false) → s'.c → ∀ (H : HL) (σ : St) (Φ : PF),
  WV P.X.B P.X.n P.X.L (eval e P.X.env) H σ (fun w d σ₁ => ∃ bs, bs.length = s.n ∧ d = v.to (P.ρ ++ bs) ∧ σ₁ = s.D.to (P.ρ ++ bs) ∧ Φ .next (s'.D.to (P.ρ ++ bs))) → WF P.X.B P.X.n P.X.L (exec (.Assign [t] e pos) P.X.env) H σ Φ
noncomputable def JW (X : Cx) (t : Expr) (body : List Stmt) (H : HL) (Φ : PF) (k : Nat) : St → Prop :=
 Nat.rec (fun σ => WB X.B X.n X.L (isTrue t X.env (eval t X.env)) H σ fun b σ₁ => (b = false ∧ Φ .next σ₁) ∨ (b = true ∧ WF X.B X.n X.L (execs body X.env) H σ₁ fun f σ₂ => f = .brk ∧ Φ .next σ₂))
  (fun _ ih σ => WB X.B X.n X.L (isTrue t X.env (eval t X.env)) H σ fun b σ₁ => b = true ∧ WF X.B X.n X.L (execs body X.env) H σ₁ fun f σ₂ => (f = .next ∨ f = .cont) ∧ ih σ₂) k
theorem pn {X : Cx} {H : HL} {Φ : PF} {σ : St} (h : JW X t body H Φ k σ) : WF X.B X.n X.L (exec (.While t body [] pos) X.env) H σ Φ :=
 gV (fun k σ => JW X t body H Φ k σ) k h fun k σ w => by
  cases k with
  | zero => exact cw w fun b σ₁ z => z.elim (fun ⟨e, q⟩ => ⟨fun e' => (nomatch e.symm.trans e'), fun _ => q⟩) fun ⟨e, q⟩ => ⟨fun _ => jJ q fun f σ₂ ⟨e, q⟩ => by subst e; exact q, fun e' => (nomatch e.symm.trans e')⟩
  | succ k => exact cw w fun b σ₁ ⟨e, q⟩ => ⟨fun _ => jJ q fun f σ₂ ⟨e, q⟩ => by rcases e with rfl | rfl <;> exact ⟨k, Nat.lt_succ_self _, q⟩, fun e' => (nomatch e.symm.trans e')⟩
structure SW (P : Px) (t : Expr) (body : List Stmt) (s s' : Sy) : Prop where
 c : s'.c → s.c
 run : s'.c → ∃ k, ∀ as, as.length = s.n → ∀ (H : HL) (Φ : PF), (∀ bs, bs.length = s'.n → as <+: bs → Φ .next (s'.D.to (P.ρ ++ bs))) → JW P.X t body H Φ k (s.D.to (P.ρ ++ as))
section
variable {P : Px} (O : cZ P) {s s' s1 s2 s3 s4 : Sy}
theorem vG (a : ST P t s false s') : SW P t body s s' := ⟨a.c, fun c => ⟨0, fun as ha H Φ k => a.run c as ha H _ fun bs hb pb => .inl ⟨rfl, k bs hb pb⟩⟩⟩
theorem wO (a : ST P t s true s1) (b : SB P body s1 .brk s') : SW P t body s s' := ⟨fun c => a.c (b.c c), fun c => ⟨0, fun as ha H Φ k => a.run (b.c c) as ha H _ fun bs hb pb => .inr ⟨rfl, b.run c bs hb H _ fun cs hc pc => ⟨rfl, k cs hc (pb.trans pc)⟩⟩⟩⟩
theorem uR {f : DF} (hf : f = .next ∨ f = .cont) (a : ST P t s true s1) (b : SB P body s1 f s2) (w : SW P t body s2 s') : SW P t body s s' := ⟨fun c => a.c (b.c (w.c c)), fun c => by
 obtain ⟨n, w'⟩ := w.run c
 refine ⟨n + 1, fun as ha H Φ k => a.run (b.c (w.c c)) as ha H _ fun bs hb pb => ⟨rfl, b.run (w.c c) bs hb H _ fun cs hc pc => ⟨?_, w' cs hc H Φ fun ds hd pd => k ds hd ((pb.trans pc).trans pd)⟩⟩⟩
 rcases hf with rfl | rfl
 · exact .inl rfl
 · exact .inr rfl⟩
theorem pj (w : SW P t body s s') : SX P (.While t body [] pos) s .next s' := ⟨w.c, fun c as ha H Φ k => by
 obtain ⟨n, w'⟩ := w.run c
 exact pn (w' as ha H Φ k)⟩
theorem SV.of {v : DV} (hn : s'.n = s.n) (hc : s'.c → s.c) (h : s'.c → ∀ as, Ev P.X e (s.D.to (P.ρ ++ as)) (v.to (P.ρ ++ as)) (s'.D.to (P.ρ ++ as))) : SV P e s v s' :=
 ⟨hc, fun c as ha H Φ k => (h c _).run H Φ fun w => k w as (ha.trans hn.symm) (List.prefix_refl _)⟩
noncomputable def Sy.exE (P : Px) (e : Expr) (s : Sy) (k : Nat) (v : DV) (D : DS) (o : List cD) : Sy := ⟨D, s.n + k, o, s.c ∧ nw s.n fun as => EvQ P.X e (s.D.to (P.ρ ++ as)) fun d σ' => exX k fun bs => d = v.to (P.ρ ++ (as ++ bs)) ∧ σ' = D.to (P.ρ ++ (as ++ bs))⟩
noncomputable def Sy.exS (P : Px) (st : Stmt) (s : Sy) (k : Nat) (D : DS) (o : List cD) : Sy := ⟨D, s.n + k, o, s.c ∧ nw s.n fun as => ExQ P.X st (s.D.to (P.ρ ++ as)) fun f σ' => f = .next ∧ exX k fun bs => σ' = D.to (P.ρ ++ (as ++ bs))⟩
noncomputable def Sy.cal (P : Px) (g : Addr) (vs : List DV) (s : Sy) (k : Nat) (v : DV) (objs : List (Nat × DO)) (rest : OL) (m : Nat) (o : List cD) : Sy := ⟨⟨s.D.loc, objs, rest⟩, s.n + k, o, s.c ∧ nw s.n fun as => aa P.X.B m g (tos (P.ρ ++ as) vs) (a8 (P.ρ ++ as) s.D.rest s.D.objs) fun d o => exX k fun bs => d = v.to (P.ρ ++ (as ++ bs)) ∧ o = a8 (P.ρ ++ (as ++ bs)) rest objs⟩
theorem zL {v : DV} : SV P e s v (s.exE P e k v D o) :=
 ⟨And.left, fun c as ha H Φ k => (g9 c.2 as ha).run H Φ fun w d σ' q => by
  refine x13 (lH q) ?_; rintro bs hl e1 e2
  subst e1 e2
  exact k w (as ++ bs) (by rw [List.length_append, ha, hl]; rfl) (List.prefix_append _ _)⟩
theorem AI {st : Stmt} : SX P st s .next (s.exS P st k D o) :=
 ⟨And.left, fun c as ha H Φ k => (g9 c.2 as ha).run H Φ fun f σ' q => by
  obtain ⟨e1, q⟩ := q
  refine x12 (lH q) ?_; rintro bs hl e2
  subst e1 e2
  exact k (as ++ bs) (by rw [List.length_append, ha, hl]; rfl) (List.prefix_append _ _)⟩
theorem zI {v : DV} {m : Nat} {objs : List (Nat × DO)} {rest : OL} (h : (Nat.ble m P.X.n && (Nat.beq k 0 || qf (P.N s) s.D.loc)) = true) :
 SK P g vs s v (s.cal P g vs k v objs rest m o) :=
 ⟨And.left, _, lB0 (ax h), fun c as ha => (g9 c.2 as ha).mono fun d o q => by
  refine x13 (lH q) ?_; rintro bs hl e1 e2
  refine ⟨as ++ bs, by rw [List.length_append, ha, hl]; rfl, List.prefix_append _ _, e1, ?_⟩
  subst e2
  refine congrArg (fun z => St.mk z _) ?_
  rcases Bool.or_eq_true_iff.mp (aJ h) with hk | hk
  · obtain rfl := Nat.eq_of_beq_eq_true hk
    rw [List.eq_nil_of_length_eq_zero hl, List.append_nil]; rfl
  · exact (yD hk ha (List.prefix_append _ _)).symm⟩
theorem ya {v : DV} (h : SK P g vs s v s') : SC P (.ref g) vs s v s' := by
 obtain ⟨hc, m, hm, w⟩ := h
 refine ⟨hc, fun c as ha H ws Φ hl hp k => fL (w c as ha) hm (by rw [List.length_map]; exact hl) hp fun d o q w => ?_⟩
 refine x14 (q) ?_; clear q; rintro bs h1 h2 e1 e2
 rw [e1, e2]; exact k w bs h1 h2
theorem x9 {b : Bl} (p : BcR b vs s) : SC P (.builtin b.id) vs s p.1.1 p.1.2 :=
 ⟨p.2.2.1, fun c as ha H ws Φ hl hp k => (p.2.2.2 c _ _).run H ws Φ (by rw [List.length_map]; exact hl) hp fun w => k w as (ha.trans p.2.1.symm) (List.prefix_refl _)⟩
theorem yo : SL P [] s [] s := ⟨id, fun c as ha pos H Φ k => mK (k [] as rfl ha (List.prefix_refl _))⟩
theorem sd {v : DV} (hs : bk e = true) (a : SV P e s v s1) (hb : v.bel (P.N s1) = true) (b : SL P es s1 vs s') : SL P (e :: es) s (v :: vs) s' :=
 ⟨fun c => a.c (b.c c), fun c as ha pos H Φ k => mV (a.run (b.c c) as ha H _ fun w bs hbl pb => b.run c bs hbl pos _ _ fun ws cs hl hc pc => b9 hb hbl pc ▸ k (w :: ws) cs (congrArg (· + 1) hl) hc (pb.trans pc)) (gJ hs)⟩
theorem x0 : SD P [] [] s [] s := ⟨id, rfl, fun _ => rfl, fun _ => rfl, fun c as ha pos H Φ k => uO (k as ha (List.prefix_refl _))⟩
theorem uH {x : Str} {kk kp} {v : DV} (a : SV P e s v s1) (hb : v.bel (P.N s1) = true) (b : SD P ks es s1 l s') : SD P (some (.Constant (.str x) kk kp) :: ks) (e :: es) s ((x, v) :: l) s' :=
 ⟨fun c => a.c (b.c c), congrArg (· + 1) b.len, fun pos => congrArg (List.cons _) (b.zip pos), fun pos => congrArg (· + 1) (b.plen pos), fun c as ha pos H Φ k => pK (a.run (b.c c) as ha H _ fun w bs hbl pb => b.run c bs hbl pos _ _ fun cs hc pc => b9 hb hbl pc ▸ k cs hc (pb.trans pc))⟩
theorem ux : SP P none s (.av .none) s := ⟨id, fun c as ha H Φ k => na (k _ as ha (List.prefix_refl _))⟩
theorem uD {v : DV} (a : SV P e s v s') : SP P (some e) s v s' := ⟨a.c, fun c as ha H Φ k => mP (a.run c as ha H Φ k)⟩
theorem tY : SA P .And [] s true s := ⟨id, fun c as ha H Φ k => kj (k as ha (List.prefix_refl _))⟩
theorem sr : SA P .Or [] s false s := ⟨id, fun c as ha H Φ k => nq (k as ha (List.prefix_refl _))⟩
theorem xQ (a : ST P e s true s1) (w : SA P .And es s1 b s') : SA P .And (e :: es) s b s' :=
 ⟨fun c => a.c (w.c c), fun c as ha H Φ k => gh (a.run (w.c c) as ha H _ fun bs hb pb => ⟨fun _ => w.run c bs hb H Φ fun cs hc pc => k cs hc (pb.trans pc), nofun⟩)⟩
theorem vU (a : ST P e s false s') : SA P .And (e :: es) s false s' :=
 ⟨a.c, fun c as ha H Φ k => gh (a.run c as ha H _ fun bs hb pb => ⟨nofun, fun _ => k bs hb pb⟩)⟩
theorem yq (a : ST P e s false s1) (w : SA P .Or es s1 b s') : SA P .Or (e :: es) s b s' :=
 ⟨fun c => a.c (w.c c), fun c as ha H Φ k => iF (a.run (w.c c) as ha H _ fun bs hb pb => ⟨nofun, fun _ => w.run c bs hb H Φ fun cs hc pc => k cs hc (pb.trans pc)⟩)⟩
theorem tX (a : ST P e s true s') : SA P .Or (e :: es) s true s' :=
 ⟨a.c, fun c as ha H Φ k => iF (a.run c as ha H _ fun bs hb pb => ⟨fun _ => k bs hb pb, nofun⟩)⟩
theorem xI (a : ST P e s b s') : ST P (.UnaryOp .Not e pos) s (!b) s' := ⟨a.c, fun c as ha H Φ k => Aj (a.run c as ha H _ k)⟩
theorem ww (a : SA P .And (e :: es) s b s') : ST P (.BoolOp .And (e :: es) pos) s b s' := ⟨a.c, fun c as ha H Φ k => uT (a.run c as ha H Φ k)⟩
theorem zX (a : SA P .Or (e :: es) s b s') : ST P (.BoolOp .Or (e :: es) pos) s b s' := ⟨a.c, fun c as ha H Φ k => yX (a.run c as ha H Φ k)⟩
noncomputable def Sy.exI (P : Px) (a i : DV) (s : Sy) (d : AV) (o : List cD) : Sy := ⟨s.D, s.n, o, s.c ∧ nw s.n fun as => ∀ X : Cx, X.B = P.X.B → ∀ e1 e2, bd e2 = true → bY X e1 e2 (a.to (P.ρ ++ as)) (i.to (P.ρ ++ as)) d (s.D.to (P.ρ ++ as))⟩
noncomputable def Sy.exC (P : Px) (op : CmpOp) (a b : DV) (s : Sy) (c : Bool) (o : List cD) : Sy := ⟨s.D, s.n, o, s.c ∧ nw s.n fun as => ∀ X : Cx, X.B = P.X.B → bG X op (a.to (P.ρ ++ as)) (b.to (P.ρ ++ as)) c (s.D.to (P.ρ ++ as))⟩
theorem yN {l : Expr} (hs : f8 m = true) (a : SV P l s x s1) (hb : x.bel (P.N s1) = true) (d : SV P m s1 y s2) (z : RX P op x y s2) (w : RD z.r z.s') : ST P (.Compare l [op] [m] pos) s w.b w.s' :=
 ⟨fun c => a.c (d.c (z.A.c (w.A.c c))), fun c as ha H Φ k => iM (a.run (d.c (z.A.c (w.A.c c))) as ha H _ fun u bs hbl pb => d.run (z.A.c (w.A.c c)) bs hbl _ _ fun v cs hc pc => by
  have z' := z.ok (w.A.c c) cs hc
  rw [b9 hb hbl pc] at z'
  refine z'.run _ _ _ _ hd1 hd0 fun _ => ⟨_, rfl, ?_⟩
  rw [w.ok c, ← z.A.D, ← w.A.D]
  exact k cs (hc.trans (w.A.n.trans z.A.n).symm) (pb.trans pc)) (jH hs)⟩
theorem wm (hs : pL e = true) (a : SV P e s x s1) (t : RT x s1) (w : RD t.r t.s') : ST P e s w.b w.s' :=
 ⟨fun c => a.c (t.A.c (w.A.c c)), fun c as ha H Φ k => jC (a.run (t.A.c (w.A.c c)) as ha H _ fun u bs hbl pb => (t.ok (w.A.c c) _ _).run _ _ Φ hd0 (by
  rw [w.ok c, ← t.A.D, ← w.A.D]
  exact k bs (hbl.trans (w.A.n.trans t.A.n).symm) pb)) (rJ hs)⟩
theorem rU {a : Str} {i : Nat} {s1 : Sy} (O : cZ P) (hs : eA e = true) (h : SV P e s (.slot i) s1) (g : RG P.K i a s1) : SV P (.Attribute e a pos) s g.v s1 :=
 ⟨h.c, fun c as ha H Φ k => xZ (h.run c as ha H _ fun u bs hbl pb => (g.ok P.X O.K _).run _ _ _ hd0 fun w => k w bs hbl pb) (uL hs)⟩
theorem wU {l : Expr} (hs : f8 m = true) (a : SV P l s x s1) (hb : x.bel (P.N s1) = true) (d : SV P m s1 y s2) (z : RX P op x y s2) : SV P (.Compare l [op] [m] pos) s (.av (.bool z.r.val)) z.s' :=
 ⟨fun c => a.c (d.c (z.A.c c)), fun c as ha H Φ k => iY (a.run (d.c (z.A.c c)) as ha H _ fun u bs hbl pb => d.run (z.A.c c) bs hbl _ _ fun v cs hc pc => by
  have z' := z.ok c cs hc
  rw [b9 hb hbl pc] at z'
  exact z'.run _ _ _ _ hd1 hd0 fun w => z.A.D ▸ k w cs (hc.trans z.A.n.symm) (pb.trans pc)) (jH hs)⟩
theorem wE {l : Expr} {op : Operator} (a : SV P l s x s1) (hb : x.bel (P.N s1) = true) (d : SV P m s1 y s2) (z : RB op x y s2) : SV P (.BinOp l op m pos) s z.v z.s' :=
 ⟨fun c => a.c (d.c (z.A.c c)), fun c as ha H Φ k => mX (a.run (d.c (z.A.c c)) as ha H _ fun u bs hbl pb => d.run (z.A.c c) bs hbl _ _ fun v cs hc pc => by
  have z' := (z.ok c P.X (s2.D.to (P.ρ ++ cs)) (P.ρ ++ cs)).1
  rw [b9 hb hbl pc] at z'
  exact z'.run _ _ _ _ hd1 hd0 fun w => z.A.D ▸ k w cs (hc.trans z.A.n.symm) (pb.trans pc))⟩
theorem yb (a : SV P e s x s1) (t : RT x s1) : SV P (.UnaryOp .Not e pos) s (.av (.bool !t.r.val)) t.s' :=
 ⟨fun c => a.c (t.A.c c), fun c as ha H Φ k => An (a.run (t.A.c c) as ha H _ fun u bs hbl pb => (t.ok c _ _).run _ _ _ hd0 (t.A.D ▸ k _ bs (hbl.trans t.A.n.symm) pb))⟩
theorem vM {i : Int} (a : SV P e s (.av (.int i)) s') : SV P (.UnaryOp .USub e pos) s (.av (.int (-i))) s' :=
 ⟨a.c, fun c as ha H Φ k => A8 (a.run c as ha H _ fun u bs hbl pb => ⟨_, rfl, fun w => k w bs hbl pb⟩)⟩
theorem wB {x y : Expr} {v : DV} (a : ST P t s true s1) (w : SV P x s1 v s') : SV P (.IfExp t x y pos) s v s' :=
 ⟨fun c => a.c (w.c c), fun c as ha H Φ k => nk (a.run (w.c c) as ha H _ fun bs hb pb => ⟨fun _ => w.run c bs hb H Φ fun u cs hc pc => k u cs hc (pb.trans pc), nofun⟩)⟩
theorem wQ {x y : Expr} {v : DV} (a : ST P t s false s1) (w : SV P y s1 v s') : SV P (.IfExp t x y pos) s v s' :=
 ⟨fun c => a.c (w.c c), fun c as ha H Φ k => nk (a.run (w.c c) as ha H _ fun bs hb pb => ⟨nofun, fun _ => w.run c bs hb H Φ fun u cs hc pc => k u cs hc (pb.trans pc)⟩)⟩
theorem xH {l : List AV} (a : SL P es s vs s') (q : ik vs = some l) (hz : Nat.ble l.length 16777216 = true) : SV P (.Tuple es k pos) s (.av (.tup l)) s' :=
 ⟨a.c, fun c as ha H Φ k => n8 (a.run c as ha _ _ _ fun ws bs hl hb pb => by rw [iO q]; exact ⟨lB0 hz, fun w => k w bs hb pb⟩)⟩
theorem mh {B : ab} {n : Nat} {L : Addr} {H : HL} {σ : St} {t : Sem Value} {Φ : PV} (h : WV B n L t H σ fun v d σ' => ∃ objs', σ'.objs.Perm objs' ∧ Φ v d ⟨σ'.loc, objs'⟩) : WV B n L t H σ Φ :=
 ae fun A F s hA X => wpAny_mono (h.run A F s hA X) (fun v s' z => by
  obtain ⟨F', ⟨loc, objs⟩, x, p, d, hd, objs', e, q⟩ := z
  exact ⟨F', ⟨loc, objs'⟩, x.perm e, p.fewer fun b hb => (mC0 hb).elim (fun h => h ▸ .head _) fun h => .tail _ ((b6 e).mem_iff.mpr h), d, hd, q⟩) fun _ _ z => z
noncomputable def Sy.new (P : Px) (s : Sy) (o : DO) : Sy := ⟨⟨s.D.loc, s.D.objs ++ [(P.N s, o)], s.D.rest⟩, s.n + 1, s.o, s.c⟩
theorem qu {o : DO} {bs : List Addr} {x : Addr} (hb : bs.length = s.n) (h : s.D.bel (P.N s) = true) : aB (P.ρ ++ (bs ++ [x])) (P.N s) = x ∧ (s.new P o).D.to (P.ρ ++ (bs ++ [x])) = ⟨cM (P.ρ ++ bs) s.D.loc, s.D.objs.map (fun p => (aB (P.ρ ++ bs) p.1, p.2.to (P.ρ ++ bs))) ++ (x, o.to (P.ρ ++ (bs ++ [x]))) :: s.D.rest⟩ := by
 have hN : (P.ρ ++ bs).length = P.N s := by rw [List.length_append, hb]; rfl
 have hx : aB (P.ρ ++ (bs ++ [x])) (P.N s) = x := by rw [← List.append_assoc, ← hN]; exact nM
 refine ⟨hx, ?_⟩
 have e := By (D := ⟨s.D.loc, s.D.objs, []⟩) h hb (List.prefix_append bs [x])
 rw [DS.to, DS.to, a8, a8, List.append_nil, List.append_nil] at e
 obtain ⟨e1, e2⟩ := St.mk.inj e
 show St.mk (cM (P.ρ ++ (bs ++ [x])) s.D.loc) (a8 (P.ρ ++ (bs ++ [x])) s.D.rest (s.D.objs ++ [(P.N s, o)])) = _
 rw [a8, List.map_append, e1, e2, List.append_assoc, List.map_cons, List.map_nil, hx]; rfl
theorem ta (a : SL P es s vs s1) (hz : (Nat.ble vs.length 16777216 && vs.all (DV.bel (P.N s1)) && s1.D.bel (P.N s1)) = true) : SV P (.List es pos) s (.slot (P.N s1)) (s1.new P (.list [] vs)) :=
 ⟨a.c, fun c as ha H Φ k => mh (lJ (a.run c as ha _ _ _ fun ws bs hl hb pb => ⟨by rw [List.length_map]; exact lB0 (ax (ax hz)), fun x => by
  obtain ⟨hx, hD⟩ := qu (P := P) (o := .list [] vs) (x := x) hb (aJ hz)
  have := k (.ref x) (bs ++ [x]) (by rw [List.length_append, hb]; rfl) (pb.trans (List.prefix_append _ _))
  rw [hD, DV.to, hx, DO.to, fm, BO (aJ (ax hz)) hb (List.prefix_append bs [x])] at this
  exact ⟨_, List.perm_middle.symm, this⟩⟩))⟩
theorem qL (a : SD P ks es s l s') (h0 : Nat.ble 1 l.length = true) (pos : Pos) : aA P.X.env pos ks es ≠ [] := fun e => by
 have h1 : 1 ≤ l.length := lB0 h0
 rw [a.len, ← a.plen pos, e] at h1
 exact absurd h1 (by decide)
theorem tJ {vs : List (Str × DV)} {l : FL} (a : SD P ks es s vs s') (q : gX vs = some l) (hz : (cu (l.map (·.1)) && Nat.ble 1 vs.length && Nat.ble es.length 15) = true) : SV P (.Dict ks es pos) s (.av (.dct l)) s' :=
 ⟨a.c, fun c as ha H Φ k => rh (a.run c as ha _ _ _ fun bs hb pb => by rw [iJ q]; exact ⟨aP (ax (ax hz)), fun w => k w bs hb pb⟩) (a.zip _) (qL a (aJ (ax hz)) pos) (by rw [a.plen]; exact lB0 (aJ hz))⟩
theorem rG {lo hi : Option Expr} {p : Pos} {x : List Nat} {d1 d2 : AV} {i j : Option Int} (a : SV P e s (.av (.str x)) s1) (b : SP P lo s1 (.av d1) s2) (d : SP P hi s2 (.av d2) s3) (e1 : fZ d1 = some i) (e2 : fZ d2 = some j) : SV P (.Subscript e (.Slice lo hi none p) pos) s (.av (.str (sl x i j))) (s3.need (x.length ≤ 16777216)) :=
 ⟨fun c => a.c (b.c (d.c c.1)), fun c as ha H Φ k => mC (a.run (b.c (d.c c.1)) as ha H _ fun u bs hb pb => b.run (d.c c.1) bs hb _ _ fun u cs hc pc => d.run c.1 cs hc _ _ fun u ds hd pd => ⟨_, _, _, rfl, e1, e2, c.2, fun w => k w ds hd ((pb.trans pc).trans pd)⟩)⟩
theorem xU {i : Expr} (hs : bd i = true) (a : SV P e s x s1) (hb : x.bel (P.N s1) = true) (d : SV P i s1 y s2) (z : RY P x y s2) : SV P (.Subscript e i pos) s z.v z.s' :=
 ⟨fun c => a.c (d.c (z.A.c c)), fun c as ha H Φ k => vq (a.run (d.c (z.A.c c)) as ha H _ fun u bs hbl pb => d.run (z.A.c c) bs hbl _ _ fun v cs hc pc => by
  have z' := z.ok c cs hc e i hs
  rw [b9 hb hbl pc] at z'
  exact z'.run _ _ _ _ hd1 hd0 fun w => z.A.D ▸ k w cs (hc.trans z.A.n.symm) (pb.trans pc))⟩
theorem sB {x : Str} {xp : Pos} {f : Ce} {v : DV} (hs : kt bk es = true) (q : tg P x f) (b : SL P es s vs s1) (w : SC P f.val vs s1 v s') : SV P (.Call (.Name x xp) es [] pos) s v s' :=
 ⟨fun c => b.c (w.c c), fun c as ha H Φ k => gr ((q.1 _ xp).run _ _ (q.2.run _ _ _ _ _ _ (h6 hs) (b.run (w.c c) as ha _ _ _ fun ws bs hl hb pb => w.run c bs hb _ _ Φ hl (fun _ hp => List.mem_append_left _ hp) fun u cs hc pc => k u cs hc (pb.trans pc)))) s7⟩
theorem tc {a : Str} {ap : Pos} {o : DV} {f : Ce} {v : DV} (hs : (eA e && kt bk es && Nat.blt es.length 30 && (ap.endLine == pos.line)) = true) (x : SV P e s o s1) (hb : o.bel (P.N s1) = true)
 (q : ∀ ρ, f9 P.X (o.to ρ) a f.val (s1.D.to ρ) ∧ cL P.X f.val) (b : SL P es s1 vs s2) (w : SC P f.val (o :: vs) s2 v s') : SV P (.Call (.Attribute e a ap) es [] pos) s v s' :=
 have hst := aJ (ax (ax hs))
 ⟨fun c => x.c (b.c (w.c c)), fun c as ha H Φ k => kT (x.run (b.c (w.c c)) as ha H _ fun vo bs hbl pb => (q (P.ρ ++ bs)).1.run _ _ _ _ hd0 fun _ => (q (P.ρ ++ bs)).2.run _ _ _ _ _ _ (h6 hst) (b.run (w.c c) bs hbl _ _ _ fun ws cs hl hcl pc =>
  w.run c cs hcl _ _ Φ (by rw [List.length_append, hl, Nat.add_comm]; rfl) (by rw [tos, List.map_cons, b9 hb hbl pc]; exact gi) fun u ds hd pd => k u ds hd ((pb.trans pc).trans pd))) (mB (ax (ax (ax hs))) hst (aJ (ax hs)) (aJ hs))⟩
theorem xM {a : Str} {ap : Pos} {o : DV} {i : Nat} {v : DV} (hs : (eA e && kt bk es && Nat.blt es.length 30 && (ap.endLine == pos.line)) = true) (x : SV P e s o s1) (hi : Nat.blt i (P.N s1) = true)
 (q : ∀ ρ, oX P.X (o.to ρ) a (.meth g (aB ρ i)) (s1.D.to ρ)) (hf : fnIn P.X.B.K g = true) (b : SL P es s1 vs s2) (w : SK P g (.slot i :: vs) s2 v s') : SV P (.Call (.Attribute e a ap) es [] pos) s v s' := by
 have hst := aJ (ax (ax hs))
 obtain ⟨hc, m, hm, w⟩ := w
 refine ⟨fun c => x.c (b.c (hc c)), fun c as ha H Φ k => ?_⟩
 rw [mB (ax (ax (ax hs))) hst (aJ (ax hs)) (aJ hs)]
 refine aj (x.run (b.c (hc c)) as ha H _ fun vo bs hbl pb => al ?_)
 refine eT (ag ((q (P.ρ ++ bs)).run _ vo _ (fun p F σ₂ => p.2 = [] ∧ σ₂ = s1.D.to (P.ρ ++ bs) ∧ Is P.X.B.P F p.1 (.meth g (aB (P.ρ ++ bs) i))) hd0 fun v F hv => ⟨rfl, rfl, hv⟩)) ?_
 rintro ⟨v', fs⟩ F σ₂ ⟨rfl, rfl, hv⟩
 refine ⟨(v', .meth g (aB (P.ρ ++ bs) i)) :: (vo, o.to (P.ρ ++ bs)) :: H, fun _ h => .tail _ h, fun x hx => ?_, ?_⟩
 · rcases mC0 hx with rfl | hx
   · exact .inr hv
   · exact .inl hx
 · refine m8 hd0 hf (b.run (hc c) bs hbl _ _ _ fun ws cs hl hcl pc => ?_) (h6 hst)
   have cj := w c cs hcl
   rw [tos, List.map_cons, b9 (v := .slot i) hi hbl pc] at cj
   refine kO (List.mem_append_right _ hd0) cj hm (by rw [List.length_map]; exact hl) (fun _ hp => List.mem_append_left _ hp) fun d o' q' v => ?_
   refine x14 (q') ?_; clear q'; rintro ds hd1' pd e1 e2
   rw [e1, e2]
   exact k v ds hd1' ((pb.trans pc).trans pd)
end
end
section
set_option genInjectivity false
section
variable {P : Px} (O : cZ P) {s s' s1 s2 s3 s4 : Sy}
theorem lR {P : Px} (O : cZ P) : (P.X.env.scope.kind == .class || (P.X.env.scope.kind == .module && P.X.env.locals != P.X.env.globals)) = false := by rw [O.kind]; rfl
theorem x5 {P : Px} (O : cZ P) : interactive P.X.env = false := by unfold interactive; rw [O.kind]; rfl
include O in
theorem tF {x : Str} {p : Pos} {v : DV} {l : List (Str × Option DV)} (hl : gD (P.X.env.kindOf x) = true) (q : oA x v s.D.loc = some l) : SG P (.Name x p) v s ⟨⟨l, s.D.objs, s.D.rest⟩, s.n, s.o, s.c⟩ :=
 ⟨id, rfl, fun c as ha H w Φ m k => jo (gB m (jm q) k (e7 hl) O.loc (lR O)), fun e pos hs c H σ Φ w => cX (af w fun x d σ₁ ⟨bs, hb, e1, e2, k⟩ => by
  subst e1 e2
  exact gB hd0 (jm q) k (e7 hl) O.loc (lR O)) (hs _ _)⟩
include O in
theorem uv {x : Str} {p : Pos} {v : DV} {i : Nat} {w : Option DV} (hl : j6 (P.X.env.kindOf x) = true) (e0 : cc x P.cl = some i) (q : ba i s.D.objs = some (.cell w)) : SG P (.Name x p) v s (s.objs (fS i (.cell (some v)) s.D.objs)) := by
 obtain ⟨h1, h2⟩ := O.cl x i e0
 have key : ∀ (as : List Addr) (H : HL) (u : Value) (Φ : St → Prop), (u, v.to (P.ρ ++ as)) ∈ H → Φ ((s.objs (fS i (.cell (some v)) s.D.objs)).D.to (P.ρ ++ as)) → WU P.X.B P.X.n P.X.L (storeName P.X.env x u) H (s.D.to (P.ρ ++ as)) Φ := fun as H u Φ m k =>
  oI (by rw [dt h2]; exact h1) m (dK (ρ := P.ρ ++ as) (rest := s.D.rest) (o' := .cell (some v)) q) k O.kind (k7 hl)
 exact ⟨id, rfl, fun c as ha H w Φ m k => jo (key as H w Φ m k), fun e pos hs c H σ Φ w => cX (af w fun x d σ₁ ⟨bs, hb, e1, e2, k⟩ => by
  subst e1 e2
  exact key bs _ _ _ hd0 k) (hs _ _)⟩
include O in
theorem su {e : Expr} {a : Str} {p : Pos} {v : DV} {i : Nat} (h : SV P e s (.slot i) s1) (hn : Nat.beq s1.n s.n = true) (q : RS P.K i a v s1) : SG P (.Attribute e a p) v s (s1.objs q.l) := by
 replace hn : s1.n = s.n := Nat.eq_of_beq_eq_true hn
 refine ⟨h.c, hn, fun c as ha H w Φ m k => wL (h.run c as ha H _ fun x bs hbl pb => ?_), fun e' pos hs c H σ Φ z => cU (af z fun x d σ₁ ⟨as, ha, e1, e2, k⟩ => ?_) (hs _ _)⟩
 · obtain rfl := pb.eq_of_length ((ha.trans hn.symm).trans hbl.symm)
   exact (q.ok P.X O.K _).run _ _ _ Φ hd0 (.tail _ m) k
 · subst e1 e2
   refine h.run c as ha _ _ fun x bs hbl pb => ?_
   obtain rfl := pb.eq_of_length ((ha.trans hn.symm).trans hbl.symm)
   exact (q.ok P.X O.K _).run _ _ _ _ hd0 hd1 k
theorem wr : SB P [] s .next s := ⟨id, fun c as ha H Φ k => uS (k as ha (List.prefix_refl _))⟩
theorem uB {st : Stmt} {ss : List Stmt} {f : DF} (a : SX P st s .next s1) (w : SB P ss s1 f s') : SB P (st :: ss) s f s' :=
 ⟨fun c => a.c (w.c c), fun c as ha H Φ k => cB (a.run (w.c c) as ha H (fE P.X.B P.X.n P.X.L ss P.X.env H Φ) fun bs hb pb => w.run c bs hb H Φ fun cs hc pc => k cs hc (pb.trans pc))⟩
theorem vL {st : Stmt} {ss : List Stmt} (a : SX P st s .brk s') : SB P (st :: ss) s .brk s' := ⟨a.c, fun c as ha H Φ k => cB (a.run c as ha H (fE P.X.B P.X.n P.X.L ss P.X.env H Φ) k)⟩
theorem sP {st : Stmt} {ss : List Stmt} (a : SX P st s .cont s') : SB P (st :: ss) s .cont s' := ⟨a.c, fun c as ha H Φ k => cB (a.run c as ha H (fE P.X.B P.X.n P.X.L ss P.X.env H Φ) k)⟩
theorem yv {st : Stmt} {ss : List Stmt} {v : DV} (a : SX P st s (.ret v) s') : SB P (st :: ss) s (.ret v) s' := ⟨a.c, fun c as ha H Φ k => cB (a.run c as ha H (fE P.X.B P.X.n P.X.L ss P.X.env H Φ) k)⟩
theorem so {pos : Pos} : SX P (.Pass pos) s .next s := ⟨id, fun c as ha H Φ k => xG (k as ha (List.prefix_refl _))⟩
theorem vJ {pos : Pos} : SX P (.Break pos) s .brk s := ⟨id, fun c as ha H Φ k => ut (k as ha (List.prefix_refl _))⟩
theorem sH {pos : Pos} : SX P (.Continue pos) s .cont s := ⟨id, fun c as ha H Φ k => lS (k as ha (List.prefix_refl _))⟩
theorem sV {pos : Pos} : SX P (.Return none pos) s (.ret (.av .none)) s := ⟨id, fun c as ha H Φ k => ju (k as ha (List.prefix_refl _))⟩
theorem yG {e : Expr} {pos : Pos} {v : DV} (a : SV P e s v s') : SX P (.Return (some e) pos) s (.ret v) s' := ⟨a.c, fun c as ha H Φ k => ig (a.run c as ha H _ fun w bs hb pb => k bs hb pb)⟩
theorem yd {t : Expr} {x y : List Stmt} {pos : Pos} {f : DF} (a : ST P t s true s1) (w : SB P x s1 f s') : SX P (.If t x y pos) s f s' :=
 ⟨fun c => a.c (w.c c), fun c as ha H Φ k => xy (a.run (w.c c) as ha H _ fun bs hb pb => ⟨fun _ => w.run c bs hb H Φ fun cs hc pc => k cs hc (pb.trans pc), nofun⟩)⟩
theorem w9 {t : Expr} {x y : List Stmt} {pos : Pos} {f : DF} (a : ST P t s false s1) (w : SB P y s1 f s') : SX P (.If t x y pos) s f s' :=
 ⟨fun c => a.c (w.c c), fun c as ha H Φ k => xy (a.run (w.c c) as ha H _ fun bs hb pb => ⟨nofun, fun _ => w.run c bs hb H Φ fun cs hc pc => k cs hc (pb.trans pc)⟩)⟩
include O in
theorem tm {e : Expr} {pos : Pos} {v : DV} (hs : dJ e = true) (a : SV P e s v s') : SX P (.Expr e pos) s .next s' := ⟨a.c, fun c as ha H Φ k => qR (a.run c as ha H _ fun w bs hb pb => k bs hb pb) (x5 O) (gI hs)⟩
theorem nV {t : Expr} {m pos} (a : ST P t s true s') : SX P (.Assert t m pos) s .next s' := ⟨a.c, fun c as ha H Φ k => qC (a.run c as ha H _ fun bs hb pb => ⟨rfl, k bs hb pb⟩)⟩
theorem vC {t e : Expr} {pos : Pos} {v : DV} (hs : dJ e = true) (a : SV P e s v s1) (b : SG P t v s1 s') : SX P (.Assign [t] e pos) s .next s' :=
 ⟨fun c => a.c (b.c c), fun c as ha H Φ k => b.stm e pos (fun _ _ => gI hs) c H _ Φ (a.run (b.c c) as ha H _ fun w bs hb pb => ⟨bs, hb, rfl, rfl, k bs (hb.trans b.n.symm) pb⟩)⟩
theorem u8 {t1 t2 e : Expr} {kk : Nat} {p pos : Pos} {d1 d2 : AV} (hs : (dJ e && rg e && bk t1 && bk t2) = true) (a : SV P e s (.av (.tup [d1, d2])) s1) (b : SG P t1 (.av d1) s1 s2) (d : SG P t2 (.av d2) s2 s') : SX P (.Assign [.Tuple [t1, t2] kk p] e pos) s .next s' :=
 ⟨fun c => a.c (b.c (d.c c)), fun c as ha H Φ k => gg (a.run (b.c (d.c c)) as ha H _ fun w bs hb pb => ⟨d1, d2, rfl, fun v1 v2 => b.run (d.c c) bs hb _ _ _ hd0 (d.run c bs (hb.trans b.n.symm) _ _ _ hd1 (k bs (hb.trans (b.n.symm.trans d.n.symm)) pb))⟩)
  (by rw [swapsWithSole]; exact gI (ax (ax (ax hs)))) (oK (aJ (ax (ax hs)))) (by rw [qr (aJ (ax hs)), qr (aJ hs)]; rfl)⟩
theorem uh {o i e : Expr} {p pos : Pos} {v x y : DV} (hs : dJ e = true) (a : SV P e s v s1) (hb1 : v.bel (P.N s1) = true) (b : SV P o s1 x s2) (hb2 : x.bel (P.N s2) = true) (d : SV P i s2 y s3) (q : RJ x y v s3) : SX P (.Assign [.Subscript o i p] e pos) s .next (s3.objs q.l) :=
 ⟨fun c => a.c (b.c (d.c c)), fun c as ha H Φ k => gA (a.run (b.c (d.c c)) as ha H _ fun w bs hb pb => b.run (d.c c) bs hb _ _ fun w2 cs hc pc => d.run c cs hc _ _ fun w3 ds hd pd => by
  have y := q.ok P.X (P.ρ ++ ds)
  rw [b9 hb1 hb (pc.trans pd), b9 hb2 hc pd] at y
  exact y.run _ _ _ _ _ hd1 hd0 (.tail _ (.tail _ (.head _))) (k ds hd ((pb.trans pc).trans pd))) (gI hs)⟩
theorem tn {t : Expr} {ks : List (Option Expr)} {es : List Expr} {dp pos : Pos} {l : List (Str × DV)} (a : SD P ks es s l s1) (hz : (cu (l.map (·.1)) && Nat.ble 1 l.length && Nat.ble es.length 15 && (l.all fun p => p.2.bel (P.N s1)) && s1.D.bel (P.N s1)) = true) (b : SG P t (.slot (P.N s1)) (s1.new P (.dict l)) s') : SX P (.Assign [t] (.Dict ks es dp) pos) s .next s' :=
 ⟨fun c => a.c (b.c c), fun c as ha H Φ k => b.stm _ pos (fun _ _ => rfl) c H _ Φ (mh (ni (a.run (b.c c) as ha _ _ _ fun bs hb pb => ⟨aP (by rw [List.map_map]; exact ax (ax (ax (ax hz)))), fun x => by
  obtain ⟨hx, hD⟩ := qu (P := P) (o := .dict l) (x := x) hb (aJ hz)
  refine ⟨_, List.perm_middle.symm, bs ++ [x], by rw [List.length_append, hb]; rfl, congrArg AV.ref hx.symm, ?_, k _ (by rw [List.length_append, hb]; exact b.n.symm) (pb.trans (List.prefix_append _ _))⟩
  rw [hD, DO.to, Bo (aJ (ax hz)) hb (List.prefix_append bs [x])]⟩) (a.zip _) (qL a (aJ (ax (ax (ax hz)))) dp) (by rw [a.plen]; exact lB0 (aJ (ax (ax hz))))))⟩
include O in
theorem wI {x : Str} {p pos : Pos} {op : Operator} {e : Expr} {a v : DV} {l : List (Str × Option DV)} (hl : gD (P.X.env.kindOf x) = true) (e0 : two (cc x s.D.loc) = some a) (hb : a.bel (P.N s) = true) (h : SV P e s v s1) (z : RB op a v s1) (q : oA x z.v z.s'.D.loc = some l) :
 SX P (.AugAssign (.Name x p) op e pos) s .next ⟨⟨l, z.s'.D.objs, z.s'.D.rest⟩, z.s'.n, z.s'.o, z.s'.c⟩ :=
 ⟨fun c => h.c (z.A.c c), fun c as ha H Φ k => wT (vP (σ := s.D.to _) (k8 (ld e0)) (fun x => h.run (z.A.c c) as ha _ _ fun y bs hbl pb => by
  have z' := (z.ok c P.X (s1.D.to (P.ρ ++ bs)) (P.ρ ++ bs)).2
  rw [b9 hb ha pb] at z'
  refine z'.run _ _ _ _ hd1 hd0 fun y' => ?_
  rw [← z.A.D]
  exact gB hd0 (jm q) (k bs (hbl.trans z.A.n.symm) pb) (e7 hl) O.loc (lR O)) O.kind (e7 hl) O.loc)⟩
include O in
theorem sw {o e : Expr} {a : Str} {p pos : Pos} {op : Operator} {i : Nat} {v : DV} (h : SV P o s (.slot i) s1) (hi : Nat.blt i (P.N s1) = true) (g : RG P.K i a s1) (hx : g.v.bel (P.N s1) = true) (b : SV P e s1 v s2) (z : RB op g.v v s2) (q : RS P.K i a z.v z.s') : SX P (.AugAssign (.Attribute o a p) op e pos) s .next (z.s'.objs q.l) :=
 ⟨fun c => h.c (b.c (z.A.c c)), fun c as ha H Φ k => om (h.run (b.c (z.A.c c)) as ha H _ fun wo bs hb pb => (g.ok P.X O.K _).run _ _ _ hd0 fun wa => b.run (z.A.c c) bs hb _ _ fun wb cs hc pc => by
  have z' := (z.ok c P.X (s2.D.to (P.ρ ++ cs)) (P.ρ ++ cs)).2
  rw [b9 hx hb pc] at z'
  refine z'.run _ _ _ _ hd1 hd0 fun wc => ?_
  have y' := q.ok P.X O.K (P.ρ ++ cs)
  rw [show AV.ref (aB (P.ρ ++ cs) i) = _ from b9 (v := .slot i) (s := s1) hi hb pc, z.A.D] at y'
  exact y'.run _ _ _ _ hd1 hd0 (k cs (hc.trans z.A.n.symm) (pb.trans pc)))⟩
theorem tu {o i e : Expr} {p pos : Pos} {op : Operator} {x y v : DV} (hs : bd i = true) (a : SV P o s x s1) (hb1 : x.bel (P.N s1) = true) (b : SV P i s1 y s2) (hb2 : y.bel (P.N s2) = true) (g : RK x y s2) (hx : g.v.bel (P.N s2) = true) (d : SV P e s2 v s3) (z : RB op g.v v s3) (q : RJ x y z.v z.s') : SX P (.AugAssign (.Subscript o i p) op e pos) s .next (z.s'.objs q.l) :=
 ⟨fun c => a.c (b.c (d.c (z.A.c c))), fun c as ha H Φ k => rt (a.run (b.c (d.c (z.A.c c))) as ha H _ fun wo bs hb pb => b.run (d.c (z.A.c c)) bs hb _ _ fun wi cs hc pc => by
  have g' := g.ok P.X (P.ρ ++ cs)
  rw [b9 hb1 hb pc] at g'
  refine g'.run _ _ _ _ hd1 hd0 fun wx => d.run (z.A.c c) cs hc _ _ fun wv ds hd pd => ?_
  have z' := (z.ok c P.X (s3.D.to (P.ρ ++ ds)) (P.ρ ++ ds)).2
  rw [b9 hx hc pd] at z'
  refine z'.run _ _ _ _ hd1 hd0 fun wc => ?_
  have y' := q.ok P.X (P.ρ ++ ds)
  rw [b9 hb1 hb (pc.trans pd), b9 hb2 hc pd, z.A.D] at y'
  exact y'.run _ _ _ _ _ (.tail _ (.tail _ (.head _))) hd1 hd0 (k ds (hd.trans z.A.n.symm) ((pb.trans pc).trans pd))) (xz hs)⟩
end
noncomputable section
noncomputable abbrev VR (P : Px) (e : Expr) (s : Sy) : Type := {p : DV × Sy // SV P e s p.1 p.2}
noncomputable abbrev TR (P : Px) (e : Expr) (s : Sy) : Type := {p : Bool × Sy // ST P e s p.1 p.2}
noncomputable abbrev XR (P : Px) (st : Stmt) (s : Sy) : Type := {p : DF × Sy // SX P st s p.1 p.2}
noncomputable abbrev GR (P : Px) (t : Expr) (v : DV) (s : Sy) : Type := {s' : Sy // SG P t v s s'}
noncomputable abbrev UR (P : Px) (e : Expr) (s : Sy) : Type := {d : AV // ∀ as, Ev P.X e (s.D.to (P.ρ ++ as)) d (s.D.to (P.ρ ++ as))}
structure Fns (P : Px) where
 pu : ∀ e s, Option (UR P e s)
 ev : ∀ e s, Option (VR P e s)
 te : ∀ e s, Option (TR P e s)
 ex : ∀ st s, Option (XR P st s)
section
variable {P : Px} (O : cZ P) (r : Fns P)
noncomputable def uM (d : AV) : Option {c : Bool // d = .bool c} := match d with
 | .bool c => some ⟨c, rfl⟩
 | _ => none
theorem mN {e : Expr} {s : Sy} {d d' : AV} (h : ∀ as, Ev P.X e (s.D.to (P.ρ ++ as)) d (s.D.to (P.ρ ++ as))) (q : d = d') (as : List Addr) : Ev P.X e (s.D.to (P.ρ ++ as)) d' (s.D.to (P.ρ ++ as)) := q ▸ h as
noncomputable def orU (es : List Expr) : ∀ s : Sy, Option {c : Bool // ∀ as, EvO P.X es (s.D.to (P.ρ ++ as)) (.bool c) (s.D.to (P.ρ ++ as))} := List.rec (fun _ => none)
 (fun e es ih s => ob (r.pu e s) fun a => ob (uM a.1) fun c => match es, ih with
  | [], _ => some ⟨c.1, fun ρ => sE (mN a.2 c.2 ρ)⟩
  | _ :: _, ih => ob (ih s) fun b => some ⟨c.1 || b.1, fun ρ => rR (mN a.2 c.2 ρ) (b.2 ρ)⟩) es
noncomputable def BG (es : List Expr) : ∀ s : Sy, Option {c : Bool // ∀ as, EvA P.X es (s.D.to (P.ρ ++ as)) (.bool c) (s.D.to (P.ρ ++ as))} := List.rec (fun _ => none)
 (fun e es ih s => ob (r.pu e s) fun a => ob (uM a.1) fun c => match es, ih with
  | [], _ => some ⟨c.1, fun ρ => mZ (mN a.2 c.2 ρ)⟩
  | _ :: _, ih => ob (ih s) fun b => some ⟨c.1 && b.1, fun ρ => nr (mN a.2 c.2 ρ) (b.2 ρ)⟩) es
noncomputable def Cj (es : List Expr) : ∀ s : Sy, Option {l : List AV // ∀ as, EvL P.X es (s.D.to (P.ρ ++ as)) l (s.D.to (P.ρ ++ as))} := List.rec (fun s => some ⟨[], fun ρ => aC⟩)
 (fun e es ih s => gd (bk e) fun hs => ob (r.pu e s) fun a => ob (ih s) fun b => some ⟨a.1 :: b.1, fun ρ => aq (a.2 ρ) (b.2 ρ) (gJ hs)⟩) es
theorem ky {op op' : CmpOp} {m x : Expr} {env : Env} (h : f8 x = true) : markedEach [op, op'] [m, x] (evalEach [m, x] env) = [eval m env, eval x env] := by
 show eval m env :: [markedBehindIn op' x (eval x env)] = _
 rw [markedBehindIn_of_false (jH h)]
noncomputable def Bk (l : Expr) (ops : List CmpOp) (ms : List Expr) (pos : Pos) (s : Sy) : Option (UR P (.Compare l ops ms pos) s) := match ops, ms with
 | [op], [m] => gd (f8 m) fun hs => ob (r.pu l s) fun a => ob (r.pu m s) fun b => ob (oB op a.1 b.1) fun z => some ⟨.bool z.r.val, fun ρ => qH (a.2 ρ) (b.2 ρ) (z.ok _ _) (jH hs)⟩
 | [op, op'], [m, x] => gd (f8 x) fun hs => ob (r.pu l s) fun a => ob (r.pu m s) fun b => ob (r.pu x s) fun y => ob (oB op a.1 b.1) fun z => ob (oB op' b.1 y.1) fun w => some ⟨.bool (z.r.val && w.r.val), fun ρ => nI (a.2 ρ) (b.2 ρ) (z.ok _ _) (y.2 ρ) (w.ok _ _) (ky hs)⟩
 | _, _ => none
noncomputable def BM (l : Expr) (op : Operator) (m : Expr) (pos : Pos) (s : Sy) : Option (UR P (.BinOp l op m pos) s) := ob (r.pu l s) fun a => ob (r.pu m s) fun b => match a, b with
 | ⟨.int i, ha⟩, ⟨.int j, hb⟩ => (match op with
  | .Add => some ⟨.int (i + j), fun ρ => fc (ha ρ) (hb ρ) i5⟩
  | .Sub => some ⟨.int (i - j), fun ρ => fc (ha ρ) (hb ρ) oM⟩
  | .Mod => gd (!(j == 0)) fun h => some ⟨.int (i.fmod j), fun ρ => fc (ha ρ) (hb ρ) (vc (by simpa using h))⟩
  | _ => none)
 | _, _ => none
noncomputable def zl (e : Expr) (s : Sy) : Option (UR P e s) := by
 induction e using Expr.casesOn with
 | Constant c k pos => exact ((match c with
  | .none => some ⟨.none, fun ρ => oG⟩
  | .int i => some ⟨.int i, fun ρ => cO⟩
  | .str x => some ⟨.str x.cps.toList, fun ρ => bu rfl⟩
  | _ => none))
 | Name x pos => exact (ob (vn O x s) fun v => (match v with
  | ⟨.av d, h⟩ => some ⟨d, fun ρ => h ρ pos⟩
  | _ => none))
 | BinOp l op m pos => exact (BM r l op m pos s)
 | Compare l ops ms pos => exact (Bk r l ops ms pos s)
 | BoolOp op es pos => exact ((match op with
  | .Or => ob (orU r es s) fun c => some ⟨.bool c.1, fun ρ => Cf (c.2 ρ)⟩
  | .And => ob (BG r es s) fun c => some ⟨.bool c.1, fun ρ => uV (c.2 ρ)⟩))
 | Tuple es k pos => exact (ob (Cj r es s) fun l => gd (Nat.ble l.1.length 16777216) fun hz => some ⟨.tup l.1, fun ρ => dH (l.2 ρ) (lB0 hz)⟩)
 | _ => exact none
theorem zU {e : Expr} {s : Sy} (u : UR P e s) : SV P e s (.av u.1) s := .of rfl id fun _ ρ => u.2 ρ
noncomputable def Ay (e : Expr) (s : Sy) : Option (VR P e s) := ob (r.pu e s) fun u => some ⟨(.av u.1, s), zU u⟩
noncomputable def evL (es : List Expr) : ∀ s, Option {p : List DV × Sy // SL P es s p.1 p.2} := List.rec (fun s => some ⟨([], s), yo⟩)
 (fun e es ih s => gd (bk e) fun hs => ob (r.ev e s) fun p => gd (p.1.1.bel (P.N p.1.2)) fun hb => ob (ih p.1.2) fun q => some ⟨(p.1.1 :: q.1.1, q.1.2), sd hs p.2 hb q.2⟩) es
noncomputable def At (k : Expr) : Option {x : Str // ∃ kk kp, some k = some (.Constant (.str x) kk kp)} := by
 induction k using Expr.casesOn with
 | Constant c kk kp =>
  induction c using Const.casesOn with
  | str x => exact some ⟨x, kk, kp, rfl⟩
  | _ => exact none
 | _ => exact none
noncomputable def Ck (k : Option Expr) : Option {x : Str // ∃ kk kp, k = some (.Constant (.str x) kk kp)} := Option.casesOn k none At
theorem wg {ks : List (Option Expr)} {e : Expr} {es : List Expr} {s s1 s' : Sy} {v : DV} {l : List (Str × DV)} {k : Option Expr} (x : {x : Str // ∃ kk kp, k = some (.Constant (.str x) kk kp)}) (a : SV P e s v s1) (hb : v.bel (P.N s1) = true) (b : SD P ks es s1 l s') : SD P (k :: ks) (e :: es) s ((x.1, v) :: l) s' := by
 obtain ⟨x, kk, kp, rfl⟩ := x
 exact uH a hb b
noncomputable def evD (ks : List (Option Expr)) : ∀ es s, Option {p : List (Str × DV) × Sy // SD P ks es s p.1 p.2} := List.rec
 (fun es s => match es with
  | [] => some ⟨([], s), x0⟩
  | _ => none)
 (fun k ks ih es s => match es with
  | e :: es => ob (Ck k) fun x => ob (r.ev e s) fun p => gd (p.1.1.bel (P.N p.1.2)) fun hb => ob (ih es p.1.2) fun q => some ⟨((x.1, p.1.1) :: q.1.1, q.1.2), wg x p.2 hb q.2⟩
  | _ => none) ks
noncomputable def evP (e : Option Expr) (s : Sy) : Option {p : DV × Sy // SP P e s p.1 p.2} := match e with
 | none => some ⟨(.av .none, s), ux⟩
 | some e => ob (r.ev e s) fun p => some ⟨p.1, uD p.2⟩
noncomputable def teA (es : List Expr) : ∀ s, Option {p : Bool × Sy // SA P .And es s p.1 p.2} := List.rec (fun s => some ⟨(true, s), tY⟩)
 (fun e es ih s => ob (r.te e s) fun p => match p with
  | ⟨(true, s1), h⟩ => ob (ih s1) fun q => some ⟨q.1, xQ h q.2⟩
  | ⟨(false, s1), h⟩ => some ⟨(false, s1), vU h⟩) es
noncomputable def teO (es : List Expr) : ∀ s, Option {p : Bool × Sy // SA P .Or es s p.1 p.2} := List.rec (fun s => some ⟨(false, s), sr⟩)
 (fun e es ih s => ob (r.te e s) fun p => match p with
  | ⟨(true, s1), h⟩ => some ⟨(true, s1), tX h⟩
  | ⟨(false, s1), h⟩ => ob (ih s1) fun q => some ⟨q.1, yq h q.2⟩) es
noncomputable def exB (ss : List Stmt) : ∀ s, Option {p : DF × Sy // SB P ss s p.1 p.2} := List.rec (fun s => some ⟨(.next, s), wr⟩)
 (fun st ss ih s => ob (r.ex st s) fun p => match p with
  | ⟨(.next, s1), h⟩ => ob (ih s1) fun q => some ⟨q.1, uB h q.2⟩
  | ⟨(.brk, s1), h⟩ => some ⟨(.brk, s1), vL h⟩
  | ⟨(.cont, s1), h⟩ => some ⟨(.cont, s1), sP h⟩
  | ⟨(.ret v, s1), h⟩ => some ⟨(.ret v, s1), yv h⟩) ss
noncomputable def uJ (e : Expr) (s : Sy) : Option (VR P e s) := match s.o with
 | .val k v D :: o => some ⟨(v, s.exE P e k v D o), zL⟩
 | _ => none
noncomputable def nu (st : Stmt) (s : Sy) : Option (XR P st s) := match s.o with
 | .stm k D :: o => some ⟨(.next, s.exS P st k D o), AI⟩
 | _ => none
noncomputable def AW (g : Addr) (vs : List DV) (s : Sy) : Option {p : DV × Sy // SK P g vs s p.1 p.2} := match s.o with
 | .call k v objs rest m :: o => gd (Nat.ble m P.X.n && (Nat.beq k 0 || qf (P.N s) s.D.loc)) fun h => some ⟨(v, s.cal P g vs k v objs rest m o), zI h⟩
 | _ => none
noncomputable def AZ (c : Ce) (vs : List DV) (s : Sy) : Option {p : DV × Sy // SC P c.val vs s p.1 p.2} := match c with
 | .fn g => ob (AW g vs s) fun p => some ⟨p.1, ya p.2⟩
 | .bl b => ob (Cd b vs s) fun p => some ⟨p.1, x9 p⟩
noncomputable def B4 (o : List cD) : Bool := match o with
 | .br _ :: _ => true
 | _ => false
structure SO (P : Px) (op : BoolOp) (es : List Expr) (s : Sy) (v : DV) (s' : Sy) : Prop where
 c : s'.c → s.c
 run : s'.c → ∀ as, as.length = s.n → ∀ pos (H : HL) (Φ : PV), (∀ w bs, bs.length = s'.n → as <+: bs → Φ w (v.to (P.ρ ++ bs)) (s'.D.to (P.ρ ++ bs))) → WV P.X.B P.X.n P.X.L (boolOp pos op (evalEach es P.X.env)) H (s.D.to (P.ρ ++ as)) Φ
theorem t8 {op : BoolOp} {e : Expr} {s s' : Sy} {v : DV} (a : SV P e s v s') : SO P op [e] s v s' := ⟨a.c, fun c as ha pos H Φ k => jt (a.run c as ha H Φ k)⟩
theorem wJ {op : BoolOp} {e e' : Expr} {es : List Expr} {s s1 : Sy} {v : DV} (a : SV P e s v s1) (t : RT v s1) (w : RD t.r t.s') (hw : w.b = (op == .Or)) : SO P op (e :: e' :: es) s v w.s' := by
 refine ⟨fun c => a.c (t.A.c (w.A.c c)), fun c as ha pos H Φ k => ?_⟩
 have hd : w.s'.D = s1.D := w.A.D.trans t.A.D
 have hn : w.s'.n = s1.n := w.A.n.trans t.A.n
 rw [hd] at k
 have key := fun (u : Value) bs (hbl : bs.length = s1.n) pb (hb : t.r.val = w.b) => k u bs (hbl.trans hn.symm) pb
 induction op using BoolOp.casesOn with
 | Or => exact qJ (a.run (t.A.c (w.A.c c)) as ha H _ fun u bs hbl pb => (t.ok (w.A.c c) _ _).run _ _ _ hd0 ⟨fun _ => k u bs (hbl.trans hn.symm) pb, fun q => by rw [w.ok c, hw] at q; exact Bool.noConfusion q⟩)
 | And => exact lh (a.run (t.A.c (w.A.c c)) as ha H _ fun u bs hbl pb => (t.ok (w.A.c c) _ _).run _ _ _ hd0 ⟨fun _ => k u bs (hbl.trans hn.symm) pb, fun q => by rw [w.ok c, hw] at q; exact Bool.noConfusion q⟩)
theorem Au {op : BoolOp} {e e' : Expr} {es : List Expr} {s s1 s' : Sy} {v v' : DV} (a : SV P e s v s1) (t : RT v s1) (w : RD t.r t.s') (hw : w.b = !(op == .Or)) (z : SO P op (e' :: es) w.s' v' s') : SO P op (e :: e' :: es) s v' s' := by
 refine ⟨fun c => a.c (t.A.c (w.A.c (z.c c))), fun c as ha pos H Φ k => ?_⟩
 have c2 := w.A.c (z.c c)
 have hd : w.s'.D = s1.D := w.A.D.trans t.A.D
 have hn : w.s'.n = s1.n := w.A.n.trans t.A.n
 have key := fun (H : HL) bs (hbl : bs.length = s1.n) (pb : as <+: bs) => z.run c bs (hbl.trans hn.symm) pos H Φ fun w cs hc pc => k w cs hc (pb.trans pc)
 rw [hd] at key
 induction op using BoolOp.casesOn with
 | Or => exact qJ (a.run (t.A.c c2) as ha H _ fun u bs hbl pb => (t.ok c2 _ _).run _ _ _ hd0 ⟨(fun q => by rw [w.ok (z.c c), hw] at q; exact Bool.noConfusion q), fun _ => key H bs hbl pb⟩)
 | And => exact lh (a.run (t.A.c c2) as ha H _ fun u bs hbl pb => (t.ok c2 _ _).run _ _ _ hd0 ⟨(fun q => by rw [w.ok (z.c c), hw] at q; exact Bool.noConfusion q), fun _ => key H bs hbl pb⟩)
theorem tw {op : BoolOp} {es : List Expr} {pos : Pos} {s s' : Sy} {v : DV} (a : SO P op es s v s') : SV P (.BoolOp op es pos) s v s' := ⟨a.c, fun c as ha H Φ k => jj (a.run c as ha pos H Φ k)⟩
noncomputable def C7 (op : BoolOp) (b : Bool) : Option (Sum (PLift (b = (op == .Or))) (PLift (b = !(op == .Or)))) := match op, b with
 | .Or, true => some (.inl ⟨rfl⟩)
 | .Or, false => some (.inr ⟨rfl⟩)
 | .And, true => some (.inr ⟨rfl⟩)
 | .And, false => some (.inl ⟨rfl⟩)
noncomputable def B5 (op : BoolOp) (es : List Expr) : ∀ s, Option {p : DV × Sy // SO P op es s p.1 p.2} := List.rec (fun _ => none)
 (fun e es ih s => ob (r.ev e s) fun a => match es, ih with
  | [], _ => some ⟨a.1, t8 a.2⟩
  | _ :: _, ih => ob (wV a.1.1 a.1.2) fun t => ob (sG t.r t.s') fun w => ob (C7 op w.b) fun o => match o with
   | .inl h => some ⟨(a.1.1, w.s'), wJ a.2 t w h.1⟩
   | .inr h => ob (ih w.s') fun z => some ⟨z.1, Au a.2 t w h.1 z.2⟩) es
noncomputable def zb (o : List cD) : Bool := match o with
 | .val .. :: _ => true
 | _ => false
noncomputable def Cr (v : DV) : Option {i : Nat // v = .slot i} := match v with
 | .slot i => some ⟨i, rfl⟩
 | _ => none
noncomputable def AN (op : CmpOp) (a b : DV) (s : Sy) : Option (RX P op a b s) := match s.o with
 | .cmp c :: o => some ⟨.is c, s.exC P op a b c o, ⟨rfl, rfl, And.left⟩, fun h as ha => g9 h.2 as ha P.X rfl⟩
 | _ => ob (Bi op a b) fun q => some ⟨q.r, s, .refl s, fun _ as _ => q.ok _ _ _⟩
noncomputable def sU (l : Expr) (ops : List CmpOp) (ms : List Expr) (pos : Pos) (s : Sy) : Option (VR P (.Compare l ops ms pos) s) := match ops, ms with
 | [op], [m] => gd (f8 m) fun hs => ob (r.ev l s) fun p => gd (p.1.1.bel (P.N p.1.2)) fun hb => ob (r.ev m p.1.2) fun q => ob (AN op p.1.1 q.1.1 q.1.2) fun z => some ⟨(.av (.bool z.r.val), z.s'), wU hs p.2 hb q.2 z⟩
 | _, _ => Ay r _ s
noncomputable def Bv (a i : DV) (s : Sy) : Option (RY P a i s) := match s.o with
 | .itm d :: o => some ⟨.av d, s.exI P a i d o, ⟨rfl, rfl, And.left⟩, fun h as ha => g9 h.2 as ha P.X rfl⟩
 | _ => ob (BI a i s) fun q => some ⟨q.v, q.s', q.A, fun h as _ e1 e2 hs => q.ok h _ _ e1 e2 hs⟩
noncomputable def Ch (e : Expr) (lo hi st : Option Expr) (p pos : Pos) (s : Sy) : Option (VR P (.Subscript e (.Slice lo hi st p) pos) s) := match st with
 | .none => ob (r.ev e s) fun a => (match a with
  | ⟨(.av (.str x), s1), ha⟩ => ob (evP r lo s1) fun b => (match b with
   | ⟨(.av d1, s2), hb⟩ => ob (evP r hi s2) fun d => (match d with
    | ⟨(.av d2, s3), hd⟩ => obe (fZ d1) fun i e1 => obe (fZ d2) fun j e2 => some ⟨(.av (.str (sl x i j)), s3.need (x.length ≤ 16777216)), rG ha hb hd e1 e2⟩
    | _ => none)
   | _ => none)
  | _ => none)
 | _ => none
noncomputable def C5 (e i : Expr) (pos : Pos) (s : Sy) : Option (VR P (.Subscript e i pos) s) := gd (bd i) fun hs => ob (r.ev e s) fun p => gd (p.1.1.bel (P.N p.1.2)) fun hb => ob (r.ev i p.1.2) fun q => ob (Bv p.1.1 q.1.1 q.1.2) fun z => some ⟨(z.v, z.s'), xU hs p.2 hb q.2 z⟩
noncomputable def sZ (e i : Expr) (pos : Pos) (s : Sy) : Option (VR P (.Subscript e i pos) s) := by
 induction i using Expr.casesOn with
 | Slice lo hi st p => exact Ch r e lo hi st p pos s
 | _ => exact C5 r e _ pos s
noncomputable def AS (e : Expr) (a : Str) (ap : Pos) (es : List Expr) (pos : Pos) (s : Sy) : Option (VR P (.Call (.Attribute e a ap) es [] pos) s) := gd (eA e && kt bk es && Nat.blt es.length 30 && (ap.endLine == pos.line)) fun hs => ob (r.ev e s) fun x => ob (BL O x.1.1 a x.1.2) fun m => (match m with
 | .own g i q hf => gd (Nat.blt i (P.N x.1.2)) fun hi => ob (evL r es x.1.2) fun b => ob (AW g (.slot i :: b.1.1) b.1.2) fun w => some ⟨w.1, xM hs x.2 hi q hf b.2 w.2⟩
 | .cls f q => gd (x.1.1.bel (P.N x.1.2)) fun hb => ob (evL r es x.1.2) fun b => ob (AZ f (x.1.1 :: b.1.1) b.1.2) fun w => some ⟨w.1, tc hs x.2 hb q b.2 w.2⟩)
noncomputable def pA (f : Expr) (es : List Expr) (kw : List Keyword) (pos : Pos) (s : Sy) : Option (VR P (.Call f es kw pos) s) := match kw with
 | [] => by
  induction f using Expr.casesOn with
  | Attribute e a ap => exact AS O r e a ap es pos s
  | Name x xp => exact gd (kt bk es) fun hs => ob (BZ O x) fun f => ob (evL r es s) fun b => ob (AZ f.1 b.1.1 b.1.2) fun w => some ⟨w.1, sB hs f.2 b.2 w.2⟩
  | _ => exact uJ _ s
 | _ => uJ _ s
theorem fG {c : Const} {d : AV} {k pos} {s : Sy} (h : ∀ σ, Ev P.X (.Constant c k pos) σ d σ) : SV P (.Constant c k pos) s (.av d) s := .of rfl id fun _ _ => h _
noncomputable def Aa (c : Const) (k : Nat) (pos : Pos) (s : Sy) : Option (VR P (.Constant c k pos) s) := match c with
 | .none => some ⟨(.av .none, s), fG fun _ => oG⟩
 | .bool b => some ⟨(.av (.bool b), s), fG fun _ => rp⟩
 | .int i => some ⟨(.av (.int i), s), fG fun _ => cO⟩
 | .str x => some ⟨(.av (.str x.cps.toList), s), fG fun _ => bu rfl⟩
 | _ => none
theorem sj {x : Str} {pos : Pos} {s : Sy} (v : NmR P x s) : SV P (.Name x pos) s v.1 s := .of rfl id fun _ ρ => v.2 ρ pos
noncomputable def za (e : Expr) (s : Sy) : Option (VR P e s) := by
 induction e using Expr.casesOn with
 | Constant c k pos => exact (Aa c k pos s)
 | Name x pos => exact (ob (vn O x s) fun v => some ⟨(v.1, s), sj v⟩)
 | Attribute e a pos => exact (gd (eA e) fun hs => ob (r.ev e s) fun p => (match p with
  | ⟨(.slot i, s1), h⟩ => ob (yT P.K i a s1) fun g => some ⟨(g.v, s1), rU O hs h g⟩
  | _ => none))
 | Compare l ops ms pos => exact (sU r l ops ms pos s)
 | BinOp l op m pos => exact (ob (r.ev l s) fun p => gd (p.1.1.bel (P.N p.1.2)) fun hb => ob (r.ev m p.1.2) fun q => ob (u6 op p.1.1 q.1.1 q.1.2) fun z => some ⟨(z.v, z.s'), wE p.2 hb q.2 z⟩)
 | UnaryOp op e pos => exact ((match op with
  | .Not => ob (r.ev e s) fun p => ob (wV p.1.1 p.1.2) fun t => some ⟨(.av (.bool !t.r.val), t.s'), yb p.2 t⟩
  | .USub => ob (r.ev e s) fun p => (match p with
   | ⟨(.av (.int i), s1), h⟩ => some ⟨(.av (.int (-i)), s1), vM h⟩
   | _ => none)
  | _ => none))
 | IfExp t x y pos => exact (ob (r.te t s) fun p => (match p with
  | ⟨(true, s1), h⟩ => ob (r.ev x s1) fun w => some ⟨w.1, wB h w.2⟩
  | ⟨(false, s1), h⟩ => ob (r.ev y s1) fun w => some ⟨w.1, wQ h w.2⟩))
 | Tuple es k pos => exact (ob (evL r es s) fun p => obe (ik p.1.1) fun l q => gd (Nat.ble l.length 16777216) fun hz => some ⟨(.av (.tup l), p.1.2), xH p.2 q hz⟩)
 | List es pos => exact (ob (evL r es s) fun p => gd (Nat.ble p.1.1.length 16777216 && p.1.1.all (DV.bel (P.N p.1.2)) && p.1.2.D.bel (P.N p.1.2)) fun hz => some ⟨(.slot (P.N p.1.2), p.1.2.new P (.list [] p.1.1)), ta p.2 hz⟩)
 | Dict ks es pos => exact (ob (evD r ks es s) fun p => obe (gX p.1.1) fun l q => gd (cu (l.map (·.1)) && Nat.ble 1 p.1.1.length && Nat.ble es.length 15) fun hz => some ⟨(.av (.dct l), p.1.2), tJ p.2 q hz⟩)
 | Subscript e i pos => exact (sZ r e i pos s)
 | BoolOp op es pos => exact (Bool.casesOn (B4 s.o) (Ay r (.BoolOp op es pos) s) (ob (B5 r op es s) fun p => some ⟨p.1, tw p.2⟩))
 | Call f es kw pos => exact (Bool.casesOn (zb s.o) (pA O r f es kw pos s) (uJ _ s))
 | _ => exact uJ _ s
noncomputable def zF (e : Expr) (s : Sy) : Option (TR P e s) := gd (pL e) fun hs => ob (r.ev e s) fun p => ob (wV p.1.1 p.1.2) fun t => ob (sG t.r t.s') fun w => some ⟨(w.b, w.s'), wm hs p.2 t w⟩
theorem tL {l m x : Expr} {op op' : CmpOp} {pos : Pos} {s : Sy} (hs : f8 x = true) (a : UR P l s) (b : UR P m s) (y : UR P x s) (z : RA op a.1 b.1) (w : RA op' b.1 y.1) (d : RD (.is (z.r.val && w.r.val)) s) : ST P (.Compare l [op, op'] [m, x] pos) s d.b d.s' :=
 ⟨d.A.c, fun c as ha H Φ k => kX ((a.2 _).run _ _ fun _ => (b.2 _).run _ _ fun _ => (z.ok _ _).run _ _ _ _ hd1 hd0 fun _ => ⟨_, rfl, _, (y.2 _).run _ _ fun _ => (w.ok _ _).run _ _ _ _ hd1 hd0 fun _ => ⟨rfl, rfl⟩, by
  have e : (z.r.val && w.r.val) = d.b := d.ok c
  have k' := k as (ha.trans d.A.n.symm) (List.prefix_refl _)
  rw [d.A.D, ← e] at k'
  exact k'⟩) (ky hs)⟩
noncomputable def Bs (l : Expr) (ops : List CmpOp) (ms : List Expr) (pos : Pos) (s : Sy) : Option (TR P (.Compare l ops ms pos) s) := match ops, ms with
 | [op], [m] => gd (f8 m) fun hs => ob (r.ev l s) fun p => gd (p.1.1.bel (P.N p.1.2)) fun hb => ob (r.ev m p.1.2) fun q => ob (AN op p.1.1 q.1.1 q.1.2) fun z => ob (sG z.r z.s') fun w => some ⟨(w.b, w.s'), yN hs p.2 hb q.2 z w⟩
 | [op, op'], [m, x] => gd (f8 x) fun hs => ob (r.pu l s) fun a => ob (r.pu m s) fun b => ob (r.pu x s) fun y => ob (oB op a.1 b.1) fun z => ob (oB op' b.1 y.1) fun w => ob (sG (.is (z.r.val && w.r.val)) s) fun d => some ⟨(d.b, d.s'), tL hs a b y z w d⟩
 | _, _ => none
noncomputable def AL (op : BoolOp) (es : List Expr) (pos : Pos) (s : Sy) : Option (TR P (.BoolOp op es pos) s) := match es with
 | e :: es => (match op with
  | .And => ob (teA r (e :: es) s) fun p => some ⟨p.1, ww p.2⟩
  | .Or => ob (teO r (e :: es) s) fun p => some ⟨p.1, zX p.2⟩)
 | _ => none
noncomputable def zg (e : Expr) (s : Sy) : Option (TR P e s) := by
 induction e using Expr.casesOn with
 | UnaryOp op e pos => exact ((match op with
  | .Not => ob (r.te e s) fun p => some ⟨(!p.1.1, p.1.2), xI p.2⟩
  | op => zF r (.UnaryOp op e pos) s))
 | BoolOp op es pos => exact (AL r op es pos s)
 | Compare l ops ms pos => exact (Bs r l ops ms pos s)
 | _ => exact zF r _ s
noncomputable def sX (t : Expr) (v : DV) (s : Sy) : Option (GR P t v s) := by
 induction t using Expr.casesOn with
 | Name x p => exact (Bool.casesOn (motive := fun b => j6 (P.X.env.kindOf x) = b → Option (GR P (.Name x p) v s)) (j6 (P.X.env.kindOf x)) (fun _ => gd (gD (P.X.env.kindOf x)) fun hl => obe (oA x v s.D.loc) fun l q => some ⟨_, tF O hl q⟩)
  (fun hl => obe (cc x P.cl) fun i e0 => obe (ba i s.D.objs) fun o q => match o, q with
   | .cell w, q => some ⟨_, uv O hl e0 q⟩
   | _, _ => none) rfl)
 | Attribute e a p => exact (ob (r.ev e s) fun h => gd (Nat.beq h.1.2.n s.n) fun hn => (match h, hn with
  | ⟨(.slot i, s1), h⟩, hn => ob (zW P.K i a v s1) fun q => some ⟨s1.objs q.l, su O h hn q⟩
  | _, _ => none))
 | _ => exact none
noncomputable def Ci (o i e : Expr) (p pos : Pos) (s : Sy) : Option (XR P (.Assign [.Subscript o i p] e pos) s) := gd (dJ e) fun hs => ob (r.ev e s) fun a => gd (a.1.1.bel (P.N a.1.2)) fun hb1 => ob (r.ev o a.1.2) fun b => gd (b.1.1.bel (P.N b.1.2)) fun hb2 => ob (r.ev i b.1.2) fun d => ob (yV b.1.1 d.1.1 a.1.1 d.1.2) fun q => some ⟨(.next, d.1.2.objs q.l), uh hs a.2 hb1 b.2 hb2 d.2 q⟩
noncomputable def C0 (t1 t2 : Expr) (kk : Nat) (p : Pos) (e : Expr) (pos : Pos) (s : Sy) : Option (XR P (.Assign [.Tuple [t1, t2] kk p] e pos) s) := gd (dJ e && rg e && bk t1 && bk t2) fun hs => ob (r.ev e s) fun a => match a with
 | ⟨(.av (.tup [d1, d2]), s1), h⟩ => ob (sX O r t1 (.av d1) s1) fun b => ob (sX O r t2 (.av d2) b.1) fun d => some ⟨(.next, d.1), u8 hs h b.2 d.2⟩
 | _ => none
noncomputable def BW (t : Expr) (ks : List (Option Expr)) (es : List Expr) (dp pos : Pos) (s : Sy) : Option (XR P (.Assign [t] (.Dict ks es dp) pos) s) := ob (evD r ks es s) fun p => gd (cu (p.1.1.map (·.1)) && Nat.ble 1 p.1.1.length && Nat.ble es.length 15 && (p.1.1.all fun q => q.2.bel (P.N p.1.2)) && p.1.2.D.bel (P.N p.1.2)) fun hz => ob (sX O r t (.slot (P.N p.1.2)) (p.1.2.new P (.dict p.1.1))) fun b => some ⟨(.next, b.1), tn p.2 hz b.2⟩
noncomputable def C6 (t e : Expr) (pos : Pos) (s : Sy) : Option (XR P (.Assign [t] e pos) s) := gd (dJ e) fun hs => ob (r.ev e s) fun a => ob (sX O r t a.1.1 a.1.2) fun b => some ⟨(.next, b.1), vC hs a.2 b.2⟩
noncomputable def BD (t e : Expr) (pos : Pos) (s : Sy) : Option (XR P (.Assign [t] e pos) s) := by
 induction e using Expr.casesOn with
 | Dict ks es dp => exact BW O r t ks es dp pos s
 | ListComp => exact nu _ s
 | _ => exact C6 O r t _ pos s
noncomputable def Bj (t e : Expr) (pos : Pos) (s : Sy) : Option (XR P (.Assign [t] e pos) s) := by
 induction t using Expr.casesOn with
 | Tuple ts kk p => exact (match ts with
  | [t1, t2] => C0 O r t1 t2 kk p e pos s
  | _ => nu _ s)
 | Subscript o i p => exact Ci r o i e p pos s
 | _ => exact BD O r _ e pos s
noncomputable def BJ (ts : List Expr) (e : Expr) (pos : Pos) (s : Sy) : Option (XR P (.Assign ts e pos) s) := match ts with
 | [t] => Bj O r t e pos s
 | _ => nu _ s
noncomputable def Ca (t : Expr) (op : Operator) (e : Expr) (pos : Pos) (s : Sy) : Option (XR P (.AugAssign t op e pos) s) := by
 induction t using Expr.casesOn with
 | Name x p => exact (gd (gD (P.X.env.kindOf x)) fun hl => obe (two (cc x s.D.loc)) fun a e0 => gd (a.bel (P.N s)) fun hb => ob (r.ev e s) fun h => ob (u6 op a h.1.1 h.1.2) fun z => obe (oA x z.v z.s'.D.loc) fun l q => some ⟨(.next, _), wI O hl e0 hb h.2 z q⟩)
 | Attribute o a p => exact (ob (r.ev o s) fun h => (match h with
  | ⟨(.slot i, s1), h⟩ => gd (Nat.blt i (P.N s1)) fun hi => ob (yT P.K i a s1) fun g => gd (g.v.bel (P.N s1)) fun hx => ob (r.ev e s1) fun b => ob (u6 op g.v b.1.1 b.1.2) fun z => ob (zW P.K i a z.v z.s') fun q => some ⟨(.next, z.s'.objs q.l), sw O h hi g hx b.2 z q⟩
  | _ => none))
 | Subscript o i p => exact (gd (bd i) fun hs => ob (r.ev o s) fun a => gd (a.1.1.bel (P.N a.1.2)) fun hb1 => ob (r.ev i a.1.2) fun b => gd (b.1.1.bel (P.N b.1.2)) fun hb2 => ob (BY a.1.1 b.1.1 b.1.2) fun g => gd (g.v.bel (P.N b.1.2)) fun hx => ob (r.ev e b.1.2) fun d => ob (u6 op g.v d.1.1 d.1.2) fun z => ob (yV a.1.1 b.1.1 z.v z.s') fun q => some ⟨(.next, z.s'.objs q.l), tu hs a.2 hb1 b.2 hb2 g hx d.2 z q⟩)
 | _ => exact none
noncomputable def Bg (t : Expr) (body : List Stmt) (k : Nat) : ∀ s : Sy, Option {s' : Sy // SW P t body s s'} := Nat.rec (fun _ => none)
 (fun _ ih s => ob (r.te t s) fun p => match p with
  | ⟨(false, s1), h⟩ => some ⟨s1, vG h⟩
  | ⟨(true, s1), h⟩ => ob (exB r body s1) fun w => match w with
   | ⟨(.next, s2), b⟩ => ob (ih s2) fun z => some ⟨z.1, uR (.inl rfl) h b z.2⟩
   | ⟨(.cont, s2), b⟩ => ob (ih s2) fun z => some ⟨z.1, uR (.inr rfl) h b z.2⟩
   | ⟨(.brk, s2), b⟩ => some ⟨s2, wO h b⟩
   | _ => none) k
noncomputable def Aq (o : List cD) : Bool := match o with
 | .stm .. :: _ => true
 | _ => false
noncomputable def C9 (t : Expr) (body orelse : List Stmt) (pos : Pos) (s : Sy) : Option (XR P (.While t body orelse pos) s) := match orelse with
 | [] => Bool.casesOn (Aq s.o) (ob (Bg r t body 20 s) fun z => some ⟨(.next, z.1), pj z.2⟩) (nu _ s)
 | _ => nu _ s
noncomputable def zT (st : Stmt) (s : Sy) : Option (XR P st s) := by
 induction st using Stmt.casesOn with
 | Pass _ => exact (some ⟨(.next, s), so⟩)
 | Break _ => exact (some ⟨(.brk, s), vJ⟩)
 | Continue _ => exact (some ⟨(.cont, s), sH⟩)
 | Return o _ => exact ((match o with
  | none => some ⟨(.ret (.av .none), s), sV⟩
  | some e => ob (r.ev e s) fun p => some ⟨(.ret p.1.1, p.1.2), yG p.2⟩))
 | If t x y _ => exact (ob (r.te t s) fun p => (match p with
  | ⟨(true, s1), h⟩ => ob (exB r x s1) fun w => some ⟨w.1, yd h w.2⟩
  | ⟨(false, s1), h⟩ => ob (exB r y s1) fun w => some ⟨w.1, w9 h w.2⟩))
 | Expr e _ => exact (gd (dJ e) fun hs => ob (r.ev e s) fun p => some ⟨(.next, p.1.2), tm O hs p.2⟩)
 | Assert t _ _ => exact (ob (r.te t s) fun p => (match p with
  | ⟨(true, s1), h⟩ => some ⟨(.next, s1), nV h⟩
  | _ => none))
 | Assign ts e pos => exact (BJ O r ts e pos s)
 | AugAssign t op e pos => exact (Ca O r t op e pos s)
 | While t body orelse pos => exact (C9 r t body orelse pos s)
 | _ => exact nu _ s
end
noncomputable def f7 {P : Px} (O : cZ P) (k : Nat) : Fns P := Nat.rec ⟨fun _ _ => none, fun _ _ => none, fun _ _ => none, fun _ _ => none⟩ (fun _ r => ⟨zl O r, za O r, zg r, zT O r⟩) k
noncomputable def ri {P : Px} (O : cZ P) (ss : List Stmt) (D : DS) (hints : List cD) : Option (DF × Sy) := ob (exB (f7 O 60) ss ⟨D, 0, hints, True⟩) fun p => some p.1
noncomputable def xo {P : Px} (O : cZ P) (e : Expr) (D : DS) (hints : List cD) : Option (Bool × Sy) := ob ((f7 O 60).te e ⟨D, 0, hints, True⟩) fun p => some p.1
noncomputable def vO {P : Px} (O : cZ P) (e : Expr) (D : DS) (hints : List cD) : Option (DV × Sy) := ob ((f7 O 60).ev e ⟨D, 0, hints, True⟩) fun p => some p.1
theorem kR {P : Px} (O : cZ P) {ss : List Stmt} {D D' : DS} {hints o : List cD} {q : Prop} {k : Nat} {f : DF} (hq : q) (e : ri O ss D hints = some (f, ⟨D', k, o, q⟩)) : bB P.X ss (D.to P.ρ) fun fl σ' => exX k fun bs => fl = f.to (P.ρ ++ bs) ∧ σ' = D'.to (P.ρ ++ bs) := by
 unfold ri at e
 induction h : exB (f7 O 60) ss ⟨D, 0, hints, True⟩ using Option.casesOn with
 | none => rw [h] at e; contradiction
 | some p =>
  rw [h] at e
  obtain ⟨⟨f', s'⟩, w⟩ := p
  cases e
  exact ⟨fun H Φ k => List.append_nil P.ρ ▸ w.run hq [] rfl H Φ fun bs hl _ => k _ _ (p8 hl ⟨rfl, rfl⟩)⟩
theorem nD {P : Px} (O : cZ P) {ss : List Stmt} {D D' : DS} {hints o : List cD} {q : Prop} {f : DF} (hq : q) (e : ri O ss D hints = some (f, ⟨D', 0, o, q⟩)) : ExB P.X ss (D.to P.ρ) (f.to P.ρ) (D'.to P.ρ) :=
 ⟨fun H Φ k => (kR O hq e).run H Φ fun fl σ' h => by
  obtain ⟨h1, h2⟩ : fl = f.to (P.ρ ++ []) ∧ σ' = D'.to (P.ρ ++ []) := h
  rw [List.append_nil] at h1 h2
  rw [h1, h2]; exact k⟩
theorem qA {P : Px} (O : cZ P) {e : Expr} {D D' : DS} {hints o : List cD} {q : Prop} {b : Bool} (hq : q) (h : xo O e D hints = some (b, ⟨D', 0, o, q⟩)) : Te P.X e (D.to P.ρ) b (D'.to P.ρ) := by
 unfold xo at h
 induction h' : (f7 O 60).te e ⟨D, 0, hints, True⟩ using Option.casesOn with
 | none => rw [h'] at h; contradiction
 | some p =>
  rw [h'] at h
  obtain ⟨⟨b', s'⟩, w⟩ := p
  cases h
  exact ⟨fun H Φ k => List.append_nil P.ρ ▸ w.run hq [] rfl H Φ fun bs hl _ => List.eq_nil_of_length_eq_zero hl ▸ (List.append_nil P.ρ).symm ▸ k⟩
theorem qU {P : Px} (O : cZ P) {e : Expr} {D D' : DS} {hints o : List cD} {q : Prop} {v : DV} (hq : q) (h : vO O e D hints = some (v, ⟨D', 0, o, q⟩)) : Ev P.X e (D.to P.ρ) (v.to P.ρ) (D'.to P.ρ) := by
 unfold vO at h
 induction h' : (f7 O 60).ev e ⟨D, 0, hints, True⟩ using Option.casesOn with
 | none => rw [h'] at h; contradiction
 | some p =>
  rw [h'] at h
  obtain ⟨⟨b', s'⟩, w⟩ := p
  cases h
  exact ⟨fun H Φ k => List.append_nil P.ρ ▸ w.run hq [] rfl H Φ fun u bs hl _ => List.eq_nil_of_length_eq_zero hl ▸ (List.append_nil P.ρ).symm ▸ k u⟩
structure Out where
 c : Prop
 k : Nat
 v : DV
 objs : List (Nat × DO)
 rest : OL
noncomputable def pQ (f : DF) (s : Sy) : Option Out := match f with
 | .ret v => some ⟨s.c, s.n, v, s.D.objs, s.D.rest⟩
 | .next => some ⟨s.c, s.n, .av .none, s.D.objs, s.D.rest⟩
 | _ => none
noncomputable def nE (ps : List Str) (ds : List DV) (xs : List Str) : List (Str × Option DV) := (ps.zip ds).map (fun p => (p.1, some p.2)) ++ xs.map (·, none)
theorem ul {ρ : List Addr} {xs : List Str} {ps : List Str} : ∀ {ds : List DV}, cM ρ (nE ps ds xs) = bL ps (tos ρ ds) ++ bare xs := by
 have hb : cM ρ (xs.map (·, none)) = bare xs := by rw [cM, List.map_map]; rfl
 induction ps with
 | nil => exact hb
 | cons p ps ih =>
  intro ds
  induction ds using List.casesOn with
  | nil => exact hb
  | cons d ds => exact congrArg (List.cons _) ih
noncomputable def kG (scope : Scope) : Bool := (match scope.kind with | .function => true | _ => false) && !scope.isCoroutine && !scope.isGenerator
noncomputable def fD (scope : Scope) : Bool := scope.names.all fun x => match x.2 with | .cell => false | _ => true
theorem d6 {scope : Scope} (h : kG scope = true) : scope.kind = .function ∧ scope.isCoroutine = false ∧ scope.isGenerator = false := by
 have h1 := ax (ax h)
 refine ⟨?_, by simpa using aJ (ax h), by simpa using aJ h⟩
 cases q : scope.kind <;> first | rfl | (rw [q] at h1; exact Bool.noConfusion h1)
theorem lP {scope : Scope} (h : fD scope = true) : ∀ x ∈ scope.names, x.2 ≠ .cell := fun x hx e => by
 have := List.all_eq_true.mp h x hx
 rw [e] at this
 exact Bool.noConfusion this
theorem tP {α : Type u} {β : Type v} {o : Option α} {f : α → Option β} {y : β} (e : ob o f = some y) : ∃ x, f x = some y := by
 induction o using Option.casesOn with
 | none => exact nomatch e
 | some x => exact ⟨x, e⟩
theorem ui {fl : DF} {s : Sy} {o : Out} (e : pQ fl s = some o) : (fl = .ret o.v ∨ fl = .next ∧ .av .none = o.v) ∧ o.c = s.c ∧ s.n = o.k ∧ s.D.objs = o.objs ∧ s.D.rest = o.rest := by
 cases fl with
 | ret v => cases Option.some.inj e; exact ⟨.inl rfl, rfl, rfl, rfl, rfl⟩
 | next => cases Option.some.inj e; exact ⟨.inr ⟨rfl, rfl⟩, rfl, rfl, rfl, rfl⟩
 | brk => exact nomatch e
 | cont => exact nomatch e
theorem xt {ρ : List Addr} {a b : List (Nat × DO)} {r r' : OL} (e1 : a = b) (e2 : r = r') : a8 ρ r a = a8 ρ r' b := by rw [e1, e2]
theorem zu {B : ab} {n : Nat} {name qual : Str} {params : Arguments} {body : List Stmt} {scope : Scope} {dV kV doc pm cdv ct oc : Value} {an od : Option Addr} {osl : Array (Option Value)} {f : Addr} {args : List AV} {Φ : AV → OL → Prop} {objs : OL} {K : Frag} {gl : List (Addr × AV)}
 {u : Out} (ps xs : List Str) (ρ : List Addr) (ds : List DV) (os : List (Nat × DO)) (rest : OL) (hints : List cD)
 (hK : B.K = K) (hgl : ∀ p ∈ gl, aW B (.ref p.1) p.2) (ho : K.lookup f = some ⟨oc, od, .func (fnOf name qual params body scope dV kV doc pm an cdv ct), osl⟩)
 (hb : bm B (fnOf name qual params body scope dV kV doc pm an cdv ct) ps args (tos ρ ds)) (hq : u.c) (hΦ : ∀ d o, exX u.k (fun bs => d = u.v.to (ρ ++ bs) ∧ o = a8 (ρ ++ bs) u.rest u.objs) → Φ d o)
 (ck : (codeIn K cdv qual && fD scope && cu (ps ++ xs) && ps.all (fun y => scope.names.lookup y == some .local) && Nat.beq ps.length ds.length) = true) (fu : kG scope = true) (eo : a8 ρ rest os = objs)
 (e : ∀ L, (ob (exB (f7 (P := ⟨⟨B, n, L, envOf qual scope L f cdv⟩, K, ρ, gl, []⟩) ⟨hK, (d6 fu).1, rfl, rfl, rfl, hgl, nofun⟩ 60) body ⟨⟨nE ps ds xs, os, rest⟩, 0, hints, True⟩) fun p => pQ p.1.1 p.1.2) = some u) : aa B (n + 1) f args objs Φ := by
 subst eo hK
 refine rT ps xs ho (ax (ax (ax (ax ck)))) hb (fun L => ?_) rfl rfl ul.symm ?_ (aP (aJ (ax (ax ck)))) (aJ (ax ck)) (d6 fu).2.1 (d6 fu).2.2 (d6 fu).1 (lP (aJ (ax (ax (ax ck)))))
 · obtain ⟨p, e⟩ := tP (e L)
   have z := ui e
   show WF B n L (execs body (envOf qual scope L f cdv)) [] (DS.to ρ ⟨nE ps ds xs, os, rest⟩) _
   rw [← List.append_nil ρ]
   refine p.2.run (z.2.1 ▸ hq) [] rfl [] _ fun bs hl _ => ?_
   have w := fun d (h : d = u.v.to (ρ ++ bs)) => hΦ d _ (p8 (hl.trans z.2.2.1) ⟨h, xt z.2.2.2.1 z.2.2.2.2⟩)
   rcases z.1 with h | h
   · rw [h]; exact w _ rfl
   · rw [h.1]; exact w _ (congrArg (DV.to (ρ ++ bs)) h.2)
 · rw [tos, List.length_map]; exact Nat.eq_of_beq_eq_true (aJ ck)
theorem nS {B : ab} {n : Nat} {name qual : Str} {params : Arguments} {body : List Stmt} {scope : Scope} {dV kV doc pm cdv ct oc : Value} {an od : Option Addr} {osl : Array (Option Value)} {f : Addr} {args : List AV} {Φ : AV → OL → Prop} {objs : OL} {K : Frag} {gl : List (Addr × AV)}
 {k : Nat} {v : DV} {objs' : List (Nat × DO)} {rest' : OL} {q : Prop} (ps xs : List Str) (ρ : List Addr) (ds : List DV) (os : List (Nat × DO)) (rest : OL) (hints : List cD)
 (hK : B.K = K) (hgl : ∀ p ∈ gl, aW B (.ref p.1) p.2) (ho : K.lookup f = some ⟨oc, od, .func (fnOf name qual params body scope dV kV doc pm an cdv ct), osl⟩)
 (hb : bm B (fnOf name qual params body scope dV kV doc pm an cdv ct) ps args (tos ρ ds)) (hq : q) (hΦ : ∀ d o, exX k (fun bs => d = v.to (ρ ++ bs) ∧ o = a8 (ρ ++ bs) rest' objs') → Φ d o)
 (ck : (codeIn K cdv qual && fD scope && cu (ps ++ xs) && ps.all (fun y => scope.names.lookup y == some .local) && Nat.beq ps.length ds.length) = true) (fu : kG scope = true) (eo : a8 ρ rest os = objs)
 (e : ∀ L, (ob (exB (f7 (P := ⟨⟨B, n, L, envOf qual scope L f cdv⟩, K, ρ, gl, []⟩) ⟨hK, (d6 fu).1, rfl, rfl, rfl, hgl, nofun⟩ 60) body ⟨⟨nE ps ds xs, os, rest⟩, 0, hints, True⟩) fun p => pQ p.1.1 p.1.2) = some ⟨q, k, v, objs', rest'⟩) : aa B (n + 1) f args objs Φ :=
 zu (u := ⟨q, k, v, objs', rest'⟩) ps xs ρ ds os rest hints hK hgl ho hb hq hΦ ck fu eo e
end
end
section
set_option genInjectivity false
variable {X : Cx} {cl : List (Str × Nat)} {σ σ' : St} {t : Expr} {st : Stmt}
structure IsB (B : ab) : Prop where
 K : B.K = eC B.P
noncomputable def jB : FL := [("Doctype", .int 0), ("Characters", .int 1), ("SpaceCharacters", .int 2), ("StartTag", .int 3), ("EndTag", .int 4), ("EmptyTag", .int 5), ("Comment", .int 6), ("ParseError", .int 7)]
theorem jn (hB : IsB B) : aW B (.ref 48) (.dct jB) := by
 obtain ⟨es, m, h, ok, e⟩ : ∃ es m, B.K.lookup 48 = some (dictOf es m) ∧ jk B.P es ∧ fM es = jB := by
  rw [hB.K]
  refine ⟨_, _, rfl, ?_, rfl⟩
  exact ⟨⟨_, _, rfl, rfl⟩, ⟨_, _, rfl, rfl⟩, ⟨_, _, rfl, rfl⟩, ⟨_, _, rfl, rfl⟩, ⟨_, _, rfl, rfl⟩, ⟨_, _, rfl, rfl⟩, ⟨_, _, rfl, rfl⟩, ⟨_, _, rfl, rfl⟩, trivial⟩
 exact oT h ok e (aP (by kernel_rfl))
noncomputable def aQ : List (List Nat) := [[9], [10], [12], [32], [13]]
theorem l9 (hB : IsB B) : aW B (.ref 22) (.tup (aQ.map .str)) := kh (by rw [hB.K]; rfl) rfl
noncomputable def eQ : List (List Nat) := ((List.range' 97 26) ++ (List.range' 65 26)).map fun c => [c]
theorem kM (hB : IsB B) : aW B (.ref 27) (.tup (eQ.map .str)) := kh (by rw [hB.K]; rfl) rfl
noncomputable abbrev glT : List (Addr × AV) := [(48, .dct jB), (22, .tup (aQ.map .str)), (27, .tup (eQ.map .str))]
theorem fb (hB : IsB B) : ∀ p ∈ glT, aW B (.ref p.1) p.2 := by
 intro p hp
 rcases mC0 hp with rfl | hp
 · exact jn hB
 rcases mC0 hp with rfl | hp
 · exact l9 hB
 rcases mC0 hp with rfl | hp
 · exact kM hB
 contradiction
theorem bm.four {fd : FuncData} {p1 p2 p3 p4 : Str} {d1 d2 d3 d4 : AV} (h : ∀ v1 v2 v3 v4, bindArgs fd ⟨[v1, v2, v3, v4], []⟩ = pure [(p1, v1), (p2, v2), (p3, v3), (p4, v4)]) : bm B fd [p1, p2, p3, p4] [d1, d2, d3, d4] [d1, d2, d3, d4] := fun F s vs hv _ _ => by
 obtain ⟨v1, v2, v3, v4, rfl, q1, q2, q3, q4⟩ := Ba hv; exact ⟨_, .cons q1 (.cons q2 (.cons q3 (.cons q4 .nil))), .of_eq (h _ _ _ _)⟩
noncomputable def cQ (B : ab) (m : Nat) (f : Addr) (args : List AV) (d : AV) : Prop := ∀ objs, aa B m f args objs fun d' o => d' = d ∧ o = objs
theorem gc : aW B .none .none := fun _ _ => .none
theorem lY : aW B (.bool false) (.bool false) := fun _ _ => .bool _
theorem qa {a b : Prop} (h : a) (k : b) : a ∧ b := ⟨h, k⟩
theorem tt : true = true := rfl
theorem ff : false = false := rfl
section
variable {B : ab} {n : Nat} {name qual : Str} {params : Arguments} {body : List Stmt} {scope : Scope} {dV kV doc pm cdv ct oc : Value} {an od : Option Addr} {osl : Array (Option Value)} {f : Addr} {args : List AV} {objs : OL} {q : Prop}
theorem fJ {objs' : OL} {d : AV} (ps xs : List Str) (ρ : List Addr) (ds : List DV) (os : List (Nat × DO)) (rest : OL) (hints : List cD) (v : DV) (os' : List (Nat × DO)) (rest' : OL) (hB : IsB B)
 (ho : (eC B.P).lookup f = some ⟨oc, od, .func (fnOf name qual params body scope dV kV doc pm an cdv ct), osl⟩) (hb : bm B (fnOf name qual params body scope dV kV doc pm an cdv ct) ps args (tos ρ ds)) (hq : q)
 (eo : autoParam (a8 ρ rest os = objs) bK) (e1 : autoParam (v.to ρ = d) bK) (e2 : autoParam (a8 ρ rest' os' = objs') bK)
 (ck : autoParam ((codeIn (eC B.P) cdv qual && fD scope && cu (ps ++ xs) && ps.all (fun y => scope.names.lookup y == some .local) && Nat.beq ps.length ds.length) = true) bK) (fu : autoParam (kG scope = true) bK)
 (e : ∀ L, (ob (exB (f7 (P := ⟨⟨B, n, L, envOf qual scope L f cdv⟩, eC B.P, ρ, glT, []⟩) ⟨hB.K, (d6 fu).1, rfl, rfl, rfl, fb hB, nofun⟩ 60) body ⟨⟨nE ps ds xs, os, rest⟩, 0, hints, True⟩) fun p => pQ p.1.1 p.1.2) = some ⟨q, 0, v, os', rest'⟩ := by intro L; kernel_rfl) :
 aa B (n + 1) f args objs fun d' o => d' = d ∧ o = objs' := by
 subst e1 e2
 exact nS ps xs ρ ds os rest hints hB.K (fb hB) ho hb hq (k := 0) (v := v) (objs' := os') (rest' := rest') (fun d o (h : d = v.to (ρ ++ []) ∧ o = a8 (ρ ++ []) rest' os') => by rw [List.append_nil] at h; exact h) ck fu eo e
end
theorem pxo {K : Frag} {ρ : List Addr} (hB : IsB X.B) (hK : autoParam (K = eC X.B.P) bR) (h1 : autoParam (X.env.scope.kind = .function) bK) (h2 : autoParam (X.env.locals = X.L) bR) (h3 : autoParam (X.env.globals = mainGlobals) bR) (h4 : autoParam (X.env.builtins = builtinsNs) bR) : cZ ⟨X, K, ρ, glT, []⟩ := ⟨hB.K.trans hK.symm, h1, h2, h3, h4, fb hB, nofun⟩
theorem pxc {K : Frag} {ρ : List Addr} (hB : IsB X.B) (hc : ∀ x i, cc x cl = some i → X.env.cells.lookup x = some (aB ρ i) ∧ i < ρ.length) (hK : autoParam (K = eC X.B.P) bR) (h1 : autoParam (X.env.scope.kind = .function) bK) (h2 : autoParam (X.env.locals = X.L) bR) (h3 : autoParam (X.env.globals = mainGlobals) bR) (h4 : autoParam (X.env.builtins = builtinsNs) bR) : cZ ⟨X, K, ρ, glT, cl⟩ := ⟨hB.K.trans hK.symm, h1, h2, h3, h4, fb hB, hc⟩
theorem ar {ss : List Stmt} {f : Fl} (ρ : List Addr) (D D' : DS) (hints : List cD) (fd : DF) (O : cZ ⟨X, eC X.B.P, ρ, glT, cl⟩) (hq : q) (h1 : autoParam (D.to ρ = σ) bK) (h2 : autoParam (D'.to ρ = σ') bK) (h3 : autoParam (fd.to ρ = f) bK)
 (e : autoParam (ri O ss D hints = some (fd, ⟨D', 0, [], q⟩)) bK) : ExB X ss σ f σ' := by
 subst h1 h2 h3
 exact nD O hq e
theorem dq {b : Bool} (ρ : List Addr) (D D' : DS) (hints : List cD) (O : cZ ⟨X, eC X.B.P, ρ, glT, cl⟩) (hq : q) (h1 : autoParam (D.to ρ = σ) bK) (h2 : autoParam (D'.to ρ = σ') bK)
 (e : autoParam (xo O t D hints = some (b, ⟨D', 0, [], q⟩)) bK) : Te X t σ b σ' := by
 subst h1 h2
 exact qA O hq e
theorem jd {d : AV} (ρ : List Addr) (D D' : DS) (hints : List cD) (v : DV) (O : cZ ⟨X, eC X.B.P, ρ, glT, cl⟩) (hq : q) (h1 : autoParam (D.to ρ = σ) bK) (h2 : autoParam (D'.to ρ = σ') bK) (h3 : autoParam (v.to ρ = d) bK)
 (e : autoParam (vO O t D hints = some (v, ⟨D', 0, [], q⟩)) bK) : Ev X t σ d σ' := by
 subst h1 h2 h3
 exact qU O hq e
theorem zh {ss : List Stmt} {Q : PF} (ρ : List Addr) (D D' : DS) (hints : List cD) (k : Nat) (fd : DF) (O : cZ ⟨X, eC X.B.P, ρ, glT, cl⟩) (hq : q) (hQ : ∀ f σ', (exX k fun bs => f = fd.to (ρ ++ bs) ∧ σ' = D'.to (ρ ++ bs)) → Q f σ') (h1 : autoParam (D.to ρ = σ) bK)
 (e : autoParam (ri O ss D hints = some (fd, ⟨D', k, [], q⟩)) bK) : bB X ss σ Q := by
 subst h1
 exact ⟨fun H Φ w => (kR O hq e).run H Φ fun f σ' z => w _ _ (hQ _ _ z)⟩
theorem kK {c c' : Bool} (h : Te X t σ c σ') (q : c = c') : Te X t σ c' σ' := q ▸ h
theorem BF {σ₁ : St} {f : Fl} (h : Ex X st σ f σ₁) (e : σ₁ = σ') : Ex X st σ f σ' := e ▸ h
theorem big {n m : Nat} (h : n ≤ m) (q : autoParam (Nat.ble m 16777216 = true) bR) : n ≤ 16777216 := nT0 h (lB0 q)
variable {X : Cx} {cl : List (Str × Nat)} {σ σ' : St} {t : Expr} {st : Stmt}
theorem oq {env : Env} : execs [st] env = exec st env := by
 rw [execs_cons]
 exact (bind_congr fun f => by rcases f with _ | _ <;> rfl).trans (bind_pure _)
theorem cz {f : Fl} (h : ExB X [st] σ f σ') : Ex X st σ f σ' := ⟨fun H Φ k => by
 have := h.run H Φ k
 rw [oq] at this
 exact this⟩
end
section
set_option genInjectivity false
variable {B : ab} {rest objs : OL}
noncomputable abbrev txO (x dx : Addr) (t : List Nat) (p : Int) : Addr × AO := (x, .inst 73 dx [("text", .str t), ("place", .int p)])
noncomputable def dTx (k : Nat) (dx : Addr) (t : List Nat) (p : Int) : Nat × DO := (k, .inst 73 dx [("text", .av (.str t)), ("place", .av (.int p))])
theorem nj (hB : IsB B) {x dx : Addr} {t D : List Nat} {p size : Int} (hz : t.length ≤ 16777216) (hD : sl t (some p) (some (p + size)) = D) :
 aa B 1 70 [.ref x, .int size] (txO x dx t p :: rest) fun d objs => d = .str D ∧ objs = txO x dx t (p + D.length) :: rest := by
 subst hD
 exact fJ ["self", "size"] ["part"] [x] [.slot 0, .av (.int size)] [dTx 0 dx t p] rest [] (.av (.str (sl t (some p) (some (p + size))))) [dTx 0 dx t (p + (sl t (some p) (some (p + size))).length)] rest hB rfl (.two fun _ _ => rfl) (qa (qa trivial hz) (nT0 (iU t (some p) (some (p + size))) hz))
theorem li (hB : IsB B) {x dx : Addr} {t : List Nat} : aa B 1 63 [.ref x, .str t] ((x, .inst 73 dx []) :: rest) fun d objs => d = .none ∧ objs = txO x dx t 0 :: rest :=
 fJ ["self", "text"] [] [x] [.slot 0, .av (.str t)] [(0, .inst 73 dx [])] rest [] (.av .none) [dTx 0 dx t 0] rest hB rfl (.two fun _ _ => rfl) trivial
noncomputable def inv (n : Int) : Bool := (decide (1 ≤ n) && decide (n ≤ 8)) || (decide (n = 11) || ((decide (14 ≤ n) && decide (n ≤ 31)) || ((decide (127 ≤ n) && decide (n ≤ 159)) || ((decide (64976 ≤ n) && decide (n ≤ 65007)) || (decide (n.fmod 65536 ∈ [65534, 65535]) || (decide (55296 ≤ n) && decide (n ≤ 57343)))))))
theorem o4 (hB : IsB B) {c : Int} : cQ B 1 84 [.int c] (.bool (inv c)) := fun objs =>
 fJ ["codepoint"] [] [] [.av (.int c)] [] objs [] (.av (.bool (inv c))) [] objs hB rfl (.one fun _ => rfl) trivial
noncomputable def dZ (pc : Int) (c : List Nat) (off : Int) : Int := if d5 10 c off = -1 then pc + off else off - (d5 10 c off + 1)
noncomputable abbrev stF (st tx er : Addr) (c : List Nat) (sz off pl pc : Int) (buf : AV) : FL :=
 [("reportCharacterErrors", .meth 148 st), ("newLines", .lst [.int 0]), ("dataStream", .ref tx), ("chunk", .str c), ("chunkSize", .int sz), ("chunkOffset", .int off), ("errors", .ref er), ("prevNumLines", .int pl), ("prevNumCols", .int pc), ("_bufferedCharacter", buf)]
noncomputable abbrev stO (st dx tx er : Addr) (c : List Nat) (sz off pl pc : Int) (buf : AV) : Addr × AO := (st, .inst 166 dx (stF st tx er c sz off pl pc buf))
noncomputable def uw (s : Nat) (tx er : DV) (c : List Nat) (sz off pl pc : Int) (buf : AV) : List (Str × DV) :=
 [("reportCharacterErrors", .meth 148 s), ("newLines", .av (.lst [.int 0])), ("dataStream", tx), ("chunk", .av (.str c)), ("chunkSize", .av (.int sz)), ("chunkOffset", .av (.int off)), ("errors", er), ("prevNumLines", .av (.int pl)), ("prevNumCols", .av (.int pc)), ("_bufferedCharacter", .av buf)]
noncomputable abbrev bad : AV := .str (sg "invalid-codepoint")
noncomputable def bads (l : List Nat) : List AV := (l.filter fun (c : Nat) => inv (c : Int)).map fun _ => bad
section
variable {st dx tx tdx er : Addr} {c t : List Nat} {sz off pl pc p : Int} {buf : AV} {es : List AV}
noncomputable abbrev lT (dx tx er : Addr) (c : List Nat) (sz off pl pc : Int) (buf : AV) : List (Nat × DO) := [(0, .inst 166 dx (uw 0 (.av (.ref tx)) (.av (.ref er)) c sz off pl pc buf))]
theorem rH (hB : IsB B) {o : Int} : aa B 1 119 [.ref st, .int o] (stO st dx tx er c sz off pl pc buf :: rest) fun d objs => d = .tup [.int (pl + bD 10 c o), .int (dZ pc c o)] ∧ objs = stO st dx tx er c sz off pl pc buf :: rest := by
 unfold dZ
 by_cases h : d5 10 c o = -1
 · exact (if_pos h) ▸ (fJ ["self", "offset"] ["chunk", "nLines", "positionLine", "lastLinePos", "positionColumn"] [st] [.slot 0, .av (.int o)] (lT dx tx er c sz off pl pc buf) rest [.br true] (.av (.tup [.int (pl + bD 10 c o), .int (pc + o)])) (lT dx tx er c sz off pl pc buf) rest hB rfl (.two fun _ _ => rfl) (qa trivial (decide_eq_true h)))
 · exact (if_neg h) ▸ (fJ ["self", "offset"] ["chunk", "nLines", "positionLine", "lastLinePos", "positionColumn"] [st] [.slot 0, .av (.int o)] (lT dx tx er c sz off pl pc buf) rest [.br false] (.av (.tup [.int (pl + bD 10 c o), .int (o - (d5 10 c o + 1))])) (lT dx tx er c sz off pl pc buf) rest hB rfl (.two fun _ _ => rfl) (qa trivial (decide_eq_false h)))
theorem lQ (hB : IsB B) : aa B 2 126 [.ref st] (stO st dx tx er c sz off pl pc buf :: rest) fun d objs => d = .tup [.int (pl + bD 10 c off + 1), .int (dZ pc c off)] ∧ objs = stO st dx tx er c sz off pl pc buf :: rest :=
 fJ ["self"] ["line", "col"] [st] [.slot 0] (lT dx tx er c sz off pl pc buf) rest [.call 0 (.av (.tup [.int (pl + bD 10 c off), .int (dZ pc c off)])) (lT dx tx er c sz off pl pc buf) rest 1] (.av (.tup [.int (pl + bD 10 c off + 1), .int (dZ pc c off)])) (lT dx tx er c sz off pl pc buf) rest hB rfl (.one fun _ => rfl)
  (qa trivial (rH (rest := rest) (dx := dx) (st := st) (tx := tx) (er := er) (c := c) (sz := sz) (off := off) (pl := pl) (pc := pc) (buf := buf) hB (o := off)))
noncomputable abbrev sO (st dx tx tdx er : Addr) (c : List Nat) (sz off pl pc : Int) (buf : AV) (t : List Nat) (p : Int) (es : List AV) (rest : OL) : OL := stO st dx tx er c sz off pl pc buf :: txO tx tdx t p :: (er, .list es) :: rest
noncomputable def dSO (k : Nat) (dx tdx : Addr) (c : List Nat) (sz off pl pc : Int) (buf : AV) (t : List Nat) (p : Int) (es : List AV) (ps : List DV) (r : List (Nat × DO)) : List (Nat × DO) :=
 (k, .inst 166 dx (uw k (.slot (k + 1)) (.slot (k + 2)) c sz off pl pc buf)) :: dTx (k + 1) tdx t p :: (k + 2, .list es ps) :: r
theorem mM (hB : IsB B) (hz : t.length ≤ 16777216) (hD : sl t (some p) (some (p + 10240)) = []) :
 aa B 3 141 [.ref st] (sO st dx tx tdx er c sz off pl pc .none t p es rest) fun d objs => d = .bool false ∧ objs = sO st dx tx tdx er [] 0 0 (pl + bD 10 c sz) (dZ pc c sz) .none t p es rest := by
 have hr := (nj (x := tx) (dx := tdx) (rest := stO st dx tx er [] 0 0 (pl + bD 10 c sz) (dZ pc c sz) .none :: (er, .list es) :: rest) hB hz hD).second
 exact fJ ["self", "chunkSize"] ["data", "lastv"] [st, tx, er] [.slot 0, .av .none] (dSO 0 dx tdx c sz off pl pc .none t p es [] []) rest
  [.call 0 (.av (.tup [.int (pl + bD 10 c sz), .int (dZ pc c sz)])) (dSO 0 dx tdx c sz off pl pc .none t p es [] []) rest 1, .call 0 (.av (.str [])) (dSO 0 dx tdx [] 0 0 (pl + bD 10 c sz) (dZ pc c sz) .none t (p + ((0 : Nat) : Int)) es [] []) rest 1, .br false]
  (.av (.bool false)) (dSO 0 dx tdx [] 0 0 (pl + bD 10 c sz) (dZ pc c sz) .none t (p + ((0 : Nat) : Int)) es [] []) rest hB rfl (.dflt rfl (by rw [hB.K]; rfl) rfl (fun _ => rfl) (fun _ => rfl) gc)
  (qa (qa (qa (qa trivial (rH (rest := txO tx tdx t p :: (er, .list es) :: rest) (dx := dx) (st := st) (tx := tx) (er := er) (c := c) (sz := sz) (off := off) (pl := pl) (pc := pc) (buf := .none) hB (o := sz))) hr) (big (m := 0) (Nat.le_refl _))) ff)
  (e2 := by rw [show p + ((0 : Nat) : Int) = p from Int.add_zero p]; kernel_rfl)
end
end
section
set_option genInjectivity false
variable {B : ab} {rest : OL}
theorem oh (l : List Nat) {i : Nat} (h : i < l.length) : bads (l.take (i + 1)) = bads (l.take i) ++ (if inv ((l.getD i 0 : Nat) : Int) then [bad] else []) := by
 have e : l.getD i 0 = l[i] := by simp [h]
 rw [e, List.take_add_one, List.getElem?_eq_getElem h]
 unfold bads
 rw [List.filter_append, List.map_append]
 congr 1
 simp only [Option.toList, List.filter_cons, List.filter_nil]
 split <;> rfl
theorem si (l : List Nat) (i : Nat) : (bads (l.take i)).length ≤ l.length := by
 unfold bads
 rw [List.length_map]
 exact nT0 (List.length_filter_le _ _) (by rw [List.length_take]; exact Nat.min_le_right _ _)
noncomputable abbrev cC (l : List Nat) : List Nat := eF (eF l [13, 10] [10]) [13] [10]
section
variable {st dx tx tdx er : Addr} {c t D : List Nat} {sz off pl pc p : Int} {es : List AV} {z : Nat} {buf : AV}
noncomputable def dCe (dx tx : Addr) (c : List Nat) (sz off pl pc : Int) (buf : AV) (q tO : AO) (l : List AV) (ps : List DV) : List (Nat × DO) := [(0, .ao q), (1, .inst 166 dx (uw 1 (.av (.ref tx)) (.slot 3) c sz off pl pc buf)), (2, .ao tO), (3, .list l ps)]
noncomputable def dCl (D : List Nat) (g : Nat) : List (Str × Option DV) := [("self", some (.slot 1)), ("data", some (.av (.str D))), ("c", some (.av (.str [g])))]
theorem oD (hB : IsB B) {tO : Addr × AO} (hz : es.length + D.length ≤ 16777216) : aa B 2 148 [.ref st, .str D] (stO st dx tx er c sz off pl pc buf :: tO :: (er, .list es) :: rest) fun d objs => d = .none ∧ objs = stO st dx tx er c sz off pl pc buf :: tO :: (er, .list (es ++ bads D)) :: rest := by
 refine ow ["self", "data"] ["c"] (by rw [hB.K]; rfl) (by rw [hB.K]; kernel_rfl) (.two fun _ _ => rfl) fun L => ?_
 refine ⟨_, _, _, ej (jI (N := D.length) (item := fun i => .str [D.getD i 0]) (d := .str D) (fun i => [("self", some (.ref st)), ("data", some (.str D)), ("c", if i = 0 then none else some (.str [D.getD (i - 1) 0]))]) (fun i => stO st dx tx er c sz off pl pc buf :: tO :: (er, .list (es ++ bads (D.take i))) :: rest) ?_ (fun xv => rB) ?_) re, rfl, ?_⟩
 · show Ev _ _ _ _ ⟨[("self", some (.ref st)), ("data", some (.str D)), ("c", none)], stO st dx tx er c sz off pl pc buf :: tO :: (er, .list (es ++ [])) :: rest⟩
   rw [List.append_nil]
   exact a9 (.tail _ (.head _))
 · intro i hi a q
   have hc := o4 hB (c := (D.getD i 0 : Nat))
   have hb : (es ++ bads (D.take i)).length ≤ 16777216 := by have := si D i; rw [List.length_append]; omega
   have ec : (if i + 1 = 0 then none else some (AV.str [D.getD (i + 1 - 1) 0])) = some (.str [D.getD i 0]) := if_neg (Nat.succ_ne_zero i)
   rw [ec, oh D hi]
   refine ⟨⟨[("self", some (.ref st)), ("data", some (.str D)), ("c", some (.str [D.getD i 0]))], (a, .is q) :: stO st dx tx er c sz off pl pc buf :: tO :: (er, .list (es ++ bads (D.take i))) :: rest⟩, bN (bH (.skip (.skip .hit))), ?_⟩
   clear ec
   by_cases h : inv ((D.getD i 0 : Nat) : Int) = true
   · rw [if_pos h, ← List.append_assoc]
     generalize es ++ bads (D.take i) = l at hb ⊢
     generalize D.getD i 0 = g at hc h ⊢
     exact ar [a, st, tO.1, er] ⟨dCl D g, dCe dx tx c sz off pl pc buf (.is q) tO.2 l [], rest⟩
      ⟨dCl D g, dCe dx tx c sz off pl pc buf (.is q) tO.2 l [.av bad], rest⟩
      [.call 0 (.av (.bool (inv g))) (dCe dx tx c sz off pl pc buf (.is q) tO.2 l []) rest 1, .br true] .next (pxo hB) (qa (qa (qa trivial (hc (a8 [a, st, tO.1, er] rest (dCe dx tx c sz off pl pc buf (.is q) tO.2 l [])))) h) hb)
   · rw [if_neg h, List.append_nil]
     have h := Bool.eq_false_iff.mpr h
     generalize es ++ bads (D.take i) = l at hb ⊢
     generalize D.getD i 0 = g at hc h ⊢
     exact ar [a, st, tO.1, er] ⟨dCl D g, dCe dx tx c sz off pl pc buf (.is q) tO.2 l [], rest⟩
      ⟨dCl D g, dCe dx tx c sz off pl pc buf (.is q) tO.2 l [], rest⟩
      [.call 0 (.av (.bool (inv g))) (dCe dx tx c sz off pl pc buf (.is q) tO.2 l []) rest 1, .br false] .next (pxo hB) (qa (qa trivial (hc (a8 [a, st, tO.1, er] rest (dCe dx tx c sz off pl pc buf (.is q) tO.2 l [])))) h)
 · rw [List.take_length]
end
section
variable {B : ab} {rest : OL} {st dx tx tdx er : Addr} {c t D : List Nat} {sz off pl pc p : Int} {es : List AV} {z : Nat} {buf : AV}
noncomputable def dRl (d l : Option AV) : List (Str × Option DV) := [("self", some (.slot 0)), ("chunkSize", some (.av (.int 10240))), ("data", d.map .av), ("lastv", l.map .av)]
theorem j5 : ("\r\n" : Str) = S [13, 10] := by kernel_rfl
theorem gQ : ("\n" : Str) = S [10] := by kernel_rfl
theorem mr : ("\r" : Str) = S [13] := by kernel_rfl
theorem se (hB : IsB B) {D₁ D₂ : List Nat} {buf₂ : AV} {lv : Option AV} {buf : AV} (hz : t.length ≤ 16777216) (hD : sl t (some p) (some (p + 10240)) = D)
 (h1 : buf = .none ∧ D ≠ [] ∧ D₁ = D ∨ buf = .str [13] ∧ D₁ = [13] ++ D)
 (h2 : D₁.length ≤ 1 ∧ lv = none ∧ D₂ = D₁ ∧ buf₂ = .none ∨ 1 < D₁.length ∧ ∃ z, at? D₁ (-1) = some z ∧ lv = some (.int z) ∧ (z ≠ 13 ∧ ¬ (55296 ≤ z ∧ z ≤ 56319) ∧ D₂ = D₁ ∧ buf₂ = .none ∨ z = 13 ∧ D₂ = sl D₁ none (some (-1)) ∧ buf₂ = .str [13]))
 (hs : D.length ≤ 1048576) (hs₁ : D₁.length ≤ 1048576) (he : es.length + D₂.length ≤ 16777216) (hr : (eF D₂ [13, 10] [10]).length ≤ 1048576) (hr' : (eF (eF D₂ [13, 10] [10]) [13] [10]).length ≤ 1048576) :
 aa B 3 141 [.ref st] (sO st dx tx tdx er c sz off pl pc buf t p es rest) fun d objs => d = .bool true ∧ objs = sO st dx tx tdx er (cC D₂) (cC D₂).length 0 (pl + bD 10 c sz) (dZ pc c sz) buf₂ t (p + D.length) (es ++ bads D₂) rest := by
 have hp := rH (rest := txO tx tdx t p :: (er, .list es) :: rest) (dx := dx) (st := st) (tx := tx) (er := er) (c := c) (sz := sz) (off := off) (pl := pl) (pc := pc) (buf := buf) hB (o := sz)
 generalize pl + (bD 10 c sz : Int) = A, dZ pc c sz = C at hp ⊢
 have hrd := (nj (x := tx) (dx := tdx) (rest := stO st dx tx er [] 0 0 A C buf :: (er, .list es) :: rest) hB hz hD).second
 generalize p + (D.length : Int) = P at hrd ⊢
 have hce := oD (rest := rest) (dx := dx) (st := st) (tx := tx) (er := er) (c := []) (sz := 0) (off := 0) (pl := A) (pc := C) (buf := buf₂) (tO := txO tx tdx t P) hB he
 have hs' : D.length ≤ 16777216 := big hs
 have hs₁' : D₁.length ≤ 16777216 := big hs₁
 have hs₂ : D₂.length ≤ 1048576 := by
  rcases h2 with ⟨_, _, q, _⟩ | ⟨_, _, _, _, ⟨_, _, q, _⟩ | ⟨_, q, _⟩⟩
  · exact q ▸ hs₁
  · exact q ▸ hs₁
  · exact q ▸ nT0 (iU _ _ _) hs₁
 clear hz hD
 refine ow ["self", "chunkSize"] ["data", "lastv"] (by rw [hB.K]; rfl) (by rw [hB.K]; kernel_rfl) (.dflt rfl (by rw [hB.K]; rfl) rfl (fun _ => rfl) (fun _ => rfl) gc) fun L => ?_
 refine ⟨.ret (.bool true), [("self", some (.ref st)), ("chunkSize", some (.int 10240)), ("data", some (.str (cC D₂))), ("lastv", lv)], sO st dx tx tdx er (cC D₂) (cC D₂).length 0 A C buf₂ t P (es ++ bads D₂) rest, ?_, rfl, rfl⟩
 refine ej (σ₁ := ⟨[("self", some (.ref st)), ("chunkSize", some (.int 10240)), ("data", none), ("lastv", none)], sO st dx tx tdx er c sz off pl pc buf t p es rest⟩) (cz (ar [st, tx, er] ⟨[("self", some (.slot 0)), ("chunkSize", some (.av .none)), ("data", none), ("lastv", none)], dSO 0 dx tdx c sz off pl pc buf t p es [] [], rest⟩ ⟨dRl none none, dSO 0 dx tdx c sz off pl pc buf t p es [] [], rest⟩ [] .next (pxo hB) trivial)) ?_
 refine ej (σ₁ := ⟨[("self", some (.ref st)), ("chunkSize", some (.int 10240)), ("data", none), ("lastv", none)], sO st dx tx tdx er c sz off A C buf t p es rest⟩) (cz (ar [st, tx, er] ⟨dRl none none, dSO 0 dx tdx c sz off pl pc buf t p es [] [], rest⟩ ⟨dRl none none, dSO 0 dx tdx c sz off A C buf t p es [] [], rest⟩ [.call 0 (.av (.tup [.int A, .int C])) (dSO 0 dx tdx c sz off pl pc buf t p es [] []) rest 1] .next (pxo hB) (qa trivial hp))) ?_
 refine ej (σ₁ := ⟨[("self", some (.ref st)), ("chunkSize", some (.int 10240)), ("data", none), ("lastv", none)], sO st dx tx tdx er [] sz off A C buf t p es rest⟩) (cz (ar [st, tx, er] ⟨dRl none none, dSO 0 dx tdx c sz off A C buf t p es [] [], rest⟩ ⟨dRl none none, dSO 0 dx tdx [] sz off A C buf t p es [] [], rest⟩ [] .next (pxo hB) trivial)) ?_
 refine tD (σ₁ := ⟨[("self", some (.ref st)), ("chunkSize", some (.int 10240)), ("data", none), ("lastv", none)], sO st dx tx tdx er [] sz off A C buf t p es rest⟩) (o := .ref st) (σ₂ := ⟨[("self", some (.ref st)), ("chunkSize", some (.int 10240)), ("data", none), ("lastv", none)], sO st dx tx tdx er [] 0 off A C buf t p es rest⟩) (a9 (.head _)) (kE (.head _) (.skip (by kernel_rfl) (.skip (by kernel_rfl) (.skip (by kernel_rfl) (.skip (by kernel_rfl) .hit)))) .head (by rw [hB.K]; kernel_rfl)) ?_
 refine gw (σ₁ := ⟨[("self", some (.ref st)), ("chunkSize", some (.int 10240)), ("data", none), ("lastv", none)], sO st dx tx tdx er [] 0 0 A C buf t p es rest⟩) (cz (ar [st, tx, er] ⟨dRl none none, dSO 0 dx tdx [] 0 off A C buf t p es [] [], rest⟩ ⟨dRl none none, dSO 0 dx tdx [] 0 0 A C buf t p es [] [], rest⟩ [] .next (pxo hB) trivial)) ?_
 refine gw (σ₁ := ⟨[("self", some (.ref st)), ("chunkSize", some (.int 10240)), ("data", some (.str D)), ("lastv", none)], sO st dx tx tdx er [] 0 0 A C buf t P es rest⟩) (cz (ar [st, tx, er] ⟨dRl none none, dSO 0 dx tdx [] 0 0 A C buf t p es [] [], rest⟩ ⟨dRl (some (.str D)) none, dSO 0 dx tdx [] 0 0 A C buf t P es [] [], rest⟩ [.call 0 (.av (.str D)) (dSO 0 dx tdx [] 0 0 A C buf t P es [] []) rest 1] .next (pxo hB) (qa trivial hrd))) ?_
 refine gw (σ₁ := ⟨[("self", some (.ref st)), ("chunkSize", some (.int 10240)), ("data", some (.str D₁)), ("lastv", none)], sO st dx tx tdx er [] 0 0 A C .none t P es rest⟩) (cz ?_) ?_
 · clear h2 hce hrd hp
   rcases h1 with ⟨rfl, h0, rfl⟩ | ⟨rfl, rfl⟩
   · exact ar [st, tx, er] ⟨dRl (some (.str D₁)) none, dSO 0 dx tdx [] 0 0 A C .none t P es [] [], rest⟩ ⟨dRl (some (.str D₁)) none, dSO 0 dx tdx [] 0 0 A C .none t P es [] [], rest⟩ [.br true] .next (pxo hB) (qa (qa trivial hs') (show (!decide (D₁ = [])) = true by rw [decide_eq_false h0]; rfl))
   · exact ar [st, tx, er] ⟨dRl (some (.str D)) none, dSO 0 dx tdx [] 0 0 A C (.str [13]) t P es [] [], rest⟩ ⟨dRl (some (.str ([13] ++ D))) none, dSO 0 dx tdx [] 0 0 A C .none t P es [] [], rest⟩ [.br true] .next (pxo hB) (qa (qa (qa trivial (big (Nat.le_refl 1))) tt) (show ([13] : List Nat).length + D.length ≤ 16777216 from nT0 (Nat.le_of_eq (List.length_append (as := [13])).symm) hs₁'))
 refine gw (σ₁ := ⟨[("self", some (.ref st)), ("chunkSize", some (.int 10240)), ("data", some (.str D₂)), ("lastv", lv)], sO st dx tx tdx er [] 0 0 A C buf₂ t P es rest⟩) (cz ?_) ?_
 · clear h1 hce hrd hp
   rcases h2 with ⟨h2, rfl, rfl, rfl⟩ | ⟨h2, z, hl, rfl, ⟨h13, hsur, rfl, rfl⟩ | ⟨rfl, rfl, rfl⟩⟩
   · exact ar [st, tx, er] ⟨dRl (some (.str D₂)) none, dSO 0 dx tdx [] 0 0 A C .none t P es [] [], rest⟩ ⟨dRl (some (.str D₂)) none, dSO 0 dx tdx [] 0 0 A C .none t P es [] [], rest⟩ [.br false] .next (pxo hB) (qa (qa trivial hs₁') (decide_eq_false (show ¬ (1 : Int) < (D₂.length : Int) by omega)))
   · have e1 : (decide ((55296 : Int) ≤ (z : Int)) && decide ((z : Int) ≤ 56319)) = false := by
      by_cases q : 55296 ≤ (z : Int)
      · rw [decide_eq_true q, decide_eq_false (show ¬ (z : Int) ≤ 56319 by omega)]; rfl
      · rw [decide_eq_false q]; rfl
     exact ar [st, tx, er] ⟨dRl (some (.str D₂)) none, dSO 0 dx tdx [] 0 0 A C .none t P es [] [], rest⟩ ⟨dRl (some (.str D₂)) (some (.int z)), dSO 0 dx tdx [] 0 0 A C .none t P es [] [], rest⟩ [.br true, .ch z, .br false, .br false] .next (pxo hB) (qa (qa (qa (qa (qa (qa trivial hs₁') (decide_eq_true (show (1 : Int) < (D₂.length : Int) by exact Int.ofNat_le.mpr ‹_›))) hl) hs₁') (decide_eq_false (show ¬ (z : Int) = 13 by omega))) e1)
   · exact ar [st, tx, er] ⟨dRl (some (.str D₁)) none, dSO 0 dx tdx [] 0 0 A C .none t P es [] [], rest⟩ ⟨dRl (some (.str (sl D₁ none (some (-1))))) (some (.int (13 : Nat))), dSO 0 dx tdx [] 0 0 A C (.str [13]) t P es [] [], rest⟩ [.br true, .ch 13, .br true, .ch 13] .next (pxo hB) (qa (qa (qa (qa (qa (qa (qa (qa trivial hs₁') (decide_eq_true (show (1 : Int) < (D₁.length : Int) by exact Int.ofNat_le.mpr ‹_›))) hl) hs₁') tt) hl) hs₁') hs₁')
 clear h1 h2 hrd hp
 induction lv using Option.casesOn with
 | none =>
  refine gw (σ₁ := ⟨[("self", some (.ref st)), ("chunkSize", some (.int 10240)), ("data", some (.str D₂)), ("lastv", none)], sO st dx tx tdx er [] 0 0 A C buf₂ t P (es ++ bads D₂) rest⟩) (cz (ar [st, tx, er] ⟨dRl (some (.str D₂)) none, dSO 0 dx tdx [] 0 0 A C buf₂ t P es [] [], rest⟩ ⟨dRl (some (.str D₂)) none, dSO 0 dx tdx [] 0 0 A C buf₂ t P (es ++ bads D₂) [] [], rest⟩ [.call 0 (.av .none) (dSO 0 dx tdx [] 0 0 A C buf₂ t P (es ++ bads D₂) [] []) rest 2] .next (pxo hB) (qa trivial hce))) ?_
  clear hce
  refine ic j5 gQ (.tail _ (.tail _ (.head _))) (.skip (.skip .hit)) hs₂ ?_
  refine ic mr gQ (.tail _ (.tail _ (.head _))) (.skip (.skip .hit)) hr ?_
  have hn : (cC D₂).length ≤ 16777216 := big hr'
  exact xO (ar [st, tx, er] ⟨dRl (some (.str (cC D₂))) none, dSO 0 dx tdx [] 0 0 A C buf₂ t P (es ++ bads D₂) [] [], rest⟩ ⟨dRl (some (.str (cC D₂))) none, dSO 0 dx tdx (cC D₂) (cC D₂).length 0 A C buf₂ t P (es ++ bads D₂) [] [], rest⟩ [] (.ret (.av (.bool true))) (pxo hB) (qa trivial hn))
 | some v =>
  refine gw (σ₁ := ⟨[("self", some (.ref st)), ("chunkSize", some (.int 10240)), ("data", some (.str D₂)), ("lastv", some v)], sO st dx tx tdx er [] 0 0 A C buf₂ t P (es ++ bads D₂) rest⟩) (cz (ar [st, tx, er] ⟨dRl (some (.str D₂)) (some v), dSO 0 dx tdx [] 0 0 A C buf₂ t P es [] [], rest⟩ ⟨dRl (some (.str D₂)) (some v), dSO 0 dx tdx [] 0 0 A C buf₂ t P (es ++ bads D₂) [] [], rest⟩ [.call 0 (.av .none) (dSO 0 dx tdx [] 0 0 A C buf₂ t P (es ++ bads D₂) [] []) rest 2] .next (pxo hB) (qa trivial hce))) ?_
  clear hce
  refine ic j5 gQ (.tail _ (.tail _ (.head _))) (.skip (.skip .hit)) hs₂ ?_
  refine ic mr gQ (.tail _ (.tail _ (.head _))) (.skip (.skip .hit)) hr ?_
  have hn : (cC D₂).length ≤ 16777216 := big hr'
  exact xO (ar [st, tx, er] ⟨dRl (some (.str (cC D₂))) (some v), dSO 0 dx tdx [] 0 0 A C buf₂ t P (es ++ bads D₂) [] [], rest⟩ ⟨dRl (some (.str (cC D₂))) (some v), dSO 0 dx tdx (cC D₂) (cC D₂).length 0 A C buf₂ t P (es ++ bads D₂) [] [], rest⟩ [] (.ret (.av (.bool true))) (pxo hB) (qa trivial hn))
end
end
section
set_option genInjectivity false
variable {B : ab} {rest : OL}
section
variable {st dx tx tdx er tk kdx : Addr} {c c' t D : List Nat} {sz off pl pc p p' pl' pc' : Int} {es es' : List AV} {z : Nat} {buf buf' : AV}
theorem vK (hB : IsB B) {v : AV} : aa B 3 112 [v, .str t] rest fun d objs => ∃ tx tdx, d = .ref tx ∧ objs = txO tx tdx t 0 :: rest := by
 refine jY ["self", "source"] ["stream"] (by rw [hB.K]; rfl) (by rw [hB.K]; kernel_rfl) (.two fun _ _ => rfl) fun L => ?_
 refine rk (m := 1) (n' := 1) (cg (v := .ref 73) (by refine hB.K ▸ ?_; kernel_rfl)) (cF (by refine hB.K ▸ ?_; kernel_rfl)) (aq (a9 (.tail _ (.head _))) aC) (by refine hB.K ▸ ?_; kernel_rfl) (by refine hB.K ▸ ?_; kernel_rfl) (by refine hB.K ▸ ?_; kernel_rfl) (fun x dx => li hB) rfl (by decide) ?_
 rintro tx tdx _ _ ⟨rfl, rfl⟩
 exact ⟨rfl, _, .skip (.skip .hit), bQ (gy (gE (a9 (.tail _ (.tail _ (.head _)))))) ⟨_, rfl, _, _, rfl, rfl⟩⟩
theorem lM (hB : IsB B) {i : Nat} (hi : i < c.length) (hz : c.length ≤ 16777216) : aa B 4 133 [.ref st] (sO st dx tx tdx er c c.length i pl pc buf t p es rest) fun d o => d = .str [c[i]] ∧ o = sO st dx tx tdx er c c.length (i + 1) pl pc buf t p es rest :=
 fJ ["self"] ["chunkOffset", "char"] [st, tx, er] [.slot 0] (dSO 0 dx tdx c c.length i pl pc buf t p es [] []) rest [.br false, .ch c[i]] (.av (.str [c[i]])) (dSO 0 dx tdx c c.length (i + 1) pl pc buf t p es [] []) rest hB rfl (.one fun _ => rfl)
  (qa (qa (qa trivial (decide_eq_false (show ¬ (c.length : Int) ≤ (i : Int) by omega))) (cH hi)) hz)
theorem iX (hB : IsB B) (ho : sz ≤ off) {c' : List Nat} {sz' off' pl' pc' p' : Int} {buf' : AV} {es' : List AV} (hr : aa B 3 141 [.ref st] (sO st dx tx tdx er c sz off pl pc buf t p es rest) fun d o => d = .bool false ∧ o = sO st dx tx tdx er c' sz' off' pl' pc' buf' t p' es' rest) :
 aa B 4 133 [.ref st] (sO st dx tx tdx er c sz off pl pc buf t p es rest) fun d o => d = .none ∧ o = sO st dx tx tdx er c' sz' off' pl' pc' buf' t p' es' rest :=
 fJ ["self"] ["chunkOffset", "char"] [st, tx, er] [.slot 0] (dSO 0 dx tdx c sz off pl pc buf t p es [] []) rest [.br true, .call 0 (.av (.bool false)) (dSO 0 dx tdx c' sz' off' pl' pc' buf' t p' es' [] []) rest 3, .br false] (.av .none) (dSO 0 dx tdx c' sz' off' pl' pc' buf' t p' es' [] []) rest hB rfl (.one fun _ => rfl)
  (qa (qa (qa trivial (decide_eq_true ho)) hr) ff)
theorem lU (hB : IsB B) (ho : sz ≤ off) (hz : c'.length ≤ 16777216) (h0 : 0 < c'.length) (hr : aa B 3 141 [.ref st] (sO st dx tx tdx er c sz off pl pc buf t p es rest) fun d o => d = .bool true ∧ o = sO st dx tx tdx er c' c'.length 0 pl' pc' buf' t p' es' rest) :
 aa B 4 133 [.ref st] (sO st dx tx tdx er c sz off pl pc buf t p es rest) fun d o => d = .str [c'[0]] ∧ o = sO st dx tx tdx er c' c'.length 1 pl' pc' buf' t p' es' rest :=
 fJ ["self"] ["chunkOffset", "char"] [st, tx, er] [.slot 0] (dSO 0 dx tdx c sz off pl pc buf t p es [] []) rest [.br true, .call 0 (.av (.bool true)) (dSO 0 dx tdx c' c'.length 0 pl' pc' buf' t p' es' [] []) rest 3, .br true, .ch c'[0]] (.av (.str [c'[0]])) (dSO 0 dx tdx c' c'.length 1 pl' pc' buf' t p' es' [] []) rest hB rfl (.one fun _ => rfl)
  (qa (qa (qa (qa (qa trivial (decide_eq_true ho)) hr) tt) (cH (k := 0) h0)) hz)
theorem sv (hB : IsB B) {i : Nat} (hi : i < c.length) (hz : c.length ≤ 16777216) : aa B 1 163 [.ref st, .str [c[i]]] (sO st dx tx tdx er c c.length (i + 1 : Nat) pl pc buf t p es rest) fun d o => d = .none ∧ o = sO st dx tx tdx er c c.length i pl pc buf t p es rest := by
 have e : ((i + 1 : Nat) : Int) - 1 = (i : Nat) := by simp +arith
 have hl : at? c (((i + 1 : Nat) : Int) - 1) = some c[i] := by refine e ▸ ?_; exact cH hi
 refine (show (sO st dx tx tdx er c c.length i pl pc buf t p es rest) = sO st dx tx tdx er c c.length (((i + 1 : Nat) : Int) - 1) pl pc buf t p es rest by rw [e]) ▸ ?_
 exact fJ ["self", "char"] [] [st, tx, er] [.slot 0, .av (.str [c[i]])] (dSO 0 dx tdx c c.length (i + 1 : Nat) pl pc buf t p es [] []) rest [.br false, .ch c[i], .br true] (.av .none) (dSO 0 dx tdx c c.length (((i + 1 : Nat) : Int) - 1) pl pc buf t p es [] []) rest hB rfl (.two fun _ _ => rfl)
  (qa (qa (qa (qa trivial (decide_eq_false (show ¬ ((i + 1 : Nat) : Int) = 0 by omega))) hl) hz) (decide_eq_true (rfl : [c[i]] = [c[i]])))
theorem k5 (hB : IsB B) {v : Addr} : aa B 1 163 [.ref v, .none] rest fun d o => d = .none ∧ o = rest :=
 fJ ["self", "char"] [] [] [.av (.ref v), .av .none] [] rest [] (.av .none) [] rest hB rfl (.two fun _ _ => rfl) trivial
noncomputable abbrev AB (st tx : Addr) : FL := [("reportCharacterErrors", .meth 148 st), ("newLines", .lst [.int 0]), ("dataStream", .ref tx)]
theorem sW (hB : IsB B) : aa B 1 105 [.ref st] ((st, .inst 166 dx (AB st tx)) :: rest) fun d objs => d = .none ∧ ∃ er, objs = stO st dx tx er [] 0 0 0 0 .none :: (er, .list []) :: rest :=
 nS (k := 1) (v := .av .none) (objs' := [(0, .inst 166 dx (uw 0 (.av (.ref tx)) (.slot 1) [] 0 0 0 0 .none)), (1, .list [] [])]) (rest' := rest) ["self"] [] [st] [.slot 0] [(0, .inst 166 dx [("reportCharacterErrors", .meth 148 0), ("newLines", .av (.lst [.int 0])), ("dataStream", .av (.ref tx))])] rest [] hB.K (fb hB) rfl (.one fun _ => rfl) (hq := trivial)
  (fun d o ⟨er, h1, h2⟩ => ⟨h1, er, h2⟩) (by kernel_rfl) (by kernel_rfl) (by kernel_rfl) (fun L => by kernel_rfl)
end
end
section
set_option genInjectivity false
variable {B : ab} {rest : OL}
section
variable {st dx tx tdx er tk kdx : Addr} {t : List Nat}
theorem pT (hB : IsB B) {tO : Addr × AO} : aa B 1 105 [.ref st] (tO :: (st, .inst 166 dx (AB st tx)) :: rest) fun d objs => d = .none ∧ ∃ er, objs = stO st dx tx er [] 0 0 0 0 .none :: tO :: (er, .list []) :: rest := by
 refine (sW (rest := tO :: rest) hB).perm (.swap _ _ _) ?_
 rintro d q ⟨h1, er, rfl⟩
 exact ⟨_, .cons _ (.swap _ _ _), h1, er, rfl⟩
theorem ur (hB : IsB B) : aa B 4 98 [.ref st, .str t] ((st, .inst 166 dx []) :: rest) fun d objs => d = .none ∧ ∃ tx tdx er, objs = sO st dx tx tdx er [] 0 0 0 0 .none t 0 [] rest := by
 refine uU ["self", "source"] [] (by rw [hB.K]; rfl) (by rw [hB.K]; kernel_rfl) (.two fun _ _ => rfl) fun L => ?_
 refine aN (σ₁ := ⟨[("self", some (.ref st)), ("source", some (.str t))], (st, .inst 166 dx [("reportCharacterErrors", .meth 148 st)]) :: rest⟩) (cz (ar [st] ⟨[("self", some (.slot 0)), ("source", some (.av (.str t)))], [(0, .inst 166 dx [])], rest⟩ ⟨[("self", some (.slot 0)), ("source", some (.av (.str t)))], [(0, .inst 166 dx [("reportCharacterErrors", .meth 148 0)])], rest⟩ [] .next (pxo hB) trivial)) ?_
 refine aN (vF (nc (aq cO aC) (by decide)) (a9 (.head _)) (kE (.head _) (.skip (by kernel_rfl) .new) .head (by refine hB.K ▸ ?_; kernel_rfl))) ?_
 refine kr (me (a9 (.head _)) (lq (g := 112) (.head _) (by kernel_rfl) (by refine hB.K ▸ ?_; kernel_rfl)) (cF (by refine hB.K ▸ ?_; kernel_rfl)) (aq (a9 (.tail _ (.head _))) aC) (vK hB) (lB0 rfl)) ?_
 intro _ _ z9; refine x12 z9 ?_; clear z9; rintro _ ⟨tx, tdx, rfl, rfl⟩ rfl
 refine' ⟨.ref st, _, _, a9 (.head _), kE (.tail _ (.head _)) (.skip (by kernel_rfl) (.skip (by kernel_rfl) .new)) (.tail .head) (by refine hB.K ▸ ?_; kernel_rfl), ?_⟩
 refine qD (me (a9 (.head _)) (lq (g := 105) (.tail _ (.head _)) (by kernel_rfl) (by refine hB.K ▸ ?_; kernel_rfl)) (cF (by refine hB.K ▸ ?_; kernel_rfl)) aC (pT hB) (lB0 rfl)) ?_
 intro _ _ z9; refine x12 z9 ?_; clear z9; rintro _ ⟨rfl, er, rfl⟩ rfl
 exact lX ⟨rfl, rfl, tx, tdx, er, rfl⟩
end
structure SS where
 c : List Nat
 i : Nat
 pl : Int
 pc : Int
 buf : AV
 p : Int
 es : List AV
noncomputable abbrev oS (st dx tx tdx er : Addr) (t : List Nat) (q : SS) (rest : OL) : OL := sO st dx tx tdx er q.c q.c.length q.i q.pl q.pc q.buf t q.p q.es rest
noncomputable abbrev SS0 : SS := ⟨[], 0, 0, 0, .none, 0, []⟩
section
variable {st dx tx tdx er tk kdx qa lf : Addr} {t : List Nat} {cur : AV} {f : Addr}
noncomputable abbrev tkF (st f tk lf qa : Addr) (cur : AV) : FL := [("stream", .ref st), ("parser", .none), ("escapeFlag", .bool false), ("lastFourChars", .ref lf), ("state", .meth f tk), ("escape", .bool false), ("currentToken", cur), ("tokenQueue", .ref qa)]
noncomputable abbrev tkO (st f tk kdx lf qa : Addr) (cur : AV) : Addr × AO := (tk, .inst 762 kdx (tkF st f tk lf qa cur))
noncomputable abbrev uk (st f tk lf : Addr) (cur : AV) : FL := [("stream", .ref st), ("parser", .none), ("escapeFlag", .bool false), ("lastFourChars", .ref lf), ("state", .meth f tk), ("escape", .bool false), ("currentToken", cur)]
noncomputable abbrev dOS (k : Nat) (dx tdx : Addr) (t : List Nat) (q : SS) (r : List (Nat × DO)) : List (Nat × DO) := dSO k dx tdx q.c q.c.length q.i q.pl q.pc q.buf t q.p q.es [] r
theorem sy (hB : IsB B) : aa B 6 261 [.ref tk, .str t] ((tk, .inst 762 kdx []) :: rest) fun d o => d = .none ∧ ∃ st dx tx tdx er lf, o = oS st dx tx tdx er t SS0 ((tk, .inst 762 kdx (uk st 304 tk lf .none)) :: rest) := by
 refine aa.dropH ?_
 refine uU ["self", "stream", "parser"] [] (by rw [hB.K]; rfl) (by rw [hB.K]; kernel_rfl) (.dflt3 rfl (by rw [hB.K]; rfl) rfl (fun _ _ => rfl) (fun _ _ => rfl) gc) fun L => ?_
 refine kr (vV (m := 4) (n' := 4) (cg (v := .ref 166) (by refine hB.K ▸ ?_; kernel_rfl)) (cF (by refine hB.K ▸ ?_; kernel_rfl)) (aq (a9 (.tail _ (.head _))) aC) (by refine hB.K ▸ ?_; kernel_rfl) (by refine hB.K ▸ ?_; kernel_rfl) (by refine hB.K ▸ ?_; kernel_rfl) (fun x dx => ur hB) rfl (by decide) (fun _ _ _ _ h => h.1)) ?_
 intro _ _ z9; refine x33 z9 ?_; clear z9; rintro st dx _ ⟨-, tx, tdx, er, rfl⟩ rfl rfl
 refine' ⟨.ref tk, ⟨[("self", some (.ref tk)), ("stream", some (.str t)), ("parser", some .none)], _⟩, ⟨[("self", some (.ref tk)), ("stream", some (.str t)), ("parser", some .none)], oS st dx tx tdx er t SS0 ((tk, .inst 762 kdx [("stream", .ref st)]) :: rest)⟩, a9 (.head _), kE (.tail _ (.tail _ (.tail _ (.head _)))) .new (.tail (.tail (.tail .head))) (by refine hB.K ▸ ?_; kernel_rfl), ?_⟩
 refine zh [st, tx, er, tk] ⟨[("self", some (.slot 3)), ("stream", some (.av (.str t))), ("parser", some (.av .none))], dOS 0 dx tdx t SS0 [(3, .inst 762 kdx [("stream", .slot 0)])], rest⟩
  ⟨[("self", some (.slot 3)), ("stream", some (.av (.str t))), ("parser", some (.av .none))], dOS 0 dx tdx t SS0 [(3, .inst 762 kdx [("stream", .slot 0), ("parser", .av .none), ("escapeFlag", .av (.bool false)), ("lastFourChars", .slot 4), ("state", .meth 304 3), ("escape", .av (.bool false)), ("currentToken", .av .none)]), (4, .list [] [])], rest⟩ [] 1 .next (pxo hB) trivial ?_
 intro _ _ z9; refine x12 z9 ?_; clear z9; rintro lf rfl rfl
 exact ⟨rfl, oS st dx tx tdx er t SS0 ((tk, .inst 762 kdx (uk st 304 tk lf .none)) :: rest), [(lf, AO.list [])], List.Perm.append_left [_, _, _, _] (List.perm_append_comm (l₁ := [(_, AO.list [])])), rfl, st, dx, tx, tdx, er, lf, rfl⟩
end
end
section
set_option genInjectivity false
variable {i k : Nat} {q u : Nat → Bool} {c r : List Nat} {q' : SS}
section
variable {X : Cx} {σ : St} {Q : PF}
theorem nX {t : Expr} {body : List Stmt} {pos : Pos} (Inv : Nat → St → Prop) {n : Nat} (h0 : Inv n σ)
 (step : ∀ k σ, Inv k σ → ∃ σ₁, Te X t σ true σ₁ ∧ bB X body σ₁ fun f σ₂ => (f = .next ∧ ∃ m, m < k ∧ Inv m σ₂) ∨ (f = .brk ∧ Q .next σ₂)) : ExQ X (.While t body [] pos) σ Q := ⟨fun _ Φ h => gV Inv n h0 fun k σ r => by
 refine x12 (step k σ r) ?_; rintro σ₁ ht hb
 exact ht.run _ _ ⟨fun _ => hb.run _ (gM (fun σ₂ => ∃ m, m < k ∧ Inv m σ₂) Φ) (fun f σ₂ w => by
  rcases w with ⟨e, i⟩ | ⟨e, q⟩
  · subst e; exact i
  · subst e; exact h _ _ q), fun q => nomatch q⟩⟩
end
variable {B : ab} {rest : OL}
theorem dW.count {X : Cx} {t : Expr} {body : List Stmt} (F : Nat → St) : ∀ {m k : Nat}, (∀ j, k ≤ j → j < k + m → Te X t (F j) true (F j) ∧ ExB X body (F j) .next (F (j + 1))) → Te X t (F (k + m)) false (F (k + m)) → dW X t body m (F k) (F (k + m))
 | 0, k, _, e => .done e
 | m + 1, k, h, e => by
  obtain ⟨h1, h2⟩ := h k (Nat.le_refl _) (by omega)
  have r := dW.count F (m := m) (k := k + 1) (fun j a b => h j (by omega) (by omega)) (by exact (show k + 1 + m = k + (m + 1) from by omega) ▸ (e))
  rw [show k + 1 + m = k + (m + 1) from by omega] at r
  exact .step h1 h2 r
noncomputable def ai (q : Nat → Bool) (c : List Nat) (i : Nat) : Nat := i + ((c.drop i).takeWhile q).length
theorem fX (q : Nat → Bool) (c : List Nat) (h : i ≤ c.length) : ai q c i ≤ c.length := by
 unfold ai
 have : ((c.drop i).takeWhile q).length ≤ (c.drop i).length := (List.takeWhile_sublist _).length_le
 rw [List.length_drop] at this
 omega
theorem r9 : ai q c c.length = c.length := by
 unfold ai
 simp
noncomputable def InJ (B : ab) (chs : AV) (m : Nat → Bool) : Prop := ∀ {n L H σ a b c} {Φ : PV}, (a, AV.str [c]) ∈ H → (b, chs) ∈ H → (∀ v, Φ v (.bool (m c)) σ) → WV B n L (compareOp .In a b) H σ Φ
theorem tM {x : List Nat} : InJ B (.str x) (fun c => decide (c ∈ x)) := fun ma mb h => uP ma mb h
theorem jp {l : List AV} {ms : List (List Nat)} (e : aG l = some ms) : InJ B (.tup l) (fun c => decide ([c] ∈ ms)) := fun ma mb h => ve ma mb e h
theorem rr : ∀ {l : List Nat} {i : Nat} (h : i < (l.takeWhile u).length), ∃ hi : i < l.length, u l[i] = true
 | [], _, h => absurd h (Nat.not_lt_zero _)
 | a :: l, i, h => by
  rw [List.takeWhile_cons] at h
  by_cases e : u a = true
  · rw [if_pos e] at h
    cases i with
    | zero => exact ⟨Nat.succ_pos _, e⟩
    | succ i =>
     obtain ⟨hi, q⟩ := rr (l := l) (i := i) (by simpa using h)
     exact ⟨Nat.succ_lt_succ hi, q⟩
  · rw [if_neg e] at h; exact absurd h (Nat.not_lt_zero _)
theorem qm : ∀ {l : List Nat} (h : (l.takeWhile u).length < l.length), u l[(l.takeWhile u).length] = false
 | [], h => absurd h (Nat.lt_irrefl _)
 | a :: l, h => by
  by_cases e : u a = true
  · simp only [List.takeWhile_cons, if_pos e, List.length_cons] at h ⊢
    simpa using qm (l := l) (by omega)
  · simp only [List.takeWhile_cons, if_neg e, List.length_nil] at h ⊢
    simpa using e
theorem jx {T : List Nat} {j : Nat} (h1 : k ≤ j) (h2 : j < ai u T k) (h : k ≤ T.length) : ∃ hj : j < T.length, u T[j] = true := by
 unfold ai at h2
 obtain ⟨hi, q⟩ := rr (u := u) (l := T.drop k) (i := j - k) (by omega)
 rw [List.length_drop] at hi
 refine ⟨by omega, ?_⟩
 rw [List.getElem_drop] at q
 simpa only [show k + (j - k) = j from by omega] using q
theorem iw {T : List Nat} (h : ai u T k < T.length) : u (T[ai u T k]'h) = false := by
 have := qm (u := u) (l := T.drop k) (by unfold ai at h; rw [List.length_drop]; omega)
 rw [List.getElem_drop] at this
 exact this
variable {st dx tx tdx er : Addr} {t : List Nat}
noncomputable def Reads (B : ab) (st dx tx tdx er : Addr) (t : List Nat) (b : Bool) (q q' : SS) : Prop :=
 ∀ rest, aa B 3 141 [.ref st] (oS st dx tx tdx er t q rest) fun d o => d = .bool b ∧ o = oS st dx tx tdx er t q' rest
inductive cN (B : ab) (st dx tx tdx er : Addr) (t : List Nat) (u : Nat → Bool) : Nat → SS → List Nat → SS → Prop
 | stop {q : SS} {e : Nat} : q.i ≤ q.c.length → q.c.length ≤ 1048576 → ai u q.c q.i = e → e < q.c.length → cN B st dx tx tdx er t u 0 q (sl q.c (some q.i) (some e)) { q with i := e }
 | last {q q' : SS} : q.i ≤ q.c.length → q.c.length ≤ 1048576 → ai u q.c q.i = q.c.length → Reads B st dx tx tdx er t false q q' → cN B st dx tx tdx er t u 0 q (sl q.c (some q.i) none) q'
 | more {q q₁ q' : SS} {k : Nat} {r : List Nat} : q.i ≤ q.c.length → q.c.length ≤ 1048576 → ai u q.c q.i = q.c.length → Reads B st dx tx tdx er t true q q₁ → cN B st dx tx tdx er t u k q₁ r q' → cN B st dx tx tdx er t u (k + 1) q (sl q.c (some q.i) none ++ r) q'
variable {chs : AV} {m : Nat → Bool}
theorem cN.here {q : SS} (h : cN B st dx tx tdx er t u k q r q') : q.i ≤ q.c.length ∧ q.c.length ≤ 1048576 := by cases h <;> exact ⟨‹_›, ‹_›⟩
theorem cN.ends {q : SS} (h : cN B st dx tx tdx er t u k q r q') (e : ai u q.c q.i = q.c.length) : ∃ b q₁, Reads B st dx tx tdx er t b q q₁ ∧
 ((b = false ∧ r = sl q.c (some q.i) none ∧ q₁ = q') ∨ (b = true ∧ ∃ k₁ r₁, k₁ < k ∧ r = sl q.c (some q.i) none ++ r₁ ∧ cN B st dx tx tdx er t u k₁ q₁ r₁ q')) := by
 cases h with
 | stop _ _ he hlt => rw [e] at he; exact absurd he (Nat.ne_of_gt hlt)
 | last _ _ _ hr => exact ⟨_, _, hr, .inl ⟨rfl, rfl, rfl⟩⟩
 | more _ _ _ hr hu => exact ⟨_, _, hr, .inr ⟨rfl, _, _, Nat.lt_succ_self _, rfl, hu⟩⟩
theorem cN.stops {q : SS} (h : cN B st dx tx tdx er t u k q r q') {j : Nat} (e : ai u q.c q.i = j) (hj : j < q.c.length) : r = sl q.c (some q.i) (some j) ∧ q' = { q with i := j } := by
 cases h with
 | stop _ _ he hlt => cases he.symm.trans e; exact ⟨rfl, rfl⟩
 | last _ _ he _ => exact absurd (he.symm.trans e) (Nat.ne_of_gt hj)
 | more _ _ he _ _ => exact absurd (he.symm.trans e) (Nat.ne_of_gt hj)
theorem bm.full3 {fd : FuncData} {p1 p2 p3 : Str} {d1 d2 d3 : AV} {T : Addr} {o : Obj} {w : Value} {m : Nat} {k : Value → Value → Value → Option (Array Value) → Sem (List (Str × Value))} (hd : fd.defaults = .ref T) (ho : B.K.lookup T = some o) (hs : o.data = .seq #[w] m)
 (h₁ : ∀ v1 v2 v3, bindArgs fd ⟨[v1, v2, v3], []⟩ = seqItems? fd.defaults >>= k v1 v2 v3) (h₂ : ∀ v1 v2 v3, k v1 v2 v3 (some #[w]) = pure [(p1, v1), (p2, v2), (p3, v3)]) : bm B fd [p1, p2, p3] [d1, d2, d3] [d1, d2, d3] := fun F s vs hv X core => by
 obtain ⟨v1, v2, v3, rfl, q1, q2, q3⟩ := yF hv; exact ⟨_, .cons q1 (.cons q2 (.cons q3 .nil)), .of_defaults hd (X _ _ ho) hs (h₁ _ _ _) (h₂ _ _ _)⟩
noncomputable abbrev lW (st : Addr) (chs : AV) (opp : Bool) (a : Addr) (en : Option AV) : LL := [("self", some (.ref st)), ("characters", some chs), ("opposite", some (.bool opp)), ("rv", some (.ref a)), ("end", en), ("r", none)]
theorem uQ {chs : AV} {m : Nat → Bool} (hm : InJ B chs m) (c : Nat) (σ : St) (X : Cx) (e : X.B = B) : bG X .In (.str [c]) chs (m c) σ := by
 subst e
 exact ⟨fun _ _ _ _ ma mb h => hm ma mb h⟩
noncomputable def dUs (dx tdx : Addr) (t : List Nat) (chs : AV) (opp : Bool) (en r : Option AV) (q : SS) (l : List AV) (ps : List DV) (rest : OL) : DS :=
 ⟨[("self", some (.slot 0)), ("characters", some (.av chs)), ("opposite", some (.av (.bool opp))), ("rv", some (.slot 3)), ("end", en.map .av), ("r", r.map .av)], (3, .list l ps) :: dOS 0 dx tdx t q [], rest⟩
theorem hU (hB : IsB B) (hm : InJ B chs m) {opp : Bool} {args : List AV} (ha : args = [.ref st, chs] ∧ opp = false ∨ args = [.ref st, chs, .bool opp]) {k₀ : Nat} {q₀ : SS} {r₀ : List Nat} (hu : cN B st dx tx tdx er t (fun x => m x == opp) k₀ q₀ r₀ q') (hk : k₀ ≤ 1000) (hr : r₀.length ≤ 16777216) :
 aa B 4 156 args (oS st dx tx tdx er t q₀ rest) fun d o => d = .str r₀ ∧ o = oS st dx tx tdx er t q' rest := by
 refine aa.dropH ?_
 refine jY (ds := [.ref st, chs, .bool opp]) ["self", "characters", "opposite"] ["rv", "end", "r"] (by rw [hB.K]; rfl) (by rw [hB.K]; kernel_rfl) (by rcases ha with ⟨rfl, rfl⟩ | rfl; exact .dflt3 rfl (by rw [hB.K]; rfl) rfl (fun _ _ => rfl) (fun _ _ => rfl) lY; exact .full3 rfl (by rw [hB.K]; rfl) rfl (fun _ _ _ => rfl) (fun _ _ _ => rfl)) fun L => ?_
 clear ha
 refine dG aC (by decide) fun a => ⟨_, .skip (.skip (.skip .hit)), ?_⟩
 generalize hu₀ : (fun x => m x == opp) = u at hu
 refine jM (fun σ => ∃ l ms en, aG l = some ms ∧ ms.flatten = r₀ ∧ σ = ⟨lW st chs opp a (some en), (a, .list l) :: oS st dx tx tdx er t q' rest⟩) (nX (fun k σ => ∃ q l ms r en, cN B st dx tx tdx er t u k q r q' ∧ aG l = some ms ∧ ms.flatten ++ r = r₀ ∧ l.length + k ≤ 1000 ∧ σ = ⟨lW st chs opp a en, (a, .list l) :: oS st dx tx tdx er t q rest⟩) (n := k₀)
  ⟨q₀, [], [], r₀, none, hu, rfl, rfl, by simpa using hk, rfl⟩ ?_) ?_
 · rintro k σ ⟨q, l, ms, r, en, hu, hl, hms, hkl, rfl⟩
   obtain ⟨hi, hz⟩ := hu.here
   have hz' : q.c.length ≤ 16777216 := big hz
   have hll : l.length ≤ 16777216 := by omega
   refine ⟨⟨lW st chs opp a en, (a, .list l) :: oS st dx tx tdx er t q rest⟩, Ai rp jy, ?_⟩
   refine aN (σ₁ := ⟨lW st chs opp a (some (.int q.i)), (a, .list l) :: oS st dx tx tdx er t q rest⟩) ?_ ?_
   · cases en with
     | none => exact cz (ar [st, tx, er, a] (dUs dx tdx t chs opp none none q l [] rest) (dUs dx tdx t chs opp (some (.int q.i)) none q l [] rest) [] .next (pxo hB) trivial)
     | some en => exact cz (ar [st, tx, er, a] (dUs dx tdx t chs opp (some en) none q l [] rest) (dUs dx tdx t chs opp (some (.int q.i)) none q l [] rest) [] .next (pxo hB) trivial)
   have g1 : q.i ≤ ai u q.c q.i := Nat.le_add_right _ _
   have g2 := fX u q.c hi
   have sin := fun j (a : q.i ≤ j) (b : j < ai u q.c q.i) => jx a b hi
   have sout : ∀ e, ai u q.c q.i = e → ∀ h : e < q.c.length, u q.c[e] = false := fun e he h => by subst he; exact iw h
   obtain ⟨j, hs⟩ : ∃ j, ai u q.c q.i = j := ⟨_, rfl⟩
   have huS := fun e => hu.stops hs e
   have huE := fun e : j = q.c.length => hu.ends (hs.trans e)
   rw [hs] at g1 g2 sin
   have hm' : q.i + (j - q.i) = j := by omega
   refine aN (σ₁ := ⟨lW st chs opp a (some (.int j)), (a, .list l) :: oS st dx tx tdx er t q rest⟩) ?_ ?_
   · clear huS huE hms hu hl hr hk
     refine BF (jN (dW.count (fun j => ⟨lW st chs opp a (some (.int j)), (a, .list l) :: oS st dx tx tdx er t q rest⟩) (m := j - q.i) (k := q.i) ?_ ?_)) (by rw [hm'])
     · intro i p1 p2
       rw [hm'] at p2
       obtain ⟨hlt, hui⟩ := sin i p1 p2
       have hl := cH hlt
       have hui : (m q.c[i] == opp) = true := by rw [← hu₀] at hui; exact hui
       generalize q.c[i] = z at hl hui
       exact ⟨dq [st, tx, er, a] (dUs dx tdx t chs opp (some (.int i)) none q l [] rest) (dUs dx tdx t chs opp (some (.int i)) none q l [] rest) [.br true, .ch z, .cmp (m z), .br true] (pxo hB) (qa (qa (qa (qa (qa trivial (show (!decide ((i : Int) = (q.c.length : Int))) = true by rw [decide_eq_false (by omega)]; rfl)) hl) hz') (uQ hm z ((dUs dx tdx t chs opp (some (.int i)) none q l [] rest).to [st, tx, er, a]))) hui),
        ar [st, tx, er, a] (dUs dx tdx t chs opp (some (.int i)) none q l [] rest) (dUs dx tdx t chs opp (some (.int (i + 1 : Nat))) none q l [] rest) [] .next (pxo hB) trivial⟩
     · rw [hm']
       by_cases hlt : j < q.c.length
       · have hl := cH hlt
         have hui : (m q.c[j] == opp) = false := by
          have := sout j hs hlt
          rw [← hu₀] at this
          exact this
         generalize q.c[j] = z at hl hui
         exact dq [st, tx, er, a] (dUs dx tdx t chs opp (some (.int j)) none q l [] rest) (dUs dx tdx t chs opp (some (.int j)) none q l [] rest) [.br true, .ch z, .cmp (m z), .br false] (pxo hB) (qa (qa (qa (qa (qa trivial (show (!decide ((j : Int) = (q.c.length : Int))) = true by rw [decide_eq_false (by omega)]; rfl)) hl) hz') (uQ hm z ((dUs dx tdx t chs opp (some (.int j)) none q l [] rest).to [st, tx, er, a]))) hui)
       · exact dq [st, tx, er, a] (dUs dx tdx t chs opp (some (.int j)) none q l [] rest) (dUs dx tdx t chs opp (some (.int j)) none q l [] rest) [.br false] (pxo hB) (qa trivial (show (!decide ((j : Int) = (q.c.length : Int))) = false by rw [decide_eq_true (by omega)]; rfl))
   · clear sin sout
     by_cases hlt : j < q.c.length
     · obtain ⟨rfl, rfl⟩ := huS hlt
       have e2 : decide ((j : Int) = (q.c.length : Int)) = false := decide_eq_false (by omega)
       clear huS huE
       by_cases hei : j = q.i
       · subst hei
         exact bQ (ar [st, tx, er, a] (dUs dx tdx t chs opp (some (.int q.i)) none q l [] rest) (dUs dx tdx t chs opp (some (.int q.i)) none q l [] rest) [.br true, .br true] .brk (pxo hB) (qa (qa trivial (decide_eq_true (rfl : (q.i : Int) = q.i))) (show (!decide ((q.i : Int) = (q.c.length : Int))) = true by rw [e2]; rfl))) (.inr ⟨rfl, rfl, l, ms, .int q.i, hl, by rw [← hms, tq hi, List.append_nil], rfl⟩)
       · exact bQ (ar [st, tx, er, a] (dUs dx tdx t chs opp (some (.int j)) none q l [] rest) (dUs dx tdx t chs opp (some (.int j)) none { q with i := j } l [.av (.str (sl q.c (some (q.i : Int)) (some (j : Int))))] rest) [.br false, .br true] .brk (pxo hB) (qa (qa (qa (qa trivial (decide_eq_false (show ¬ (j : Int) = (q.i : Int) by omega))) (show (!decide ((j : Int) = (q.c.length : Int))) = true by rw [e2]; rfl)) hz') hll)) (.inr ⟨rfl, rfl, l ++ [.str (sl q.c (some (q.i : Int)) (some (j : Int)))], ms ++ [sl q.c (some (q.i : Int)) (some (j : Int))], .int j, dI hl, by rw [← hms]; simp, rfl⟩)
     · obtain rfl : j = q.c.length := by omega
       refine x22 (huE rfl) ?_; rintro b q₁ hrd hq
       clear huS huE hlt hs hm' hu
       have hrd' := aa.ahead (o := oS st dx tx tdx er t q rest) (o' := oS st dx tx tdx er t q₁ rest) (a := (a, .list (l ++ [.str (sl q.c (some (q.i : Int)) none)]))) (hrd (rest ++ [_]))
       refine aN (σ₁ := ⟨lW st chs opp a (some (.int q.c.length)), (a, .list l) :: oS st dx tx tdx er t q rest⟩) (cz ?_) ?_
       · by_cases hei : q.c.length = q.i
         · exact ar [st, tx, er, a] (dUs dx tdx t chs opp (some (.int q.c.length)) none q l [] rest) (dUs dx tdx t chs opp (some (.int q.c.length)) none q l [] rest) [.br true, .br false] .next (pxo hB) (qa (qa trivial (decide_eq_true (show (q.c.length : Int) = (q.i : Int) by omega))) (show (!decide ((q.i : Int) = (q.c.length : Int))) = false by rw [decide_eq_true (by omega)]; rfl))
         · exact ar [st, tx, er, a] (dUs dx tdx t chs opp (some (.int q.c.length)) none q l [] rest) (dUs dx tdx t chs opp (some (.int q.c.length)) none q l [] rest) [.br false, .br false] .next (pxo hB) (qa (qa trivial (decide_eq_false (show ¬ (q.c.length : Int) = (q.i : Int) by omega))) (show (!decide ((q.c.length : Int) = (q.c.length : Int))) = false by rw [decide_eq_true rfl]; rfl))
       rcases hq with ⟨rfl, rfl, rfl⟩ | ⟨rfl, k₁, r₁, hk₁, rfl, hu⟩
       · exact bQ (ar [st, tx, er, a] (dUs dx tdx t chs opp (some (.int q.c.length)) none q l [] rest) (dUs dx tdx t chs opp (some (.int q.c.length)) none q₁ (l ++ [.str (sl q.c (some (q.i : Int)) none)]) [] rest) [.call 0 (.av (.bool false)) ((3, .list (l ++ [.str (sl q.c (some (q.i : Int)) none)]) []) :: dOS 0 dx tdx t q₁ []) rest 3, .br false] .brk (pxo hB) (qa (qa (qa (qa trivial hz') hll) hrd') ff)) (.inr ⟨rfl, rfl, l ++ [.str (sl q.c (some (q.i : Int)) none)], ms ++ [sl q.c (some (q.i : Int)) none], .int q.c.length, dI hl, by rw [← hms]; simp, rfl⟩)
       · exact bQ (ar [st, tx, er, a] (dUs dx tdx t chs opp (some (.int q.c.length)) none q l [] rest) (dUs dx tdx t chs opp (some (.int q.c.length)) none q₁ (l ++ [.str (sl q.c (some (q.i : Int)) none)]) [] rest) [.call 0 (.av (.bool true)) ((3, .list (l ++ [.str (sl q.c (some (q.i : Int)) none)]) []) :: dOS 0 dx tdx t q₁ []) rest 3, .br true] .next (pxo hB) (qa (qa (qa (qa trivial hz') hll) hrd') tt)) (.inl ⟨rfl, k₁, hk₁, q₁, l ++ [.str (sl q.c (some (q.i : Int)) none)], ms ++ [sl q.c (some (q.i : Int)) none], r₁, some (.int q.c.length), hu, dI hl, by rw [← hms]; simp, by simp; omega, rfl⟩)
 · intro _ z9; refine x33 z9 ?_; clear z9; rintro l ms en hl hms rfl
   refine aN (iB (pI (bu rfl) (rl PySem.F.slot_str_join PySem.F.type_str_join) dU (aq (a9 (.tail _ (.tail _ (.tail _ (.head _))))) aC) (pR (.head _) hl (by rw [hms]; exact hr))) (bH (.skip (.skip (.skip (.skip (.skip .hit))))))) ?_
   exact bQ (gy (gE (a9 (.tail _ (.tail _ (.tail _ (.tail _ (.tail _ (.head _))))))))) ⟨_, rfl, oS st dx tx tdx er t q' rest, [(a, .list l)], List.perm_append_comm (l₁ := [(a, AO.list l)]), by rw [← hms], rfl⟩
end
section
variable {e test : Expr} {pos : Pos} {body : List Stmt}
section
variable {X : Cx} {σ σ₁ σ₂ : St} {Q : Bool → St → Prop} {QF : PF} {R : AV → St → Prop} {loc : LL} {objs objs' : OL} {o d : AV} {m : Nat} {f a : Addr} {l : List AV}
theorem yz {name : Str} {apos : Pos} {args : List Expr} {ds : List AV} {pl : Sem Bool} {g self : Addr} {P : AV → OL → Prop} (h1 : Ev X e σ o σ₁) (hm : oX X o name (.meth g self) σ₁) (hf : fnIn X.B.K g = true) (h2 : EvL X args σ₁ ds ⟨loc, objs⟩)
 (c : aa X.B m g (.ref self :: ds) objs P) (hn : m ≤ X.n)
 (he : autoParam (eval (.Call (.Attribute e name apos) args [] pos) X.env = (do
  let ov ← eval e X.env
  standAt apos.atName
  let (f, first) ← holding [ov] (getMethod ov name pl)
  callWith pos f first (backTo pos (starEach args X.env)) [])) bR) (hp : autoParam ((backTo pos (starEach args X.env)).any (·.1) = false) bR) : EvQ X (.Call (.Attribute e name apos) args [] pos) σ fun d σ' => ∃ q, P d q ∧ σ' = ⟨loc, q⟩ :=
 ⟨fun H Φ h => by
 rw [he]
 refine aj (h1.run _ _ fun vo => al ?_)
 refine eT (ag (hm.run _ vo pl (fun p F σ₂ => p.2 = [] ∧ σ₂ = σ₁ ∧ Is X.B.P F p.1 (.meth g self)) hd0 fun v F hv => ⟨rfl, rfl, hv⟩)) ?_
 rintro ⟨v, fs⟩ F σ₂ ⟨rfl, rfl, hv⟩
 refine ⟨(v, .meth g self) :: (vo, o) :: H, fun _ h => .tail _ h, fun x hx => ?_, ?_⟩
 · rcases mC0 hx with rfl | hx
   · exact .inr hv
   · exact .inl hx
 · exact m8 hd0 hf (h2.run _ _ _ fun vs hl => kO (List.mem_append_right _ hd0) c hn hl (fun _ hp => List.mem_append_left _ hp) fun d' o' w v => h _ _ _ ⟨o', w, rfl⟩) hp⟩
structure TeQ (X : Cx) (e : Expr) (σ : St) (Q : Bool → St → Prop) : Prop where
 run : ∀ (H : HL) (Φ : Bool → St → Prop), (∀ b σ', Q b σ' → Φ b σ') → WB X.B X.n X.L (isTrue e X.env (eval e X.env)) H σ Φ
theorem wD (h1 : EvQ X e σ R) (h2 : ∀ d σ', R d σ' → ∃ c, hY X d c σ' ∧ Q c σ') (hs : ∀ whole, isTrue e X.env whole = (do let v ← whole; standAt e.pos; holding [v] (truthy v)) := by with_unfolding_all exact fun _ => rfl) : TeQ X e σ Q :=
 ⟨fun _ _ h => jC (h1.run _ _ fun _ d σ' w => by refine x12 (h2 d σ' w) ?_; rintro c w1 w2; exact w1.run _ _ _ hd0 (h _ _ w2)) hs⟩
theorem rC {t : Expr} {attr : Str} {p : Pos} (h1 : EvQ X e σ R) (h2 : ∀ d σ', R d σ' → ∃ o σ₁ σ₂, Ev X t σ' o σ₁ ∧ k6 X o attr d σ₁ σ₂ ∧ QF .next σ₂) (hs : autoParam (swapsWith e (some (.Attribute t attr p)) pos.line X.env = pure false) bR) : ExQ X (.Assign [.Attribute t attr p] e pos) σ QF :=
 ⟨fun H Φ h => cU (h1.run _ _ fun v d σ' w => by
  refine x33 (h2 d σ' w) ?_; rintro o σ₁ σ₂ w1 w2 w3
  exact w1.run _ _ fun _ => w2.run _ _ _ _ hd0 hd1 (h _ _ w3)) hs⟩
end
section
variable {γ : Type} {B : ab} {n m : Nat} {L : Addr} {YJ : γ → AV → OL → Prop} {RJ : OL → Prop} {c : Code} {fs : List Frame} {tr : List γ} {σ σ' : St} {K : Flow → Sem Fin} {Hh : Value → Sem Fin} {gd : Bool → Bool} {lv : List Value → List Value} {env : Env}
noncomputable def Rnd (B : ab) (m : Nat) (L : Addr) (YJ : γ → AV → OL → Prop) (RJ : OL → Prop) (test : Expr) (body : List Stmt) (env : Env) (fs : List Frame) (tr : List γ) (b : Bool) (σ' : St) : Prop :=
 (b = true → ∀ Hh, GW B m L YJ RJ (.whileLoop test body [] env) fs ((execs body env).wrap (fun f => match f with
  | .next | .cont => .pure (.again (.whileLoop test body [] env))
  | .brk => .pure (.done .next)
  | .ret v => .pure (.done (.ret v))) Hh id id) tr σ') ∧
 (b = false → GW B m L YJ RJ (.whileLoop test body [] env) fs (.pure (.done .next)) tr σ')
theorem GW.roundQ (hr : bF m n (.whileLoop test body [] env) fs) (h : TeQ ⟨B, n, L, env⟩ test σ (Rnd B m L YJ RJ test body env fs tr)) : GW B m L YJ RJ (.whileLoop test body [] env) fs (B.M.den (.whileLoop test body [] env)) tr σ :=
 GW.round hr (h.run _ _ fun _ _ w => w)
theorem GW.roundY (hr : bF m n (.whileLoop test body [] env) fs) (h : Te ⟨B, n, L, env⟩ test σ true σ') (k : ∀ Hh, GW B m L YJ RJ (.whileLoop test body [] env) fs ((execs body env).wrap (fun f => match f with
 | .next | .cont => .pure (.again (.whileLoop test body [] env))
 | .brk => .pure (.done .next)
 | .ret v => .pure (.done (.ret v))) Hh id id) tr σ') : GW B m L YJ RJ (.whileLoop test body [] env) fs (B.M.den (.whileLoop test body [] env)) tr σ :=
 GW.round hr (h.run _ _ ⟨fun _ => k, fun e => nomatch e⟩)
theorem GW.roundN (hr : bF m n (.whileLoop test body [] env) fs) (h : Te ⟨B, n, L, env⟩ test σ false σ') (k : GW B m L YJ RJ (.whileLoop test body [] env) fs (.pure (.done .next)) tr σ') : GW B m L YJ RJ (.whileLoop test body [] env) fs (B.M.den (.whileLoop test body [] env)) tr σ :=
 GW.round hr (h.run _ _ ⟨nofun, fun _ => k⟩)
theorem GW.yieldsE {x : γ} {d : AV} {yp : Pos} (hr : bF m n c fs) (hfs : splitAtGen fs = none) (hfg : fs.any Frame.guarded = false)
 (h : Ev ⟨B, n, L, env⟩ e σ d σ') (hy : YJ x d σ'.objs) (k : GW B m L YJ RJ c fs (K .next) tr σ') (hgd : autoParam (gd false = false) bR) (hco : autoParam (env.scope.isCoroutine = false) bR) (hi : autoParam (interactive env = false) bR) :
 GW B m L YJ RJ c fs ((exec (.Expr (.Yield (some e) yp) pos) env).wrap K Hh gd lv) (x :: tr) σ := GW.yields hr hfs hgd hfg (h.run _ _ fun _ => ⟨hy, k⟩) hco hi
end
section
variable {γ : Type} {B : ab} {st dx tx tdx er tk kdx lf : Addr} {t : List Nat} {g : AV → SS → γ} {P : SS → Prop}
noncomputable abbrev tS (st dx tx tdx er tk kdx lf qa : Addr) (t : List Nat) (q : SS) (f : Addr) (cur : AV) (ks : List AV) (rest : OL) : OL :=
 oS st dx tx tdx er t q (tkO st f tk kdx lf qa cur :: (qa, .list ks) :: rest)
noncomputable def YJt (st dx tx tdx er tk kdx lf : Addr) (t : List Nat) (g : AV → SS → γ) (x : γ) (d : AV) (o : OL) : Prop := ∃ qa q f cur ks rest, x = g d q ∧ o = tS st dx tx tdx er tk kdx lf qa t q f cur ks rest
noncomputable def RJt (st dx tx tdx er tk kdx lf : Addr) (t : List Nat) (P : SS → Prop) (o : OL) : Prop := ∃ qa q f cur ks rest, P q ∧ o = tS st dx tx tdx er tk kdx lf qa t q f cur ks rest
noncomputable abbrev yK (e : AV) : AV := .dct [("type", .int 7), ("data", e)]
noncomputable def kD (B : ab) (st dx tx tdx er tk kdx lf qa : Addr) (t : List Nat) (g : AV → SS → γ) (P : SS → Prop) : Nat → SS → Addr → AV → OL → List γ → Prop
 | 0 => fun _ _ _ _ _ => False
 | k + 1 => fun q f cur rest tr => fnIn B.K f = true ∧ aa B 5 f [.ref tk] (tS st dx tx tdx er tk kdx lf qa t q f cur [] rest) fun d o => ∃ q' f' cur' ks rest', o = tS st dx tx tdx er tk kdx lf qa t q' f' cur' ks rest' ∧
  ((d = .bool false ∧ tr = [] ∧ P q') ∨ (d = .bool true ∧ q'.es.length ≤ 16777216 ∧ ks.length ≤ 16777216 ∧ ∃ tr', tr = (q'.es.map fun e => g (yK e) q') ++ ((ks.map fun d => g d q') ++ tr') ∧ kD B st dx tx tdx er tk kdx lf qa t g P k { q' with es := [] } f' cur' rest' tr'))
noncomputable def zP (g : AV → SS → γ) : Prop := ∀ d q es, g d { q with es := es } = g d q
end
noncomputable def dTk (kdx lf : Addr) (f : Addr) (cur : DV) : Nat × DO := (0, .inst 762 kdx [("stream", .slot 1), ("parser", .av .none), ("escapeFlag", .av (.bool false)), ("lastFourChars", .av (.ref lf)), ("state", .meth f 0), ("escape", .av (.bool false)), ("currentToken", cur), ("tokenQueue", .slot 4)])
noncomputable def dTS (dx tdx kdx lf : Addr) (t : List Nat) (q : SS) (f : Addr) (cur : DV) (ks : List AV) (ps : List DV) (r : List (Nat × DO)) : List (Nat × DO) :=
 dSO 1 dx tdx q.c q.c.length q.i q.pl q.pc q.buf t q.p q.es [] (dTk kdx lf f cur :: (4, .list ks ps) :: r)
theorem sJ {γ : Type} {B : ab} {st dx tx tdx er tk kdx lf f : Addr} {cur : AV} {t : List Nat} {g : AV → SS → γ} {P : SS → Prop} {rest : OL} (hB : IsB B) (hg : zP g) {k : Nat} {q : SS} {tr : List γ} {n : Nat}
 (hT : ∀ qa, kD B st dx tx tdx er tk kdx lf qa t g P k q f cur rest tr) :
 eS B n 6 tk (oS st dx tx tdx er t q ((tk, .inst 762 kdx (uk st f tk lf cur)) :: rest)) (YJt st dx tx tdx er tk kdx lf t g) (RJt st dx tx tdx er tk kdx lf t P) tr := by
 refine eS.of (f := 268) (C := 762) (pself := "self") (by rw [hB.K]; rfl) (.tail _ (.tail _ (.tail _ (.head _)))) (by rw [hB.K]; kernel_rfl) (by rw [hB.K]; kernel_rfl) (by rw [hB.K]; kernel_rfl) (.one fun _ => rfl) fun L => ?_
 refine GW.body fun Hh => GW.steps (GW.stmt (n := 5) bZ ((rC (X := ⟨B, 5, L, _⟩) (s0 aC (by decide)) ?_).run _ _ fun f σ' q => q))
 intro _ _ z9; refine x12 z9 ?_; clear z9; rintro qa rfl rfl
 refine' ⟨.ref tk, _, _, a9 (.head _), kE (.tail _ (.tail _ (.tail _ (.tail _ (.head _))))) (.skip (by kernel_rfl) (.skip (by kernel_rfl) (.skip (by kernel_rfl) (.skip (by kernel_rfl) (.skip (by kernel_rfl) (.skip (by kernel_rfl) (.skip (by kernel_rfl) .new))))))) (.tail (.tail (.tail (.tail .head)))) (by rw [hB.K]; kernel_rfl), rfl, ?_⟩
 refine GW.perm (objs' := tS st dx tx tdx er tk kdx lf qa t q f cur [] rest) (rest := []) (by rw [List.append_nil]; exact (List.perm_middle (l₁ := [_, _, _, _])).symm) ?_
 refine GW.steps (GW.whiles fun p kk hk => ?_)
 replace hT := hT qa
 induction k generalizing q f cur rest tr with
 | zero => exact hT.elim
 | succ k ih =>
  obtain ⟨hf, hc⟩ := hT
  refine GW.roundQ (n := 5) (aT bZ) (wD (yz (a9 (.head _)) (Ao (.tail _ (.tail _ (.tail _ (.head _)))) (.skip (by kernel_rfl) (.skip (by kernel_rfl) (.skip (by kernel_rfl) (.skip (by kernel_rfl) .hit)))) (by rw [hB.K]; kernel_rfl) (by rw [hB.K]; kernel_rfl) rfl) hf aC hc (lB0 rfl)) ?_)
  intro d _ z9; refine x12 z9 ?_; clear z9; rintro _ ⟨⟨c, i, pl, pc, buf, pp, es⟩, f', cur', ks, rest', rfl, hd⟩ rfl
  clear hc
  rcases hd with ⟨rfl, rfl, hp⟩ | ⟨rfl, he, hks, tr', htr, hT'⟩
  · refine ⟨false, jy, nofun, fun _ => ?_⟩
    refine GW.back ?_
    rw [hk]
    exact GW.over ⟨qa, _, f', cur', ks, rest', hp, rfl⟩
  · refine ⟨true, jy, fun _ Hh' => ?_, nofun⟩
    refine GW.steps (GW.whiles fun p₁ kk₁ hk₁ => ?_)
    dsimp only at he htr hT' ⊢
    have hge : ∀ d es, g d ⟨c, i, pl, pc, buf, pp, es⟩ = g d ⟨c, i, pl, pc, buf, pp, []⟩ := fun d es => hg d ⟨c, i, pl, pc, buf, pp, []⟩ es
    simp only [hge] at htr
    subst htr
    induction es with
    | cons e es ihe =>
     have hez : es.length ≤ 16777215 := by simpa using he
     have hez' : (e :: es).length ≤ 16777216 := he
     refine GW.roundY (n := 5) (σ' := ⟨[("self", some (.ref tk))], tS st dx tx tdx er tk kdx lf qa t ⟨c, i, pl, pc, buf, pp, e :: es⟩ f' cur' ks rest'⟩) (aT (aT bZ)) (kK (c := !(e :: es).isEmpty) ?_ rfl) fun Hh₂ => GW.steps ?_
     · exact dq [tk, st, tx, er, qa] ⟨[("self", some (.slot 0))], dTS dx tdx kdx lf t ⟨c, i, pl, pc, buf, pp, e :: es⟩ f' (.av cur') ks [] [], rest'⟩ ⟨[("self", some (.slot 0))], dTS dx tdx kdx lf t ⟨c, i, pl, pc, buf, pp, e :: es⟩ f' (.av cur') ks [] [], rest'⟩ [.br true] (pxo hB) (_root_.Mine.qa (_root_.Mine.qa trivial hez') tt)
     rw [List.map_cons, List.cons_append]
     refine GW.yieldsE (n := 5) (σ' := ⟨[("self", some (.ref tk))], tS st dx tx tdx er tk kdx lf qa t ⟨c, i, pl, pc, buf, pp, es⟩ f' cur' ks rest'⟩) (d := yK e) (aT (aT bZ)) rfl rfl ?_ ⟨qa, ⟨c, i, pl, pc, buf, pp, es⟩, f', cur', ks, rest', (hge _ _).symm, rfl⟩ (GW.turn rfl (ihe (by exact Nat.le_of_lt ‹_›)))
     exact jd [tk, st, tx, er, qa] ⟨[("self", some (.slot 0))], dTS dx tdx kdx lf t ⟨c, i, pl, pc, buf, pp, e :: es⟩ f' (.av cur') ks [] [], rest'⟩ ⟨[("self", some (.slot 0))], dTS dx tdx kdx lf t ⟨c, i, pl, pc, buf, pp, es⟩ f' (.av cur') ks [] [], rest'⟩ [] (.av (yK e)) (pxo hB) (_root_.Mine.qa trivial hez)
    | nil =>
     refine GW.roundN (n := 5) (σ' := ⟨[("self", some (.ref tk))], tS st dx tx tdx er tk kdx lf qa t ⟨c, i, pl, pc, buf, pp, []⟩ f' cur' ks rest'⟩) (aT (aT bZ)) (kK (c := !([] : List AV).isEmpty) ?_ rfl) ?_
     · exact dq [tk, st, tx, er, qa] ⟨[("self", some (.slot 0))], dTS dx tdx kdx lf t ⟨c, i, pl, pc, buf, pp, []⟩ f' (.av cur') ks [] [], rest'⟩ ⟨[("self", some (.slot 0))], dTS dx tdx kdx lf t ⟨c, i, pl, pc, buf, pp, []⟩ f' (.av cur') ks [] [], rest'⟩ [.br false] (pxo hB) (_root_.Mine.qa (_root_.Mine.qa trivial (big (Nat.le_refl 0))) ff)
     refine GW.back ?_
     rw [hk₁]
     refine GW.steps (GW.whiles fun p₂ kk₂ hk₂ => ?_)
     rw [List.map_nil, List.nil_append]
     clear he
     induction ks with
     | cons e ks ihk =>
      have hez : ks.length ≤ 16777215 := by simpa using hks
      refine GW.roundY (n := 5) (σ' := ⟨[("self", some (.ref tk))], tS st dx tx tdx er tk kdx lf qa t ⟨c, i, pl, pc, buf, pp, []⟩ f' cur' (e :: ks) rest'⟩) (aT (aT bZ)) (kK (c := !(e :: ks).isEmpty) ?_ rfl) fun Hh₂ => GW.steps ?_
      · exact dq [tk, st, tx, er, qa] ⟨[("self", some (.slot 0))], dTS dx tdx kdx lf t ⟨c, i, pl, pc, buf, pp, []⟩ f' (.av cur') (e :: ks) [] [], rest'⟩ ⟨[("self", some (.slot 0))], dTS dx tdx kdx lf t ⟨c, i, pl, pc, buf, pp, []⟩ f' (.av cur') (e :: ks) [] [], rest'⟩ [.br true] (pxo hB) (_root_.Mine.qa (_root_.Mine.qa trivial (show (e :: ks).length ≤ 16777216 from hks)) tt)
      rw [List.map_cons, List.cons_append]
      refine GW.yieldsE (n := 5) (σ' := ⟨[("self", some (.ref tk))], tS st dx tx tdx er tk kdx lf qa t ⟨c, i, pl, pc, buf, pp, []⟩ f' cur' ks rest'⟩) (d := e) (aT (aT bZ)) rfl rfl ?_ ⟨qa, ⟨c, i, pl, pc, buf, pp, []⟩, f', cur', ks, rest', rfl, rfl⟩ (GW.turn rfl (ihk (by exact Nat.le_of_lt ‹_›)))
      exact jd [tk, st, tx, er, qa] ⟨[("self", some (.slot 0))], dTS dx tdx kdx lf t ⟨c, i, pl, pc, buf, pp, []⟩ f' (.av cur') (e :: ks) [] [], rest'⟩ ⟨[("self", some (.slot 0))], dTS dx tdx kdx lf t ⟨c, i, pl, pc, buf, pp, []⟩ f' (.av cur') ks [] [], rest'⟩ [] (.av e) (pxo hB) (_root_.Mine.qa trivial hez)
     | nil =>
      refine GW.roundN (n := 5) (σ' := ⟨[("self", some (.ref tk))], tS st dx tx tdx er tk kdx lf qa t ⟨c, i, pl, pc, buf, pp, []⟩ f' cur' [] rest'⟩) (aT (aT bZ)) (kK (c := !([] : List AV).isEmpty) ?_ rfl) ?_
      · exact dq [tk, st, tx, er, qa] ⟨[("self", some (.slot 0))], dTS dx tdx kdx lf t ⟨c, i, pl, pc, buf, pp, []⟩ f' (.av cur') [] [] [], rest'⟩ ⟨[("self", some (.slot 0))], dTS dx tdx kdx lf t ⟨c, i, pl, pc, buf, pp, []⟩ f' (.av cur') [] [] [], rest'⟩ [.br false] (pxo hB) (_root_.Mine.qa (_root_.Mine.qa trivial (big (Nat.le_refl 0))) ff)
      refine GW.back ?_
      rw [hk₂]
      exact GW.turn rfl (ih hT')
end
section
set_option genInjectivity false
noncomputable def a7 (B : ab) (st dx tx tdx er : Addr) (t : List Nat) (m : Nat) (f : Addr) (args : List AV) (d : AV) (q q' : SS) : Prop := ∀ rest, aa B m f (.ref st :: args) (oS st dx tx tdx er t q rest) fun d' o => d' = d ∧ o = oS st dx tx tdx er t q' rest
noncomputable def dCm (acc : List Nat) : Nat × DO := (5, .dict [("type", .av (.int 6)), ("data", .av (.str acc))])
theorem kzj {n : Nat} (j : Nat) (h : n ≤ 1000) (hj : autoParam (Nat.ble j 1000 = true) bR) : n + j ≤ 16777216 := nT0 (Nat.add_le_add h (lB0 hj)) (by decide)
theorem lz1 {z : Nat} {r : List Nat} (h : r.length ≤ 16777000) : ([z] : List Nat).length + r.length ≤ 16777216 := nT0 (Nat.add_le_add (Nat.le_refl 1) h) (by decide)
theorem lz2 {acc : List Nat} {k : Nat} (h : acc.length ≤ 16777000) (hk : autoParam (Nat.ble k 200 = true) bR) : acc.length + k ≤ 16777216 := nT0 (Nat.add_le_add h (lB0 hk)) (by decide)
theorem lz3 (k : Nat) (h : autoParam (Nat.ble k 16777216 = true) bR) : k ≤ 16777216 := lB0 h
theorem lz4 {acc r : List Nat} {z : Nat} (h : acc.length + r.length ≤ 16777000) : acc.length + ([z] ++ r).length ≤ 16777216 := by
 rw [List.singleton_append, List.length_cons, ← Nat.add_assoc]
 exact nT0 (Nat.succ_le_succ h) (by decide)
noncomputable abbrev eE (x : String) : AV := .dct [("type", .int 7), ("data", .str (sg x))]
noncomputable abbrev KJ (B : ab) (f tk : Addr) (o : OL) (b : Bool) (o' : OL) : Prop := aa B 5 f [.ref tk] o fun d z => d = .bool b ∧ z = o'
section
variable {B : ab} {n : Nat} {name qual : Str} {params : Arguments} {body : List Stmt} {scope : Scope} {dV kV doc pm cdv ct oc : Value} {an od : Option Addr} {osl : Array (Option Value)} {f : Addr} {args : List AV} {objs : OL} {q : Prop}
theorem bC {objs' : OL} (xs : List Str) (ρ : List Addr) (os : List (Nat × DO)) (rest : OL) (hints : List cD) (b : Bool) (os' : List (Nat × DO)) (hB : IsB B) (hq : q)
 (ho : autoParam ((eC B.P).lookup f = some ⟨oc, od, .func (fnOf name qual params body scope dV kV doc pm an cdv ct), osl⟩) bR) (hb : bm B (fnOf name qual params body scope dV kV doc pm an cdv ct) ["self"] args (tos ρ [.slot 0]) := by exact .one fun _ => rfl)
 (eo : autoParam (a8 ρ rest os = objs) bK) (e2 : autoParam (a8 ρ rest os' = objs') bK)
 (ck : autoParam ((codeIn (eC B.P) cdv qual && fD scope && cu ((["self"] : List Str) ++ xs) && (["self"] : List Str).all (fun y => scope.names.lookup y == some .local) && Nat.beq 1 1) = true) bK) (fu : autoParam (kG scope = true) bK)
 (e : ∀ L, (ob (exB (f7 (P := ⟨⟨B, n, L, envOf qual scope L f cdv⟩, eC B.P, ρ, glT, []⟩) ⟨hB.K, (d6 fu).1, rfl, rfl, rfl, fb hB, nofun⟩ 60) body ⟨⟨nE ["self"] [.slot 0] xs, os, rest⟩, 0, hints, True⟩) fun p => pQ p.1.1 p.1.2) = some ⟨q, 0, .av (.bool b), os', rest⟩ := by intro L; kernel_rfl) :
 aa B (n + 1) f args objs fun d o => d = .bool b ∧ o = objs' := fJ ["self"] xs ρ [.slot 0] os rest hints (.av (.bool b)) os' rest hB ho hb hq eo rfl e2 ck fu e
end
section
variable {B : ab} {R : OL} {st dx tx w er g v u lf f da : Addr} {t : List Nat} {cur : AV} {q q₁ q₂ : SS} {ks : List AV} {z : Nat} {r a : List Nat}
theorem qq (hB : IsB B) (hc : a7 B st dx tx w er t 4 133 [] (.str [60]) q q₁) (hk : ks.length ≤ 1000) :
 KJ B 304 g (tS st dx tx w er g v lf u t q f cur ks R) true (tS st dx tx w er g v lf u t q₁ 353 cur ks R) :=
 bC ["data", "chars"] [g, st, tx, er, u] (dTS dx w v lf t q f (.av cur) ks [] []) R [.call 0 (.av (.str [60])) (dTS dx w v lf t q₁ f (.av cur) ks [] []) R 4, .br false, .br true] true (dTS dx w v lf t q₁ 353 (.av cur) ks [] []) hB (qa (qa (qa trivial (hc (a8 [g, st, tx, er, u] R (dTk v lf f (.av cur) :: (4, .list ks []) :: [])))) ff) tt)
theorem nB (hB : IsB B) (hc : a7 B st dx tx w er t 4 133 [] .none q q₁) (hk : ks.length ≤ 1000) :
 KJ B 304 g (tS st dx tx w er g v lf u t q f cur ks R) false (tS st dx tx w er g v lf u t q₁ f cur ks R) :=
 bC ["data", "chars"] [g, st, tx, er, u] (dTS dx w v lf t q f (.av cur) ks [] []) R [.call 0 (.av .none) (dTS dx w v lf t q₁ f (.av cur) ks [] []) R 4] false (dTS dx w v lf t q₁ f (.av cur) ks [] []) hB (qa trivial (hc (a8 [g, st, tx, er, u] R (dTk v lf f (.av cur) :: (4, .list ks []) :: []))))
theorem qt (hB : IsB B) (hc : a7 B st dx tx w er t 4 133 [] (.str [z]) q q₁) (h1 : z ≠ 38) (h2 : z ≠ 60) (h3 : z ≠ 0) (h4 : decide ([z] ∈ aQ) = true) (hu : a7 B st dx tx w er t 4 156 [.tup (aQ.map .str), .bool true] (.str r) q₁ q₂) (hr : r.length ≤ 16777000) (hk : ks.length ≤ 1000) :
 KJ B 304 g (tS st dx tx w er g v lf u t q f cur ks R) true (tS st dx tx w er g v lf u t q₂ f cur (ks ++ [.dct [("type", .int 2), ("data", .str (z :: r))]]) R) :=
 bC ["data", "chars"] [g, st, tx, er, u] (dTS dx w v lf t q f (.av cur) ks [] []) R [.call 0 (.av (.str [z])) (dTS dx w v lf t q₁ f (.av cur) ks [] []) R 4, .br false, .br false, .br false, .br true, .call 0 (.av (.str r)) (dTS dx w v lf t q₂ f (.av cur) ks [] []) R 4] true (dTS dx w v lf t q₂ f (.av cur) ks [.av (.dct [("type", .int 2), ("data", .str (z :: r))])] []) hB (qa (qa (qa (qa (qa (qa (qa (qa trivial (hc (a8 [g, st, tx, er, u] R (dTk v lf f (.av cur) :: (4, .list ks []) :: [])))) (ne1 h1)) (ne1 h2)) (ne1 h3)) h4) (hu (a8 [g, st, tx, er, u] R (dTk v lf f (.av cur) :: (4, .list ks []) :: [])))) (lz1 (z := z) hr)) (kzj 0 hk))
theorem qZ (hB : IsB B) (hc : a7 B st dx tx w er t 4 133 [] (.str [z]) q q₁) (h1 : z ≠ 38) (h2 : z ≠ 60) (h3 : z ≠ 0) (h4 : decide ([z] ∈ aQ) = false) (hu : a7 B st dx tx w er t 4 156 [.tup [.str [38], .str [60], .str [0]]] (.str r) q₁ q₂) (hr : r.length ≤ 16777000) (hk : ks.length ≤ 1000) :
 KJ B 304 g (tS st dx tx w er g v lf u t q f cur ks R) true (tS st dx tx w er g v lf u t q₂ f cur (ks ++ [.dct [("type", .int 1), ("data", .str (z :: r))]]) R) :=
 bC ["data", "chars"] [g, st, tx, er, u] (dTS dx w v lf t q f (.av cur) ks [] []) R [.call 0 (.av (.str [z])) (dTS dx w v lf t q₁ f (.av cur) ks [] []) R 4, .br false, .br false, .br false, .br false, .call 0 (.av (.str r)) (dTS dx w v lf t q₂ f (.av cur) ks [] []) R 4] true (dTS dx w v lf t q₂ f (.av cur) ks [.av (.dct [("type", .int 1), ("data", .str (z :: r))])] []) hB (qa (qa (qa (qa (qa (qa (qa (qa trivial (hc (a8 [g, st, tx, er, u] R (dTk v lf f (.av cur) :: (4, .list ks []) :: [])))) (ne1 h1)) (ne1 h2)) (ne1 h3)) h4) (hu (a8 [g, st, tx, er, u] R (dTk v lf f (.av cur) :: (4, .list ks []) :: [])))) (lz1 (z := z) hr)) (kzj 0 hk))
theorem nF (hB : IsB B) (hc : a7 B st dx tx w er t 4 133 [] (.str [33]) q q₁) (hk : ks.length ≤ 1000) :
 KJ B 353 g (tS st dx tx w er g v lf u t q f cur ks R) true (tS st dx tx w er g v lf u t q₁ 605 cur ks R) :=
 bC ["data"] [g, st, tx, er, u] (dTS dx w v lf t q f (.av cur) ks [] []) R [.call 0 (.av (.str [33])) (dTS dx w v lf t q₁ f (.av cur) ks [] []) R 4, .br true] true (dTS dx w v lf t q₁ 605 (.av cur) ks [] []) hB (qa (qa trivial (hc (a8 [g, st, tx, er, u] R (dTk v lf f (.av cur) :: (4, .list ks []) :: [])))) tt)
theorem t9 (hB : IsB B) (hc : a7 B st dx tx w er t 4 133 [] (.str [47]) q q₁) (hk : ks.length ≤ 1000) :
 KJ B 353 g (tS st dx tx w er g v lf u t q f cur ks R) true (tS st dx tx w er g v lf u t q₁ 360 cur ks R) :=
 bC ["data"] [g, st, tx, er, u] (dTS dx w v lf t q f (.av cur) ks [] []) R [.call 0 (.av (.str [47])) (dTS dx w v lf t q₁ f (.av cur) ks [] []) R 4, .br false, .br true] true (dTS dx w v lf t q₁ 360 (.av cur) ks [] []) hB (qa (qa (qa trivial (hc (a8 [g, st, tx, er, u] R (dTk v lf f (.av cur) :: (4, .list ks []) :: [])))) ff) tt)
theorem uE (hB : IsB B) (hc : a7 B st dx tx w er t 4 133 [] (.str [62]) q q₁) (hk : ks.length ≤ 1000) :
 KJ B 353 g (tS st dx tx w er g v lf u t q f cur ks R) true (tS st dx tx w er g v lf u t q₁ 304 cur (ks ++ [eE "expected-tag-name-but-got-right-bracket", .dct [("type", .int 1), ("data", .str [60, 62])]]) R) :=
 bC ["data"] [g, st, tx, er, u] (dTS dx w v lf t q f (.av cur) ks [] []) R [.call 0 (.av (.str [62])) (dTS dx w v lf t q₁ f (.av cur) ks [] []) R 4, .br false, .br false, .br false, .br true] true (dTS dx w v lf t q₁ 304 (.av cur) ks [.av (eE "expected-tag-name-but-got-right-bracket"), .av (.dct [("type", .int 1), ("data", .str [60, 62])])] []) hB (qa (qa (qa (qa (qa (qa (qa trivial (hc (a8 [g, st, tx, er, u] R (dTk v lf f (.av cur) :: (4, .list ks []) :: [])))) ff) ff) ff) tt) (kzj 0 hk)) (kzj 1 hk))
theorem xB (hB : IsB B) (hc : a7 B st dx tx w er t 4 133 [] (.str [63]) q q₁) (hu : a7 B st dx tx w er t 1 163 [.str [63]] .none q₁ q₂) (hk : ks.length ≤ 1000) :
 KJ B 353 g (tS st dx tx w er g v lf u t q f cur ks R) true (tS st dx tx w er g v lf u t q₂ 598 cur (ks ++ [eE "expected-tag-name-but-got-question-mark"]) R) :=
 bC ["data"] [g, st, tx, er, u] (dTS dx w v lf t q f (.av cur) ks [] []) R [.call 0 (.av (.str [63])) (dTS dx w v lf t q₁ f (.av cur) ks [] []) R 4, .br false, .br false, .br false, .br false, .br true, .call 0 (.av .none) (dTS dx w v lf t q₂ f (.av cur) ks [.av (eE "expected-tag-name-but-got-question-mark")] []) R 1] true (dTS dx w v lf t q₂ 598 (.av cur) ks [.av (eE "expected-tag-name-but-got-question-mark")] []) hB (qa (qa (qa (qa (qa (qa (qa (qa trivial (hc (a8 [g, st, tx, er, u] R (dTk v lf f (.av cur) :: (4, .list ks []) :: [])))) ff) ff) ff) ff) tt) (kzj 0 hk)) (hu (a8 [g, st, tx, er, u] R (dTk v lf f (.av cur) :: (4, .list ks [.av (eE "expected-tag-name-but-got-question-mark")]) :: []))))
theorem nN (hB : IsB B) (hc : a7 B st dx tx w er t 4 133 [] (.str [z]) q q₁) (h1 : z ≠ 33) (h2 : z ≠ 47) (h3 : decide ([z] ∈ eQ) = false) (h4 : z ≠ 62) (h5 : z ≠ 63) (hu : a7 B st dx tx w er t 1 163 [.str [z]] .none q₁ q₂) (hk : ks.length ≤ 1000) :
 KJ B 353 g (tS st dx tx w er g v lf u t q f cur ks R) true (tS st dx tx w er g v lf u t q₂ 304 cur (ks ++ [eE "expected-tag-name", .dct [("type", .int 1), ("data", .str [60])]]) R) :=
 bC ["data"] [g, st, tx, er, u] (dTS dx w v lf t q f (.av cur) ks [] []) R [.call 0 (.av (.str [z])) (dTS dx w v lf t q₁ f (.av cur) ks [] []) R 4, .br false, .br false, .br false, .br false, .br false, .call 0 (.av .none) (dTS dx w v lf t q₂ f (.av cur) ks [.av (eE "expected-tag-name"), .av (.dct [("type", .int 1), ("data", .str [60])])] []) R 1] true (dTS dx w v lf t q₂ 304 (.av cur) ks [.av (eE "expected-tag-name"), .av (.dct [("type", .int 1), ("data", .str [60])])] []) hB (qa (qa (qa (qa (qa (qa (qa (qa (qa trivial (hc (a8 [g, st, tx, er, u] R (dTk v lf f (.av cur) :: (4, .list ks []) :: [])))) (ne1 h1)) (ne1 h2)) h3) (ne1 h4)) (ne1 h5)) (kzj 0 hk)) (kzj 1 hk)) (hu (a8 [g, st, tx, er, u] R (dTk v lf f (.av cur) :: (4, .list ks [.av (eE "expected-tag-name"), .av (.dct [("type", .int 1), ("data", .str [60])])]) :: []))))
theorem rd (hB : IsB B) (hc : a7 B st dx tx w er t 4 133 [] .none q q₁) (hu : a7 B st dx tx w er t 1 163 [.none] .none q₁ q₂) (hk : ks.length ≤ 1000) :
 KJ B 353 g (tS st dx tx w er g v lf u t q f cur ks R) true (tS st dx tx w er g v lf u t q₂ 304 cur (ks ++ [eE "expected-tag-name", .dct [("type", .int 1), ("data", .str [60])]]) R) :=
 bC ["data"] [g, st, tx, er, u] (dTS dx w v lf t q f (.av cur) ks [] []) R [.call 0 (.av .none) (dTS dx w v lf t q₁ f (.av cur) ks [] []) R 4, .call 0 (.av .none) (dTS dx w v lf t q₂ f (.av cur) ks [.av (eE "expected-tag-name"), .av (.dct [("type", .int 1), ("data", .str [60])])] []) R 1] true (dTS dx w v lf t q₂ 304 (.av cur) ks [.av (eE "expected-tag-name"), .av (.dct [("type", .int 1), ("data", .str [60])])] []) hB (qa (qa (qa (qa trivial (hc (a8 [g, st, tx, er, u] R (dTk v lf f (.av cur) :: (4, .list ks []) :: [])))) (kzj 0 hk)) (kzj 1 hk)) (hu (a8 [g, st, tx, er, u] R (dTk v lf f (.av cur) :: (4, .list ks [.av (eE "expected-tag-name"), .av (.dct [("type", .int 1), ("data", .str [60])])]) :: []))))
theorem yB (hB : IsB B) (hc : a7 B st dx tx w er t 4 133 [] (.str [62]) q q₁) (hk : ks.length ≤ 1000) :
 KJ B 360 g (tS st dx tx w er g v lf u t q f cur ks R) true (tS st dx tx w er g v lf u t q₁ 304 cur (ks ++ [eE "expected-closing-tag-but-got-right-bracket"]) R) :=
 bC ["data"] [g, st, tx, er, u] (dTS dx w v lf t q f (.av cur) ks [] []) R [.call 0 (.av (.str [62])) (dTS dx w v lf t q₁ f (.av cur) ks [] []) R 4, .br false, .br true] true (dTS dx w v lf t q₁ 304 (.av cur) ks [.av (eE "expected-closing-tag-but-got-right-bracket")] []) hB (qa (qa (qa (qa trivial (hc (a8 [g, st, tx, er, u] R (dTk v lf f (.av cur) :: (4, .list ks []) :: [])))) ff) tt) (kzj 0 hk))
theorem rY (hB : IsB B) (hc : a7 B st dx tx w er t 4 133 [] .none q q₁) (hk : ks.length ≤ 1000) :
 KJ B 360 g (tS st dx tx w er g v lf u t q f cur ks R) true (tS st dx tx w er g v lf u t q₁ 304 cur (ks ++ [eE "expected-closing-tag-but-got-eof", .dct [("type", .int 1), ("data", .str [60, 47])]]) R) :=
 bC ["data"] [g, st, tx, er, u] (dTS dx w v lf t q f (.av cur) ks [] []) R [.call 0 (.av .none) (dTS dx w v lf t q₁ f (.av cur) ks [] []) R 4] true (dTS dx w v lf t q₁ 304 (.av cur) ks [.av (eE "expected-closing-tag-but-got-eof"), .av (.dct [("type", .int 1), ("data", .str [60, 47])])] []) hB (qa (qa (qa trivial (hc (a8 [g, st, tx, er, u] R (dTk v lf f (.av cur) :: (4, .list ks []) :: [])))) (kzj 0 hk)) (kzj 1 hk))
theorem r0 (hB : IsB B) (hc : a7 B st dx tx w er t 4 133 [] (.str [z]) q q₁) (h3 : decide ([z] ∈ eQ) = false) (h4 : z ≠ 62) (hu : a7 B st dx tx w er t 1 163 [.str [z]] .none q₁ q₂) (hk : ks.length ≤ 1000) :
 KJ B 360 g (tS st dx tx w er g v lf u t q f cur ks R) true (tS st dx tx w er g v lf u t q₂ 598 cur (ks ++ [.dct [("type", .int 7), ("data", .str (sg "expected-closing-tag-but-got-char")), ("datavars", .dct [("data", .str [z])])]]) R) :=
 bC ["data"] [g, st, tx, er, u] (dTS dx w v lf t q f (.av cur) ks [] []) R [.call 0 (.av (.str [z])) (dTS dx w v lf t q₁ f (.av cur) ks [] []) R 4, .br false, .br false, .call 0 (.av .none) (dTS dx w v lf t q₂ f (.av cur) ks [.av (.dct [("type", .int 7), ("data", .str (sg "expected-closing-tag-but-got-char")), ("datavars", .dct [("data", .str [z])])])] []) R 1] true (dTS dx w v lf t q₂ 598 (.av cur) ks [.av (.dct [("type", .int 7), ("data", .str (sg "expected-closing-tag-but-got-char")), ("datavars", .dct [("data", .str [z])])])] []) hB (qa (qa (qa (qa (qa trivial (hc (a8 [g, st, tx, er, u] R (dTk v lf f (.av cur) :: (4, .list ks []) :: [])))) h3) (ne1 h4)) (kzj 0 hk)) (hu (a8 [g, st, tx, er, u] R (dTk v lf f (.av cur) :: (4, .list ks [.av (.dct [("type", .int 7), ("data", .str (sg "expected-closing-tag-but-got-char")), ("datavars", .dct [("data", .str [z])])])]) :: []))))
theorem px (hB : IsB B) (hc : a7 B st dx tx w er t 4 133 [] (.str [45]) q q₁) (hk : ks.length ≤ 1000) :
 KJ B 612 g (tS st dx tx w er g v lf u t q f (.ref da) ks ((da, bt a) :: R)) true (tS st dx tx w er g v lf u t q₁ 619 (.ref da) ks ((da, bt a) :: R)) :=
 bC ["data"] [g, st, tx, er, u, da] (dTS dx w v lf t q f (.slot 5) ks [] [dCm a]) R [.call 0 (.av (.str [45])) (dTS dx w v lf t q₁ f (.slot 5) ks [] [dCm a]) R 4, .br true] true (dTS dx w v lf t q₁ 619 (.slot 5) ks [] [dCm a]) hB (qa (qa trivial (hc (a8 [g, st, tx, er, u, da] R (dTk v lf f (.slot 5) :: (4, .list ks []) :: [dCm a])))) tt)
theorem x7 (hB : IsB B) (hc : a7 B st dx tx w er t 4 133 [] (.str [62]) q q₁) (hk : ks.length ≤ 1000) :
 KJ B 612 g (tS st dx tx w er g v lf u t q f (.ref da) ks ((da, bt a) :: R)) true (tS st dx tx w er g v lf u t q₁ 304 (.ref da) (ks ++ [eE "incorrect-comment", aD a]) R) :=
 bC ["data"] [g, st, tx, er, u, da] (dTS dx w v lf t q f (.slot 5) ks [] [dCm a]) R [.call 0 (.av (.str [62])) (dTS dx w v lf t q₁ f (.slot 5) ks [] [dCm a]) R 4, .br false, .br false, .br true] true (dTS dx w v lf t q₁ 304 (.slot 5) ks [.av (eE "incorrect-comment"), .av (aD a)] []) hB (qa (qa (qa (qa (qa (qa trivial (hc (a8 [g, st, tx, er, u, da] R (dTk v lf f (.slot 5) :: (4, .list ks []) :: [dCm a])))) ff) ff) tt) (kzj 0 hk)) (kzj 1 hk))
theorem tv (hB : IsB B) (hc : a7 B st dx tx w er t 4 133 [] .none q q₁) (hk : ks.length ≤ 1000) :
 KJ B 612 g (tS st dx tx w er g v lf u t q f (.ref da) ks ((da, bt a) :: R)) true (tS st dx tx w er g v lf u t q₁ 304 (.ref da) (ks ++ [eE "eof-in-comment", aD a]) R) :=
 bC ["data"] [g, st, tx, er, u, da] (dTS dx w v lf t q f (.slot 5) ks [] [dCm a]) R [.call 0 (.av .none) (dTS dx w v lf t q₁ f (.slot 5) ks [] [dCm a]) R 4] true (dTS dx w v lf t q₁ 304 (.slot 5) ks [.av (eE "eof-in-comment"), .av (aD a)] []) hB (qa (qa (qa trivial (hc (a8 [g, st, tx, er, u, da] R (dTk v lf f (.slot 5) :: (4, .list ks []) :: [dCm a])))) (kzj 0 hk)) (kzj 1 hk))
theorem qW (hB : IsB B) (hc : a7 B st dx tx w er t 4 133 [] (.str [z]) q q₁) (h1 : z ≠ 45) (h2 : z ≠ 0) (h3 : z ≠ 62) (ha : a.length ≤ 16777000) (hk : ks.length ≤ 1000) :
 KJ B 612 g (tS st dx tx w er g v lf u t q f (.ref da) ks ((da, bt a) :: R)) true (tS st dx tx w er g v lf u t q₁ 626 (.ref da) ks ((da, bt (a ++ [z])) :: R)) :=
 bC ["data"] [g, st, tx, er, u, da] (dTS dx w v lf t q f (.slot 5) ks [] [dCm a]) R [.call 0 (.av (.str [z])) (dTS dx w v lf t q₁ f (.slot 5) ks [] [dCm a]) R 4, .br false, .br false, .br false] true (dTS dx w v lf t q₁ 626 (.slot 5) ks [] [dCm (a ++ [z])]) hB (qa (qa (qa (qa (qa trivial (hc (a8 [g, st, tx, er, u, da] R (dTk v lf f (.slot 5) :: (4, .list ks []) :: [dCm a])))) (ne1 h1)) (ne1 h2)) (ne1 h3)) (lz2 (k := 1) ha))
theorem qT (hB : IsB B) (hc : a7 B st dx tx w er t 4 133 [] (.str [45]) q q₁) (hk : ks.length ≤ 1000) :
 KJ B 619 g (tS st dx tx w er g v lf u t q f (.ref da) ks ((da, bt a) :: R)) true (tS st dx tx w er g v lf u t q₁ 640 (.ref da) ks ((da, bt a) :: R)) :=
 bC ["data"] [g, st, tx, er, u, da] (dTS dx w v lf t q f (.slot 5) ks [] [dCm a]) R [.call 0 (.av (.str [45])) (dTS dx w v lf t q₁ f (.slot 5) ks [] [dCm a]) R 4, .br true] true (dTS dx w v lf t q₁ 640 (.slot 5) ks [] [dCm a]) hB (qa (qa trivial (hc (a8 [g, st, tx, er, u, da] R (dTk v lf f (.slot 5) :: (4, .list ks []) :: [dCm a])))) tt)
theorem x4 (hB : IsB B) (hc : a7 B st dx tx w er t 4 133 [] (.str [62]) q q₁) (hk : ks.length ≤ 1000) :
 KJ B 619 g (tS st dx tx w er g v lf u t q f (.ref da) ks ((da, bt a) :: R)) true (tS st dx tx w er g v lf u t q₁ 304 (.ref da) (ks ++ [eE "incorrect-comment", aD a]) R) :=
 bC ["data"] [g, st, tx, er, u, da] (dTS dx w v lf t q f (.slot 5) ks [] [dCm a]) R [.call 0 (.av (.str [62])) (dTS dx w v lf t q₁ f (.slot 5) ks [] [dCm a]) R 4, .br false, .br false, .br true] true (dTS dx w v lf t q₁ 304 (.slot 5) ks [.av (eE "incorrect-comment"), .av (aD a)] []) hB (qa (qa (qa (qa (qa (qa trivial (hc (a8 [g, st, tx, er, u, da] R (dTk v lf f (.slot 5) :: (4, .list ks []) :: [dCm a])))) ff) ff) tt) (kzj 0 hk)) (kzj 1 hk))
theorem tH (hB : IsB B) (hc : a7 B st dx tx w er t 4 133 [] .none q q₁) (hk : ks.length ≤ 1000) :
 KJ B 619 g (tS st dx tx w er g v lf u t q f (.ref da) ks ((da, bt a) :: R)) true (tS st dx tx w er g v lf u t q₁ 304 (.ref da) (ks ++ [eE "eof-in-comment", aD a]) R) :=
 bC ["data"] [g, st, tx, er, u, da] (dTS dx w v lf t q f (.slot 5) ks [] [dCm a]) R [.call 0 (.av .none) (dTS dx w v lf t q₁ f (.slot 5) ks [] [dCm a]) R 4] true (dTS dx w v lf t q₁ 304 (.slot 5) ks [.av (eE "eof-in-comment"), .av (aD a)] []) hB (qa (qa (qa trivial (hc (a8 [g, st, tx, er, u, da] R (dTk v lf f (.slot 5) :: (4, .list ks []) :: [dCm a])))) (kzj 0 hk)) (kzj 1 hk))
theorem rm (hB : IsB B) (hc : a7 B st dx tx w er t 4 133 [] (.str [z]) q q₁) (h1 : z ≠ 45) (h2 : z ≠ 0) (h3 : z ≠ 62) (ha : a.length ≤ 16777000) (hk : ks.length ≤ 1000) :
 KJ B 619 g (tS st dx tx w er g v lf u t q f (.ref da) ks ((da, bt a) :: R)) true (tS st dx tx w er g v lf u t q₁ 626 (.ref da) ks ((da, bt (a ++ ([45] ++ [z]))) :: R)) :=
 bC ["data"] [g, st, tx, er, u, da] (dTS dx w v lf t q f (.slot 5) ks [] [dCm a]) R [.call 0 (.av (.str [z])) (dTS dx w v lf t q₁ f (.slot 5) ks [] [dCm a]) R 4, .br false, .br false, .br false] true (dTS dx w v lf t q₁ 626 (.slot 5) ks [] [dCm (a ++ ([45] ++ [z]))]) hB (qa (qa (qa (qa (qa (qa trivial (hc (a8 [g, st, tx, er, u, da] R (dTk v lf f (.slot 5) :: (4, .list ks []) :: [dCm a])))) (ne1 h1)) (ne1 h2)) (ne1 h3)) (lz3 2)) (lz2 (k := 2) ha))
theorem qg (hB : IsB B) (hc : a7 B st dx tx w er t 4 133 [] (.str [45]) q q₁) (hk : ks.length ≤ 1000) :
 KJ B 626 g (tS st dx tx w er g v lf u t q f (.ref da) ks ((da, bt a) :: R)) true (tS st dx tx w er g v lf u t q₁ 633 (.ref da) ks ((da, bt a) :: R)) :=
 bC ["data"] [g, st, tx, er, u, da] (dTS dx w v lf t q f (.slot 5) ks [] [dCm a]) R [.call 0 (.av (.str [45])) (dTS dx w v lf t q₁ f (.slot 5) ks [] [dCm a]) R 4, .br true] true (dTS dx w v lf t q₁ 633 (.slot 5) ks [] [dCm a]) hB (qa (qa trivial (hc (a8 [g, st, tx, er, u, da] R (dTk v lf f (.slot 5) :: (4, .list ks []) :: [dCm a])))) tt)
theorem tQ (hB : IsB B) (hc : a7 B st dx tx w er t 4 133 [] .none q q₁) (hk : ks.length ≤ 1000) :
 KJ B 626 g (tS st dx tx w er g v lf u t q f (.ref da) ks ((da, bt a) :: R)) true (tS st dx tx w er g v lf u t q₁ 304 (.ref da) (ks ++ [eE "eof-in-comment", aD a]) R) :=
 bC ["data"] [g, st, tx, er, u, da] (dTS dx w v lf t q f (.slot 5) ks [] [dCm a]) R [.call 0 (.av .none) (dTS dx w v lf t q₁ f (.slot 5) ks [] [dCm a]) R 4] true (dTS dx w v lf t q₁ 304 (.slot 5) ks [.av (eE "eof-in-comment"), .av (aD a)] []) hB (qa (qa (qa trivial (hc (a8 [g, st, tx, er, u, da] R (dTk v lf f (.slot 5) :: (4, .list ks []) :: [dCm a])))) (kzj 0 hk)) (kzj 1 hk))
theorem ql (hB : IsB B) (hc : a7 B st dx tx w er t 4 133 [] (.str [z]) q q₁) (h1 : z ≠ 45) (h2 : z ≠ 0) (hu : a7 B st dx tx w er t 4 156 [.tup [.str [45], .str [0]]] (.str r) q₁ q₂) (hr : a.length + r.length ≤ 16777000) (hk : ks.length ≤ 1000) :
 KJ B 626 g (tS st dx tx w er g v lf u t q f (.ref da) ks ((da, bt a) :: R)) true (tS st dx tx w er g v lf u t q₂ f (.ref da) ks ((da, bt (a ++ ([z] ++ r))) :: R)) :=
 bC ["data"] [g, st, tx, er, u, da] (dTS dx w v lf t q f (.slot 5) ks [] [dCm a]) R [.call 0 (.av (.str [z])) (dTS dx w v lf t q₁ f (.slot 5) ks [] [dCm a]) R 4, .br false, .br false, .call 0 (.av (.str r)) (dTS dx w v lf t q₂ f (.slot 5) ks [] [dCm a]) R 4] true (dTS dx w v lf t q₂ f (.slot 5) ks [] [dCm (a ++ ([z] ++ r))]) hB (qa (qa (qa (qa (qa (qa trivial (hc (a8 [g, st, tx, er, u, da] R (dTk v lf f (.slot 5) :: (4, .list ks []) :: [dCm a])))) (ne1 h1)) (ne1 h2)) (hu (a8 [g, st, tx, er, u, da] R (dTk v lf f (.slot 5) :: (4, .list ks []) :: [dCm a])))) (lz1 (z := z) (nT0 (Nat.le_add_left _ _) hr))) (lz4 (z := z) hr))
theorem qE (hB : IsB B) (hc : a7 B st dx tx w er t 4 133 [] (.str [45]) q q₁) (hk : ks.length ≤ 1000) :
 KJ B 633 g (tS st dx tx w er g v lf u t q f (.ref da) ks ((da, bt a) :: R)) true (tS st dx tx w er g v lf u t q₁ 640 (.ref da) ks ((da, bt a) :: R)) :=
 bC ["data"] [g, st, tx, er, u, da] (dTS dx w v lf t q f (.slot 5) ks [] [dCm a]) R [.call 0 (.av (.str [45])) (dTS dx w v lf t q₁ f (.slot 5) ks [] [dCm a]) R 4, .br true] true (dTS dx w v lf t q₁ 640 (.slot 5) ks [] [dCm a]) hB (qa (qa trivial (hc (a8 [g, st, tx, er, u, da] R (dTk v lf f (.slot 5) :: (4, .list ks []) :: [dCm a])))) tt)
theorem rO (hB : IsB B) (hc : a7 B st dx tx w er t 4 133 [] .none q q₁) (hk : ks.length ≤ 1000) :
 KJ B 633 g (tS st dx tx w er g v lf u t q f (.ref da) ks ((da, bt a) :: R)) true (tS st dx tx w er g v lf u t q₁ 304 (.ref da) (ks ++ [eE "eof-in-comment-end-dash", aD a]) R) :=
 bC ["data"] [g, st, tx, er, u, da] (dTS dx w v lf t q f (.slot 5) ks [] [dCm a]) R [.call 0 (.av .none) (dTS dx w v lf t q₁ f (.slot 5) ks [] [dCm a]) R 4] true (dTS dx w v lf t q₁ 304 (.slot 5) ks [.av (eE "eof-in-comment-end-dash"), .av (aD a)] []) hB (qa (qa (qa trivial (hc (a8 [g, st, tx, er, u, da] R (dTk v lf f (.slot 5) :: (4, .list ks []) :: [dCm a])))) (kzj 0 hk)) (kzj 1 hk))
theorem qx (hB : IsB B) (hc : a7 B st dx tx w er t 4 133 [] (.str [z]) q q₁) (h1 : z ≠ 45) (h2 : z ≠ 0) (ha : a.length ≤ 16777000) (hk : ks.length ≤ 1000) :
 KJ B 633 g (tS st dx tx w er g v lf u t q f (.ref da) ks ((da, bt a) :: R)) true (tS st dx tx w er g v lf u t q₁ 626 (.ref da) ks ((da, bt (a ++ ([45] ++ [z]))) :: R)) :=
 bC ["data"] [g, st, tx, er, u, da] (dTS dx w v lf t q f (.slot 5) ks [] [dCm a]) R [.call 0 (.av (.str [z])) (dTS dx w v lf t q₁ f (.slot 5) ks [] [dCm a]) R 4, .br false, .br false] true (dTS dx w v lf t q₁ 626 (.slot 5) ks [] [dCm (a ++ ([45] ++ [z]))]) hB (qa (qa (qa (qa (qa trivial (hc (a8 [g, st, tx, er, u, da] R (dTk v lf f (.slot 5) :: (4, .list ks []) :: [dCm a])))) (ne1 h1)) (ne1 h2)) (lz3 2)) (lz2 (k := 2) ha))
theorem x6 (hB : IsB B) (hc : a7 B st dx tx w er t 4 133 [] (.str [62]) q q₁) (hk : ks.length ≤ 1000) :
 KJ B 640 g (tS st dx tx w er g v lf u t q f (.ref da) ks ((da, bt a) :: R)) true (tS st dx tx w er g v lf u t q₁ 304 (.ref da) (ks ++ [aD a]) R) :=
 bC ["data"] [g, st, tx, er, u, da] (dTS dx w v lf t q f (.slot 5) ks [] [dCm a]) R [.call 0 (.av (.str [62])) (dTS dx w v lf t q₁ f (.slot 5) ks [] [dCm a]) R 4, .br true] true (dTS dx w v lf t q₁ 304 (.slot 5) ks [.av (aD a)] []) hB (qa (qa (qa trivial (hc (a8 [g, st, tx, er, u, da] R (dTk v lf f (.slot 5) :: (4, .list ks []) :: [dCm a])))) tt) (kzj 0 hk))
theorem qo (hB : IsB B) (hc : a7 B st dx tx w er t 4 133 [] (.str [33]) q q₁) (hk : ks.length ≤ 1000) :
 KJ B 640 g (tS st dx tx w er g v lf u t q f (.ref da) ks ((da, bt a) :: R)) true (tS st dx tx w er g v lf u t q₁ 647 (.ref da) (ks ++ [eE "unexpected-bang-after-double-dash-in-comment"]) ((da, bt a) :: R)) :=
 bC ["data"] [g, st, tx, er, u, da] (dTS dx w v lf t q f (.slot 5) ks [] [dCm a]) R [.call 0 (.av (.str [33])) (dTS dx w v lf t q₁ f (.slot 5) ks [] [dCm a]) R 4, .br false, .br false, .br true] true (dTS dx w v lf t q₁ 647 (.slot 5) ks [.av (eE "unexpected-bang-after-double-dash-in-comment")] [dCm a]) hB (qa (qa (qa (qa (qa trivial (hc (a8 [g, st, tx, er, u, da] R (dTk v lf f (.slot 5) :: (4, .list ks []) :: [dCm a])))) ff) ff) tt) (kzj 0 hk))
theorem rF (hB : IsB B) (hc : a7 B st dx tx w er t 4 133 [] (.str [45]) q q₁) (ha : a.length ≤ 16777000) (hk : ks.length ≤ 1000) :
 KJ B 640 g (tS st dx tx w er g v lf u t q f (.ref da) ks ((da, bt a) :: R)) true (tS st dx tx w er g v lf u t q₁ f (.ref da) (ks ++ [eE "unexpected-dash-after-double-dash-in-comment"]) ((da, bt (a ++ [45])) :: R)) :=
 bC ["data"] [g, st, tx, er, u, da] (dTS dx w v lf t q f (.slot 5) ks [] [dCm a]) R [.call 0 (.av (.str [45])) (dTS dx w v lf t q₁ f (.slot 5) ks [] [dCm a]) R 4, .br false, .br false, .br false, .br true] true (dTS dx w v lf t q₁ f (.slot 5) ks [.av (eE "unexpected-dash-after-double-dash-in-comment")] [dCm (a ++ [45])]) hB (qa (qa (qa (qa (qa (qa (qa trivial (hc (a8 [g, st, tx, er, u, da] R (dTk v lf f (.slot 5) :: (4, .list ks []) :: [dCm a])))) ff) ff) ff) tt) (kzj 0 hk)) (lz2 (k := 1) ha))
theorem tW (hB : IsB B) (hc : a7 B st dx tx w er t 4 133 [] .none q q₁) (hk : ks.length ≤ 1000) :
 KJ B 640 g (tS st dx tx w er g v lf u t q f (.ref da) ks ((da, bt a) :: R)) true (tS st dx tx w er g v lf u t q₁ 304 (.ref da) (ks ++ [eE "eof-in-comment-double-dash", aD a]) R) :=
 bC ["data"] [g, st, tx, er, u, da] (dTS dx w v lf t q f (.slot 5) ks [] [dCm a]) R [.call 0 (.av .none) (dTS dx w v lf t q₁ f (.slot 5) ks [] [dCm a]) R 4] true (dTS dx w v lf t q₁ 304 (.slot 5) ks [.av (eE "eof-in-comment-double-dash"), .av (aD a)] []) hB (qa (qa (qa trivial (hc (a8 [g, st, tx, er, u, da] R (dTk v lf f (.slot 5) :: (4, .list ks []) :: [dCm a])))) (kzj 0 hk)) (kzj 1 hk))
theorem qF (hB : IsB B) (hc : a7 B st dx tx w er t 4 133 [] (.str [z]) q q₁) (h0 : z ≠ 62) (h1 : z ≠ 45) (h2 : z ≠ 0) (h3 : z ≠ 33) (ha : a.length ≤ 16777000) (hk : ks.length ≤ 1000) :
 KJ B 640 g (tS st dx tx w er g v lf u t q f (.ref da) ks ((da, bt a) :: R)) true (tS st dx tx w er g v lf u t q₁ 626 (.ref da) (ks ++ [eE "unexpected-char-in-comment"]) ((da, bt (a ++ ([45, 45] ++ [z]))) :: R)) :=
 bC ["data"] [g, st, tx, er, u, da] (dTS dx w v lf t q f (.slot 5) ks [] [dCm a]) R [.call 0 (.av (.str [z])) (dTS dx w v lf t q₁ f (.slot 5) ks [] [dCm a]) R 4, .br false, .br false, .br false, .br false] true (dTS dx w v lf t q₁ 626 (.slot 5) ks [.av (eE "unexpected-char-in-comment")] [dCm (a ++ ([45, 45] ++ [z]))]) hB (qa (qa (qa (qa (qa (qa (qa (qa trivial (hc (a8 [g, st, tx, er, u, da] R (dTk v lf f (.slot 5) :: (4, .list ks []) :: [dCm a])))) (ne1 h0)) (ne1 h2)) (ne1 h3)) (ne1 h1)) (kzj 0 hk)) (lz3 3)) (lz2 (k := 3) ha))
theorem xf (hB : IsB B) (hc : a7 B st dx tx w er t 4 133 [] (.str [62]) q q₁) (hk : ks.length ≤ 1000) :
 KJ B 647 g (tS st dx tx w er g v lf u t q f (.ref da) ks ((da, bt a) :: R)) true (tS st dx tx w er g v lf u t q₁ 304 (.ref da) (ks ++ [aD a]) R) :=
 bC ["data"] [g, st, tx, er, u, da] (dTS dx w v lf t q f (.slot 5) ks [] [dCm a]) R [.call 0 (.av (.str [62])) (dTS dx w v lf t q₁ f (.slot 5) ks [] [dCm a]) R 4, .br true] true (dTS dx w v lf t q₁ 304 (.slot 5) ks [.av (aD a)] []) hB (qa (qa (qa trivial (hc (a8 [g, st, tx, er, u, da] R (dTk v lf f (.slot 5) :: (4, .list ks []) :: [dCm a])))) tt) (kzj 0 hk))
theorem qj (hB : IsB B) (hc : a7 B st dx tx w er t 4 133 [] (.str [45]) q q₁) (ha : a.length ≤ 16777000) (hk : ks.length ≤ 1000) :
 KJ B 647 g (tS st dx tx w er g v lf u t q f (.ref da) ks ((da, bt a) :: R)) true (tS st dx tx w er g v lf u t q₁ 633 (.ref da) ks ((da, bt (a ++ [45, 45, 33])) :: R)) :=
 bC ["data"] [g, st, tx, er, u, da] (dTS dx w v lf t q f (.slot 5) ks [] [dCm a]) R [.call 0 (.av (.str [45])) (dTS dx w v lf t q₁ f (.slot 5) ks [] [dCm a]) R 4, .br false, .br true] true (dTS dx w v lf t q₁ 633 (.slot 5) ks [] [dCm (a ++ [45, 45, 33])]) hB (qa (qa (qa (qa trivial (hc (a8 [g, st, tx, er, u, da] R (dTk v lf f (.slot 5) :: (4, .list ks []) :: [dCm a])))) ff) tt) (lz2 (k := 3) ha))
theorem rX (hB : IsB B) (hc : a7 B st dx tx w er t 4 133 [] .none q q₁) (hk : ks.length ≤ 1000) :
 KJ B 647 g (tS st dx tx w er g v lf u t q f (.ref da) ks ((da, bt a) :: R)) true (tS st dx tx w er g v lf u t q₁ 304 (.ref da) (ks ++ [eE "eof-in-comment-end-bang-state", aD a]) R) :=
 bC ["data"] [g, st, tx, er, u, da] (dTS dx w v lf t q f (.slot 5) ks [] [dCm a]) R [.call 0 (.av .none) (dTS dx w v lf t q₁ f (.slot 5) ks [] [dCm a]) R 4] true (dTS dx w v lf t q₁ 304 (.slot 5) ks [.av (eE "eof-in-comment-end-bang-state"), .av (aD a)] []) hB (qa (qa (qa trivial (hc (a8 [g, st, tx, er, u, da] R (dTk v lf f (.slot 5) :: (4, .list ks []) :: [dCm a])))) (kzj 0 hk)) (kzj 1 hk))
theorem pi (hB : IsB B) (hc : a7 B st dx tx w er t 4 133 [] (.str [z]) q q₁) (h0 : z ≠ 62) (h1 : z ≠ 45) (h2 : z ≠ 0) (ha : a.length ≤ 16777000) (hk : ks.length ≤ 1000) :
 KJ B 647 g (tS st dx tx w er g v lf u t q f (.ref da) ks ((da, bt a) :: R)) true (tS st dx tx w er g v lf u t q₁ 626 (.ref da) ks ((da, bt (a ++ ([45, 45, 33] ++ [z]))) :: R)) :=
 bC ["data"] [g, st, tx, er, u, da] (dTS dx w v lf t q f (.slot 5) ks [] [dCm a]) R [.call 0 (.av (.str [z])) (dTS dx w v lf t q₁ f (.slot 5) ks [] [dCm a]) R 4, .br false, .br false, .br false] true (dTS dx w v lf t q₁ 626 (.slot 5) ks [] [dCm (a ++ ([45, 45, 33] ++ [z]))]) hB (qa (qa (qa (qa (qa (qa trivial (hc (a8 [g, st, tx, er, u, da] R (dTk v lf f (.slot 5) :: (4, .list ks []) :: [dCm a])))) (ne1 h0)) (ne1 h1)) (ne1 h2)) (lz3 4)) (lz2 (k := 4) ha))
end
end
section
variable {l : List Nat} {c i : Nat}
open Builtin Builtin.Str PySem.StrLaws
noncomputable def ci (l y : List Nat) (i : Nat) : Bool := (l.drop i).take y.length == y
theorem gN (l y : List Nat) (i : Nat) : subAt (S l) (S y) i = ci l y i := by
 rw [subAt_eq]; simp [ci, ay]
theorem dE {y : List Nat} {hi limit : Nat} (nov : ∀ i j, ci l y i = true → ci l y j = true → i < j → i + y.length ≤ j) : ∀ (n a : Nat) (acc : Array Nat) (free : Nat), acc.size + n ≤ limit → (∀ i, a ≤ i → ci l y i = true → free ≤ i) →
 (forIn (List.range' a n) (acc, free) (occBody (S l) (S y) hi limit)).run.fst.toList = acc.toList ++ (List.range' a n).filter (fun i => decide (i + y.length ≤ hi) && ci l y i)
 | 0, a, acc, free, _, _ => by simp
 | n + 1, a, acc, free, hs, hf => by
  rw [List.range'_succ, List.forIn_cons]
  by_cases h : (a + y.length ≤ hi) ∧ ci l y a = true
  · have hb : occBody (S l) (S y) hi limit a (acc, free) = pure (ForInStep.yield (acc.push a, a + y.length)) := by
     unfold occBody
     rw [if_pos (by rw [ay, gN]; exact ⟨⟨⟨by show acc.size < limit; omega, hf a (Nat.le_refl _) h.2⟩, h.1⟩, h.2⟩), ay]
    refine hb ▸ ?_
    have ih := dE (hi := hi) (limit := limit) nov n (a + 1) (acc.push a) (a + y.length) (by rw [Array.size_push]; omega) fun i hi hh => nov a i h.2 hh ‹_›
    show (forIn (List.range' (a + 1) n) (acc.push a, a + y.length) (occBody (S l) (S y) hi limit)).run.fst.toList = _
    rw [ih, List.filter_cons, if_pos (by simp [h.1, h.2])]
    simp
  · have hb : occBody (S l) (S y) hi limit a (acc, free) = pure (ForInStep.yield (acc, free)) := by
     unfold occBody
     rw [if_neg (by rw [ay, gN]; exact fun q => h ⟨q.1.2, q.2⟩)]
    refine hb ▸ ?_
    have ih := dE (hi := hi) (limit := limit) nov n (a + 1) acc free (by exact Nat.le_of_lt ‹_›) fun i hi hh => hf i (by exact Nat.le_of_lt ‹_›) hh
    show (forIn (List.range' (a + 1) n) (acc, free) (occBody (S l) (S y) hi limit)).run.fst.toList = _
    rw [ih, List.filter_cons, if_neg (by simp; exact fun q => by have := fun z => h ⟨q, z⟩; simpa using this)]
theorem gL : ci l [c] i = true ↔ l[i]? = some c := take1_drop
theorem rZ : ∀ i j, ci l [c] i = true → ci l [c] j = true → i < j → i + [c].length ≤ j := fun i j _ _ h => h
theorem gF (l : List Nat) (c : Nat) : ∀ n, n ≤ l.length → ((List.range' 0 n).filter fun i => ci l [c] i).length = (l.take n).count c
 | 0, _ => rfl
 | n + 1, h => by
  rw [List.range'_1_concat, List.filter_append, List.length_append, gF l c n (by exact Nat.le_of_lt ‹_›), List.take_add_one, List.count_append, Nat.zero_add]
  congr 1
  have hn : n < l.length := h
  rw [List.getElem?_eq_getElem hn, List.filter_cons]
  by_cases e : l[n] = c
  · rw [if_pos (gL.mpr (by rw [List.getElem?_eq_getElem hn, e]))]; simp [e]
  · rw [if_neg (by rw [gL, List.getElem?_eq_getElem hn]; simpa using e)]; simp [e]
theorem dm (h : i ≤ l.length) : bD c l i = (l.take i).count c := by
 unfold bD
 rw [b4 h, Nat.min_eq_left h, occ_eq, Nat.sub_zero, dE rZ (i + 1) 0 #[] 0 (by show 0 + (i + 1) ≤ _; omega) fun _ _ _ => Nat.zero_le _]
 rw [List.range'_1_concat, List.filter_append, ← gF l c i h]
 have : (List.range' 0 i).filter (fun j => decide (j + [c].length ≤ i) && ci l [c] j) = (List.range' 0 i).filter fun j => ci l [c] j :=
  List.filter_congr fun j hj => by
   have : j < i := by simpa using (List.mem_range'.mp hj)
   simp; omega
 rw [this]
 simp
 simp +arith
theorem eJ {y : List Nat} {hi : Nat} : ∀ (n a : Nat) (st : Option Nat), (forIn (List.range' a n) st (lastBody (S l) (S y) hi)).run = (((List.range' a n).filter fun i => decide (i + y.length ≤ hi) && ci l y i).getLast?).or st
 | 0, a, st => by rfl
 | n + 1, a, st => by
  rw [List.range'_succ, List.forIn_cons]
  by_cases h : (a + y.length ≤ hi) ∧ ci l y a = true
  · have hb : lastBody (S l) (S y) hi a st = pure (ForInStep.yield (some a)) := by
     unfold lastBody
     rw [if_pos (by rw [ay, gN]; exact h)]
    rw [hb]
    show (forIn (List.range' (a + 1) n) (some a) (lastBody (S l) (S y) hi)).run = _
    rw [eJ n (a + 1), List.filter_cons, if_pos (by simp [h.1, h.2]), List.getLast?_cons]
    cases (List.filter (fun i => decide (i + y.length ≤ hi) && ci l y i) (List.range' (a + 1) n)).getLast? <;> rfl
  · have hb : lastBody (S l) (S y) hi a st = pure (ForInStep.yield st) := by
     unfold lastBody
     rw [if_neg (by rw [ay, gN]; exact h)]
    rw [hb]
    show (forIn (List.range' (a + 1) n) st (lastBody (S l) (S y) hi)).run = _
    rw [eJ n (a + 1), List.filter_cons, if_neg (by simp; exact fun q => by have := fun z => h ⟨q, z⟩; simpa using this)]
noncomputable def c7 (a : Int) (l : List Nat) : Int := l.foldl (fun a c => if c = 10 then 0 else a + 1) a
theorem jb (l : List Nat) (pc : Int) : ∀ n, n ≤ l.length → c7 pc (l.take n) = match ((List.range' 0 n).filter fun i => ci l [10] i).getLast? with | none => pc + n | some j => (n : Int) - (j + 1)
 | 0, _ => by simp [c7]
 | n + 1, h => by
  have hn : n < l.length := h
  have ih := jb l pc n (by exact Nat.le_of_lt ‹_›)
  rw [List.take_add_one, List.getElem?_eq_getElem hn]
  rw [List.range'_1_concat, List.filter_append, Nat.zero_add]
  unfold c7 at ih ⊢
  rw [List.foldl_append, ih]
  by_cases e : l[n] = 10
  · have hh : ci l [10] n = true := gL.mpr (by rw [List.getElem?_eq_getElem hn, e])
    rw [List.filter_cons, if_pos hh]
    simp [e]
  · have hh : ¬ ci l [10] n = true := by rw [gL, List.getElem?_eq_getElem hn]; simpa using e
    rw [List.filter_cons, if_neg hh]
    simp only [List.filter_nil, List.append_nil, Option.toList_some, List.foldl_cons, List.foldl_nil, if_neg e]
    induction ((List.range' 0 n).filter fun i => ci l [10] i).getLast? using Option.casesOn with
    | none => simp; exact Int.add_assoc _ _ _
    | some j => simp; simp +arith
theorem lK (h : i ≤ l.length) : d5 10 l i = match ((List.range' 0 i).filter fun i => ci l [10] i).getLast? with | none => -1 | some j => (j : Int) := by
 unfold d5
 rw [b4 h, Nat.min_eq_left h, last_eq, Nat.sub_zero, eJ]
 have : (List.range' 0 (i + 1)).filter (fun j => decide (j + [10].length ≤ i) && ci l [10] j) = (List.range' 0 i).filter fun j => ci l [10] j := by
  rw [List.range'_1_concat, List.filter_append]
  rw [List.filter_congr (q := fun j => ci l [10] j) fun j hj => by
   have : j < i := by simpa using (List.mem_range'.mp hj)
   simp; omega]
  simp
  simp +arith
 rw [this, Option.or_none]
 cases ((List.range' 0 i).filter fun j => ci l [10] j).getLast? <;> rfl
end
section
variable {l : List Nat} {k : Nat} {q : SS}
open Builtin Builtin.Str PySem.StrLaws
theorem gv {y z : List Nat} (hy : y ≠ []) (h : ∀ i, ci l y i = false) : eF l y z = l := by
 have occ : occurrences (S l) (S y) 0 (S l).length ((S l).length + 1) = [] := by
  rw [ay, occ_eq, Nat.sub_zero, dE (fun i j hi => absurd hi (by rw [h]; exact Bool.false_ne_true)) (l.length + 1) 0 #[] 0 (by show 0 + _ ≤ _; simp +arith) fun _ _ _ => Nat.zero_le _]
  simp [h]
 unfold eF Txt.replace
 have hyl : ((S y).length == 0) = false := by
  rw [ay]; cases y with | nil => exact absurd rfl hy | cons _ _ => rfl
 rw [hyl, Bool.false_and, Bool.or_false, occ]
 simp [S]
theorem lL {c : Nat} {r : List Nat} (h : c ∉ l) (i : Nat) : ci l (c :: r) i = false := by
 unfold ci
 rw [beq_eq_false_iff_ne]
 intro q
 cases hd : l.drop i with
 | nil => rw [hd] at q; simp at q
 | cons a t =>
  rw [hd, List.length_cons, List.take_succ_cons] at q
  exact h ((List.cons.inj q).1 ▸ List.mem_of_mem_drop (hd ▸ List.mem_cons_self))
theorem lx (h : 13 ∉ l) : cC l = l ∧ eF l [13, 10] [10] = l ∧ eF l [13] [10] = l := by
 have h1 := gv (z := [10]) (List.cons_ne_nil 13 [10]) (lL h)
 have h2 := gv (z := [10]) (List.cons_ne_nil 13 []) (lL h)
 exact ⟨by unfold cC; rw [h1, h2], h1, h2⟩
structure bS (T : List Nat) : Prop where
 len : T.length ≤ 1000
 no13 : 13 ∉ T
 fine : ∀ c ∈ T, inv (c : Int) = false ∧ c < 1114112 ∧ ¬ (55296 ≤ c ∧ c ≤ 56319)
theorem bS.bads {T : List Nat} (h : bS T) : bads T = [] := by
 unfold Mine.bads
 rw [List.filter_eq_nil_iff.mpr fun c hc => by rw [(h.fine c hc).1]; exact Bool.false_ne_true]
 rfl
theorem bS.size {T : List Nat} (h : bS T) : T.length ≤ 16777216 := nT0 h.len (by decide)
noncomputable abbrev sAt (T : List Nat) (k : Nat) : SS := ⟨T, k, 0, 0, .none, T.length, []⟩
noncomputable abbrev dz (T : List Nat) : SS := ⟨[], 0, (T.count 10 : Nat), c7 0 T, .none, T.length, []⟩
section
variable {B : ab} {st dx tx tdx er : Addr} {T : List Nat}
theorem mG {t : List Nat} {p : Int} (h : (t.length : Int) ≤ p) : sl t (some p) (some (p + 10240)) = [] := by
 have e : c4 t.length p = t.length := fK h
 rw [fj]
 rw [e, List.drop_eq_nil_of_le]
 rw [List.length_take]; omega
theorem qp {t : List Nat} (h : t.length ≤ 10240) : sl t (some (0 : Int)) (some ((0 : Int) + 10240)) = t := by
 have e : c4 t.length ((0 : Int) + 10240) = t.length := fK (Int.ofNat_le.mpr h)
 have e0 : c4 t.length (0 : Int) = 0 := b4 (Nat.zero_le _)
 rw [fj]
 rw [e, e0]; simp
theorem el {pc : Int} {i : Nat} (h : i ≤ l.length) : dZ pc l i = c7 pc (l.take i) := by
 unfold dZ
 rw [lK h, jb l pc i h]
 cases ((List.range' 0 i).filter fun i => ci l [10] i).getLast? with
 | none => simp
 | some j =>
  dsimp only
  rw [if_neg (show ¬ ((j : Int) = -1) by simp +arith)]
theorem rD (hB : IsB B) (h : bS T) (h0 : T ≠ []) : Reads B st dx tx tdx er T true SS0 (sAt T 0) := fun rest => by
 have hl : T.length ≤ 10240 := nT0 h.len (by decide)
 have hD := qp hl
 refine x03 (lx h.no13) ?_; rintro n1 n2 n3
 obtain ⟨z, hz⟩ : ∃ z, at? T (-1) = some z := by
  unfold at?
  have hp : 0 < T.length := List.length_pos_iff.mpr h0
  rw [StrLaws.seqIndex_neg (by exact Int.natCast_nonneg _) (by omega)]
  exact ⟨_, List.getElem?_eq_getElem (by omega)⟩
 have hzm : z ∈ T := by
  unfold at? at hz
  refine x12 (Option.bind_eq_some_iff.mp hz) ?_; rintro i _ e
  exact List.mem_of_getElem? e
 refine aa.mono (se (c := []) (sz := 0) (off := 0) (pl := 0) (pc := 0) (p := 0) (es := []) (D := T) (D₁ := T) (D₂ := T) (buf₂ := .none) (lv := if T.length ≤ 1 then none else some (.int z)) hB h.size hD (.inl ⟨rfl, h0, rfl⟩) ?_ (by have := h.len; exact nT0 ‹_› (lB0 rfl)) (by have := h.len; exact nT0 ‹_› (lB0 rfl)) (by have := h.len; simp; exact nT0 ‹_› (lB0 rfl)) (by rw [n2]; have := h.len; exact nT0 ‹_› (lB0 rfl)) (by rw [n2, n3]; have := h.len; exact nT0 ‹_› (lB0 rfl))) fun d o e => ⟨e.1, e.2.trans ?_⟩
 · by_cases q : T.length ≤ 1
   · exact .inl ⟨q, if_pos q, rfl, rfl⟩
   · exact .inr ⟨Nat.lt_of_not_le q, z, hz, if_neg q, .inl ⟨fun e => h.no13 (e ▸ hzm), (h.fine z hzm).2.2, rfl, rfl⟩⟩
 · rw [n1, h.bads]
   have e1 : bD 10 [] (0 : Int) = 0 := dm (l := []) (i := 0) (Nat.le_refl _)
   have e2 : dZ 0 [] (0 : Int) = 0 := el (l := []) (i := 0) (Nat.le_refl _)
   rw [e1, e2]
   simp
theorem n6 (hB : IsB B) (h : bS T) (j : Nat) : Reads B st dx tx tdx er T false (sAt T j) (dz T) := fun rest => by
 refine aa.mono (mM (c := T) (sz := T.length) (off := j) (pl := 0) (pc := 0) (p := T.length) (es := []) hB h.size (mG (Int.le_refl _))) fun d o e => ⟨e.1, e.2.trans ?_⟩
 rw [dm (Nat.le_refl _), el (Nat.le_refl _), List.take_length]
 simp
theorem m9 (hB : IsB B) (h : bS T) : Reads B st dx tx tdx er T false (dz T) (dz T) := fun rest => by
 refine aa.mono (mM (c := []) (sz := 0) (off := 0) (pl := (T.count 10 : Nat)) (pc := c7 0 T) (p := T.length) (es := []) hB h.size (mG (Int.le_refl _))) fun d o e => ⟨e.1, e.2.trans ?_⟩
 have e1 : bD 10 [] (0 : Int) = 0 := dm (l := []) (i := 0) (Nat.le_refl _)
 have e2 : dZ (c7 0 T) [] (0 : Int) = c7 0 T := el (l := []) (i := 0) (Nat.le_refl _)
 rw [e1, e2]
 simp
inductive On (T : List Nat) : Nat → SS → Prop
 | here {k : Nat} : k ≤ T.length → On T k (sAt T k)
 | past : On T T.length (dz T)
theorem bU (hB : IsB B) (h : bS T) (o : On T k q) (hk : k < T.length) : a7 B st dx tx tdx er T 4 133 [] (.str [T[k]]) q (sAt T (k + 1)) := fun rest => by
 cases o with
 | here _ => exact lM (c := T) hB hk h.size
 | past => exact absurd hk (Nat.lt_irrefl _)
theorem bv (hB : IsB B) (h : bS T) (o : On T T.length q) : a7 B st dx tx tdx er T 4 133 [] .none q (dz T) := fun rest => by
 have key : ∀ {k q}, On T k q → k = T.length → aa B 4 133 [.ref st] (oS st dx tx tdx er T q rest) fun d o => d = .none ∧ o = oS st dx tx tdx er T (dz T) rest := by
  intro k q o hk
  cases o with
  | here _ => subst hk; exact iX hB (Int.le_refl _) (n6 hB h T.length rest)
  | past => exact iX hB (Int.le_refl _) (m9 hB h rest)
 exact key o rfl
theorem kW (hB : IsB B) (h : bS T) (hk : 0 < T.length) : a7 B st dx tx tdx er T 4 133 [] (.str [T[0]]) SS0 (sAt T 1) := fun rest =>
 lU (c := []) (sz := 0) (off := 0) (c' := T) (pl := 0) (pc := 0) (p := 0) (es := []) (buf := .none) hB (Int.le_refl _) h.size hk (rD hB h (List.ne_nil_of_length_pos hk) rest)
theorem l4 (hB : IsB B) (h : bS []) : a7 B st dx tx tdx er [] 4 133 [] .none SS0 (dz []) := bv (T := []) hB h (q := SS0) (.here (Nat.le_refl _))
theorem eI (hB : IsB B) (h : bS T) (hk : k < T.length) : a7 B st dx tx tdx er T 1 163 [.str [T[k]]] .none (sAt T (k + 1)) (sAt T k) := fun rest => sv (c := T) hB hk h.size
theorem iC (hB : IsB B) : a7 B st dx tx tdx er T 1 163 [.none] .none q q := fun rest => k5 hB
theorem fO (hB : IsB B) (h : bS T) {chs : AV} {m : Nat → Bool} (hm : InJ B chs m) {opp : Bool} {args : List AV} (ha : args = [chs] ∧ opp = false ∨ args = [chs, .bool opp]) (o : On T k q) :
 ∃ q', On T (ai (fun x => m x == opp) T k) q' ∧ a7 B st dx tx tdx er T 4 156 args (.str ((T.drop k).takeWhile fun x => m x == opp)) q q' := by
 have ha' : ∀ st : Addr, (AV.ref st :: args = [.ref st, chs] ∧ opp = false ∨ AV.ref st :: args = [.ref st, chs, .bool opp]) := fun st => by
  rcases ha with ⟨e, q⟩ | e
  · exact .inl ⟨by rw [e], q⟩
  · exact .inr (by rw [e])
 have hsz : T.length ≤ 1048576 := nT0 h.len (by decide)
 have hlen : ∀ (l : List Nat) (u : Nat → Bool), (l.takeWhile u).length ≤ l.length := fun l u => (List.takeWhile_sublist u).length_le
 cases o with
 | here hk =>
  have hr : ((T.drop k).takeWhile fun x => m x == opp).length ≤ 16777216 := nT0 (hlen _ _) (by rw [List.length_drop]; have := h.len; omega)
  have hsc : ((T.drop k).takeWhile fun x => m x == opp) = (T.drop k).take (ai (fun x => m x == opp) T k - k) := by
   unfold ai
   rw [Nat.add_sub_cancel_left]
   generalize T.drop k = l
   induction l with
   | nil => rfl
   | cons a l ih =>
    by_cases e : (m a == opp) = true
    · rw [List.takeWhile_cons, if_pos e, List.length_cons, List.take_succ_cons, ← ih]
    · rw [List.takeWhile_cons, if_neg e]; rfl
  by_cases hs : ai (fun x => m x == opp) T k < T.length
  · refine ⟨_, .here (Nat.le_of_lt hs), fun rest => ?_⟩
    have := hU (st := st) (dx := dx) (tx := tx) (tdx := tdx) (er := er) (t := T) (rest := rest) hB hm (ha' st) (cN.stop (q := sAt T k) hk hsz rfl hs) (by decide) (by
     exact nT0 (iU _ _ _) h.size)
    have e : sl T (some (k : Int)) (some ((ai (fun x => m x == opp) T k : Nat) : Int)) = (T.drop k).takeWhile fun x => m x == opp := by
     rw [hsc]
     rw [fj]
     rw [b4 (Nat.le_of_lt hs), b4 hk, List.drop_take]
    rw [← e]
    exact this
  · have he : ai (fun x => m x == opp) T k = T.length := Nat.le_antisymm (fX _ _ hk) (Nat.le_of_not_lt hs)
    refine ⟨dz T, by rw [he]; exact .past, fun rest => ?_⟩
    have e : sl T (some (k : Int)) none = (T.drop k).takeWhile fun x => m x == opp := by
     rw [hsc, he]
     rw [p0]
     rw [b4 hk, List.take_length, List.take_of_length_le (by rw [List.length_drop]; exact Nat.le_refl _)]
    have := hU (st := st) (dx := dx) (tx := tx) (tdx := tdx) (er := er) (t := T) (rest := rest) hB hm (ha' st) (cN.last (q := sAt T k) hk hsz he (n6 hB h k)) (by decide) (nT0 (iU _ _ _) h.size)
    rw [← e]
    exact this
 | past =>
  have e0 : T.drop T.length = [] := List.drop_length
  have es : ai (fun x => m x == opp) T T.length = T.length := r9
  refine ⟨dz T, by rw [es]; exact .past, fun rest => ?_⟩
  have := hU (st := st) (dx := dx) (tx := tx) (tdx := tdx) (er := er) (t := T) (rest := rest) hB hm (ha' st) (cN.last (q := dz T) (Nat.le_refl _) (Nat.zero_le _) rfl (m9 hB h)) (by decide) (nT0 (iU _ _ _) (Nat.zero_le _))
  rw [e0]
  exact this
end
end
section
set_option genInjectivity false
section
variable {B : ab} {u : OL} {st dx tx w er tk R qa lf f da : Addr} {t : List Nat} {cur d : AV} {q q₁ q₂ q₃ q₄ : SS} {ks : List AV} {z : Nat} {r acc : List Nat}
theorem oF : ("\x00" : Str) = S [0] := by kernel_rfl
theorem oH : ("�" : Str) = S [65533] := by kernel_rfl
theorem m5 (hB : IsB B) (hu : a7 B st dx tx w er t 4 156 [.str [62]] (.str r) q q₁) (hc : a7 B st dx tx w er t 4 133 [] d q₁ q₂) (hr : r.length ≤ 1000000) (h0 : 0 ∉ r) (hk : ks.length ≤ 1000) :
 aa B 5 598 [.ref tk] (tS st dx tx w er tk R lf qa t q f cur ks u) fun d o => d = .bool true ∧ o = tS st dx tx w er tk R lf qa t q₂ 304 cur (ks ++ [.dct [("type", .int 6), ("data", .str r)]]) u := by
 have e : eF r [0] [65533] = r := gv (List.cons_ne_nil _ _) (lL h0)
 refine ow ["self"] ["data"] (by rw [hB.K]; rfl) (by rw [hB.K]; kernel_rfl) (.one fun _ => rfl) fun L => ?_
 refine ⟨.ret (.bool true), [("self", some (.ref tk)), ("data", some (.str r))], tS st dx tx w er tk R lf qa t q₂ 304 cur (ks ++ [.dct [("type", .int 6), ("data", .str r)]]) u, C2 (σ₁ := ⟨[("self", some (.ref tk)), ("data", some (.str r))], tS st dx tx w er tk R lf qa t q₁ f cur ks u⟩) (Mk.assignCall rfl rfl) (cz (ar [tk, st, tx, er, qa] ⟨[("self", some (.slot 0)), ("data", none)], dTS dx w R lf t q f (.av cur) ks [] [], u⟩ ⟨[("self", some (.slot 0)), ("data", some (.av (.str r)))], dTS dx w R lf t q₁ f (.av cur) ks [] [], u⟩ [.call 0 (.av (.str r)) (dTS dx w R lf t q₁ f (.av cur) ks [] []) u 4] .next (pxo hB) (_root_.Mine.qa trivial (hu (a8 [tk, st, tx, er, qa] u [dTk R lf f (.av cur), (4, .list ks [])]))))) ?_, rfl, rfl⟩
 refine ic oF oH (.tail _ (.head _)) (.skip .hit) (nT0 hr (by decide)) ?_
 rw [e]
 exact xO (ar [tk, st, tx, er, qa] ⟨[("self", some (.slot 0)), ("data", some (.av (.str r)))], dTS dx w R lf t q₁ f (.av cur) ks [] [], u⟩ ⟨[("self", some (.slot 0)), ("data", some (.av (.str r)))], dTS dx w R lf t q₂ 304 (.av cur) ks [.av (aD r)] [], u⟩
  [.call 0 (.av d) (dTS dx w R lf t q₂ f (.av cur) ks [.av (aD r)] []) u 4] (.ret (.av (.bool true))) (pxo hB) (_root_.Mine.qa (_root_.Mine.qa trivial (kzj 0 hk)) (hc (a8 [tk, st, tx, er, qa] u [dTk R lf f (.av cur), (4, .list ks [.av (aD r)])]))))
theorem fW {B : ab} {n : Nat} {f : Addr} {args : List AV} {o : OL} {Φ : AV → OL → Prop} (c : aa B n f args o fun d q => ∃ q' g, q.Perm (q' ++ g) ∧ Φ d q') : aa B n f args o Φ := aa.drop c
theorem lz7 (k : Nat) (h : autoParam (Nat.ble k 16777000 = true) bR) : k ≤ 16777000 := lB0 h
theorem pk (hB : IsB B) (hc1 : a7 B st dx tx w er t 4 133 [] (.str [45]) q q₁) (hc2 : a7 B st dx tx w er t 4 133 [] (.str [45]) q₁ q₂) (hk : ks.length ≤ 1000) :
 aa B 5 605 [.ref tk] (tS st dx tx w er tk R lf qa t q f cur ks u) fun d o => d = .bool true ∧ ∃ a, o = tS st dx tx w er tk R lf qa t q₂ 612 (.ref a) ks ((a, bt []) :: u) :=
 fW (nS (k := 2) (v := .av (.bool true)) (objs' := (dTS dx w R lf t q₂ 612 (.slot 6) ks [] [(5, .list [] [.av (.str [45]), .av (.str [45])]), (6, .dict [("type", .av (.int 6)), ("data", .av (.str []))])])) (rest' := u) ["self"] ["charStack", "matched", "expected"] [tk, st, tx, er, qa] [.slot 0] (dTS dx w R lf t q f (.av cur) ks [] []) u [.call 0 (.av (.str [45])) (dTS dx w R lf t q₁ f (.av cur) ks [] []) u 4, .br true, .call 0 (.av (.str [45])) (dTS dx w R lf t q₂ f (.av cur) ks [] [(5, .list [] [.av (.str [45])])]) u 4, .br true] hB.K (fb hB) rfl (.one fun _ => rfl) (hq := _root_.Mine.qa (_root_.Mine.qa (_root_.Mine.qa (_root_.Mine.qa (_root_.Mine.qa (_root_.Mine.qa (_root_.Mine.qa trivial (hc1 (a8 [tk, st, tx, er, qa] u [dTk R lf f (.av cur), (4, .list ks [])]))) (lz7 1)) (tt)) (fun c : Addr => hc2 (a8 [tk, st, tx, er, qa, c] u [dTk R lf f (.av cur), (4, .list ks []), (5, .list [] [.av (.str [45])])]))) (lz3 1)) (lz7 2)) (tt))
  (fun d o ⟨c, a, h1, h2⟩ => ⟨tS st dx tx w er tk R lf qa t q₂ 612 (.ref a) ks ((a, bt []) :: u), [(c, .list [.str [45], .str [45]])], h2 ▸ (List.Perm.append_left [_, _, _, _, _] (List.perm_append_comm (l₁ := [_]))), h1, a, rfl⟩) (by kernel_rfl) (by kernel_rfl) (by kernel_rfl) (fun L => by kernel_rfl))
theorem s5 (hB : IsB B) (hc1 : a7 B st dx tx w er t 4 133 [] (.str [45]) q q₁) (hc2 : a7 B st dx tx w er t 4 133 [] (.str [z]) q₁ q₂) (h1 : z ≠ 45) (hu1 : a7 B st dx tx w er t 1 163 [.str [z]] .none q₂ q₃) (hu2 : a7 B st dx tx w er t 1 163 [.str [45]] .none q₃ q₄) (hk : ks.length ≤ 1000) :
 aa B 5 605 [.ref tk] (tS st dx tx w er tk R lf qa t q f cur ks u) fun d o => d = .bool true ∧ o = tS st dx tx w er tk R lf qa t q₄ 598 cur (ks ++ [.dct [("type", .int 7), ("data", .str (sg "expected-dashes-or-doctype"))]]) u :=
 fW (nS (k := 1) (v := .av (.bool true)) (objs' := (dTS dx w R lf t q₄ 598 (.av cur) ks [.av (.dct [("type", .int 7), ("data", .str (sg "expected-dashes-or-doctype"))])] [(5, .list [] [])])) (rest' := u) ["self"] ["charStack", "matched", "expected"] [tk, st, tx, er, qa] [.slot 0] (dTS dx w R lf t q f (.av cur) ks [] []) u [.call 0 (.av (.str [45])) (dTS dx w R lf t q₁ f (.av cur) ks [] []) u 4, .br true, .call 0 (.av (.str [z])) (dTS dx w R lf t q₂ f (.av cur) ks [] [(5, .list [] [.av (.str [45])])]) u 4, .br false, .call 0 (.av .none) (dTS dx w R lf t q₃ f (.av cur) ks [.av (.dct [("type", .int 7), ("data", .str (sg "expected-dashes-or-doctype"))])] [(5, .list [] [.av (.str [45])])]) u 1, .call 0 (.av .none) (dTS dx w R lf t q₄ f (.av cur) ks [.av (.dct [("type", .int 7), ("data", .str (sg "expected-dashes-or-doctype"))])] [(5, .list [] [])]) u 1, .br false] hB.K (fb hB) rfl (.one fun _ => rfl) (hq := _root_.Mine.qa (_root_.Mine.qa (_root_.Mine.qa (_root_.Mine.qa (_root_.Mine.qa (_root_.Mine.qa (_root_.Mine.qa (_root_.Mine.qa (_root_.Mine.qa (_root_.Mine.qa (_root_.Mine.qa (_root_.Mine.qa (_root_.Mine.qa (_root_.Mine.qa (_root_.Mine.qa (_root_.Mine.qa trivial (hc1 (a8 [tk, st, tx, er, qa] u [dTk R lf f (.av cur), (4, .list ks [])]))) (lz7 1)) (tt)) (fun c : Addr => hc2 (a8 [tk, st, tx, er, qa, c] u [dTk R lf f (.av cur), (4, .list ks []), (5, .list [] [.av (.str [45])])]))) (lz3 1)) (lz7 2)) (ne1 h1)) (kzj 0 hk)) (lz3 2)) (lz7 2)) (fun c : Addr => hu1 (a8 [tk, st, tx, er, qa, c] u [dTk R lf f (.av cur), (4, .list ks [.av (.dct [("type", .int 7), ("data", .str (sg "expected-dashes-or-doctype"))])]), (5, .list [] [.av (.str [45])])]))) (lz3 1)) (lz7 1)) (fun c : Addr => hu2 (a8 [tk, st, tx, er, qa, c] u [dTk R lf f (.av cur), (4, .list ks [.av (.dct [("type", .int 7), ("data", .str (sg "expected-dashes-or-doctype"))])]), (5, .list [] [])]))) (lz3 0)) (ff))
  (fun d o ⟨c, h1, h2⟩ => ⟨tS st dx tx w er tk R lf qa t q₄ 598 cur (ks ++ [.dct [("type", .int 7), ("data", .str (sg "expected-dashes-or-doctype"))]]) u, [(c, .list [])], h2 ▸ (List.Perm.append_left [_, _, _, _, _] (List.perm_append_comm (l₁ := [_]))), h1, rfl⟩) (by kernel_rfl) (by kernel_rfl) (by kernel_rfl) (fun L => by kernel_rfl))
theorem oW (hB : IsB B) (hc1 : a7 B st dx tx w er t 4 133 [] (.str [z]) q q₁) (h1 : z ≠ 45) (h2 : decide ([z] ∈ [[100], [68]]) = false) (hu1 : a7 B st dx tx w er t 1 163 [.str [z]] .none q₁ q₂) (hk : ks.length ≤ 1000) :
 aa B 5 605 [.ref tk] (tS st dx tx w er tk R lf qa t q f cur ks u) fun d o => d = .bool true ∧ o = tS st dx tx w er tk R lf qa t q₂ 598 cur (ks ++ [.dct [("type", .int 7), ("data", .str (sg "expected-dashes-or-doctype"))]]) u :=
 fW (nS (k := 1) (v := .av (.bool true)) (objs' := (dTS dx w R lf t q₂ 598 (.av cur) ks [.av (.dct [("type", .int 7), ("data", .str (sg "expected-dashes-or-doctype"))])] [(5, .list [] [])])) (rest' := u) ["self"] ["charStack", "matched", "expected"] [tk, st, tx, er, qa] [.slot 0] (dTS dx w R lf t q f (.av cur) ks [] []) u [.call 0 (.av (.str [z])) (dTS dx w R lf t q₁ f (.av cur) ks [] []) u 4, .br false, .br false, .call 0 (.av .none) (dTS dx w R lf t q₂ f (.av cur) ks [.av (.dct [("type", .int 7), ("data", .str (sg "expected-dashes-or-doctype"))])] [(5, .list [] [])]) u 1, .br false] hB.K (fb hB) rfl (.one fun _ => rfl) (hq := _root_.Mine.qa (_root_.Mine.qa (_root_.Mine.qa (_root_.Mine.qa (_root_.Mine.qa (_root_.Mine.qa (_root_.Mine.qa (_root_.Mine.qa (_root_.Mine.qa (_root_.Mine.qa (_root_.Mine.qa trivial (hc1 (a8 [tk, st, tx, er, qa] u [dTk R lf f (.av cur), (4, .list ks [])]))) (lz7 1)) (ne1 h1)) (lz7 1)) (h2)) (kzj 0 hk)) (lz3 1)) (lz7 1)) (fun c : Addr => hu1 (a8 [tk, st, tx, er, qa, c] u [dTk R lf f (.av cur), (4, .list ks [.av (.dct [("type", .int 7), ("data", .str (sg "expected-dashes-or-doctype"))])]), (5, .list [] [])]))) (lz3 0)) (ff))
  (fun d o ⟨c, h1, h2⟩ => ⟨tS st dx tx w er tk R lf qa t q₂ 598 cur (ks ++ [.dct [("type", .int 7), ("data", .str (sg "expected-dashes-or-doctype"))]]) u, [(c, .list [])], h2 ▸ (List.Perm.append_left [_, _, _, _, _] (List.perm_append_comm (l₁ := [_]))), h1, rfl⟩) (by kernel_rfl) (by kernel_rfl) (by kernel_rfl) (fun L => by kernel_rfl))
theorem sK (hB : IsB B) (hc1 : a7 B st dx tx w er t 4 133 [] .none q q₁) (hu1 : a7 B st dx tx w er t 1 163 [.none] .none q₁ q₂) (hk : ks.length ≤ 1000) :
 aa B 5 605 [.ref tk] (tS st dx tx w er tk R lf qa t q f cur ks u) fun d o => d = .bool true ∧ o = tS st dx tx w er tk R lf qa t q₂ 598 cur (ks ++ [.dct [("type", .int 7), ("data", .str (sg "expected-dashes-or-doctype"))]]) u :=
 fW (nS (k := 1) (v := .av (.bool true)) (objs' := (dTS dx w R lf t q₂ 598 (.av cur) ks [.av (.dct [("type", .int 7), ("data", .str (sg "expected-dashes-or-doctype"))])] [(5, .list [] [])])) (rest' := u) ["self"] ["charStack", "matched", "expected"] [tk, st, tx, er, qa] [.slot 0] (dTS dx w R lf t q f (.av cur) ks [] []) u [.call 0 (.av .none) (dTS dx w R lf t q₁ f (.av cur) ks [] []) u 4, .call 0 (.av .none) (dTS dx w R lf t q₂ f (.av cur) ks [.av (.dct [("type", .int 7), ("data", .str (sg "expected-dashes-or-doctype"))])] [(5, .list [] [])]) u 1, .br false] hB.K (fb hB) rfl (.one fun _ => rfl) (hq := _root_.Mine.qa (_root_.Mine.qa (_root_.Mine.qa (_root_.Mine.qa (_root_.Mine.qa (_root_.Mine.qa (_root_.Mine.qa (_root_.Mine.qa (_root_.Mine.qa trivial (hc1 (a8 [tk, st, tx, er, qa] u [dTk R lf f (.av cur), (4, .list ks [])]))) (lz7 1)) (lz7 1)) (kzj 0 hk)) (lz3 1)) (lz7 1)) (fun c : Addr => hu1 (a8 [tk, st, tx, er, qa, c] u [dTk R lf f (.av cur), (4, .list ks [.av (.dct [("type", .int 7), ("data", .str (sg "expected-dashes-or-doctype"))])]), (5, .list [] [])]))) (lz3 0)) (ff))
  (fun d o ⟨c, h1, h2⟩ => ⟨tS st dx tx w er tk R lf qa t q₂ 598 cur (ks ++ [.dct [("type", .int 7), ("data", .str (sg "expected-dashes-or-doctype"))]]) u, [(c, .list [])], h2 ▸ (List.Perm.append_left [_, _, _, _, _] (List.perm_append_comm (l₁ := [_]))), h1, rfl⟩) (by kernel_rfl) (by kernel_rfl) (by kernel_rfl) (fun L => by kernel_rfl))
end
end
section
variable {t k n a b s c : Nat} {q : SS}
theorem fuS {j : Nat} (h : 4 * (t - k) + a ≤ n + 1) (hk : k < t) (h2 : k + 1 ≤ j) (hb : b ≤ a + 3) : 4 * (t - j) + b ≤ n := by omega
theorem fu0 (h : 4 * (t - k) + a ≤ n + 1) (hb : b + 1 ≤ a) : 4 * (t - k) + b ≤ n := by omega
theorem fm1 {m : Nat} (h : t - k + 1 ≤ m + 1) (hk : k < t) : t - (k + 1) + 1 ≤ m := by omega
theorem su1 (h : s + a ≤ k) (hb : b ≤ a) (hc : c + 1 = b) : k - b + 1 = k - c := by omega
theorem su2 (h : s + a ≤ k) (hb : b ≤ a) (hc : c + 2 = b) : k - b + 2 = k - c := by omega
theorem su3 (hc : c + 1 = b) : k + 1 - b = k - c := by omega
theorem su4 (h : s + a ≤ k) (hb : b ≤ a) : s ≤ k - b := by omega
end
local macro_rules | `(tactic| omega) => `(tactic| first
 | assumption
 | exact fu0 ‹_› (lB0 rfl)
 | exact fuS ‹_› ‹_› (by first | assumption | exact Nat.le_refl _ | exact Nat.le_succ _) (lB0 rfl)
 | exact fm1 ‹_› ‹_›
 | exact Nat.le_of_lt ‹_›
 | exact Nat.le_of_succ_le ‹_›
 | exact Nat.le_succ_of_le ‹_›
 | exact Nat.add_sub_cancel' (by first | assumption | exact Nat.le_of_lt ‹_›)
 | exact su3 rfl
 | exact su1 ‹_› (lB0 rfl) rfl
 | exact su2 ‹_› (lB0 rfl) rfl
 | exact su4 ‹_› (lB0 rfl))
section
variable {t k n a b s c : Nat} {q : SS}
inductive Stt | data | tag | cl | bog | mk | cs | cd | co | ce | cn | cb
noncomputable abbrev Stt.addr : Stt → Addr
 | .data => 304 | .tag => 353 | .cl => 360 | .bog => 598 | .mk => 605 | .cs => 612 | .cd => 619 | .co => 626 | .ce => 633 | .cn => 640 | .cb => 647
noncomputable abbrev Stt.wt : Stt → Nat
 | .data => 1 | .tag => 4 | .cl => 3 | .bog => 2 | .mk => 3 | _ => 2
noncomputable abbrev Stt.cmt : Stt → Bool
 | .cs | .cd | .co | .ce | .cn | .cb => true
 | _ => false
noncomputable abbrev er := eE
noncomputable abbrev tx (l : List Nat) : AV := .dct [("type", .int 1), ("data", .str l)]
noncomputable abbrev sp (l : List Nat) : AV := .dct [("type", .int 2), ("data", .str l)]
noncomputable def uSp (x : Nat) : Bool := decide ([x] ∈ aQ) == true
noncomputable def uTx (x : Nat) : Bool := decide ([x] ∈ [[38], [60], [0]]) == false
noncomputable def uGt (x : Nat) : Bool := decide (x ∈ [62]) == false
noncomputable def uDs (x : Nat) : Bool := decide ([x] ∈ [[45], [0]]) == false
noncomputable def run (T : List Nat) : Nat → Stt → Nat → List Nat → List (Nat × AV)
 | 0, _, _, _ => []
 | n + 1, .data, k, _ => match T[k]? with
  | none => []
  | some z => if z = 60 then run T n .tag (k + 1) [] else if decide ([z] ∈ aQ) then (ai uSp T (k + 1), sp (z :: (T.drop (k + 1)).takeWhile uSp)) :: run T n .data (ai uSp T (k + 1)) []
   else (ai uTx T (k + 1), tx (z :: (T.drop (k + 1)).takeWhile uTx)) :: run T n .data (ai uTx T (k + 1)) []
 | n + 1, .tag, k, _ => match T[k]? with
  | none => (k, er "expected-tag-name") :: (k, tx [60]) :: run T n .data k []
  | some z => if z = 33 then run T n .mk (k + 1) [] else if z = 47 then run T n .cl (k + 1) [] else if z = 62 then (k + 1, er "expected-tag-name-but-got-right-bracket") :: (k + 1, tx [60, 62]) :: run T n .data (k + 1) []
   else if z = 63 then (k, er "expected-tag-name-but-got-question-mark") :: run T n .bog k [] else (k, er "expected-tag-name") :: (k, tx [60]) :: run T n .data k []
 | n + 1, .cl, k, _ => match T[k]? with
  | none => (k, er "expected-closing-tag-but-got-eof") :: (k, tx [60, 47]) :: run T n .data k []
  | some z => if z = 62 then (k + 1, er "expected-closing-tag-but-got-right-bracket") :: run T n .data (k + 1) []
   else (k, .dct [("type", .int 7), ("data", .str (sg "expected-closing-tag-but-got-char")), ("datavars", .dct [("data", .str [z])])]) :: run T n .bog k []
 | n + 1, .bog, k, _ => (min (ai uGt T k + 1) T.length, aD ((T.drop k).takeWhile uGt)) :: run T n .data (min (ai uGt T k + 1) T.length) []
 | n + 1, .mk, k, _ => match T[k]? with
  | some 45 => if T[k + 1]? = some 45 then run T n .cs (k + 2) [] else (k, er "expected-dashes-or-doctype") :: run T n .bog k []
  | _ => (k, er "expected-dashes-or-doctype") :: run T n .bog k []
 | n + 1, .cs, k, acc => match T[k]? with
  | none => (k, er "eof-in-comment") :: (k, aD acc) :: run T n .data k []
  | some z => if z = 45 then run T n .cd (k + 1) acc else if z = 62 then (k + 1, er "incorrect-comment") :: (k + 1, aD acc) :: run T n .data (k + 1) [] else run T n .co (k + 1) (acc ++ [z])
 | n + 1, .cd, k, acc => match T[k]? with
  | none => (k, er "eof-in-comment") :: (k, aD acc) :: run T n .data k []
  | some z => if z = 45 then run T n .cn (k + 1) acc else if z = 62 then (k + 1, er "incorrect-comment") :: (k + 1, aD acc) :: run T n .data (k + 1) [] else run T n .co (k + 1) (acc ++ ([45] ++ [z]))
 | n + 1, .co, k, acc => match T[k]? with
  | none => (k, er "eof-in-comment") :: (k, aD acc) :: run T n .data k []
  | some z => if z = 45 then run T n .ce (k + 1) acc else run T n .co (ai uDs T (k + 1)) (acc ++ ([z] ++ (T.drop (k + 1)).takeWhile uDs))
 | n + 1, .ce, k, acc => match T[k]? with
  | none => (k, er "eof-in-comment-end-dash") :: (k, aD acc) :: run T n .data k []
  | some z => if z = 45 then run T n .cn (k + 1) acc else run T n .co (k + 1) (acc ++ ([45] ++ [z]))
 | n + 1, .cn, k, acc => match T[k]? with
  | none => (k, er "eof-in-comment-double-dash") :: (k, aD acc) :: run T n .data k []
  | some z => if z = 62 then (k + 1, aD acc) :: run T n .data (k + 1) [] else if z = 33 then (k + 1, er "unexpected-bang-after-double-dash-in-comment") :: run T n .cb (k + 1) acc
   else if z = 45 then (k + 1, er "unexpected-dash-after-double-dash-in-comment") :: run T n .cn (k + 1) (acc ++ [45]) else (k + 1, er "unexpected-char-in-comment") :: run T n .co (k + 1) (acc ++ ([45, 45] ++ [z]))
 | n + 1, .cb, k, acc => match T[k]? with
  | none => (k, er "eof-in-comment-end-bang-state") :: (k, aD acc) :: run T n .data k []
  | some z => if z = 62 then (k + 1, aD acc) :: run T n .data (k + 1) [] else if z = 45 then run T n .ce (k + 1) (acc ++ [45, 45, 33]) else run T n .co (k + 1) (acc ++ ([45, 45, 33] ++ [z]))
noncomputable def jc (q : SS) : AV := .tup [.int (q.pl + bD 10 q.c q.i + 1), .int (dZ q.pc q.c q.i)]
noncomputable def bg (T : List Nat) (k : Nat) : AV := .tup [.int ((T.take k).count 10 + 1), .int (c7 0 (T.take k))]
noncomputable abbrev dc (T : List Nat) (e : Nat × AV) : AV := .tup [bg T e.1, e.2]
theorem On.pos (o : On T k q) : jc q = bg T k := by
 cases o with
 | here h =>
  unfold jc bg
  rw [dm h, el h]
  simp
 | past =>
  unfold jc bg
  have e1 : bD 10 [] ((0 : Nat) : Int) = 0 := dm (l := []) (i := 0) (Nat.le_refl _)
  have e2 : dZ (c7 0 T) [] ((0 : Nat) : Int) = c7 0 T := el (l := []) (i := 0) (Nat.le_refl _)
  rw [e1, e2, List.take_length]
  simp
theorem On.es (o : On T k q) : q.es = [] ∧ { q with es := [] } = q := by cases o <;> exact ⟨rfl, rfl⟩
theorem On.le (o : On T k q) : k ≤ T.length := by cases o <;> first | assumption | exact Nat.le_refl _
noncomputable abbrev mQ (d : AV) (q : SS) : AV := .tup [jc q, d]
section
variable {B : ab} {st dx tx' tdx er' tk kdx lf qa : Addr} {T : List Nat}
theorem mS {t k j n a b : Nat} (h : 4 * (t - k) + a ≤ n + 1) (hk : k < t) (h2 : k + 1 ≤ j) (hb : autoParam (Nat.ble b (a + 3) = true) bR) : 4 * (t - j) + b ≤ n := fuS h hk h2 (lB0 hb)
theorem mE {t k n a b : Nat} (h : 4 * (t - k) + a ≤ n + 1) (hb : autoParam (Nat.ble (b + 1) a = true) bR) : 4 * (t - k) + b ≤ n := Nat.le_of_succ_le_succ (nT0 (Nat.add_le_add_left (lB0 hb) _) h)
theorem aK {k : Nat} {l : List Nat} (h : l.length ≤ 4 * k) : l.length ≤ 4 * (k + 1) := nT0 h (Nat.mul_le_mul_left 4 (Nat.le_succ k))
theorem aL {k : Nat} {l x : List Nat} (h : l.length ≤ 4 * k) (hx : autoParam (Nat.ble x.length 4 = true) bR) : (l ++ x).length ≤ 4 * (k + 1) := List.length_append ▸ Nat.add_le_add h (lB0 hx)
theorem aw {f f' : Addr} {cur cur' : AV} {rest rest' : OL} {q' : SS} {ks : List AV} {k' : Nat} {tr' tr : List AV} (hB : IsB B)
 (c : aa B 5 f [.ref tk] (tS st dx tx' tdx er' tk kdx lf qa T q f cur [] rest) fun d o => d = .bool true ∧ o = tS st dx tx' tdx er' tk kdx lf qa T q' f' cur' ks rest') (o : On T k' q')
 (h : kD B st dx tx' tdx er' tk kdx lf qa T mQ (On T T.length) n q' f' cur' rest' tr') (e : tr = (ks.map fun d => .tup [bg T k', d]) ++ tr') (hf : autoParam (fnIn (eC B.P) f = true) bK) (hk : autoParam (Nat.ble ks.length 1000 = true) bR) : kD B st dx tx' tdx er' tk kdx lf qa T mQ (On T T.length) (n + 1) q f cur rest tr :=
 ⟨by rw [hB.K]; exact hf, c.mono fun d o' ⟨e1, e2⟩ => ⟨q', f', cur', ks, rest', e2, .inr ⟨e1, by rw [o.es.1]; exact Nat.zero_le _, nT0 (lB0 hk) (by decide), tr', by rw [e, o.es.1, ← o.pos]; rfl, by rw [o.es.2]; exact h⟩⟩⟩
end
end
section
structure o7 (T : List Nat) : Prop where
 plain : bS T
 noLet : ∀ c ∈ T, decide ([c] ∈ eQ) = false
 no0 : 0 ∉ T
 no38 : 38 ∉ T
 noEnd : ∀ k, T[k]? = some 60 → T[k + 1]? = some 33 → T[k + 2]? = some 45 → k + 3 < T.length
noncomputable def BH (T : List Nat) : Stt → Nat → Prop
 | .tag, k => ∃ j, k = j + 1 ∧ T[j]? = some 60
 | .mk, k => ∃ j, k = j + 2 ∧ T[j]? = some 60 ∧ T[j + 1]? = some 33
 | _, _ => True
theorem e8 (u : Nat → Bool) (T : List Nat) (k : Nat) : ai u T k = k + ((T.drop k).takeWhile u).length := rfl
theorem jq (u : Nat → Bool) (T : List Nat) (k : Nat) : ((T.drop k).takeWhile u).length ≤ T.length := nT0 (List.takeWhile_sublist u).length_le (by rw [List.length_drop]; exact Nat.sub_le _ _)
section
variable {B : ab} {st dx tx' tdx er' tk kdx lf qa : Addr} {T : List Nat}
theorem o9 (hB : IsB B) (h : o7 T) : ∀ (n : Nat) (s : Stt) (k : Nat) (acc : List Nat) (q : SS) (cur : AV) (rest R : OL) (da : Addr), (On T k q ∨ s = .data ∧ k = 0 ∧ q = SS0) → BH T s k → 4 * (T.length - k) + s.wt ≤ n → acc.length ≤ 4 * k →
 (s.cmt = true → cur = .ref da ∧ rest = (da, bt acc) :: R) → kD B st dx tx' tdx er' tk kdx lf qa T mQ (On T T.length) n q s.addr cur rest ((run T n s k acc).map (dc T)) := by
 have hl := h.plain.len
 intro n
 induction n with
 | zero => intro s k acc q cur rest R da _ _ hm; rcases s with _ | _ <;> simp at hm
 | succ n ih =>
  intro s k acc q cur rest R da o' hI hm ha hc
  have ltk : k < T.length → T[k]? = some T[k]! := fun hk => by rw [List.getElem?_eq_getElem hk]; simp [hk]
  cases s with
  | cs =>
   have o : On T k q := o'.elim id fun e => nomatch e.1
   obtain ⟨rfl, rfl⟩ := hc rfl
   simp only [Stt.wt] at hm
   by_cases hk : k < T.length
   · have hz : T[k]? = some T[k] := List.getElem?_eq_getElem hk
     have hmem : T[k] ∈ T := List.getElem_mem hk
     have n0 : T[k] ≠ 0 := fun e => h.no0 (e ▸ hmem)
     have hch := bU (st := st) (dx := dx) (tx := tx') (tdx := tdx) (er := er') hB h.plain o hk
     have o1 : On T (k + 1) (sAt T (k + 1)) := .here hk
     generalize hzz : T[k] = z at hz hmem n0 hch
     by_cases e45 : z = 45
     · subst e45
       exact aw hB (px hB hch (Nat.zero_le _)) o1 (ih .cd (k + 1) (acc) (sAt T (k + 1)) _ _ R da (.inl o1) trivial (by first | exact mS hm hk (Nat.le_refl _) | (simp only [Stt.wt]; omega)) (aK ha) (fun _ => ⟨rfl, rfl⟩)) (by simp [run, hz])
     by_cases e62 : z = 62
     · subst e62
       exact aw hB (x7 hB hch (Nat.zero_le _)) o1 (ih .data (k + 1) ([]) (sAt T (k + 1)) _ _ R da (.inl o1) trivial (by first | exact mS hm hk (Nat.le_refl _) | (simp only [Stt.wt]; omega)) (Nat.zero_le _) nofun) (by simp [run, hz, e45])
     exact aw hB (qW hB hch e45 n0 e62 (by omega) (Nat.zero_le _)) o1 (ih .co (k + 1) (acc ++ [z]) (sAt T (k + 1)) _ _ R da (.inl o1) trivial (by first | exact mS hm hk (Nat.le_refl _) | (simp only [Stt.wt]; omega)) (aL ha) (fun _ => ⟨rfl, rfl⟩)) (by simp [run, hz, e45, e62])
   · have hke : k = T.length := Nat.le_antisymm o.le (Nat.le_of_not_lt hk)
     subst hke
     have hz : T[T.length]? = none := List.getElem?_eq_none (Nat.le_refl _)
     have hch := bv (st := st) (dx := dx) (tx := tx') (tdx := tdx) (er := er') hB h.plain o
     exact aw hB (tv hB hch (Nat.zero_le _)) .past (ih .data (T.length) ([]) (dz T) _ _ R da (.inl .past) trivial (mE hm) (Nat.zero_le _) nofun) (by simp [run, hz])
  | cd =>
   have o : On T k q := o'.elim id fun e => nomatch e.1
   obtain ⟨rfl, rfl⟩ := hc rfl
   simp only [Stt.wt] at hm
   by_cases hk : k < T.length
   · have hz : T[k]? = some T[k] := List.getElem?_eq_getElem hk
     have hmem : T[k] ∈ T := List.getElem_mem hk
     have n0 : T[k] ≠ 0 := fun e => h.no0 (e ▸ hmem)
     have hch := bU (st := st) (dx := dx) (tx := tx') (tdx := tdx) (er := er') hB h.plain o hk
     have o1 : On T (k + 1) (sAt T (k + 1)) := .here hk
     generalize hzz : T[k] = z at hz hmem n0 hch
     by_cases e45 : z = 45
     · subst e45
       exact aw hB (qT hB hch (Nat.zero_le _)) o1 (ih .cn (k + 1) (acc) (sAt T (k + 1)) _ _ R da (.inl o1) trivial (by first | exact mS hm hk (Nat.le_refl _) | (simp only [Stt.wt]; omega)) (aK ha) (fun _ => ⟨rfl, rfl⟩)) (by simp [run, hz])
     by_cases e62 : z = 62
     · subst e62
       exact aw hB (x4 hB hch (Nat.zero_le _)) o1 (ih .data (k + 1) ([]) (sAt T (k + 1)) _ _ R da (.inl o1) trivial (by first | exact mS hm hk (Nat.le_refl _) | (simp only [Stt.wt]; omega)) (Nat.zero_le _) nofun) (by simp [run, hz, e45])
     exact aw hB (rm hB hch e45 n0 e62 (by omega) (Nat.zero_le _)) o1 (ih .co (k + 1) (acc ++ ([45] ++ [z])) (sAt T (k + 1)) _ _ R da (.inl o1) trivial (by first | exact mS hm hk (Nat.le_refl _) | (simp only [Stt.wt]; omega)) (aL ha) (fun _ => ⟨rfl, rfl⟩)) (by simp [run, hz, e45, e62])
   · have hke : k = T.length := Nat.le_antisymm o.le (Nat.le_of_not_lt hk)
     subst hke
     have hz : T[T.length]? = none := List.getElem?_eq_none (Nat.le_refl _)
     have hch := bv (st := st) (dx := dx) (tx := tx') (tdx := tdx) (er := er') hB h.plain o
     exact aw hB (tH hB hch (Nat.zero_le _)) .past (ih .data (T.length) ([]) (dz T) _ _ R da (.inl .past) trivial (mE hm) (Nat.zero_le _) nofun) (by simp [run, hz])
  | co =>
   have o : On T k q := o'.elim id fun e => nomatch e.1
   obtain ⟨rfl, rfl⟩ := hc rfl
   simp only [Stt.wt] at hm
   by_cases hk : k < T.length
   · have hz : T[k]? = some T[k] := List.getElem?_eq_getElem hk
     have hmem : T[k] ∈ T := List.getElem_mem hk
     have n0 : T[k] ≠ 0 := fun e => h.no0 (e ▸ hmem)
     have hch := bU (st := st) (dx := dx) (tx := tx') (tdx := tdx) (er := er') hB h.plain o hk
     have o1 : On T (k + 1) (sAt T (k + 1)) := .here hk
     generalize hzz : T[k] = z at hz hmem n0 hch
     by_cases e45 : z = 45
     · subst e45
       exact aw hB (qg hB hch (Nat.zero_le _)) o1 (ih .ce (k + 1) (acc) (sAt T (k + 1)) _ _ R da (.inl o1) trivial (by first | exact mS hm hk (Nat.le_refl _) | (simp only [Stt.wt]; omega)) (aK ha) (fun _ => ⟨rfl, rfl⟩)) (by simp [run, hz])
     refine x12 (fO (st := st) (dx := dx) (tx := tx') (tdx := tdx) (er := er') hB h.plain (jp (l := [.str [45], .str [0]]) (ms := [[45], [0]]) rfl) (opp := false) (.inl ⟨rfl, rfl⟩) o1) ?_; rintro q2 o2 hu
     have tl := jq uDs T (k + 1)
     have sc := e8 uDs T (k + 1)
     have le2 : ai uDs T (k + 1) ≤ T.length := o2.le
     exact aw (k' := ai uDs T (k + 1)) hB (ql (r := (T.drop (k + 1)).takeWhile uDs) hB hch e45 n0 hu (by show _ + ((T.drop (k + 1)).takeWhile uDs).length ≤ _; omega) (Nat.zero_le _)) o2 (ih .co (ai uDs T (k + 1)) (acc ++ ([z] ++ (T.drop (k + 1)).takeWhile uDs)) q2 _ _ R da (.inl o2) trivial (by simp only [Stt.wt]; omega) (by rw [sc, List.length_append, List.length_append, List.length_singleton]; omega) (fun _ => ⟨rfl, rfl⟩)) (by simp [run, hz, e45])
   · have hke : k = T.length := Nat.le_antisymm o.le (Nat.le_of_not_lt hk)
     subst hke
     have hz : T[T.length]? = none := List.getElem?_eq_none (Nat.le_refl _)
     have hch := bv (st := st) (dx := dx) (tx := tx') (tdx := tdx) (er := er') hB h.plain o
     exact aw hB (tQ hB hch (Nat.zero_le _)) .past (ih .data (T.length) ([]) (dz T) _ _ R da (.inl .past) trivial (mE hm) (Nat.zero_le _) nofun) (by simp [run, hz])
  | ce =>
   have o : On T k q := o'.elim id fun e => nomatch e.1
   obtain ⟨rfl, rfl⟩ := hc rfl
   simp only [Stt.wt] at hm
   by_cases hk : k < T.length
   · have hz : T[k]? = some T[k] := List.getElem?_eq_getElem hk
     have hmem : T[k] ∈ T := List.getElem_mem hk
     have n0 : T[k] ≠ 0 := fun e => h.no0 (e ▸ hmem)
     have hch := bU (st := st) (dx := dx) (tx := tx') (tdx := tdx) (er := er') hB h.plain o hk
     have o1 : On T (k + 1) (sAt T (k + 1)) := .here hk
     generalize hzz : T[k] = z at hz hmem n0 hch
     by_cases e45 : z = 45
     · subst e45
       exact aw hB (qE hB hch (Nat.zero_le _)) o1 (ih .cn (k + 1) (acc) (sAt T (k + 1)) _ _ R da (.inl o1) trivial (by first | exact mS hm hk (Nat.le_refl _) | (simp only [Stt.wt]; omega)) (aK ha) (fun _ => ⟨rfl, rfl⟩)) (by simp [run, hz])
     exact aw hB (qx hB hch e45 n0 (by omega) (Nat.zero_le _)) o1 (ih .co (k + 1) (acc ++ ([45] ++ [z])) (sAt T (k + 1)) _ _ R da (.inl o1) trivial (by first | exact mS hm hk (Nat.le_refl _) | (simp only [Stt.wt]; omega)) (aL ha) (fun _ => ⟨rfl, rfl⟩)) (by simp [run, hz, e45])
   · have hke : k = T.length := Nat.le_antisymm o.le (Nat.le_of_not_lt hk)
     subst hke
     have hz : T[T.length]? = none := List.getElem?_eq_none (Nat.le_refl _)
     have hch := bv (st := st) (dx := dx) (tx := tx') (tdx := tdx) (er := er') hB h.plain o
     exact aw hB (rO hB hch (Nat.zero_le _)) .past (ih .data (T.length) ([]) (dz T) _ _ R da (.inl .past) trivial (mE hm) (Nat.zero_le _) nofun) (by simp [run, hz])
  | cn =>
   have o : On T k q := o'.elim id fun e => nomatch e.1
   obtain ⟨rfl, rfl⟩ := hc rfl
   simp only [Stt.wt] at hm
   by_cases hk : k < T.length
   · have hz : T[k]? = some T[k] := List.getElem?_eq_getElem hk
     have hmem : T[k] ∈ T := List.getElem_mem hk
     have n0 : T[k] ≠ 0 := fun e => h.no0 (e ▸ hmem)
     have hch := bU (st := st) (dx := dx) (tx := tx') (tdx := tdx) (er := er') hB h.plain o hk
     have o1 : On T (k + 1) (sAt T (k + 1)) := .here hk
     generalize hzz : T[k] = z at hz hmem n0 hch
     by_cases e62 : z = 62
     · subst e62
       exact aw hB (x6 hB hch (Nat.zero_le _)) o1 (ih .data (k + 1) ([]) (sAt T (k + 1)) _ _ R da (.inl o1) trivial (by first | exact mS hm hk (Nat.le_refl _) | (simp only [Stt.wt]; omega)) (Nat.zero_le _) nofun) (by simp [run, hz])
     by_cases e33 : z = 33
     · subst e33
       exact aw hB (qo hB hch (Nat.zero_le _)) o1 (ih .cb (k + 1) (acc) (sAt T (k + 1)) _ _ R da (.inl o1) trivial (by first | exact mS hm hk (Nat.le_refl _) | (simp only [Stt.wt]; omega)) (aK ha) (fun _ => ⟨rfl, rfl⟩)) (by simp [run, hz, e62])
     by_cases e45 : z = 45
     · subst e45
       exact aw hB (rF hB hch (by omega) (Nat.zero_le _)) o1 (ih .cn (k + 1) (acc ++ [45]) (sAt T (k + 1)) _ _ R da (.inl o1) trivial (by first | exact mS hm hk (Nat.le_refl _) | (simp only [Stt.wt]; omega)) (aL ha) (fun _ => ⟨rfl, rfl⟩)) (by simp [run, hz, e62, e33])
     exact aw hB (qF hB hch e62 e45 n0 e33 (by omega) (Nat.zero_le _)) o1 (ih .co (k + 1) (acc ++ ([45, 45] ++ [z])) (sAt T (k + 1)) _ _ R da (.inl o1) trivial (by first | exact mS hm hk (Nat.le_refl _) | (simp only [Stt.wt]; omega)) (aL ha) (fun _ => ⟨rfl, rfl⟩)) (by simp [run, hz, e62, e33, e45])
   · have hke : k = T.length := Nat.le_antisymm o.le (Nat.le_of_not_lt hk)
     subst hke
     have hz : T[T.length]? = none := List.getElem?_eq_none (Nat.le_refl _)
     have hch := bv (st := st) (dx := dx) (tx := tx') (tdx := tdx) (er := er') hB h.plain o
     exact aw hB (tW hB hch (Nat.zero_le _)) .past (ih .data (T.length) ([]) (dz T) _ _ R da (.inl .past) trivial (mE hm) (Nat.zero_le _) nofun) (by simp [run, hz])
  | cb =>
   have o : On T k q := o'.elim id fun e => nomatch e.1
   obtain ⟨rfl, rfl⟩ := hc rfl
   simp only [Stt.wt] at hm
   by_cases hk : k < T.length
   · have hz : T[k]? = some T[k] := List.getElem?_eq_getElem hk
     have hmem : T[k] ∈ T := List.getElem_mem hk
     have n0 : T[k] ≠ 0 := fun e => h.no0 (e ▸ hmem)
     have hch := bU (st := st) (dx := dx) (tx := tx') (tdx := tdx) (er := er') hB h.plain o hk
     have o1 : On T (k + 1) (sAt T (k + 1)) := .here hk
     generalize hzz : T[k] = z at hz hmem n0 hch
     by_cases e62 : z = 62
     · subst e62
       exact aw hB (xf hB hch (Nat.zero_le _)) o1 (ih .data (k + 1) ([]) (sAt T (k + 1)) _ _ R da (.inl o1) trivial (by first | exact mS hm hk (Nat.le_refl _) | (simp only [Stt.wt]; omega)) (Nat.zero_le _) nofun) (by simp [run, hz])
     by_cases e45 : z = 45
     · subst e45
       exact aw hB (qj hB hch (by omega) (Nat.zero_le _)) o1 (ih .ce (k + 1) (acc ++ [45, 45, 33]) (sAt T (k + 1)) _ _ R da (.inl o1) trivial (by first | exact mS hm hk (Nat.le_refl _) | (simp only [Stt.wt]; omega)) (aL ha) (fun _ => ⟨rfl, rfl⟩)) (by simp [run, hz, e62])
     exact aw hB (pi hB hch e62 e45 n0 (by omega) (Nat.zero_le _)) o1 (ih .co (k + 1) (acc ++ ([45, 45, 33] ++ [z])) (sAt T (k + 1)) _ _ R da (.inl o1) trivial (by first | exact mS hm hk (Nat.le_refl _) | (simp only [Stt.wt]; omega)) (aL ha) (fun _ => ⟨rfl, rfl⟩)) (by simp [run, hz, e62, e45])
   · have hke : k = T.length := Nat.le_antisymm o.le (Nat.le_of_not_lt hk)
     subst hke
     have hz : T[T.length]? = none := List.getElem?_eq_none (Nat.le_refl _)
     have hch := bv (st := st) (dx := dx) (tx := tx') (tdx := tdx) (er := er') hB h.plain o
     exact aw hB (rX hB hch (Nat.zero_le _)) .past (ih .data (T.length) ([]) (dz T) _ _ R da (.inl .past) trivial (mE hm) (Nat.zero_le _) nofun) (by simp [run, hz])
  | data =>
   simp only [Stt.wt] at hm
   by_cases hk : k < T.length
   · have hz : T[k]? = some T[k] := List.getElem?_eq_getElem hk
     have hmem : T[k] ∈ T := List.getElem_mem hk
     have n0 : T[k] ≠ 0 := fun e => h.no0 (e ▸ hmem)
     have hch : a7 B st dx tx' tdx er' T 4 133 [] (.str [T[k]]) q (sAt T (k + 1)) := by
      rcases o' with o | ⟨_, rfl, rfl⟩
      · exact bU hB h.plain o hk
      · exact kW hB h.plain hk
     have o1 : On T (k + 1) (sAt T (k + 1)) := .here hk
     generalize hzz : T[k] = z at hz hmem n0 hch
     by_cases e60 : z = 60
     · subst e60
       exact aw hB (qq hB hch (Nat.zero_le _)) o1 (ih .tag (k + 1) ([]) (sAt T (k + 1)) _ _ R da (.inl o1) ⟨k, rfl, hz⟩ (by first | exact mS hm hk (Nat.le_refl _) | (simp only [Stt.wt]; omega)) (Nat.zero_le _) nofun) (by simp [run, hz])
     have n38 : z ≠ 38 := fun e => h.no38 (e ▸ hmem)
     cases esp : decide ([z] ∈ aQ) with
     | true =>
      refine x12 (fO (st := st) (dx := dx) (tx := tx') (tdx := tdx) (er := er') hB h.plain (jp (l := aQ.map .str) (ms := aQ) rfl) (opp := true) (.inr rfl) o1) ?_; rintro q2 o2 hu
      have tl := jq uSp T (k + 1)
      have sc := e8 uSp T (k + 1)
      have le2 : ai uSp T (k + 1) ≤ T.length := o2.le
      exact aw (k' := ai uSp T (k + 1)) hB (qt (r := (T.drop (k + 1)).takeWhile uSp) hB hch n38 e60 n0 esp hu (by show ((T.drop (k + 1)).takeWhile uSp).length ≤ _; exact nT0 (nT0 ‹_› ‹_›) (lB0 rfl)) (Nat.zero_le _)) o2 (ih .data (ai uSp T (k + 1)) [] q2 _ _ R da (.inl o2) trivial (by simp only [Stt.wt]; omega) (Nat.zero_le _) nofun) (by have es := of_decide_eq_true esp; simp [run, hz, e60, es])
     | false =>
      refine x12 (fO (st := st) (dx := dx) (tx := tx') (tdx := tdx) (er := er') hB h.plain (jp (l := [.str [38], .str [60], .str [0]]) (ms := [[38], [60], [0]]) rfl) (opp := false) (.inl ⟨rfl, rfl⟩) o1) ?_; rintro q2 o2 hu
      have tl := jq uTx T (k + 1)
      have sc := e8 uTx T (k + 1)
      have le2 : ai uTx T (k + 1) ≤ T.length := o2.le
      exact aw (k' := ai uTx T (k + 1)) hB (qZ (r := (T.drop (k + 1)).takeWhile uTx) hB hch n38 e60 n0 esp hu (by show ((T.drop (k + 1)).takeWhile uTx).length ≤ _; exact nT0 (nT0 ‹_› ‹_›) (lB0 rfl)) (Nat.zero_le _)) o2 (ih .data (ai uTx T (k + 1)) [] q2 _ _ R da (.inl o2) trivial (by simp only [Stt.wt]; omega) (Nat.zero_le _) nofun) (by have es := of_decide_eq_false esp; simp [run, hz, e60, es])
   · have hke : k = T.length := Nat.le_antisymm (o'.elim (fun o => o.le) fun e => e.2.1 ▸ Nat.zero_le _) (Nat.le_of_not_lt hk)
     subst hke
     have hz : T[T.length]? = none := List.getElem?_eq_none (Nat.le_refl _)
     have hch : a7 B st dx tx' tdx er' T 4 133 [] .none q (dz T) := by
      rcases o' with o | ⟨_, h0, rfl⟩
      · exact bv hB h.plain o
      · have : T = [] := List.length_eq_zero_iff.mp h0
        subst this
        exact l4 hB h.plain
     refine ⟨(by rw [hB.K]; kernel_rfl), (nB hB hch (Nat.zero_le _)).mono fun d o2 ⟨e1, e2⟩ => ⟨dz T, 304, cur, [], rest, e2, .inl ⟨e1, by simp [run, hz], .past⟩⟩⟩
  | tag =>
   have o : On T k q := o'.elim id fun e => nomatch e.1
   simp only [Stt.wt] at hm
   by_cases hk : k < T.length
   · have hz : T[k]? = some T[k] := List.getElem?_eq_getElem hk
     have hmem : T[k] ∈ T := List.getElem_mem hk
     have n0 : T[k] ≠ 0 := fun e => h.no0 (e ▸ hmem)
     have hch := bU (st := st) (dx := dx) (tx := tx') (tdx := tdx) (er := er') hB h.plain o hk
     have o1 : On T (k + 1) (sAt T (k + 1)) := .here hk
     generalize hzz : T[k] = z at hz hmem n0 hch
     by_cases e33 : z = 33
     · subst e33
       refine x12 (hI) ?_; clear hI; rintro j hj h60
       exact aw hB (nF hB hch (Nat.zero_le _)) o1 (ih .mk (k + 1) ([]) (sAt T (k + 1)) _ _ R da (.inl o1) ⟨j, by omega, h60, by rw [← hj]; exact hz⟩ (by first | exact mS hm hk (Nat.le_refl _) | (simp only [Stt.wt]; omega)) (Nat.zero_le _) nofun) (by simp [run, hz])
     by_cases e47 : z = 47
     · subst e47
       exact aw hB (t9 hB hch (Nat.zero_le _)) o1 (ih .cl (k + 1) ([]) (sAt T (k + 1)) _ _ R da (.inl o1) trivial (by first | exact mS hm hk (Nat.le_refl _) | (simp only [Stt.wt]; omega)) (Nat.zero_le _) nofun) (by simp [run, hz, e33])
     by_cases e62 : z = 62
     · subst e62
       exact aw hB (uE hB hch (Nat.zero_le _)) o1 (ih .data (k + 1) ([]) (sAt T (k + 1)) _ _ R da (.inl o1) trivial (by first | exact mS hm hk (Nat.le_refl _) | (simp only [Stt.wt]; omega)) (Nat.zero_le _) nofun) (by simp [run, hz, e33, e47])
     by_cases e63 : z = 63
     · subst e63
       have ok0 : On T k (sAt T k) := .here (Nat.le_of_lt hk)
       have hu := eI (st := st) (dx := dx) (tx := tx') (tdx := tdx) (er := er') hB h.plain hk
       rw [hzz] at hu
       exact aw hB (xB hB hch hu (Nat.zero_le _)) ok0 (ih .bog (k) ([]) (sAt T k) _ _ R da (.inl ok0) trivial (by first | exact mE hm | (simp only [Stt.wt]; omega)) (Nat.zero_le _) nofun) (by simp [run, hz, e33, e47, e62])
     have ok0 : On T k (sAt T k) := .here (Nat.le_of_lt hk)
     have hu := eI (st := st) (dx := dx) (tx := tx') (tdx := tdx) (er := er') hB h.plain hk
     rw [hzz] at hu
     exact aw hB (nN hB hch e33 e47 (h.noLet z hmem) e62 e63 hu (Nat.zero_le _)) ok0 (ih .data (k) ([]) (sAt T k) _ _ R da (.inl ok0) trivial (by first | exact mE hm | (simp only [Stt.wt]; omega)) (Nat.zero_le _) nofun) (by simp [run, hz, e33, e47, e62, e63])
   · have hke : k = T.length := Nat.le_antisymm o.le (Nat.le_of_not_lt hk)
     subst hke
     have hz : T[T.length]? = none := List.getElem?_eq_none (Nat.le_refl _)
     have hch := bv (st := st) (dx := dx) (tx := tx') (tdx := tdx) (er := er') hB h.plain o
     exact aw hB (rd hB hch (iC hB) (Nat.zero_le _)) .past (ih .data (T.length) ([]) (dz T) _ _ R da (.inl .past) trivial (by first | exact mE hm | (simp only [Stt.wt]; omega)) (Nat.zero_le _) nofun) (by simp [run, hz])
  | cl =>
   have o : On T k q := o'.elim id fun e => nomatch e.1
   simp only [Stt.wt] at hm
   by_cases hk : k < T.length
   · have hz : T[k]? = some T[k] := List.getElem?_eq_getElem hk
     have hmem : T[k] ∈ T := List.getElem_mem hk
     have n0 : T[k] ≠ 0 := fun e => h.no0 (e ▸ hmem)
     have hch := bU (st := st) (dx := dx) (tx := tx') (tdx := tdx) (er := er') hB h.plain o hk
     have o1 : On T (k + 1) (sAt T (k + 1)) := .here hk
     generalize hzz : T[k] = z at hz hmem n0 hch
     by_cases e62 : z = 62
     · subst e62
       exact aw hB (yB hB hch (Nat.zero_le _)) o1 (ih .data (k + 1) ([]) (sAt T (k + 1)) _ _ R da (.inl o1) trivial (by first | exact mS hm hk (Nat.le_refl _) | (simp only [Stt.wt]; omega)) (Nat.zero_le _) nofun) (by simp [run, hz])
     have ok0 : On T k (sAt T k) := .here (Nat.le_of_lt hk)
     have hu := eI (st := st) (dx := dx) (tx := tx') (tdx := tdx) (er := er') hB h.plain hk
     rw [hzz] at hu
     exact aw hB (r0 hB hch (h.noLet z hmem) e62 hu (Nat.zero_le _)) ok0 (ih .bog (k) ([]) (sAt T k) _ _ R da (.inl ok0) trivial (mE hm) (Nat.zero_le _) nofun) (by simp [run, hz, e62])
   · have hke : k = T.length := Nat.le_antisymm o.le (Nat.le_of_not_lt hk)
     subst hke
     have hz : T[T.length]? = none := List.getElem?_eq_none (Nat.le_refl _)
     have hch := bv (st := st) (dx := dx) (tx := tx') (tdx := tdx) (er := er') hB h.plain o
     exact aw hB (rY hB hch (Nat.zero_le _)) .past (ih .data (T.length) ([]) (dz T) _ _ R da (.inl .past) trivial (by first | exact mE hm | (simp only [Stt.wt]; omega)) (Nat.zero_le _) nofun) (by simp [run, hz])
  | bog =>
   have o : On T k q := o'.elim id fun e => nomatch e.1
   simp only [Stt.wt] at hm
   refine x12 (fO (st := st) (dx := dx) (tx := tx') (tdx := tdx) (er := er') hB h.plain (tM (x := [62])) (opp := false) (.inl ⟨rfl, rfl⟩) o) ?_; rintro q1 o1 hu
   have tl := jq uGt T k
   have sc := e8 uGt T k
   have le1 : ai uGt T k ≤ T.length := o1.le
   have h0 : 0 ∉ (T.drop k).takeWhile uGt := fun m => h.no0 (List.mem_of_mem_drop ((List.takeWhile_sublist uGt).subset m))
   by_cases hs : ai uGt T k < T.length
   · have hmin : min (ai uGt T k + 1) T.length = ai uGt T k + 1 := Nat.min_eq_left hs
     have o2 : On T (ai uGt T k + 1) (sAt T (ai uGt T k + 1)) := .here hs
     exact aw hB (m5 (r := (T.drop k).takeWhile uGt) hB hu (bU hB h.plain o1 hs) (by show ((T.drop k).takeWhile uGt).length ≤ _; exact nT0 (nT0 ‹_› ‹_›) (lB0 rfl)) h0 (Nat.zero_le _)) o2 (ih .data (ai uGt T k + 1) [] _ _ _ R da (.inl o2) trivial (by simp only [Stt.wt]; omega) (Nat.zero_le _) nofun) (by simp [run, hmin])
   · have he : ai uGt T k = T.length := Nat.le_antisymm le1 (Nat.le_of_not_lt hs)
     have hmin : min (ai uGt T k + 1) T.length = T.length := Nat.min_eq_right (by omega)
     have o1' : On T T.length q1 := he ▸ o1
     exact aw hB (m5 (r := (T.drop k).takeWhile uGt) hB hu (bv hB h.plain o1') (by show ((T.drop k).takeWhile uGt).length ≤ _; exact nT0 (nT0 ‹_› ‹_›) (lB0 rfl)) h0 (Nat.zero_le _)) .past (ih .data T.length [] _ _ _ R da (.inl .past) trivial (by first | exact mE hm | (simp only [Stt.wt]; omega)) (Nat.zero_le _) nofun) (by simp [run, hmin])
  | mk =>
   have o : On T k q := o'.elim id fun e => nomatch e.1
   simp only [Stt.wt] at hm
   refine x13 (hI) ?_; clear hI; rintro j hj h60 h33
   by_cases hk : k < T.length
   · have hz : T[k]? = some T[k] := List.getElem?_eq_getElem hk
     have hmem : T[k] ∈ T := List.getElem_mem hk
     have hch := bU (st := st) (dx := dx) (tx := tx') (tdx := tdx) (er := er') hB h.plain o hk
     have o1 : On T (k + 1) (sAt T (k + 1)) := .here hk
     have ok0 : On T k (sAt T k) := .here (Nat.le_of_lt hk)
     have hu := eI (st := st) (dx := dx) (tx := tx') (tdx := tdx) (er := er') hB h.plain hk
     by_cases e45 : T[k] = 45
     · have hk1 : k + 1 < T.length := by
        have := h.noEnd j h60 h33 (by rw [← hj, hz, e45])
        omega
       have hz1 : T[k + 1]? = some T[k + 1] := List.getElem?_eq_getElem hk1
       have hch1 := bU (st := st) (dx := dx) (tx := tx') (tdx := tdx) (er := er') hB h.plain o1 hk1
       have o2 : On T (k + 2) (sAt T (k + 2)) := .here hk1
       rw [e45] at hch hu hz
       by_cases f45 : T[k + 1] = 45
       · rw [f45] at hch1 hz1
         refine ⟨(by rw [hB.K]; kernel_rfl), (pk hB hch hch1 (Nat.zero_le _)).mono fun d o3 ⟨e1, a, e2⟩ => ⟨_, 612, _, [], _, e2, .inr ⟨e1, by simp, by simp, _, ?_, ih .cs (k + 2) [] _ _ _ rest a (.inl o2) trivial (by simp only [Stt.wt]; omega) (by simp) (fun _ => ⟨rfl, rfl⟩)⟩⟩⟩
         simp [run, hz, hz1]
       · have hu1 := eI (st := st) (dx := dx) (tx := tx') (tdx := tdx) (er := er') hB h.plain hk1
         have g45 : ¬ T[k + 1]? = some 45 := by rw [hz1]; exact fun e => f45 (Option.some.inj e)
         exact aw hB (s5 hB hch hch1 f45 hu1 hu (Nat.zero_le _)) ok0 (ih .bog k [] _ _ _ R da (.inl ok0) trivial (mE hm) (Nat.zero_le _) nofun) (by simp [run, hz, g45])
     · have hd : decide ([T[k]] ∈ [[100], [68]]) = false := by
        have := h.noLet _ hmem
        cases hd : decide ([T[k]] ∈ [[100], [68]]) with
        | false => rfl
        | true =>
         have hd := of_decide_eq_true hd
         have : T[k] = 100 ∨ T[k] = 68 := by simpa using hd
         rcases this with e | e <;> (rw [e] at this; exact absurd this (by decide))
       have g45 : ¬ T[k]? = some 45 := by rw [hz]; exact fun e => e45 (Option.some.inj e)
       exact aw hB (oW hB hch e45 hd hu (Nat.zero_le _)) ok0 (ih .bog k [] _ _ _ R da (.inl ok0) trivial (mE hm) (Nat.zero_le _) nofun) (by simp [run, hz, e45])
   · have hke : k = T.length := Nat.le_antisymm o.le (Nat.le_of_not_lt hk)
     subst hke
     have hz : T[T.length]? = none := List.getElem?_eq_none (Nat.le_refl _)
     have hch := bv (st := st) (dx := dx) (tx := tx') (tdx := tdx) (er := er') hB h.plain o
     exact aw hB (sK hB hch (iC hB) (Nat.zero_le _)) .past (ih .bog T.length [] _ _ _ R da (.inl .past) trivial (mE hm) (Nat.zero_le _) nofun) (by simp [run, hz])
end
end
section
variable {k z s : Nat}
variable {T : List Nat}
theorem bo (u : Nat → Bool) (T : List Nat) (k : Nat) : k ≤ ai u T k := Nat.le_add_right _ _
theorem b8 (u : Nat → Bool) {T : List Nat} (h : k ≤ T.length) : ai u T k ≤ T.length := fX u T h
theorem ah (h : T[k]? = some z) : k < T.length := (List.getElem?_eq_some_iff.mp h).1
theorem qQ : ∀ (n m : Nat) (s : Stt) (k : Nat) (acc : List Nat), k ≤ T.length → 4 * (T.length - k) + s.wt ≤ n → 4 * (T.length - k) + s.wt ≤ m → run T n s k acc = run T m s k acc := by
 intro n
 induction n with
 | zero => intro m s k acc hk h; rcases s with _ | _ <;> simp [Stt.wt] at h
 | succ n ih =>
  intro m s k acc hk h hm
  cases m with
  | zero => rcases s with _ | _ <;> simp [Stt.wt] at hm
  | succ m =>
   have up : ∀ z, T[k]? = some z → k < T.length := fun z hz => ah hz
   rcases s with _ | _ <;> simp only [Stt.wt] at h hm <;> simp only [run]
   case bog =>
    have h1 := bo uGt T k
    have h2 := b8 uGt hk
    rw [ih m .data _ [] (Nat.min_le_right _ _) (by simp only [Stt.wt]; omega) (by simp only [Stt.wt]; omega)]
   case mk =>
    split
    · rename_i hz
      have := up _ hz
      split
      · rename_i hz1
        have := ah hz1
        rw [ih m .cs _ [] (by omega) (by simp only [Stt.wt]; omega) (by simp only [Stt.wt]; omega)]
      · rw [ih m .bog _ [] hk (by simp only [Stt.wt]; omega) (by simp only [Stt.wt]; omega)]
    · rw [ih m .bog _ [] hk (by simp only [Stt.wt]; omega) (by simp only [Stt.wt]; omega)]
   all_goals
    cases hz : T[k]? with
    | none => first | rfl | (dsimp only; rw [ih m .data _ [] hk (by simp only [Stt.wt]; omega) (by simp only [Stt.wt]; omega)])
    | some z =>
     have hk1 := up z hz
     have a1 := bo uSp T (k + 1)
     have a2 := b8 uSp (T := T) (k := k + 1) hk1
     have a3 := bo uTx T (k + 1)
     have a4 := b8 uTx (T := T) (k := k + 1) hk1
     have a5 := bo uDs T (k + 1)
     have a6 := b8 uDs (T := T) (k := k + 1) hk1
     dsimp only
     repeat' split
     all_goals first
      | rfl
      | (rw [ih m _ _ _ hk1 (by simp only [Stt.wt]; omega) (by simp only [Stt.wt]; omega)])
      | (rw [ih m _ _ _ hk (by simp only [Stt.wt]; omega) (by simp only [Stt.wt]; omega)])
      | (rw [ih m _ _ _ a2 (by simp only [Stt.wt]; omega) (by simp only [Stt.wt]; omega)])
      | (rw [ih m _ _ _ a4 (by simp only [Stt.wt]; omega) (by simp only [Stt.wt]; omega)])
      | (rw [ih m _ _ _ a6 (by simp only [Stt.wt]; omega) (by simp only [Stt.wt]; omega)])
noncomputable def aZ (T : List Nat) (k : Nat) : List (Nat × AV) := run T (4 * (T.length - k) + 1) .data k []
theorem aS {n : Nat} (hk : k ≤ T.length) (h : 4 * (T.length - k) + 1 ≤ n) : run T n .data k [] = aZ T k := qQ n _ .data k [] hk h (Nat.le_refl _)
noncomputable def cut (T : List Nat) (a b : Nat) : List Nat := (T.drop a).take (b - a)
noncomputable def dd (T : List Nat) (s k : Nat) : Bool := decide (s + 2 ≤ k ∧ T[k - 2]? = some 45 ∧ T[k - 1]? = some 45)
noncomputable def ddb (T : List Nat) (s k : Nat) : Bool := decide (s + 3 ≤ k ∧ T[k - 3]? = some 45 ∧ T[k - 2]? = some 45 ∧ T[k - 1]? = some 33)
noncomputable def e9 (z : Nat) : String := if z = 45 then "unexpected-dash-after-double-dash-in-comment" else if z = 33 then "unexpected-bang-after-double-dash-in-comment" else "unexpected-char-in-comment"
noncomputable def be (T : List Nat) (s n : Nat) : List (Nat × AV) :=
 if ddb T s n = true then [(n, er "eof-in-comment-end-bang-state"), (n, aD (cut T s (n - 3)))] else if dd T s n = true then [(n, er "eof-in-comment-double-dash"), (n, aD (cut T s (n - 2)))]
 else if s + 1 = n ∧ T[s]? = some 45 then [(n, er "eof-in-comment"), (n, aD [])] else if s < n ∧ T[n - 1]? = some 45 then [(n, er "eof-in-comment-end-dash"), (n, aD (cut T s (n - 1)))]
 else [(n, er "eof-in-comment"), (n, aD (cut T s n))]
noncomputable def cm (T : List Nat) (s : Nat) : Nat → Nat → List (Nat × AV) × Nat
 | 0, _ => (be T s T.length, T.length)
 | n + 1, k => match T[k]? with
  | none => (be T s T.length, T.length)
  | some z => if z = 62 ∧ dd T s k = true then ([(k + 1, aD (cut T s (k - 2)))], k + 1) else if z = 62 ∧ ddb T s k = true then ([(k + 1, aD (cut T s (k - 3)))], k + 1)
   else ((if dd T s k = true then [(k + 1, er (e9 z))] else []) ++ (cm T s n (k + 1)).1, (cm T s n (k + 1)).2)
theorem aX {a : Nat} (h : a ≤ k) (hz : T[k]? = some z) : cut T a (k + 1) = cut T a k ++ [z] := by
 unfold cut
 rw [show k + 1 - a = (k - a) + 1 from by omega, List.take_add_one, List.getElem?_drop, show a + (k - a) = k from by omega, hz]
 rfl
theorem dk (a : Nat) : cut T a a = [] := by unfold cut; rw [Nat.sub_self]; rfl
theorem n7 {a b c : Nat} (h : a ≤ b) (h' : b ≤ c) : cut T a b ++ cut T b c = cut T a c := by
 induction c with
 | zero => have : b = 0 := by omega
           subst this
           have : a = 0 := by omega
           subst this; rfl
 | succ c ih =>
  by_cases e : b = c + 1
  · subst e; rw [dk, List.append_nil]
  · cases hz : T[c]? with
    | some z => rw [aX (by omega) hz, aX (by omega) hz, ← List.append_assoc, ih (by omega)]
    | none =>
     have hl := List.getElem?_eq_none_iff.mp hz
     have st : ∀ x, cut T x (c + 1) = cut T x c := fun x => by
      unfold cut
      by_cases q : x ≤ c
      · rw [List.take_of_length_le (by rw [List.length_drop]; omega), List.take_of_length_le (by rw [List.length_drop]; omega)]
      · rw [List.drop_eq_nil_of_le (by omega)]; simp
     rw [st, st, ih (by omega)]
theorem io (u : Nat → Bool) (k : Nat) : (T.drop k).takeWhile u = cut T k (ai u T k) := by
 unfold cut ai
 rw [Nat.add_sub_cancel_left]
 generalize T.drop k = l
 induction l with
 | nil => rfl
 | cons a l ih =>
  by_cases e : u a = true
  · rw [List.takeWhile_cons, if_pos e, List.length_cons, List.take_succ_cons, ← ih]
  · rw [List.takeWhile_cons, if_neg e]; rfl
theorem cx {m : Nat} (hz : T[k]? = some z) (h1 : ¬ (z = 62 ∧ dd T s k = true)) (h2 : ¬ (z = 62 ∧ ddb T s k = true)) : cm T s (m + 1) k = ((if dd T s k = true then [(k + 1, er (e9 z))] else []) ++ (cm T s m (k + 1)).1, (cm T s m (k + 1)).2) := by
 simp only [cm, hz]
 rw [if_neg h1, if_neg h2]
theorem dM {m : Nat} (hz : T[k]? = none) : cm T s m k = (be T s T.length, T.length) := by cases m with
 | zero => rfl
 | succ m => simp only [cm, hz]
theorem mH : ∀ (d m k : Nat), (∀ p, k ≤ p → p < k + d → p < T.length ∧ dd T s p = false ∧ ddb T s p = false) → cm T s (m + d) k = cm T s m (k + d)
 | 0, m, k, _ => rfl
 | d + 1, m, k, h => by
  refine x03 (h k (Nat.le_refl _) (by omega)) ?_; rintro h1 h2 h3
  rw [show m + (d + 1) = (m + d) + 1 from rfl, cx (List.getElem?_eq_getElem h1) (by rw [h2]; simp) (by rw [h3]; simp), h2, mH d m (k + 1) (fun p a b => h p (by omega) (by omega))]
  rw [show k + 1 + d = k + (d + 1) from by omega]
  simp
theorem bh : dd T s k = true ↔ s + 2 ≤ k ∧ T[k - 2]? = some 45 ∧ T[k - 1]? = some 45 := by unfold dd; exact decide_eq_true_iff
theorem b7 : ddb T s k = true ↔ s + 3 ≤ k ∧ T[k - 3]? = some 45 ∧ T[k - 2]? = some 45 ∧ T[k - 1]? = some 33 := by unfold ddb; exact decide_eq_true_iff
noncomputable def InC (T : List Nat) (s : Nat) : Stt → Nat → List Nat → Prop
 | .co, k, acc => s + 1 ≤ k ∧ (∀ x, T[k - 1]? = some x → x ≠ 45) ∧ ddb T s k = false ∧ acc = cut T s k
 | .ce, k, acc => s + 2 ≤ k ∧ T[k - 1]? = some 45 ∧ dd T s k = false ∧ acc = cut T s (k - 1)
 | .cn, k, acc => dd T s k = true ∧ acc = cut T s (k - 2)
 | .cb, k, acc => ddb T s k = true ∧ acc = cut T s (k - 3)
 | _, _, _ => False
theorem jS {a : Option Nat} (h : ∀ x, a = some x → x ≠ 45) : ¬ a = some 45 := fun e => h _ e rfl
theorem lr : ∀ (n : Nat) (st : Stt) (k : Nat) (acc : List Nat) (m : Nat), InC T s st k acc → k ≤ T.length → 4 * (T.length - k) + 2 ≤ n → T.length - k + 1 ≤ m → run T n st k acc = (cm T s m k).1 ++ aZ T (cm T s m k).2 := by
 intro n
 induction n with
 | zero => intro st k acc m _ _ h; omega
 | succ n ih =>
  intro st k acc m hI hk hn hm
  obtain ⟨m, rfl⟩ : ∃ m', m = m' + 1 := ⟨m - 1, by omega⟩
  cases st with
  | co =>
   refine x04 (hI) ?_; clear hI; rintro h1 h2 h3 rfl
   have nd : dd T s k = false := by cases q : dd T s k with | false => rfl | true => exact absurd (bh.mp q).2.2 (jS h2)
   cases hz : T[k]? with
   | none =>
    have hl := List.getElem?_eq_none_iff.mp hz
    have : k = T.length := by omega
    subst this
    rw [dM hz]
    simp only [run, hz]
    have a1 : ¬ (s + 1 = T.length ∧ T[s]? = some 45) := fun q => jS h2 (by rw [show T.length - 1 = s from by omega]; exact q.2)
    rw [aS (Nat.le_refl _) (by omega)]
    simp [be, nd, h3, a1, jS h2]
   | some z =>
    have hlt := ah hz
    by_cases e : z = 45
    · subst e
      rw [cx hz (by simp) (by simp), nd]
      simp only [run, hz]
      rw [if_pos trivial, ih .ce (k + 1) _ m ⟨by omega, by rw [Nat.add_sub_cancel]; exact hz, ?_, by rw [Nat.add_sub_cancel]⟩ hlt (by omega) (by omega)]
      · simp
      · cases q : dd T s (k + 1) with
        | false => rfl
        | true => exact absurd (by have := (bh.mp q).2.1; rw [show k + 1 - 2 = k - 1 from by omega] at this; exact this) (jS h2)
    · have g1 := bo uDs T (k + 1)
      have g2 := b8 uDs (T := T) (k := k + 1) hlt
      have inside : ∀ p, k ≤ p → p < ai uDs T (k + 1) → ∀ x, T[p]? = some x → x ≠ 45 := by
       intro p hp hp' x hx
       by_cases q : p = k
       · subst q; rw [hz] at hx; exact Option.some.inj hx ▸ e
       · have hlen := e8 uDs T (k + 1)
         have hmem : x ∈ (T.drop (k + 1)).takeWhile uDs := by
          rw [io]
          unfold cut
          refine List.mem_of_getElem? (i := p - (k + 1)) ?_
          rw [List.getElem?_take, if_pos (by omega), List.getElem?_drop, show k + 1 + (p - (k + 1)) = p from by omega]
          exact hx
         have := List.all_eq_true.mp (List.all_takeWhile (p := uDs) (l := T.drop (k + 1))) x hmem
         intro e45
         subst e45
         exact absurd this (by decide)
      have ndp : ∀ p, k ≤ p → p ≤ ai uDs T (k + 1) → dd T s p = false := fun p hp hp' => by
       by_cases q : p = k
       · exact q ▸ nd
       · cases w : dd T s p with
         | false => rfl
         | true => exact absurd rfl (inside (p - 1) (by omega) (by omega) 45 (bh.mp w).2.2)
      have nbp : ∀ p, k ≤ p → p ≤ ai uDs T (k + 1) → ddb T s p = false := fun p hp hp' => by
       by_cases q : p = k
       · exact q ▸ h3
       · cases w : ddb T s p with
         | false => rfl
         | true =>
          refine x04 (b7.mp w) ?_; rintro _ _ w2 _
          by_cases q' : p = k + 1
          · subst q'; exact absurd (by rw [show k + 1 - 2 = k - 1 from by omega] at w2; exact w2) (jS h2)
          · exact absurd rfl (inside (p - 2) (by omega) (by omega) 45 w2)
      simp only [run, hz]
      rw [if_neg e, io]
      have e1 : cut T s k ++ ([z] ++ cut T (k + 1) (ai uDs T (k + 1))) = cut T s (ai uDs T (k + 1)) := by
       rw [← List.append_assoc, ← aX (by omega) hz, n7 (by omega) g1]
      rw [e1]
      have d : m + 1 = (m + 1 - (ai uDs T (k + 1) - k)) + (ai uDs T (k + 1) - k) := by omega
      rw [d, mH _ _ k (fun p a b => ⟨by omega, ndp p a (by omega), nbp p a (by omega)⟩), show k + (ai uDs T (k + 1) - k) = ai uDs T (k + 1) from by omega]
      exact ih .co _ _ _ ⟨by omega, fun x hx => inside _ (by omega) (by omega) x hx, nbp _ (by omega) (Nat.le_refl _), rfl⟩ g2 (by omega) (by omega)
  | ce =>
   refine x04 (hI) ?_; clear hI; rintro h1 h2 h3 rfl
   have nb : ddb T s k = false := by
    cases q : ddb T s k with
    | false => rfl
    | true => have := (b7.mp q).2.2.2; rw [h2] at this; simp at this
   cases hz : T[k]? with
   | none =>
    have hl := List.getElem?_eq_none_iff.mp hz
    have : k = T.length := by omega
    subst this
    rw [dM hz]
    simp only [run, hz]
    rw [aS (Nat.le_refl _) (by omega)]
    have a1 : ¬ (s + 1 = T.length ∧ T[s]? = some 45) := fun q => by omega
    have a2 : s < T.length := by omega
    unfold be
    rw [if_neg (by rw [nb]; simp), if_neg (by rw [h3]; simp), if_neg a1, if_pos ⟨a2, h2⟩]
    rfl
   | some z =>
    have hlt := ah hz
    rw [cx hz (by rw [h3]; simp) (by rw [nb]; simp), h3]
    simp only [run, hz]
    by_cases e : z = 45
    · subst e
      rw [if_pos rfl, ih .cn (k + 1) _ m ⟨bh.mpr ⟨by omega, by rw [show k + 1 - 2 = k - 1 from by omega]; exact h2, by rw [Nat.add_sub_cancel]; exact hz⟩, by rw [show k + 1 - 2 = k - 1 from by omega]⟩ hlt (by omega) (by omega)]
      simp
    · have e1 : cut T s (k - 1) ++ ([45] ++ [z]) = cut T s (k + 1) := by
       rw [aX (a := s) (by omega) hz, ← List.append_assoc]
       congr 1
       have := aX (T := T) (a := s) (k := k - 1) (by omega) h2
       rw [show k - 1 + 1 = k from by omega] at this
       exact this.symm
      rw [if_neg e, e1, ih .co (k + 1) _ m ⟨by omega, fun x hx => by rw [Nat.add_sub_cancel, hz] at hx; exact Option.some.inj hx ▸ e, ?_, rfl⟩ hlt (by omega) (by omega)]
      · simp
      · cases q : ddb T s (k + 1) with
        | false => rfl
        | true =>
         refine x04 (b7.mp q) ?_; rintro w0 w1 w2 _
         rw [show k + 1 - 3 = k - 2 from by omega] at w1
         rw [show k + 1 - 2 = k - 1 from by omega] at w2
         rw [bh.mpr ⟨by omega, w1, w2⟩] at h3
         exact absurd h3 (by simp)
  | cn =>
   obtain ⟨h1, rfl⟩ := hI
   refine x03 (bh.mp h1) ?_; rintro g0 g1 g2
   have nb : ddb T s k = false := by
    cases q : ddb T s k with
    | false => rfl
    | true => have := (b7.mp q).2.2.2; rw [g2] at this; simp at this
   cases hz : T[k]? with
   | none =>
    have hl := List.getElem?_eq_none_iff.mp hz
    have : k = T.length := by omega
    subst this
    rw [dM hz]
    simp only [run, hz]
    rw [aS (Nat.le_refl _) (by omega)]
    simp [be, nb, h1]
   | some z =>
    have hlt := ah hz
    have c1 : cut T s (k - 2) ++ [45] = cut T s (k - 1) := by
     have := aX (T := T) (a := s) (k := k - 2) (by omega) g1
     rw [show k - 2 + 1 = k - 1 from by omega] at this
     exact this.symm
    have c2 : cut T s (k - 1) ++ [45] = cut T s k := by
     have := aX (T := T) (a := s) (k := k - 1) (by omega) g2
     rw [show k - 1 + 1 = k from by omega] at this
     exact this.symm
    by_cases e62 : z = 62
    · subst e62
      simp only [run, hz, cm]
      rw [if_pos trivial, if_pos ⟨trivial, h1⟩, aS hlt (by omega)]
      simp
    · rw [cx hz (by simp [e62]) (by simp [e62]), h1]
      simp only [run, hz]
      rw [if_neg e62]
      by_cases e33 : z = 33
      · subst e33
        rw [if_pos rfl, ih .cb (k + 1) _ m ⟨b7.mpr ⟨by omega, by rw [show k + 1 - 3 = k - 2 from by omega]; exact g1, by rw [show k + 1 - 2 = k - 1 from by omega]; exact g2, by rw [Nat.add_sub_cancel]; exact hz⟩, by rw [show k + 1 - 3 = k - 2 from by omega]⟩ hlt (by omega) (by omega)]
        simp [e9]
      · rw [if_neg e33]
        by_cases e45 : z = 45
        · subst e45
          rw [if_pos rfl, c1, ih .cn (k + 1) _ m ⟨bh.mpr ⟨by omega, by rw [show k + 1 - 2 = k - 1 from by omega]; exact g2, by rw [Nat.add_sub_cancel]; exact hz⟩, by rw [show k + 1 - 2 = k - 1 from by omega]⟩ hlt (by omega) (by omega)]
          simp [e9]
        · have e1 : cut T s (k - 2) ++ ([45, 45] ++ [z]) = cut T s (k + 1) := by
           rw [aX (a := s) (by omega) hz, ← c2, ← c1]
           simp
          rw [if_neg e45, e1, ih .co (k + 1) _ m ⟨by omega, fun x hx => by rw [Nat.add_sub_cancel, hz] at hx; exact Option.some.inj hx ▸ e45, ?_, rfl⟩ hlt (by omega) (by omega)]
          · simp [e9, e45, e33]
          · cases q : ddb T s (k + 1) with
            | false => rfl
            | true =>
             have := (b7.mp q).2.2.2
             rw [Nat.add_sub_cancel, hz] at this
             exact absurd (Option.some.inj this) e33
  | cb =>
   obtain ⟨h1, rfl⟩ := hI
   refine x04 (b7.mp h1) ?_; rintro g0 g1 g2 g3
   have nd : dd T s k = false := by
    cases q : dd T s k with
    | false => rfl
    | true => have := (bh.mp q).2.2; rw [g3] at this; simp at this
   have c1 : cut T s (k - 3) ++ [45, 45, 33] = cut T s k := by
    have a1 := aX (T := T) (a := s) (k := k - 3) (by omega) g1
    have a2 := aX (T := T) (a := s) (k := k - 2) (by omega) g2
    have a3 := aX (T := T) (a := s) (k := k - 1) (by omega) g3
    rw [show k - 3 + 1 = k - 2 from by omega] at a1
    rw [show k - 2 + 1 = k - 1 from by omega] at a2
    rw [show k - 1 + 1 = k from by omega] at a3
    rw [a3, a2, a1]; simp
   cases hz : T[k]? with
   | none =>
    have hl := List.getElem?_eq_none_iff.mp hz
    have : k = T.length := by omega
    subst this
    rw [dM hz]
    simp only [run, hz]
    rw [aS (Nat.le_refl _) (by omega)]
    simp [be, h1]
   | some z =>
    have hlt := ah hz
    by_cases e62 : z = 62
    · subst e62
      simp only [run, hz, cm]
      rw [if_pos trivial, if_neg (by rw [nd]; simp), if_pos ⟨trivial, h1⟩, aS hlt (by omega)]
      simp
    · rw [cx hz (by simp [e62]) (by simp [e62]), nd]
      simp only [run, hz]
      rw [if_neg e62]
      by_cases e45 : z = 45
      · subst e45
        rw [if_pos rfl, c1, ih .ce (k + 1) _ m ⟨by omega, by rw [Nat.add_sub_cancel]; exact hz, ?_, by rw [Nat.add_sub_cancel]⟩ hlt (by omega) (by omega)]
        · simp
        · cases q : dd T s (k + 1) with
          | false => rfl
          | true =>
           have := (bh.mp q).2.1
           rw [show k + 1 - 2 = k - 1 from by omega, g3] at this
           simp at this
      · have e1 : cut T s (k - 3) ++ ([45, 45, 33] ++ [z]) = cut T s (k + 1) := by
         rw [aX (a := s) (by omega) hz, ← c1]
         simp
        rw [if_neg e45, e1, ih .co (k + 1) _ m ⟨by omega, fun x hx => by rw [Nat.add_sub_cancel, hz] at hx; exact Option.some.inj hx ▸ e45, ?_, rfl⟩ hlt (by omega) (by omega)]
        · simp
        · cases q : ddb T s (k + 1) with
          | false => rfl
          | true =>
           have := (b7.mp q).2.2.1
           rw [show k + 1 - 2 = k - 1 from by omega, g3] at this
           simp at this
  | _ => exact hI.elim
end
section
variable {k s : Nat}
variable {T : List Nat}
noncomputable def aI (T : List Nat) (s : Nat) : List (Nat × AV) × Nat :=
 if T[s]? = some 62 then ([(s + 1, er "incorrect-comment"), (s + 1, aD [])], s + 1) else if T[s]? = some 45 ∧ T[s + 1]? = some 62 then ([(s + 2, er "incorrect-comment"), (s + 2, aD [])], s + 2)
 else cm T s (T.length - s + 1) s
noncomputable def cT (T : List Nat) (s : Nat) (fault : AV) : List (Nat × AV) × Nat := ([(s, fault), (min (ai uGt T s + 1) T.length, aD (cut T s (ai uGt T s)))], min (ai uGt T s + 1) T.length)
noncomputable abbrev erC (c : Nat) : AV := .dct [("type", .int 7), ("data", .str (sg "expected-closing-tag-but-got-char")), ("datavars", .dct [("data", .str [c])])]
noncomputable def ak (T : List Nat) (k z : Nat) : List (Nat × AV) × Nat :=
 if [z] ∈ aQ then ([(ai uSp T (k + 1), sp (cut T k (ai uSp T (k + 1))))], ai uSp T (k + 1)) else if z ≠ 60 then ([(ai uTx T (k + 1), tx (cut T k (ai uTx T (k + 1))))], ai uTx T (k + 1))
 else if T[k + 1]? = some 33 then (if T[k + 2]? = some 45 ∧ T[k + 3]? = some 45 then aI T (k + 4) else cT T (k + 2) (er "expected-dashes-or-doctype"))
 else if T[k + 1]? = some 63 then cT T (k + 1) (er "expected-tag-name-but-got-question-mark")
 else if T[k + 1]? = some 47 then (match T[k + 2]? with
  | none => ([(k + 2, er "expected-closing-tag-but-got-eof"), (k + 2, tx [60, 47])], k + 2)
  | some c => if c = 62 then ([(k + 3, er "expected-closing-tag-but-got-right-bracket")], k + 3) else cT T (k + 2) (erC c))
 else if T[k + 1]? = some 62 then ([(k + 2, er "expected-tag-name-but-got-right-bracket"), (k + 2, tx [60, 62])], k + 2)
 else ([(k + 1, er "expected-tag-name"), (k + 1, tx [60])], k + 1)
theorem jr {n : Nat} {acc : List Nat} (hk : k ≤ T.length) (hn : 4 * (T.length - k) + 2 ≤ n) (fault : AV) : (k, fault) :: run T n .bog k acc = (cT T k fault).1 ++ aZ T (cT T k fault).2 := by
 obtain ⟨n, rfl⟩ : ∃ m, n = m + 1 := ⟨n - 1, by omega⟩
 have g := bo uGt T k
 simp only [run, cT]
 rw [io, aS (Nat.min_le_right _ _) (by omega)]
 rfl
theorem y9 (h : T.length ≤ s + 1) (h' : ¬ (s + 1 = T.length ∧ T[s]? = some 45)) (h2 : s = T.length ∨ ¬ T[T.length - 1]? = some 45) : be T s T.length = [(T.length, er "eof-in-comment"), (T.length, aD (cut T s T.length))] := by
 unfold be
 rw [if_neg (fun q => by have := (b7.mp q).1; omega), if_neg (fun q => by have := (bh.mp q).1; exact absurd ‹_› (Nat.not_lt.mpr ‹_›)), if_neg h', if_neg]
 rintro ⟨a, b⟩
 rcases h2 with e | e
 · omega
 · exact e b
theorem i8 (h : k < s + 2) : dd T s k = false ∧ ddb T s k = false := by
 constructor
 · cases q : dd T s k with
   | false => rfl
   | true => have := (bh.mp q).1; omega
 · cases q : ddb T s k with
   | false => rfl
   | true => have := (b7.mp q).1; omega
theorem xW {n : Nat} (hs : s ≤ T.length) (hn : 4 * (T.length - s) + 2 ≤ n) : run T n .cs s [] = (aI T s).1 ++ aZ T (aI T s).2 := by
 obtain ⟨n, rfl⟩ : ∃ m, n = m + 1 := ⟨n - 1, by omega⟩
 obtain ⟨d0, b0⟩ := i8 (T := T) (s := s) (k := s) (by exact Nat.le_succ _)
 obtain ⟨d1, b1⟩ := i8 (T := T) (s := s) (k := s + 1) (by exact Nat.lt_succ_self _)
 cases hz : T[s]? with
 | none =>
  have hl := List.getElem?_eq_none_iff.mp hz
  have : s = T.length := by exact Nat.le_antisymm ‹_› ‹_›
  subst this
  have hN : aI T T.length = (be T T.length T.length, T.length) := by simp [aI, dM hz]
  rw [hN, y9 (by exact Nat.le_add_right _ _) (by simp) (.inl rfl), dk]
  simp [run, aS (T := T) (Nat.le_refl _) (show 4 * (T.length - T.length) + 1 ≤ n by exact Nat.le_of_lt_succ ‹_›)]
 | some z =>
  have hlt := ah hz
  by_cases e62 : z = 62
  · subst e62
    have hN : aI T s = ([(s + 1, er "incorrect-comment"), (s + 1, aD [])], s + 1) := by simp [aI, hz]
    rw [hN]
    simp [run, hz, aS (T := T) (k := s + 1) hlt (show 4 * (T.length - (s + 1)) + 1 ≤ n by omega)]
  · by_cases e45 : z = 45
    · subst e45
      have hR : run T (n + 1) .cs s [] = run T n .cd (s + 1) [] := by simp [run, hz]
      rw [hR]
      obtain ⟨n, rfl⟩ : ∃ m, n = m + 1 := ⟨n - 1, by omega⟩
      cases hz1 : T[s + 1]? with
      | none =>
       have hl := List.getElem?_eq_none_iff.mp hz1
       have hn1 : s + 1 = T.length := by exact Nat.le_antisymm ‹_› ‹_›
       have hN : aI T s = (be T s T.length, T.length) := by
        unfold aI
        rw [if_neg (by rw [hz]; decide), if_neg (by rw [hz1]; simp), cx hz (by simp) (by simp), d0, dM hz1]
        rfl
       have hE : be T s T.length = [(T.length, er "eof-in-comment"), (T.length, aD [])] := by
        unfold be
        rw [if_neg (fun q => by have := (b7.mp q).1; omega), if_neg (fun q => by have := (bh.mp q).1; exact absurd ‹_› (Nat.not_lt.mpr ‹_›)), if_pos ⟨hn1, hz⟩]
       rw [hN, hE]
       simp only [run, hz1]
       rw [aS (k := s + 1) hlt (by omega), hn1]
       rfl
      | some y =>
       have hlt1 := ah hz1
       by_cases f62 : y = 62
       · subst f62
         have hN : aI T s = ([(s + 2, er "incorrect-comment"), (s + 2, aD [])], s + 2) := by simp [aI, hz, hz1]
         rw [hN]
         simp [run, hz1, aS (T := T) (k := s + 1 + 1) hlt1 (show 4 * (T.length - (s + 1 + 1)) + 1 ≤ n by omega)]
       · obtain ⟨m, hm⟩ : ∃ m, T.length - s = m + 1 := ⟨T.length - s - 1, by omega⟩
         have hN : aI T s = cm T s m (s + 1 + 1) := by
          unfold aI
          rw [if_neg (by rw [hz]; decide), if_neg (by rw [hz1]; exact fun q => f62 (Option.some.inj q.2)), cx hz (by simp) (by simp), d0, hm, cx hz1 (by simp [f62]) (by simp [f62]), d1]
          simp
         rw [hN]
         by_cases f45 : y = 45
         · subst f45
           have hR : run T (n + 1) .cd (s + 1) [] = run T n .cn (s + 1 + 1) [] := by simp [run, hz1]
           rw [hR, lr (s := s) n .cn (s + 1 + 1) [] m ⟨bh.mpr ⟨by exact Nat.lt_succ_self _, hz, hz1⟩, by rw [show s + 1 + 1 - 2 = s from by rfl, dk]⟩ hlt1 (by omega) (by omega)]
         · have e1 : [] ++ ([45] ++ [y]) = cut T s (s + 1 + 1) := by rw [aX (by exact Nat.le_add_right _ _) hz1, aX (Nat.le_refl _) hz, dk]; rfl
           have hR : run T (n + 1) .cd (s + 1) [] = run T n .co (s + 1 + 1) ([] ++ ([45] ++ [y])) := by simp [run, hz1, f45, f62]
           rw [hR, e1, lr (s := s) n .co (s + 1 + 1) _ m ⟨by exact Nat.le_add_right _ _, fun x hx => by rw [Nat.add_sub_cancel, hz1] at hx; exact Option.some.inj hx ▸ f45, ?_, rfl⟩ hlt1 (by omega) (by omega)]
           cases q : ddb T s (s + 1 + 1) with
           | false => rfl
           | true => have := (b7.mp q).1; omega
    · have e1 : [] ++ [z] = cut T s (s + 1) := by rw [aX (Nat.le_refl _) hz, dk]
      have hN : aI T s = cm T s (T.length - s) (s + 1) := by
       unfold aI
       rw [if_neg (by rw [hz]; exact fun q => e62 (Option.some.inj q)), if_neg (by rw [hz]; exact fun q => e45 (Option.some.inj q.1)), cx hz (by simp [e62]) (by simp [e62]), d0]
       simp
      have hR : run T (n + 1) .cs s [] = run T n .co (s + 1) ([] ++ [z]) := by simp [run, hz, e45, e62]
      rw [hN, hR, e1, lr (s := s) n .co (s + 1) _ (T.length - s) ⟨Nat.le_refl _, fun x hx => by rw [Nat.add_sub_cancel, hz] at hx; exact Option.some.inj hx ▸ e45, b1, rfl⟩ hlt (by omega) (by omega)]
theorem p5 {z : Nat} (hz : T[k]? = some z) : aZ T k = (ak T k z).1 ++ aZ T (ak T k z).2 := by
 have hlt := ah hz
 have g1 := bo uSp T (k + 1)
 have g2 := b8 uSp (T := T) (k := k + 1) hlt
 have g3 := bo uTx T (k + 1)
 have g4 := b8 uTx (T := T) (k := k + 1) hlt
 have c1 : cut T k (k + 1) = [z] := by rw [aX (Nat.le_refl _) hz, dk]; rfl
 have pre : ∀ j, k + 1 ≤ j → z :: cut T (k + 1) j = cut T k j := fun j h => by rw [← n7 (Nat.le_succ k) h, c1]; rfl
 obtain ⟨n, hn⟩ : ∃ n, 4 * (T.length - k) = n + 1 := ⟨4 * (T.length - k) - 1, by omega⟩
 have hD : aZ T k = run T (n + 1 + 1) .data k [] := by unfold aZ; rw [hn]
 rw [hD]
 by_cases e60 : z = 60
 · subst e60
   have hR : run T (n + 1 + 1) .data k [] = run T (n + 1) .tag (k + 1) [] := by rw [run, hz]; rfl
   rw [hR]
   have hn3 : 4 * (T.length - (k + 1)) + 3 ≤ n := by omega
   clear hn hR
   cases h1 : T[k + 1]? with
   | none =>
    have hS : ak T k 60 = ([(k + 1, er "expected-tag-name"), (k + 1, tx [60])], k + 1) := by simp [ak, h1, show ¬ [60] ∈ aQ from by decide]
    rw [hS]
    simp only [run, h1]
    rw [aS hlt (by omega)]
    rfl
   | some y =>
    have hlt1 := ah h1
    by_cases y33 : y = 33
    · subst y33
      have hR : run T (n + 1) .tag (k + 1) [] = run T n .mk (k + 2) [] := by simp [run, h1]
      rw [hR]
      obtain ⟨n, rfl⟩ : ∃ m, n = m + 1 := ⟨n - 1, by omega⟩
      by_cases h23 : T[k + 2]? = some 45 ∧ T[k + 3]? = some 45
      · have hS : ak T k 60 = aI T (k + 4) := by simp [ak, h1, show ¬ [60] ∈ aQ from by decide, h23]
        have hR : run T (n + 1) .mk (k + 2) [] = run T n .cs (k + 4) [] := by simp [run, h23]
        rw [hS, hR, xW (ah h23.2) (by omega)]
      · have hS : ak T k 60 = cT T (k + 2) (er "expected-dashes-or-doctype") := by
         unfold ak
         rw [if_neg (by decide), if_neg (by decide), h1, if_pos rfl, if_neg h23]
        have hR : run T (n + 1) .mk (k + 2) [] = (k + 2, er "expected-dashes-or-doctype") :: run T n .bog (k + 2) [] := by
         by_cases h2 : T[k + 2]? = some 45
         · have h3 : ¬ T[k + 3]? = some 45 := fun q => h23 ⟨h2, q⟩
           simp [run, h2, h3]
         · simp only [run]
        rw [hS, hR, jr hlt1 (by omega)]
    · by_cases y63 : y = 63
      · subst y63
        have hS : ak T k 60 = cT T (k + 1) (er "expected-tag-name-but-got-question-mark") := by simp [ak, h1, show ¬ [60] ∈ aQ from by decide]
        have hR : run T (n + 1) .tag (k + 1) [] = (k + 1, er "expected-tag-name-but-got-question-mark") :: run T n .bog (k + 1) [] := by simp [run, h1]
        rw [hS, hR, jr hlt (by omega)]
      · by_cases y47 : y = 47
        · subst y47
          have hR : run T (n + 1) .tag (k + 1) [] = run T n .cl (k + 2) [] := by simp [run, h1]
          rw [hR]
          obtain ⟨n, rfl⟩ : ∃ m, n = m + 1 := ⟨n - 1, by omega⟩
          cases h2 : T[k + 2]? with
          | none =>
           have hS : ak T k 60 = ([(k + 2, er "expected-closing-tag-but-got-eof"), (k + 2, tx [60, 47])], k + 2) := by simp [ak, h1, h2, show ¬ [60] ∈ aQ from by decide]
           rw [hS]
           simp only [run, h2]
           rw [aS hlt1 (by omega)]
           rfl
          | some c =>
           have hlt2 := ah h2
           by_cases c62 : c = 62
           · subst c62
             have hS : ak T k 60 = ([(k + 3, er "expected-closing-tag-but-got-right-bracket")], k + 3) := by simp [ak, h1, h2, show ¬ [60] ∈ aQ from by decide]
             have hR : run T (n + 1) .cl (k + 2) [] = (k + 3, er "expected-closing-tag-but-got-right-bracket") :: run T n .data (k + 3) [] := by simp [run, h2]
             rw [hS, hR, aS hlt2 (by omega)]
             rfl
           · have hS : ak T k 60 = cT T (k + 2) (erC c) := by simp [ak, h1, h2, c62, show ¬ [60] ∈ aQ from by decide]
             have hR : run T (n + 1) .cl (k + 2) [] = (k + 2, erC c) :: run T n .bog (k + 2) [] := by simp [run, h2, c62]
             rw [hS, hR, jr hlt1 (by omega)]
        · by_cases y62 : y = 62
          · subst y62
            have hS : ak T k 60 = ([(k + 2, er "expected-tag-name-but-got-right-bracket"), (k + 2, tx [60, 62])], k + 2) := by simp [ak, h1, show ¬ [60] ∈ aQ from by decide]
            have hR : run T (n + 1) .tag (k + 1) [] = (k + 2, er "expected-tag-name-but-got-right-bracket") :: (k + 2, tx [60, 62]) :: run T n .data (k + 2) [] := by simp [run, h1]
            rw [hS, hR, aS hlt1 (by omega)]
            rfl
          · have hS : ak T k 60 = ([(k + 1, er "expected-tag-name"), (k + 1, tx [60])], k + 1) := by simp [ak, h1, y33, y63, y47, y62, show ¬ [60] ∈ aQ from by decide]
            have hR : run T (n + 1) .tag (k + 1) [] = (k + 1, er "expected-tag-name") :: (k + 1, tx [60]) :: run T n .data (k + 1) [] := by simp [run, h1, y33, y63, y47, y62]
            rw [hS, hR, aS hlt (by omega)]
            rfl
 · by_cases es : [z] ∈ aQ
   · have hS : ak T k z = ([(ai uSp T (k + 1), sp (cut T k (ai uSp T (k + 1))))], ai uSp T (k + 1)) := by unfold ak; rw [if_pos es]
     rw [hS]
     have hR : run T (n + 1 + 1) .data k [] = (ai uSp T (k + 1), sp (z :: (T.drop (k + 1)).takeWhile uSp)) :: run T (n + 1) .data (ai uSp T (k + 1)) [] := by
      rw [run, hz]
      dsimp only
      rw [if_neg e60, if_pos (decide_eq_true es)]
     rw [hR, aS g2 (by omega), io, pre _ g1]
     rfl
   · have hS : ak T k z = ([(ai uTx T (k + 1), tx (cut T k (ai uTx T (k + 1))))], ai uTx T (k + 1)) := by unfold ak; rw [if_neg es, if_pos e60]
     rw [hS]
     have hR : run T (n + 1 + 1) .data k [] = (ai uTx T (k + 1), tx (z :: (T.drop (k + 1)).takeWhile uTx)) :: run T (n + 1) .data (ai uTx T (k + 1)) [] := by
      rw [run, hz]
      dsimp only
      rw [if_neg e60, if_neg (by rw [decide_eq_false es]; exact Bool.false_ne_true)]
     rw [hR, aS g4 (by omega), io, pre _ g3]
     rfl
end
section
set_option genInjectivity false
section
variable {B : ab} {T : List Nat} {objs rest : OL}
theorem tt1 : bp (S (sg "Characters")) jB = some (.int 1) := by kernel_rfl
theorem tt2 : bp (S (sg "SpaceCharacters")) jB = some (.int 2) := by kernel_rfl
theorem tt6 : bp (S (sg "Comment")) jB = some (.int 6) := by kernel_rfl
theorem tt7 : bp (S (sg "ParseError")) jB = some (.int 7) := by kernel_rfl
theorem kH (hB : IsB B) {kd x : List Nat} {i : Int} (hk : bp (S kd) jB = some (.int i)) : aa B 1 795 [.str kd, .str x] objs fun d o => d = .dct [("type", .int i), ("data", .str x)] ∧ o = objs := by
 refine ow ["kind", "data"] [] (by rw [hB.K]; rfl) (by rw [hB.K]; kernel_rfl) (.two fun _ _ => rfl) fun L => ?_
 exact ⟨_, _, _, gy (gE (qI (fQ (f4 (eB (v := .ref 48) (by rw [hB.K]; kernel_rfl) (jn hB)) (a9 (.head _)) (pD hk)) (fQ (a9 (.tail _ (.head _))) kY)) (by kernel_rfl))), rfl, rfl⟩
theorem mR (hB : IsB B) (h : bS T) {k c : Nat} (hk : k ≤ T.length) : aa B 1 781 [.str T, .int k, .str [c]] objs fun d o => d = .int (ai (fun x => decide (x ∈ [c]) == false) T k : Nat) ∧ o = objs := by
 have hz := h.size
 generalize hu : (fun x => decide (x ∈ [c]) == false) = u
 have u1 : ∀ y, u y = true → decide (y ∈ [c]) = false := fun y hy => by rw [← hu] at hy; simpa using hy
 have u0 : ∀ y, u y = false → decide (y ∈ [c]) = true := fun y hy => by rw [← hu] at hy; simpa using hy
 have hsc := bo u T k
 have hle := fX u T hk
 have hm : k + (ai u T k - k) = ai u T k := by exact Nat.add_sub_of_le ‹_›
 have D : ∀ j : Nat, DS.to [] ⟨[("text", some (.av (.str T))), ("place", some (.av (.int j))), ("signs", some (.av (.str [c])))], [], objs⟩ = ⟨[("text", some (.str T)), ("place", some (.int j)), ("signs", some (.str [c]))], objs⟩ := fun j => by kernel_rfl
 refine ow ["text", "place", "signs"] [] (by rw [hB.K]; rfl) (by rw [hB.K]; kernel_rfl) (.three fun _ _ _ => rfl) fun L => ?_
 refine ⟨.ret (.int (ai u T k : Nat)), _, _, ej (jN (dW.count (fun j => ⟨[("text", some (.str T)), ("place", some (.int j)), ("signs", some (.str [c]))], objs⟩) (m := ai u T k - k) (k := k) ?_ ?_)) (gy (gE (a9 (d := .int (ai u T k : Nat)) (.tail _ (List.mem_cons.mpr (.inl (by rw [hm]))))))), rfl, rfl⟩
 · intro j h1 h2
   rw [hm] at h2
   obtain ⟨hj, hu'⟩ := jx h1 h2 hk
   have hl := cH hj
   have hne := u1 _ hu'
   generalize T[j] = z at hl hne
   exact ⟨dq [] ⟨[("text", some (.av (.str T))), ("place", some (.av (.int j))), ("signs", some (.av (.str [c])))], [], objs⟩ ⟨[("text", some (.av (.str T))), ("place", some (.av (.int j))), ("signs", some (.av (.str [c])))], [], objs⟩ [.br true, .ch z, .br true] (pxo hB) (qa (qa (qa (qa (qa trivial hz) (decide_eq_true (show (j : Int) < (T.length : Int) by exact Int.ofNat_le.mpr ‹_›))) hl) hz) (show (!decide (z ∈ [c])) = true by rw [hne]; rfl)),
    ar [] ⟨[("text", some (.av (.str T))), ("place", some (.av (.int j))), ("signs", some (.av (.str [c])))], [], objs⟩ ⟨[("text", some (.av (.str T))), ("place", some (.av (.int (j + 1 : Nat)))), ("signs", some (.av (.str [c])))], [], objs⟩ [] .next (pxo hB) trivial⟩
 · rw [hm]
   by_cases hj : ai u T k < T.length
   · have hl := cH hj
     have he := u0 _ (iw (u := u) (k := k) hj)
     generalize T[ai u T k] = z at hl he
     exact dq [] ⟨[("text", some (.av (.str T))), ("place", some (.av (.int (ai u T k : Nat)))), ("signs", some (.av (.str [c])))], [], objs⟩ ⟨[("text", some (.av (.str T))), ("place", some (.av (.int (ai u T k : Nat)))), ("signs", some (.av (.str [c])))], [], objs⟩ [.br true, .ch z, .br false] (pxo hB) (qa (qa (qa (qa (qa trivial hz) (decide_eq_true (show ((ai u T k : Nat) : Int) < (T.length : Int) by exact Int.ofNat_le.mpr ‹_›))) hl) hz) (show (!decide (z ∈ [c])) = false by rw [he]; rfl))
   · exact dq [] ⟨[("text", some (.av (.str T))), ("place", some (.av (.int (ai u T k : Nat)))), ("signs", some (.av (.str [c])))], [], objs⟩ ⟨[("text", some (.av (.str T))), ("place", some (.av (.int (ai u T k : Nat)))), ("signs", some (.av (.str [c])))], [], objs⟩ [.br false] (pxo hB) (qa (qa trivial hz) (decide_eq_false (show ¬ ((ai u T k : Nat) : Int) < (T.length : Int) by omega)))
theorem i3 {a b : Nat} (h : a ≤ b) (hb : b ≤ T.length) : sl T (some (a : Int)) (some (b : Int)) = cut T a b := by
 unfold cut
 rw [fj]
 rw [b4 hb, b4 (nT0 h hb), List.drop_take]
theorem lk {n : Nat} (j : Nat) (h : n ≤ 100000) (hj : autoParam (Nat.ble j 1000 = true) bR) : n + j ≤ 16777216 := nT0 (Nat.add_le_add h (lB0 hj)) (by decide)
theorem AK (hB : IsB B) (h : bS T) {s : Nat} (hs : s ≤ T.length) {fault : AV} {ra : Addr} {l : List AV} (hl : l.length ≤ 100000) : aa B 2 807 [.str T, .int s, fault, .ref ra] ((ra, .list l) :: rest) fun d o => d = .int (cT T s fault).2 ∧
 o = (ra, .list (l ++ (cT T s fault).1.map fun e => .tup [.int e.1, e.2])) :: rest := by
 have hz := h.size
 have hsc := bo uGt T s
 have hle := fX uGt T hs
 have c1 : cQ B 1 781 [.str T, .int s, .str [62]] (.int (ai uGt T s : Nat)) := fun objs => mR hB h hs
 have c2 : cQ B 1 795 [.str (sg "Comment"), .str (sl T (some (s : Int)) (some ((ai uGt T s : Nat) : Int)))] (aD (sl T (some (s : Int)) (some ((ai uGt T s : Nat) : Int)))) := fun objs => kH hB tt6
 have e : min (((ai uGt T s : Nat) : Int) + 1) (T.length : Int) = ((min (ai uGt T s + 1) T.length : Nat) : Int) := by omega
 obtain ⟨e0, he0⟩ : ∃ e0, min (ai uGt T s + 1) T.length = e0 := ⟨_, rfl⟩
 rw [he0] at e
 obtain ⟨x, hx⟩ : ∃ x, sl T (some (s : Int)) (some ((ai uGt T s : Nat) : Int)) = x := ⟨_, rfl⟩
 rw [show (cT T s fault).2 = (e0 : Int) by rw [← he0]; rfl, show (l ++ (cT T s fault).1.map fun e => AV.tup [.int e.1, e.2]) = l ++ [.tup [.int s, fault], .tup [.int (min (((ai uGt T s : Nat) : Int) + 1) (T.length : Int)), aD (sl T (some (s : Int)) (some ((ai uGt T s : Nat) : Int)))]] by rw [e, ← he0, i3 hsc hle]; simp [cT], ← e]
 exact fJ ["text", "start", "fault", "rows"] ["stop", "end"] [ra] [.av (.str T), .av (.int s), .av fault, .slot 0] [(0, .list l [])] rest
  [.call 0 (.av (.int (ai uGt T s : Nat))) [(0, .list l [])] rest 1, .call 0 (.av (aD (sl T (some (s : Int)) (some ((ai uGt T s : Nat) : Int))))) [(0, .list l [.av (.tup [.int s, fault])])] rest 1]
  (.av (.int (min (((ai uGt T s : Nat) : Int) + 1) (T.length : Int)))) [(0, .list l [.av (.tup [.int s, fault]), .av (.tup [.int (min (((ai uGt T s : Nat) : Int) + 1) (T.length : Int)), aD (sl T (some (s : Int)) (some ((ai uGt T s : Nat) : Int)))])])] rest hB rfl (.four fun _ _ _ _ => rfl)
  (qa (qa (qa (qa (qa (qa trivial (c1 ((ra, .list l) :: rest))) hz) (lk 0 hl)) hz) (c2 ((ra, .list (l ++ [.tup [.int s, fault]])) :: rest))) (lk 1 hl))
end
end
section
set_option genInjectivity false
variable {k : Nat} {e1 e2 : Expr}
variable {B : ab} {T : List Nat} {objs : OL}
theorem oE {i : Nat} (h : i < T.length) : bg T (i + 1) = if T[i] = 10 then .tup [.int ((T.take i).count 10 + 1 + 1), .int 0] else .tup [.int ((T.take i).count 10 + 1), .int (c7 0 (T.take i) + 1)] := by
 have e : T.take (i + 1) = T.take i ++ [T[i]] := by rw [List.take_add_one, List.getElem?_eq_getElem h]; rfl
 unfold bg
 rw [e, List.count_append]
 by_cases q : T[i] = 10
 · rw [if_pos q, q]
   unfold c7
   rw [List.foldl_append]
   simp
 · rw [if_neg q]
   unfold c7
   rw [List.foldl_append]
   simp [q]
noncomputable def aU (T : List Nat) (i : Nat) : List AV := (List.range i).map (bg T) ++ [bg T i]
theorem jU (i : Nat) : aU T (i + 1) = aU T i ++ [bg T (i + 1)] := by unfold aU; refine List.range_succ ▸ List.map_append ▸ ?_; rfl
theorem il {n : Nat} (h : k ≤ n) : (aU T n)[k]? = some (bg T k) := by
 unfold aU
 rw [show (List.range n).map (bg T) ++ [bg T n] = (List.range (n + 1)).map (bg T) from by rw [List.range_succ, List.map_append]; rfl, List.getElem?_map, List.getElem?_range (by omega)]
 rfl
theorem uz {X : Cx} {loc : LL} {a : Addr} {i : Nat} (m : (a, AO.list (aU T i)) ∈ objs) (hi : i ≤ 100000) (hs : bd e2 = true) :
 bY X e1 e2 (.ref a) (.int (-1)) (.tup [.int ((T.take i).count 10 + 1), .int (c7 0 (T.take i))]) ⟨loc, objs⟩ := pv (l := (List.range i).map (bg T)) (d := bg T i) m (by rw [List.length_map, List.length_range]; omega) (fh hs)
noncomputable def rc (T : List Nat) (a : Addr) (i : Nat) : LL := [("text", some (.str T)), ("marks", some (.ref a)), ("sign", if i = 0 then none else some (.str [T.getD (i - 1) 0])), ("line", if i = 0 then none else some (.int ((T.take (i - 1)).count 10 + 1))), ("column", if i = 0 then none else some (.int (c7 0 (T.take (i - 1)))))]
noncomputable def dMk (T : List Nat) (z : Option Nat) (l c : Option Int) (o : AO) (ls : List AV) (ps : List DV) (rest : OL) : DS := ⟨[("text", some (.av (.str T))), ("marks", some (.slot 1)), ("sign", z.map fun z => .av (.str [z])), ("line", l.map fun i => .av (.int i)), ("column", c.map fun i => .av (.int i))], [(0, .ao o), (1, .list ls ps)], rest⟩
theorem ud (hB : IsB B) (h : bS T) : aa B 1 788 [.str T] objs fun d o => ∃ a, d = .ref a ∧ o = (a, .list (aU T T.length)) :: objs := by
 have hz := h.size
 have hlen := h.len
 refine jY ["text"] ["marks", "sign", "line", "column"] (by rw [hB.K]; rfl) (by rw [hB.K]; kernel_rfl) (.one fun _ => rfl) fun L => ?_
 refine dG (aq (dH (aq cO (aq cO aC)) (by decide)) aC) (by decide) fun a => ⟨_, .skip .hit, ?_⟩
 refine aN (jI (N := T.length) (item := fun i => .str [T.getD i 0]) (d := .str T) (fun i => rc T a i) (fun i => (a, AO.list (aU T i)) :: objs) (a9 (.head _)) (fun xv => rB) ?_) ?_
 · intro i hi c p
   have hg : T.getD i 0 = T[i] := by simp [hi]
   have hm := oE hi
   have hml : (aU T i).length ≤ 16777216 := by unfold aU; rw [List.length_append, List.length_map, List.length_range, List.length_singleton]; omega
   have ei : T.getD (i + 1 - 1) 0 = T[i] := by rw [Nat.add_sub_cancel]; exact hg
   refine ⟨⟨[("text", some (.str T)), ("marks", some (.ref a)), ("sign", some (.str [T[i]])), ("line", if i = 0 then none else some (.int ((T.take (i - 1)).count 10 + 1))), ("column", if i = 0 then none else some (.int (c7 0 (T.take (i - 1)))))], (c, .is p) :: (a, .list (aU T i)) :: objs⟩, bN (bH (by refine hg ▸ ?_; exact .skip (.skip .hit))), ?_⟩
   have fin : (⟨rc T a (i + 1), (c, .is p) :: (a, .list (aU T (i + 1))) :: objs⟩ : St) = (⟨[("text", some (.str T)), ("marks", some (.ref a)), ("sign", some (.str [T[i]])), ("line", some (.int ((T.take i).count 10 + 1))), ("column", some (.int (c7 0 (T.take i))))], (c, .is p) :: (a, .list (aU T i ++ [if T[i] = 10 then AV.tup [.int ((T.take i).count 10 + 1 + 1), .int 0] else .tup [.int ((T.take i).count 10 + 1), .int (c7 0 (T.take i) + 1)]])) :: objs⟩ : St) := by
    rw [jU, hm]
    unfold rc
    rw [if_neg (Nat.succ_ne_zero i), if_neg (Nat.succ_ne_zero i), if_neg (Nat.succ_ne_zero i), ei, Nat.add_sub_cancel]
   refine fin ▸ ?_
   clear fin hm ei hg
   have um := fun (l c' : Option AV) (X : Cx) (_ : X.B = B) e1 e2 hs => uz (X := X) (e1 := e1) (e2 := e2) (loc := [("text", some (.str T)), ("marks", some (.ref a)), ("sign", some (.str [T[i]])), ("line", l), ("column", c')]) (objs := (c, .is p) :: (a, .list (aU T i)) :: objs) (a := a) (i := i) (T := T) (.tail _ (.head _)) (by omega) hs
   generalize hA : ((T.take i).count 10 : Int) + 1 = A at um ⊢
   generalize hC : c7 0 (T.take i) = C at um ⊢
   generalize aU T i = ml at hml um ⊢
   generalize T[i] = z
   by_cases e10 : z = 10
   · refine (if_pos e10) ▸ ?_
     by_cases i0 : i = 0
     · refine (if_pos i0) ▸ (if_pos i0) ▸ ?_
       exact ar [c, a] (dMk T (some z) none none (.is p) ml [] objs) (dMk T (some z) (some A) (some C) (.is p) ml [.av (.tup [.int (A + 1), .int 0])] objs) [.itm (.tup [.int A, .int C]), .br true] .next (pxo hB) (qa (qa (qa trivial (um none none)) (decide_eq_true (congrArg (fun z => [z]) e10))) hml)
     · refine (if_neg i0) ▸ (if_neg i0) ▸ ?_
       exact ar [c, a] (dMk T (some z) (some ((T.take (i - 1)).count 10 + 1)) (some (c7 0 (T.take (i - 1)))) (.is p) ml [] objs) (dMk T (some z) (some A) (some C) (.is p) ml [.av (.tup [.int (A + 1), .int 0])] objs) [.itm (.tup [.int A, .int C]), .br true] .next (pxo hB) (qa (qa (qa trivial (um (some (.int ((T.take (i - 1)).count 10 + 1))) (some (.int (c7 0 (T.take (i - 1))))))) (decide_eq_true (congrArg (fun z => [z]) e10))) hml)
   · refine (if_neg e10) ▸ ?_
     by_cases i0 : i = 0
     · refine (if_pos i0) ▸ (if_pos i0) ▸ ?_
       exact ar [c, a] (dMk T (some z) none none (.is p) ml [] objs) (dMk T (some z) (some A) (some C) (.is p) ml [.av (.tup [.int A, .int (C + 1)])] objs) [.itm (.tup [.int A, .int C]), .br false] .next (pxo hB) (qa (qa (qa trivial (um none none)) (ne1 e10)) hml)
     · refine (if_neg i0) ▸ (if_neg i0) ▸ ?_
       exact ar [c, a] (dMk T (some z) (some ((T.take (i - 1)).count 10 + 1)) (some (c7 0 (T.take (i - 1)))) (.is p) ml [] objs) (dMk T (some z) (some A) (some C) (.is p) ml [.av (.tup [.int A, .int (C + 1)])] objs) [.itm (.tup [.int A, .int C]), .br false] .next (pxo hB) (qa (qa (qa trivial (um (some (.int ((T.take (i - 1)).count 10 + 1))) (some (.int (c7 0 (T.take (i - 1))))))) (ne1 e10)) hml)
 · exact bQ (gy (gE (a9 (.tail _ (.head _))))) ⟨_, rfl, a, rfl, rfl⟩
section
variable {X : Cx} {σ σ₁ σ₂ σ' : St} {Q : PF} {loc loc' : LL} {objs objs' : OL} {a c : Addr} {d : AV} {l : List AV}
theorem m6 {target iter : Expr} {body : List Stmt} {pos : Pos} {N r : Nat} {item : Nat → AV} (lo : Nat → LL) (ob : Nat → OL) (hr : r < N) (h1 : Ev X iter σ d ⟨lo 0, ob 0⟩) (it : ∀ xv, bO X.B X.n X.L xv d N item)
 (h2 : ∀ i, i < r → ∀ a p, ∃ σ₂, AsR X target (item i) ⟨lo i, (a, .is p) :: ob i⟩ σ₂ ∧ ExB X body σ₂ .next ⟨lo (i + 1), (a, .is p) :: ob (i + 1)⟩)
 (h3 : ∀ a p, ∃ σ₂ e σ₃, AsR X target (item r) ⟨lo r, (a, .is p) :: ob r⟩ σ₂ ∧ ExB X body σ₂ (.ret e) σ₃ ∧ Q (.ret e) σ₃)
 (hs : autoParam (∀ x, foldedSetIterable iter X.env x = pure x) bI) (ht : autoParam (∀ it v, letOwnedTupleGo target it v = pure ()) bJ) : ExQ X (.For target iter body [] pos) σ Q := ⟨fun _ Φ h => vu (fun i σ => i ≤ r ∧ σ = ⟨lo i, ob i⟩)
 (h1.run _ _ fun xv => ⟨N, item, it xv, ⟨Nat.zero_le _, rfl⟩, fun σ e => absurd e.1 (Nat.not_le.mpr hr), fun i loc objs a p v hi e => by
  obtain ⟨hir, e⟩ := e
  obtain ⟨rfl, rfl⟩ := St.mk.inj e
  by_cases q : i = r
  · subst q
    refine x33 (h3 a p) ?_; rintro σ₂ e σ₃ w1 w2 w3
    exact w1.run _ _ _ hd0 (w2.run _ (dS a p _ Φ) (h _ _ w3))
  · refine x12 (h2 i (by omega) a p) ?_; rintro σ₂ w1 w2
    exact w1.run _ _ _ hd0 (w2.run _ (dS a p _ Φ) ⟨_, _, rfl, by omega, rfl⟩)⟩) hs ht⟩
theorem kN {i j : Int} : b5 X (.type "range") [.int i, .int j] σ (.obj (fY i j)) σ := gz fun _ _ _ _ mv mw h => ph mv mw h
theorem AC {B : ab} {n : Nat} {L : Addr} {H : HL} {σ : St} {value slice : Expr} {o i : Value} {Φ : PV} (mo : (o, .ref a) ∈ H) (ma : (a, AO.list l) ∈ σ.objs) (mi : (i, .int k) ∈ H) (hd : l[k]? = some d) (hz : l.length ≤ 16777000) (h : ∀ v, Φ v d σ)
 (hs : ∃ ops, subscripted slice false o i = operate ops (getItem o i)) : WV B n L (subscriptTail value slice o i) H σ Φ := by
 refine cv (T := "list") (fun F s X => ?_) slot_list_getitem.lookup (ae fun A F s hA X => ?_) hs
 · obtain rfl := aE (X.hold mo); refine x22 (X.objs _ ma) ?_; rintro vs q h1 h2; exact ⟨_, h1, rfl⟩
 · obtain rfl := aE (X.hold mo)
   refine x22 (X.objs _ ma) ?_; rintro vs q h1 h2
   obtain ⟨u, rfl⟩ := au (X.hold mi)
   have hlen := h2.length
   have hkl : k < l.length := (List.getElem?_eq_some_iff.mp hd).1
   refine x12 (f0.nth h2 hd) ?_; rintro y hy hyd
   exact wpAny_getItem_list (l := a) (items := vs.toArray) ⟨_, h1, rfl, _, rfl⟩ (by omega) (by omega) (by simpa using hy) (.here X ⟨d, hyd, h _⟩)
theorem zR (m : (a, AO.list l) ∈ objs) (hd : l[k]? = some d) (hz : l.length ≤ 16777000) (hs : ∀ o i, ∃ ops, subscripted e2 false o i = operate ops (getItem o i) := by exact fun _ _ => ⟨_, rfl⟩) : bY X e1 e2 (.ref a) (.int k) d ⟨loc, objs⟩ :=
 ⟨fun _ _ _ _ mo mi h => AC (σ := ⟨loc, objs⟩) mo m mi hd hz h (hs _ _)⟩
theorem qw (hd : l[k]? = some d) (hz : l.length ≤ 16777000) (hs : ∀ o i, ∃ ops, subscripted e2 false o i = operate ops (getItem o i) := by exact fun _ _ => ⟨_, rfl⟩) : bY X e1 e2 (.lst l) (.int k) d σ :=
 ⟨fun _ _ _ _ mo mi h => vx mo mi (Int.natCast_nonneg k) (Int.toNat_natCast k) hd (nT0 hz (by decide)) h (hs _ _)⟩
theorem zH (hd : l[k]? = some d) (hz : l.length ≤ 16777000) (hs : ∀ o i, ∃ ops, subscripted e2 false o i = operate ops (getItem o i) := by exact fun _ _ => ⟨_, rfl⟩) : bY X e1 e2 (.tup l) (.int k) d σ :=
 ⟨fun _ _ _ _ mo mi h => zO mo mi (j := k) (by unfold seqIndex?; rw [if_neg (show ¬ ((k : Nat) : Int) < 0 by omega)]; have := (List.getElem?_eq_some_iff.mp hd).1; simp [this]) hd (nT0 hz (by decide)) h (hs _ _)⟩
end
theorem bm.nil {B : ab} {fd : FuncData} (h : bindArgs fd ⟨[], []⟩ = pure []) : bm B fd [] [] [] := fun F s vs hv _ _ => by
 cases hv with | nil => exact ⟨_, .nil, .of_eq h⟩
noncomputable def hX : List (List Nat × List Nat) := [([45, 45, 33], sg "eof-in-comment-end-bang-state"), ([45, 45], sg "eof-in-comment-double-dash"), ([45], sg "eof-in-comment-end-dash"), ([], sg "eof-in-comment")]
noncomputable def nf : AV := .lst (hX.map fun p => .tup [.str p.1, .str p.2])
theorem sm (hB : IsB B) : cQ B 1 774 [] nf := fun objs => by
 refine ow [] [] (by rw [hB.K]; rfl) (by rw [hB.K]; kernel_rfl) (.nil rfl) fun L => ?_
 exact ⟨_, _, _, gy (gE (nc (aq (dH (aq (bu rfl) (aq (bu rfl) aC)) (by decide)) (aq (dH (aq (bu rfl) (aq (bu rfl) aC)) (by decide)) (aq (dH (aq (bu rfl) (aq (bu rfl) aC)) (by decide)) (aq (dH (aq (bu rfl) (aq (bu rfl) aC)) (by decide)) aC)))) (by decide))), rfl, rfl⟩
end
section
variable {n : Nat}
theorem i9 {B : ab} {objs : OL} {name qual : Str} {params : Arguments} {body body' : List Stmt} {scope scope' : Scope} {dV kV doc pm cdv ct oc : Value} {an od : Option Addr} {osl : Array (Option Value)} {f : Addr} {args ds : List AV} {P : AV → OL → Prop} (ps : List Str) (loc : LL) (cn : LL)
 (ho : B.K.lookup f = some ⟨oc, od, .func (fnOf name qual params body scope dV kV doc pm an cdv ct), osl⟩) (hcd : codeIn B.K cdv qual = true)
 (hbind : ∀ vs, vs.length = args.length → bindArgs (fnOf name qual params body scope dV kV doc pm an cdv ct) ⟨vs, []⟩ = pure (ps.zip vs)) (hlen : ps.length = args.length) (hds : ds = args)
 (h : ∀ L, bB ⟨B, n, L, envOfC qual scope' L f cdv⟩ body' ⟨loc, aY (L + 1) cn ++ objs⟩ fun f σ' => ∃ d, f = .ret d ∧ P d σ'.objs)
 (eb : body = body' := by (conv => lhs; whnf)) (es : scope = scope' := by (conv => lhs; whnf))
 (hloc : ∀ x d, (x, some d) ∈ loc → scope'.names.lookup x = some .local ∧ (x, d) ∈ ps.zip ds) (hln : (loc.map (·.1)).Nodup)
 (hcs : ∀ L, (bw (L + 1) cn).reverse = cellsFrom (L + 1) scope'.names []) (hcn : (cn.map (·.1)).Nodup)
 (hck : ∀ x d, (x, d) ∈ cn → scope'.names.lookup x = some .cell ∧ (match d with | some d => (x, d) ∈ ps.zip ds | none => x ∉ ps)) (hpn : ps.Nodup)
 (hpk : ∀ x ∈ ps, scope'.names.lookup x = some .local ∨ (scope'.names.lookup x = some .cell ∧ x ∈ cn.map (·.1)))
 (hco : autoParam (scope'.isCoroutine = false) bR) (hgen : autoParam (scope'.isGenerator = false) bR) (hk : autoParam (scope'.kind = .function) bR) : aa B (n + 1) f args objs P :=
 t5 ps loc cn ho hcd hbind hlen hds (fun L => (h L).run _ _ fun f σ' ⟨d, e, q⟩ => by subst e; exact q) hloc hln hcs hcn hck hpn hpk hco hgen hk eb es
variable {B : ab} {T : List Nat} {rest : OL}
theorem iR {B : ab} {L : Addr} {xv : Value} {a b : Int} {N : Nat} (ha : -1099511627776 ≤ a) (ha' : a ≤ 1099511627776) (hb : -1099511627776 ≤ b) (hb' : b ≤ 1099511627776) (hN : (b - a).toNat = N) : bO B n L xv (.obj (fY a b)) N (fun i => .int (a + i)) := by
 intro H σ m; refine ae fun A F s hA X => ?_
 have hh := X.hold m
 refine x23 (mj hh) ?_; clear hh; rintro r o rfl e1 e2
 refine x31 (e2) ?_; clear e2; rintro t u v rfl
 have hr : IsRange s.heap r a b 1 t u v := X.sub _ _ e1
 have size : Builtin.Range.rangeSize a b 1 = N := by rw [rangeSize_one]; split <;> omega
 let K : Nat → Obj → Prop := fun i o => o = { cls := .type "range_iterator", dict := none, data := .fields #[rawInt (a + i), rawInt (N - i), rawInt 1], slots := #[] }
 refine wpAny_pyIter_range hr (small_one (by omega) (by omega) (by omega) (by omega)) (am.begin (p := K 0) X (by rw [size]; simp [K]) ⟨_, K, rfl, rfl, fun L' i loc objs H hi _ => ae fun A F s hA X => ?_, fun L' loc objs H _ => ae fun A F s hA X => ?_, (fun L' loc objs H => ae fun A F s hA X => ?_), fun i o ho => ⟨_, (by first | exact ho.1 | exact congrArg Obj.cls ho), rfl⟩⟩)
 · refine x12 (X.objs _ (.head _)) ?_; rintro o ho rfl
   refine wpAny_pyNext_range_item (x := a + i) (left := N - i) (step := 1) ho (by omega) fun h' hit hs => ?_
   exact am.turn X hs ⟨_, hit, by show _ = _; rw [show a + (i : Int) + 1 = a + ((i + 1 : Nat) : Int) from by exact Int.add_assoc _ _ _, show (N : Int) - i - 1 = N - ((i + 1 : Nat) : Int) from by simp +arith]⟩ rfl rfl ⟨_, rfl, .int _ _, rfl⟩
 · refine x12 (X.objs _ (.head _)) ?_; rintro o ho rfl
   refine wpAny_pyNext_range_end (x := a + N) (left := N - N) (step := 1) hA.handled ho (by simp +arith) fun h' hs => ?_
   exact am.remove X (fun b y hb e => hs b y hb e) rfl rfl ⟨rfl, rfl⟩
 · refine x12 (X.objs _ (.head _)) ?_; rintro o ho rfl
   exact wpAny_pyIter_rangeiter (x := a + (0 : Nat)) (left := N - (0 : Nat)) (step := 1) ho (.here X ⟨rfl, rfl⟩)
noncomputable def cq (T : List Nat) (s i : Nat) : Bool := decide (sl T (some ((s : Int) + i)) (some ((s : Int) + i + 3)) = [45, 45, 62]) || (decide (sl T (some ((s : Int) + i)) (some ((s : Int) + i + 4)) = [45, 45, 33, 62]) || false)
noncomputable def o5 (s i : Nat) : AV := .int ((s : Int) + i)
noncomputable def e6 (T : List Nat) (s : Nat) : Nat → Option Nat
 | 0 => none
 | n + 1 => match e6 T s n with
  | some i => some i
  | none => if cq T s n = true then some n else none
theorem hP (T : List Nat) (s : Nat) : ∀ n, (e6 T s n = none ∧ b3 (cq T s) (o5 s) n = []) ∨ ∃ i tl, i < n ∧ e6 T s n = some i ∧ cq T s i = true ∧ b3 (cq T s) (o5 s) n = o5 s i :: tl
 | 0 => .inl ⟨rfl, rfl⟩
 | n + 1 => by
  rcases hP T s n with ⟨h1, h2⟩ | ⟨i, tl, hi, h1, h2, h3⟩
  · by_cases k : cq T s n = true
    · exact .inr ⟨n, [], Nat.lt_succ_self _, by simp [e6, h1, k], k, by unfold b3; rw [if_pos k, h2]; rfl⟩
    · exact .inl ⟨by simp [e6, h1, k], by unfold b3; rw [if_neg k, h2]⟩
  · refine .inr ⟨i, if cq T s n = true then tl ++ [o5 s n] else tl, by omega, by simp [e6, h1], h2, ?_⟩
    unfold b3
    split
    · rw [h3]; rfl
    · rw [h3]
noncomputable def dn (T : List Nat) (s : Nat) : Nat := match e6 T s (T.length - s) with
 | none => T.length
 | some i => if T[s + i + 2]? = some 62 then s + i + 3 else s + i + 4
theorem cS {s : Nat} (h : s ≤ T.length) : sl T (some (s : Int)) (some ((s : Int) + (n : Int))) = (T.drop s).take n := by
 by_cases q : s + n ≤ T.length
 · rw [show (s : Int) + (n : Int) = ((s + n : Nat) : Int) from by rfl, i3 (Nat.le_add_right _ _) q]
   unfold cut
   rw [Nat.add_sub_cancel_left]
 · rw [fj]
   have e : c4 T.length ((s : Int) + (n : Int)) = T.length := fK (Int.ofNat_le.mpr (Nat.le_of_not_le q))
   rw [e, b4 h, List.take_length, List.take_of_length_le (by rw [List.length_drop]; omega)]
end
section
variable {s k n a b c i : Nat} {l R : List Nat}
variable {T : List Nat}
noncomputable def cK (T : List Nat) (s k : Nat) : List (Nat × AV) := match T[k]? with
 | none => []
 | some z => if dd T s k = true ∧ z ≠ 62 then [(k + 1, er (e9 z))] else []
noncomputable def cY (T : List Nat) (s k : Nat) : Nat → List (Nat × AV)
 | 0 => []
 | n + 1 => cY T s k n ++ cK T s (k + n)
theorem cV : cY T s k (n + 1) = cY T s k n ++ cK T s (k + n) := rfl
theorem eW : ∀ n, cY T s k (n + 1) = cK T s k ++ cY T s (k + 1) n
 | 0 => by simp [cY]
 | n + 1 => by
  rw [cV, eW n, cV, List.append_assoc, show k + (n + 1) = k + 1 + n from by exact (Nat.succ_add _ _).symm]
theorem gq (h : k < s + 2) : cK T s k = [] := by
 unfold cK
 rw [(i8 h).1]
 split
 · rfl
 · rw [if_neg (by rintro ⟨a, _⟩; exact Bool.noConfusion a)]
theorem p6 (h : 2 ≤ n) : cY T s s n = cY T s (s + 2) (n - 2) := by
 obtain ⟨m, rfl⟩ : ∃ m, n = m + 2 := ⟨n - 2, by omega⟩
 rw [show m + 2 = (m + 1) + 1 from rfl, eW, gq (by exact Nat.le_succ _), eW, gq (by exact Nat.lt_succ_self _)]
 rfl
theorem i6 : ∀ n, n ≤ 2 → cY T s s n = []
 | 0, _ => rfl
 | n + 1, h => by rw [cV, i6 n (by exact Nat.le_of_lt ‹_›), gq (by exact Nat.add_le_add_left ‹_› _)]; rfl
theorem j7 : cY T s s n = cY T s (s + 2) (n - 2) := by
 by_cases h : 2 ≤ n
 · exact p6 h
 · rw [i6 n (by omega), show n - 2 = 0 from by omega]; rfl
noncomputable def endAt (T : List Nat) (s k : Nat) : Bool := decide (T[k]? = some 62) && (dd T s k || ddb T s k)
theorem qK : ∀ (m n k : Nat), (∀ j, k ≤ j → j < k + m → endAt T s j = false) → k + m ≤ T.length → cm T s (n + m) k = (cY T s k m ++ (cm T s n (k + m)).1, (cm T s n (k + m)).2)
 | 0, n, k, _, _ => rfl
 | m + 1, n, k, h, hk => by
  have hlt : k < T.length := by omega
  have hz := List.getElem?_eq_getElem hlt
  have h0 := h k (Nat.le_refl _) (by simp +arith)
  unfold endAt at h0
  rw [hz] at h0
  have a1 : ¬ (T[k] = 62 ∧ dd T s k = true) := fun ⟨a, b⟩ => by rw [a, b] at h0; simp at h0
  have a2 : ¬ (T[k] = 62 ∧ ddb T s k = true) := fun ⟨a, b⟩ => by rw [a, b] at h0; simp at h0
  rw [show n + (m + 1) = (n + m) + 1 from rfl, cx hz a1 a2, qK m n (k + 1) (fun j p q => h j (by exact Nat.le_of_lt ‹_›) (by omega)) (by omega), eW, show k + 1 + m = k + (m + 1) from by exact Nat.add_right_comm _ _ _]
  have e : (if dd T s k = true then [(k + 1, er (e9 T[k]))] else []) = cK T s k := by
   unfold cK
   rw [hz]
   dsimp only
   by_cases q : dd T s k = true
   · rw [if_pos q, if_pos ⟨q, fun e => a1 ⟨e, q⟩⟩]
   · rw [if_neg q, if_neg fun c => q c.1]
  rw [e, List.append_assoc]
theorem vg : l.take 3 = [a, b, c] ↔ l[0]? = some a ∧ l[1]? = some b ∧ l[2]? = some c := by
 match l with
 | [] => simp
 | [x] => simp
 | [x, y] => simp
 | x :: y :: z :: t => simp
theorem pU {d : Nat} : l.take 4 = [a, b, c, d] ↔ l[0]? = some a ∧ l[1]? = some b ∧ l[2]? = some c ∧ l[3]? = some d := by
 match l with
 | [] => simp
 | [x] => simp
 | [x, y] => simp
 | [x, y, z] => simp
 | x :: y :: z :: w :: t => simp
theorem eD (h : s + i ≤ T.length) : cq T s i = true ↔ T[s + i]? = some 45 ∧ T[s + i + 1]? = some 45 ∧ (T[s + i + 2]? = some 62 ∨ (T[s + i + 2]? = some 33 ∧ T[s + i + 3]? = some 62)) := by
 have e3 : sl T (some ((s : Int) + i)) (some ((s : Int) + i + 3)) = (T.drop (s + i)).take 3 := by
  exact (show (s : Int) + (i : Int) = ((s + i : Nat) : Int) from by rfl) ▸ (cS (n := 3) h)
 have e4 : sl T (some ((s : Int) + i)) (some ((s : Int) + i + 4)) = (T.drop (s + i)).take 4 := by
  exact (show (s : Int) + (i : Int) = ((s + i : Nat) : Int) from by rfl) ▸ (cS (n := 4) h)
 unfold cq
 rw [e3, e4]
 simp only [Bool.or_eq_true, decide_eq_true_iff, Bool.false_eq_true, or_false]
 rw [vg, pU]
 simp only [List.getElem?_drop, Nat.add_zero]
 constructor
 · rintro (⟨a, b, c⟩ | ⟨a, b, c, d⟩)
   · exact ⟨a, b, .inl c⟩
   · exact ⟨a, b, .inr ⟨c, d⟩⟩
 · intro z9; refine x03 z9 ?_; clear z9; rintro a b (c | ⟨c, d⟩)
   · exact .inl ⟨a, b, c⟩
   · exact .inr ⟨a, b, c, d⟩
theorem eV : ∀ n, e6 T s n = none → ∀ i, i < n → cq T s i = false
 | 0, _, i, hi => absurd hi (Nat.not_lt_zero _)
 | n + 1, h, i, hi => by
  unfold e6 at h
  cases q : e6 T s n with
  | some j => rw [q] at h; contradiction
  | none =>
   rw [q] at h
   dsimp only at h
   by_cases k : cq T s n = true
   · rw [if_pos k] at h; contradiction
   · by_cases e : i = n
     · subst e; simpa using k
     · exact eV n q i (by omega)
theorem ge : ∀ n j, e6 T s n = some j → j < n ∧ cq T s j = true ∧ ∀ i, i < j → cq T s i = false
 | 0, j, h => by contradiction
 | n + 1, j, h => by
  unfold e6 at h
  cases q : e6 T s n with
  | some j' =>
   rw [q] at h
   dsimp only at h
   obtain rfl := Option.some.inj h
   refine x03 (ge n _ q) ?_; rintro a b c
   exact ⟨by exact Nat.le_succ_of_le ‹_›, b, c⟩
  | none =>
   rw [q] at h
   dsimp only at h
   by_cases k : cq T s n = true
   · rw [if_pos k] at h
     obtain rfl := Option.some.inj h
     exact ⟨by exact Nat.lt_succ_self _, k, eV n q⟩
   · rw [if_neg k] at h; contradiction
theorem h9 (h : endAt T s k = true) (hk : k < T.length) : (dd T s k = true ∧ s + 2 ≤ k ∧ T[k]? = some 62 ∧ cq T s (k - 2 - s) = true) ∨ (s + 3 ≤ k ∧ T[k - 1]? = some 33 ∧ cq T s (k - 3 - s) = true) := by
 unfold endAt at h
 simp only [Bool.and_eq_true, Bool.or_eq_true, decide_eq_true_iff] at h
 obtain ⟨h62, q | q⟩ := h
 · refine x03 (bh.mp q) ?_; rintro a b c
   refine .inl ⟨q, a, h62, (eD (by omega)).mpr ?_⟩
   rw [show s + (k - 2 - s) = k - 2 from by omega, show k - 2 + 1 = k - 1 from by omega, show k - 2 + 2 = k from by omega]
   exact ⟨b, c, .inl h62⟩
 · refine x04 (b7.mp q) ?_; rintro a b c d
   refine .inr ⟨a, d, (eD (by omega)).mpr ?_⟩
   rw [show s + (k - 3 - s) = k - 3 from by omega, show k - 3 + 1 = k - 2 from by omega, show k - 3 + 2 = k - 1 from by omega, show k - 3 + 3 = k from by omega]
   exact ⟨b, c, .inr ⟨d, h62⟩⟩
theorem ja (hs : s ≤ T.length) (h62 : ¬ T[s]? = some 62) (h2 : ¬ (T[s]? = some 45 ∧ T[s + 1]? = some 62)) (hn : e6 T s (T.length - s) = none) : aI T s = (cY T s (s + 2) (T.length - (s + 2)) ++ be T s T.length, T.length) := by
 unfold aI
 rw [if_neg h62, if_neg h2, Nat.add_comm, qK (T.length - s) 1 s (fun j a b => ?_) (by omega), show s + (T.length - s) = T.length from by omega, dM (List.getElem?_eq_none_iff.mpr (Nat.le_refl _)), j7, Nat.sub_sub]
 cases q : endAt T s j with
 | false => rfl
 | true =>
  rcases h9 q (by omega) with ⟨_, x, _, y⟩ | ⟨x, _, y⟩
  · rw [eV _ hn _ (by omega)] at y; exact Bool.noConfusion y
  · rw [eV _ hn _ (by omega)] at y; exact Bool.noConfusion y
theorem lZ (hs : s ≤ T.length) : dn T s ≤ T.length ∧ s ≤ dn T s := by
 unfold dn
 cases q : e6 T s (T.length - s) with
 | none => exact ⟨Nat.le_refl _, hs⟩
 | some i =>
  refine x03 (ge _ _ q) ?_; rintro a b c
  refine x03 ((eD (by omega)).mp b) ?_; rintro k0 k1 k2
  dsimp only
  by_cases e : T[s + i + 2]? = some 62
  · rw [if_pos e]; have := ah e; omega
  · rw [if_neg e]
    rcases k2 with k2 | ⟨k2, k3⟩
    · exact absurd k2 e
    · have := ah k3; omega
theorem jf (hs : s ≤ T.length) (h62 : ¬ T[s]? = some 62) (h2 : ¬ (T[s]? = some 45 ∧ T[s + 1]? = some 62)) (hn : e6 T s (T.length - s) = some i) :
 aI T s = (cY T s (s + 2) (dn T s - (s + 2)) ++ [(dn T s, aD (cut T s (s + i)))], dn T s) := by
 refine x03 (ge _ _ hn) ?_; rintro hi hk hlow
 refine x03 ((eD (by omega)).mp hk) ?_; rintro k0 k1 k2
 have key : ∀ j, T[j]? = some 62 → endAt T s j = true → (∀ z, s ≤ z → z < j → endAt T s z = false) → (dd T s j = true ∧ j - 2 = s + i ∨ ddb T s j = true ∧ dd T s j = false ∧ j - 3 = s + i) → dn T s = j + 1 →
  aI T s = (cY T s (s + 2) (dn T s - (s + 2)) ++ [(dn T s, aD (cut T s (s + i)))], dn T s) := by
  intro j hj he hz hd hE
  have hlt := ah hj
  have hsj : s ≤ j := by
   rcases hd with ⟨a, _⟩ | ⟨a, _⟩
   · have := (bh.mp a).1; exact nT0 (Nat.le_add_right _ _) ‹_›
   · have := (b7.mp a).1; exact nT0 (Nat.le_add_right _ _) ‹_›
  have hE0 : cK T s j = [] := by
   unfold cK; rw [hj]; dsimp only
   rw [if_neg (by rintro ⟨_, c⟩; exact c rfl)]
  unfold aI
  rw [if_neg h62, if_neg h2, show T.length - s + 1 = (T.length - j) + 1 + (j - s) from by omega, qK (j - s) _ s (fun z a b => hz z a (by omega)) (by omega), show s + (j - s) = j from by exact Nat.add_sub_of_le ‹_›, hE, show j + 1 - (s + 2) = (j + 1 - s) - 2 from by rfl, ← j7,
   show j + 1 - s = (j - s) + 1 from by exact Nat.sub_add_comm ‹_›, cV, show s + (j - s) = j from by exact Nat.add_sub_of_le ‹_›, hE0, List.append_nil]
  have hc : cm T s (T.length - j + 1) j = ([(j + 1, aD (cut T s (s + i)))], j + 1) := by
   unfold cm
   rw [hj]
   dsimp only
   rcases hd with ⟨a, e⟩ | ⟨a, b, e⟩
   · rw [if_pos ⟨rfl, a⟩, e]
   · rw [if_neg (by rw [b]; simp), if_pos ⟨rfl, a⟩, e]
  rw [hc]
 have low : ∀ z, s ≤ z → z < s + i + 2 → endAt T s z = false := fun z a b => by
  cases q : endAt T s z with
  | false => rfl
  | true =>
   rcases h9 q (by have := ah k1; exact nL0 ‹_› ‹_›) with ⟨_, x, _, y⟩ | ⟨x, _, y⟩
   · rw [hlow _ (by omega)] at y; exact Bool.noConfusion y
   · rw [hlow _ (by omega)] at y; exact Bool.noConfusion y
 by_cases e : T[s + i + 2]? = some 62
 · have hd : dd T s (s + i + 2) = true := bh.mpr ⟨by simp +arith, by rw [show s + i + 2 - 2 = s + i from by rfl]; exact k0, by rw [show s + i + 2 - 1 = s + i + 1 from by rfl]; exact k1⟩
   refine key (s + i + 2) e ?_ low (.inl ⟨hd, by rfl⟩) (by unfold dn; rw [hn]; dsimp only; rw [if_pos e])
   unfold endAt; rw [e, hd]; rfl
 · rcases k2 with k2 | ⟨k2, k3⟩
   · exact absurd k2 e
   · have hb : ddb T s (s + i + 3) = true := b7.mpr ⟨by simp +arith, by rw [show s + i + 3 - 3 = s + i from by rfl]; exact k0, by rw [show s + i + 3 - 2 = s + i + 1 from by rfl]; exact k1, by rw [show s + i + 3 - 1 = s + i + 2 from by rfl]; exact k2⟩
     have hd : dd T s (s + i + 3) = false := by
      cases q : dd T s (s + i + 3) with
      | false => rfl
      | true =>
       have := (bh.mp q).2.2
       rw [show s + i + 3 - 1 = s + i + 2 from by rfl, k2] at this; contradiction
     refine key (s + i + 3) k3 ?_ (fun z a b => ?_) (.inr ⟨hb, hd, by rfl⟩) (by unfold dn; rw [hn]; dsimp only; rw [if_neg e])
     · unfold endAt; rw [k3, hb]; simp
     · by_cases c : z = s + i + 2
       · subst c
         cases q : endAt T s (s + i + 2) with
         | false => rfl
         | true => unfold endAt at q; simp only [Bool.and_eq_true, decide_eq_true_iff] at q; exact absurd q.1 e
       · exact low z a (by omega)
noncomputable def tlS (i : Nat) : List Nat := (hX.getD i ([], [])).1
noncomputable def tlN (i : Nat) : List Nat := (hX.getD i ([], [])).2
noncomputable def fB (R : List Nat) (i : Nat) : Bool := decide (sl R (some (max 0 ((R.length : Int) - ((tlS i).length : Int)))) none = tlS i)
noncomputable def aR (R : List Nat) : Nat := if R.drop (R.length - 3) = [45, 45, 33] then 0 else if R.drop (R.length - 2) = [45, 45] then 1 else if R.drop (R.length - 1) = [45] then 2 else 3
theorem xw : sl R (some (max 0 ((R.length : Int) - (n : Int)))) none = R.drop (R.length - n) := by
 rw [show max 0 ((R.length : Int) - (n : Int)) = ((R.length - n : Nat) : Int) from by omega, mA]
theorem th (h : n ≤ R.length) : sl R none (some ((R.length : Int) - (n : Int))) = R.take (R.length - n) := by
 rw [show (R.length : Int) - (n : Int) = ((R.length - n : Nat) : Int) from by omega]
 rw [Az]
 rw [b4 (Nat.sub_le _ _)]; rfl
theorem fN : fB R i = decide (R.drop (R.length - (tlS i).length) = tlS i) := by unfold fB; rw [xw]
theorem uc {val : Nat → AV} : (b3 (fB R) val 4)[0]? = some (val (aR R)) := by
 have k0 : fB R 0 = decide (R.drop (R.length - 3) = [45, 45, 33]) := fN
 have k1 : fB R 1 = decide (R.drop (R.length - 2) = [45, 45]) := fN
 have k2 : fB R 2 = decide (R.drop (R.length - 1) = [45]) := fN
 have k3 : fB R 3 = true := by rw [fN]; show decide (R.drop (R.length - 0) = []) = true; simp
 unfold aR
 simp only [b3, k0, k1, k2, k3]
 by_cases a : R.drop (R.length - 3) = [45, 45, 33] <;> by_cases b : R.drop (R.length - 2) = [45, 45] <;> by_cases c : R.drop (R.length - 1) = [45] <;> simp [a, b, c]
theorem tK : (tlS (aR R)).length ≤ R.length ∧ aR R ≤ 3 := by
 unfold aR
 split
 · rename_i h
   have := congrArg List.length h
   rw [List.length_drop] at this
   exact ⟨by show 3 ≤ _; simp at this; omega, by decide⟩
 · split
   · rename_i h
     have := congrArg List.length h
     rw [List.length_drop] at this
     exact ⟨by show 2 ≤ _; simp at this; omega, by decide⟩
   · split
     · rename_i h
       have := congrArg List.length h
       rw [List.length_drop] at this
       exact ⟨by show 1 ≤ _; simp at this; omega, by decide⟩
     · exact ⟨Nat.zero_le _, by decide⟩
theorem jE : cut T s (T.length - n) = (T.drop s).take ((T.drop s).length - n) := by
 unfold cut
 rw [List.length_drop, show T.length - n - s = T.length - s - n from by omega]
theorem dy (h : s + n ≤ T.length) : (T.drop s).drop ((T.drop s).length - n) = T.drop (T.length - n) := by
 rw [List.drop_drop, List.length_drop, show s + (T.length - s - n) = T.length - n from by omega]
theorem ue (h : 3 ≤ T.length) : T.drop (T.length - 3) = [a, b, c] ↔ T[T.length - 3]? = some a ∧ T[T.length - 2]? = some b ∧ T[T.length - 1]? = some c := by
 have : T.drop (T.length - 3) = (T.drop (T.length - 3)).take 3 := (List.take_of_length_le (by rw [List.length_drop]; omega)).symm
 rw [this, vg]
 simp only [List.getElem?_drop, Nat.add_zero]
 rw [show T.length - 3 + 1 = T.length - 2 from by omega, show T.length - 3 + 2 = T.length - 1 from by omega]
theorem vl : l.take 2 = [a, b] ↔ l[0]? = some a ∧ l[1]? = some b := by
 match l with
 | [] => simp
 | [x] => simp
 | x :: y :: t => simp
theorem vf : l.take 1 = [a] ↔ l[0]? = some a := by
 match l with
 | [] => simp
 | x :: t => simp
theorem AD (h : 2 ≤ T.length) : T.drop (T.length - 2) = [a, b] ↔ T[T.length - 2]? = some a ∧ T[T.length - 1]? = some b := by
 have : T.drop (T.length - 2) = (T.drop (T.length - 2)).take 2 := (List.take_of_length_le (by rw [List.length_drop]; omega)).symm
 rw [this, vl]
 simp only [List.getElem?_drop, Nat.add_zero]
 rw [show T.length - 2 + 1 = T.length - 1 from by omega]
theorem zk (h : 1 ≤ T.length) : T.drop (T.length - 1) = [a] ↔ T[T.length - 1]? = some a := by
 have : T.drop (T.length - 1) = (T.drop (T.length - 1)).take 1 := (List.take_of_length_le (by rw [List.length_drop]; omega)).symm
 rw [this, vf]
 simp only [List.getElem?_drop, Nat.add_zero]
theorem gP {x : List Nat} (h : R.drop (R.length - n) = x) (hx : x.length = n) : n ≤ R.length := by
 have := congrArg List.length h
 rw [List.length_drop] at this
 omega
noncomputable def bc (R : List Nat) : List Nat := if R = [45] then sg "eof-in-comment" else tlN (aR R)
theorem rI (hs : s ≤ T.length) : be T s T.length = [(T.length, .dct [("type", .int 7), ("data", .str (bc (T.drop s)))]), (T.length, aD ((T.drop s).take ((T.drop s).length - (tlS (aR (T.drop s))).length)))] := by
 have hl : (T.drop s).length = T.length - s := List.length_drop
 have A : (T.drop s).drop ((T.drop s).length - 3) = [45, 45, 33] ↔ ddb T s T.length = true := by
  rw [b7]
  constructor
  · intro h
    have := gP h rfl
    rw [dy (by omega), ue (by omega)] at h
    exact ⟨by omega, h⟩
  · rintro ⟨a, b⟩
    rw [dy ‹_›, ue (by exact nT0 (Nat.le_add_left _ _) ‹_›)]; exact b
 have Bq : (T.drop s).drop ((T.drop s).length - 2) = [45, 45] ↔ dd T s T.length = true := by
  rw [bh]
  constructor
  · intro h
    have := gP h rfl
    rw [dy (by omega), AD (by omega)] at h
    exact ⟨by omega, h⟩
  · rintro ⟨a, b⟩
    rw [dy ‹_›, AD (by exact nT0 (Nat.le_add_left _ _) ‹_›)]; exact b
 have Cq : (T.drop s).drop ((T.drop s).length - 1) = [45] ↔ s < T.length ∧ T[T.length - 1]? = some 45 := by
  constructor
  · intro h
    have := gP h rfl
    rw [dy (by omega), zk (by omega)] at h
    exact ⟨by omega, h⟩
  · rintro ⟨a, b⟩
    rw [dy ‹_›, zk (by exact nT0 (Nat.le_add_left _ _) ‹_›)]; exact b
 have D : T.drop s = [45] ↔ s + 1 = T.length ∧ T[s]? = some 45 := by
  constructor
  · intro h
    have h1 := congrArg List.length h
    have h2 := congrArg (fun l => l[0]?) h
    simp at h1 h2
    exact ⟨by omega, h2⟩
  · rintro ⟨a, b⟩
    have e1 : (T.drop s).drop ((T.drop s).length - 1) = [45] := Cq.mpr ⟨by exact Nat.le_of_eq ‹_›, by rw [← a]; simpa using b⟩
    rw [hl, show T.length - s - 1 = 0 from by omega] at e1
    exact e1
 unfold be bc aR
 by_cases a : ddb T s T.length = true
 · rw [if_pos a, if_pos (A.mpr a), if_neg (fun q => by have := (D.mp q).1; have := (b7.mp a).1; omega), ← jE]
   rfl
 · rw [if_neg a, if_neg (fun q => a (A.mp q))]
   by_cases b : dd T s T.length = true
   · rw [if_pos b, if_pos (Bq.mpr b), if_neg (fun q => by have := (D.mp q).1; have := (bh.mp b).1; omega), ← jE]
     rfl
   · rw [if_neg b, if_neg (fun q => b (Bq.mp q))]
     by_cases d : s + 1 = T.length ∧ T[s]? = some 45
     · rw [if_pos d, if_pos (D.mpr d), if_pos (Cq.mpr ⟨by omega, by rw [← d.1]; simpa using d.2⟩), D.mpr d]
       rfl
     · rw [if_neg d, if_neg (fun q => d (D.mp q))]
       by_cases c : s < T.length ∧ T[T.length - 1]? = some 45
       · rw [if_pos c, if_pos (Cq.mpr c), ← jE]
         rfl
       · rw [if_neg c, if_neg (fun q => c (Cq.mp q))]
         show _ = [_, (_, aD ((T.drop s).take ((T.drop s).length - 0)))]
         rw [Nat.sub_zero, List.take_length]
         unfold cut
         rw [List.take_of_length_le (by rw [hl]; exact Nat.le_refl _)]
         rfl
end
section
variable {B : ab} {T : List Nat} {rest : OL}
noncomputable abbrev bM (e : Nat × AV) : AV := .tup [.int e.1, e.2]
theorem cI (hB : IsB B) {x : List Nat} : cQ B 1 795 [.str (sg "ParseError"), .str x] (.dct [("type", .int 7), ("data", .str x)]) := fun objs => kH hB tt7
theorem ji (hB : IsB B) {x : List Nat} : cQ B 1 795 [.str (sg "Comment"), .str x] (aD x) := fun objs => kH hB tt6
theorem yW {cells : List (Str × Addr)} {ρ : List Addr} {a b : Str} {i j : Nat} (h1 : cells.lookup a = some (aB ρ i)) (h2 : cells.lookup b = some (aB ρ j)) (hi : Nat.blt i ρ.length = true) (hj : Nat.blt j ρ.length = true) : ∀ x k, cc x [(a, i), (b, j)] = some k → cells.lookup x = some (aB ρ k) ∧ k < ρ.length := fun x k e => by
 refine x12 (Option.map_eq_some_iff.mp e) ?_; rintro p h q
 have m := List.mem_of_find?_eq_some h
 have e1 := eq_of_beq (List.find?_some (p := fun p : Str × Nat => p.1 == x) h)
 subst q e1
 rcases mC0 m with rfl | m
 · exact ⟨h1, fy hi⟩
 · obtain rfl := List.mem_singleton.mp m
   exact ⟨h2, fy hj⟩
noncomputable abbrev clN : List (Str × Nat) := [("text", 0), ("rest", 1)]
theorem pxN {X : Cx} {ρ : List Addr} (hB : IsB X.B) (c1 : autoParam (X.env.cells.lookup ("text" : Str) = some (aB ρ 0)) bK) (c2 : autoParam (X.env.cells.lookup ("rest" : Str) = some (aB ρ 1)) bK) (hi : autoParam (Nat.blt 0 ρ.length = true) bR) (hj : autoParam (Nat.blt 1 ρ.length = true) bR) (h1 : autoParam (X.env.scope.kind = .function) bK) (h2 : autoParam (X.env.locals = X.L) bR) (h3 : autoParam (X.env.globals = mainGlobals) bR) (h4 : autoParam (X.env.builtins = builtinsNs) bR) : cZ ⟨X, eC X.B.P, ρ, glT, clN⟩ := pxc (cl := clN) hB (yW c1 c2 hi hj) rfl h1 h2 h3 h4
noncomputable def dN (s : Nat) (sh en sp es nm tl : Option DV) (os : List (Nat × DO)) (rest : OL) : DS := ⟨[("start", some (.av (.int s))), ("rows", some (.slot 2)), ("short", sh), ("end", en), ("spot", sp), ("ends", es), ("name", nm), ("tail", tl)], os, rest⟩
noncomputable def dNo (T : List Nat) (r : Option DV) (l : List AV) (ps : List DV) (os : List (Nat × DO)) : List (Nat × DO) := (0, .cell (some (.av (.str T)))) :: (1, .cell r) :: (2, .list l ps) :: os
theorem mD (hB : IsB B) (h : bS T) {s : Nat} (hs : s ≤ T.length) (hab : T[s]? = some 62 ∨ (T[s]? = some 45 ∧ T[s + 1]? = some 62)) {ra : Addr} {l : List AV} (hl : l.length ≤ 100000) : aa B 3 800 [.str T, .int s, .ref ra] ((ra, .list l) :: rest) fun d o => d = .int (aI T s).2 ∧
 o = (ra, .list (l ++ (aI T s).1.map fun e => .tup [.int e.1, e.2])) :: rest := by
 have hz := h.size
 refine aa.dropH ?_
 refine i9 (ds := [.str T, .int s, .ref ra]) ["text", "start", "rows"] [("start", some (.int s)), ("rows", some (.ref ra)), ("short", none), ("end", none), ("spot", none), ("ends", none), ("name", none), ("tail", none)] [("text", some (.str T)), ("rest", none)] (by rw [hB.K]; rfl) (by rw [hB.K]; kernel_rfl) (fun vs hv => by match vs, hv with | [a, b, c], _ => rfl) rfl rfl (fun L => ?_) (hloc := ?_) (hln := ?_) (hcs := ?_) (hcn := ?_) (hck := ?_) (hpn := ?_) (hpk := ?_)
 · dsimp only [aY, List.cons_append, List.nil_append]
   by_cases h62 : T[s]? = some 62
   · have hN : aI T s = ([(s + 1, er "incorrect-comment"), (s + 1, aD [])], s + 1) := by unfold aI; rw [if_pos h62]
     have hlt := ah h62
     have t1 : decide (sl T (some (s : Int)) (some ((s : Int) + (([62] : List Nat).length : Int))) = [62]) = true := decide_eq_true (by
      rw [cS hs, List.drop_eq_getElem_cons hlt]
      have : T[s] = 62 := by rw [List.getElem?_eq_getElem hlt] at h62; exact Option.some.inj h62
      simp [this])
     refine' jK (m6 (r := 0) (d := .tup [.str [62], .str [45, 62]]) (fun _ => [("start", some (.int s)), ("rows", some (.ref ra)), ("short", none), ("end", none), ("spot", none), ("ends", none), ("name", none), ("tail", none)]) (fun _ => (L + 1, .cell (some (.str T))) :: (L + 1 + 1, .cell none) :: (ra, .list l) :: rest) (by decide) ?_ (fun xv => lE) ?_ ?_)
     exact jd [L + 1, L + 1 + 1, ra] (dN s none none none none none none (dNo T none l [] []) rest) (dN s none none none none none none (dNo T none l [] []) rest) [] (.av (.tup [.str [62], .str [45, 62]])) (pxN hB) trivial
     · intro i hi; exact absurd hi (Nat.not_lt_zero _)
     · intro a p
       refine ⟨_, .int ((s : Int) + 1), ⟨[("start", some (.int s)), ("rows", some (.ref ra)), ("short", some (.str [62])), ("end", some (.int ((s : Int) + 1))), ("spot", none), ("ends", none), ("name", none), ("tail", none)], (a, .is p) :: (L + 1, .cell (some (.str T))) :: (L + 1 + 1, .cell none) :: (ra, .list (l ++ [.tup [.int ((s : Int) + 1), .dct [("type", .int 7), ("data", .str (sg "incorrect-comment"))]], .tup [.int ((s : Int) + 1), aD []]])) :: rest⟩, bN (bH (d := .str [62]) (.skip (.skip .hit))), ar [L + 1, L + 1 + 1, ra, a] (dN s (some (.av (.str [62]))) none none none none none ((3, .ao (.is p)) :: dNo T none l [] []) rest) (dN s (some (.av (.str [62]))) (some (.av (.int ((s : Int) + 1)))) none none none none ((3, .ao (.is p)) :: dNo T none l [.av (.tup [.int ((s : Int) + 1), .dct [("type", .int 7), ("data", .str (sg "incorrect-comment"))]]), .av (.tup [.int ((s : Int) + 1), aD []])] []) rest) [.br true, .call 0 (.av (.dct [("type", .int 7), ("data", .str (sg "incorrect-comment"))])) ((3, .ao (.is p)) :: dNo T none l [] []) rest 1, .call 0 (.av (aD [])) ((3, .ao (.is p)) :: dNo T none l [.av (.tup [.int ((s : Int) + 1), .dct [("type", .int 7), ("data", .str (sg "incorrect-comment"))]])] []) rest 1] (.ret (.av (.int ((s : Int) + 1)))) (pxN hB) (qa (qa (qa (qa (qa (qa (qa (qa trivial (lz3 1)) hz) t1) (lz3 1)) (cI (x := sg "incorrect-comment") hB (a8 [L + 1, L + 1 + 1, ra, a] rest ((3, .ao (.is p)) :: dNo T none l [] [])))) (lk 0 hl)) (ji (x := []) hB (a8 [L + 1, L + 1 + 1, ra, a] rest ((3, .ao (.is p)) :: dNo T none l [.av (.tup [.int ((s : Int) + 1), .dct [("type", .int 7), ("data", .str (sg "incorrect-comment"))]])] [])))) (lk 1 hl)), ?_⟩
       refine ⟨(fun h => nomatch h), _, rfl, (ra, .list (l ++ (aI T s).1.map fun e => .tup [.int e.1, e.2])) :: rest, [(a, .is p), (L + 1, .cell (some (.str T))), (L + 1 + 1, .cell none)], ?_, ?_, rfl⟩
       · rw [hN]
         simp only [List.map_cons, List.map_nil, List.append_assoc]
         exact List.perm_append_comm (l₁ := [_, _, _])
       · rw [hN]; rfl
   · have z62 : ∀ hlt : s < T.length, T[s] ≠ 62 := fun hlt e => h62 (by rw [List.getElem?_eq_getElem hlt, e])
     have t1 : decide (sl T (some (s : Int)) (some ((s : Int) + (([62] : List Nat).length : Int))) = [62]) = false := decide_eq_false (by
      rw [cS hs]
      by_cases hlt : s < T.length
      · rw [List.drop_eq_getElem_cons hlt]
        intro q
        exact z62 hlt (List.cons.inj q).1
      · rw [List.drop_eq_nil_of_le (Nat.le_of_not_lt hlt)]; simp)
     by_cases h2 : T[s]? = some 45 ∧ T[s + 1]? = some 62
     · obtain ⟨h45, h63⟩ := h2
       have hN : aI T s = ([(s + 2, er "incorrect-comment"), (s + 2, aD [])], s + 2) := by unfold aI; rw [if_neg h62, if_pos ⟨h45, h63⟩]
       have hlt := ah h63
       have t2 : decide (sl T (some (s : Int)) (some ((s : Int) + (([45, 62] : List Nat).length : Int))) = [45, 62]) = true := decide_eq_true (by
        rw [cS hs, List.drop_eq_getElem_cons (by omega), List.drop_eq_getElem_cons hlt]
        have e1 : T[s] = 45 := by rw [List.getElem?_eq_getElem (by omega)] at h45; exact Option.some.inj h45
        have e2 : T[s + 1] = 62 := by rw [List.getElem?_eq_getElem hlt] at h63; exact Option.some.inj h63
        simp [e1, e2])
       refine' jK (m6 (r := 1) (d := .tup [.str [62], .str [45, 62]]) (fun i => [("start", some (.int s)), ("rows", some (.ref ra)), ("short", if i = 0 then none else some (.str [62])), ("end", none), ("spot", none), ("ends", none), ("name", none), ("tail", none)]) (fun _ => (L + 1, .cell (some (.str T))) :: (L + 1 + 1, .cell none) :: (ra, .list l) :: rest) (by decide) ?_ (fun xv => lE) ?_ ?_)
       exact jd [L + 1, L + 1 + 1, ra] (dN s none none none none none none (dNo T none l [] []) rest) (dN s none none none none none none (dNo T none l [] []) rest) [] (.av (.tup [.str [62], .str [45, 62]])) (pxN hB) trivial
       · intro i hi a p
         obtain rfl : i = 0 := by omega
         exact ⟨_, bN (bH (d := .str [62]) (.skip (.skip .hit))), ar [L + 1, L + 1 + 1, ra, a] (dN s (some (.av (.str [62]))) none none none none none ((3, .ao (.is p)) :: dNo T none l [] []) rest) (dN s (some (.av (.str [62]))) none none none none none ((3, .ao (.is p)) :: dNo T none l [] []) rest) [.br false] .next (pxN hB) (qa (qa (qa trivial (lz3 1)) hz) t1)⟩
       · intro a p
         refine ⟨_, .int ((s : Int) + 2), ⟨[("start", some (.int s)), ("rows", some (.ref ra)), ("short", some (.str [45, 62])), ("end", some (.int ((s : Int) + 2))), ("spot", none), ("ends", none), ("name", none), ("tail", none)], (a, .is p) :: (L + 1, .cell (some (.str T))) :: (L + 1 + 1, .cell none) :: (ra, .list (l ++ [.tup [.int ((s : Int) + 2), .dct [("type", .int 7), ("data", .str (sg "incorrect-comment"))]], .tup [.int ((s : Int) + 2), aD []]])) :: rest⟩, bN (bH (d := .str [45, 62]) (.skip (.skip .hit))), ar [L + 1, L + 1 + 1, ra, a] (dN s (some (.av (.str [45, 62]))) none none none none none ((3, .ao (.is p)) :: dNo T none l [] []) rest) (dN s (some (.av (.str [45, 62]))) (some (.av (.int ((s : Int) + 2)))) none none none none ((3, .ao (.is p)) :: dNo T none l [.av (.tup [.int ((s : Int) + 2), .dct [("type", .int 7), ("data", .str (sg "incorrect-comment"))]]), .av (.tup [.int ((s : Int) + 2), aD []])] []) rest) [.br true, .call 0 (.av (.dct [("type", .int 7), ("data", .str (sg "incorrect-comment"))])) ((3, .ao (.is p)) :: dNo T none l [] []) rest 1, .call 0 (.av (aD [])) ((3, .ao (.is p)) :: dNo T none l [.av (.tup [.int ((s : Int) + 2), .dct [("type", .int 7), ("data", .str (sg "incorrect-comment"))]])] []) rest 1] (.ret (.av (.int ((s : Int) + 2)))) (pxN hB) (qa (qa (qa (qa (qa (qa (qa (qa trivial (lz3 2)) hz) t2) (lz3 2)) (cI (x := sg "incorrect-comment") hB (a8 [L + 1, L + 1 + 1, ra, a] rest ((3, .ao (.is p)) :: dNo T none l [] [])))) (lk 0 hl)) (ji (x := []) hB (a8 [L + 1, L + 1 + 1, ra, a] rest ((3, .ao (.is p)) :: dNo T none l [.av (.tup [.int ((s : Int) + 2), .dct [("type", .int 7), ("data", .str (sg "incorrect-comment"))]])] [])))) (lk 1 hl)), ?_⟩
         refine ⟨(fun h => nomatch h), _, rfl, (ra, .list (l ++ (aI T s).1.map fun e => .tup [.int e.1, e.2])) :: rest, [(a, .is p), (L + 1, .cell (some (.str T))), (L + 1 + 1, .cell none)], ?_, ?_, rfl⟩
         · rw [hN]
           simp only [List.map_cons, List.map_nil, List.append_assoc]
           exact List.perm_append_comm (l₁ := [_, _, _])
         · rw [hN]; rfl
     · rcases hab with e | e
       · exact absurd e h62
       · exact absurd e h2
 · intro x d hm
   simp at hm
   rcases hm with ⟨rfl, rfl⟩ | ⟨rfl, rfl⟩ <;> exact ⟨by kernel_rfl, by simp⟩
 · exact aP (by kernel_rfl)
 · intro L; rfl
 · exact aP (by kernel_rfl)
 · intro x d hm
   simp at hm
   rcases hm with ⟨rfl, rfl⟩ | ⟨rfl, rfl⟩
   · exact ⟨by kernel_rfl, by simp⟩
   · exact ⟨by kernel_rfl, by show ¬ (("rest" : Str) ∈ (["text", "start", "rows"] : List Str)); decide⟩
 · decide
 · intro x hx
   simp at hx
   rcases hx with rfl | rfl | rfl
   · exact .inr ⟨by kernel_rfl, by simp⟩
   · exact .inl (by kernel_rfl)
   · exact .inl (by kernel_rfl)
end
section
theorem oy {X : Cx} {ss : List Stmt} {σ : St} {f : Fl} {loc loc' : LL} {objs : OL} (h : ExB X ss σ f ⟨loc, objs⟩) (e : ∀ x d, (x, some d) ∈ loc' → (x, some d) ∈ loc) (nd : (loc'.map (·.1)).Nodup) : ExB X ss σ f ⟨loc', objs⟩ :=
 ⟨fun H Φ k => ae fun A F s hA Y => wpAny_mono ((h.run H (fun g τ => g = f ∧ τ = ⟨loc, objs⟩) ⟨rfl, rfl⟩).run A F s hA Y) (fun v s' z => by
  obtain ⟨F', σ', x, p, g, hg, rfl, rfl⟩ := z
  exact ⟨F', ⟨loc', objs⟩, ⟨x.core, x.sub, let ⟨m, hm, r⟩ := x.loc; ⟨m, hm, fun y d hy => r y d (e y d hy)⟩, nd, x.objs, x.nodup, x.apart, x.held, x.low⟩, p, _, hg, k⟩) fun _ _ z => z⟩
end
section
set_option genInjectivity false
variable {s : Nat}
variable {B : ab} {T : List Nat} {rest : OL}
theorem rx {j : Nat} (hj : s + 2 + j < T.length) : sl T (some ((s : Int) + 2 + (j : Int) - 2)) (some ((s : Int) + 2 + (j : Int))) = [45, 45] ↔ dd T s (s + 2 + j) = true := by
 rw [show (s : Int) + 2 + (j : Int) - 2 = ((s + j : Nat) : Int) from by simp +arith, show (s : Int) + 2 + (j : Int) = ((s + j : Nat) : Int) + ((2 : Nat) : Int) from by simp +arith, cS (by omega), vl, bh]
 simp only [List.getElem?_drop, Nat.add_zero]
 rw [show s + 2 + j - 2 = s + j from by simp +arith, show s + 2 + j - 1 = s + j + 1 from by simp +arith]
 exact ⟨fun h => ⟨by exact Nat.le_add_right _ _, h⟩, fun h => h.2⟩
theorem pJ {k : Nat} : (cK T s k).length ≤ 1 := by
 unfold cK
 split
 · exact Nat.zero_le _
 · split
   · exact Nat.le_refl _
   · exact Nat.zero_le _
theorem jl {s k : Nat} : ∀ n, (cY T s k n).length ≤ n
 | 0 => Nat.le_refl _
 | n + 1 => by
  rw [cV, List.length_append]
  have := jl (s := s) (k := k) n
  have := pJ (T := T) (s := s) (k := k + n)
  omega
noncomputable abbrev cJ (s : Nat) (ra : Addr) (sh en sp es nm tl : Option AV) : LL := [("start", some (.int s)), ("rows", some (.ref ra)), ("short", sh), ("end", en), ("spot", sp), ("ends", es), ("name", nm), ("tail", tl)]
theorem rN {ra : Addr} {sh en sp es nm tl : Option AV} : ((cJ s ra sh en sp es nm tl).map (·.1)).Nodup := aP (by kernel_rfl)
theorem uq {ra : Addr} {sh en sp es nm tl : Option AV} : ∀ x d, (x, some d) ∈ cJ s ra sh en none es none tl → (x, some d) ∈ cJ s ra sh en sp es nm tl := fun x d h => by
 simp only [cJ, List.mem_cons, Prod.mk.injEq, reduceCtorEq, and_false, false_or] at h ⊢
 rcases h with h | h | h | h | h | h | h
 · exact .inl h
 · exact .inr (.inl h)
 · exact .inr (.inr (.inl h))
 · exact .inr (.inr (.inr (.inl h)))
 · exact .inr (.inr (.inr (.inr (.inr (.inl h)))))
 · exact .inr (.inr (.inr (.inr (.inr (.inr (.inr (.inl h)))))))
 · exact .inr (.inr (.inr (.inr (.inr (.inr (.inr (.inr h)))))))
end
section
set_option genInjectivity false
variable {B : ab} {T : List Nat} {rest : OL}
theorem nK {n : Nat} (h : n ≤ 16777000) : n + 0 ≤ 16777216 := nT0 h (by decide)
theorem g6 {X : Cx} {ss : List Stmt} {σ : St} {f : Fl} {objs : OL} {s : Nat} {ra : Addr} {sh en sp es nm tl : Option AV} (h : ExB X ss σ f ⟨cJ s ra sh en sp es nm tl, objs⟩) : ExB X ss σ f ⟨cJ s ra sh en none es none tl, objs⟩ := oy h uq rN
theorem yZ {n : Nat} (h : n ≤ 16777000) : n + 1 ≤ 16777216 := nT0 (Nat.add_le_add_right h 1) (by decide)
theorem hM {X : Cx} {e1 e2 : Expr} {k : Nat} {loc : LL} {objs : OL} {a : Addr} {l : List AV} {d : AV} (m : (a, AO.list l) ∈ objs) (hd : l[k]? = some d) (hz : l.length ≤ 1000) (hs : bd e2 = true) : bY X e1 e2 (.ref a) (.int k) d ⟨loc, objs⟩ := zR m hd (nT0 hz (by decide)) (fh hs)
noncomputable abbrev ou (T : List Nat) (s : Nat) (L ra D : Addr) (G l : List AV) (rest : OL) (j : Nat) : OL := (D, .list G) :: (L + 1, .cell (some (.str T))) :: (L + 1 + 1, .cell none) :: (ra, .list (l ++ (cY T s (s + 2) j).map bM)) :: rest
theorem yM (hB : IsB B) (h : bS T) {s : Nat} (hs : s ≤ T.length) (h62 : ¬ T[s]? = some 62) (h2 : ¬ (T[s]? = some 45 ∧ T[s + 1]? = some 62)) {ra : Addr} {l : List AV} (hl : l.length ≤ 100000) : aa B 3 800 [.str T, .int s, .ref ra] ((ra, .list l) :: rest) fun d o => d = .int (aI T s).2 ∧
 o = (ra, .list (l ++ (aI T s).1.map fun e => .tup [.int e.1, e.2])) :: rest := by
 have hT := h.size
 refine aa.dropH ?_
 refine i9 (ds := [.str T, .int s, .ref ra]) ["text", "start", "rows"] [("start", some (.int s)), ("rows", some (.ref ra)), ("short", none), ("end", none), ("spot", none), ("ends", none), ("name", none), ("tail", none)] [("text", some (.str T)), ("rest", none)] (by rw [hB.K]; rfl) (by rw [hB.K]; kernel_rfl) (fun vs hv => by match vs, hv with | [a, b, c], _ => rfl) rfl rfl (fun L => ?_) (hloc := ?_) (hln := ?_) (hcs := ?_) (hcn := ?_) (hck := ?_) (hpn := ?_) (hpk := ?_)
 · dsimp only [aY, List.cons_append, List.nil_append]
   have z62 : ∀ hlt : s < T.length, T[s] ≠ 62 := fun hlt e => h62 (by rw [List.getElem?_eq_getElem hlt, e])
   have t1 : decide (sl T (some (s : Int)) (some ((s : Int) + (([62] : List Nat).length : Int))) = [62]) = false := decide_eq_false (by
    rw [cS hs]
    by_cases hlt : s < T.length
    · rw [List.drop_eq_getElem_cons hlt]
      intro q
      exact z62 hlt (List.cons.inj q).1
    · rw [List.drop_eq_nil_of_le (Nat.le_of_not_lt hlt)]; simp)
   have t2 : decide (sl T (some (s : Int)) (some ((s : Int) + (([45, 62] : List Nat).length : Int))) = [45, 62]) = false := decide_eq_false (by
    rw [cS hs]
    intro q
    have q0 := congrArg (fun l => l[0]?) q
    have q1 := congrArg (fun l => l[1]?) q
    simp at q0 q1
    exact h2 ⟨q0, q1⟩)
   refine aN (jI (N := 2) (d := .tup [.str [62], .str [45, 62]]) (fun i => cJ s ra (if i = 0 then none else if i = 1 then some (.str [62]) else some (.str [45, 62])) none none none none none) (fun _ => (L + 1, .cell (some (.str T))) :: (L + 1 + 1, .cell none) :: (ra, .list l) :: rest) (jd [L + 1, L + 1 + 1, ra] (dN s none none none none none none (dNo T none l [] []) rest) (dN s none none none none none none (dNo T none l [] []) rest) [] (.av (.tup [.str [62], .str [45, 62]])) (pxN hB) trivial) (fun xv => lE) ?_) ?_
   · intro i hi a p
     by_cases e0 : i = 0
     · subst e0
       exact ⟨_, bN (bH (d := .str [62]) (.skip (.skip .hit))), ar [L + 1, L + 1 + 1, ra, a] (dN s (some (.av (.str [62]))) none none none none none ((3, .ao (.is p)) :: dNo T none l [] []) rest) (dN s (some (.av (.str [62]))) none none none none none ((3, .ao (.is p)) :: dNo T none l [] []) rest) [.br false] .next (pxN hB) (qa (qa (qa trivial (lz3 1)) hT) t1)⟩
     · obtain rfl : i = 1 := by omega
       exact ⟨_, bN (bH (d := .str [45, 62]) (.skip (.skip .hit))), ar [L + 1, L + 1 + 1, ra, a] (dN s (some (.av (.str [45, 62]))) none none none none none ((3, .ao (.is p)) :: dNo T none l [] []) rest) (dN s (some (.av (.str [45, 62]))) none none none none none ((3, .ao (.is p)) :: dNo T none l [] []) rest) [.br false] .next (pxN hB) (qa (qa (qa trivial (lz3 2)) hT) t2)⟩
   · have hlen := h.len
     refine mU (N := T.length - s) (item := fun i => .int ((s : Int) + i)) ["spot"] (cq T s) (o5 s) (by omega) (de (bx PyProof.Rows.Boot.«range» (by rw [hB.K]; kernel_rfl)) vh (aq (a9 (.head _)) (aq (de (bx PyProof.Rows.Boot.«len» (by rw [hB.K]; kernel_rfl)) dU (aq (fg rfl (.head _)) aC) (fo hT)) aC)) kN) (fun xv => iR (a := (s : Int)) (b := (T.length : Int)) (by omega) (by omega) (by omega) (by omega) (by omega)) ?_ ?_ rfl rfl
     · intro i hi
       refine ⟨fun C p q => ⟨[("spot", some (.int ((s : Int) + i)))], [("spot", some (.int ((s : Int) + i)))], bN (bH .hit), r8 (kK (c := cq T s i) (BE (mc (dg (gU (fg rfl (.tail _ (.tail _ (.head _)))) (dD (a9 (.head _))) (dD (fc (a9 (.head _)) cO i5)) rfl rfl hT) (bu rfl) f1) (mc (dg (gU (fg rfl (.tail _ (.tail _ (.head _)))) (dD (a9 (.head _))) (dD (fc (a9 (.head _)) cO i5)) rfl rfl hT) (bu rfl) f1) yH))) rfl), fun _ => a9 (.head _)⟩⟩
     · intro D
       refine ⟨_, bH (.skip (.skip (.skip (.skip (.skip .hit))))), ?_⟩
       clear z62 t1 t2
       have hg := hP T s (T.length - s)
       generalize hG : b3 (cq T s) (o5 s) (T.length - s) = G at hg ⊢
       have hGl : G.length ≤ 1000 := by rw [← hG]; exact nT0 (eN _ _ _) (by omega)
       have hG0 : G.length + 0 ≤ 16777216 := nT0 hGl (by decide)
       refine aN (σ₁ := ⟨cJ s ra (some (.str [45, 62])) (some (.int T.length)) none (some (.ref D)) none none, (D, .list G) :: (L + 1, .cell (some (.str T))) :: (L + 1 + 1, .cell none) :: (ra, .list l) :: rest⟩) (cz (ar [L + 1, L + 1 + 1, ra, D] (dN s (some (.av (.str [45, 62]))) none none (some (.slot 3)) none none ((3, .list G []) :: dNo T none l [] []) rest) (dN s (some (.av (.str [45, 62]))) (some (.av (.int T.length))) none (some (.slot 3)) none none ((3, .list G []) :: dNo T none l [] []) rest) [] .next (pxN hB) (qa trivial hT))) ?_
       refine aN (σ₁ := ⟨cJ s ra (some (.str [45, 62])) (some (.int (dn T s : Nat))) none (some (.ref D)) none none, (D, .list G) :: (L + 1, .cell (some (.str T))) :: (L + 1 + 1, .cell none) :: (ra, .list l) :: rest⟩) (cz ?_) ?_
       · rcases hg with ⟨g1, g2⟩ | ⟨i, tl, hi, g1, g2, g3⟩
         · subst g2
           have hE : dn T s = T.length := by unfold dn; rw [g1]
           rw [hE]
           exact ar [L + 1, L + 1 + 1, ra, D] (dN s (some (.av (.str [45, 62]))) (some (.av (.int T.length))) none (some (.slot 3)) none none ((3, .list [] []) :: dNo T none l [] []) rest) (dN s (some (.av (.str [45, 62]))) (some (.av (.int T.length))) none (some (.slot 3)) none none ((3, .list [] []) :: dNo T none l [] []) rest) [.br false] .next (pxN hB) (qa (qa trivial (lz3 0)) ff)
         · subst g3
           refine x03 ((eD (by omega)).mp g2) ?_; rintro k0 k1 k2
           have hlt : s + i + 2 < T.length := by rcases k2 with q | ⟨q, _⟩ <;> exact ah q
           have hat : at? T ((s : Int) + (i : Int) + 2) = some T[s + i + 2] := by rw [show (s : Int) + (i : Int) + 2 = ((s + i + 2 : Nat) : Int) from by omega]; exact cH hlt
           have hE : dn T s = if T[s + i + 2]? = some 62 then s + i + 3 else s + i + 4 := by unfold dn; rw [g1]
           rw [List.getElem?_eq_getElem hlt] at hE
           clear k0 k1 k2 g1 g2 hG h62 h2
           generalize T[s + i + 2] = z at hat hE
           by_cases e : z = 62
           · rw [if_pos (by rw [e])] at hE
             rw [hE, show ((s + i + 3 : Nat) : Int) = (s : Int) + (i : Int) + 3 from by omega]
             exact ar [L + 1, L + 1 + 1, ra, D] (dN s (some (.av (.str [45, 62]))) (some (.av (.int T.length))) none (some (.slot 3)) none none ((3, .list (.int ((s : Int) + (i : Int)) :: tl) []) :: dNo T none l [] []) rest) (dN s (some (.av (.str [45, 62]))) (some (.av (.int ((s : Int) + (i : Int) + 3)))) none (some (.slot 3)) none none ((3, .list (.int ((s : Int) + (i : Int)) :: tl) []) :: dNo T none l [] []) rest) [.br true, .itm (.int ((s : Int) + (i : Int))), .itm (.int ((s : Int) + (i : Int))), .ch z, .br true] .next (pxN hB) (qa (qa (qa (qa (qa (qa (qa trivial hG0) tt) (fun X (e : X.B = B) e1 e2 hs => hM (X := X) (e1 := e1) (e2 := e2) (loc := cJ s ra (some (.str [45, 62])) (some (.int T.length)) none (some (.ref D)) none none) (.head _) (a := D) (l := .int ((s : Int) + (i : Int)) :: tl) (d := .int ((s : Int) + (i : Int))) (k := 0) (objs := (D, .list (.int ((s : Int) + (i : Int)) :: tl)) :: (L + 1, .cell (some (.str T))) :: (L + 1 + 1, .cell none) :: (ra, .list l) :: rest) rfl hGl hs)) (fun X (e : X.B = B) e1 e2 hs => hM (X := X) (e1 := e1) (e2 := e2) (loc := cJ s ra (some (.str [45, 62])) (some (.int T.length)) none (some (.ref D)) none none) (.head _) (a := D) (l := .int ((s : Int) + (i : Int)) :: tl) (d := .int ((s : Int) + (i : Int))) (k := 0) (objs := (D, .list (.int ((s : Int) + (i : Int)) :: tl)) :: (L + 1, .cell (some (.str T))) :: (L + 1 + 1, .cell none) :: (ra, .list l) :: rest) rfl hGl hs)) hat) hT) (decide_eq_true (congrArg (fun z => [z]) e)))
           · rw [if_neg (fun q => e (Option.some.inj q))] at hE
             rw [hE, show ((s + i + 4 : Nat) : Int) = (s : Int) + (i : Int) + 4 from by omega]
             exact ar [L + 1, L + 1 + 1, ra, D] (dN s (some (.av (.str [45, 62]))) (some (.av (.int T.length))) none (some (.slot 3)) none none ((3, .list (.int ((s : Int) + (i : Int)) :: tl) []) :: dNo T none l [] []) rest) (dN s (some (.av (.str [45, 62]))) (some (.av (.int ((s : Int) + (i : Int) + 4)))) none (some (.slot 3)) none none ((3, .list (.int ((s : Int) + (i : Int)) :: tl) []) :: dNo T none l [] []) rest) [.br true, .itm (.int ((s : Int) + (i : Int))), .itm (.int ((s : Int) + (i : Int))), .ch z, .br false] .next (pxN hB) (qa (qa (qa (qa (qa (qa (qa trivial hG0) tt) (fun X (e : X.B = B) e1 e2 hs => hM (X := X) (e1 := e1) (e2 := e2) (loc := cJ s ra (some (.str [45, 62])) (some (.int T.length)) none (some (.ref D)) none none) (.head _) (a := D) (l := .int ((s : Int) + (i : Int)) :: tl) (d := .int ((s : Int) + (i : Int))) (k := 0) (objs := (D, .list (.int ((s : Int) + (i : Int)) :: tl)) :: (L + 1, .cell (some (.str T))) :: (L + 1 + 1, .cell none) :: (ra, .list l) :: rest) rfl hGl hs)) (fun X (e : X.B = B) e1 e2 hs => hM (X := X) (e1 := e1) (e2 := e2) (loc := cJ s ra (some (.str [45, 62])) (some (.int T.length)) none (some (.ref D)) none none) (.head _) (a := D) (l := .int ((s : Int) + (i : Int)) :: tl) (d := .int ((s : Int) + (i : Int))) (k := 0) (objs := (D, .list (.int ((s : Int) + (i : Int)) :: tl)) :: (L + 1, .cell (some (.str T))) :: (L + 1 + 1, .cell none) :: (ra, .list l) :: rest) rfl hGl hs)) hat) hT) (ne1 e))
       · obtain ⟨eL, eG⟩ := lZ hs
         have hSh := fun i => jf (i := i) hs h62 h2
         have hOp := ja hs h62 h2
         have hEn : e6 T s (T.length - s) = none → dn T s = T.length := fun q => by unfold dn; rw [q]
         clear hG h62 h2
         generalize dn T s = E at eL eG hSh hEn ⊢
         refine aN (jI (N := E - (s + 2)) (item := fun j => .int ((s : Int) + 2 + (j : Int))) (d := .obj (fY ((s : Int) + 2) (E : Int))) (fun _ => cJ s ra (some (.str [45, 62])) (some (.int E)) none (some (.ref D)) none none) (ou T s L ra D G l rest) ?_ (fun xv => iR (by omega) (by omega) (by omega) (by omega) (by omega)) ?_) ?_
         · show Ev _ _ _ _ ⟨cJ s ra (some (.str [45, 62])) (some (.int E)) none (some (.ref D)) none none, (D, .list G) :: (L + 1, .cell (some (.str T))) :: (L + 1 + 1, .cell none) :: (ra, .list (l ++ [])) :: rest⟩
           rw [List.append_nil]
           exact de (bx PyProof.Rows.Boot.«range» (by rw [hB.K]; kernel_rfl)) vh (aq (fc (a9 (.head _)) cO i5) (aq (a9 (.tail _ (.tail _ (.tail _ (.head _))))) aC)) kN
         · intro j hj a p
           have hlt : s + 2 + j < T.length := by omega
           obtain ⟨z, hz⟩ : ∃ z, T[s + 2 + j]? = some z := ⟨_, List.getElem?_eq_getElem hlt⟩
           have ha : at? T ((s : Int) + 2 + (j : Int)) = some z := by rw [show (s : Int) + 2 + (j : Int) = ((s + 2 + j : Nat) : Int) from by omega, cH hlt, ← hz, List.getElem?_eq_getElem hlt]
           have hle := jl (T := T) (s := s) (k := s + 2) j
           have hll : (l ++ (cY T s (s + 2) j).map bM).length ≤ 16777000 := by rw [List.length_append, List.length_map]; omega
           refine ⟨⟨cJ s ra (some (.str [45, 62])) (some (.int E)) (some (.int ((s : Int) + 2 + (j : Int)))) (some (.ref D)) none none, (a, .is p) :: ou T s L ra D G l rest j⟩, bN (bH (.skip (.skip (.skip (.skip .hit))))), ?_⟩
           have ob : ou T s L ra D G l rest (j + 1) = (D, .list G) :: (L + 1, .cell (some (.str T))) :: (L + 1 + 1, .cell none) :: (ra, .list ((l ++ (cY T s (s + 2) j).map bM) ++ (cK T s (s + 2 + j)).map bM)) :: rest := by
            unfold ou; rw [cV, List.map_append, ← List.append_assoc]
           rw [ob]
           unfold ou
           by_cases hd : dd T s (s + 2 + j) = true ∧ z ≠ 62
           · have hE : cK T s (s + 2 + j) = [(s + 2 + j + 1, er (e9 z))] := by unfold cK; rw [hz]; dsimp only; rw [if_pos hd]
             have td : decide (sl T (some ((s : Int) + 2 + (j : Int) - 2)) (some ((s : Int) + 2 + (j : Int))) = [45, 45]) = true := decide_eq_true ((rx hlt).mpr hd.1)
             have tz : (!decide ([z] = [62])) = true := by rw [ne1 hd.2]; rfl
             rw [hE]
             generalize l ++ (cY T s (s + 2) j).map bM = l' at hll ⊢
             have row : ∀ w, e9 z = w → (([(s + 2 + j + 1, er (e9 z))] : List (Nat × AV)).map bM) = [.tup [.int ((s : Int) + 2 + (j : Int) + 1), .dct [("type", .int 7), ("data", .str (sg w))]]] := fun w e => by subst e; rfl
             clear hE hz hd hle hlt hj hSh hOp hEn hg eL eG ob
             by_cases e45 : z = 45
             · have t45 : decide ([z] = [45]) = true := decide_eq_true (by rw [e45])
               have t33 : decide ([z] = [33]) = false := ne1 (by rw [e45]; decide)
               rw [row "unexpected-dash-after-double-dash-in-comment" (by rw [e45]; rfl)]
               exact g6 (sp := some (.int ((s : Int) + 2 + (j : Int)))) (nm := (some (.str (sg "unexpected-dash-after-double-dash-in-comment")))) (ar [L + 1, L + 1 + 1, ra, D, a] (dN s (some (.av (.str [45, 62]))) (some (.av (.int E))) (some (.av (.int ((s : Int) + 2 + (j : Int))))) (some (.slot 3)) none none ((4, .ao (.is p)) :: (3, .list G []) :: dNo T none l' [] []) rest) (dN s (some (.av (.str [45, 62]))) (some (.av (.int E))) (some (.av (.int ((s : Int) + 2 + (j : Int))))) (some (.slot 3)) (some (.av (.str (sg "unexpected-dash-after-double-dash-in-comment")))) none ((4, .ao (.is p)) :: (3, .list G []) :: dNo T none l' [.av (.tup [.int ((s : Int) + 2 + (j : Int) + 1), .dct [("type", .int 7), ("data", .str (sg "unexpected-dash-after-double-dash-in-comment"))]])] []) rest) [.br true, .ch z, .br true, .ch z, .br true, .ch z, .br false, .call 0 (.av (.dct [("type", .int 7), ("data", .str (sg "unexpected-dash-after-double-dash-in-comment"))])) ((4, .ao (.is p)) :: (3, .list G []) :: dNo T none l' [] []) rest 1] .next (pxN hB) (qa (qa (qa (qa (qa (qa (qa (qa (qa (qa (qa (qa (qa trivial hT) td) ha) hT) tz) ha) hT) t45) ha) hT) t33) (cI (x := sg "unexpected-dash-after-double-dash-in-comment") hB (a8 [L + 1, L + 1 + 1, ra, D, a] rest ((4, .ao (.is p)) :: (3, .list G []) :: dNo T none l' [] [])))) (nK hll)))
             · have t45 : decide ([z] = [45]) = false := ne1 e45
               by_cases e33 : z = 33
               · have t33 : decide ([z] = [33]) = true := decide_eq_true (by rw [e33])
                 rw [row "unexpected-bang-after-double-dash-in-comment" (by rw [e33]; rfl)]
                 exact g6 (sp := some (.int ((s : Int) + 2 + (j : Int)))) (nm := (some (.str (sg "unexpected-bang-after-double-dash-in-comment")))) (ar [L + 1, L + 1 + 1, ra, D, a] (dN s (some (.av (.str [45, 62]))) (some (.av (.int E))) (some (.av (.int ((s : Int) + 2 + (j : Int))))) (some (.slot 3)) none none ((4, .ao (.is p)) :: (3, .list G []) :: dNo T none l' [] []) rest) (dN s (some (.av (.str [45, 62]))) (some (.av (.int E))) (some (.av (.int ((s : Int) + 2 + (j : Int))))) (some (.slot 3)) (some (.av (.str (sg "unexpected-bang-after-double-dash-in-comment")))) none ((4, .ao (.is p)) :: (3, .list G []) :: dNo T none l' [.av (.tup [.int ((s : Int) + 2 + (j : Int) + 1), .dct [("type", .int 7), ("data", .str (sg "unexpected-bang-after-double-dash-in-comment"))]])] []) rest) [.br true, .ch z, .br true, .ch z, .br false, .ch z, .br true, .call 0 (.av (.dct [("type", .int 7), ("data", .str (sg "unexpected-bang-after-double-dash-in-comment"))])) ((4, .ao (.is p)) :: (3, .list G []) :: dNo T none l' [] []) rest 1] .next (pxN hB) (qa (qa (qa (qa (qa (qa (qa (qa (qa (qa (qa (qa (qa trivial hT) td) ha) hT) tz) ha) hT) t45) ha) hT) t33) (cI (x := sg "unexpected-bang-after-double-dash-in-comment") hB (a8 [L + 1, L + 1 + 1, ra, D, a] rest ((4, .ao (.is p)) :: (3, .list G []) :: dNo T none l' [] [])))) (nK hll)))
               · have t33 : decide ([z] = [33]) = false := ne1 e33
                 rw [row "unexpected-char-in-comment" (by unfold e9; rw [if_neg e45, if_neg e33])]
                 exact g6 (sp := some (.int ((s : Int) + 2 + (j : Int)))) (nm := (some (.str (sg "unexpected-char-in-comment")))) (ar [L + 1, L + 1 + 1, ra, D, a] (dN s (some (.av (.str [45, 62]))) (some (.av (.int E))) (some (.av (.int ((s : Int) + 2 + (j : Int))))) (some (.slot 3)) none none ((4, .ao (.is p)) :: (3, .list G []) :: dNo T none l' [] []) rest) (dN s (some (.av (.str [45, 62]))) (some (.av (.int E))) (some (.av (.int ((s : Int) + 2 + (j : Int))))) (some (.slot 3)) (some (.av (.str (sg "unexpected-char-in-comment")))) none ((4, .ao (.is p)) :: (3, .list G []) :: dNo T none l' [.av (.tup [.int ((s : Int) + 2 + (j : Int) + 1), .dct [("type", .int 7), ("data", .str (sg "unexpected-char-in-comment"))]])] []) rest) [.br true, .ch z, .br true, .ch z, .br false, .ch z, .br false, .call 0 (.av (.dct [("type", .int 7), ("data", .str (sg "unexpected-char-in-comment"))])) ((4, .ao (.is p)) :: (3, .list G []) :: dNo T none l' [] []) rest 1] .next (pxN hB) (qa (qa (qa (qa (qa (qa (qa (qa (qa (qa (qa (qa (qa trivial hT) td) ha) hT) tz) ha) hT) t45) ha) hT) t33) (cI (x := sg "unexpected-char-in-comment") hB (a8 [L + 1, L + 1 + 1, ra, D, a] rest ((4, .ao (.is p)) :: (3, .list G []) :: dNo T none l' [] [])))) (nK hll)))
           · have hE : cK T s (s + 2 + j) = [] := by unfold cK; rw [hz]; dsimp only; rw [if_neg hd]
             rw [hE, List.map_nil, List.append_nil]
             generalize l ++ (cY T s (s + 2) j).map bM = l' at hll ⊢
             by_cases q : dd T s (s + 2 + j) = true
             · have t1 : decide (sl T (some ((s : Int) + 2 + (j : Int) - 2)) (some ((s : Int) + 2 + (j : Int))) = [45, 45]) = true := decide_eq_true ((rx hlt).mpr q)
               have t2 : (!decide ([z] = [62])) = false := by rw [decide_eq_true (show [z] = [62] by rw [Decidable.byContradiction fun c => hd ⟨q, c⟩])]; rfl
               exact g6 (sp := some (.int ((s : Int) + 2 + (j : Int)))) (nm := none) (ar [L + 1, L + 1 + 1, ra, D, a] (dN s (some (.av (.str [45, 62]))) (some (.av (.int E))) (some (.av (.int ((s : Int) + 2 + (j : Int))))) (some (.slot 3)) none none ((4, .ao (.is p)) :: (3, .list G []) :: dNo T none l' [] []) rest) (dN s (some (.av (.str [45, 62]))) (some (.av (.int E))) (some (.av (.int ((s : Int) + 2 + (j : Int))))) (some (.slot 3)) none none ((4, .ao (.is p)) :: (3, .list G []) :: dNo T none l' [] []) rest) [.br true, .ch z, .br false] .next (pxN hB) (qa (qa (qa (qa (qa trivial hT) t1) ha) hT) t2))
             · have t1 : decide (sl T (some ((s : Int) + 2 + (j : Int) - 2)) (some ((s : Int) + 2 + (j : Int))) = [45, 45]) = false := decide_eq_false fun c => q ((rx hlt).mp c)
               exact g6 (sp := some (.int ((s : Int) + 2 + (j : Int)))) (nm := none) (ar [L + 1, L + 1 + 1, ra, D, a] (dN s (some (.av (.str [45, 62]))) (some (.av (.int E))) (some (.av (.int ((s : Int) + 2 + (j : Int))))) (some (.slot 3)) none none ((4, .ao (.is p)) :: (3, .list G []) :: dNo T none l' [] []) rest) (dN s (some (.av (.str [45, 62]))) (some (.av (.int E))) (some (.av (.int ((s : Int) + 2 + (j : Int))))) (some (.slot 3)) none none ((4, .ao (.is p)) :: (3, .list G []) :: dNo T none l' [] []) rest) [.br false] .next (pxN hB) (qa (qa trivial hT) t1))
         · have hle := jl (T := T) (s := s) (k := s + 2) (E - (s + 2))
           have hl2 : (l ++ (cY T s (s + 2) (E - (s + 2))).map bM).length ≤ 16777000 := by rw [List.length_append, List.length_map]; omega
           unfold ou
           generalize hll : l ++ (cY T s (s + 2) (E - (s + 2))).map bM = l2 at hl2 ⊢
           rcases hg with ⟨g1, g2⟩ | ⟨i, tl, hi, g1, g2, g3⟩
           · subst g2
             have hN := hOp g1
             rw [rI hs] at hN
             have hE := hEn g1
             clear hSh hOp hEn g1 hle eL eG
             refine aN (σ₁ := ⟨cJ s ra (some (.str [45, 62])) (some (.int E)) none (some (.ref D)) none none, (D, .list []) :: (L + 1, .cell (some (.str T))) :: (L + 1 + 1, .cell none) :: (ra, .list l2) :: rest⟩) (cz (ar [L + 1, L + 1 + 1, ra, D] (dN s (some (.av (.str [45, 62]))) (some (.av (.int E))) none (some (.slot 3)) none none ((3, .list [] []) :: dNo T none l2 [] []) rest) (dN s (some (.av (.str [45, 62]))) (some (.av (.int E))) none (some (.slot 3)) none none ((3, .list [] []) :: dNo T none l2 [] []) rest) [.br false] .next (pxN hB) (qa (qa trivial (lz3 0)) ff))) ?_
             refine aN (σ₁ := ⟨cJ s ra (some (.str [45, 62])) (some (.int E)) none (some (.ref D)) none none, (D, .list []) :: (L + 1, .cell (some (.str T))) :: (L + 1 + 1, .cell (some (.str (T.drop s)))) :: (ra, .list l2) :: rest⟩) (cz ?_) ?_
             · rw [← mA]
               exact ar [L + 1, L + 1 + 1, ra, D] (dN s (some (.av (.str [45, 62]))) (some (.av (.int E))) none (some (.slot 3)) none none ((3, .list [] []) :: dNo T none l2 [] []) rest) (dN s (some (.av (.str [45, 62]))) (some (.av (.int E))) none (some (.slot 3)) none none ((3, .list [] []) :: dNo T (some (.av (.str (sl T (some (s : Int)) none)))) l2 [] []) rest) [] .next (pxN hB) (qa trivial hT)
             · have hR : (T.drop s).length ≤ 16777216 := by rw [List.length_drop]; omega
               generalize hRR : T.drop s = R at hR hN ⊢
               have hti := (tK (R := R)).1
               have ht3 : (tlS (aR R)).length ≤ 16777216 := by omega
               refine aN (σ₁ := ⟨cJ s ra (some (.str [45, 62])) (some (.int E)) none (some (.ref D)) (some (.str (tlN (aR R)))) (some (.str (tlS (aR R)))), (D, .list []) :: (L + 1, .cell (some (.str T))) :: (L + 1 + 1, .cell (some (.str R))) :: (ra, .list l2) :: rest⟩) (Af (σ₁ := ⟨cJ s ra (some (.str [45, 62])) (some (.int E)) none (some (.ref D)) none none, (D, .list []) :: (L + 1, .cell (some (.str T))) :: (L + 1 + 1, .cell (some (.str R))) :: (ra, .list l2) :: rest⟩) (σ₂ := ⟨cJ s ra (some (.str [45, 62])) (some (.int E)) none (some (.ref D)) none (some (.str (tlS (aR R)))), (D, .list []) :: (L + 1, .cell (some (.str T))) :: (L + 1 + 1, .cell (some (.str R))) :: (ra, .list l2) :: rest⟩) (f4 (qP (N := 4) (d := nf) (item := fun i => (hX.map fun p => AV.tup [.str p.1, .str p.2]).getD i .any) ["pair"] (fB R) (fun i => .tup [.str (tlS i), .str (tlN i)]) (by decide) (de (cg (v := .ref 774) (by rw [hB.K]; kernel_rfl)) (cF (by rw [hB.K]; kernel_rfl)) aC (r_J (sm hB _) (lB0 rfl))) (fun xv => lI) ?_ rfl) cO (qw (k := 0) uc (nT0 (eN _ _ 4) (by decide)))) (bN (bH (.skip (.skip (.skip (.skip (.skip (.skip (.skip .hit))))))))) (bN (bH (.skip (.skip (.skip (.skip (.skip (.skip .hit))))))))) ?_
               · intro i hi
                 have hit : (hX.map fun p => AV.tup [.str p.1, .str p.2]).getD i .any = .tup [.str (tlS i), .str (tlN i)] := by match i, hi with | 0, _ => rfl | 1, _ => rfl | 2, _ => rfl | 3, _ => rfl
                 have hzi : (tlS i).length ≤ 16777216 := by match i, hi with | 0, _ => exact (by decide) | 1, _ => exact (by decide) | 2, _ => exact (by decide) | 3, _ => exact (by decide)
                 rw [hit]
                 clear hit hN hti hl2 hll hi
                 have hp : ∀ {X : Cx} {e1 e2 : Expr} {σ : St}, bd e2 = true → bY X e1 e2 (.tup [.str (tlS i), .str (tlN i)]) (.int (0 : Nat)) (.str (tlS i)) σ := fun hs => zH (k := 0) rfl (lB0 rfl) (fh hs)
                 exact ⟨fun C p q => ⟨[("pair", some (.tup [.str (tlS i), .str (tlN i)]))], [("pair", some (.tup [.str (tlS i), .str (tlN i)]))], bN (bH .hit), r8 (kK (c := fB R i) (dg (gU (fg rfl (.tail _ (.tail _ (.tail _ (.tail _ (.head _)))))) (dD (de (bx PyProof.Rows.Boot.«max» (by rw [hB.K]; kernel_rfl)) dU (aq cO (aq (fc (de (bx PyProof.Rows.Boot.«len» (by rw [hB.K]; kernel_rfl)) dU (aq (fg rfl (.tail _ (.tail _ (.tail _ (.tail _ (.head _)))))) aC) (fo hR)) (de (bx PyProof.Rows.Boot.«len» (by rw [hB.K]; kernel_rfl)) dU (aq (f4 (a9 (.head _)) cO (hp rfl)) aC) (fo hzi)) oM) aC)) oP)) uG rfl rfl hR) (f4 (a9 (.head _)) cO (hp rfl)) f1) rfl), fun _ => a9 (.head _)⟩⟩
               · refine aN (σ₁ := ⟨cJ s ra (some (.str [45, 62])) (some (.int E)) none (some (.ref D)) (some (.str (bc R))) (some (.str (tlS (aR R)))), (D, .list []) :: (L + 1, .cell (some (.str T))) :: (L + 1 + 1, .cell (some (.str R))) :: (ra, .list l2) :: rest⟩) (cz ?_) ?_
                 · by_cases e45 : R = [45]
                   · have t45 : decide (R = [45]) = true := decide_eq_true e45
                     rw [show bc R = sg "eof-in-comment" from by unfold bc; rw [if_pos e45]]
                     exact ar [L + 1, L + 1 + 1, ra, D] (dN s (some (.av (.str [45, 62]))) (some (.av (.int E))) none (some (.slot 3)) (some (.av (.str (tlN (aR R))))) (some (.av (.str (tlS (aR R))))) ((3, .list [] []) :: dNo T (some (.av (.str R))) l2 [] []) rest) (dN s (some (.av (.str [45, 62]))) (some (.av (.int E))) none (some (.slot 3)) (some (.av (.str (sg "eof-in-comment")))) (some (.av (.str (tlS (aR R))))) ((3, .list [] []) :: dNo T (some (.av (.str R))) l2 [] []) rest) [.br true] .next (pxN hB) (qa trivial t45)
                   · have t45 : decide (R = [45]) = false := decide_eq_false e45
                     rw [show bc R = tlN (aR R) from by unfold bc; rw [if_neg e45]]
                     exact ar [L + 1, L + 1 + 1, ra, D] (dN s (some (.av (.str [45, 62]))) (some (.av (.int E))) none (some (.slot 3)) (some (.av (.str (tlN (aR R))))) (some (.av (.str (tlS (aR R))))) ((3, .list [] []) :: dNo T (some (.av (.str R))) l2 [] []) rest) (dN s (some (.av (.str [45, 62]))) (some (.av (.int E))) none (some (.slot 3)) (some (.av (.str (tlN (aR R))))) (some (.av (.str (tlS (aR R))))) ((3, .list [] []) :: dNo T (some (.av (.str R))) l2 [] []) rest) [.br false] .next (pxN hB) (qa trivial t45)
                 · have hH := th hti
                   refine bQ (f := .ret (.int E)) (σ' := ⟨cJ s ra (some (.str [45, 62])) (some (.int E)) none (some (.ref D)) (some (.str (bc R))) (some (.str (tlS (aR R)))), (D, .list []) :: (L + 1, .cell (some (.str T))) :: (L + 1 + 1, .cell (some (.str R))) :: (ra, .list (l2 ++ [.tup [.int E, .dct [("type", .int 7), ("data", .str (bc R))]], .tup [.int E, aD (sl R none (some ((R.length : Int) - ((tlS (aR R)).length : Int))))]])) :: rest⟩) (ar [L + 1, L + 1 + 1, ra, D] (dN s (some (.av (.str [45, 62]))) (some (.av (.int E))) none (some (.slot 3)) (some (.av (.str (bc R)))) (some (.av (.str (tlS (aR R))))) ((3, .list [] []) :: dNo T (some (.av (.str R))) l2 [] []) rest) (dN s (some (.av (.str [45, 62]))) (some (.av (.int E))) none (some (.slot 3)) (some (.av (.str (bc R)))) (some (.av (.str (tlS (aR R))))) ((3, .list [] []) :: dNo T (some (.av (.str R))) l2 [.av (.tup [.int E, .dct [("type", .int 7), ("data", .str (bc R))]]), .av (.tup [.int E, aD (sl R none (some ((R.length : Int) - ((tlS (aR R)).length : Int))))])] []) rest) [.call 0 (.av (.dct [("type", .int 7), ("data", .str (bc R))])) ((3, .list [] []) :: dNo T (some (.av (.str R))) l2 [] []) rest 1, .call 0 (.av (aD (sl R none (some ((R.length : Int) - ((tlS (aR R)).length : Int)))))) ((3, .list [] []) :: dNo T (some (.av (.str R))) l2 [.av (.tup [.int E, .dct [("type", .int 7), ("data", .str (bc R))]])] []) rest 1] (.ret (.av (.int E))) (pxN hB) (qa (qa (qa (qa (qa (qa (qa trivial (cI (x := bc R) hB (a8 [L + 1, L + 1 + 1, ra, D] rest ((3, .list [] []) :: dNo T (some (.av (.str R))) l2 [] [])))) (nK hl2)) hR) ht3) hR) (ji (x := (sl R none (some ((R.length : Int) - ((tlS (aR R)).length : Int))))) hB (a8 [L + 1, L + 1 + 1, ra, D] rest ((3, .list [] []) :: dNo T (some (.av (.str R))) l2 [.av (.tup [.int E, .dct [("type", .int 7), ("data", .str (bc R))]])] [])))) (yZ hl2))) ⟨.int E, rfl, (ra, .list (l ++ (aI T s).1.map fun e => .tup [.int e.1, e.2])) :: rest, [(D, .list []), (L + 1, .cell (some (.str T))), (L + 1 + 1, .cell (some (.str R)))], ?_, ?_, rfl⟩
                   · rw [hN, List.map_append, ← List.append_assoc, ← hE, hll, hH]
                     simp only [List.map_cons, List.map_nil, List.append_assoc]
                     exact List.perm_append_comm (l₁ := [_, _, _])
                   · rw [hN, hE]
           · subst g3
             have hN := hSh i g1
             have hc : sl T (some (s : Int)) (some ((s : Int) + (i : Int))) = cut T s (s + i) := by rw [show (s : Int) + (i : Int) = ((s + i : Nat) : Int) from by omega]; exact i3 (by omega) (by omega)
             clear hSh hOp hEn g1 g2 hle eL eG
             refine jK (zM (f := .ret (.int E)) (σ' := ⟨cJ s ra (some (.str [45, 62])) (some (.int E)) none (some (.ref D)) none none, (D, .list (.int ((s : Int) + (i : Int)) :: tl)) :: (L + 1, .cell (some (.str T))) :: (L + 1 + 1, .cell none) :: (ra, .list (l2 ++ [.tup [.int E, aD (sl T (some (s : Int)) (some ((s : Int) + (i : Int))))]])) :: rest⟩) (cz (ar [L + 1, L + 1 + 1, ra, D] (dN s (some (.av (.str [45, 62]))) (some (.av (.int E))) none (some (.slot 3)) none none ((3, .list (.int ((s : Int) + (i : Int)) :: tl) []) :: dNo T none l2 [] []) rest) (dN s (some (.av (.str [45, 62]))) (some (.av (.int E))) none (some (.slot 3)) none none ((3, .list (.int ((s : Int) + (i : Int)) :: tl) []) :: dNo T none l2 [.av (.tup [.int E, aD (sl T (some (s : Int)) (some ((s : Int) + (i : Int))))])] []) rest) [.br true, .itm (.int ((s : Int) + (i : Int))), .call 0 (.av (aD (sl T (some (s : Int)) (some ((s : Int) + (i : Int)))))) ((3, .list (.int ((s : Int) + (i : Int)) :: tl) []) :: dNo T none l2 [] []) rest 1] (.ret (.av (.int E))) (pxN hB) (qa (qa (qa (qa (qa (qa trivial hG0) tt) (fun X (e : X.B = B) e1 e2 hs => hM (X := X) (e1 := e1) (e2 := e2) (loc := cJ s ra (some (.str [45, 62])) (some (.int E)) none (some (.ref D)) none none) (.head _) (a := D) (l := .int ((s : Int) + (i : Int)) :: tl) (d := .int ((s : Int) + (i : Int))) (k := 0) (objs := (D, .list (.int ((s : Int) + (i : Int)) :: tl)) :: (L + 1, .cell (some (.str T))) :: (L + 1 + 1, .cell none) :: (ra, .list l2) :: rest) rfl hGl hs)) hT) (ji (x := (sl T (some (s : Int)) (some ((s : Int) + (i : Int))))) hB (a8 [L + 1, L + 1 + 1, ra, D] rest ((3, .list (.int ((s : Int) + (i : Int)) :: tl) []) :: dNo T none l2 [] [])))) (nK hl2)))) ⟨(fun h => nomatch h), .int E, rfl, (ra, .list (l ++ (aI T s).1.map fun e => .tup [.int e.1, e.2])) :: rest, [(D, .list (.int ((s : Int) + (i : Int)) :: tl)), (L + 1, .cell (some (.str T))), (L + 1 + 1, .cell none)], ?_, ?_, rfl⟩)
             · rw [hN, List.map_append, ← List.append_assoc, hll, ← hc]
               exact List.perm_append_comm (l₁ := [_, _, _])
             · rw [hN]
 · intro x d hm
   simp at hm
   rcases hm with ⟨rfl, rfl⟩ | ⟨rfl, rfl⟩ <;> exact ⟨by kernel_rfl, by simp⟩
 · exact aP (by kernel_rfl)
 · intro L; rfl
 · exact aP (by kernel_rfl)
 · intro x d hm
   simp at hm
   rcases hm with ⟨rfl, rfl⟩ | ⟨rfl, rfl⟩
   · exact ⟨by kernel_rfl, by simp⟩
   · exact ⟨by kernel_rfl, by show ¬ (("rest" : Str) ∈ (["text", "start", "rows"] : List Str)); decide⟩
 · decide
 · intro x hx
   simp at hx
   rcases hx with rfl | rfl | rfl
   · exact .inr ⟨by kernel_rfl, by simp⟩
   · exact .inl (by kernel_rfl)
   · exact .inl (by kernel_rfl)
end
section
set_option genInjectivity false
variable {s k z : Nat} {ra : Addr} {x : List Nat} {X : Cx} {σ : St} {pos : Pos} {Q : PF} {w2 w3 w4 w5 w6 w7 : Option AV}
variable {B : ab} {T : List Nat} {rest objs : OL}
theorem wP (hB : IsB B) (h : bS T) (hs : s ≤ T.length) {l : List AV} (hl : l.length ≤ 100000) : aa B 3 800 [.str T, .int s, .ref ra] ((ra, .list l) :: rest) fun d o => d = .int (aI T s).2 ∧
 o = (ra, .list (l ++ (aI T s).1.map fun e => .tup [.int e.1, e.2])) :: rest := by
 by_cases h1 : T[s]? = some 62
 · exact mD hB h hs (.inl h1) hl
 · by_cases h2 : T[s]? = some 45 ∧ T[s + 1]? = some 62
   · exact mD hB h hs (.inr h2) hl
   · exact yM hB h hs h1 h2 hl
theorem xk (hB : IsB B) {kd : List Nat} {i : Int} (hk : bp (S kd) jB = some (.int i)) : aa B 1 795 [.str kd, .str x] objs fun d o => ∃ a, d = .ref a ∧ o = (a, .dict [("type", .int i), ("data", .str x)]) :: objs := by
 refine jY ["kind", "data"] [] (by rw [hB.K]; rfl) (by rw [hB.K]; kernel_rfl) (.two fun _ _ => rfl) fun L => ?_
 refine lB (fQ (f4 (eB (v := .ref 48) (by refine hB.K ▸ ?_; kernel_rfl) (jn hB)) (a9 (.head _)) (pD hk)) (fQ (a9 (.tail _ (.head _))) kY)) (by kernel_rfl) fun a => ⟨_, rfl, a, rfl, rfl⟩
theorem s8 (e : nsIn X.B.K mainGlobals "_law_BLANK" = some (some (.str (S [9, 10, 32]) 1471))) (hk : autoParam (X.env.scope.kind = .function) bR) (hl : autoParam (X.env.kindOf "_law_BLANK" = some .globalImplicit) bK) (hg : autoParam (X.env.globals = mainGlobals) bR) : Ev X (.Name "_law_BLANK" pos) σ (.str [9, 10, 32]) σ :=
 eB e (fun _ _ => .str _ _) hk hl hg
theorem sD : ∀ (n : Nat) (s : Stt) (k : Nat) (acc : List Nat), (run T n s k acc).length ≤ 2 * n := by
 intro n
 induction n with
 | zero => intro s k acc; simp [run]
 | succ n ih =>
  intro s k acc
  rcases s with _ | _ <;> simp only [run]
  case bog => have := ih .data (min (ai uGt T k + 1) T.length) []; simp only [List.length_cons]; omega
  all_goals
   repeat' split
   all_goals
    try simp only [List.length_cons, List.length_nil]
    first
    | exact lB0 rfl
    | (refine nT0 (ih _ _ _) ?_; exact Nat.le_add_right _ _)
    | (refine nT0 (Nat.add_le_add_right (ih _ _ _) 1) ?_; exact Nat.le_succ _)
    | (refine nT0 (Nat.add_le_add_right (Nat.add_le_add_right (ih _ _ _) 1) 1) ?_; exact Nat.lt_succ_self _)
theorem kc (h : bS T) : (aZ T 0).length ≤ 10000 := by
 have := sD (T := T) (4 * (T.length - 0) + 1) .data 0 []
 have := h.len
 unfold aZ
 omega
theorem pf : aZ T T.length = [] := by
 unfold aZ
 rw [run]
 rw [List.getElem?_eq_none_iff.mpr (Nat.le_refl _)]
theorem l6 {f : AV} (h : s ≤ T.length) : s ≤ (cT T s f).2 ∧ (cT T s f).2 ≤ T.length := by
 unfold cT
 have := bo uGt T s
 exact ⟨by show s ≤ min _ _; omega, Nat.min_le_right _ _⟩
theorem ug (h : s ≤ T.length) : s ≤ (aI T s).2 ∧ (aI T s).2 ≤ T.length := by
 by_cases h1 : T[s]? = some 62
 · have := ah h1; unfold aI; rw [if_pos h1]; exact ⟨Nat.le_succ _, this⟩
 · by_cases h2 : T[s]? = some 45 ∧ T[s + 1]? = some 62
   · have := ah h2.2; unfold aI; rw [if_neg h1, if_pos h2]; exact ⟨by show s ≤ s + 2; exact Nat.le_add_right _ _, this⟩
   · cases q : e6 T s (T.length - s) with
     | none => rw [ja h h1 h2 q]; exact ⟨h, Nat.le_refl _⟩
     | some i => rw [jf h h1 h2 q]; exact ⟨(lZ h).2, (lZ h).1⟩
theorem ng {n : Nat} : sl T (some (s : Int)) (some ((s : Int) + (n : Int))) = (T.drop s).take n := by
 by_cases h : s ≤ T.length
 · exact cS h
 · rw [List.drop_eq_nil_of_le (by omega), List.take_nil]
   rw [fj]
   have e : c4 T.length (s : Int) = T.length := fK (Int.ofNat_le.mpr (by omega))
   rw [e, List.drop_eq_nil_of_le]
   rw [List.length_take]; omega
theorem sl1 {i j : Int} (h1 : i = k) (h2 : j = i + 1) : sl T (some i) (some j) = T[k]?.toList := by
 subst h1 h2
 rw [show (k : Int) + 1 = (k : Int) + ((1 : Nat) : Int) from rfl, ng]
 cases q : T[k]? with
 | none => rw [List.drop_eq_nil_of_le (List.getElem?_eq_none_iff.mp q)]; rfl
 | some z => exact vf.mpr (by simpa using q)
theorem jQ (h : o7 T) (h12 : 12 ∉ T) (hm : z ∈ T) : decide (z ∈ [9, 10, 32]) = uSp z := by
 have e12 : z ≠ 12 := fun e => h12 (e ▸ hm)
 have e13 : z ≠ 13 := fun e => h.plain.no13 (e ▸ hm)
 unfold uSp aQ
 simp [e12, e13]
theorem tU (h : o7 T) (hz : T[k]? = some z) (e60 : z ≠ 60) : ai (fun x => decide (x ∈ [60]) == false) T k = ai uTx T (k + 1) := by
 have hlt := ah hz
 have hd : T.drop k = z :: T.drop (k + 1) := by
  rw [List.drop_eq_getElem_cons hlt]
  congr 1
  rw [List.getElem?_eq_getElem hlt] at hz
  exact Option.some.inj hz
 have key : ∀ l : List Nat, (∀ x ∈ l, x ∈ T) → l.takeWhile (fun x => decide (x ∈ [60]) == false) = l.takeWhile uTx := by
  intro l
  induction l with
  | nil => intro _; rfl
  | cons a l ih =>
   intro hl
   have ha := hl a (.head _)
   have e0 : a ≠ 0 := fun e => h.no0 (e ▸ ha)
   have e38 : a ≠ 38 := fun e => h.no38 (e ▸ ha)
   have : (decide (a ∈ [60]) == false) = uTx a := by unfold uTx; simp [e0, e38]
   rw [List.takeWhile_cons, List.takeWhile_cons, this, ih fun x hx => hl x (.tail _ hx)]
 unfold ai
 rw [hd, List.takeWhile_cons, if_pos (by simp [e60]), key _ fun x hx => List.mem_of_mem_drop hx, List.length_cons]
 exact (Nat.succ_add _ _).symm
theorem jv (hB : IsB B) : cQ B 1 795 [.str (sg "Characters"), .str x] (tx x) := fun objs => kH hB tt1
theorem xa (hB : IsB B) : cQ B 1 795 [.str (sg "SpaceCharacters"), .str x] (sp x) := fun objs => kH hB tt2
theorem sI : Str.ofString "<!--" = S [60, 33, 45, 45] := by kernel_rfl
theorem je {ss : List Stmt} {loc loc' : LL} {objs : OL} (h : bB X ss ⟨loc', objs⟩ Q) (e : ∀ x d, (x, some d) ∈ loc' → (x, some d) ∈ loc) (nd : (loc'.map (·.1)).Nodup) : bB X ss ⟨loc, objs⟩ Q :=
 ⟨fun H Φ k => ae fun A F s hA Y => wpAny_mono ((h.run H Φ k).run A F s hA ⟨Y.core, Y.sub, let ⟨m, hm, r⟩ := Y.loc; ⟨m, hm, fun y d hy => r y d (e y d hy)⟩, nd, Y.objs, Y.nodup, Y.apart, Y.held, Y.low⟩) (fun v s' z => let ⟨F', σ', x, p, q⟩ := z; ⟨F', σ', x, p, q⟩) fun _ _ z => z⟩
noncomputable abbrev fT (T : List Nat) (ra : Addr) (k : Nat) (w2 w3 w4 w5 w6 w7 : Option AV) : LL := [("text", some (.str T)), ("rows", some (.ref ra)), ("place", some (.int k)), ("second", w2), ("third", w3), ("end", w4), ("fault", w5), ("shown", w6), ("name", w7)]
noncomputable def A6 (T : List Nat) (ra : Addr) (objs : OL) (m : Nat) (σ : St) : Prop := ∃ k w2 w3 w4 w5 w6 w7 acc, k ≤ T.length ∧ m = T.length - k ∧ acc ++ (aZ T k).map bM = (aZ T 0).map bM ∧ σ = ⟨fT T ra k w2 w3 w4 w5 w6 w7, (ra, .list acc) :: objs⟩
theorem sf : ∀ x d, (x, some d) ∈ fT T ra k none none none none none none → (x, some d) ∈ fT T ra k w2 w3 w4 w5 w6 w7 := fun x d h => by
 simp only [fT, List.mem_cons, Prod.mk.injEq, reduceCtorEq, and_false, or_false, List.not_mem_nil] at h ⊢
 rcases h with h | h | h
 · exact .inl h
 · exact .inr (.inl h)
 · exact .inr (.inr (.inl h))
theorem sR : ((fT T ra k w2 w3 w4 w5 w6 w7).map (·.1)).Nodup := aP (by kernel_rfl)
theorem tG {k' : Nat} {rs : List (Nat × AV)} {acc : List AV} (hz : T[k]? = some z) (hacc : acc ++ (aZ T k).map bM = (aZ T 0).map bM) (e : ak T k z = (rs, k')) (h1 : k < k') (h2 : k' ≤ T.length) :
 Fl.next = .next ∧ ∃ m, m < T.length - k ∧ A6 T ra objs m ⟨fT T ra k' w2 w3 w4 w5 w6 w7, (ra, .list (acc ++ rs.map bM)) :: objs⟩ := by
 refine ⟨rfl, T.length - k', by omega, k', _, _, _, _, _, _, _, h2, rfl, ?_, rfl⟩
 rw [← hacc, p5 hz, e, List.map_append, List.append_assoc]
end
section
set_option genInjectivity false
variable {B : ab} {T : List Nat} {rest objs : OL}
theorem eO {X : Cx} {σ : St} {R : St → Prop} {s : Stmt} (h1 : ExQ X s σ fun f σ' => f = .next ∧ R σ') : bB X [s] σ fun f σ' => f = .next ∧ R σ' := jM R h1 fun _ r => lX ⟨rfl, r⟩
theorem qY {k z : Nat} (hz : T[k]? = some z) : k < (ak T k z).2 ∧ (ak T k z).2 ≤ T.length := by
 have hlt := ah hz
 unfold ak
 split
 · exact ⟨bo uSp T (k + 1), b8 uSp hlt⟩
 · split
   · exact ⟨bo uTx T (k + 1), b8 uTx hlt⟩
   · split
     · rename_i h1
       have hk1 := ah h1
       split
       · rename_i h2
         have hk4 := ah h2.2
         have := ug (T := T) (s := k + 4) hk4
         omega
       · have := l6 (T := T) (s := k + 2) (f := er "expected-dashes-or-doctype") hk1
         omega
     · split
       · have := l6 (T := T) (s := k + 1) (f := er "expected-tag-name-but-got-question-mark") hlt
         assumption
       · split
         · rename_i h1
           have hk1 := ah h1
           split
           · exact ⟨by show k < k + 2; exact Nat.le_succ _, hk1⟩
           · rename_i c h2
             have hk2 := ah h2
             split
             · exact ⟨by show k < k + 3; exact Nat.lt_add_of_pos_right (by decide), hk2⟩
             · have := l6 (T := T) (s := k + 2) (f := erC c) hk1
               omega
         · split
           · rename_i h1
             have hk1 := ah h1
             exact ⟨by show k < k + 2; exact Nat.le_succ _, hk1⟩
           · exact ⟨Nat.lt_succ_self _, hlt⟩
noncomputable def dR (T : List Nat) (k : Nat) (w2 w3 w4 w5 w6 w7 : Option DV) (acc : List AV) (ps : List DV) (objs : OL) : DS := ⟨[("text", some (.av (.str T))), ("rows", some (.slot 0)), ("place", some (.av (.int k))), ("second", w2), ("third", w3), ("end", w4), ("fault", w5), ("shown", w6), ("name", w7)], [(0, .list acc ps)], objs⟩
noncomputable abbrev dQ (T : List Nat) (k : Nat) (x2 x3 : List Nat) := dR T k (some (.av (.str x2))) (some (.av (.str x3)))
noncomputable abbrev rQ (T : List Nat) (ra : Addr) (k : Nat) (x2 x3 : List Nat) := fT T ra k (some (.str x2)) (some (.str x3))
noncomputable def eR (i : Int) (x : String) : AV := .tup [.int i, er x]
noncomputable def tR (i : Int) (x : List Nat) : AV := .tup [.int i, tx x]
theorem vX (hB : IsB B) (h : o7 T) (h12 : 12 ∉ T) : aa B 4 814 [.str T] objs fun d o => ∃ a, d = .ref a ∧ o = (a, .list ((aZ T 0).map bM)) :: objs := by
 have hz := h.plain.size
 have hlen := h.plain.len
 have hPl := h.plain
 refine jY ["text"] ["rows", "place", "second", "third", "end", "fault", "shown", "name"] (by rw [hB.K]; rfl) (by rw [hB.K]; kernel_rfl) (.one fun _ => rfl) fun L => ?_
 refine dG aC (by decide) fun ra => ⟨_, (.skip .hit), ?_⟩
 refine aN (σ₁ := ⟨fT T ra 0 none none none none none none, (ra, .list []) :: objs⟩) (cz (ar [ra] ⟨[("text", some (.av (.str T))), ("rows", some (.slot 0)), ("place", none), ("second", none), ("third", none), ("end", none), ("fault", none), ("shown", none), ("name", none)], [(0, .list [] [])], objs⟩ (dR T 0 none none none none none none [] [] objs) [] .next (pxo hB) trivial)) ?_
 refine jM (fun σ => ∃ w2 w3 w4 w5 w6 w7, σ = ⟨fT T ra T.length w2 w3 w4 w5 w6 w7, (ra, .list ((aZ T 0).map bM)) :: objs⟩) (qB (A6 T ra objs) (n := T.length) ⟨0, _, _, _, _, _, _, [], Nat.zero_le _, rfl, by rw [List.nil_append], rfl⟩ ?_) ?_
 · rintro m σ ⟨k, w2, w3, w4, w5, w6, w7, acc, hk, rfl, hacc, rfl⟩
   by_cases hlt : k < T.length
   · right
     have hrun := kc hPl
     have hal : acc.length ≤ 100000 := by have := congrArg List.length hacc; rw [List.length_append, List.length_map, List.length_map] at this; omega
     obtain ⟨z, hzk⟩ : ∃ z, T[k]? = some z := ⟨_, List.getElem?_eq_getElem hlt⟩
     have hgo := fun rs k' w2 w3 w4 w5 w6 w7 => tG (objs := objs) (ra := ra) (k' := k') (rs := rs) (w2 := w2) (w3 := w3) (w4 := w4) (w5 := w5) (w6 := w6) (w7 := w7) hzk hacc
     refine ⟨⟨fT T ra k w2 w3 w4 w5 w6 w7, (ra, .list acc) :: objs⟩, kK (c := decide ((k : Int) < (T.length : Int))) (dg (a9 (.tail _ (.tail _ (.head _)))) (de (bx PyProof.Rows.Boot.«len» (by rw [hB.K]; kernel_rfl)) dU (aq (a9 (.head _)) aC) (fo hz)) yw) (decide_eq_true (by exact Int.ofNat_le.mpr ‹_›)), je (loc' := fT T ra k none none none none none none) ?_ sf sR⟩
     clear hacc hrun
     have hm : z ∈ T := List.mem_of_getElem? hzk
     have hat : at? T (k : Int) = some z := by rw [cH hlt, ← hzk, List.getElem?_eq_getElem hlt]
     have h2 : sl T (some ((k : Int) + 1)) (some ((k : Int) + 2)) = T[k + 1]?.toList := sl1 (by rfl) (by rfl)
     have h3 : sl T (some ((k : Int) + 2)) (some ((k : Int) + 3)) = T[k + 2]?.toList := sl1 (by rfl) (by rfl)
     have h4 : sl T (some (k : Int)) (some ((k : Int) + 4)) = (T.drop k).take 4 := ng
     have hb := jQ h h12 hm
     have hodd : ∀ (s : Nat) (i : Int) (f : AV), i = s → s ≤ T.length → aa B 2 807 [.str T, .int i, f, .ref ra] ((ra, .list acc) :: objs) fun d o => d = .int (cT T s f).2 ∧ o = (ra, .list (acc ++ (cT T s f).1.map bM)) :: objs := by
      rintro s _ f rfl hs
      exact AK hB hPl hs ‹_›
     have b1 : z ∈ [9, 10, 32] → [z] ∈ aQ := fun q => by
      have := hb.symm.trans (decide_eq_true q)
      unfold uSp at this
      simpa using this
     have b0 : z ∉ [9, 10, 32] → ¬ [z] ∈ aQ := fun q w => by
      have := hb.symm.trans (decide_eq_false q)
      unfold uSp at this
      rw [decide_eq_true w] at this
      exact Bool.noConfusion this
     have ov : ∀ (o : Option Nat) (a : Nat), o.toList = [a] ↔ o = some a := fun o a => by rcases o with _ | _ <;> simp
     have rng := qY (T := T) hzk
     refine aN (cz (ar (σ' := ⟨fT T ra k (some (.str (sl T (some ((k : Int) + 1)) (some ((k : Int) + 2))))) none none none none none, (ra, .list acc) :: objs⟩) [ra] (dR T k none none none none none none acc [] objs) (dR T k (some (.av (.str (sl T (some ((k : Int) + 1)) (some ((k : Int) + 2)))))) none none none none none acc [] objs) [] .next (pxo hB) (qa trivial hz))) ?_
     refine aN (cz (ar (σ' := ⟨fT T ra k (some (.str (sl T (some ((k : Int) + 1)) (some ((k : Int) + 2))))) (some (.str (sl T (some ((k : Int) + 2)) (some ((k : Int) + 3))))) none none none none, (ra, .list acc) :: objs⟩) [ra] (dR T k (some (.av (.str (sl T (some ((k : Int) + 1)) (some ((k : Int) + 2)))))) none none none none none acc [] objs) (dR T k (some (.av (.str (sl T (some ((k : Int) + 1)) (some ((k : Int) + 2)))))) (some (.av (.str (sl T (some ((k : Int) + 2)) (some ((k : Int) + 3)))))) none none none none acc [] objs) [] .next (pxo hB) (qa trivial hz))) ?_
     generalize sl T (some ((k : Int) + 1)) (some ((k : Int) + 2)) = x2 at h2 ⊢
     generalize sl T (some ((k : Int) + 2)) (some ((k : Int) + 3)) = x3 at h3 ⊢
     refine jM (fun σ => ∃ w5 w6 w7, σ = ⟨rQ T ra k x2 x3 (some (.int (ak T k z).2)) w5 w6 w7, (ra, .list (acc ++ (ak T k z).1.map bM)) :: objs⟩) (ii (σ₁ := ⟨rQ T ra k x2 x3 none none none none, (ra, .list acc) :: objs⟩) (c := decide (z ∈ [9, 10, 32])) (dg (f4 (a9 (.head _)) (a9 (.tail _ (.tail _ (.head _)))) (rn hat hz)) (s8 (by rw [hB.K]; kernel_rfl)) vk) ⟨fun tb => ?_, fun tb => eO (ii (σ₁ := ⟨rQ T ra k x2 x3 none none none none, (ra, .list acc) :: objs⟩) (c := !decide ([z] = [60])) (dg (f4 (a9 (.head _)) (a9 (.tail _ (.tail _ (.head _)))) (rn hat hz)) (bu xd) qO) ⟨fun tz => ?_, fun tz => eO (ii (σ₁ := ⟨rQ T ra k x2 x3 none none none none, (ra, .list acc) :: objs⟩) (c := decide (sl T (some (k : Int)) (some ((k : Int) + 4)) = [60, 33, 45, 45])) (dg (gU (a9 (.head _)) (dD (a9 (.tail _ (.tail _ (.head _))))) (dD (fc (a9 (.tail _ (.tail _ (.head _)))) cO i5)) rfl rfl hz) (bu sI) f1) ⟨fun t4 => ?_, fun t4 => eO (ii (σ₁ := ⟨rQ T ra k x2 x3 none none none none, (ra, .list acc) :: objs⟩) (c := decide (x2 = [33])) (dg (a9 (.tail _ (.tail _ (.tail _ (.head _))))) (bu oZ) f1) ⟨fun t33 => ?_, fun t33 => eO (ii (σ₁ := ⟨rQ T ra k x2 x3 none none none none, (ra, .list acc) :: objs⟩) (c := decide (x2 = [63])) (dg (a9 (.tail _ (.tail _ (.tail _ (.head _))))) (bu Ad) f1) ⟨fun t63 => ?_, fun t63 => eO (ii (σ₁ := ⟨rQ T ra k x2 x3 none none none none, (ra, .list acc) :: objs⟩) (c := decide (x2 = [47]) && (decide (x3 = [62]) && true)) (uW (gK (dg (a9 (.tail _ (.tail _ (.tail _ (.head _))))) (bu pY) f1) (gK (dg (a9 (.tail _ (.tail _ (.tail _ (.tail _ (.head _)))))) (bu yR) f1) oJ))) ⟨fun t6 => ?_, fun t6 => eO (ii (σ₁ := ⟨rQ T ra k x2 x3 none none none none, (ra, .list acc) :: objs⟩) (c := decide (x2 = [47]) && (!decide (x3 = []) && true)) (uW (gK (dg (a9 (.tail _ (.tail _ (.tail _ (.head _))))) (bu pY) f1) (gK (dg (a9 (.tail _ (.tail _ (.tail _ (.tail _ (.head _)))))) (bu mI) qO) oJ))) ⟨fun t7 => ?_, fun t7 => ?_⟩)⟩)⟩)⟩)⟩)⟩)⟩) ?_
     · -- blanks
       have bz := b1 (of_decide_eq_true tb)
       have hS : ak T k z = ([(ai uSp T (k + 1), sp (cut T k (ai uSp T (k + 1))))], ai uSp T (k + 1)) := by unfold ak; rw [if_pos bz]
       rw [hS]
       have g1 := bo uSp T (k + 1)
       have g2 := b8 uSp (T := T) (k := k + 1) hlt
       have hm' : k + 1 + (ai uSp T (k + 1) - (k + 1)) = ai uSp T (k + 1) := by exact Nat.add_sub_of_le ‹_›
       have hc : sl T (some (k : Int)) (some ((ai uSp T (k + 1) : Nat) : Int)) = cut T k (ai uSp T (k + 1)) := i3 (by exact Nat.le_of_lt ‹_›) g2
       have bl : ∀ j (hj : j < T.length), decide (T[j] ∈ [9, 10, 32]) = uSp T[j] := fun j hj => jQ h h12 (List.getElem_mem hj)
       have sin := fun j (a : k + 1 ≤ j) (b : j < ai uSp T (k + 1)) => jx a b hlt
       have sout : ∀ e, ai uSp T (k + 1) = e → ∀ q : e < T.length, uSp T[e] = false := fun e he q => by subst he; exact iw q
       obtain ⟨e, he⟩ : ∃ e, ai uSp T (k + 1) = e := ⟨_, rfl⟩
       rw [he] at g1 g2 hm' hc sin ⊢
       rw [← hc]
       clear hodd h2 h3 h4 hb hm hzk bz hS b1 b0 ov rng tb h h12 hPl hc
       refine bQ (σ' := ⟨rQ T ra k x2 x3 (some (.int e)) none none none, (ra, .list (acc ++ [.tup [.int e, sp (sl T (some (k : Int)) (some (e : Int)))]])) :: objs⟩) (ej (σ₁ := ⟨rQ T ra k x2 x3 (some (.int (k + 1 : Nat))) none none none, (ra, .list acc) :: objs⟩) (cz (ar [ra] (dQ T k x2 x3 none none none none acc [] objs) (dQ T k x2 x3 (some (.av (.int (k + 1 : Nat)))) none none none acc [] objs) [] .next (pxo hB) trivial)) (ej (jN (dW.count (fun j => ⟨rQ T ra k x2 x3 (some (.int j)) none none none, (ra, .list acc) :: objs⟩) (m := e - (k + 1)) (k := k + 1) ?_ ?_)) ?_)) ⟨rfl, none, none, none, rfl⟩
       · intro j p1 p2
         rw [hm'] at p2
         obtain ⟨hj, hu⟩ := sin j p1 p2
         have hl := cH hj
         have tj : decide (T[j] ∈ [9, 10, 32]) = true := by rw [bl j hj, hu]
         generalize T[j] = y at hl tj
         exact ⟨dq [ra] (dQ T k x2 x3 (some (.av (.int j))) none none none acc [] objs) (dQ T k x2 x3 (some (.av (.int j))) none none none acc [] objs) [.br true, .ch y, .br true] (pxo hB) (qa (qa (qa (qa (qa trivial hz) (decide_eq_true (show (j : Int) < (T.length : Int) by exact Int.ofNat_le.mpr ‹_›))) hl) hz) tj), ar [ra] (dQ T k x2 x3 (some (.av (.int j))) none none none acc [] objs) (dQ T k x2 x3 (some (.av (.int (j + 1 : Nat)))) none none none acc [] objs) [] .next (pxo hB) trivial⟩
       · rw [hm']
         by_cases hj : e < T.length
         · have hl := cH hj
           have tj : decide (T[e] ∈ [9, 10, 32]) = false := by rw [bl e hj, sout e he hj]
           clear sin sout bl hm'
           generalize T[e] = y at hl tj
           exact dq [ra] (dQ T k x2 x3 (some (.av (.int e))) none none none acc [] objs) (dQ T k x2 x3 (some (.av (.int e))) none none none acc [] objs) [.br true, .ch y, .br false] (pxo hB) (qa (qa (qa (qa (qa trivial hz) (decide_eq_true (show (e : Int) < (T.length : Int) by exact Int.ofNat_le.mpr ‹_›))) hl) hz) tj)
         · exact dq [ra] (dQ T k x2 x3 (some (.av (.int e))) none none none acc [] objs) (dQ T k x2 x3 (some (.av (.int e))) none none none acc [] objs) [.br false] (pxo hB) (qa (qa trivial hz) (decide_eq_false (show ¬ (e : Int) < (T.length : Int) by omega)))
       · rw [hm']
         exact ar [ra] (dQ T k x2 x3 (some (.av (.int e))) none none none acc [] objs) (dQ T k x2 x3 (some (.av (.int e))) none none none acc [.av (.tup [.int e, sp (sl T (some (k : Int)) (some (e : Int)))])] objs) [.call 0 (.av (sp (sl T (some (k : Int)) (some (e : Int))))) [(0, .list acc [])] objs 1] .next (pxo hB) (qa (qa (qa trivial hz) (xa (x := sl T (some (k : Int)) (some (e : Int))) hB ((ra, .list acc) :: objs))) (lk 0 hal))
     · -- plain text
       have bz := b0 (of_decide_eq_false tb)
       have e60 : z ≠ 60 := fun q => by rw [q] at tz; exact Bool.noConfusion tz
       have hS : ak T k z = ([(ai uTx T (k + 1), tx (cut T k (ai uTx T (k + 1))))], ai uTx T (k + 1)) := by unfold ak; rw [if_neg bz, if_pos e60]
       have hsc : ai (fun x => decide (x ∈ [60]) == false) T k = ai uTx T (k + 1) := tU h hzk e60
       have g1 := bo uTx T (k + 1)
       have g2 := b8 uTx (T := T) (k := k + 1) hlt
       have hu : cQ B 1 781 [.str T, .int k, .str [60]] (.int (ai uTx T (k + 1) : Nat)) := fun objs => by
        have := mR (objs := objs) (c := 60) hB hPl hk
        rw [hsc] at this
        exact this
       have hc : sl T (some (k : Int)) (some ((ai uTx T (k + 1) : Nat) : Int)) = cut T k (ai uTx T (k + 1)) := i3 (by exact Nat.le_of_lt ‹_›) g2
       rw [hS, ← hc]
       clear hodd h2 h3 h4 hb hm hzk bz hS b1 b0 ov rng tb tz e60 hsc h h12 hPl hc
       obtain ⟨e, he⟩ : ∃ e, ai uTx T (k + 1) = e := ⟨_, rfl⟩
       rw [he] at hu ⊢
       exact bQ (σ' := ⟨rQ T ra k x2 x3 (some (.int e)) none none none, (ra, .list (acc ++ [.tup [.int e, tx (sl T (some (k : Int)) (some (e : Int)))]])) :: objs⟩) (ar [ra] (dQ T k x2 x3 none none none none acc [] objs) (dQ T k x2 x3 (some (.av (.int e))) none none none acc [.av (.tup [.int e, tx (sl T (some (k : Int)) (some (e : Int)))])] objs) [.call 0 (.av (.int e)) [(0, .list acc [])] objs 1, .call 0 (.av (tx (sl T (some (k : Int)) (some (e : Int))))) [(0, .list acc [])] objs 1] .next (pxo hB) (qa (qa (qa (qa trivial (hu ((ra, .list acc) :: objs))) hz) (jv (x := sl T (some (k : Int)) (some (e : Int))) hB ((ra, .list acc) :: objs))) (lk 0 hal))) ⟨rfl, none, none, none, rfl⟩
     · -- a comment
       have e60 : z = 60 := by simpa using tz
       subst e60
       have bz : ¬ [60] ∈ aQ := by decide
       refine x04 (pU.mp (h4.symm.trans (of_decide_eq_true t4))) ?_; rintro - c1 c2 c3
       simp only [List.getElem?_drop] at c1 c2 c3
       have hS : ak T k 60 = aI T (k + 4) := by unfold ak; rw [if_neg bz, if_neg (fun q => q rfl), if_pos c1, if_pos ⟨c2, c3⟩]
       have hl4 := ah c3
       have hn : aa B 3 800 [.str T, .int ((k : Int) + 4), .ref ra] ((ra, .list acc) :: objs) fun d o => d = .int (aI T (k + 4)).2 ∧ o = (ra, .list (acc ++ (aI T (k + 4)).1.map bM)) :: objs := by
        have := wP (rest := objs) (ra := ra) (l := acc) hB hPl (s := k + 4) ‹_› hal
        rw [show ((k + 4 : Nat) : Int) = (k : Int) + 4 from by rfl] at this
        exact this
       rw [hS]
       clear hodd h2 h3 h4 hb hm hzk bz hS b1 b0 ov rng tb tz t4 c1 c2 c3 hl4 h h12 hPl
       generalize aI T (k + 4) = R at hn ⊢
       exact bQ (σ' := ⟨rQ T ra k x2 x3 (some (.int R.2)) none none none, (ra, .list (acc ++ R.1.map bM)) :: objs⟩) (ar [ra] (dQ T k x2 x3 none none none none acc [] objs) (dQ T k x2 x3 (some (.av (.int R.2))) none none none (acc ++ R.1.map bM) [] objs) [.call 0 (.av (.int R.2)) [(0, .list (acc ++ R.1.map bM) [])] objs 3] .next (pxo hB) (qa trivial hn)) ⟨rfl, none, none, none, rfl⟩
     · have e60 : z = 60 := by simpa using tz
       subst e60
       have y1 := (ov _ _).mp (h2.symm.trans (of_decide_eq_true t33))
       have hk1 := ah y1
       have hS : ak T k 60 = cT T (k + 2) (er "expected-dashes-or-doctype") := by
        unfold ak
        rw [if_neg (by decide), if_neg (by decide), if_pos y1, if_neg fun q => of_decide_eq_false t4 (h4.trans (pU.mpr (by simpa using ⟨hzk, y1, q⟩)))]
       have ho := hodd (k + 2) ((k : Int) + 2) (er "expected-dashes-or-doctype") (by rfl) hk1
       rw [hS]
       generalize cT T (k + 2) (er "expected-dashes-or-doctype") = R at ho ⊢
       exact bQ (σ' := ⟨rQ T ra k x2 x3 (some (.int R.2)) none none none, (ra, .list (acc ++ R.1.map bM)) :: objs⟩) (ar [ra] (dQ T k x2 x3 none none none none acc [] objs) (dQ T k x2 x3 (some (.av (.int R.2))) none none none (acc ++ R.1.map bM) [] objs) [.call 0 (.av (er "expected-dashes-or-doctype")) [(0, .list acc [])] objs 1, .call 0 (.av (.int R.2)) [(0, .list (acc ++ R.1.map bM) [])] objs 2] .next (pxo hB) (qa (qa trivial (cI (x := sg "expected-dashes-or-doctype") hB ((ra, .list acc) :: objs))) ho)) ⟨rfl, none, none, none, rfl⟩
     · have e60 : z = 60 := by simpa using tz
       subst e60
       have y1 := (ov _ _).mp (h2.symm.trans (of_decide_eq_true t63))
       have hS : ak T k 60 = cT T (k + 1) (er "expected-tag-name-but-got-question-mark") := by simp [ak, y1, show ¬ [60] ∈ aQ from by decide]
       have ho := hodd (k + 1) ((k : Int) + 1) (er "expected-tag-name-but-got-question-mark") (by rfl) hlt
       rw [hS]
       generalize cT T (k + 1) (er "expected-tag-name-but-got-question-mark") = R at ho ⊢
       exact bQ (σ' := ⟨rQ T ra k x2 x3 (some (.int R.2)) none none none, (ra, .list (acc ++ R.1.map bM)) :: objs⟩) (ar [ra] (dQ T k x2 x3 none none none none acc [] objs) (dQ T k x2 x3 (some (.av (.int R.2))) none none none (acc ++ R.1.map bM) [] objs) [.call 0 (.av (er "expected-tag-name-but-got-question-mark")) [(0, .list acc [])] objs 1, .call 0 (.av (.int R.2)) [(0, .list (acc ++ R.1.map bM) [])] objs 2] .next (pxo hB) (qa (qa trivial (cI (x := sg "expected-tag-name-but-got-question-mark") hB ((ra, .list acc) :: objs))) ho)) ⟨rfl, none, none, none, rfl⟩
     · have e60 : z = 60 := by simpa using tz
       subst e60
       simp only [Bool.and_eq_true, decide_eq_true_eq, and_true] at t6
       have y1 := (ov _ _).mp (h2.symm.trans t6.1)
       have y2 := (ov _ _).mp (h3.symm.trans t6.2)
       have hS : ak T k 60 = ([(k + 3, er "expected-closing-tag-but-got-right-bracket")], k + 3) := by simp [ak, y1, y2, show ¬ [60] ∈ aQ from by decide]
       rw [hS]
       clear hodd h2 h3 h4 hb hm hzk hS b1 b0 ov rng tb tz t4 t33 t63 t6 y1 y2 h h12 hPl
       exact bQ (σ' := ⟨rQ T ra k x2 x3 (some (.int ((k : Int) + 3))) none none none, (ra, .list (acc ++ [.tup [.int ((k : Int) + 3), er "expected-closing-tag-but-got-right-bracket"]])) :: objs⟩) (ar [ra] (dQ T k x2 x3 none none none none acc [] objs) (dQ T k x2 x3 (some (.av (.int ((k : Int) + 3)))) none none none acc [.av (.tup [.int ((k : Int) + 3), er "expected-closing-tag-but-got-right-bracket"])] objs) [.call 0 (.av (er "expected-closing-tag-but-got-right-bracket")) [(0, .list acc [])] objs 1] .next (pxo hB) (qa (qa trivial (cI (x := sg "expected-closing-tag-but-got-right-bracket") hB ((ra, .list acc) :: objs))) (lk 0 hal))) ⟨rfl, none, none, none, rfl⟩
     · have e60 : z = 60 := by simpa using tz
       subst e60
       have t7' := t7
       simp only [Bool.and_eq_true, decide_eq_true_eq, and_true, Bool.not_eq_true', decide_eq_false_iff_not] at t7'
       have y1 := (ov _ _).mp (h2.symm.trans t7'.1)
       obtain ⟨c, y2⟩ : ∃ c, T[k + 2]? = some c := by
        cases q : T[k + 2]? with
        | none => rw [q] at h3; exact absurd h3 t7'.2
        | some c => exact ⟨c, rfl⟩
       have c62 : c ≠ 62 := fun q => by
        have e3 := h3
        rw [y2, q] at e3
        have e3 : x3 = [62] := e3
        rw [decide_eq_true t7'.1, decide_eq_true e3] at t6
        exact Bool.noConfusion t6
       have e3 : x3 = [c] := by rw [h3, y2]; rfl
       have hk1 := ah y1
       have hS : ak T k 60 = cT T (k + 2) (erC c) := by simp [ak, y1, y2, c62, show ¬ [60] ∈ aQ from by decide]
       have ho := hodd (k + 2) ((k : Int) + 2) (erC c) (by rfl) hk1
       rw [hS, e3]
       clear hodd h2 h3 h4 hb hm hzk hS b1 b0 ov rng tb tz t4 t33 t63 t6 t7 t7' y1 y2 c62 hk1 e3 h h12 hPl
       refine oV (cg (v := .ref 795) (by rw [hB.K]; kernel_rfl)) (cF (by rw [hB.K]; kernel_rfl)) (aq (bu (mO _)) (aq (bu (mO _)) aC)) (xk hB tt7) (lB0 rfl) ?_
       intro _ _ z9; refine x12 z9 ?_; clear z9; rintro a rfl rfl
       refine ⟨_, (.skip (.skip (.skip (.skip (.skip (.skip .hit)))))), ?_⟩
       refine aN (vE (l' := [("type", .int 7), ("data", .str (sg "expected-closing-tag-but-got-char")), ("datavars", .dct [("data", .str [c])])]) (qI (fQ (a9 (.tail _ (.tail _ (.tail _ (.tail _ (.head _)))))) kY) (by kernel_rfl)) (a9 (.tail _ (.tail _ (.tail _ (.tail _ (.tail _ (.tail _ (.head _)))))))) (bu (mO _)) (by rw [← mO]; exact .skip (by kernel_rfl) (.skip (by kernel_rfl) .new)) Chg.head (by decide)) ?_
       exact bQ (ej (iB (de (cg (v := .ref 807) (by rw [hB.K]; kernel_rfl)) (cF (by rw [hB.K]; kernel_rfl)) (aq (a9 (.head _)) (aq (fc (a9 (.tail _ (.tail _ (.head _)))) cO i5) (aq (lg (.tail _ (.tail _ (.tail _ (.tail _ (.tail _ (.tail _ (.head _))))))) dX.head) (aq (a9 (.tail _ (.head _))) aC)))) (r_J ho (lB0 rfl))) (bH (.skip (.skip (.skip (.skip (.skip .hit))))))) re) ⟨rfl, some (.ref a), none, none, rfl⟩
     · have e60 : z = 60 := by simpa using tz
       subst e60
       have hb0 : ¬ [60] ∈ aQ := by decide
       by_cases y62 : T[k + 1]? = some 62
       · have v1 : decide (x2 = [62]) = true := decide_eq_true (h2.trans ((ov _ _).mpr y62))
         have v2 : decide (x2 = [47]) = false := by rw [of_decide_eq_true v1]; rfl
         have hS : ak T k 60 = ([(k + 2, er "expected-tag-name-but-got-right-bracket"), (k + 2, tx [60, 62])], k + 2) := by simp [ak, y62, hb0]
         rw [hS]
         clear hodd h2 h3 h4 hb hm hzk hS b1 b0 ov rng tb tz t4 t33 t63 t6 t7 h h12 hPl
         exact bQ (σ' := ⟨rQ T ra k x2 x3 (some (.int ((k : Int) + (([60, 62] : List Nat).length : Int)))) none (some (.str [60, 62])) (some (.str (sg "expected-tag-name-but-got-right-bracket"))), (ra, .list (acc ++ [eR (k + 2) "expected-tag-name-but-got-right-bracket", tR (k + 2) [60, 62]])) :: objs⟩) (ar [ra] (dQ T k x2 x3 none none none none acc [] objs) (dQ T k x2 x3 (some (.av (.int ((k : Int) + (([60, 62] : List Nat).length : Int))))) none (some (.av (.str [60, 62]))) (some (.av (.str (sg "expected-tag-name-but-got-right-bracket")))) acc [.av (eR (k + 2) "expected-tag-name-but-got-right-bracket"), .av (tR (k + 2) [60, 62])] objs) [.br true, .br false, .call 0 (.av (er "expected-tag-name-but-got-right-bracket")) [(0, .list acc [])] objs 1, .call 0 (.av (tx [60, 62])) [(0, .list acc [.av (eR (k + 2) "expected-tag-name-but-got-right-bracket")])] objs 1] .next (pxo hB) (qa (qa (qa (qa (qa (qa (qa trivial v1) v2) (lz3 2)) (cI (x := sg "expected-tag-name-but-got-right-bracket") hB ((ra, .list acc) :: objs))) (lk 0 hal)) (jv (x := [60, 62]) hB ((ra, .list (acc ++ [eR (k + 2) "expected-tag-name-but-got-right-bracket"])) :: objs))) (lk 1 hal))) ⟨rfl, none, some (.str [60, 62]), some (.str (sg "expected-tag-name-but-got-right-bracket")), rfl⟩
       · have v1 : decide (x2 = [62]) = false := decide_eq_false fun q => y62 ((ov _ _).mp (h2.symm.trans q))
         by_cases y47 : T[k + 1]? = some 47
         · have v2 : decide (x2 = [47]) = true := decide_eq_true (h2.trans ((ov _ _).mpr y47))
           have y2 : T[k + 2]? = none := by
            cases q : T[k + 2]? with
            | none => rfl
            | some c =>
             rw [q] at h3
             have h3 : x3 = [c] := h3
             rw [v2, h3] at t7
             exact Bool.noConfusion t7
           have hS : ak T k 60 = ([(k + 2, er "expected-closing-tag-but-got-eof"), (k + 2, tx [60, 47])], k + 2) := by simp [ak, y47, hb0, y2]
           rw [hS]
           clear hodd h2 h3 h4 hb hm hzk hS b1 b0 ov rng tb tz t4 t33 t63 t6 t7 h h12 hPl
           exact bQ (σ' := ⟨rQ T ra k x2 x3 (some (.int ((k : Int) + (([60, 47] : List Nat).length : Int)))) none (some (.str [60, 47])) (some (.str (sg "expected-closing-tag-but-got-eof"))), (ra, .list (acc ++ [eR (k + 2) "expected-closing-tag-but-got-eof", tR (k + 2) [60, 47]])) :: objs⟩) (ar [ra] (dQ T k x2 x3 none none none none acc [] objs) (dQ T k x2 x3 (some (.av (.int ((k : Int) + (([60, 47] : List Nat).length : Int))))) none (some (.av (.str [60, 47]))) (some (.av (.str (sg "expected-closing-tag-but-got-eof")))) acc [.av (eR (k + 2) "expected-closing-tag-but-got-eof"), .av (tR (k + 2) [60, 47])] objs) [.br false, .br true, .call 0 (.av (er "expected-closing-tag-but-got-eof")) [(0, .list acc [])] objs 1, .call 0 (.av (tx [60, 47])) [(0, .list acc [.av (eR (k + 2) "expected-closing-tag-but-got-eof")])] objs 1] .next (pxo hB) (qa (qa (qa (qa (qa (qa (qa trivial v1) v2) (lz3 2)) (cI (x := sg "expected-closing-tag-but-got-eof") hB ((ra, .list acc) :: objs))) (lk 0 hal)) (jv (x := [60, 47]) hB ((ra, .list (acc ++ [eR (k + 2) "expected-closing-tag-but-got-eof"])) :: objs))) (lk 1 hal))) ⟨rfl, none, some (.str [60, 47]), some (.str (sg "expected-closing-tag-but-got-eof")), rfl⟩
         · have v2 : decide (x2 = [47]) = false := decide_eq_false fun q => y47 ((ov _ _).mp (h2.symm.trans q))
           have y33 : T[k + 1]? ≠ some 33 := fun q => of_decide_eq_false t33 (h2.trans ((ov _ _).mpr q))
           have y63 : T[k + 1]? ≠ some 63 := fun q => of_decide_eq_false t63 (h2.trans ((ov _ _).mpr q))
           have hS : ak T k 60 = ([(k + 1, er "expected-tag-name"), (k + 1, tx [60])], k + 1) := by simp [ak, y33, y63, y47, y62, hb0]
           rw [hS]
           clear hodd h2 h3 h4 hb hm hzk hS b1 b0 ov rng tb tz t4 t33 t63 t6 t7 h h12 hPl
           exact bQ (σ' := ⟨rQ T ra k x2 x3 (some (.int ((k : Int) + (([60] : List Nat).length : Int)))) none (some (.str [60])) (some (.str (sg "expected-tag-name"))), (ra, .list (acc ++ [eR (k + 1) "expected-tag-name", tR (k + 1) [60]])) :: objs⟩) (ar [ra] (dQ T k x2 x3 none none none none acc [] objs) (dQ T k x2 x3 (some (.av (.int ((k : Int) + (([60] : List Nat).length : Int))))) none (some (.av (.str [60]))) (some (.av (.str (sg "expected-tag-name")))) acc [.av (eR (k + 1) "expected-tag-name"), .av (tR (k + 1) [60])] objs) [.br false, .br false, .call 0 (.av (er "expected-tag-name")) [(0, .list acc [])] objs 1, .call 0 (.av (tx [60])) [(0, .list acc [.av (eR (k + 1) "expected-tag-name")])] objs 1] .next (pxo hB) (qa (qa (qa (qa (qa (qa (qa trivial v1) v2) (lz3 1)) (cI (x := sg "expected-tag-name") hB ((ra, .list acc) :: objs))) (lk 0 hal)) (jv (x := [60]) hB ((ra, .list (acc ++ [eR (k + 1) "expected-tag-name"])) :: objs))) (lk 1 hal))) ⟨rfl, none, some (.str [60]), some (.str (sg "expected-tag-name")), rfl⟩
     · intro _ z9; refine x31 z9 ?_; clear z9; rintro w5 w6 w7 rfl
       exact aN (iB (a9 (.tail _ (.tail _ (.tail _ (.tail _ (.tail _ (.head _))))))) (bH (.skip (.skip .hit)))) (lX (hgo _ _ _ _ _ _ _ _ rfl rng.1 rng.2))
   · left
     obtain rfl : k = T.length := by omega
     refine ⟨⟨fT T ra T.length w2 w3 w4 w5 w6 w7, (ra, .list acc) :: objs⟩, kK (c := decide ((T.length : Int) < (T.length : Int))) (dg (a9 (.tail _ (.tail _ (.head _)))) (de (bx PyProof.Rows.Boot.«len» (by rw [hB.K]; kernel_rfl)) dU (aq (a9 (.head _)) aC) (fo hz)) yw) (decide_eq_false (by simp +arith)), rfl, w2, w3, w4, w5, w6, w7, ?_⟩
     rw [pf, List.map_nil, List.append_nil] at hacc
     rw [hacc]
 · intro _ z9; refine x61 z9 ?_; clear z9; rintro w2 w3 w4 w5 w6 w7 rfl
   exact bQ (gy (gE (a9 (.tail _ (.head _))))) ⟨_, rfl, ra, rfl, rfl⟩
end
section
set_option genInjectivity false
variable {T : List Nat}
noncomputable def cP : List (List Nat) := [[60, 33, 45, 45], [45, 45, 62], [45], [45, 45], [62], [33], [60], [60, 33], [32], [10], [49], [45, 45, 33], [60, 47], [60, 63], [233], [47], [45, 45, 33, 62], [63], [61], [9], [45, 62], [60, 62], [60, 47, 62], [50]]
theorem js {B : ab} (hB : IsB B) : aW B (.ref 767) (.lst (cP.map .str)) := by
 refine pC (by rw [hB.K]; rfl) ?_
 rfl
noncomputable def c9 (n : Int) : List Nat := cP.getD (n.fmod 24).toNat []
theorem hV (k : Int) : (cP.map AV.str)[(k.fmod 24).toNat]? = some (.str (c9 k)) := by
 have h0 : 0 ≤ k.fmod 24 := Int.fmod_nonneg_of_pos k (by decide)
 have h1 : k.fmod 24 < 24 := Int.fmod_lt_of_pos k (by decide)
 have h2 : (k.fmod 24).toNat < cP.length := by show _ < 24; omega
 unfold c9
 rw [List.getElem?_map, List.getElem?_eq_getElem h2, List.getD_eq_getElem?_getD, List.getElem?_eq_getElem h2]
 rfl
theorem nR (f : Int → List Nat) (l : List Int) : aG (l.map fun n => AV.str (f n)) = some (l.map f) := by
 induction l with
 | nil => rfl
 | cons a l ih =>
  show (aG (l.map fun n => AV.str (f n))).map (f a :: ·) = _
  refine ih ▸ ?_; rfl
theorem h7 (k : Int) : c9 k ∈ cP := by
 have h := hV k
 rw [List.getElem?_map] at h
 cases e : cP[(k.fmod 24).toNat]? with
 | none => rw [e] at h; contradiction
 | some x =>
  rw [e] at h
  have : x = c9 k := by simpa using h
  exact (this) ▸ (List.mem_of_getElem? e)
theorem lF (k : Int) : (c9 k).length ≤ 4 := by
 have : ∀ x ∈ cP, x.length ≤ 4 := by decide
 exact this _ (h7 k)
noncomputable def gu : List Nat := [60, 33, 45, 62, 32, 10, 49, 47, 63, 233, 61, 9, 50]
theorem o8 (k : Int) : ∀ c ∈ c9 k, c ∈ gu := by
 have : ∀ x ∈ cP, ∀ c ∈ x, c ∈ gu := by decide
 exact this _ (h7 k)
noncomputable def dL (ns : List Int) : List Nat := ((ns.take 24).map c9).flatten
theorem jZ (ns : List Int) : (dL ns).length ≤ 96 := by
 have key : ∀ l : List Int, (l.map c9).flatten.length ≤ 4 * l.length := by
  intro l
  induction l with
  | nil => simp
  | cons a l ih => have := lF a; simp only [List.map_cons, List.flatten_cons, List.length_append, List.length_cons]; omega
 have := key (ns.take 24)
 have h2 : (ns.take 24).length ≤ 24 := by rw [List.length_take]; omega
 unfold dL
 omega
theorem p9 (ns : List Int) : ∀ c ∈ dL ns, c ∈ gu := fun c hc => by
 refine x12 (List.mem_flatten.mp hc) ?_; rintro x hx hc
 refine x12 (List.mem_map.mp hx) ?_; rintro k _ rfl
 exact o8 k c hc
theorem v9 (hl : T.length ≤ 97) (hm : ∀ c ∈ T, c ∈ gu) (he : T.drop (T.length - 3) ≠ [60, 33, 45]) : o7 T ∧ 12 ∉ T := by
 have k1 : ∀ c ∈ gu, c ≠ 13 ∧ c ≠ 12 ∧ c ≠ 0 ∧ c ≠ 38 ∧ inv (c : Int) = false ∧ c < 1114112 ∧ ¬ (55296 ≤ c ∧ c ≤ 56319) := by decide +kernel
 have k2 : ∀ c ∈ gu, decide ([c] ∈ eQ) = false := by decide +kernel
 refine ⟨⟨⟨by exact nT0 ‹_› (Nat.le_add_left _ _), fun h => (k1 _ (hm _ h)).1 rfl, fun c hc => (k1 c (hm c hc)).2.2.2.2⟩, fun c hc => k2 c (hm c hc), fun h => (k1 _ (hm _ h)).2.2.1 rfl, fun h => (k1 _ (hm _ h)).2.2.2.1 rfl, fun k a b c => ?_⟩, fun h => (k1 _ (hm _ h)).2.1 rfl⟩
 have h3 := ah c
 by_cases q : k + 3 < T.length
 · exact q
 · exfalso
   refine he ((ue (by exact nT0 (Nat.le_add_left _ _) ‹_›)).mpr ?_)
   refine (show T.length - 3 = k from by omega) ▸ (show T.length - 2 = k + 1 from by omega) ▸ (show T.length - 1 = k + 2 from by omega) ▸ ?_
   exact ⟨a, b, c⟩
noncomputable def iH (ns : List Int) : List Nat := if (dL ns).drop ((dL ns).length - 3) = [60, 33, 45] then dL ns ++ [62] else dL ns
theorem uC (ns : List Int) : o7 (iH ns) ∧ 12 ∉ iH ns := by
 have h1 := jZ ns
 have h2 := p9 ns
 unfold iH
 split
 · refine v9 (by refine List.length_append ▸ List.length_singleton ▸ ?_; exact Nat.lt_succ_of_le ‹_›) (fun c hc => ?_) ?_
   · rcases List.mem_append.mp hc with hc | hc
     · exact h2 c hc
     · refine (List.mem_singleton.mp hc) ▸ ?_; decide
   · intro q
     have hlen := gP q rfl
     have := ((ue hlen).mp q).2.2
     simp at this
 · rename_i q
   exact v9 (by exact Nat.le_succ_of_le ‹_›) h2 q
theorem fV {i : Int} {x : List Nat} : cG 10 (.dct [("type", .int i), ("data", .str x)]) := .dct fun p hp => by
 rcases mC0 hp with rfl | hp
 · exact .int
 · exact (List.mem_singleton.mp hp) ▸ (.str)
theorem pN {c : List Nat} : cG 10 (.dct [("type", .int 7), ("data", .str (sg "expected-closing-tag-but-got-char")), ("datavars", .dct [("data", .str c)])]) := .dct fun p hp => by
 rcases mC0 hp with rfl | hp
 · exact .int
 · rcases mC0 hp with rfl | hp
   · exact .str
   · exact (List.mem_singleton.mp hp) ▸ (.dct fun p hp => by refine (List.mem_singleton.mp hp) ▸ ?_; exact .str)
theorem vN : ∀ e ∈ ([] : List (Nat × AV)), cG 10 e.2 := fun _ h => by contradiction
theorem fU {e : Nat × AV} {l : List (Nat × AV)} (h1 : cG 10 e.2) (h2 : ∀ x ∈ l, cG 10 x.2) : ∀ x ∈ e :: l, cG 10 x.2 := fun x hx => by
 rcases mC0 hx with rfl | hx
 · exact h1
 · exact h2 x hx
theorem pZ : ∀ (n : Nat) (s : Stt) (k : Nat) (acc : List Nat), ∀ e ∈ run T n s k acc, cG 10 e.2 := by
 intro n
 induction n with
 | zero => intro s k acc e he; simp [run] at he
 | succ n ih =>
  intro s k acc
  rcases s with _ | _ <;> simp only [run]
  case bog => exact fU fV (ih _ _ _)
  all_goals
   repeat' split
   all_goals first
    | exact vN
    | exact ih _ _ _
    | exact fU fV (ih _ _ _)
    | exact fU pN (ih _ _ _)
    | exact fU fV (fU fV (ih _ _ _))
theorem cG.up {n m : Nat} (h : n ≤ m) {d : AV} (f : cG n d) : cG m d := by
 induction f generalizing m with
 | none => exact .none
 | bool => exact .bool
 | int => exact .int
 | str => exact .str
 | tup _ ih => obtain ⟨k, rfl⟩ : ∃ k, m = k + 1 := ⟨m - 1, by omega⟩; exact .tup fun d hd => ih d hd (by exact Nat.le_of_lt_succ ‹_›)
 | lst _ ih => obtain ⟨k, rfl⟩ : ∃ k, m = k + 1 := ⟨m - 1, by omega⟩; exact .lst fun d hd => ih d hd (by exact Nat.le_of_lt_succ ‹_›)
 | dct _ ih => obtain ⟨k, rfl⟩ : ∃ k, m = k + 1 := ⟨m - 1, by omega⟩; exact .dct fun d hd => ih d hd (by exact Nat.le_of_lt_succ ‹_›)
theorem rf : ∀ d ∈ (aZ T 0).map (dc T), cG 50 d := fun d hd => by
 refine x12 (List.mem_map.mp hd) ?_; rintro e he rfl
 have h1 : cG 10 e.2 := pZ _ _ _ _ e he
 refine .tup (n := 49) fun x hx => ?_
 rcases mC0 hx with rfl | hx
 · unfold bg
   refine .tup (n := 48) fun x hx => ?_
   rcases mC0 hx with rfl | hx
   · exact .int
   · exact (List.mem_singleton.mp hx) ▸ (.int)
 · exact (List.mem_singleton.mp hx) ▸ (h1.up (by decide))
theorem gC (l : List AV) : ∀ n, n ≤ l.length → b3 (fun _ => true) (fun i => l.getD i .any) n = l.take n
 | 0, _ => by rw [List.take_zero]; rfl
 | n + 1, h => by
  unfold b3
  rw [if_pos rfl, gC l n (by omega), List.take_add_one, List.getD_eq_getElem?_getD, List.getElem?_eq_getElem (by omega)]
  rfl
theorem iu (l : List AV) : b3 (fun _ => true) (fun i => l.getD i .any) l.length = l := by rw [gC l _ (Nat.le_refl _), List.take_length]
theorem oz : ∀ e ∈ aZ T 0, e.1 ≤ T.length := by
 have key : ∀ (n : Nat) (s : Stt) (k : Nat) (acc : List Nat), k ≤ T.length → ∀ e ∈ run T n s k acc, e.1 ≤ T.length := by
  have c1 : ∀ {e : Nat × AV} {l : List (Nat × AV)}, e.1 ≤ T.length → (∀ x ∈ l, x.1 ≤ T.length) → ∀ x ∈ e :: l, x.1 ≤ T.length := fun h1 h2 x hx => by
   rcases mC0 hx with rfl | hx
   · exact h1
   · exact h2 x hx
  intro n
  induction n with
  | zero => intro s k acc _ e he; simp [run] at he
  | succ n ih =>
   intro s k acc hk
   have up : ∀ z, T[k]? = some z → k < T.length := fun z hz => ah hz
   rcases s with _ | _ <;> simp only [run]
   case bog => exact c1 (Nat.min_le_right _ _) (ih _ _ _ (Nat.min_le_right _ _))
   case mk =>
    split
    · split
      · rename_i hz hz1
        exact ih _ _ _ (ah hz1)
      · exact c1 hk (ih _ _ _ hk)
    · exact c1 hk (ih _ _ _ hk)
   all_goals
    cases hz : T[k]? with
    | none => first | (intro e he; contradiction; done) | (exact c1 hk (c1 hk (ih _ _ _ hk)))
    | some z =>
     have hk1 := up z hz
     have hk2 : k + 1 ≤ T.length := hk1
     have a2 := b8 uSp (T := T) (k := k + 1) hk1
     have a4 := b8 uTx (T := T) (k := k + 1) hk1
     have a6 := b8 uDs (T := T) (k := k + 1) hk1
     dsimp only
     repeat' split
     all_goals first
      | exact ih _ _ _ hk2
      | exact ih _ _ _ hk
      | exact ih _ _ _ a6
      | exact c1 a2 (ih _ _ _ a2)
      | exact c1 a4 (ih _ _ _ a4)
      | exact c1 hk2 (ih _ _ _ hk2)
      | exact c1 hk (ih _ _ _ hk)
      | exact c1 hk (c1 hk (ih _ _ _ hk))
      | exact c1 hk2 (c1 hk2 (ih _ _ _ hk2))
 exact key _ _ _ _ (Nat.zero_le _)
end
section
set_option genInjectivity false
noncomputable def iV : Prop := ∀ (B : ab), IsB B → ∀ ns : List Int, ns.length ≤ 63 → aa B 12 819 [.obj (dj ns)] [] fun d _ => d = .bool true
theorem pz {X : Cx} {σ : St} {pos : Pos} (hB : IsB X.B) (e : nsIn X.B.K mainGlobals "_law_PIECES" = some (some (.ref 767))) (hk : autoParam (X.env.scope.kind = .function) bR) (hl : autoParam (X.env.kindOf "_law_PIECES" = some .globalImplicit) bK) (hg : autoParam (X.env.globals = mainGlobals) bR) : Ev X (.Name "_law_PIECES" pos) σ (.lst (cP.map .str)) σ :=
 eB e (js hB) hk hl hg
theorem vv {B : ab} (hB : IsB B) {st dx tx tdx er : Addr} {t : List Nat} {q : SS} {d₀ : AV} (e : jc q = d₀) (pre rest : OL) : aa B 2 126 [.ref st] (pre ++ oS st dx tx tdx er t q rest) fun d o => d = d₀ ∧ o = pre ++ oS st dx tx tdx er t q rest := by
 refine aa.perm (o₁ := oS st dx tx tdx er t q (rest ++ pre)) (List.perm_append_comm (l₂ := oS st dx tx tdx er t q rest)) (lQ hB) fun d o ⟨e1, e2⟩ => ⟨pre ++ oS st dx tx tdx er t q rest, ?_, e1.trans e, rfl⟩
 rw [e2]
 exact List.perm_append_comm (l₁ := oS st dx tx tdx er t q rest)
theorem kF (l : List Nat) : sl l (some (-3)) none = l.drop (l.length - 3) := by
 rw [p0]
 rw [List.take_length]; rfl
noncomputable abbrev iE (ns : List Int) (w1 w2 w3 w4 w5 : Option AV) : LL := [("script", some (.obj (dj ns))), ("text", w1), ("due", w2), ("tokenizer", w3), ("got", w4), ("token", w5)]
theorem sM {ns : List Int} {w1 w2 w3 w4 w5 : Option AV} : ∀ x d, (x, some d) ∈ iE ns w1 w2 w3 w4 none → (x, some d) ∈ iE ns w1 w2 w3 w4 w5 := fun x d h => by
 simp only [iE, List.mem_cons, Prod.mk.injEq, reduceCtorEq, and_false, or_false, List.not_mem_nil] at h ⊢
 rcases h with h | h | h | h | h
 · exact .inl h
 · exact .inr (.inl h)
 · exact .inr (.inr (.inl h))
 · exact .inr (.inr (.inr (.inl h)))
 · exact .inr (.inr (.inr (.inr (.inl h))))
theorem uA {ns : List Int} {w1 w2 w3 w4 w5 : Option AV} : ((iE ns w1 w2 w3 w4 w5).map (·.1)).Nodup := aP (by kernel_rfl)
theorem n5 {cells : List (Str × Addr)} {ρ : List Addr} {a : Str} {i : Nat} (h1 : cells.lookup a = some (aB ρ i)) (hi : Nat.blt i ρ.length = true) : ∀ x k, cc x [(a, i)] = some k → cells.lookup x = some (aB ρ k) ∧ k < ρ.length := fun x k e => by
 refine x12 (Option.map_eq_some_iff.mp e) ?_; rintro p h q
 obtain rfl := List.mem_singleton.mp (List.mem_of_find?_eq_some h)
 have e1 := eq_of_beq (List.find?_some (p := fun p : Str × Nat => p.1 == x) h)
 subst q e1
 exact ⟨h1, fy hi⟩
noncomputable abbrev yn (T : List Nat) (i : Nat) : Option AV := if i = 0 then none else some ((aZ T 0).getD (i - 1) (0, .none)).2
theorem zy : iV := by
 intro B hB ns hns
 obtain ⟨hT, h12⟩ := uC ns
 have hPl := hT.plain
 have hlen : (iH ns).length ≤ 1000 := hPl.len
 refine i9 (ds := [.obj (dj ns)]) ["script"] (iE ns none none none none none) [("marks", none)] (by rw [hB.K]; rfl) (by rw [hB.K]; kernel_rfl) (fun vs hv => by match vs, hv with | [a], _ => rfl) rfl rfl (fun L => ?_) (hloc := ?_) (hln := ?_) (hcs := ?_) (hcn := ?_) (hck := ?_) (hpn := ?_) (hpk := ?_)
 · dsimp only [aY, List.cons_append, List.nil_append]
   have hN : ((ns.take 24).map AV.int).length = ((ns.take 24).map fun n => AV.str (c9 n)).length := by simp
   have hz3 := jZ ns
   refine aN (σ₁ := ⟨iE ns (some (.str (dL ns))) none none none none, [(L + 1, .cell none)]⟩) (iB (pI (bu mI) (rl PySem.F.slot_str_join PySem.F.type_str_join) dU (aq
    (qP (N := ((ns.take 24).map AV.int).length) (d := .lst ((ns.take 24).map AV.int)) ["n"] (fun _ => true) (fun i => ((ns.take 24).map fun n => AV.str (c9 n)).getD i .any) (by simp; omega) (ke (j := 24) (a9 (.head _)) cO (by decide) (by exact nT0 ‹_› (lB0 rfl))) (fun xv => lI) ?_ rfl) aC)
    (tI (ms := (ns.take 24).map c9) (by rw [hN, iu]; exact nR c9 _) (by show (dL ns).length ≤ _; exact nT0 ‹_› (lB0 rfl)))) (bH (d := .str (dL ns)) (.skip .hit))) ?_
   · intro i hi
     have hi' : i < (ns.take 24).length := by simpa using hi
     have e1 : ((ns.take 24).map AV.int).getD i .any = .int ((ns.take 24)[i]) := by rw [List.getD_eq_getElem?_getD, List.getElem?_map, List.getElem?_eq_getElem hi']; rfl
     have e2 : ((ns.take 24).map fun n => AV.str (c9 n)).getD i .any = .str (c9 (ns.take 24)[i]) := by rw [List.getD_eq_getElem?_getD, List.getElem?_map, List.getElem?_eq_getElem hi']; rfl
     rw [e1, e2]
     generalize (ns.take 24)[i] = k
     exact ⟨fun C p q => ⟨[("n", some (.int k))], [("n", some (.int k))], bN (bH .hit), q5, fun _ =>
      f4 (pz hB (by rw [hB.K]; kernel_rfl)) (fc (a9 (.head _)) cO (vc (by decide))) (wA (Int.fmod_nonneg_of_pos k (by decide)) rfl (hV k) (by decide))⟩⟩
   · refine aN (σ₁ := ⟨iE ns (some (.str (iH ns))) none none none none, [(L + 1, .cell none)]⟩) ?_ ?_
     · have hz : (dL ns).length ≤ 16777000 := by exact nT0 ‹_› (lB0 rfl)
       by_cases e : (dL ns).drop ((dL ns).length - 3) = [60, 33, 45]
       · have te : decide (sl (dL ns) (some (-3)) none = [60, 33, 45]) = true := decide_eq_true (by rw [kF, e])
         have : iH ns = dL ns ++ [62] := by unfold iH; rw [if_pos e]
         rw [this]
         clear hT h12 hPl hlen hN e this
         generalize dL ns = t at te hz ⊢
         exact cz (ar [L + 1] ⟨[("script", some (.av (.obj (dj ns)))), ("text", some (.av (.str t))), ("due", none), ("tokenizer", none), ("got", none), ("token", none)], [(0, .cell none)], []⟩ ⟨[("script", some (.av (.obj (dj ns)))), ("text", some (.av (.str (t ++ [62])))), ("due", none), ("tokenizer", none), ("got", none), ("token", none)], [(0, .cell none)], []⟩ [.br true] .next (pxc (cl := [("marks", 0)]) hB (n5 (by kernel_rfl) rfl)) (qa (qa (qa trivial (big hz)) te) (yZ hz)))
       · have te : decide (sl (dL ns) (some (-3)) none = [60, 33, 45]) = false := decide_eq_false (by rw [kF]; exact e)
         have : iH ns = dL ns := by unfold iH; rw [if_neg e]
         rw [this]
         clear hT h12 hPl hlen hN e this
         generalize dL ns = t at te hz ⊢
         exact cz (ar [L + 1] ⟨[("script", some (.av (.obj (dj ns)))), ("text", some (.av (.str t))), ("due", none), ("tokenizer", none), ("got", none), ("token", none)], [(0, .cell none)], []⟩ ⟨[("script", some (.av (.obj (dj ns)))), ("text", some (.av (.str t))), ("due", none), ("tokenizer", none), ("got", none), ("token", none)], [(0, .cell none)], []⟩ [.br false] .next (pxc (cl := [("marks", 0)]) hB (n5 (by kernel_rfl) rfl)) (qa (qa trivial (big hz)) te))
     · generalize iH ns = T at hT h12 hPl hlen ⊢
       clear hN hz3
       have hrl := kc hPl
       refine aN (σ₁ := ⟨iE ns (some (.str T)) none none none none, [(L + 1, .cell (some (.lst (aU T T.length))))]⟩) (iB (mY (cg (v := .ref 788) (by rw [hB.K]; kernel_rfl)) (cF (by rw [hB.K]; kernel_rfl)) (aq (a9 (.tail _ (.head _))) aC) (ud hB hPl) (lB0 rfl)) (yu rfl Chg.head)) ?_
       have hml : ∀ k, (aU T k).length = k + 1 := fun k => by unfold aU; simp
       have hN : ((aZ T 0).map bM).length = ((aZ T 0).map (dc T)).length := by simp
       refine mU (N := ((aZ T 0).map bM).length) (d := .lst ((aZ T 0).map bM)) ["place", "token"] (fun _ => true) (fun i => ((aZ T 0).map (dc T)).getD i .any) (by simp; exact nT0 ‹_› (lB0 rfl)) (mY (cg (v := .ref 814) (by rw [hB.K]; kernel_rfl)) (cF (by rw [hB.K]; kernel_rfl)) (aq (a9 (.tail _ (.head _))) aC) (vX hB hT h12) (lB0 rfl)) (fun xv => lI) ?_ ?_ rfl rfl
       · intro i hi
         have hi' : i < (aZ T 0).length := by simpa using hi
         have e1 : ((aZ T 0).map bM).getD i .any = bM (aZ T 0)[i] := by rw [List.getD_eq_getElem?_getD, List.getElem?_map, List.getElem?_eq_getElem hi']; rfl
         have e2 : ((aZ T 0).map (dc T)).getD i .any = dc T (aZ T 0)[i] := by rw [List.getD_eq_getElem?_getD, List.getElem?_map, List.getElem?_eq_getElem hi']; rfl
         have hp := oz _ (List.getElem_mem hi')
         rw [e1, e2]
         generalize (aZ T 0)[i] = e at hp ⊢
         exact ⟨fun C p q => ⟨[("place", some (.int e.1)), ("token", some e.2)], [("place", some (.int e.1)), ("token", some e.2)], A1 (bN (bH .hit)) (bN (bH (.skip .hit))), q5, fun _ =>
          dH (aq (f4 (fg rfl (.tail _ (.tail _ (.head _)))) (a9 (.head _)) (qw (k := e.1) (il hp) (by rw [hml]; exact Nat.lt_of_le_of_lt ‹_› (lB0 rfl)))) (aq (a9 (.tail _ (.head _))) aC)) (lB0 rfl)⟩⟩
       · intro D
         rw [hN, iu]
         refine ⟨_, bH (.skip (.skip .hit)), ?_⟩
         refine rk (m := 6) (n' := 10) (cg (v := .ref 762) (by rw [hB.K]; kernel_rfl)) (cF (by rw [hB.K]; kernel_rfl)) (aq (a9 (.tail _ (.head _))) aC) (by rw [hB.K]; kernel_rfl) (by rw [hB.K]; kernel_rfl) (by rw [hB.K]; kernel_rfl) (fun x dx => sy hB) rfl (by decide) ?_
         rintro tk kdx _ _ ⟨rfl, st, dx, tx', tdx, er', lf, rfl⟩
         refine ⟨rfl, _, (.skip (.skip (.skip .hit))), ?_⟩
         refine dG aC (by decide) fun G => ⟨_, (.skip (.skip (.skip (.skip .hit)))), ?_⟩
         refine uf (objs' := oS st dx tx' tdx er' T SS0 [(tk, .inst 762 kdx (uk st 304 tk lf .none))] ++ [(G, .list []), (D, .list ((aZ T 0).map (dc T))), (L + 1, .cell (some (.lst (aU T T.length))))]) (rest := []) (by rw [List.append_nil]; exact (List.perm_middle (l₁ := [_, _, _, _])).symm) ?_
         refine oj (m := 6) (YJt st dx tx' tdx er' tk kdx lf T mQ) (RJt st dx tx' tdx er' tk kdx lf T (On T T.length)) ((aZ T 0).map (dc T)) (fun i => iE ns (some (.str T)) (some (.ref D)) (some (.ref tk)) (some (.ref G)) (yn T i))
          (fun i => [(G, .list (((aZ T 0).map (dc T)).take i)), (D, .list ((aZ T 0).map (dc T))), (L + 1, .cell (some (.lst (aU T T.length))))]) (lB0 rfl) (a9 (.tail _ (.tail _ (.tail _ (.head _))))) (sJ hB (fun _ _ _ => rfl) (fun qa => o9 hB hT (4 * (T.length - 0) + 1) .data 0 [] SS0 .none [] [] 0 (.inr ⟨rfl, rfl, rfl⟩) trivial (by simp) (Nat.zero_le _) (fun h => nomatch h))) ?_ ?_
         · intro i x d gobjs a p hx z9; refine x62 z9 ?_; clear z9; rintro qa q f cur ks rest' hg rfl
           obtain ⟨e, he, rfl⟩ : ∃ e, (aZ T 0)[i]? = some e ∧ x = dc T e := by
            rw [List.getElem?_map] at hx
            cases h : (aZ T 0)[i]? with
            | none => rw [h] at hx; contradiction
            | some e => rw [h] at hx; exact ⟨e, rfl, (Option.some.inj hx).symm⟩
           have hg' : AV.tup [bg T e.1, e.2] = .tup [jc q, d] := hg
           injection hg' with h1
           injection h1 with h1 h2
           injection h2 with h2 _
           subst h2
           have hp := vv (B := B) hB (dx := dx) (tx := tx') (tdx := tdx) (er := er') (st := st) (t := T) h1.symm [(a, .is p), (G, .list (((aZ T 0).map (dc T)).take i)), (D, .list ((aZ T 0).map (dc T))), (L + 1, .cell (some (.lst (aU T T.length))))] (tkO st f tk kdx lf qa cur :: (qa, .list ks) :: rest')
           have htk : (((aZ T 0).map (dc T)).take (i + 1)) = ((aZ T 0).map (dc T)).take i ++ [.tup [bg T e.1, e.2]] := by
            rw [List.take_add_one, List.getElem?_map, he]; rfl
           have hte : yn T (i + 1) = some e.2 := by unfold yn; rw [if_neg (Nat.succ_ne_zero i), Nat.add_sub_cancel, List.getD_eq_getElem?_getD, he]; rfl
           have hsz : (((aZ T 0).map (dc T)).take i).length ≤ 16777000 := by rw [List.length_take, List.length_map]; omega
           refine ⟨⟨iE ns (some (.str T)) (some (.ref D)) (some (.ref tk)) (some (.ref G)) (some e.2), (a, .is p) :: (G, .list (((aZ T 0).map (dc T)).take i)) :: (D, .list ((aZ T 0).map (dc T))) :: (L + 1, .cell (some (.lst (aU T T.length)))) :: tS st dx tx' tdx er' tk kdx lf qa T q f cur ks rest'⟩, bN (bH (.skip (.skip (.skip (.skip (.skip .hit)))))), ?_⟩
           rw [htk, hte]
           clear hx he hg htk hte h1 hT h12 hPl hlen hrl hml hN hns
           generalize ((aZ T 0).map (dc T)).take i = gl at hp hsz ⊢
           generalize (aZ T 0).map (dc T) = dl at hp ⊢
           generalize bg T e.1 = mk at hp ⊢
           generalize e.2 = tk' at hp ⊢
           generalize aU T T.length = ml at hp ⊢
           exact ar [tk, st, tx', er', qa, G, D, L + 1, a] ⟨[("script", some (.av (.obj (dj ns)))), ("text", some (.av (.str T))), ("due", some (.slot 6)), ("tokenizer", some (.slot 0)), ("got", some (.slot 5)), ("token", some (.av tk'))], (8, .ao (.is p)) :: (5, .list gl []) :: (6, .list dl []) :: (7, .cell (some (.av (.lst ml)))) :: dTS dx tdx kdx lf T q f (.av cur) ks [] [], rest'⟩ ⟨[("script", some (.av (.obj (dj ns)))), ("text", some (.av (.str T))), ("due", some (.slot 6)), ("tokenizer", some (.slot 0)), ("got", some (.slot 5)), ("token", some (.av tk'))], (8, .ao (.is p)) :: (5, .list gl [.av (.tup [mk, tk'])]) :: (6, .list dl []) :: (7, .cell (some (.av (.lst ml)))) :: dTS dx tdx kdx lf T q f (.av cur) ks [] [], rest'⟩ [.call 0 (.av mk) ((8, .ao (.is p)) :: (5, .list gl []) :: (6, .list dl []) :: (7, .cell (some (.av (.lst ml)))) :: dTS dx tdx kdx lf T q f (.av cur) ks [] []) rest' 2] .next (pxc (cl := [("marks", 7)]) hB (n5 (by kernel_rfl) rfl)) (_root_.Mine.qa (_root_.Mine.qa trivial hp) (nK hsz))
         · intro _ z9; refine x62 z9 ?_; clear z9; rintro qa q f cur ks rest' hq rfl
           rw [List.take_length]
           have hp := vv (B := B) hB (dx := dx) (tx := tx') (tdx := tdx) (er := er') (st := st) (t := T) (On.pos hq) [(G, .list ((aZ T 0).map (dc T))), (D, .list ((aZ T 0).map (dc T))), (L + 1, .cell (some (.lst (aU T T.length))))] (tkO st f tk kdx lf qa cur :: (qa, .list ks) :: rest')
           have hf := rf (T := T)
           have hmg := il (T := T) (Nat.le_refl T.length)
           have hmz : (aU T T.length).length ≤ 16777000 := by rw [hml]; exact Nat.lt_of_le_of_lt ‹_› (lB0 rfl)
           have hz : T.length ≤ 16777216 := by exact nT0 ‹_› (lB0 rfl)
           clear hT h12 hPl hrl hml hN hns hq
           refine je (loc' := iE ns (some (.str T)) (some (.ref D)) (some (.ref tk)) (some (.ref G)) none) ?_ sM uA
           generalize (aZ T 0).map (dc T) = dl at hp hf ⊢
           generalize aU T T.length = ml at hp hmg hmz ⊢
           refine bQ (gy (gE (uV (nr (qH (a9 (.tail _ (.tail _ (.tail _ (.tail _ (.head _)))))) (a9 (.tail _ (.tail _ (.head _)))) (ry (l := dl) (.head _) (.tail _ (.head _)) hf)) (mZ (qH (jd (d := (.tup [.int ((T.take T.length).count 10 + 1), .int (c7 0 (T.take T.length))])) [tk, st, tx', er', qa, G, D, L + 1] ⟨[("script", some (.av (.obj (dj ns)))), ("text", some (.av (.str T))), ("due", some (.slot 6)), ("tokenizer", some (.slot 0)), ("got", some (.slot 5)), ("token", none)], (5, .list dl []) :: (6, .list dl []) :: (7, .cell (some (.av (.lst ml)))) :: dTS dx tdx kdx lf T q f (.av cur) ks [] [], rest'⟩ ⟨[("script", some (.av (.obj (dj ns)))), ("text", some (.av (.str T))), ("due", some (.slot 6)), ("tokenizer", some (.slot 0)), ("got", some (.slot 5)), ("token", none)], (5, .list dl []) :: (6, .list dl []) :: (7, .cell (some (.av (.lst ml)))) :: dTS dx tdx kdx lf T q f (.av cur) ks [] [], rest'⟩ [.call 0 (.av (.tup [.int ((T.take T.length).count 10 + 1), .int (c7 0 (T.take T.length))])) ((5, .list dl []) :: (6, .list dl []) :: (7, .cell (some (.av (.lst ml)))) :: dTS dx tdx kdx lf T q f (.av cur) ks [] []) rest' 2] (.av (.tup [.int ((T.take T.length).count 10 + 1), .int (c7 0 (T.take T.length))])) (pxc (cl := [("marks", 7)]) hB (n5 (by kernel_rfl) rfl)) (_root_.Mine.qa trivial hp)) (f4 (fg rfl (.tail _ (.tail _ (.head _)))) (de (bx PyProof.Rows.Boot.«len» (by rw [hB.K]; kernel_rfl)) dU (aq (a9 (.tail _ (.head _))) aC) (fo hz)) (qw (k := T.length) hmg hmz)) (qy (i := (T.take T.length).count 10 + 1) (j := c7 0 (T.take T.length)) (k := (T.take T.length).count 10 + 1) (m := c7 0 (T.take T.length))))))))) ⟨_, rfl, ?_⟩
           simp
 · intro x d hm
   simp at hm
   obtain ⟨rfl, rfl⟩ := hm
   exact ⟨by kernel_rfl, by simp⟩
 · exact aP (by kernel_rfl)
 · intro L; rfl
 · exact aP (by kernel_rfl)
 · intro x d hm
   simp at hm
   obtain ⟨rfl, rfl⟩ := hm
   exact ⟨by kernel_rfl, by show ¬ (("marks" : Str) ∈ (["script"] : List Str)); decide⟩
 · decide
 · intro x hx
   simp at hx
   subst hx
   exact .inl (by kernel_rfl)
end
section
theorem cw3 (h : iV) : PySem.Challenge.rw_te0034_03.Holds := sN fun d kwd hdn => (by
 intro w s₀ s₁ mg mb G Y fa o pm cd doc dV kV ho hdd hcd hD hmg hg args vals as hpre hlay hrd hwl hlo
 have KX := kIn_of Y
 refine Ground.open G ?_
 intro T B D TE TW
 wrow_args hpre hlay hrd hwl hlo
 refine enter_call ?_
 refine tT (n := 12) (fl := 819) KX hmg T.g T.b T.builtins T.nolimit (by refine hdn ▸ ?_; kernel_rfl) ‹_› ‹_› hg (by decide) (fun B e1 e2 e3 => ?_) fun s' hk hos hb => ?_
 · refine h B ⟨by rw [e3, ← e2]⟩ _ ?_
   omega
 · refine ⟨.inl ⟨_, _, [], rfl, fun _ => rfl, ReadsW.bool true, ?_, fun _ => ⟨List.nodup_nil, fun _ hm => (nomatch hm)⟩⟩, .of_keep hk, hos, hb⟩
   first | rfl | wrow_post)
theorem B9 : PySem.Challenge.rw_te0034_03.Holds := cw3 zy
end
end Mine

theorem PySem.Challenge.cw_te0034_03_holds : PySem.Challenge.rw_te0034_03.Holds := by
 exact Mine.B9
