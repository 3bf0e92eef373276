import PyProof.Rows.All
import Wide.All
import OpenK.AllK
import Wide.FinOn
import KE.KEqDict
import Lean
import PySem.Challenge.RW_te0034_04
open PySem PySem.W PySem.Calls PyProof.Rows
set_option Elab.async false
set_option maxRecDepth 100000
set_option maxHeartbeats 8000000
set_option linter.all false
set_option compiler.extract_closed false
set_option genSizeOf false
namespace Mine
theorem lB0 {a b:Nat} (h:Nat.ble a b=true):a≤b:=Nat.le_of_ble_eq_true h
theorem nT0 {a b c:Nat} (h:a≤b) (k:b≤c):a≤c:=Nat.le_trans h k
theorem mC0 {α:Type u} {a b:α} {l:List α} (h:a∈b::l):a=b∨a∈l:=List.mem_cons.mp h
theorem nL0 {a b c:Nat} (h:a < b) (k:b≤c):a < c:=Nat.lt_of_lt_of_le h k
def kB (l:Array Lean.Syntax):Lean.Syntax:=.node .none `Lean.Parser.Tactic.tacticSeq #[.node .none `Lean.Parser.Tactic.tacticSeq1Indented #[.node .none `null l]]
def A0:Lean.Syntax:=.node .none `Lean.Parser.Tactic.tacticRfl #[.atom .none "rfl"]
def rX:Lean.Syntax:=.node .none `Lean.Parser.Term.hole #[.atom .none "_"]
def sIn (l:Array Lean.Syntax):Lean.Syntax:=.node .none `Lean.Parser.Tactic.intro #[.atom .none "intro",.node .none `null l]
def bR:Lean.Syntax:=kB #[A0]
def bK:Lean.Syntax:=kB #[.node .none `tacticKernel_rfl #[.atom .none "kernel_rfl"]]
def bW:Lean.Syntax:=kB #[.node .none `Lean.Parser.Tactic.withUnfoldingAll #[.atom .none "with_unfolding_all",bR]]
def bI:Lean.Syntax:=kB #[sIn #[rX],.atom .none ";",A0]
def bJ:Lean.Syntax:=kB #[sIn #[rX,rX],.atom .none ";",A0]
section
variable {α:Type} {p:Program}
noncomputable section
theorem kx (t:Thread):through t=(endAt 0 t).isSome:=by
 cases t with
 | mk cur code pos st=>
  induction st using List.casesOn with
  | cons fr st=>rfl
  | nil=>
   cases cur with
   | pure x=>rcases x with _ | _<;>rfl
   | _=>rfl
noncomputable abbrev oE:=Flow×Shared×PySem.Code×PySem.Pos
noncomputable abbrev sA (X:Option oE) (o:Option Flow) (t:Thread) (s:Shared):Option oE:=Option.casesOn o X fun f=>some (f,s,t.code,t.pos)
noncomputable abbrev sW (Y:Option Shared) (b:Bool) (s:Shared):Option Shared:=Bool.casesOn b Y (some s)
noncomputable abbrev vU (k:Bool) (X:Option α):Option α:=Bool.casesOn k none X
noncomputable abbrev vF (x:Step) (S:Shared→Thread→Option α):Option α:=Step.casesOn x S fun _ _=>none
theorem p7 {o:Option Flow} {b k:Bool} {x:Step} {S:Shared→Thread→Option oE} {T:Shared→Thread→Option Shared} {t:Thread} {s:Shared} {r:oE} (e:b=o.isSome) (ih:∀ s t,S s t=some r→T s t=some r.2.1):
 sA (vU k (vF x S)) o t s=some r→sW (vU k (vF x T)) b s=some r.2.1:=by
 subst e
 induction o using Option.casesOn with
 | some g=>exact fun h=>congrArg (fun z:oE=>some z.2.1) (Option.some.inj h)
 | none=>
  induction k using Bool.casesOn with
  | false=>exact nofun
  | true=>
   induction x using Step.casesOn with
   | halt=>exact nofun
   | go s t=>exact ih s t
theorem lw {tb:String→Option Builtin} {w:World} {n₀:Nat} {ann:Option Value} {r:oE} (n:Nat):∀ (s:Shared) (t:Thread),segRun tb p w n₀ ann 0 n s t=some r→topRun tb p w n₀ ann n s t=some r.2.1:=by
 induction n with
 | zero=>exact fun _ _ h=>nomatch h
 | succ n ih=>
  intro s t
  exact Eq.mp (by kernel_rfl) (p7 (o:=endAt 0 t) (b:=through t) (k:=stepOk n₀ ann t) (x:=step (denote tb) p w s t) (s:=s) (t:=t) (kx t) ih)
noncomputable def jW (P:Params):BT:=
 .node (boot_o_0 P) (.node (boot_o_1 P) (.node (boot_o_3 P) (.node (boot_o_7 P) .nil .nil) .nil) (.node (boot_o_5 P) (.node (boot_o_9 P) .nil .nil) .nil))
  (.node (boot_o_2 P) (.node (boot_o_4 P) (.node (boot_o_8 P) .nil .nil) .nil) (.node (boot_o_6 P) (.node (boot_o_10 P) .nil .nil) .nil))
theorem rC (P:Params):absHeap (jW P) 11 {}=boot_heap P:=by kernel_rfl
noncomputable abbrev kZ (w:World) (os:OsState):SharedT:=⟨jW w.params,11,{},#[],boot_drawn,boot_toks,os⟩
noncomputable def fY (p q:Program) (loose:List Str) (Xt:Shared→Bool) (Yf:Shared→α) (P:Params) (s:Shared):=
 ((staticsOk (importedModules p.main.body) (boot_heap P) s.heap&&namesBound p s.heap&&gensDone s&&laidKept (boot_heap P) s.heap),openSeen q loose (importedModules p.main.body) Xt true s,Yf s)
noncomputable abbrev oY (p:Program) (s s':Shared):Bool:=staticsOk (importedModules p.main.body) s.heap s'.heap&&namesBound p s'.heap&&gensDone s'&&laidKept s.heap s'.heap
noncomputable abbrev Be (s':Shared) (b:Bool):Option Shared:=Bool.casesOn b none (some s')
noncomputable abbrev vJ (p:Program) (s:Shared) (o:Option Shared):Option Shared:=o.bind fun s'=>Be s' (oY p s s')
noncomputable abbrev Bc (p:Program) (w:World) (N:Nat) (s:Shared) (z:Bool×Nat×Option Value):Option Shared:=Bool.casesOn z.1 none (vJ p s (topRun treeTable p w z.2.1 z.2.2 N s (topStub p)))
theorem sj {w:World} {N:Nat} {s s':Shared} {z:Nat×Option Value} (e:(s.heap.isNs mainGlobals&&s.gens.size==0,s.heap.objs.size,s.heap.nsMap mainGlobals "__annotations__")=(true,z)) (r:topRun treeTable p w z.1 z.2 N s (topStub p)=some s') (l:oY p s s'=true):topFrom treeTable p w N s=some s':=
 Eq.trans (by kernel_rfl) ((congrArg (Bc p w N s) e).trans ((congrArg (vJ p s) r).trans (congrArg (Be s') l)))
theorem sY {q:Program} {loose:List Str} {Xt:Shared→Bool} {Yf:Shared→α} {Ya:World→α} {N M:Nat} {ann:Option Value}
 (e:opening p=plainProg p.main.scope.names) (hN:Nat.ble 600 N=true) (f:∀ s,fenceModules? p s=some s)
 (size:∀ w:World,((boot_heap w.params).isNs mainGlobals&&(#[]:Array GenState).size==0,(boot_heap w.params).objs.size,(boot_heap w.params).nsMap mainGlobals "__annotations__")=(true,11,ann))
 (run:∀ w:World,(fun os=>(segRunT treeTable p w 11 ann 0 M (kZ w os) (topStub p)).map fun r=>fY p q loose Xt Yf w.params r.2.1.abs)=fun _=>some (true,openGood q loose,Ya w))
 (le:Nat.ble M N=true):LeftO p q loose Xt Yf Ya N:=fun w=>by
 obtain ⟨s,e,e'⟩:=Option.map_eq_some_iff.mp (boot_open e hN f w)
 have es:s=⟨boot_heap w.params,#[],boot_drawn,boot_toks,s.os⟩:=congrArg (fun z=>Shared.mk z.1 z.2.1 z.2.2.1 z.2.2.2 s.os) e'
 obtain ⟨r,hr,hl⟩:=Option.map_eq_some_iff.mp (congrFun (run w) s.os)
 have r1:=topRun_mono (N - M) _ _ _ _ (lw _ _ _ (segRun_of hr))
 have r2:=(congr (congrArg (fun n s=>topRun treeTable p w 11 ann n s (topStub p)) (Nat.add_sub_of_le (lB0 le)).symm) (es.trans (congrArg (fun h=>Shared.mk h #[] boot_drawn boot_toks s.os) (rC w.params).symm))).trans r1
 have t:=sj (p:=p) (z:=(11,ann)) ((congrArg (fun s:Shared=>(s.heap.isNs mainGlobals&&s.gens.size==0,s.heap.objs.size,s.heap.nsMap mainGlobals "__annotations__")) es).trans (size w)) r2 ((congrArg (fun s':Shared=>oY p s' r.2.1.abs) es).trans (congrArg Prod.fst hl))
 exact (congrArg (Option.map _) ((congrArg (fun z:Option Shared=>z.bind (topFrom treeTable p w N)) e).trans t)).trans (congrArg (fun z=>some z.2) hl:some (fY p q loose Xt Yf w.params r.2.1.abs).2= _)
end
end
section
noncomputable section
noncomputable abbrev pw:Program:=PySem.Challenge.pw_te0034_04
noncomputable abbrev rw1:OpenLaw:=PySem.Challenge.rw_te0034_04
noncomputable def fZ (i:Nat):Stmt:=pw.main.body.getD i (.Pass default)
noncomputable def jD (s:Stmt):List Stmt:=by
 cases s with
 | FunctionDef _ _ b=>exact b
 | ClassDef _ _ _ b=>exact b
 | _=>exact []
noncomputable def zC (s:Stmt):Arguments:=by
 cases s with
 | FunctionDef _ a=>exact a
 | _=>exact ⟨[],[],none,[],[],none,[]⟩
noncomputable def jw (s:Stmt):Scope:=by
 cases s with
 | FunctionDef _ _ _ _ _ _ c=>exact c
 | _=>exact default
noncomputable def bA (i j:Nat):Stmt:=(jD (fZ i)).getD j (.Pass default)
noncomputable def Ap:Stmt:=fZ 7
noncomputable def BZ:Stmt:=bA 13 0
noncomputable def Cn:Stmt:=bA 13 1
noncomputable def CP:Stmt:=fZ 14
noncomputable def AQ:Stmt:=bA 15 1
noncomputable def x7:Stmt:=bA 15 2
noncomputable def yI:Stmt:=bA 15 3
noncomputable def yP:Stmt:=bA 15 4
noncomputable def zF:Stmt:=bA 15 5
noncomputable def yD:Stmt:=bA 15 6
noncomputable def lG:Stmt:=bA 15 7
noncomputable def zB:Stmt:=bA 15 8
noncomputable def yt:Stmt:=bA 15 9
noncomputable def wK:Stmt:=bA 15 10
noncomputable def xf:Stmt:=bA 21 0
noncomputable def wB:Stmt:=bA 21 1
noncomputable def xd:Stmt:=bA 21 5
noncomputable def yo:Stmt:=bA 21 6
noncomputable def zP:Stmt:=bA 21 13
noncomputable def xZ:Stmt:=bA 21 14
noncomputable def A5:Stmt:=bA 21 15
noncomputable def xK:Stmt:=bA 21 39
noncomputable def mq:Stmt:=bA 21 40
noncomputable def wE:Stmt:=bA 21 41
noncomputable def x4:Stmt:=bA 21 42
noncomputable def xl:Stmt:=bA 21 43
noncomputable def xg:Stmt:=bA 21 44
noncomputable def Ab:Stmt:=bA 21 45
noncomputable def yA:Stmt:=bA 21 46
noncomputable def xB:Stmt:=bA 21 47
noncomputable def wY:Stmt:=bA 21 48
noncomputable def zh:Stmt:=bA 21 49
noncomputable def zs:Stmt:=bA 21 50
noncomputable def yT:Stmt:=bA 21 51
noncomputable def A2:Stmt:=bA 21 52
noncomputable def wG:Stmt:=bA 21 53
noncomputable def zq:Stmt:=bA 21 54
noncomputable def yf:Stmt:=bA 21 55
noncomputable def z8:Stmt:=fZ 23
noncomputable def yu:Stmt:=fZ 24
noncomputable def A6:Stmt:=fZ 25
noncomputable def yX:Stmt:=fZ 26
noncomputable def z7:Stmt:=fZ 27
noncomputable def yb:Stmt:=fZ 29
noncomputable def yO:Stmt:=fZ 30
noncomputable def zp:Stmt:=fZ 31
noncomputable def y8:Stmt:=fZ 32
noncomputable def ze:Stmt:=fZ 33
noncomputable def sv1 (s:String) (t:Nat):Value:=.str (Str.ofString s) t
noncomputable def en1 (P:Params) (s:String) (t:Nat) (v:Value):DictEntry:=⟨PyData.keyHash P (Str.ofString s),.str (Str.ofString s) t,v⟩
noncomputable abbrev od1 (l:List DictEntry) (n:Nat):Obj:={ cls:=.type "dict",dict:=none,data:=.dict l.toArray n,slots:=#[] }
noncomputable abbrev os1 (k:String) (l:List Value):Obj:={ cls:=.type k,dict:=none,data:=.seq l.toArray 0,slots:=#[] }
noncomputable def iv1 (n:Nat):Value:=.int n 0
noncomputable def oc1 (nm qn:String) (t ln ac fl:Nat) (r1 r2 r3 r4 r5 r6:Value) (x:Nat):Obj:={ cls:=.type "code",dict:=none,data:=.fields #[sv1 nm t,sv1 qn (t+1),sv1 "/claim/cut.py" (t+2),iv1 ln,iv1 ac,iv1 0,iv1 0,iv1 fl,r1,.bool true,iv1 181,r2,r3,r4,r5,r6,iv1 x,iv1 ln,sv1 "/claim/cut.py" (x+1)],slots:=#[] }
noncomputable def of1 (st:Stmt) (nm qn:String) (df md:Value) (c:Addr):Obj:={ cls:=.type "function",dict:=none,data:=.func { name:=Str.ofString nm,qualname:=Str.ofString qn,params:=zC st,body:=.stmts (jD st),scope:=jw st,globals:=3,closure:=[],defaults:=df,kwdefaults:=.none,doc:=.none,pyModule:=md,annotations:=none,code:=.ref c,closureTuple:=.none,builtins:=0 },slots:=#[] }
noncomputable def fn1 (a:Addr) (st:Stmt) (nm qn:String) (t ln ac fl x:Nat) (df md:Value) (r:Frag):Frag:=(a,oc1 nm qn t ln ac fl (.ref (a - 5)) (.ref (a - 4)) .none (.ref (a - 3)) (.ref (a - 2)) (.ref (a - 1)) x)::(a+1,of1 st nm qn df md a)::r
noncomputable def ot1 (a ns m t1 t2:Addr) (nm:String):Obj:={ cls:=.type "type",dict:=none,data:=.cls { name:=Str.ofString nm,bases:=[.type "object"],mro:=[.ref a,.type "object"],ns:=ns,qualname:=Str.ofString nm,hasDict:=true,slotNames:=[],subclasses:=[],abstract:=false,collection:=none,hasDel:=false },slots:=#[some (.ref m),none,some (sv1 nm t1),some (sv1 nm t2),some (.builtin "object.__new__"),some (.bool true)] }
noncomputable def md0:Value:=sv1 "html5lib.constants" 194
noncomputable def md1:Value:=sv1 "html5lib._inputstream" 564
noncomputable def md2:Value:=sv1 "html5lib._tokenizer" 827
noncomputable def md3:Value:=sv1 "law_te0034_04" 1444
noncomputable def dR (P:Params):Frag:=
 (3,od1 [en1 P "__name__" 165 (sv1 "law_te0034_04" 1444),en1 P "__doc__" 166 .none,en1 P "__package__" 167 .none,en1 P "__loader__" 168 (.builtin "__main__.__loader__#opaque"),en1 P "__spec__" 169 .none,en1 P "__annotations__" 170 (.ref 6),en1 P "__builtins__" 171 (.ref 4),en1 P "__file__" 173 (sv1 "/claim/cut.py" 172),en1 P "__cached__" 174 .none,en1 P "_wall" 193 (.ref 21),en1 P "EOF" 196 .none,en1 P "spaceCharacters" 202 (.ref 22),en1 P "asciiLetters" 256 (.ref 27),en1 P "digits" 268 (.ref 32),en1 P "hexDigits" 292 (.ref 37),en1 P "asciiLower" 298 (.ref 42),en1 P "entities" 428 (.ref 43),en1 P "replacementCharacters" 531 (.ref 46),en1 P "tokenTypes" 556 (.ref 48),en1 P "tagTokenTypes" 563 (.ref 49),en1 P "Text" 604 (.ref 73),en1 P "_is_invalid" 611 (.ref 84),en1 P "HTMLUnicodeInputStream" 737 (.ref 166),en1 P "bisect_left" 751 (.ref 178),en1 P "Trie" 826 (.ref 230),en1 P "entitiesTrie" 843 (.ref 236),en1 P "HTMLTokenizer" 1443 (.ref 762),en1 P "_law_fault" 1453 (.ref 773),en1 P "_law_start" 1463 (.ref 780),en1 P "_law_close" 1472 (.ref 787),en1 P "_law_note" 1480 (.ref 794),en1 P "_law_said" 1489 (.ref 801),en1 P "_law_BLANK" 1491 (sv1 " \n\t" 1490),en1 P "_law_units" 1497 (.ref 808),en1 P "_law_marks" 1508 (.ref 815),en1 P "_law_plain" 1518 (.ref 822),en1 P "_law_more" 1524 (.ref 827),en1 P "law" 1530 (.ref 832)] 38)::
 (22,os1 "tuple" [sv1 "\t" 197,sv1 "\n" 198,sv1 "\x0c" 199,sv1 " " 200,sv1 "\r" 201])::
 (27,os1 "tuple" [sv1 "a" 204,sv1 "b" 205,sv1 "c" 206,sv1 "d" 207,sv1 "e" 208,sv1 "f" 209,sv1 "g" 210,sv1 "h" 211,sv1 "i" 212,sv1 "j" 213,sv1 "k" 214,sv1 "l" 215,sv1 "m" 216,sv1 "n" 217,sv1 "o" 218,sv1 "p" 219,sv1 "q" 220,sv1 "r" 221,sv1 "s" 222,sv1 "t" 223,sv1 "u" 224,sv1 "v" 225,sv1 "w" 226,sv1 "x" 227,sv1 "y" 228,sv1 "z" 229,sv1 "A" 230,sv1 "B" 231,sv1 "C" 232,sv1 "D" 233,sv1 "E" 234,sv1 "F" 235,sv1 "G" 236,sv1 "H" 237,sv1 "I" 238,sv1 "J" 239,sv1 "K" 240,sv1 "L" 241,sv1 "M" 242,sv1 "N" 243,sv1 "O" 244,sv1 "P" 245,sv1 "Q" 246,sv1 "R" 247,sv1 "S" 248,sv1 "T" 249,sv1 "U" 250,sv1 "V" 251,sv1 "W" 252,sv1 "X" 253,sv1 "Y" 254,sv1 "Z" 255])::
 (41,oc1 "asciiLower" "asciiLower" 293 10 1 3 (.ref 38) (.ref 39) .none .none .none (.ref 40) 296)::
 (42,of1 Ap "asciiLower" "asciiLower" .none md0 41)::
 (48,od1 [en1 P "Doctype" 532 (.int 0 533),en1 P "Characters" 534 (.int 1 535),en1 P "SpaceCharacters" 536 (.int 2 537),en1 P "StartTag" 538 (.int 3 539),en1 P "EndTag" 540 (.int 4 541),en1 P "EmptyTag" 542 (.int 5 543),en1 P "Comment" 544 (.int 6 545),en1 P "ParseError" 546 (.int 7 547)] 8)::
 (49,os1 "tuple" [.int 3 539,.int 4 541,.int 5 543])::
 fn1 62 BZ "__init__" "Text.__init__" 578 19 2 3 583 .none md1 (
 fn1 69 Cn "read" "Text.read" 586 23 2 3 592 .none md1 (
 (72,od1 [en1 P "__module__" 573 (sv1 "html5lib._inputstream" 564),en1 P "__firstlineno__" 577 (.int 17 576),en1 P "__init__" 585 (.ref 63),en1 P "read" 594 (.ref 70),en1 P "__static_attributes__" 597 (.ref 71),en1 P "__dict__" 599 (.ref 74),en1 P "__weakref__" 601 (.ref 75),en1 P "__doc__" 602 .none] 4)::
 (73,ot1 73 72 50 566 574 "Text")::
 fn1 83 CP "_is_invalid" "_is_invalid" 605 27 1 3 609 .none md1 (
 fn1 97 AQ "__init__" "HTMLUnicodeInputStream.__init__" 626 32 2 3 631 .none md1 (
 fn1 104 x7 "reset" "HTMLUnicodeInputStream.reset" 634 38 1 3 638 .none md1 (
 fn1 111 yI "openStream" "HTMLUnicodeInputStream.openStream" 641 47 2 3 647 .none md1 (
 fn1 118 yP "_position" "HTMLUnicodeInputStream._position" 650 51 2 3 660 .none md1 (
 fn1 125 zF "position" "HTMLUnicodeInputStream.position" 663 62 1 3 669 .none md1 (
 fn1 132 yD "char" "HTMLUnicodeInputStream.char" 672 66 1 3 678 .none md1 (
 (134,os1 "tuple" [.none])::
 fn1 140 lG "readChunk" "HTMLUnicodeInputStream.readChunk" 681 75 2 3 688 (.ref 134) md1 (
 fn1 147 zB "characterErrorsUCS4" "HTMLUnicodeInputStream.characterErrorsUCS4" 691 101 2 3 697 .none md1 (
 (149,os1 "tuple" [.bool false])::
 fn1 155 yt "charsUntil" "HTMLUnicodeInputStream.charsUntil" 700 106 3 3 709 (.ref 149) md1 (
 fn1 162 wK "unget" "HTMLUnicodeInputStream.unget" 712 125 2 3 717 .none md1 (
 (165,od1 [en1 P "__module__" 619 (sv1 "html5lib._inputstream" 564),en1 P "__firstlineno__" 623 (.int 29 622),en1 P "_defaultChunkSize" 625 (.int 10240 624),en1 P "__init__" 633 (.ref 98),en1 P "reset" 640 (.ref 105),en1 P "openStream" 649 (.ref 112),en1 P "_position" 662 (.ref 119),en1 P "position" 671 (.ref 126),en1 P "char" 680 (.ref 133),en1 P "readChunk" 690 (.ref 141),en1 P "characterErrorsUCS4" 699 (.ref 148),en1 P "charsUntil" 711 (.ref 156),en1 P "unget" 719 (.ref 163),en1 P "__static_attributes__" 730 (.ref 164),en1 P "__dict__" 732 (.ref 167),en1 P "__weakref__" 734 (.ref 168),en1 P "__doc__" 735 .none] 4)::
 (166,ot1 166 165 85 612 620 "HTMLUnicodeInputStream")::
 (254,os1 "tuple" [.none])::
 fn1 260 xf "__init__" "HTMLTokenizer.__init__" 856 184 3 3 862 (.ref 254) md2 (
 fn1 267 wB "__iter__" "HTMLTokenizer.__iter__" 865 193 1 35 869 .none md2 (
 fn1 296 xd "emitCurrentToken" "HTMLTokenizer.emitCurrentToken" 910 286 1 3 917 .none md2 (
 fn1 303 yo "dataState" "HTMLTokenizer.dataState" 920 304 1 3 926 .none md2 (
 fn1 352 zP "tagOpenState" "HTMLTokenizer.tagOpenState" 971 342 1 3 976 .none md2 (
 fn1 359 xZ "closeTagOpenState" "HTMLTokenizer.closeTagOpenState" 979 366 1 3 984 .none md2 (
 fn1 366 A5 "tagNameState" "HTMLTokenizer.tagNameState" 987 384 1 3 992 .none md2 (
 fn1 534 xK "beforeAttributeNameState" "HTMLTokenizer.beforeAttributeNameState" 1156 471 1 3 1161 .none md2 (
 fn1 541 mq "attributeNameState" "HTMLTokenizer.attributeNameState" 1164 498 1 3 1173 .none md2 (
 fn1 548 wE "afterAttributeNameState" "HTMLTokenizer.afterAttributeNameState" 1176 537 1 3 1181 .none md2 (
 fn1 555 x4 "beforeAttributeValueState" "HTMLTokenizer.beforeAttributeValueState" 1184 566 1 3 1189 .none md2 (
 fn1 562 xl "attributeValueDoubleQuotedState" "HTMLTokenizer.attributeValueDoubleQuotedState" 1192 596 1 3 1197 .none md2 (
 fn1 569 xg "attributeValueSingleQuotedState" "HTMLTokenizer.attributeValueSingleQuotedState" 1200 612 1 3 1205 .none md2 (
 fn1 576 Ab "attributeValueUnQuotedState" "HTMLTokenizer.attributeValueUnQuotedState" 1208 628 1 3 1213 .none md2 (
 fn1 583 yA "afterAttributeValueState" "HTMLTokenizer.afterAttributeValueState" 1216 649 1 3 1221 .none md2 (
 fn1 590 xB "selfClosingStartTagState" "HTMLTokenizer.selfClosingStartTagState" 1224 667 1 3 1229 .none md2 (
 fn1 597 wY "bogusCommentState" "HTMLTokenizer.bogusCommentState" 1232 682 1 3 1237 .none md2 (
 fn1 604 zh "markupDeclarationOpenState" "HTMLTokenizer.markupDeclarationOpenState" 1240 690 1 3 1247 .none md2 (
 fn1 611 zs "commentStartState" "HTMLTokenizer.commentStartState" 1250 715 1 3 1255 .none md2 (
 fn1 618 yT "commentStartDashState" "HTMLTokenizer.commentStartDashState" 1258 735 1 3 1263 .none md2 (
 fn1 625 A2 "commentState" "HTMLTokenizer.commentState" 1266 755 1 3 1271 .none md2 (
 fn1 632 wG "commentEndDashState" "HTMLTokenizer.commentEndDashState" 1274 770 1 3 1279 .none md2 (
 fn1 639 zq "commentEndState" "HTMLTokenizer.commentEndState" 1282 787 1 3 1287 .none md2 (
 fn1 646 yf "commentEndBangState" "HTMLTokenizer.commentEndBangState" 1290 812 1 3 1295 .none md2 (
 (761,od1 [en1 P "__module__" 851 (sv1 "html5lib._tokenizer" 827),en1 P "__firstlineno__" 855 (.int 182 854),en1 P "__init__" 864 (.ref 261),en1 P "__iter__" 871 (.ref 268),en1 P "consumeNumberEntity" 886 (.ref 275),en1 P "consumeEntity" 901 (.ref 283),en1 P "processEntityInAttribute" 909 (.ref 290),en1 P "emitCurrentToken" 919 (.ref 297),en1 P "dataState" 928 (.ref 304),en1 P "entityDataState" 935 (.ref 311),en1 P "rcdataState" 942 (.ref 318),en1 P "characterReferenceInRcdata" 949 (.ref 325),en1 P "rawtextState" 956 (.ref 332),en1 P "scriptDataState" 963 (.ref 339),en1 P "plaintextState" 970 (.ref 346),en1 P "tagOpenState" 978 (.ref 353),en1 P "closeTagOpenState" 986 (.ref 360),en1 P "tagNameState" 994 (.ref 367),en1 P "rcdataLessThanSignState" 1001 (.ref 374),en1 P "rcdataEndTagOpenState" 1008 (.ref 381),en1 P "rcdataEndTagNameState" 1015 (.ref 388),en1 P "rawtextLessThanSignState" 1022 (.ref 395),en1 P "rawtextEndTagOpenState" 1029 (.ref 402),en1 P "rawtextEndTagNameState" 1036 (.ref 409),en1 P "scriptDataLessThanSignState" 1043 (.ref 416),en1 P "scriptDataEndTagOpenState" 1050 (.ref 423),en1 P "scriptDataEndTagNameState" 1057 (.ref 430),en1 P "scriptDataEscapeStartState" 1064 (.ref 437),en1 P "scriptDataEscapeStartDashState" 1071 (.ref 444),en1 P "scriptDataEscapedState" 1078 (.ref 451),en1 P "scriptDataEscapedDashState" 1085 (.ref 458),en1 P "scriptDataEscapedDashDashState" 1092 (.ref 465),en1 P "scriptDataEscapedLessThanSignState" 1099 (.ref 472),en1 P "scriptDataEscapedEndTagOpenState" 1106 (.ref 479),en1 P "scriptDataEscapedEndTagNameState" 1113 (.ref 486),en1 P "scriptDataDoubleEscapeStartState" 1120 (.ref 493),en1 P "scriptDataDoubleEscapedState" 1127 (.ref 500),en1 P "scriptDataDoubleEscapedDashState" 1134 (.ref 507),en1 P "scriptDataDoubleEscapedDashDashState" 1141 (.ref 514),en1 P "scriptDataDoubleEscapedLessThanSignState" 1148 (.ref 521),en1 P "scriptDataDoubleEscapeEndState" 1155 (.ref 528),en1 P "beforeAttributeNameState" 1163 (.ref 535),en1 P "attributeNameState" 1175 (.ref 542),en1 P "afterAttributeNameState" 1183 (.ref 549),en1 P "beforeAttributeValueState" 1191 (.ref 556),en1 P "attributeValueDoubleQuotedState" 1199 (.ref 563),en1 P "attributeValueSingleQuotedState" 1207 (.ref 570),en1 P "attributeValueUnQuotedState" 1215 (.ref 577),en1 P "afterAttributeValueState" 1223 (.ref 584),en1 P "selfClosingStartTagState" 1231 (.ref 591),en1 P "bogusCommentState" 1239 (.ref 598),en1 P "markupDeclarationOpenState" 1249 (.ref 605),en1 P "commentStartState" 1257 (.ref 612),en1 P "commentStartDashState" 1265 (.ref 619),en1 P "commentState" 1273 (.ref 626),en1 P "commentEndDashState" 1281 (.ref 633),en1 P "commentEndState" 1289 (.ref 640),en1 P "commentEndBangState" 1297 (.ref 647),en1 P "doctypeState" 1305 (.ref 654),en1 P "beforeDoctypeNameState" 1313 (.ref 661),en1 P "doctypeNameState" 1321 (.ref 668),en1 P "afterDoctypeNameState" 1331 (.ref 675),en1 P "afterDoctypePublicKeywordState" 1339 (.ref 682),en1 P "beforeDoctypePublicIdentifierState" 1347 (.ref 689),en1 P "doctypePublicIdentifierDoubleQuotedState" 1355 (.ref 696),en1 P "doctypePublicIdentifierSingleQuotedState" 1363 (.ref 703),en1 P "afterDoctypePublicIdentifierState" 1371 (.ref 710),en1 P "betweenDoctypePublicAndSystemIdentifiersState" 1379 (.ref 717),en1 P "afterDoctypeSystemKeywordState" 1387 (.ref 724),en1 P "beforeDoctypeSystemIdentifierState" 1395 (.ref 731),en1 P "doctypeSystemIdentifierDoubleQuotedState" 1403 (.ref 738),en1 P "doctypeSystemIdentifierSingleQuotedState" 1411 (.ref 745),en1 P "afterDoctypeSystemIdentifierState" 1419 (.ref 752),en1 P "bogusDoctypeState" 1427 (.ref 759),en1 P "__static_attributes__" 1436 (.ref 760),en1 P "__dict__" 1438 (.ref 763),en1 P "__weakref__" 1440 (.ref 764),en1 P "__doc__" 1441 .none] 4)::
 (762,ot1 762 761 247 844 852 "HTMLTokenizer")::
 fn1 772 z8 "_law_fault" "_law_fault" 1446 1186 2 3 1451 .none md3 (
 fn1 779 yu "_law_start" "_law_start" 1454 1188 4 3 1461 .none md3 (
 fn1 786 A6 "_law_close" "_law_close" 1464 1190 3 3 1470 .none md3 (
 fn1 793 yX "_law_note" "_law_note" 1473 1192 2 3 1478 .none md3 (
 fn1 800 z7 "_law_said" "_law_said" 1481 1194 3 3 1487 .none md3 (
 fn1 807 yb "_law_units" "_law_units" 1492 1197 0 3 1495 .none md3 (
 fn1 814 yO "_law_marks" "_law_marks" 1498 1199 1 3 1506 .none md3 (
 fn1 821 zp "_law_plain" "_law_plain" 1509 1205 3 3 1516 .none md3 (
 (826,oc1 "_law_more" "_law_more" 1519 1213 1 3 (.ref 823) (.ref 824) .none .none .none (.ref 825) 1522)::
 (827,of1 y8 "_law_more" "_law_more" .none md3 826)::
 (831,oc1 "law" "law" 1525 1217 1 3 (.ref 828) (.ref 829) .none .none .none (.ref 830) 1528)::
 (832,of1 ze "law" "law" .none md3 831)::
 [])))))))))))))))))))))))))))))))))))))))))))))
noncomputable def vS:List Addr:=[3,22,27,41,42,48,49,62,63,69,70,72,73,83,84,97,98,104,105,111,112,118,119,125,126,132,133,134,140,141,147,148,149,155,156,162,163,165,166,254,260,261,267,268,296,297,303,304,352,353,359,360,366,367,534,535,541,542,548,549,555,556,562,563,569,570,576,577,583,584,590,591,597,598,604,605,611,612,618,619,625,626,632,633,639,640,646,647,761,762,772,773,779,780,786,787,793,794,800,801,807,808,814,815,821,822,826,827,831,832]
noncomputable def cX:List Str:=[Str.ofString "_wall",Str.ofString "EOF",Str.ofString "spaceCharacters",Str.ofString "asciiLetters",Str.ofString "digits",Str.ofString "hexDigits",Str.ofString "asciiLower",Str.ofString "entities",Str.ofString "replacementCharacters",Str.ofString "tokenTypes",Str.ofString "tagTokenTypes",Str.ofString "Text",Str.ofString "_is_invalid",Str.ofString "HTMLUnicodeInputStream",Str.ofString "bisect_left",Str.ofString "Trie",Str.ofString "entitiesTrie",Str.ofString "HTMLTokenizer",Str.ofString "_law_fault",Str.ofString "_law_start",Str.ofString "_law_close",Str.ofString "_law_note",Str.ofString "_law_said",Str.ofString "_law_BLANK",Str.ofString "_law_units",Str.ofString "_law_marks",Str.ofString "_law_plain",Str.ofString "_law_more"]
noncomputable def bp:Program:=PySem.W.view pw [33]
theorem Cc (P:Params):vS=(dR P).map (·.1):=by kernel_rfl
noncomputable def bb:Hook:=kHook dR vS Cc
noncomputable abbrev iP (s:Shared):Bool:=xlAt bp [] s&&recOk (RowW.records (OpenRow.toRowW rw1.row)) s
end
end
section
theorem Da (w:World):(fun os=>(PySem.W.Fast.tw10110043849684766642 PySem.W.Fast.tw14364793385576792824 pw (w.withFollow "special-get-raises" false) 11 (some (.ref 6)) 0 8541 (kZ (w.withFollow "special-get-raises" false) os) (topStub pw)).map fun r=>fY pw bp cX iP bb.obs (w.withFollow "special-get-raises" false).params r.2.1.abs)=fun _=>some (true,openGood bp cX,bb.val (w.withFollow "special-get-raises" false)):=by kernel_rfl
theorem BA (w:World):(fun os=>(PySem.W.Fast.tw10110043849684766642 PySem.W.Fast.tw14364793385576792824 pw (w.withFollow "special-get-raises" true) 11 (some (.ref 6)) 0 8541 (kZ (w.withFollow "special-get-raises" true) os) (topStub pw)).map fun r=>fY pw bp cX iP bb.obs (w.withFollow "special-get-raises" true).params r.2.1.abs)=fun _=>some (true,openGood bp cX,bb.val (w.withFollow "special-get-raises" true)):=by kernel_rfl
end
section
theorem yB:namesResolve pw=true:=by
 rw [PySem.W.Fast.te8377067652309620493];kernel_rfl
theorem xD:noRoadLSs { strict:= !(importedModules pw.main.body).all cThrough.contains,foot:=none,bare:=(["vars","dir","locals"]:List Str).filter (readsOut pw pw.main.body) } pw.main.body=true:=by
 rw [PySem.W.Fast.te8326940854005059898];kernel_rfl
theorem xI:(namesMeet pw pw.main.body fun _ n=>attrL n)=true:=by
 rw [PySem.W.Fast.te17119622794617984870];kernel_rfl
theorem AC:looksOpen rw1.row.prog=true:=by
 unfold looksOpen
 repeat' (with_reducible refine look_both ?_ ?_)
 · rw [PySem.W.Fast.te11788848310118352699];kernel_rfl
 · kernel_rfl
 · exact yB
 · rw [PySem.W.Fast.te18344453789297297638];kernel_rfl
 · exact xD
 · exact xI
theorem CT:rw1.wellSaid=true:=by
 unfold OpenLaw.wellSaid OpenRow.wellSaid OpenRow.partSaid
 repeat' (with_reducible first | exact AC | refine look_both ?_ ?_)
 all_goals first
  | (rw [PySem.W.Fast.te17119622794617984870];kernel_rfl)
  | (rw [PySem.W.Fast.te8326940854005059898];kernel_rfl)
  | (rw [PySem.W.Fast.te8179353310426384613];kernel_rfl)
  | (rw [PySem.W.Fast.te9558739934217749035];kernel_rfl)
  | (rw [PySem.W.Fast.te16286561074155671207];kernel_rfl)
  | (rw [PySem.W.Fast.te5318747976498570220];kernel_rfl)
  | (rw [PySem.W.Fast.te18344453789297297638];kernel_rfl)
  | (rw [PySem.W.Fast.te797321630700447069];kernel_rfl)
  | (rw [PySem.W.Fast.te10501279942588096481];kernel_rfl)
  | kernel_rfl
end
section
theorem sR (w:World):(fun os=>(segRunT treeTable pw w 11 (some (.ref 6)) 0 8541 (kZ w os) (topStub pw)).map fun r=>fY pw bp cX iP bb.obs w.params r.2.1.abs)=fun _=>some (true,openGood bp cX,bb.val w):=by
 rw [PySem.W.Fast.te10110043849684766642,PySem.W.Fast.te14364793385576792824]
 exact byRow2 "special-get-raises" (P:=fun w=>(fun os=>(PySem.W.Fast.tw10110043849684766642 PySem.W.Fast.tw14364793385576792824 pw w 11 (some (.ref 6)) 0 8541 (kZ w os) (topStub pw)).map fun r=>fY pw bp cX iP bb.obs w.params r.2.1.abs)=fun _=>some (true,openGood bp cX,bb.val w)) Da BA w
theorem At:opening pw=plainProg pw.main.scope.names:=by kernel_rfl
theorem yh (s:Shared):fenceModules? pw s=some s:=by kernel_rfl
theorem By (w:World):((boot_heap w.params).isNs mainGlobals&&(#[]:Array GenState).size==0,(boot_heap w.params).objs.size,(boot_heap w.params).nsMap mainGlobals "__annotations__")=(true,11,some (.ref 6)):=by kernel_rfl
theorem C7:LeftO pw bp cX iP bb.obs bb.val 8541:=sY At (by decide) yh By sR (by decide)
theorem sK (h:∀ d kwd,d.name=rw1.row.name→WalkO bp cX (XL bp []) bb.says rw1.row.toRowW d kwd fun f vs=>PySem.call f vs):PySem.Challenge.rw_te0034_04.Holds:=by
 refine holds_law CT fun said=>?_
 refine holds_open (q:=bp) (loose:=cX) (Xt:=iP) (XP:=XL bp []) (Yf:=bb.obs) (Ya:=bb.val) (YP:=bb.says) (N:=8541) C7 bb.of bb.keeps (fun s e=>xl_of s (Bool.and_eq_true_iff.mp e).1) XL.keeps (by rfl) (by rfl) (by rfl) (fun s e=>recFacts_of (Bool.and_eq_true_iff.mp e).2) ?d said ?e ?f ?hw (h _ _ (defOf_name (p:=bp) (by rfl)))
 case d=>rfl
 case e=>decide+kernel
 case f=>exact ⟨rfl,rfl,rfl,rfl,rfl,by decide+kernel⟩
 case hw=>w_witness2
end
section
section
universe u0 u1 u2 u3 u4 u5
variable {α:Sort u0} {β:Sort u1} {γ:Sort u2} {δ:Sort u3} {ε:Sort u4} {ζ:Sort u5} {G:Prop}
theorem x03 {p q r:Prop} (h:p∧q∧r) (k:p→q→r→G):G:=k h.1 h.2.1 h.2.2
theorem x04 {p q r s:Prop} (h:p∧q∧r∧s) (k:p→q→r→s→G):G:=k h.1 h.2.1 h.2.2.1 h.2.2.2
theorem x12 {p q:α→Prop} (h:∃ a,p a∧q a) (k:∀ a,p a→q a→G):G:=h.elim fun a y0=>k a y0.1 y0.2
theorem x13 {p q r:α→Prop} (h:∃ a,p a∧q a∧r a) (k:∀ a,p a→q a→r a→G):G:=h.elim fun a y0=>k a y0.1 y0.2.1 y0.2.2
theorem x14 {p q r s:α→Prop} (h:∃ a,p a∧q a∧r a∧s a) (k:∀ a,p a→q a→r a→s a→G):G:=h.elim fun a y0=>k a y0.1 y0.2.1 y0.2.2.1 y0.2.2.2
theorem x21 {p:α→β→Prop} (h:∃ a b,p a b) (k:∀ a b,p a b→G):G:=h.elim fun a y0=>y0.elim fun b y1=>k a b y1
theorem x22 {p q:α→β→Prop} (h:∃ a b,p a b∧q a b) (k:∀ a b,p a b→q a b→G):G:=h.elim fun a y0=>y0.elim fun b y1=>k a b y1.1 y1.2
theorem x23 {p q r:α→β→Prop} (h:∃ a b,p a b∧q a b∧r a b) (k:∀ a b,p a b→q a b→r a b→G):G:=h.elim fun a y0=>y0.elim fun b y1=>k a b y1.1 y1.2.1 y1.2.2
theorem x24 {p q r s:α→β→Prop} (h:∃ a b,p a b∧q a b∧r a b∧s a b) (k:∀ a b,p a b→q a b→r a b→s a b→G):G:=h.elim fun a y0=>y0.elim fun b y1=>k a b y1.1 y1.2.1 y1.2.2.1 y1.2.2.2
theorem x25 {p q r s t:α→β→Prop} (h:∃ a b,p a b∧q a b∧r a b∧s a b∧t a b) (k:∀ a b,p a b→q a b→r a b→s a b→t a b→G):G:=h.elim fun a y0=>y0.elim fun b y1=>k a b y1.1 y1.2.1 y1.2.2.1 y1.2.2.2.1 y1.2.2.2.2
theorem x32 {p q:α→β→γ→Prop} (h:∃ a b c,p a b c∧q a b c) (k:∀ a b c,p a b c→q a b c→G):G:=h.elim fun a y0=>y0.elim fun b y1=>y1.elim fun c y2=>k a b c y2.1 y2.2
theorem x33 {p q r:α→β→γ→Prop} (h:∃ a b c,p a b c∧q a b c∧r a b c) (k:∀ a b c,p a b c→q a b c→r a b c→G):G:=h.elim fun a y0=>y0.elim fun b y1=>y1.elim fun c y2=>k a b c y2.1 y2.2.1 y2.2.2
theorem x34 {p q r s:α→β→γ→Prop} (h:∃ a b c,p a b c∧q a b c∧r a b c∧s a b c) (k:∀ a b c,p a b c→q a b c→r a b c→s a b c→G):G:=h.elim fun a y0=>y0.elim fun b y1=>y1.elim fun c y2=>k a b c y2.1 y2.2.1 y2.2.2.1 y2.2.2.2
theorem x35 {p q r s t:α→β→γ→Prop} (h:∃ a b c,p a b c∧q a b c∧r a b c∧s a b c∧t a b c) (k:∀ a b c,p a b c→q a b c→r a b c→s a b c→t a b c→G):G:=h.elim fun a y0=>y0.elim fun b y1=>y1.elim fun c y2=>k a b c y2.1 y2.2.1 y2.2.2.1 y2.2.2.2.1 y2.2.2.2.2
theorem x36 {p q r s t u:α→β→γ→Prop} (h:∃ a b c,p a b c∧q a b c∧r a b c∧s a b c∧t a b c∧u a b c) (k:∀ a b c,p a b c→q a b c→r a b c→s a b c→t a b c→u a b c→G):G:=h.elim fun a y0=>y0.elim fun b y1=>y1.elim fun c y2=>k a b c y2.1 y2.2.1 y2.2.2.1 y2.2.2.2.1 y2.2.2.2.2.1 y2.2.2.2.2.2
theorem x43 {p q r:α→β→γ→δ→Prop} (h:∃ a b c d,p a b c d∧q a b c d∧r a b c d) (k:∀ a b c d,p a b c d→q a b c d→r a b c d→G):G:=h.elim fun a y0=>y0.elim fun b y1=>y1.elim fun c y2=>y2.elim fun d y3=>k a b c d y3.1 y3.2.1 y3.2.2
theorem x53 {p q r:α→β→γ→δ→ε→Prop} (h:∃ a b c d e,p a b c d e∧q a b c d e∧r a b c d e) (k:∀ a b c d e,p a b c d e→q a b c d e→r a b c d e→G):G:=h.elim fun a y0=>y0.elim fun b y1=>y1.elim fun c y2=>y2.elim fun d y3=>y3.elim fun e y4=>k a b c d e y4.1 y4.2.1 y4.2.2
theorem x54 {p q r s:α→β→γ→δ→ε→Prop} (h:∃ a b c d e,p a b c d e∧q a b c d e∧r a b c d e∧s a b c d e) (k:∀ a b c d e,p a b c d e→q a b c d e→r a b c d e→s a b c d e→G):G:=h.elim fun a y0=>y0.elim fun b y1=>y1.elim fun c y2=>y2.elim fun d y3=>y3.elim fun e y4=>k a b c d e y4.1 y4.2.1 y4.2.2.1 y4.2.2.2
theorem x61 {p:α→β→γ→δ→ε→ζ→Prop} (h:∃ a b c d e f,p a b c d e f) (k:∀ a b c d e f,p a b c d e f→G):G:=h.elim fun a y0=>y0.elim fun b y1=>y1.elim fun c y2=>y2.elim fun d y3=>y3.elim fun e y4=>y4.elim fun f y5=>k a b c d e f y5
theorem x62 {p q:α→β→γ→δ→ε→ζ→Prop} (h:∃ a b c d e f,p a b c d e f∧q a b c d e f) (k:∀ a b c d e f,p a b c d e f→q a b c d e f→G):G:=h.elim fun a y0=>y0.elim fun b y1=>y1.elim fun c y2=>y2.elim fun d y3=>y3.elim fun e y4=>y4.elim fun f y5=>k a b c d e f y5.1 y5.2
theorem x63 {p q r:α→β→γ→δ→ε→ζ→Prop} (h:∃ a b c d e f,p a b c d e f∧q a b c d e f∧r a b c d e f) (k:∀ a b c d e f,p a b c d e f→q a b c d e f→r a b c d e f→G):G:=h.elim fun a y0=>y0.elim fun b y1=>y1.elim fun c y2=>y2.elim fun d y3=>y3.elim fun e y4=>y4.elim fun f y5=>k a b c d e f y5.1 y5.2.1 y5.2.2
end
theorem Eh {α:Type} {P:List α→Prop} (h:P []) (vs:List α) (e:vs.length=0):P vs:=List.eq_nil_of_length_eq_zero e▸h
theorem DZ {α:Type} {n:Nat} {P:List α→Prop} (h:∀ a vs,vs.length=n→P (a::vs)) (vs:List α):vs.length=n+1→P vs:=List.casesOn vs (fun e=>nomatch e) fun a vs e=>h a vs (Nat.succ.inj e)
theorem EB {α:Type} {P:List α→Prop} (h:∀ a,P [a]):∀ vs:List α,vs.length=1→P vs:=DZ fun a=>Eh (P:=fun l=>P (a::l)) (h a)
end
local macro_rules | `(tactic| omega)=> `(tactic| first | assumption | exact lB0 rfl | exact nT0 ‹_› (lB0 rfl) | lia)
set_option bootstrap.genMatcherCode false
section
noncomputable abbrev S (l:List Nat):Str:=⟨l.toArray⟩
inductive AV where
 | none | bool (b:Bool) | int (i:Int) | str (l:List Nat) | lit (v:Value) | ref (a:Addr)
 | tup (l:List AV) | lst (l:List AV) | dct (l:List (Str×AV)) | meth (f self:Addr) | obj (p:Obj→Prop) | any
noncomputable abbrev HL:=List (Value×AV)
noncomputable abbrev FL:=List (Str×AV)
noncomputable abbrev LL:=List (Str×Option AV)
noncomputable abbrev Fz:=Addr→Option Obj
noncomputable abbrev ik (vs:List Value) (n:Nat):Obj:={ cls:=.type "tuple",data:=.seq vs.toArray n }
noncomputable abbrev aA (vs:List Value) (n:Nat):Obj:={ cls:=.type "list",data:=.seq vs.toArray n }
mutual
inductive Is (P:Params) (F:Fz):Value→AV→Prop
 | none:Is P F .none .none
 | bool (b):Is P F (.bool b) (.bool b)
 | int (i t):Is P F (.int i t) (.int i)
 | str (l t):Is P F (.str (S l) t) (.str l)
 | lit (v):Is P F v (.lit v)
 | ref (a):Is P F (.ref a) (.ref a)
 | tup {a vs n l}:F a=some (ik vs n)→IsAll P F vs l→Is P F (.ref a) (.tup l)
 | lst {a vs n l}:F a=some (aA vs n)→IsAll P F vs l→Is P F (.ref a) (.lst l)
 | dct {a es n l}:F a=some (dictOf es n)→IsEnts P F es l→(l.map (·.1)).Nodup→(a==sysModules)=false→Is P F (.ref a) (.dct l)
 | meth {a f self}:F a=some (methodObj (.ref f) (.ref self))→Is P F (.ref a) (.meth f self)
 | obj {a o p}:F a=some o→p o→Is P F (.ref a) (.obj p)
 | any (v):Is P F v .any
inductive IsAll (P:Params) (F:Fz):List Value→List AV→Prop
 | nil:IsAll P F [] []
 | cons {v d vs l}:Is P F v d→IsAll P F vs l→IsAll P F (v::vs) (d::l)
inductive IsEnts (P:Params) (F:Fz):List DictEntry→FL→Prop
 | nil:IsEnts P F [] []
 | cons {x t v d es l}:Is P F v d→IsEnts P F es l→IsEnts P F (⟨PyData.keyHash P x,.str x t,v⟩::es) ((x,d)::l)
end
noncomputable def Fz.le (F F':Fz):Prop:=∀ b o,F b=some o→F' b=some o
theorem Fz.le.refl (F:Fz):F.le F:=fun _ _ e=>e
theorem Fz.le.trans {F G H:Fz} (a:F.le G) (b:G.le H):F.le H:=fun x o e=>b x o (a x o e)
section
variable {P:Params} {F F':Fz}
theorem Is.mono (k:F.le F') {v:Value} {d:AV} (h:Is P F v d):Is P F' v d:=
 Is.rec (motive_1:=fun v d _=>Is P F' v d) (motive_2:=fun vs l _=>IsAll P F' vs l) (motive_3:=fun es l _=>IsEnts P F' es l) .none .bool .int .str .lit .ref (fun h _ r=>.tup (k _ _ h) r) (fun h _ r=>.lst (k _ _ h) r) (fun h _ n q r=>.dct (k _ _ h) r n q) (fun h=>.meth (k _ _ h)) (fun h q=>.obj (k _ _ h) q) .any .nil (fun _ _ a b=>.cons a b) .nil (fun _ _ a b=>.cons a b) h
theorem IsAll.ind {C:List Value→List AV→Prop} (nil:C [] []) (cons:∀ v d vs l,Is P F v d→IsAll P F vs l→C vs l→C (v::vs) (d::l)) {vs:List Value} {l:List AV} (h:IsAll P F vs l):C vs l:=
 IsAll.rec (motive_1:=fun _ _ _=>True) (motive_2:=fun vs l _=>C vs l) (motive_3:=fun _ _ _=>True) trivial (fun _=>trivial) (fun _ _=>trivial) (fun _ _=>trivial) (fun _=>trivial) (fun _=>trivial) (fun _ _ _=>trivial) (fun _ _ _=>trivial) (fun _ _ _ _ _=>trivial) (fun _=>trivial) (fun _ _=>trivial) (fun _=>trivial) nil (fun h r _ c=>cons _ _ _ _ h r c) trivial (fun _ _ _ _=>trivial) h
theorem IsEnts.ind {C:List DictEntry→FL→Prop} (nil:C [] []) (cons:∀ x t v d es l,Is P F v d→IsEnts P F es l→C es l→C (⟨PyData.keyHash P x,.str x t,v⟩::es) ((x,d)::l)) {es:List DictEntry} {l:FL} (h:IsEnts P F es l):C es l:=
 IsEnts.rec (motive_1:=fun _ _ _=>True) (motive_2:=fun _ _ _=>True) (motive_3:=fun es l _=>C es l) trivial (fun _=>trivial) (fun _ _=>trivial) (fun _ _=>trivial) (fun _=>trivial) (fun _=>trivial) (fun _ _ _=>trivial) (fun _ _ _=>trivial) (fun _ _ _ _ _=>trivial) (fun _=>trivial) (fun _ _=>trivial) (fun _=>trivial) trivial (fun _ _ _ _=>trivial) nil (fun h r _ c=>cons _ _ _ _ _ _ h r c) h
theorem IsAll.mono (k:F.le F') {vs:List Value} {l:List AV} (h:IsAll P F vs l):IsAll P F' vs l:=h.ind .nil fun _ _ _ _ q _ c=>.cons (q.mono k) c
theorem IsEnts.mono (k:F.le F') {es:List DictEntry} {l:FL} (h:IsEnts P F es l):IsEnts P F' es l:=h.ind .nil fun _ _ _ _ _ _ q _ c=>.cons (q.mono k) c
end
inductive AO where
 | inst (C dx:Addr) (fs:FL)
 | list (l:List AV)
 | dict (l:FL)
 | cell (v:Option AV)
 | is (p:Obj→Prop)
noncomputable abbrev OL:=List (Addr×AO)
noncomputable def AO.more:AO→List Addr
 | .inst _ dx _=>[dx]
 | _=>[]
noncomputable def a9:OL→List Addr
 | []=>[]
 | p::r=>p.1::(p.2.more++a9 r)
noncomputable def OAt (P:Params) (F:Fz) (h:Heap) (a:Addr):AO→Prop
 | .inst C dx fs=>h.get? a=some (instObj C dx)∧∃ es n,h.get? dx=some (dictOf es n)∧IsEnts P F es fs
 | .list l=>∃ vs n,h.get? a=some (aA vs n)∧IsAll P F vs l
 | .dict l=>(∃ es n,h.get? a=some (dictOf es n)∧IsEnts P F es l)∧(l.map (·.1)).Nodup∧(a==sysModules)=false
 | .cell none=>h.IsCell a none
 | .cell (some d)=>∃ v,h.IsCell a (some v)∧Is P F v d
 | .is p=>∃ o,h.get? a=some o∧p o
structure St where
 loc:LL
 objs:OL
structure Holds (P:Params) (G:Heap) (L:Addr) (F:Fz) (H:HL) (σ:St) (h:Heap):Prop where
 core:∀ b o,G.get? b=some o→F b=some o
 sub:∀ b o,F b=some o→h.get? b=some o
 loc:∃ m,h.Ns L m∧∀ x d,(x,some d)∈σ.loc→∃ v,m x=some v∧Is P F v d
 names:(σ.loc.map (·.1)).Nodup
 objs:∀ p∈σ.objs,OAt P F h p.1 p.2
 nodup:(L::a9 σ.objs).Nodup
 apart:∀ b∈L::a9 σ.objs,F b=none
 held:∀ p∈H,Is P F p.1 p.2
 low:G.objs.size≤L
structure c1 (a b:Array GenState):Prop where
 keep:∀ (g:Nat) (x:GenState),a[g]? =some x→b[g]? =some x
 bare:∀ (g:Nat) (x:GenState),b[g]? =some x→a[g]? =some x∨x.bare=true
theorem c1.refl (a:Array GenState):c1 a a:=⟨fun _ _ e=>e,fun _ _ e=>.inl e⟩
theorem c1.of {a b:Array GenState} (h:b=a):c1 a b:=h▸.refl a
theorem c1.trans {a b c:Array GenState} (x:c1 a b) (y:c1 b c):c1 a c:=⟨fun g z e=>y.keep g z (x.keep g z e),fun g z e=>(y.bare g z e).elim (x.bare g z) .inr⟩
structure aJ (O:List Addr) (F:Fz) (s:Shared) (O':List Addr) (F':Fz) (s':Shared):Prop where
 keep:∀ b o,b∉O→s.heap.get? b=some o→s'.heap.get? b=some o
 own:∀ b∈O',b∈O∨s.heap.get? b=none
 frz:∀ b o,F' b=some o→F b=some o∨b∈O∨s.heap.get? b=none
 mono:F.le F'
 gens:c1 s.gens s'.gens
 os:s'.os=s.os
theorem aJ.refl (O:List Addr) (F:Fz) (s:Shared):aJ O F s O F s:=
 ⟨fun _ _ _ e=>e,fun _ h=>.inl h,fun _ _ e=>.inl e,.refl F,.refl _,rfl⟩
theorem mC {h h':Heap} (k:∀ b o,h.get? b=some o→h'.get? b=some o) {b:Addr} (e:h'.get? b=none):h.get? b=none:=
 Option.eq_none_iff_forall_ne_some.mpr fun o w=>nomatch (k b o w).symm.trans e
theorem aJ.trans {O F s O' F' s' O'' F'' s''} (a:aJ O F s O' F' s') (b:aJ O' F' s' O'' F'' s''):aJ O F s O'' F'' s'':=
 have key:∀ x,s'.heap.get? x=none→x∈O∨s.heap.get? x=none:=fun x hx=>
  (Classical.em (x∈O)).imp_right fun hm=>Option.eq_none_iff_forall_ne_some.mpr fun o w=>nomatch (a.keep x o hm w).symm.trans hx
 ⟨fun x o hx e=>b.keep x o (fun hm=>(a.own x hm).elim hx fun h=>nomatch h.symm.trans e) (a.keep x o hx e),fun x hx=>(b.own x hx).elim (a.own x) (key x),
  fun x o e=>(b.frz x o e).elim (a.frz x o) fun h=>.inr (h.elim (a.own x) (key x)),a.mono.trans b.mono,a.gens.trans b.gens,b.os.trans a.os⟩
theorem aJ.over {O O₁ O':List Addr} {F F':Fz} {s s₁ s':Shared} (p:aJ O₁ F s₁ O' F' s') (low:∀ b∈O₁,b∈O∨s.heap.get? b=none) (k:∀ b o,s.heap.get? b=some o→s₁.heap.get? b=some o) (g:c1 s.gens s₁.gens) (os:s₁.os=s.os):aJ O F s O' F' s':=
 ⟨fun b o hb e=>p.keep b o (fun hm=>(low b hm).elim hb fun z=>nomatch z.symm.trans e) (k _ _ e),fun b hb=>(p.own b hb).elim (low b) fun z=>.inr (mC k z),
  fun b o e=>(p.frz b o e).imp_right fun z=>z.elim (low b) fun z=>.inr (mC k z),p.mono,g.trans p.gens,p.os.trans os⟩
theorem aJ.fewer {O O' O'':List Addr} {F F':Fz} {s s':Shared} (p:aJ O F s O' F' s') (h:∀ b∈O'',b∈O'):aJ O F s O'' F' s':=⟨p.keep,fun b hb=>p.own b (h b hb),p.frz,p.mono,p.gens,p.os⟩
theorem ay {objs:OL} {b:Addr}:b∈a9 objs↔∃ p∈objs,b=p.1∨b∈p.2.more:=by
 induction objs with
 | nil =>simp [a9]
 | cons p r ih=>
  simp only [a9,List.mem_cons,List.mem_append,ih]
  constructor
  · rintro (h | h | ⟨q,hq,h⟩)
    · exact ⟨p,.inl rfl,.inl h⟩
    · exact ⟨p,.inl rfl,.inr h⟩
    · exact ⟨q,.inr hq,h⟩
  · intro z9;refine x12 z9 ?_;clear z9;rintro q (rfl | hq) h
    · rcases h with h | h
      · exact .inl h
      · exact .inr (.inl h)
    · exact .inr (.inr ⟨q,hq,h⟩)
theorem b7 (a b:OL):a9 (a++b)=a9 a++a9 b:=by
 induction a with
 | nil=>rfl
 | cons p r ih=>simp [a9,ih]
theorem OAt.there {P:Params} {F:Fz} {h:Heap} {a:Addr} {o:AO} (H:OAt P F h a o):∀ b,b=a∨b∈o.more→∃ x,h.get? b=some x:=by
 intro b hb
 cases o with
 | inst C dx fs=>
  obtain ⟨h1,es,n,h2,_⟩:=H
  rcases hb with rfl | hb
  · exact ⟨_,h1⟩
  · exact (List.mem_singleton.mp hb)▸(⟨_,h2⟩)
 | list l=>refine x22 (H) ?_;clear H;rintro vs n h1 _;rcases hb with rfl | hb;exact ⟨_,h1⟩;contradiction
 | dict l=>obtain ⟨⟨vs,n,h1,_⟩,_⟩:=H;rcases hb with rfl | hb;exact ⟨_,h1⟩;contradiction
 | cell v=>
  induction v using Option.casesOn with
  | none=>refine x12 (H) ?_;clear H;rintro o h1 _;rcases hb with rfl | hb;exact ⟨_,h1⟩;contradiction
  | some d=>refine x12 (H) ?_;clear H;rintro v ⟨o,h1,_⟩ _;rcases hb with rfl | hb;exact ⟨_,h1⟩;contradiction
 | is p=>refine x12 (H) ?_;clear H;rintro o h1 _;rcases hb with rfl | hb;exact ⟨_,h1⟩;contradiction
theorem OAt.move {P:Params} {F F':Fz} {h h':Heap} {a:Addr} {o:AO} (H:OAt P F h a o) (k:F.le F') (e:∀ b x,b=a∨b∈o.more→h.get? b=some x→h'.get? b=some x):OAt P F' h' a o:=by
 cases o with
 | inst C dx fs=>
  obtain ⟨h1,es,n,h2,h3⟩:=H
  exact ⟨e _ _ (.inl rfl) h1,es,n,e _ _ (.inr (List.mem_singleton.mpr rfl)) h2,h3.mono k⟩
 | list l=>refine x22 (H) ?_;clear H;rintro vs n h1 h2;exact ⟨vs,n,e _ _ (.inl rfl) h1,h2.mono k⟩
 | dict l=>obtain ⟨⟨vs,n,h1,h2⟩,h3⟩:=H;exact ⟨⟨vs,n,e _ _ (.inl rfl) h1,h2.mono k⟩,h3⟩
 | cell v=>
  induction v using Option.casesOn with
  | none=>refine x12 (H) ?_;clear H;rintro o h1 h2;exact ⟨o,e _ _ (.inl rfl) h1,h2⟩
  | some d=>refine x12 (H) ?_;clear H;rintro v ⟨o,h1,h3⟩ h2;exact ⟨v,⟨o,e _ _ (.inl rfl) h1,h3⟩,h2.mono k⟩
 | is p=>refine x12 (H) ?_;clear H;rintro o h1 h2;exact ⟨o,e _ _ (.inl rfl) h1,h2⟩
section
variable {P:Params} {G:Heap} {L:Addr} {F F':Fz} {H:HL} {σ:St} {h h':Heap}
theorem Holds.there (x:Holds P G L F H σ h):∀ b∈L::a9 σ.objs,∃ o,h.get? b=some o:=by
 intro b hb
 rcases mC0 hb with rfl | hb
 · obtain ⟨m,⟨o,_,_,ho,_⟩,_⟩:=x.loc;exact ⟨o,ho⟩
 · obtain ⟨p,hp,hb⟩:=ay.mp hb
   exact (x.objs p hp).there b hb
theorem Holds.grow (x:Holds P G L F H σ h) (k:∀ b o,h.get? b=some o→h'.get? b=some o):Holds P G L F H σ h':=
 ⟨x.core,fun b o e=>k _ _ (x.sub b o e),let ⟨m,hm,r⟩:=x.loc;⟨m,hm.keeps k,r⟩,x.names,fun p hp=>(x.objs p hp).move (.refl F) fun b o _ e=>k _ _ e,x.nodup,x.apart,x.held,x.low⟩
noncomputable def Fz.put (F:Fz) (a:Addr) (o:Obj):Fz:=fun b=>if b=a then some o else F b
theorem Fz.put_self (F:Fz) (a:Addr) (o:Obj):F.put a o a=some o:=by simp [Fz.put]
theorem Fz.le_put {F:Fz} {a:Addr} {o:Obj} (n:F a=none):F.le (F.put a o):=fun b o' e=>by
 unfold Fz.put
 split
 · rename_i q;rw [q,n] at e;contradiction
 · exact e
theorem Holds.frozen (x:Holds P G L F H σ h) (k:∀ b o,h.get? b=some o→h'.get? b=some o) {a:Addr} {o:Obj} (hn:h.get? a=none) (ha:h'.get? a=some o):
 Holds P G L (F.put a o) H σ h'∧F.le (F.put a o):=by
 have hF:F a=none:=by
  induction q:F a using Option.casesOn with
  | none=>rfl
  | some o'=>rw [x.sub _ _ q] at hn;contradiction
 have le:=Fz.le_put (o:=o) hF
 refine ⟨⟨fun b o' e=>le _ _ (x.core b o' e),fun b o' e=>?_,?_,x.names,fun p hp=>(x.objs p hp).move le fun b o' _ e=>k _ _ e,x.nodup,fun b hb=>?_,fun p hp=>(x.held p hp).mono le,x.low⟩,le⟩
 · unfold Fz.put at e
   split at e
   · rename_i q;subst q;obtain rfl:=Option.some.inj e;exact ha
   · exact k _ _ (x.sub _ _ e)
 · refine x12 (x.loc) ?_;rintro m hm r
   exact ⟨m,hm.keeps k,fun y d hy=>let ⟨v,e,q⟩:=r y d hy;⟨v,e,q.mono le⟩⟩
 · unfold Fz.put
   split
   · rename_i q
     obtain ⟨o',ho'⟩:=x.there b hb
     rw [q,hn] at ho';contradiction
   · exact x.apart b hb
theorem Holds.weaken (x:Holds P G L F H σ h) {H':HL} (e:∀ p∈H',p∈H):Holds P G L F H' σ h:=
 ⟨x.core,x.sub,x.loc,x.names,x.objs,x.nodup,x.apart,fun p hp=>x.held p (e p hp),x.low⟩
theorem Holds.push (x:Holds P G L F H σ h) {v:Value} {d:AV} (q:Is P F v d):Holds P G L F ((v,d)::H) σ h:=
 ⟨x.core,x.sub,x.loc,x.names,x.objs,x.nodup,x.apart,fun p hp=>by rcases mC0 hp with rfl | hp;exact q;exact x.held p hp,x.low⟩
theorem Holds.hold (x:Holds P G L F H σ h) {v:Value} {d:AV} (q:(v,d)∈H):Is P F v d:=x.held _ q
end
section
variable {P:Params} {F:Fz} {v:Value} {d:AV} {l:List AV} {vs:List Value}
noncomputable def vN (P:Params) (F:Fz) (v:Value) (d:AV):Prop:=AV.casesOn d (v=.none) (fun b=>v=.bool b) (fun i=>∃ t,v=.int i t) (fun x=>∃ t,v=.str (S x) t) (fun w=>v=w) (fun a=>v=.ref a) (fun l=>∃ a vs n,v=.ref a∧F a=some (ik vs n)∧IsAll P F vs l) (fun l=>∃ a vs n,v=.ref a∧F a=some (aA vs n)∧IsAll P F vs l)
 (fun l=>∃ a es n,v=.ref a∧F a=some (dictOf es n)∧IsEnts P F es l∧(l.map (·.1)).Nodup∧(a==sysModules)=false) (fun f self=>∃ a,v=.ref a∧F a=some (methodObj (.ref f) (.ref self))) (fun p=>∃ a o,v=.ref a∧F a=some o∧p o) True
theorem cz (h:Is P F v d):vN P F v d:=
 @Is.casesOn P F (fun v d _=>vN P F v d) v d h rfl (fun _=>rfl) (fun _ t=>⟨t,rfl⟩) (fun _ t=>⟨t,rfl⟩) (fun _=>rfl) (fun _=>rfl) (fun e k=>⟨_,_,_,rfl,e,k⟩) (fun e k=>⟨_,_,_,rfl,e,k⟩) (fun e k n q=>⟨_,_,_,rfl,e,k,n,q⟩) (fun e=>⟨_,rfl,e⟩) (fun e k=>⟨_,_,rfl,e,k⟩) fun _=>trivial
theorem ah {i:Int} (h:Is P F v (.int i)):∃ t,v=.int i t:=cz h
theorem ak {x:List Nat} (h:Is P F v (.str x)):∃ t,v=.str (S x) t:=cz h
theorem fT {x:Bool} (h:Is P F v (.bool x)):v=.bool x:=cz h
theorem cm (h:Is P F v .none):v=.none:=cz h
theorem al {a:Addr} (h:Is P F v (.ref a)):v=.ref a:=cz h
theorem n9 {w:Value} (h:Is P F v (.lit w)):v=w:=cz h
theorem cx (h:Is P F v (.tup l)):∃ a vs n,v=.ref a∧F a=some (ik vs n)∧IsAll P F vs l:=cz h
theorem bd (h:Is P F v (.lst l)):∃ a vs n,v=.ref a∧F a=some (aA vs n)∧IsAll P F vs l:=cz h
theorem h9 {l:FL} (h:Is P F v (.dct l)):∃ a es n,v=.ref a∧F a=some (dictOf es n)∧IsEnts P F es l∧(l.map (·.1)).Nodup:=x35 (cz h) fun a es n e k q d _=>⟨a,es,n,e,k,q,d⟩
theorem pj {l:FL} (h:Is P F v (.dct l)):∃ a es n,v=.ref a∧F a=some (dictOf es n)∧IsEnts P F es l∧(l.map (·.1)).Nodup∧(a==sysModules)=false:=cz h
theorem fX {f self:Addr} (h:Is P F v (.meth f self)):∃ a,v=.ref a∧F a=some (methodObj (.ref f) (.ref self)):=cz h
theorem eG {p:Obj→Prop} (h:Is P F v (.obj p)):∃ a o,v=.ref a∧F a=some o∧p o:=cz h
noncomputable def qz (P:Params) (F:Fz) (vs:List Value) (l:List AV):Prop:=List.casesOn l (vs=[]) fun d l=>∃ v ws,vs=v::ws∧Is P F v d∧IsAll P F ws l
theorem cq (h:IsAll P F vs l):qz P F vs l:=h.ind (C:=fun vs l=>qz P F vs l) rfl fun v _ ws _ q r _=>⟨v,ws,rfl,q,r⟩
theorem sC {d1:AV} (h:IsAll P F vs [d1]):∃ v1,vs=[v1]∧Is P F v1 d1:=x23 (cq h) fun v _ e q r=>⟨v,e.trans (congrArg (v::·) (cq r)),q⟩
theorem oe {d1 d2:AV} (h:IsAll P F vs [d1,d2]):∃ v1 v2,vs=[v1,v2]∧Is P F v1 d1∧Is P F v2 d2:=x23 (cq h) fun v _ e q r=>x12 (sC r) fun w e2 q2=>⟨v,w,e.trans (congrArg (v::·) e2),q,q2⟩
theorem uX {d1 d2 d3:AV} (h:IsAll P F vs [d1,d2,d3]):∃ v1 v2 v3,vs=[v1,v2,v3]∧Is P F v1 d1∧Is P F v2 d2∧Is P F v3 d3:=x23 (cq h) fun v _ e q r=>x23 (oe r) fun w u e2 q2 q3=>⟨v,w,u,e.trans (congrArg (v::·) e2),q,q2,q3⟩
theorem Ds {d1 d2 d3 d4:AV} (h:IsAll P F vs [d1,d2,d3,d4]):∃ v1 v2 v3 v4,vs=[v1,v2,v3,v4]∧Is P F v1 d1∧Is P F v2 d2∧Is P F v3 d3∧Is P F v4 d4:=x23 (cq h) fun v _ e q r=>x34 (uX r) fun w u z e2 q2 q3 q4=>⟨v,w,u,z,e.trans (congrArg (v::·) e2),q,q2,q3,q4⟩
end
end
section
variable {A:Around} {F:Fz} {s s':Shared} {Ψ:Fz→St→Prop} {vs:List Value} {v:Value} {d:AV}
structure a5 where
 prog:Program
 w:World
 G:Heap
 K:Frag
 X:K.In G
 g:∃ mg,G.Ns mainGlobals mg
 b:∃ mb,G.Ns builtinsNs mb∧∀ x,x≠("__name__":Str)→mb x=bootBuiltins x
 nolimit:G.NoLimit
noncomputable abbrev a5.M (B:a5):Model:=model B.prog B.w
noncomputable abbrev a5.P (B:a5):Params:=B.w.params
structure c3 (n:Nat) (A:Around):Prop where
 handled:A.handled=none
 depth:A.depth+n≤900
 units:A.units+8*n≤9000
theorem c3.le {n m:Nat} (h:c3 n A) (e:m≤n):c3 m A:=⟨h.1,by have:=h.2;omega,by have:=h.3;omega⟩
noncomputable abbrev PV:=Value→AV→St→Prop
inductive ae (B:a5) (L:Addr) (H:HL) (σ:St) (F:Fz) (s s':Shared) (Ψ:Fz→St→Prop):Prop
 | mk (F':Fz) (σ':St) (x:Holds B.P B.G L F' H σ' s'.heap) (p:aJ (L::a9 σ.objs) F s (L::a9 σ'.objs) F' s') (q:Ψ F' σ')
structure W {α:Type} (B:a5) (n:Nat) (L:Addr) (t:Sem α) (H:HL) (σ:St) (Ψ:α→Fz→St→Prop):Prop where
 run:∀ A F s,c3 n A→Holds B.P B.G L F H σ s.heap→wpAny B.M A t (fun a s'=>ae B L H σ F s s' (Ψ a)) (fun _ _=>False) s
theorem a7 {α:Type} {B:a5} {n:Nat} {L:Addr} {t:Sem α} {H:HL} {σ:St} {Ψ:α→Fz→St→Prop}
 (h:∀ A F s,c3 n A→Holds B.P B.G L F H σ s.heap→wpAny B.M A t (fun a s'=>ae B L H σ F s s' (Ψ a)) (fun _ _=>False) s):W B n L t H σ Ψ:=⟨h⟩
noncomputable abbrev WV (B:a5) (n:Nat) (L:Addr) (t:Sem Value) (H:HL) (σ:St) (Φ:PV):Prop:=
 W B n L t H σ (fun v F' σ'=>∃ d,Is B.P F' v d∧Φ v d σ')
noncomputable abbrev WB (B:a5) (n:Nat) (L:Addr) (t:Sem Bool) (H:HL) (σ:St) (Φ:Bool→St→Prop):Prop:=
 W B n L t H σ (fun b _ σ'=>Φ b σ')
noncomputable abbrev WU (B:a5) (n:Nat) (L:Addr) (t:Sem Unit) (H:HL) (σ:St) (Φ:St→Prop):Prop:=
 W B n L t H σ (fun _ _ σ'=>Φ σ')
inductive Fl where
 | next | brk | cont | ret (d:AV)
noncomputable def iw (P:Params) (F:Fz):Flow→Fl→Prop
 | .next,.next=>True
 | .brk,.brk=>True
 | .cont,.cont=>True
 | .ret v,.ret d=>Is P F v d
 | _,_=>False
noncomputable abbrev WF (B:a5) (n:Nat) (L:Addr) (t:Sem Flow) (H:HL) (σ:St) (Φ:Fl→St→Prop):Prop:=
 W B n L t H σ (fun f F' σ'=>∃ e,iw B.P F' f e∧Φ e σ')
noncomputable abbrev PF:=Fl→St→Prop
section
variable {B:a5} {n:Nat} {L:Addr} {H:HL} {σ:St} {α β:Type}
theorem ae.here (h:Holds B.P B.G L F H σ s.heap) (q:Ψ F σ):ae B L H σ F s s Ψ:=⟨F,σ,h,.refl _ _ _,q⟩
theorem ae.mono {Ψ':Fz→St→Prop} (h:ae B L H σ F s s' Ψ) (k:∀ F' σ',Ψ F' σ'→Ψ' F' σ'):ae B L H σ F s s' Ψ':=
 let ⟨F',σ',a,b,c⟩:=h;⟨F',σ',a,b,k _ _ c⟩
theorem fL {t:Sem α} {Ψ:α→Fz→St→Prop} (h:∀ A F s (Q:α→Shared→Prop),c3 n A→Holds B.P B.G L F H σ s.heap→(∀ a s',ae B L H σ F s s' (Ψ a)→Q a s')→wpAny B.M A t Q (fun _ _=>False) s):W B n L t H σ Ψ:=
 ⟨fun A F s hA X=>h A F s _ hA X fun _ _ z=>z⟩
theorem W.then {t:Sem α} {Ψ:α→Fz→St→Prop} (w:W B n L t H σ Ψ) {Q:α→Shared→Prop} {E:Value→Shared→Prop} (hA:c3 n A) (X:Holds B.P B.G L F H σ s.heap)
 (k:∀ a s' F' σ',Holds B.P B.G L F' H σ' s'.heap→aJ (L::a9 σ.objs) F s (L::a9 σ'.objs) F' s'→Ψ a F' σ'→Q a s'):wpAny B.M A t Q E s:=
 wpAny_mono (w.run A F s hA X) (fun a s' z=>by cases z with | mk F' σ' x p q=>exact k a s' F' σ' x p q) fun _ _ z=>z.elim
theorem jB {t:Sem α} {Ψ Ψ':α→Fz→St→Prop} (h:W B n L t H σ Ψ) (k:∀ a F σ,Ψ a F σ→Ψ' a F σ):W B n L t H σ Ψ':=
 a7 fun A F s hA x=>wpAny_mono (h.run A F s hA x) (fun _ _ y=>y.mono fun _ _ z=>k _ _ _ z) fun _ _ y=>y
theorem qZ {t:Sem α} {m:Nat} {Ψ:α→Fz→St→Prop} (h:W B m L t H σ Ψ) (e:m≤n):W B n L t H σ Ψ:=
 a7 fun A F s hA x=>h.run A F s (hA.le e) x
theorem bN {t:Sem α} {k:α→Sem β} {Ψ₁:α→Fz→St→Prop} {Ψ:β→Fz→St→Prop} (h:W B n L t H σ Ψ₁)
 (hk:∀ a F σ₁,Ψ₁ a F σ₁→∃ H',(∀ p∈H,p∈H')∧(∀ p∈H',p∈H∨Is B.P F p.1 p.2)∧W B n L (k a) H' σ₁ Ψ):W B n L (t >>= k) H σ Ψ:=by
 refine a7 fun A F s hA x=>?_
 refine wpAny_bind (wpAny_mono (h.run A F s hA x) (fun a s₁ y=>?_) fun _ _ y=>y)
 obtain ⟨F₁,σ₁,x₁,p₁,q⟩:=y
 refine x13 (hk a F₁ σ₁ q) ?_;rintro H' e1 e2 w
 have x₁':Holds B.P B.G L F₁ H' σ₁ s₁.heap:=⟨x₁.core,x₁.sub,x₁.loc,x₁.names,x₁.objs,x₁.nodup,x₁.apart,fun p hp=>(e2 p hp).elim (x₁.held p) id,x₁.low⟩
 refine wpAny_mono (w.run A F₁ s₁ hA x₁') (fun b s₂ y=>?_) fun _ _ y=>y
 obtain ⟨F₂,σ₂,x₂,p₂,q₂⟩:=y
 exact ⟨F₂,σ₂,x₂.weaken e1,p₁.trans p₂,q₂⟩
theorem af {t:Sem Value} {k:Value→Sem β} {Ψ:β→Fz→St→Prop} (h:WV B n L t H σ (fun v d σ₁=>W B n L (k v) ((v,d)::H) σ₁ Ψ)):W B n L (t >>= k) H σ Ψ:=
 bN h fun a F σ₁ q=>by
  refine x12 (q) ?_;clear q;rintro d hd w
  exact ⟨(a,d)::H,fun p hp=>.tail _ hp,fun p hp=>by rcases mC0 hp with rfl | hp;exact .inr hd;exact .inl hp,w⟩
theorem cv {t:Sem Bool} {k:Bool→Sem β} {Ψ:β→Fz→St→Prop} (h:WB B n L t H σ (fun b σ₁=>W B n L (k b) H σ₁ Ψ)):W B n L (t >>= k) H σ Ψ:=
 bN h fun a F σ₁ q=>⟨H,fun _ h=>h,fun _ h=>.inl h,q⟩
theorem bz {t:Sem Unit} {k:Unit→Sem β} {Ψ:β→Fz→St→Prop} (h:WU B n L t H σ (fun σ₁=>W B n L (k ()) H σ₁ Ψ)):W B n L (t >>= k) H σ Ψ:=
 bN h fun a F σ₁ q=>⟨H,fun _ h=>h,fun _ h=>.inl h,q⟩
theorem a8 {t:Sem α} {Ψ:α→Fz→St→Prop} (h:W B n L t H σ Ψ):W B n L (holding vs t) H σ Ψ:=a7 fun A F s hA x=>wpAny_holding (h.run A F s hA x)
theorem ag {p:Pos} {k:Unit→Sem β} {Ψ:β→Fz→St→Prop} (h:W B n L (k ()) H σ Ψ):W B n L (standAt p >>= k) H σ Ψ:=a7 fun A F s hA x=>wpAny_bind (wpAny_standAt (h.run A F s hA x))
theorem ae.toks {tk:Nat} (h:Holds B.P B.G L F H σ s.heap) (q:Ψ F σ):ae B L H σ F s { s with toks:=tk } Ψ:=
 ⟨F,σ,h,⟨fun _ _ _ e=>e,fun _ h=>.inl h,fun _ _ e=>.inl e,.refl F,.refl _,rfl⟩,q⟩
theorem ae.more (h:Holds B.P B.G L F H σ s.heap) (k:∀ b o,s.heap.get? b=some o→s'.heap.get? b=some o) (g:s'.gens=s.gens) (o:s'.os=s.os) (q:Ψ F σ):ae B L H σ F s s' Ψ:=
 ⟨F,σ,h.grow k,⟨fun b o _ e=>k b o e,fun _ h=>.inl h,fun _ _ e=>.inl e,.refl F,.of g,o⟩,q⟩
theorem ae.fresh (h:Holds B.P B.G L F H σ s.heap) {a:Addr} {o:Obj} (k:∀ b o,s.heap.get? b=some o→s'.heap.get? b=some o)
 (hn:s.heap.get? a=none) (ha:s'.heap.get? a=some o) (g:s'.gens=s.gens) (os:s'.os=s.os) (q:F.le (F.put a o)→Ψ (F.put a o) σ):ae B L H σ F s s' Ψ:=by
 obtain ⟨x,le⟩:=h.frozen k hn ha
 refine ⟨_,σ,x,⟨fun b o _ e=>k b o e,fun _ h=>.inl h,fun b o' e=>?_,le,.of g,os⟩,q le⟩
 unfold Fz.put at e
 split at e
 · rename_i z;subst z;exact .inr (.inr hn)
 · exact .inl e
end
variable {A:Around} {F:Fz} {s s':Shared} {Ψ:Fz→St→Prop} {vs:List Value} {v:Value} {d:AV}
section
variable {B:a5} {n:Nat} {L:Addr} {H:HL} {σ:St} {α β:Type}
theorem ae.weaken {H':HL} (y:ae B L H' σ F s s' Ψ) (e:∀ p∈H,p∈H'):ae B L H σ F s s' Ψ:=
 let ⟨F',σ',a,b,c⟩:=y;⟨F',σ',a.weaken e,b,c⟩
theorem ae.then {t:Sem β} {s₁:Shared} {Ψ₁:Fz→St→Prop} {Ψ:β→Fz→St→Prop} (y:ae B L H σ F s s₁ Ψ₁)
 (k:∀ F₁ σ₁,Holds B.P B.G L F₁ H σ₁ s₁.heap→Ψ₁ F₁ σ₁→wpAny B.M A t (fun b s₂=>ae B L H σ₁ F₁ s₁ s₂ (Ψ b)) (fun _ _=>False) s₁):
 wpAny B.M A t (fun b s₂=>ae B L H σ F s s₂ (Ψ b)) (fun _ _=>False) s₁:=by
 obtain ⟨F₁,σ₁,x₁,p₁,q⟩:=y
 refine wpAny_mono (k F₁ σ₁ x₁ q) (fun b s₂ y=>?_) fun _ _ z=>z
 obtain ⟨F₂,σ₂,x₂,p₂,q₂⟩:=y
 exact ⟨F₂,σ₂,x₂,p₁.trans p₂,q₂⟩
theorem ae.fin {s₁ s₂:Shared} {Ψ₁:Fz→St→Prop} (y:ae B L H σ F s s₁ Ψ₁)
 (k:∀ F₁ σ₁,Holds B.P B.G L F₁ H σ₁ s₁.heap→Ψ₁ F₁ σ₁→ae B L H σ₁ F₁ s₁ s₂ Ψ):ae B L H σ F s s₂ Ψ:=by
 obtain ⟨F₁,σ₁,x₁,p₁,q⟩:=y
 obtain ⟨F₂,σ₂,x₂,p₂,q₂⟩:=k F₁ σ₁ x₁ q
 exact ⟨F₂,σ₂,x₂,p₁.trans p₂,q₂⟩
theorem gX {t:Sem β} {Ψ:β→Fz→St→Prop} (w:W B n L t H σ Ψ):W B n L t ((v,d)::H) σ Ψ:=
 a7 fun A F s hA x=>by
  have y:=w.run A F s hA (x.weaken fun _ hp=>.tail _ hp)
  refine wpAny_mono y (fun b s' z=>?_) fun _ _ z=>z
  obtain ⟨F',σ',a,b',c⟩:=z
  exact ⟨F',σ',⟨a.core,a.sub,a.loc,a.names,a.objs,a.nodup,a.apart,fun p hp=>(x.held p hp).mono b'.mono,x.low⟩,b',c⟩
end
variable {A:Around} {F:Fz} {s s':Shared} {Ψ:Fz→St→Prop} {vs:List Value} {v:Value} {d:AV}
section
variable {B:a5} {n:Nat} {L:Addr} {H:HL} {σ:St} {α β:Type}
theorem ab {t:Sem Value} {Φ Φ':PV} (h:WV B n L t H σ Φ) (k:∀ v d σ,Φ v d σ→Φ' v d σ):WV B n L t H σ Φ':=
 jB h fun _ _ _ ⟨d,hd,q⟩=>⟨d,hd,k _ _ _ q⟩
theorem cf {t:Sem Bool} {Φ Φ':Bool→St→Prop} (h:WB B n L t H σ Φ) (k:∀ b σ,Φ b σ→Φ' b σ):WB B n L t H σ Φ':=jB h fun _ _ _ q=>k _ _ q
theorem cD {t:Sem Unit} {Φ Φ':St→Prop} (h:WU B n L t H σ Φ) (k:∀ σ,Φ σ→Φ' σ):WU B n L t H σ Φ':=jB h fun _ _ _ q=>k _ q
theorem jG {t:Sem Flow} {Φ Φ':PF} (h:WF B n L t H σ Φ) (k:∀ f σ,Φ f σ→Φ' f σ):WF B n L t H σ Φ':=jB h fun _ _ _ ⟨d,hd,q⟩=>⟨d,hd,k _ _ q⟩
theorem c5 {m:Sem Value} {Ψ:Value→Fz→St→Prop} (h:W B n L m H σ Ψ):W B n L (operate vs m) H σ Ψ:=a7 fun A F s hA x=>wpAny_operateT (h.run A F s hA x)
theorem j7 {ks:List Value} {k:Unit→Sem β} {Ψ:β→Fz→St→Prop} (h:W B n L (k ()) H σ Ψ):W B n L (release vs ks >>= k) H σ Ψ:=a7 fun A F s hA x=>wpAny_bind (wpAny_release (h.run A F s hA x))
theorem dz {ks:List Value} {Φ:St→Prop} (h:Φ σ):WU B n L (release vs ks) H σ Φ:=a7 fun A F s hA x=>wpAny_release (.here x h)
theorem ly {Φ:PV} (m:(v,d)∈H) (h:Φ v d σ):WV B n L (pure v) H σ Φ:=a7 fun _ _ _ _ x=>wpAny_pure (.here x ⟨d,x.hold m,h⟩)
theorem iq {a:α} {Φ:α→St→Prop} (h:Φ a σ):W B n L (pure a) H σ (fun a _ σ=>Φ a σ):=a7 fun _ _ _ _ x=>wpAny_pure (.here x h)
theorem f8 {Φ:PF} (h:Φ .next σ):WF B n L (pure .next) H σ Φ:=a7 fun _ _ _ _ x=>wpAny_pure (.here x ⟨.next,trivial,h⟩)
theorem ox {H':HL} {t:Sem α} {Ψ:α→Fz→St→Prop} (h:W B n L t H' σ Ψ) (e:∀ p∈H',p∈H):W B n L t H σ Ψ:=a7 fun A F s hA x=>by
 refine wpAny_mono (h.run A F s hA (x.weaken e)) (fun b s' z=>?_) fun _ _ z=>z
 obtain ⟨F',σ',a,b',c⟩:=z
 exact ⟨F',σ',⟨a.core,a.sub,a.loc,a.names,a.objs,a.nodup,a.apart,fun p hp=>(x.held p hp).mono b'.mono,x.low⟩,b',c⟩
end
end
section
variable {Φ:PV} {x l r e t:Expr} {v:Value} {rest:List Expr}
noncomputable def aS (B:a5) (v:Value) (d:AV):Prop:=∀ F:Fz,(∀ b o,B.G.get? b=some o→F b=some o)→Is B.P F v d
theorem aS.lit (B:a5) (v:Value):aS B v (.lit v):=fun _ _=>.lit v
section
variable {B:a5} {n:Nat} {L:Addr} {H:HL} {σ:St} {env:Env}
theorem yg {k pos} (h:Φ .none .none σ):WV B n L (eval (.Constant .none k pos) env) H σ Φ:=
 a7 fun _ _ _ _ x=>wpAny_Constant_none (.here x ⟨_,.none,h⟩)
theorem yV {b k pos} (h:Φ (.bool b) (.bool b) σ):WV B n L (eval (.Constant (.bool b) k pos) env) H σ Φ:=
 a7 fun _ _ _ _ x=>wpAny_Constant_bool (.here x ⟨_,.bool b,h⟩)
theorem B9 {i k pos} (h:∀ v,Φ v (.int i) σ):WV B n L (eval (.Constant (.int i) k pos) env) H σ Φ:=
 a7 fun _ _ _ _ x=>wpAny_Constant_int (.toks x ⟨_,.int i _,h _⟩)
theorem BI {x:Str} {l:List Nat} {k pos} (e:x=S l) (h:∀ v,Φ v (.str l) σ):WV B n L (eval (.Constant (.str x) k pos) env) H σ Φ:=
 a7 fun _ _ _ _ y=>wpAny_Constant_str (.toks y ⟨_,e▸.str l _,h _⟩)
theorem vz {x:Str} {pos d} (hm:(x,some d)∈σ.loc) (h:∀ v,Φ v d σ) (hk:autoParam (env.scope.kind=.function) bR) (hl:autoParam (env.kindOf x=some .local) bR)
 (hL:autoParam (env.locals=L) bR) (hd:(x==("__debug__":Str))=false:=by decide):WV B n L (eval (.Name x pos) env) H σ Φ:=by
 refine a7 fun A F s hA X=>?_
 refine x12 (X.loc) ?_;rintro m hns r
 refine x12 (r x d hm) ?_;rintro v e q
 exact wpAny_Name (wpAny_loadName_local hk hl (hL.symm▸hns) e (.here X ⟨d,q,h v⟩)) hd
theorem jV {x:Str} {pos} {d:AV} (e:nsIn B.K mainGlobals x=some (some v)) (c:aS B v d) (h:Φ v d σ) (hk:autoParam (env.scope.kind=.function) bR)
 (hl:autoParam (env.kindOf x=some .globalImplicit) bR) (hg:autoParam (env.globals=mainGlobals) bR) (hd:(x==("__debug__":Str))=false:=by decide):WV B n L (eval (.Name x pos) env) H σ Φ:=by
 refine a7 fun A F s hA X=>?_
 obtain ⟨mg,g⟩:=B.g
 refine Calls.Name_function_global hk hl (Calls.loadGlobal_global (hg.symm▸(g.keeps fun b o e=>X.sub _ _ (X.core b o e))) (mg_of B.X g e) ?_) hd
 exact .here X ⟨d,c F X.core,h⟩
theorem ou {x:Str} {pos} (e:nsIn B.K mainGlobals x=some none) (hb:bootBuiltins x=some v) (h:Φ v (.lit v) σ) (hk:autoParam (env.scope.kind=.function) bR)
 (hl:autoParam (env.kindOf x=some .globalImplicit) bR) (hg:autoParam (env.globals=mainGlobals) bR) (hbl:autoParam (env.builtins=builtinsNs) bR) (hn:x≠("__name__":Str):=by decide)
 (hd:(x==("__debug__":Str))=false:=by decide):WV B n L (eval (.Name x pos) env) H σ Φ:=by
 refine a7 fun A F s hA X=>?_
 obtain ⟨mg,g⟩:=B.g
 refine x12 (B.b) ?_;rintro mb b hmb
 have up:∀ b o,B.G.get? b=some o→s.heap.get? b=some o:=fun b o e=>X.sub _ _ (X.core b o e)
 refine Calls.Name_function_global hk hl (Calls.loadGlobal_builtin (hg.symm▸(g.keeps up)) (mg_none_of B.X g e) (hbl.symm▸(b.keeps up)) ((hmb x hn).trans hb) ?_) hd
 exact .here X ⟨_,.lit v,h⟩
theorem mO {op pos}
 (h:WV B n L (eval l env) H σ fun a x σ₁=>WV B n L (eval r env) ((a,x)::H) σ₁ fun b y σ₂=>WV B n L (binaryOp op a b) ((b,y)::(a,x)::H) σ₂ Φ):
 WV B n L (eval (.BinOp l op r pos) env) H σ Φ:=by
 rw [eval_BinOp]
 exact af (ab h fun a x σ₁ w=>af (a8 (ab w fun b y σ₂ w₂=>ag (c5 w₂))))
theorem iH {op pos}
 (h:WV B n L (eval l env) H σ fun a x σ₁=>WV B n L (eval r env) ((a,x)::H) σ₁ fun b y σ₂=>WV B n L (compareOp op a b) ((b,y)::(a,x)::H) σ₂ Φ)
 (hm:autoParam (behindInMarks op r=false) bW):WV B n L (eval (.Compare l [op] [r] pos) env) H σ Φ:=by
 rw [eval_Compare1,markedBehindIn_of_false hm]
 exact af (ab h fun a x σ₁ w=>af (a8 (ab w fun b y σ₂ w₂=>ag (c5 w₂))))
theorem eZ {b:Bool} {Φ:Bool→St→Prop} (m:(v,.bool b)∈H) (h:Φ b σ):WB B n L (truthy v) H σ Φ:=a7 fun A F s hA x=>by
 obtain rfl:=fT (x.hold m)
 exact wpAny_truthy_bool (.here x h)
theorem iQ {op pos whole} {Φ:Bool→St→Prop}
 (h:WV B n L (eval l env) H σ fun a x σ₁=>WV B n L (eval r env) ((a,x)::H) σ₁ fun b y σ₂=>WV B n L (compareOp op a b) ((b,y)::(a,x)::H) σ₂ fun _ z σ₃=>∃ c,z=.bool c∧Φ c σ₃)
 (hm:autoParam (behindInMarks op r=false) bW):WB B n L (isTrue (.Compare l [op] [r] pos) env whole) H σ Φ:=by
 rw [isTrue_Compare1,markedBehindIn_of_false hm]
 exact af (ab h fun a x σ₁ w=>af (a8 (ab w fun b y σ₂ w₂=>ag (af (c5 (ab w₂ fun c z σ₃ ⟨k,e,q⟩=>by
  subst e;exact a8 (eZ (.head _) q)))))))
theorem jb {Φ:Bool→St→Prop} (h:WV B n L (eval e env) H σ fun v d σ₁=>WB B n L (truthy v) ((v,d)::H) σ₁ Φ)
 (hs:∀ whole,isTrue e env whole=(do let v ←whole;standAt e.pos;holding [v] (truthy v)):=by with_unfolding_all exact fun _=>rfl):
 WB B n L (isTrue e env (eval e env)) H σ Φ:=by
 rw [hs]
 exact af (ab h fun v d σ₁ w=>ag (a8 w))
theorem Cu {pos whole} {Φ:Bool→St→Prop} (h:WB B n L (isTrue x env (eval x env)) H σ fun b σ₁=>Φ (!b) σ₁):WB B n L (isTrue (.UnaryOp .Not x pos) env whole) H σ Φ:=
 cv (k:=fun b=>pure !b) (cf h fun _ _ q=>iq q)
theorem Ba {pos whole} {Φ:Bool→St→Prop} (h:WB B n L (allTrue .And (x::rest) env) H σ Φ):WB B n L (isTrue (.BoolOp .And (x::rest) pos) env whole) H σ Φ:=h
theorem Ey {pos whole} {Φ:Bool→St→Prop} (h:WB B n L (allTrue .Or (x::rest) env) H σ Φ):WB B n L (isTrue (.BoolOp .Or (x::rest) pos) env whole) H σ Φ:=h
theorem oT {Φ:Bool→St→Prop} (h:Φ true σ):WB B n L (allTrue .And [] env) H σ Φ:=iq h
theorem uZ {Φ:Bool→St→Prop} (h:Φ false σ):WB B n L (allTrue .Or [] env) H σ Φ:=iq h
theorem iK {Φ:Bool→St→Prop} (h:WB B n L (isTrue x env (eval x env)) H σ fun b σ₁=>(b=true→WB B n L (allTrue .And rest env) H σ₁ Φ)∧(b=false→Φ false σ₁)):
 WB B n L (allTrue .And (x::rest) env) H σ Φ:=by
 rw [arm_allTrue_cons]
 refine cv (cf h fun b σ₁ q=>?_)
 induction b using Bool.casesOn with
 | true=>exact q.1 rfl
 | false=>exact iq (q.2 rfl)
theorem ki {Φ:Bool→St→Prop} (h:WB B n L (isTrue x env (eval x env)) H σ fun b σ₁=>(b=true→Φ true σ₁)∧(b=false→WB B n L (allTrue .Or rest env) H σ₁ Φ)):
 WB B n L (allTrue .Or (x::rest) env) H σ Φ:=by
 rw [arm_allTrue_cons]
 refine cv (cf h fun b σ₁ q=>?_)
 induction b using Bool.casesOn with
 | false=>exact q.2 rfl
 | true=>exact iq (q.1 rfl)
theorem mM {b o:Expr} {pos} (h:WB B n L (isTrue t env (eval t env)) H σ fun c σ₁=>(c=true→WV B n L (eval b env) H σ₁ Φ)∧(c=false→WV B n L (eval o env) H σ₁ Φ)):
 WV B n L (eval (.IfExp t b o pos) env) H σ Φ:=by
 rw [arm_eval_IfExp]
 refine cv (cf h fun b σ₁ q=>?_)
 induction b using Bool.casesOn with
 | true=>exact q.1 rfl
 | false=>exact q.2 rfl
theorem Co {pos} (h:WV B n L (eval x env) H σ fun v d σ₁=>WB B n L (truthy v) ((v,d)::H) σ₁ fun b σ₂=>Φ (.bool (!b)) (.bool (!b)) σ₂):
 WV B n L (eval (.UnaryOp .Not x pos) env) H σ Φ:=by
 rw [arm_eval_UnaryOp]
 refine af (ab h fun v d σ₁ w=>ag (a8<|a7 fun A F s hA x=>?_))
 exact not_value (wpAny_mono (w.run A F s hA x) (fun b s₂ z=>z.fin fun F₂ σ₂ x₂ q=>.here x₂ ⟨_,.bool _,q⟩) fun _ _ z=>z)
theorem w9 {pos} (h:WV B n L (eval x env) H σ fun _ d σ₁=>∃ i,d=.int i∧∀ v,Φ v (.int (-i)) σ₁):
 WV B n L (eval (.UnaryOp .USub x pos) env) H σ Φ:=by
 rw [arm_eval_UnaryOp]
 refine af (ab h fun v d σ₁ ⟨i,e,q⟩=>ag (a8<|a7 fun A F s hA x=>?_))
 subst e
 obtain ⟨t,rfl⟩:=ah (x.hold (.head _))
 exact neg_int (.toks x ⟨_,.int _ _,q _⟩)
theorem wd {Φ:PF} (h:Φ .next σ):WF B n L (execs [] env) H σ Φ:=a7 fun _ _ _ _ x=>wpAny_execs_nil (.here x ⟨.next,trivial,h⟩)
theorem zj {st:Stmt} {rest:List Stmt} {Φ:PF} (h:WF B n L (exec st env) H σ fun f σ₁=>match f with | .next=>WF B n L (execs rest env) H σ₁ Φ | f=>Φ f σ₁):
 WF B n L (execs (st::rest) env) H σ Φ:=a7 fun A F s hA x=>by
 rw [execs_cons]
 refine wpAny_bind (wpAny_mono (h.run A F s hA x) (fun f s₁ z=>z.then fun F₁ σ₁ x₁ ⟨e,he,q⟩=>?_) fun _ _ z=>z)
 cases f with
 | next=>rcases e with _ | _<;>first | exact he.elim | exact q.run A F₁ s₁ hA x₁
 | brk=>rcases e with _ | _<;>first | exact he.elim | exact wpAny_pure (.here x₁ ⟨.brk,trivial,q⟩)
 | cont=>rcases e with _ | _<;>first | exact he.elim | exact wpAny_pure (.here x₁ ⟨.cont,trivial,q⟩)
 | ret v=>rcases e with _ | _<;>first | exact he.elim | exact wpAny_pure (.here x₁ ⟨.ret _,he,q⟩)
theorem xN {pos} {Φ:PF} (h:Φ .next σ):WF B n L (exec (.Pass pos) env) H σ Φ:=a7 fun _ _ _ _ x=>wpAny_Pass (.here x ⟨.next,trivial,h⟩)
theorem nz {pos} {Φ:PF} (h:Φ .brk σ):WF B n L (exec (.Break pos) env) H σ Φ:=a7 fun _ _ _ _ x=>wpAny_Break (.here x ⟨.brk,trivial,h⟩)
theorem lO {pos} {Φ:PF} (h:Φ .cont σ):WF B n L (exec (.Continue pos) env) H σ Φ:=a7 fun _ _ _ _ x=>wpAny_Continue (.here x ⟨.cont,trivial,h⟩)
theorem kI {pos} {Φ:PF} (h:WV B n L (eval e env) H σ fun _ d σ₁=>Φ (.ret d) σ₁):WF B n L (exec (.Return (some e) pos) env) H σ Φ:=a7 fun A F s hA x=>
 wpAny_Return_some (wpAny_mono (h.run A F s hA x) (fun v s₁ z=>z.fin fun F₁ σ₁ x₁ ⟨d,hd,q⟩=>.here x₁ ⟨.ret d,hd,q⟩) fun _ _ z=>z)
theorem ji {pos} {Φ:PF} (h:Φ (.ret .none) σ):WF B n L (exec (.Return none pos) env) H σ Φ:=a7 fun _ _ _ _ x=>wpAny_Return_none (.here x ⟨.ret .none,.none,h⟩)
theorem tY {body orelse:List Stmt} {pos} {Φ:PF}
 (h:WB B n L (isTrue t env (eval t env)) H σ fun b σ₁=>(b=true→WF B n L (execs body env) H σ₁ Φ)∧(b=false→WF B n L (execs orelse env) H σ₁ Φ)):WF B n L (exec (.If t body orelse pos) env) H σ Φ:=by
 rw [arm_exec_If]
 refine ag (cv (cf h fun b σ₁ q=>?_))
 induction b using Bool.casesOn with
 | true=>exact q.1 rfl
 | false=>exact q.2 rfl
theorem lM {pos} {Φ:PF} (h:WV B n L (eval e env) H σ fun _ _ σ₁=>Φ .next σ₁) (hi:autoParam (interactive env=false) bR) (hs:autoParam (swapsWith e none pos.line env=pure false) bR):
 WF B n L (exec (.Expr e pos) env) H σ Φ:=by
 rw [exec_Expr env e pos hi hs]
 refine ag (af (ab h fun v d σ₁ q=>a7 fun A F s hA x=>?_))
 exact wpAny_dropValue (.here x ⟨.next,trivial,q⟩)
theorem pY {msg pos} {Φ:PF} (h:WB B n L (isTrue t env (eval t env)) H σ fun b σ₁=>b=true∧Φ .next σ₁):WF B n L (exec (.Assert t msg pos) env) H σ Φ:=by
 rw [arm_exec_Assert]
 refine ag (cv (cf h fun b σ₁ q=>?_))
 obtain ⟨rfl,q⟩:=q
 exact f8 q
theorem fh {x:Str} {Φ:St→Prop} (h:WU B n L (storeName env x v) H σ Φ):WU B n L (bindName env x v) H σ Φ:=a7 fun A F s hA x=>wpAny_bindName (h.run A F s hA x)
theorem cV {x:Str} {p pos} {Φ:PF} (h:WV B n L (eval e env) H σ fun v d σ₁=>WU B n L (storeName env x v) ((v,d)::H) σ₁ fun σ₂=>Φ .next σ₂)
 (hs:autoParam (swapsWith e (some (.Name x p)) pos.line env=pure false) bR):WF B n L (exec (.Assign [.Name x p] e pos) env) H σ Φ:=by
 rw [exec_Assign_Name env x p e pos hs]
 exact ag (af (ab h fun v d σ₁ w=>ag (bz (fh (cD w fun σ₂ q=>f8 q)))))
theorem qJ {x:Str} {p pos op} {Φ:PF}
 (h:WV B n L (loadName env x) H σ fun a d σ₁=>WV B n L (eval e env) ((a,d)::H) σ₁ fun b y σ₂=>WV B n L (inplaceOp op a b) ((b,y)::(a,d)::H) σ₂ fun c z σ₃=>WU B n L (storeName env x c) ((c,z)::H) σ₃ fun σ₄=>Φ .next σ₄):
 WF B n L (exec (.AugAssign (.Name x p) op e pos) env) H σ Φ:=by
 rw [exec_AugAssign_Name]
 refine ag (af (ab h fun a d σ₁ w=>?_))
 refine af (a8 (ab w fun b y σ₂ w₂=>?_))
 refine ag (af (c5 (ab w₂ fun c z σ₃ w₃=>?_)))
 refine ag (bz (fh (ox (cD w₃ fun σ₄ q=>f8 q) fun q hq=>?_)))
 rcases mC0 hq with rfl | hq
 · exact .head _
 · exact .tail _ (.tail _ (.tail _ hq))
end
end
section
variable {d:AV} {l:List AV} {ms:List (List Nat)} {P:Params} {F:Fz} {vs:List Value} {h:Heap} {v:Value} {p:PyData} {Ψ:Bool→St→Prop}
theorem az:sizeLine=16777216:=by decide
theorem jJ (a b:List Nat):S a++S b=S (a++b):=by
 show Str.append (S a) (S b)= _
 simp [Str.append,S]
theorem am (a:List Nat):(S a).length=a.length:=by simp [Str.length,S]
theorem BG {a b:List Nat}:S a=S b↔a=b:=by
 constructor
 · intro e;injection e with e;simpa using e
 · rintro rfl;rfl
theorem pz (a b:List Nat):(S a==S b)=decide (a=b):=by
 rw [Bool.eq_iff_iff];simp [BG]
noncomputable def aD:List AV→Option (List (List Nat))
 | []=>some []
 | .str x::r=>(aD r).map (x::·)
 | _=>none
theorem i7 (e:aD (d::l)=some ms):∃ x m,d=.str x∧aD l=some m∧ms=x::m:=by
 rcases d with _ | _<;>try contradiction
 refine x12 (Option.map_eq_some_iff.mp e) ?_;rintro m e1 e2
 exact ⟨_,m,rfl,e1,e2.symm⟩
theorem dC (h:IsAll P F vs l) (e:aD l=some ms):StrsAre vs (ms.map S):=
 h.ind (C:=fun vs l=>∀ ms,aD l=some ms→StrsAre vs (ms.map S)) (fun ms e=>Option.some.inj e▸.nil) (fun v d vs l q r ih ms e=>by
  refine x23 (i7 e) ?_;rintro x m rfl e1 rfl
  obtain ⟨t,rfl⟩:=ak q
  exact .cons (S x) _ (ih m e1)) ms e
theorem wl (ms:List (List Nat)) (x:List Nat):((ms.map S).any fun y=>y==S x)=decide (x∈ms):=by
 induction ms with
 | nil=>exact (decide_eq_false (nomatch ·)).symm
 | cons m r ih=>
  rw [List.map_cons,List.any_cons,ih,pz,Bool.eq_iff_iff,Bool.or_eq_true,decide_eq_true_iff,decide_eq_true_iff,decide_eq_true_iff]
  constructor
  · rintro (h | h)
    · exact h▸.head _
    · exact .tail _ h
  · intro h
    cases h with
    | head=>exact .inl rfl
    | tail _ h=>exact .inr h
mutual
noncomputable def eB:AV→Option PyData
 | .none=>some .none
 | .bool b=>some (.bool b)
 | .int i=>some (.int i)
 | .str x=>some (.str (S x))
 | .tup l=>(dataAll l).map .tuple
 | .lst l=>(dataAll l).map .list
 | _=>none
noncomputable def dataAll:List AV→Option (List PyData)
 | []=>some []
 | d::r=>(eB d).bind fun a=>(dataAll r).map (a::·)
end
theorem nN {ps:List PyData} (e:dataAll (d::l)=some ps):∃ a b,eB d=some a∧dataAll l=some b∧ps=a::b:=by
 refine x12 (Option.bind_eq_some_iff.mp (show (eB d).bind (fun a=>(dataAll l).map (a::·))=some ps from e)) ?_;rintro a e1 e2
 refine x12 (Option.map_eq_some_iff.mp e2) ?_;rintro b e3 e4
 exact ⟨a,b,e1,e3,e4.symm⟩
theorem ft (k:∀ b o,F b=some o→h.get? b=some o) (i:Is P F v d) (e:eB d=some p):∃ as,Reads h v p as:=
 Is.rec (motive_1:=fun v d _=>∀ p,eB d=some p→∃ as,Reads h v p as) (motive_2:=fun vs l _=>∀ ps,dataAll l=some ps→∃ as,ReadsAll h vs ps as) (motive_3:=fun _ _ _=>True)
  (fun _ e=>Option.some.inj e▸⟨_,.none⟩) (fun b _ e=>Option.some.inj e▸⟨_,.bool b⟩) (fun i t _ e=>Option.some.inj e▸⟨_,.int i t⟩) (fun x t _ e=>Option.some.inj e▸⟨_,.str _ t⟩) (fun _ _ e=>nomatch e) (fun _ _ e=>nomatch e)
  (fun h _ ih p e=>by
   refine x12 (Option.map_eq_some_iff.mp (show (dataAll _).map PyData.tuple=some p from e)) ?_;rintro qs e1 rfl
   obtain ⟨as,q⟩:=ih qs e1
   exact ⟨as,.tuple (k _ _ h) rfl rfl q⟩)
  (fun h _ ih p e=>by
   refine x12 (Option.map_eq_some_iff.mp (show (dataAll _).map PyData.list=some p from e)) ?_;rintro qs e1 rfl
   obtain ⟨as,q⟩:=ih qs e1
   exact ⟨_,.list (k _ _ h) rfl rfl q⟩)
  (fun _ _ _ _ _ _ e=>nomatch e) (fun _ _ e=>nomatch e) (fun _ _ _ e=>nomatch e) (fun _ _ e=>nomatch e)
  (fun _ e=>Option.some.inj e▸⟨_,.nil⟩)
  (fun _ _ i1 i2 ps e=>by
   refine x23 (nN e) ?_;rintro a b ea eb rfl
   obtain ⟨as,q⟩:=i1 a ea
   obtain ⟨bs,q'⟩:=i2 b eb
   exact ⟨_,.cons q q'⟩)
  trivial (fun _ _ _ _=>trivial) i p e
theorem IsAll.length (h:IsAll P F vs l):vs.length=l.length:=h.ind (C:=fun vs l=>vs.length=l.length) rfl fun _ _ _ _ _ _ c=>congrArg (·+1) c
section
variable {B:a5} {n:Nat} {L:Addr} {H:HL} {σ:St} {a b:Value} {i j:Int} {x y:List Nat} {Φ:PV}
theorem Bt (ma:(a,.int i)∈H) (mb:(b,.int j)∈H) (h:∀ v,Φ v (.int (i+j)) σ):WV B n L (binaryOp .Add a b) H σ Φ:=a7 fun A F s hA X=>by
 obtain ⟨t1,rfl⟩:=ah (X.hold ma);obtain ⟨t2,rfl⟩:=ah (X.hold mb)
 with_reducible exact P.add_int (.toks X ⟨_,.int _ _,h _⟩)
theorem Db (ma:(a,.int i)∈H) (mb:(b,.int j)∈H) (h:∀ v,Φ v (.int (i - j)) σ):WV B n L (binaryOp .Sub a b) H σ Φ:=a7 fun A F s hA X=>by
 obtain ⟨t1,rfl⟩:=ah (X.hold ma);obtain ⟨t2,rfl⟩:=ah (X.hold mb)
 with_reducible exact P.sub_int (.toks X ⟨_,.int _ _,h _⟩)
theorem Ak (ma:(a,.int i)∈H) (mb:(b,.int j)∈H) (hb:j≠0) (h:∀ v,Φ v (.int (i.fmod j)) σ):WV B n L (binaryOp .Mod a b) H σ Φ:=a7 fun A F s hA X=>by
 obtain ⟨t1,rfl⟩:=ah (X.hold ma);obtain ⟨t2,rfl⟩:=ah (X.hold mb)
 with_reducible exact mod_int' hb (.toks X ⟨_,.int _ _,h _⟩)
theorem zD (ma:(a,.int i)∈H) (mb:(b,.int j)∈H) (h:∀ v,Φ v (.int (i+j)) σ):WV B n L (inplaceOp .Add a b) H σ Φ:=a7 fun A F s hA X=>by
 obtain ⟨t1,rfl⟩:=ah (X.hold ma);obtain ⟨t2,rfl⟩:=ah (X.hold mb)
 with_reducible exact P.iadd_int (.toks X ⟨_,.int _ _,h _⟩)
theorem yZ (ma:(a,.int i)∈H) (mb:(b,.int j)∈H) (h:∀ v,Φ v (.int (i - j)) σ):WV B n L (inplaceOp .Sub a b) H σ Φ:=a7 fun A F s hA X=>by
 obtain ⟨t1,rfl⟩:=ah (X.hold ma);obtain ⟨t2,rfl⟩:=ah (X.hold mb)
 with_reducible exact P.isub_int (.toks X ⟨_,.int _ _,h _⟩)
theorem EZ (ma:(a,.int i)∈H) (mb:(b,.int j)∈H) (h:∀ v,Φ v (.bool (decide (i < j))) σ):WV B n L (compareOp .Lt a b) H σ Φ:=a7 fun A F s hA X=>by
 obtain ⟨t1,rfl⟩:=ah (X.hold ma);obtain ⟨t2,rfl⟩:=ah (X.hold mb)
 with_reducible exact P.lt_int (.here X ⟨_,.bool _,h _⟩)
theorem Ej (ma:(a,.int i)∈H) (mb:(b,.int j)∈H) (h:∀ v,Φ v (.bool (decide (i≤j))) σ):WV B n L (compareOp .LtE a b) H σ Φ:=a7 fun A F s hA X=>by
 obtain ⟨t1,rfl⟩:=ah (X.hold ma);obtain ⟨t2,rfl⟩:=ah (X.hold mb)
 with_reducible exact P.le_int (.here X ⟨_,.bool _,h _⟩)
theorem DL (ma:(a,.int i)∈H) (mb:(b,.int j)∈H) (h:∀ v,Φ v (.bool (decide (j < i))) σ):WV B n L (compareOp .Gt a b) H σ Φ:=a7 fun A F s hA X=>by
 obtain ⟨t1,rfl⟩:=ah (X.hold ma);obtain ⟨t2,rfl⟩:=ah (X.hold mb)
 with_reducible exact P.gt_int (.here X ⟨_,.bool _,h _⟩)
theorem Ek (ma:(a,.int i)∈H) (mb:(b,.int j)∈H) (h:∀ v,Φ v (.bool (decide (j≤i))) σ):WV B n L (compareOp .GtE a b) H σ Φ:=a7 fun A F s hA X=>by
 obtain ⟨t1,rfl⟩:=ah (X.hold ma);obtain ⟨t2,rfl⟩:=ah (X.hold mb)
 with_reducible exact P.ge_int (.here X ⟨_,.bool _,h _⟩)
theorem E3 (ma:(a,.int i)∈H) (mb:(b,.int j)∈H) (h:∀ v,Φ v (.bool (decide (i=j))) σ):WV B n L (compareOp .Eq a b) H σ Φ:=a7 fun A F s hA X=>by
 obtain ⟨t1,rfl⟩:=ah (X.hold ma);obtain ⟨t2,rfl⟩:=ah (X.hold mb)
 have e:(i==j)=decide (i=j):=by rw [Bool.eq_iff_iff];simp
 with_reducible exact P.eq_int (.here X ⟨_,.bool _,e▸h _⟩)
theorem Ee (ma:(a,.int i)∈H) (mb:(b,.int j)∈H) (h:∀ v,Φ v (.bool (!decide (i=j))) σ):WV B n L (compareOp .NotEq a b) H σ Φ:=a7 fun A F s hA X=>by
 obtain ⟨t1,rfl⟩:=ah (X.hold ma);obtain ⟨t2,rfl⟩:=ah (X.hold mb)
 have e:(i !=j)= !decide (i=j):=by rw [Bool.eq_iff_iff];simp
 with_reducible exact P.ne_int (.here X ⟨_,.bool _,e▸h _⟩)
theorem Cv (ma:(a,.int i)∈H) (h:Ψ (!decide (i=0)) σ):WB B n L (truthy a) H σ Ψ:=a7 fun A F s hA X=>by
 obtain ⟨t1,rfl⟩:=ah (X.hold ma)
 have e:(i !=0)= !decide (i=0):=by rw [Bool.eq_iff_iff];simp
 with_reducible exact P.truthy_int (.here X (e▸h))
theorem zg (ma:(a,.none)∈H) (h:Ψ false σ):WB B n L (truthy a) H σ Ψ:=a7 fun A F s hA X=>by
 obtain rfl:=cm (X.hold ma)
 with_reducible exact truthy_none (.here X h)
theorem xy (ma:(a,.str x)∈H) (mb:(b,.str y)∈H) (hz:x.length+y.length≤16777216) (h:∀ v,Φ v (.str (x++y)) σ):WV B n L (binaryOp .Add a b) H σ Φ:=a7 fun A F s hA X=>by
 obtain ⟨t1,rfl⟩:=ak (X.hold ma);obtain ⟨t2,rfl⟩:=ak (X.hold mb)
 with_reducible exact add_str (fun _ _=>.toks X ⟨_,jJ x y▸.str _ _,h _⟩) (by rw [am,am,az];exact hz)
theorem uw (ma:(a,.str x)∈H) (mb:(b,.str y)∈H) (hz:x.length+y.length≤16777216) (h:∀ v,Φ v (.str (x++y)) σ):WV B n L (inplaceOp .Add a b) H σ Φ:=a7 fun A F s hA X=>by
 obtain ⟨t1,rfl⟩:=ak (X.hold ma);obtain ⟨t2,rfl⟩:=ak (X.hold mb)
 with_reducible exact iadd_str (fun _ _=>.toks X ⟨_,jJ x y▸.str _ _,h _⟩) (by rw [am,am,az];exact hz)
theorem BN (ma:(a,.str x)∈H) (mb:(b,.str y)∈H) (h:∀ v,Φ v (.bool (decide (x=y))) σ):WV B n L (compareOp .Eq a b) H σ Φ:=a7 fun A F s hA X=>by
 obtain ⟨t1,rfl⟩:=ak (X.hold ma);obtain ⟨t2,rfl⟩:=ak (X.hold mb)
 with_reducible exact eq_str (.here X ⟨_,.bool _,pz x y▸h _⟩)
theorem Bn (ma:(a,.str x)∈H) (mb:(b,.str y)∈H) (h:∀ v,Φ v (.bool (!decide (x=y))) σ):WV B n L (compareOp .NotEq a b) H σ Φ:=a7 fun A F s hA X=>by
 obtain ⟨t1,rfl⟩:=ak (X.hold ma);obtain ⟨t2,rfl⟩:=ak (X.hold mb)
 have e:(S x !=S y)= !decide (x=y):=by rw [bne,pz]
 with_reducible exact ne_str (.here X ⟨_,.bool _,e▸h _⟩)
theorem CR (ma:(a,.str x)∈H) (hz:x.length≤16777216) (h:Ψ (!decide (x=[])) σ):WB B n L (truthy a) H σ Ψ:=a7 fun A F s hA X=>by
 obtain ⟨t1,rfl⟩:=ak (X.hold ma)
 have e:(((S x).length:Int) !=0)= !decide (x=[]):=by rw [am,Bool.eq_iff_iff];simp
 with_reducible exact P.truthy_str (by rw [am];omega) (.toks X (e▸h))
theorem sd (ma:(a,d)∈H) (mb:(b,.none)∈H) (hd:∀ P F v,Is P F v d→(v==Value.none)=c) (h:∀ v,Φ v (.bool c) σ):WV B n L (compareOp .Is a b) H σ Φ:=a7 fun A F s hA X=>by
 have p:=X.hold ma;obtain rfl:=cm (X.hold mb)
 with_reducible exact is_none (.here X ⟨_,.bool _,hd _ _ _ p▸h _⟩)
theorem jO (ma:(a,d)∈H) (mb:(b,.none)∈H) (hd:∀ P F v,Is P F v d→(v==Value.none)=c) (h:∀ v,Φ v (.bool (!c)) σ):WV B n L (compareOp .IsNot a b) H σ Φ:=a7 fun A F s hA X=>by
 have p:=X.hold ma;obtain rfl:=cm (X.hold mb)
 with_reducible exact isNot_none (.here X ⟨_,.bool _,hd _ _ _ p▸h _⟩)
theorem tU (P:Params) (F:Fz) (v:Value) (h:Is P F v .none):(v==Value.none)=true:=(cm h).symm▸rfl
theorem oV {x:List Nat} (P:Params) (F:Fz) (v:Value) (h:Is P F v (.str x)):(v==Value.none)=false:=(ak h).elim fun _ e=>e.symm▸rfl
theorem s9 {x:Int} (P:Params) (F:Fz) (v:Value) (h:Is P F v (.int x)):(v==Value.none)=false:=(ah h).elim fun _ e=>e.symm▸rfl
theorem rE {x:Addr} (P:Params) (F:Fz) (v:Value) (h:Is P F v (.ref x)):(v==Value.none)=false:=(al h).symm▸rfl
theorem qT {x} (P:Params) (F:Fz) (v:Value) (h:Is P F v (.dct x)):(v==Value.none)=false:=(h9 h).elim fun _ e=>e.elim fun _ e=>e.elim fun _ e=>e.1.symm▸rfl
theorem cG (k:∀ b o,F b=some o→h.get? b=some o) {t:Addr} {m:Nat} (e:F t=some (ik vs m)):IsTup h t vs.toArray:=⟨_,k _ _ e,rfl,m,rfl⟩
theorem bP (k:∀ b o,F b=some o→h.get? b=some o) {t:Addr} {m:Nat} (e:F t=some (aA vs m)):h.IsList t vs.toArray:=⟨_,k _ _ e,rfl,m,rfl⟩
theorem vE (ma:(a,.str x)∈H) (mb:(b,.tup l)∈H) (e:aD l=some ms) (h:∀ v,Φ v (.bool (decide (x∈ms))) σ):WV B n L (compareOp .In a b) H σ Φ:=a7 fun A F s hA X=>by
 obtain ⟨t1,rfl⟩:=ak (X.hold ma);refine x33 (cx (X.hold mb)) ?_;rintro r2 vs n1 rfl h1 h2
 with_reducible exact in_tuple_strs (cG X.sub h1) (by simpa using dC h2 e) (.here X ⟨_,.bool _,wl ms x▸h _⟩)
theorem qX (ma:(a,.str x)∈H) (mb:(b,.tup l)∈H) (e:aD l=some ms) (h:∀ v,Φ v (.bool (!decide (x∈ms))) σ):WV B n L (compareOp .NotIn a b) H σ Φ:=a7 fun A F s hA X=>by
 obtain ⟨t1,rfl⟩:=ak (X.hold ma);refine x33 (cx (X.hold mb)) ?_;rintro r2 vs n1 rfl h1 h2
 with_reducible exact notin_tuple_strs (cG X.sub h1) (by simpa using dC h2 e) (.here X ⟨_,.bool _,wl ms x▸h _⟩)
theorem qo {e:AV} {q:PyData} {c:Bool} (ma:(a,d)∈H) (mb:(b,e)∈H) (hd:eB d=some p) (he:eB e=some q) (sp:SeqAt.shaped p=true) (sq:SeqAt.shaped q=true) (hc:PyData.eqv p q=c)
 (h:∀ v,Φ v (.bool c) σ):WV B n L (compareOp .Eq a b) H σ Φ:=a7 fun A F s hA X=>by
 obtain ⟨as,ra⟩:=ft X.sub (X.hold ma) hd
 obtain ⟨bs,rb⟩:=ft X.sub (X.hold mb) he
 refine eq_dataH ra rb sp sq ?_ (.here X ⟨_,.bool _,hc▸h _⟩)
 have:=hA.units
 show A.units+64 < 9900
 omega
theorem qe {ps:List PyData} {c:Bool} (ma:(a,d)∈H) (mb:(b,.tup l)∈H) (hd:eB d=some p) (he:dataAll l=some ps) (sp:p.canLay0=true) (sq:PyData.canLayAll0 ps=true)
 (dp:p.depth≤64) (hc:(ps.any fun y=>PyData.eqv y p)=c) (h:∀ v,Φ v (.bool c) σ):WV B n L (compareOp .In a b) H σ Φ:=a7 fun A F s hA X=>by
 obtain ⟨as,ra⟩:=ft X.sub (X.hold ma) hd
 obtain ⟨bs,rb⟩:=ft (p:=.tuple ps) X.sub (X.hold mb) (show (dataAll l).map PyData.tuple=some (.tuple ps) by refine he▸?_;rfl)
 refine SeqAt.in_tuple_reads rb ra sq sp ?_ (.here X ⟨_,.bool _,hc▸h _⟩)
 have:=hA.units
 show A.units+1+min (PyData.depthAll ps) p.depth < 9900
 omega
end
end
section
variable {x:Str} {v:Value} {es:List DictEntry} {fs:FL} {d:AV} {ex:List Addr}
noncomputable def bB (x:Str) (fs:FL):Option AV:=(fs.find? (fun p=>p.1==x)).map (·.2)
noncomputable def bC (x:Str) (d:AV):FL→FL
 | []=>[(x,d)]
 | p::r=>if p.1==x then (x,d)::r else p::bC x d r
section
variable {P:Params} {F:Fz}
theorem gS (x:Str) (d:AV) (r:FL):bB x ((x,d)::r)=some d:=by unfold bB;rw [List.find?_cons,beq_self_eq_true];rfl
theorem fO {y:Str} (d:AV) (r:FL) (q:¬(y==x)=true):bB x ((y,d)::r)=bB x r:=by unfold bB;rw [List.find?_cons];simp only [q]
theorem pQ {y:Str} {t:Tok} {w:Value} (q:¬(y==x)=true) (e:getL x es=some (some w)):getL x (⟨PyData.keyHash P y,.str y t,v⟩::es)=some (some w):=by
 simp only [getL,List.find?_cons,Value.isStr,q] at e ⊢
 split at e
 · rename_i h;cases e;rw [h]
 · split at e<;>cases e
theorem k6 (h:IsEnts P F es fs) (e:bB x fs=some d):∃ v,getL x es=some (some v)∧Is P F v d:=
 h.ind (C:=fun es fs=>bB x fs=some d→∃ v,getL x es=some (some v)∧Is P F v d) nofun (fun y t v c es l h r ih e=>by
  by_cases q:(y==x)=true
  · have z:=eq_of_beq q
    subst z
    exact ⟨v,by simp [getL,Value.isStr],Option.some.inj ((gS _ c l).symm.trans e)▸h⟩
  · refine x12 (ih ((fO c l q).symm.trans e)) ?_;rintro w e1 e2
    exact ⟨w,pQ q e1,e2⟩) e
theorem lE (h:IsEnts P F es fs):es.any (·.refKey)=false:=h.ind (C:=fun es _=>es.any (·.refKey)=false) rfl fun _ _ _ _ _ _ _ _ c=>c
theorem nE (h:IsEnts P F es fs) (e:bB x fs=none):es.find? (·.key.isStr x)=none:=
 h.ind (C:=fun es fs=>bB x fs=none→es.find? (·.key.isStr x)=none) (fun _=>rfl) (fun y t v d es l _ _ ih e=>by
  by_cases q:(y==x)=true
  · have z:=eq_of_beq q
    subst z
    exact nomatch (gS _ d l).symm.trans e
  · rw [List.find?_cons]
    simp only [Value.isStr,q]
    exact ih ((fO d l q).symm.trans e)) e
theorem eJ (h:IsEnts P F es fs) (e:bB x fs=none):getL x es=some none:=by
 unfold getL
 rw [nE h e]
 dsimp only
 rw [lE h];rfl
theorem oO (h:IsEnts P F es fs):(getL x es).isSome=true:=by
 induction e:bB x fs using Option.casesOn with
 | none=>rw [eJ h e];rfl
 | some d=>refine x12 (k6 h e) ?_;rintro v e1 _;rw [e1];rfl
theorem kg {t:Tok} (q:Is P F v d):∀ {es:List DictEntry} {fs:FL},IsEnts P F es fs→IsEnts P F (putL x (PyData.keyHash P x) (.str x t) v es) (bC x d fs):=fun {_} {_} h=>
 h.ind (C:=fun es fs=>IsEnts P F (putL x (PyData.keyHash P x) (.str x t) v es) (bC x d fs)) (.cons q .nil) fun y u w e es fs h r ih=>by
  unfold putL bC
  by_cases c:(y==x)=true
  · rw [if_pos c]
    have c2:(⟨PyData.keyHash P y,.str y u,w⟩:DictEntry).key==.str x t→True:=fun _=>trivial
    clear c2
    split
    · obtain rfl:=beq_iff_eq.mp c
      exact .cons q r
    · rename_i n;exact absurd c n
  · rw [if_neg c]
    split
    · rename_i n;exact absurd n c
    · exact .cons h ih
theorem ee:∀ {es:List DictEntry} {fs:FL},IsEnts P F es fs→es.length=fs.length
 | _,_,.nil=>rfl
 | _,_,.cons _ r=>by simp [ee r]
end
noncomputable def cr (K:Frag) (C:Addr) (x:Str):Bool:=plainGet K C x&&hasDictIn K C&&(match findIn K (.ref C) x with | some a=>noGet K a | none=>false)
noncomputable def dt (K:Frag) (C:Addr) (x:Str):Bool:=(findIn K (.ref C) "__setattr__"==some (some (.builtin "object.__setattr__")))&&plainOver K C&&(takerIn K C x==some none)&&hasDictIn K C
noncomputable def bV (K:Frag) (C:Addr) (x:Str) (f:Addr):Bool:=
 plainGet K C x&&hasDictIn K C&&(findIn K (.ref C) x==some (some (.ref f)))&&isFn K (.ref f)&&(specialIn K (.ref f) "__get__"==some (some (.builtin "function.__get__")))&&(takesIn K (.ref f)==some false)&& !(copiedNames.contains x)
noncomputable def cJ:AV→Bool
 | .lit v=>handedIn v
 | .any=>false
 | _=>true
theorem nT {P:Params} {F:Fz} (h:Is P F v d) (e:cJ d=true):handedIn v=true:=by
 induction d using AV.casesOn with
 | none=>exact (cm h).symm▸rfl
 | bool=>exact (fT h).symm▸rfl
 | int=>exact (ah h).elim fun _ q=>q.symm▸rfl
 | str=>exact (ak h).elim fun _ q=>q.symm▸rfl
 | lit=>exact (n9 h).symm▸e
 | ref=>exact (al h).symm▸rfl
 | tup=>exact x33 (cx h) fun _ _ _ q _ _=>q.symm▸rfl
 | lst=>exact x33 (bd h) fun _ _ _ q _ _=>q.symm▸rfl
 | dct=>exact x34 (h9 h) fun _ _ _ q _ _ _=>q.symm▸rfl
 | meth=>exact x12 (fX h) fun _ q _=>q.symm▸rfl
 | obj=>exact x23 (eG h) fun _ _ q _ _=>q.symm▸rfl
 | any=>exact Bool.noConfusion e
noncomputable def ix (G h:Heap) (L:Addr) (ex:List Addr):List (Addr×Obj):=
 (List.range h.objs.size).filterMap fun a=>if a=L∨a∈ex∨(G.get? a).isSome=true then none else (h.get? a).map (a,·)
theorem fj {a:Addr} {o:Obj}:(a,o)∈ix G h L ex↔h.get? a=some o∧a≠L∧a∉ex∧G.get? a=none:=by
 unfold ix
 rw [List.mem_filterMap]
 constructor
 · intro z9;refine x12 z9 ?_;clear z9;rintro b hb e
   split at e
   · contradiction
   · rename_i q
     refine x12 (Option.map_eq_some_iff.mp e) ?_;rintro o' h1 h2
     cases h2
     simp only [not_or,Bool.not_eq_true,Option.isSome_eq_false_iff,Option.isNone_iff_eq_none] at q
     exact ⟨h1,q.1,q.2.1,q.2.2⟩
 · intro z9;refine x04 z9 ?_;clear z9;rintro h1 h2 h3 h4
   refine ⟨a,List.mem_range.mpr (Heap.lt_size h1),?_⟩
   rw [if_neg (by simp only [not_or,Bool.not_eq_true,Option.isSome_eq_false_iff,Option.isNone_iff_eq_none];exact ⟨h2,h3,h4⟩),h1];rfl
theorem kW:News G L h (ix G h L ex):=fun p hp=>by
 obtain ⟨a,o⟩:=p
 refine x04 (fj.mp hp) ?_;rintro h1 h2 _ h4
 exact ⟨h1,h2,h4⟩
theorem tL {h':Heap} {m:Str→Option Value} {news:List (Addr×Obj)} (low:∀ b o,G.get? b=some o→h.get? b=some o) (F':Fr G L h' m) (N':News G L h' news) (sub:∀ p∈ix G h L ex,p∈news):
 ∀ b o,b≠L→b∉ex→h.get? b=some o→h'.get? b=some o:=by
 intro b o h1 h2 h3
 induction q:G.get? b using Option.casesOn with
 | none=>exact (N' _ (sub (b,o) (fj.mpr ⟨h3,h1,h2,q⟩))).1
 | some o'=>
  have:=low _ _ q
  rw [h3] at this
  obtain rfl:=Option.some.inj this
  exact F'.keep _ _ q
section
variable {P:Params} {G:Heap} {L:Addr} {F:Fz} {H:HL} {h:Heap} {loc:LL} {objs pre post:OL} {a:Addr} {o o':AO}
theorem Holds.frame (x:Holds P G L F H ⟨loc,objs⟩ h):∃ m,Fr G L h m∧∀ y d,(y,some d)∈loc→∃ v,m y=some v∧Is P F v d:=by
 refine x12 (x.loc) ?_;rintro m hm r
 exact ⟨m,⟨hm,fun b o e=>x.sub _ _ (x.core _ _ e),x.low⟩,r⟩
theorem Holds.outG (x:Holds P G L F H ⟨loc,objs⟩ h) {b:Addr} (hb:b∈L::a9 objs):G.get? b=none:=by
 induction q:G.get? b using Option.casesOn with
 | none=>rfl
 | some o=>have:=x.apart b hb;rw [x.core _ _ q] at this;contradiction
theorem Holds.obj (x:Holds P G L F H ⟨loc,objs⟩ h) (m:(a,o)∈objs):OAt P F h a o:=x.objs _ m
theorem cC:a9 (pre++(a,o)::post)=a9 pre++(a::(o.more++a9 post)):=by rw [b7];rfl
theorem Holds.change (x:Holds P G L F H ⟨loc,pre++(a,o)::post⟩ h) {h':Heap} {c:Addr} (hc:c=a∨c∈o.more) (em:o'.more=o.more)
 (k : ∀ b y,b≠L→b≠c→h.get? b=some y→h'.get? b=some y) (hl:∃ m,h'.Ns L m∧∀ x d,(x,some d)∈loc→∃ v,m x=some v∧Is P F v d) (q:OAt P F h' a o'):Holds P G L F H ⟨loc,pre++(a,o')::post⟩ h':=by
 have hcm:c∈a::o.more:=by rcases hc with rfl | hc;exact .head _;exact .tail _ hc
 have hnd:=x.nodup
 have eo:a9 (pre++(a,o')::post)=a9 (pre++(a,o)::post):=by rw [cC,cC,em]
 have hco:c∈a9 (pre++(a,o)::post):=ay.mpr ⟨(a,o),by simp,by rcases hc with h | h;exact .inl h;exact .inr h⟩
 have other:∀ p:Addr×AO,p∈pre∨p∈post→∀ b,b=p.1∨b∈p.2.more→b≠c:=by
  intro p hp b hb e
  rw [List.nodup_cons] at hnd
  have nd:=hnd.2
  rw [show (⟨loc,pre++(a,o)::post⟩:St).objs=pre++(a,o)::post from rfl,cC] at nd
  have nd2:=(List.nodup_append.mp nd)
  rcases hp with hp | hp
  · exact nd2.2.2 b (ay.mpr ⟨p,hp,hb⟩) c (by
     rw [show a::(o.more++a9 post)=(a::o.more)++a9 post from rfl]
     exact List.mem_append_left _ hcm) e
  · have nd3:=nd2.2.1
    rw [show a::(o.more++a9 post)=(a::o.more)++a9 post from rfl,List.nodup_append] at nd3
    exact nd3.2.2 c hcm b (ay.mpr ⟨p,hp,hb⟩) e.symm
 have neO:∀ p:Addr×AO,p∈pre∨p∈post→∀ b,b=p.1∨b∈p.2.more→b≠L:=by
  intro p hp b hb e
  rw [List.nodup_cons] at hnd
  exact hnd.1 (e▸ay.mpr ⟨p,by rcases hp with hp | hp;exact List.mem_append_left _ hp;exact List.mem_append_right _ (.tail _ hp),hb⟩)
 refine ⟨x.core,fun b y e=>k b y (fun z=>?_) (fun z=>?_) (x.sub _ _ e),hl,x.names,fun p hp=>?_,by rw [eo];exact x.nodup,by rw [eo];exact x.apart,x.held,x.low⟩
 · subst z
   have:=x.apart b (.head _)
   rw [e] at this;contradiction
 · subst z
   have:=x.apart b (.tail _ hco)
   rw [e] at this;contradiction
 · rcases List.mem_append.mp hp with hp | hp
   · exact (x.objs p (List.mem_append_left _ hp)).move (.refl F) fun b y hb e=>k _ _ (neO p (.inl hp) b hb) (other p (.inl hp) b hb) e
   · rcases mC0 hp with rfl | hp
     · exact q
     · exact (x.objs p (List.mem_append_right _ (.tail _ hp))).move (.refl F) fun b y hb e=>k _ _ (neO p (.inr hp) b hb) (other p (.inr hp) b hb) e
end
section
variable {B:a5} {n:Nat} {L:Addr} {H:HL} {loc:LL} {objs pre post:OL} {a:Addr} {o o':AO}
theorem ae.change {F:Fz} {s s':Shared} {Ψ:Fz→St→Prop} (x:Holds B.P B.G L F H ⟨loc,pre++(a,o)::post⟩ s.heap) {c:Addr} (hc:c=a∨c∈o.more) (em:o'.more=o.more)
 (k:∀ b y,b≠L→b≠c→s.heap.get? b=some y→s'.heap.get? b=some y) (hl:∃ m,s'.heap.Ns L m∧∀ x d,(x,some d)∈loc→∃ v,m x=some v∧Is B.P F v d) (q:OAt B.P F s'.heap a o') (g:s'.gens=s.gens) (os:s'.os=s.os) (z:Ψ F ⟨loc,pre++(a,o')::post⟩):
 ae B L H ⟨loc,pre++(a,o)::post⟩ F s s' Ψ:=by
 have hco:c∈L::a9 (pre++(a,o)::post):=.tail _ (ay.mpr ⟨(a,o),by simp,by rcases hc with h | h;exact .inl h;exact .inr h⟩)
 refine ⟨F,_,x.change hc em k hl q,⟨fun b y hb e=>k b y (fun z=>hb (z▸.head _)) (fun z=>hb (z▸hco)) e,fun b hb=>.inl ?_,fun b y e=>.inl e,.refl F,.of g,os⟩,z⟩
 rw [show a9 (pre++(a,o')::post)=a9 (pre++(a,o)::post) from by rw [cC,cC,em]] at hb
 exact hb
end
end
section
variable {f:Addr} {args:List AV} {Φ:AV→OL→Prop}
structure c0 (P:Params) (G:Heap) (F:Fz) (os:OL) (h:Heap):Prop where
 core:∀ b o,G.get? b=some o→F b=some o
 sub:∀ b o,F b=some o→h.get? b=some o
 objs:∀ p∈os,OAt P F h p.1 p.2
 nodup:(a9 os).Nodup
 apart:∀ b∈a9 os,F b=none
 big:G.objs.size≤h.objs.size
inductive th (B:a5) (objs:OL) (F:Fz) (s:Shared) (Φ:AV→OL→Prop) (r:Result) (s':Shared):Prop
 | mk (v:Value) (d:AV) (objs':OL) (F':Fz) (e:r=.ok (.ret v)) (i:Is B.P F' v d) (y:c0 B.P B.G F' objs' s'.heap) (p:aJ (a9 objs) F s (a9 objs') F' s') (q:Φ d objs')
noncomputable def a4 (B:a5) (n:Nat) (f:Addr) (args:List AV) (objs:OL) (Φ:AV→OL→Prop):Prop:=
 ∀ A F s vs,c3 n A→c0 B.P B.G F objs s.heap→IsAll B.P F vs args→
  codeAny B.M A (.call (.ref f) ⟨vs,[]⟩) (th B objs F s Φ) s
theorem a4.mono {n:Nat} {objs:OL} {Φ':AV→OL→Prop} (h:a4 B n f args objs Φ) (k:∀ d o,Φ d o→Φ' d o):a4 B n f args objs Φ':=
 fun A F s vs hA x hv=>codeAny_mono (h A F s vs hA x hv) fun _ _ ⟨v,d,o,F',a,b,c,e,q⟩=>⟨v,d,o,F',a,b,c,e,k _ _ q⟩
theorem a4.room {n m:Nat} {objs:OL} (h:a4 B m f args objs Φ) (e:m≤n):a4 B n f args objs Φ:=
 fun A F s vs hA x hv=>h A F s vs (hA.le e) x hv
section
variable {P:Params} {G:Heap} {L:Addr} {F:Fz} {H:HL} {h:Heap} {σ:St}
theorem Holds.big (x:Holds P G L F H σ h):G.objs.size≤h.objs.size:=by
 obtain ⟨m,⟨o,_,_,ho,_⟩,_⟩:=x.loc
 exact Nat.le_of_lt (Nat.lt_of_le_of_lt x.low (Heap.lt_size ho))
theorem Holds.call (x:Holds P G L F H σ h):c0 P G F σ.objs h:=
 ⟨x.core,x.sub,x.objs,(List.nodup_cons.mp x.nodup).2,fun b hb=>x.apart b (.tail _ hb),x.big⟩
theorem Holds.back {B:a5} {s s':Shared} {F':Fz} {objs':OL} (x:Holds B.P B.G L F H σ s.heap) (y:c0 B.P B.G F' objs' s'.heap) (p:aJ (a9 σ.objs) F s (a9 objs') F' s'):
 Holds B.P B.G L F' H ⟨σ.loc,objs'⟩ s'.heap∧aJ (L::a9 σ.objs) F s (L::a9 objs') F' s':=by
 have hL:L∉a9 σ.objs:=(List.nodup_cons.mp x.nodup).1
 obtain ⟨oL,hoL⟩:=x.there L (.head _)
 have hL':L∉a9 objs':=fun hm=>by
  rcases p.own L hm with q | q
  · exact hL q
  · rw [hoL] at q;contradiction
 refine ⟨⟨y.core,y.sub,?_,x.names,y.objs,List.nodup_cons.mpr ⟨hL',y.nodup⟩,fun b hb=>?_,fun q hq=>(x.held q hq).mono p.mono,x.low⟩,⟨fun b o hb e=>p.keep b o (fun hm=>hb (.tail _ hm)) e,fun b hb=>?_,fun b o e=>?_,p.mono,p.gens,p.os⟩⟩
 · obtain ⟨m,⟨o,es,ep,e1,r1⟩,r⟩:=x.loc
   exact ⟨m,⟨o,es,ep,p.keep _ _ hL e1,r1⟩,fun z d hz=>let ⟨v,e,q⟩:=r z d hz;⟨v,e,q.mono p.mono⟩⟩
 · rcases mC0 hb with rfl | hb
   · induction q:F' b using Option.casesOn with
     | none=>rfl
     | some o=>
      rcases p.frz b o q with z | z | z
      · rw [x.apart b (.head _)] at z;contradiction
      · exact absurd z hL
      · rw [hoL] at z;contradiction
   · exact y.apart b hb
 · rcases mC0 hb with rfl | hb
   · exact .inl (.head _)
   · exact (p.own b hb).imp_left (.tail _)
 · rcases p.frz b o e with z | z | z
   · exact .inl z
   · exact .inr (.inl (.tail _ z))
   · exact .inr (.inr z)
end
section
variable {B:a5} {n:Nat} {L:Addr} {H:HL} {σ:St} {env:Env}
theorem fU {P:Params} {F:Fz} {G:Heap} {h:Heap} (x:Holds P G L F H σ h):∀ {vs:List Value} {ds:List AV},vs.length=ds.length→(∀ p∈vs.zip ds,p∈H)→IsAll P F vs ds
 | [],[],_,_=>.nil
 | v::vs,d::ds,e,k=>.cons (x.held _ (k _ (.head _))) (fU x (Nat.succ.inj e) fun p hp=>k p (.tail _ hp))
theorem tM {f:Addr} {vs:List Value} {ds:List AV} {Φ:PV} (e:vs.length=ds.length) (k:∀ p∈vs.zip ds,p∈H)
 (c:a4 B n f ds σ.objs fun d objs'=>∀ v,Φ v d ⟨σ.loc,objs'⟩):WV B n L (call (.ref f) vs) H σ Φ:=a7 fun A F s hA x=>by
 refine wpAny_call (codeAny_mono (c A F s vs hA x.call (fU x e k)) fun r s' z=>?_)
 obtain ⟨v,d,objs',F',rfl,hd,y,p,q⟩:=z
 obtain ⟨x',p'⟩:=x.back y p
 exact ⟨F',_,x',p',d,hd,q v⟩
noncomputable abbrev WL (B:a5) (n:Nat) (L:Addr) (t:Sem (List Value)) (H:HL) (σ:St) (Φ:List Value→List AV→St→Prop):Prop:=
 W B n L t H σ (fun vs F' σ'=>∃ ds,IsAll B.P F' vs ds∧Φ vs ds σ')
theorem mP {pos} {Φ:List Value→List AV→St→Prop} (h:Φ [] [] σ):WL B n L (spliced (backTo pos (starEach [] env))) H σ Φ:=a7 fun _ _ _ _ x=>spliced_nil (.here x ⟨[],.nil,h⟩)
theorem mQ {e:Expr} {rest:List Expr} {pos} {Φ:List Value→List AV→St→Prop}
 (h:WV B n L (eval e env) H σ fun v d σ₁=>WL B n L (spliced (backTo pos (starEach rest env))) ((v,d)::H) σ₁ fun vs ds σ₂=>Φ (v::vs) (d::ds) σ₂)
 (he:autoParam (starEach (e::rest) env=(false,eval e env)::starEach rest env) bR):WL B n L (spliced (backTo pos (starEach (e::rest) env))) H σ Φ:=a7 fun A F s hA x=>by
 refine he▸?_
 refine spliced_cons (wpAny_mono (h.run A F s hA x) (fun v s₁ z=>z.then fun F₁ σ₁ x₁ ⟨d,hd,w⟩=>?_) fun _ _ z=>z)
 refine wpAny_mono (w.run A F₁ s₁ hA (x₁.push hd)) (fun vs s₂ z=>?_) fun _ _ z=>z
 exact (z.fin fun F₂ σ₂ x₂ ⟨ds,hds,q⟩=>.here x₂ ⟨d::ds,.cons (x₂.hold (.head _)) hds,q⟩).weaken fun _ hp=>.tail _ hp
theorem cu {M:Model} {A:Around} {E:Value→Shared→Prop} {s:Shared} {f:Value} {args:List (Bool×Sem Value)} {Q:Args→Shared→Prop} (hp:args.any (·.1)=false)
 (h:wpAny M A (spliced args) (fun vs s'=>Q ⟨vs,[]⟩ s') E s):wpAny M A (evalArgs f true args []) Q E s:=by
 induction args using List.casesOn with
 | nil=>
  unfold evalArgs
  exact wpAny_bind (wpAny_mono h (fun vs s' z=>wpAny_bind (wpAny_pure (wpAny_holding (wpAny_bind (wpAny_pure (wpAny_bind (wpAny_pure (wpAny_pure z)))))))) fun _ _ z=>z)
 | cons a r=>
  obtain ⟨b,x⟩:=a
  induction b using Bool.casesOn with
  | true=>simp at hp
  | false=>exact evalArgs_plain h
theorem gN {first:List Value} {args:List Expr} {pos} {Φ:PV} (hk:keepIn B.K (.ref f)=true)
 (h :WL B n L (spliced (backTo pos (starEach args env))) H σ fun vs ds σ₁=>WV B n L (call (.ref f) (first++vs)) (vs.zip ds++H) σ₁ Φ)
 (hp :autoParam ((backTo pos (starEach args env)).any (·.1)=false) bR):WV B n L (callWith pos (.ref f) first (backTo pos (starEach args env)) []) H σ Φ:=a7 fun A F s hA x=>by
 refine callWith_of (by rw [hp];rfl) (keeps_K hk) (cu hp (wpAny_mono (h.run A F s hA x) (fun vs s₁ z=>⟨?_,?_⟩) fun _ _ z=>z))
 · obtain ⟨_,_,x₁,_⟩:=z
   exact B.X.keeps fun b o e=>x₁.sub _ _ (x₁.core _ _ e)
 · refine z.then fun F₁ σ₁ x₁ ⟨ds,hds,w⟩=>?_
   have x₂:Holds B.P B.G L F₁ (vs.zip ds++H) σ₁ s₁.heap:=⟨x₁.core,x₁.sub,x₁.loc,x₁.names,x₁.objs,x₁.nodup,x₁.apart,fun p hp=>by
    rcases List.mem_append.mp hp with hp | hp
    · exact zip_is hds p hp
    · exact x₁.held p hp,x₁.low⟩
   exact wpAny_mono (w.run A F₁ s₁ hA x₂) (fun _ _ y=>y.weaken fun _ hp=>List.mem_append_right _ hp) fun _ _ z=>z
where
 zip_is {P:Params} {F:Fz} {vs:List Value} {ds:List AV} (h:IsAll P F vs ds):∀ p∈vs.zip ds,Is P F p.1 p.2:=h.ind (C:=fun vs ds=>∀ p∈vs.zip ds,Is P F p.1 p.2) (fun _ hp=>nomatch hp) fun _ _ _ _ h _ c=>List.forall_mem_cons.mpr ⟨h,c⟩
end
section
variable {B:a5} {n:Nat} {objs:OL}
noncomputable def jN (Φ:AV→OL→Prop):PF
 | .ret d,σ=>Φ d σ.objs
 | .next,σ=>Φ .none σ.objs
 | _,_=>False
theorem kY {P:Params} {F:Fz} {fl:Flow} {e:Fl} {σ':St} (he:iw P F fl e) (q:jN Φ e σ'):∃ d,Is P F (match fl with | .ret v=>v | _=>.none) d∧Φ d σ'.objs:=by
 rcases fl with _ | _<;>rcases e with _ | _<;>first | exact he.elim | exact q.elim | exact ⟨_,he,q⟩ | exact ⟨_,.none,q⟩
theorem uv (h:Heap):h.get? h.objs.size=none:=Option.eq_none_iff_forall_ne_some.mpr fun _ q=>absurd (Heap.lt_size q) (Nat.lt_irrefl _)
theorem Bf {name qual:Str} {params:Arguments} {body:List Stmt} {scope:Scope} {dV kV doc pm cdv ct oc:Value} {an od:Option Addr} {osl:Array (Option Value)} {loc:LL}
 (ho:B.K.lookup f=some ⟨oc,od,.func (fnOf name qual params body scope dV kV doc pm an cdv ct),osl⟩) (hcd:codeIn B.K cdv qual=true)
 (hb:∀ (F:Fz) (s:Shared) (vs:List Value),IsAll B.P F vs args→B.K.In s.heap→(∀ b o,B.G.get? b=some o→F b=some o)→∃ binds,BindsTo s (fnOf name qual params body scope dV kV doc pm an cdv ct) ⟨vs,[]⟩ binds∧(∀ y∈binds,scope.names.lookup y.1=some .local)∧
  ∀ x d,(x,some d)∈loc→∃ v,binds.reverse.lookup x=some v∧Is B.P F v d)
 (hn:(loc.map (·.1)).Nodup) (h:∀ L,WF B n L (execs body (envOf qual scope L f cdv)) [] ⟨loc,objs⟩ (jN Φ))
 (hco:autoParam (scope.isCoroutine=false) bR) (hgen:autoParam (scope.isGenerator=false) bR) (hk:autoParam (scope.kind=.function) bR) (hcell:∀ x∈scope.names,x.2≠.cell:=by decide):a4 B (n+1) f args objs Φ:=by
 intro A F s vs hA x hvs
 have up:∀ b o,B.G.get? b=some o→s.heap.get? b=some o:=fun b o e=>x.sub _ _ (x.core _ _ e)
 refine x13 (hb F s vs hvs (B.X.keeps up) x.core) ?_;rintro binds hbind hloc hl
 refine codeAny_call_def (fd:=fnOf name qual params body scope dV kV doc pm an cdv ct) (body:=body) (binds:=binds) (by have:=hA.depth;show A.depth < 1000;omega) ((B.X.keeps up) _ _ ho) rfl (B.nolimit.keeps up)
  (codeRec_of (B.X.keeps up) hcd) rfl hbind hcell hloc (fun h₁ hns hk₁=>?_) hco hgen hk
 have hL:=uv s.heap
 have there:∀ b∈a9 objs,∃ o,s.heap.get? b=some o:=fun b hb=>by
  refine x12 (ay.mp hb) ?_;rintro p hp hb
  exact (x.objs p hp).there b hb
 have hLo:s.heap.objs.size∉a9 objs:=fun hm=>by obtain ⟨o,ho⟩:=there _ hm;rw [hL] at ho;contradiction
 have hLF:F s.heap.objs.size=none:=Option.eq_none_iff_forall_ne_some.mpr fun o q=>nomatch (x.sub _ _ q).symm.trans hL
 have X:Holds B.P B.G s.heap.objs.size F [] ⟨loc,objs⟩ h₁:=
  ⟨x.core,fun b o e=>hk₁ _ _ (x.sub _ _ e),⟨_,hns,hl⟩,hn,fun p hp=>(x.objs p hp).move (.refl F) fun b o _ e=>hk₁ _ _ e,List.nodup_cons.mpr ⟨hLo,x.nodup⟩,
   fun b hb=>by rcases mC0 hb with rfl | hb;exact hLF;exact x.apart b hb,fun _ hp=>(nomatch hp),x.big⟩
 have hA':c3 n (A.deeper (callEnv (fnOf name qual params body scope dV kV doc pm an cdv ct) s.heap.objs.size f)):=
  ⟨hA.handled,by have:=hA.depth;show A.depth+1+n≤900;omega,by have:=hA.units;show A.units+3+8*n≤9000;omega⟩
 refine wpAny_mono ((h s.heap.objs.size).run _ F { s with heap:=h₁,toks:=s.toks+binds.length } hA' X) (fun fl s' z=>?_) fun _ _ z=>z.elim
 obtain ⟨F',σ',x',p,e,he,q⟩:=z
 refine x12 (kY he q) ?_;rintro d hd q
 exact .mk _ d σ'.objs F' rfl hd x'.call ((p.over (fun b hb=>(mC0 hb).elim (fun e=>.inr (e▸hL)) .inl) hk₁ (.refl _) rfl).fewer fun _=>.tail _) q
end
end
section
variable {x C dx:Addr} {fs:FL} {name:Str} {v₀:Value} {d:AV}
inductive Chg (a:Addr) (o o':AO):OL→OL→Prop
 | head {r}:Chg a o o' ((a,o)::r) ((a,o')::r)
 | tail {p r r'}:Chg a o o' r r'→Chg a o o' (p::r) (p::r')
theorem Chg.split {a:Addr} {o o':AO} {l l':OL} (h:Chg a o o' l l'):∃ pre post,l=pre++(a,o)::post∧l'=pre++(a,o')::post:=by
 induction h with
 | head=>exact ⟨[],_,rfl,rfl⟩
 | @tail p _ _ _ ih=>
  refine x22 (ih) ?_;clear ih;rintro pre post e e'
  exact ⟨p::pre,post,congrArg (List.cons p) e,congrArg (List.cons p) e'⟩
section
variable {B:a5} {n:Nat} {L:Addr} {H:HL} {σ:St} {env:Env}
theorem Holds.K {F:Fz} {h:Heap} (x:Holds B.P B.G L F H σ h):B.K.In h:=B.X.keeps fun b o e=>x.sub _ _ (x.core _ _ e)
theorem pL {expr:Bool} {Φ:PV} (mv:(v₀,.ref x)∈H) (m:(x,AO.inst C dx fs)∈σ.objs) (ho:cr B.K C name=true)
 (hf:bB name fs=some d) (hd:cJ d=true) (h:∀ v,Φ v d σ):WV B n L (getAttr v₀ name expr) H σ Φ:=by
 refine a7 fun A F s hA X=>?_
 obtain rfl:=al (X.hold mv)
 obtain ⟨h1,es,k,h2,h3⟩:=X.objs _ m
 refine x12 (k6 h3 hf) ?_;rintro v e1 e2
 simp only [cr,Bool.and_eq_true] at ho
 obtain ⟨⟨hg,hh⟩,hn⟩:=ho
 induction ha:findIn B.K (.ref C) name using Option.casesOn with
 | none=>rw [ha] at hn;exact Bool.noConfusion hn
 | some attr=>
  rw [ha] at hn
  exact get_value X.K (⟨h1,rfl,rfl,h2⟩:InstAt s.heap x (instObj C dx) C (some (dictOf es k))) (plainGet_of hg).1 (findObj_own hh ha hn (by rw [lookIn_dict];exact e1)) (nT e2 hd) (.toks X ⟨d,e2,h v⟩)
theorem t9 {f:Addr} {expr:Bool} {Φ:PV} (mv:(v₀,.ref x)∈H) (m:(x,AO.inst C dx fs)∈σ.objs) (ho:bV B.K C name f=true)
 (hf:bB name fs=none) (h:∀ v,Φ v (.meth f x) σ):WV B n L (getAttr v₀ name expr) H σ Φ:=by
 refine a7 fun A F s hA X=>?_
 obtain rfl:=al (X.hold mv)
 obtain ⟨h1,es,k,h2,h3⟩:=X.objs _ m
 simp only [bV,Bool.and_eq_true,beq_iff_eq,Bool.not_eq_true'] at ho
 obtain ⟨⟨⟨⟨⟨⟨hg,hh⟩,ha⟩,hfn⟩,hgf⟩,ht⟩,hc⟩:=ho
 refine get_bind X.K (⟨h1,rfl,rfl,h2⟩:InstAt s.heap x (instObj C dx) C (some (dictOf es k))) (plainGet_of hg).1 (findObj_fn hh ha hgf ht hc (by rw [lookIn_dict];exact eJ h3 hf)) (plainGet_of hg).2
  (wpAny_call (fn_get (s:={ s with toks:=s.toks+1 }) X.K (beq_iff_eq.mp hfn) (handed_on rfl ?_)))
 exact ae.fresh X (fun b o e=>Heap.get?_push_of_some _ e) (by
  induction q:s.heap.get? s.heap.objs.size using Option.casesOn with
  | none=>rfl
  | some o=>exact absurd (Heap.lt_size q) (Nat.lt_irrefl _)) (Heap.get?_push_size _ rfl) rfl rfl fun le=>⟨_,.meth (Fz.put_self ..),h _⟩
theorem qq {f:Addr} {pl:Sem Bool} {Ψ:Value×List Value→Fz→St→Prop} (mv:(v₀,.ref x)∈H) (m:(x,AO.inst C dx fs)∈σ.objs) (ho:bV B.K C name f=true)
 (hf:bB name fs=none) (h:∀ F,Ψ (.ref f,[v₀]) F σ):W B n L (getMethod v₀ name pl) H σ Ψ:=by
 refine a7 fun A F s hA X=>?_
 obtain rfl:=al (X.hold mv)
 obtain ⟨h1,es,k,h2,h3⟩:=X.objs _ m
 simp only [bV,Bool.and_eq_true,beq_iff_eq,Bool.not_eq_true'] at ho
 obtain ⟨⟨⟨⟨⟨⟨hg,hh⟩,ha⟩,hfn⟩,hgf⟩,ht⟩,hc⟩:=ho
 exact method_fn X.K (⟨h1,rfl,rfl,h2⟩:InstAt s.heap x (instObj C dx) C (some (dictOf es k))) (plainGet_of hg).1 (plainGet_of hg).2 ha (beq_iff_eq.mp hfn) (by
  show (lookIn name (dictOf es k)).map _ = _
  rw [lookIn_dict,eJ h3 hf];rfl) (.here X (h F))
theorem gy {pl:Sem Bool} {Ψ:Value×List Value→Fz→St→Prop} (mv:(v₀,.ref x)∈H) (m:(x,AO.inst C dx fs)∈σ.objs)
 (ho:cr B.K C name=true) (hn:findIn B.K (.ref C) name=some none) (hf:bB name fs=some d) (hd:cJ d=true) (h:∀ v F,Is B.P F v d→Ψ (v,[]) F σ):W B n L (getMethod v₀ name pl) H σ Ψ:=by
 refine a7 fun A F s hA X=>?_
 have mv':=mv
 obtain rfl:=al (X.hold mv)
 obtain ⟨h1,es,k,h2,h3⟩:=X.objs _ m
 have hg:plainGet B.K C name=true:=by
  simp only [cr,Bool.and_eq_true] at ho
  exact ho.1.1
 refine method_usual X.K (⟨h1,rfl,rfl,h2⟩:InstAt s.heap x (instObj C dx) C (some (dictOf es k))) (plainGet_of hg).1 (plainGet_of hg).2 hn rfl ?_
 refine wpAny_mono ((pL (n:=n) (Φ:=fun _ e σ'=>e=d∧σ'=σ) mv m ho hf hd (fun _=>⟨rfl,rfl⟩)).run A F s hA X) (fun v s' z=>?_) fun _ _ z=>z
 obtain ⟨F',σ',X',p,e,he,rfl,rfl⟩:=z
 exact ⟨F',_,X',p,h v F' he⟩
theorem vD {v:Value} {objs':OL} {Φ:St→Prop} (mv:(v₀,.ref x)∈H) (md:(v,d)∈H) (m:Chg x (.inst C dx fs) (.inst C dx (bC name d fs)) σ.objs objs')
 (ho :dt B.K C name=true) (hz:fs.length≤900) (h:Φ ⟨σ.loc,objs'⟩):WU B n L (setAttr v₀ name v) H σ Φ:=by
 refine a7 fun A F s hA X=>?_
 obtain ⟨loc,objs⟩:=σ
 refine x22 (m.split) ?_;rintro pre post rfl rfl
 obtain rfl:=al (X.hold mv)
 have hd:=X.hold md
 obtain ⟨h1,es,k,h2,h3⟩:=X.objs (x,.inst C dx fs) (by simp)
 simp only [dt,Bool.and_eq_true,beq_iff_eq] at ho
 obtain ⟨⟨⟨hs,hp⟩,ht⟩,hh⟩:=ho
 refine x12 (X.frame) ?_;rintro m₀ FR hl
 have hdo:dx∈a9 (pre++(x,AO.inst C dx fs)::post):=ay.mpr ⟨(x,.inst C dx fs),by simp,.inr (.head _)⟩
 have hdx:dx∈L::a9 (pre++(x,AO.inst C dx fs)::post):=.tail _ hdo
 have neL:dx≠L:=fun e=>(List.nodup_cons.mp X.nodup).1 (e▸hdo)
 have nex:x≠dx:=fun e=>by
  have:=(List.nodup_cons.mp X.nodup).2
  rw [show (⟨loc,pre++(x,AO.inst C dx fs)::post⟩:St).objs= _ from rfl,cC] at this
  have:=(List.nodup_append.mp this).2.1
  exact (List.nodup_cons.mp this).1 (by exact (e)▸(.head _))
 have nxL:x≠L:=fun e=>(List.nodup_cons.mp X.nodup).1 (e▸ay.mpr ⟨(x,.inst C dx fs),by simp,.inl rfl⟩)
 have N:News B.G L s.heap ((dx,dictOf es k)::ix B.G s.heap L [dx]):=fun p hp=>by
  rcases mC0 hp with rfl | hp
  · exact ⟨h2,neL,X.outG hdx⟩
  · exact kW _ hp
 refine set_dict FR B.X N (⟨h1,rfl,rfl,h2⟩:InstAt s.heap x (instObj C dx) C (some (dictOf es k))) rfl hs hp ht hh (oO h3) (es':=_) (n':=_) rfl
  (Upd.head fun p hp=>by
   obtain ⟨a,o⟩:=p
   exact fun e=>(fj.mp hp).2.2.1 (e▸.head _)) ?_ fun h' F' N'=>?_
 · have e1:=ee h3
   have e2:(putL name (PyData.keyHash B.w.params name) (.str name (s.toks+1)) v es).length= _:=ee (kg (x:=name) (t:=s.toks+1) hd h3)
   have:∀ fs:FL,(bC name d fs).length≤fs.length+1:=by
    intro fs
    induction fs with
    | nil=>simp [bC]
    | cons p r ih=>
     unfold bC
     split
     · simp
     · simp only [List.length_cons];exact Nat.lt_succ_of_le ‹_›
   have:=this fs
   omega
 · have keep:∀ b o,b≠L→b≠dx→s.heap.get? b=some o→h'.get? b=some o:=fun b o q1 q2 e=>
    tL (fun b o e=>X.sub _ _ (X.core _ _ e)) F' N' (ex:=[dx]) (h:=s.heap) (fun p hp=>.tail _ hp) b o q1 (fun hm=>q2 (List.mem_singleton.mp hm)) e
   exact ae.change (o':=.inst C dx (bC name d fs)) X (c:=dx) (.inr (.head _)) rfl (fun b o q1 q2 e=>keep b o q1 q2 e) ⟨m₀,F'.ns,hl⟩ ⟨keep _ _ nxL nex h1,_,_,(N' _ (.head _)).1,kg hd h3⟩ rfl rfl h
end
end
section
variable {x attr:Str} {d:AV} {l l':LL} {Φ:PV} {e o:Expr}
inductive eF (x:Str) (d:AV):LL→LL→Prop
 | hit {o r}:eF x d ((x,o)::r) ((x,some d)::r)
 | skip {p r r'}:eF x d r r'→eF x d (p::r) (p::r')
theorem eF.keys (h:eF x d l l'):l'.map (·.1)=l.map (·.1):=by
 induction h with
 | hit=>rfl
 | skip _ ih=>exact congrArg (List.cons _) ih
theorem eF.isKey (h:eF x d l l'):x∈l.map (·.1):=by
 induction h with
 | hit=>exact .head _
 | skip _ ih=>exact .tail _ ih
theorem eF.mem {y:Str} {e:AV} (s:eF x d l l') (n:(l.map (·.1)).Nodup) (h:(y,some e)∈l'):(y=x∧e=d)∨(y≠x∧(y,some e)∈l):=by
 induction s with
 | hit=>
  rcases mC0 h with h | h
  · cases h;exact .inl ⟨rfl,rfl⟩
  · exact .inr ⟨fun z=>(List.nodup_cons.mp n).1 (List.mem_map.mpr ⟨(y,some e),h,z⟩),.tail _ h⟩
 | skip s ih=>
  rcases mC0 h with h | h
  · subst h;exact .inr ⟨fun z=>(List.nodup_cons.mp n).1 (z▸s.isKey),.head _⟩
  · exact (ih (List.nodup_cons.mp n).2 h).imp_right fun q=>⟨q.1,.tail _ q.2⟩
section
variable {B:a5} {n:Nat} {L:Addr} {H:HL} {σ:St} {env:Env}
theorem sD {v:Value} {loc':LL} {Φ:St→Prop} (md:(v,d)∈H) (m:eF x d σ.loc loc') (h:Φ ⟨loc',σ.objs⟩) (hl:autoParam (env.kindOf x=some .local) bR)
 (hL :autoParam (env.locals=L) bR) (hp:autoParam ((env.scope.kind==.class||(env.scope.kind==.module&&env.locals !=env.globals))=false) bR):WU B n L (storeName env x v) H σ Φ:=by
 refine a7 fun A F s hA X=>?_
 subst hL
 refine x12 (X.loc) ?_;rintro m₀ hns r
 refine wpAny_storeName_local hl hns (fun h' hn hs=>?_) hp
 have keep:∀ b o,b≠env.locals→s.heap.get? b=some o→h'.get? b=some o:=fun b o q e=>(hs.2 b q).trans e
 refine ⟨F,⟨loc',σ.objs⟩,⟨X.core,fun b o e=>keep b o (fun z=>?_) (X.sub _ _ e),⟨_,hn,fun y e hy=>?_⟩,by refine m.keys▸?_;exact X.names,fun p hp=>(X.objs p hp).move (.refl F) fun b o hb e=>keep b o (fun z=>?_) e,
  X.nodup,X.apart,X.held,X.low⟩,⟨fun b o hb e=>keep b o (fun z=>hb (z▸.head _)) e,fun b hb=>.inl hb,fun b o e=>.inl e,.refl F,.refl _,rfl⟩,h⟩
 · have:=X.apart b (z▸.head _)
   rw [e] at this;contradiction
 · rcases m.mem X.names hy with ⟨rfl,rfl⟩ | ⟨q,hy⟩
   · exact ⟨v,if_pos rfl,X.hold md⟩
   · refine x12 (r y e hy) ?_;rintro w e1 e2
     exact ⟨w,by refine (if_neg q)▸?_;exact e1,e2⟩
 · exact (List.nodup_cons.mp X.nodup).1 (z▸ay.mpr ⟨p,hp,hb⟩)
theorem rJ {d} (hm:(x,some d)∈σ.loc) (h:∀ v,Φ v d σ) (hk:autoParam (env.scope.kind=.function) bR) (hl:autoParam (env.kindOf x=some .local) bR)
 (hL:autoParam (env.locals=L) bR):WV B n L (loadName env x) H σ Φ:=by
 refine a7 fun A F s hA X=>?_
 refine x12 (X.loc) ?_;rintro m hns r
 refine x12 (r x d hm) ?_;rintro v e q
 exact wpAny_loadName_local hk hl (hL.symm▸hns) e (.here X ⟨d,q,h v⟩)
theorem q6 {pos} (h:WV B n L (eval e env) H σ fun o d σ₁=>WV B n L (getAttr o attr true) ((o,d)::H) σ₁ Φ)
 (he:autoParam (eval (.Attribute e attr pos) env=(do
  let o ←eval e env
  standAt pos.atName
  let r ←holding [o] (getAttr o attr true)
  letTemporaryGo e o r
  pure r)) bW):WV B n L (eval (.Attribute e attr pos) env) H σ Φ:=by
 rw [he]
 refine af (ab h fun o d σ₁ w=>ag (af (a8 (ab w fun r d₂ σ₂ q=>?_))))
 exact a7 fun A F s hA x=>wpAny_bind (wpAny_letTemporaryGo (wpAny_pure (.here x ⟨_,x.hold (.head _),q⟩)))
theorem lu {name:Str} {apos pos} {args:List Expr} {pl:Sem Bool}
 (h:WV B n L (eval o env) H σ fun ov d σ₁=>W B n L (getMethod ov name pl) ((ov,d)::H) σ₁ fun p _ σ₂=>WV B n L (callWith pos p.1 p.2 (backTo pos (starEach args env)) []) ((ov,d)::H) σ₂ Φ)
 (he:autoParam (eval (.Call (.Attribute o name apos) args [] pos) env=(do
  let ov ←eval o env
  standAt apos.atName
  let (f,first) ←holding [ov] (getMethod ov name pl)
  callWith pos f first (backTo pos (starEach args env)) [])) bR):WV B n L (eval (.Call (.Attribute o name apos) args [] pos) env) H σ Φ:=by
 rw [he]
 refine af (ab h fun ov d σ₁ w=>ag ?_)
 exact bN (a8 w) fun p F σ₂ q=>⟨(ov,d)::H,fun _ h=>h,fun _ h=>.inl h,q⟩
theorem gm {f:Expr} {args:List Expr} {pos}
 (h:WV B n L (eval f env) H σ fun fv d σ₁=>WV B n L (callWith pos fv [] (backTo pos (starEach args env)) []) ((fv,d)::H) σ₁ Φ)
 (he:autoParam (eval (.Call f args [] pos) env=(do callWith pos (←eval f env) [] (backTo pos (starEach args env)) [])) bR):WV B n L (eval (.Call f args [] pos) env) H σ Φ:=by
 rw [he]
 exact af h
theorem cS {p pos} {Φ:PF}
 (h:WV B n L (eval e env) H σ fun v d σ₁=>WV B n L (eval o env) ((v,d)::H) σ₁ fun ov od σ₂=>WU B n L (setAttr ov attr v) ((ov,od)::(v,d)::H) σ₂ fun σ₃=>Φ .next σ₃)
 (hs:autoParam (swapsWith e (some (.Attribute o attr p)) pos.line env=pure false) bR):WF B n L (exec (.Assign [.Attribute o attr p] e pos) env) H σ Φ:=by
 rw [plainObj_exec_Assign_Attribute o attr p e pos hs]
 refine ag (af (ab h fun v d σ₁ w=>?_))
 rw [arm_assign_Attribute]
 refine bz (af (a8 (ab w fun ov od σ₂ w₂=>ag (bz (a8 (cD w₂ fun σ₃ q=>?_))))))
 exact dz (f8 q)
theorem nU {p pos op} {Φ:PF}
 (h:WV B n L (eval o env) H σ fun ov od σ₁=>WV B n L (getAttr ov attr true) ((ov,od)::H) σ₁ fun a d σ₂=>WV B n L (eval e env) ((a,d)::(ov,od)::H) σ₂ fun b y σ₃=>
  WV B n L (inplaceOp op a b) ((b,y)::(a,d)::(ov,od)::H) σ₃ fun c z σ₄=>WU B n L (setAttr ov attr c) ((c,z)::(ov,od)::H) σ₄ fun σ₅=>Φ .next σ₅):
 WF B n L (exec (.AugAssign (.Attribute o attr p) op e pos) env) H σ Φ:=by
 rw [arm_exec_AugAssign_2]
 refine ag (af (ab h fun ov od σ₁ w=>af (a8 ?_)))
 refine ag (af (ab w fun a d σ₂ w₂=>af (a8 (ab w₂ fun b y σ₃ w₃=>ag (c5 (ab w₃ fun c z σ₄ w₄=>?_))))))
 refine ag (bz (a8 (cD w₄ fun σ₅ q=>?_)))
 exact a7 fun A F s hA x=>wpAny_bind (wpAny_release (wpAny_pure (.here x ⟨.next,trivial,q⟩)))
end
end
section
variable {M:Model} {p pos:Pos} {s s':Shared} {α:Type} {elts:List Expr} {Φ:PV} {loc:LL} {objs:OL}
theorem eC (s:Shared) (g:Nat) (x:GenState):(s.setGen g x).toks=s.toks:=rfl
theorem gh {Γ:Ctx} {t:Sem Fin} {fs:List Frame} {e:End} (h:Runs M Γ p t fs s e s'):s.toks≤s'.toks:=by
 induction h<;>(try simp only [eC] at*)<;>(try dsimp only at*)<;>omega
theorem mt {Γ:Ctx} {g:Nat} {r:Resume} {res:GenResult} (h:Wakes M Γ p g r s res s'):s.toks≤s'.toks:=by
 unfold Wakes at h
 split at h
 · exact h.elim
 · split at h
   · refine x24 (h) ?_;clear h;rintro e s₁ h1 _ _ rfl
     have:=gh h1
     simpa only [eC] using this
   · obtain ⟨_,rfl⟩:=h;exact Nat.le_refl _
   · obtain ⟨_,rfl⟩:=h;exact Nat.le_refl _
 · refine x24 (h) ?_;clear h;rintro e s₁ h1 _ _ rfl
   have:=gh h1
   simpa only [eC] using this
 · obtain ⟨_,rfl⟩:=h;exact Nat.le_refl _
 · obtain ⟨_,rfl⟩:=h;exact Nat.le_refl _
theorem n6 (M:Model) (Γ:Ctx) (t:Sem α) {Q:α→Pos→Shared→Prop} {E:Value→Pos→Shared→Prop} (n:Nat) (hn:n≤s.toks) (h:Sem.wp M Γ t Q E p s):Sem.wp M Γ t (fun a p' s'=>n≤s'.toks∧Q a p' s') E p s:=by
 induction t generalizing p s with
 | pure a=>exact ⟨hn,h⟩
 | raise e=>exact h
 | call c hd g l k ih=>
  refine x22 (h) ?_;clear h;rintro r s₁ h1 h2
  exact ⟨r,s₁,h1,ih r (nT0 hn (gh h1)) h2⟩
 | resume g r l k ih=>
  refine x22 (h) ?_;clear h;rintro r s₁ h1 h2
  exact ⟨r,s₁,h1,ih r (nT0 hn (mt h1)) h2⟩
 | fresh k ih=>exact ih _ (Nat.le_succ_of_le hn) h
 | load a part k ih=>refine x12 (h) ?_;clear h;rintro o h1 h2;exact ⟨o,h1,ih _ hn h2⟩
 | genState g k ih=>refine x12 (h) ?_;clear h;rintro o h1 h2;exact ⟨o,h1,ih _ hn h2⟩
 | update a part f k ih=>exact ⟨h.1,ih _ hn h.2⟩
 | choose src m k ih=>exact ⟨h.1,ih _ hn h.2⟩
 | rule _ k ih=>exact ih _ hn h
 | «at» _ k ih=>exact ih _ hn h
 | loadIfAlive _ k ih=>exact ih _ hn h
 | point _ k ih=>exact ih _ hn h
 | alloc _ k ih=>exact ih _ hn h
 | ask k ih=>exact ih _ hn h
 | os _ _ k ih=>exact ih _ hn h
 | handled _ k ih=>exact ih _ hn h
 | newGen _ k ih=>exact ih _ hn h
 | stack k ih=>exact ih _ hn h
 | thread k ih=>exact ih _ hn h
 | _=>exact h.elim
theorem dA {A:Around} {t:Sem α} {Q:α→Shared→Prop} {E:Value→Shared→Prop} (h:wpAny M A t Q E s):wpAny M A t (fun a s'=>s.toks≤s'.toks∧Q a s') E s:=
 fun Γ p hΓ=>n6 M Γ t s.toks (Nat.le_refl _) (h Γ p hΓ)
theorem b0 (h:Heap):h.get? h.objs.size=none:=by
 induction q:h.get? h.objs.size using Option.casesOn with
 | none=>rfl
 | some o=>exact absurd (Heap.lt_size q) (Nat.lt_irrefl _)
section
variable {B:a5} {n:Nat} {L:Addr} {H:HL} {σ:St} {env:Env}
theorem ae.track {F:Fz} {Ψ:Fz→St→Prop} (x:Holds B.P B.G L F H σ s.heap) {a:Addr} {o:AO} (k:∀ b y,s.heap.get? b=some y→s'.heap.get? b=some y)
 (hn :∀ b∈a::o.more,s.heap.get? b=none) (nd:(a::o.more).Nodup) (q:OAt B.P F s'.heap a o) (g:s'.gens=s.gens) (os:s'.os=s.os) (z:Ψ F ⟨σ.loc,(a,o)::σ.objs⟩):ae B L H σ F s s' Ψ:=by
 have old:∀ b∈L::a9 σ.objs,b∉a::o.more:=fun b hb hm=>by obtain ⟨y,hy⟩:=x.there b hb;rw [hn b hm] at hy;contradiction
 have x':=x.grow k
 have eo:a9 ((a,o)::σ.objs)=(a::o.more)++a9 σ.objs:=rfl
 refine ⟨F,⟨σ.loc,(a,o)::σ.objs⟩,⟨x.core,x'.sub,x'.loc,x.names,fun p hp=>?_,?_,fun b hb=>?_,x.held,x.low⟩,⟨fun b o _ e=>k b o e,fun b hb=>?_,fun b o e=>.inl e,.refl F,.of g,os⟩,z⟩
 · rcases mC0 hp with rfl | hp
   · exact q
   · exact x'.objs p hp
 · have xn:=List.nodup_cons.mp x.nodup
   rw [eo,List.nodup_cons,List.nodup_append]
   refine ⟨fun hm=>?_,nd,xn.2,fun b hb c hc e=>old c (.tail _ hc) (e▸hb)⟩
   rcases List.mem_append.mp hm with hm | hm
   · exact old L (.head _) hm
   · exact xn.1 hm
 · rw [eo] at hb
   rcases mC0 hb with rfl | hb
   · exact x.apart b (.head _)
   rcases List.mem_append.mp hb with hb | hb
   · induction w:F b using Option.casesOn with
     | none=>rfl
     | some y=>have:=x.sub _ _ w;rw [hn b hb] at this;contradiction
   · exact x.apart b (.tail _ hb)
 · rw [eo] at hb
   rcases mC0 hb with rfl | hb
   · exact .inl (.head _)
   rcases List.mem_append.mp hb with hb | hb
   · exact .inr (hn b hb)
   · exact .inl (.tail _ hb)
theorem ny {k:Nat} (h:WL B n L (spliced (backTo pos (starEach elts env))) H σ fun _ ds σ₁=>ds.length≤16777216∧∀ v,Φ v (.tup ds) σ₁):
 WV B n L (eval (.Tuple elts k pos) env) H σ Φ:=a7 fun A F s hA x=>by
 refine wpAny_Tuple (wpAny_mono (h.run A F s hA x) (fun vs s₁ z=>⟨?_,?_⟩) fun _ _ z=>z)
 · obtain ⟨_,_,_,_,ds,hds,hz,_⟩:=z
   refine hds.length▸az▸?_;exact hz
 · refine z.fin fun F₁ σ₁ x₁ ⟨ds,hds,_,q⟩=>?_
   exact ae.fresh x₁ (fun b o e=>Heap.get?_push_of_some _ e) (b0 _) (Heap.get?_push_size _ rfl) rfl rfl fun le=>⟨.tup ds,.tup (Fz.put_self ..) (hds.mono le),q _⟩
theorem nr (h:WL B n L (spliced (backTo pos (starEach elts env))) H σ fun _ ds σ₁=>ds.length≤16777216∧∀ v,Φ v (.lst ds) σ₁):
 WV B n L (eval (.List elts pos) env) H σ Φ:=a7 fun A F s hA x=>by
 refine wpAny_List (wpAny_mono (h.run A F s hA x) (fun vs s₁ z=>⟨?_,?_⟩) fun _ _ z=>z)
 · obtain ⟨_,_,_,_,ds,hds,hz,_⟩:=z
   refine hds.length▸az▸?_;exact hz
 · refine z.fin fun F₁ σ₁ x₁ ⟨ds,hds,_,q⟩=>?_
   exact ae.fresh x₁ (fun b o e=>Heap.get?_push_of_some _ e) (b0 _) (Heap.get?_push_size _ rfl) rfl rfl fun le=>⟨.lst ds,.lst (Fz.put_self ..) (hds.mono le),q _⟩
theorem ll (h:WL B n L (spliced (backTo pos (starEach elts env))) H σ fun _ ds σ₁=>ds.length≤16777216∧∀ a,Φ (.ref a) (.ref a) ⟨σ₁.loc,(a,.list ds)::σ₁.objs⟩):
 WV B n L (eval (.List elts pos) env) H σ Φ:=a7 fun A F s hA x=>by
 refine wpAny_List (wpAny_mono (h.run A F s hA x) (fun vs s₁ z=>⟨?_,?_⟩) fun _ _ z=>z)
 · obtain ⟨_,_,_,_,ds,hds,hz,_⟩:=z
   refine hds.length▸az▸?_;exact hz
 · refine z.fin fun F₁ σ₁ x₁ ⟨ds,hds,_,q⟩=>?_
   exact ae.track (a:=s₁.heap.objs.size) (o:=.list ds) x₁ (fun b o e=>Heap.get?_push_of_some _ e) (fun b hb=>by refine (List.mem_singleton.mp hb)▸?_;exact b0 _) (by simp [AO.more]) ⟨_,_,Heap.get?_push_size _ rfl,hds⟩ rfl rfl ⟨_,.ref _,q _⟩
theorem aZ {a b:OL} (h:a.Perm b):(a9 a).Perm (a9 b):=by
 induction h with
 | nil=>exact .refl _
 | cons p _ ih=>exact (List.Perm.append_left (p.1::p.2.more) ih)
 | swap p q r=>
  show ((q.1::q.2.more)++((p.1::p.2.more)++a9 r)).Perm ((p.1::p.2.more)++((q.1::q.2.more)++a9 r))
  rw [←List.append_assoc,←List.append_assoc]
  exact List.Perm.append_right _ List.perm_append_comm
 | trans _ _ ih1 ih2=>exact ih1.trans ih2
theorem Holds.drop {P:Params} {G:Heap} {F:Fz} {h:Heap} {objs' rest:OL} (x:Holds P G L F H ⟨loc,objs⟩ h) (e:objs.Perm (objs'++rest)):Holds P G L F H ⟨loc,objs'⟩ h:=by
 have pe:=aZ e
 rw [b7] at pe
 have sub:∀ b∈a9 objs',b∈a9 objs:=fun b hb=>pe.mem_iff.mpr (List.mem_append_left _ hb)
 have nd:=List.nodup_cons.mp x.nodup
 refine ⟨x.core,x.sub,x.loc,x.names,fun p hp=>x.objs p (e.mem_iff.mpr (List.mem_append_left _ hp)),List.nodup_cons.mpr ⟨fun hm=>nd.1 (sub _ hm),?_⟩,fun b hb=>?_,x.held,x.low⟩
 · exact (List.nodup_append.mp (pe.nodup_iff.mp nd.2)).1
 · rcases mC0 hb with rfl | hb
   · exact x.apart b (.head _)
   · exact x.apart b (.tail _ (sub b hb))
theorem lr {t:Sem α} {Ψ:α→Fz→St→Prop} {objs' rest:OL} (e:objs.Perm (objs'++rest)) (h:W B n L t H ⟨loc,objs'⟩ Ψ):W B n L t H ⟨loc,objs⟩ Ψ:=a7 fun A F s hA x=>by
 have pe:=aZ e
 rw [b7] at pe
 have sub:∀ b∈L::a9 objs',b∈L::a9 objs:=fun b hb=>by
  rcases mC0 hb with rfl | hb
  · exact .head _
  · exact .tail _ (pe.mem_iff.mpr (List.mem_append_left _ hb))
 refine wpAny_mono (h.run A F s hA (x.drop e)) (fun a s' z=>?_) fun _ _ z=>z
 obtain ⟨F',σ',x',p,q⟩:=z
 refine ⟨F',σ',x',⟨fun b o hb=>p.keep b o fun hm=>hb (sub b hm),fun b hb=>(p.own b hb).imp_left (sub b),fun b o e=>?_,p.mono,p.gens,p.os⟩,q⟩
 rcases p.frz b o e with z | z | z
 · exact .inl z
 · exact .inr (.inl (sub b z))
 · exact .inr (.inr z)
end
end
section
variable {id:String} {v₀:Value}
noncomputable def bx (n:Nat) (i:Int):Nat:=Int.casesOn i (fun k=>min k n) fun k=>n - (k+1)
noncomputable def sl (l:List Nat) (lo hi:Option Int):List Nat:=(l.take ((hi.map (bx l.length)).getD l.length)).drop ((lo.map (bx l.length)).getD 0)
theorem ke {n m:Int} (h0:0≤m) (h1:m≤n):max 0 (min m n)=m:=by rw [Int.min_eq_left h1,Int.max_eq_right h0]
theorem nW {n m:Int} (h:m < 0):max 0 (min m n)=0:=Int.max_eq_left (Int.le_trans (Int.min_le_left _ _) (Int.le_of_lt h))
theorem nY (k n:Nat):max 0 (min (k:Int) (n:Int))=((min k n:Nat):Int):=
 (Nat.le_total k n).elim (fun h=>(ke (Int.natCast_nonneg k) (Int.ofNat_le.mpr h)).trans (congrArg Int.ofNat (Nat.min_eq_left h).symm)) fun h=>(congrArg (max 0) (Int.min_eq_right (Int.ofNat_le.mpr h))).trans ((Int.max_eq_right (Int.natCast_nonneg n)).trans (congrArg Int.ofNat (Nat.min_eq_right h).symm))
theorem nS (k n:Nat):max 0 (min (Int.subNatNat n (k+1)) (n:Int))=((n - (k+1):Nat):Int):=
 (Nat.lt_or_ge n (k+1)).elim (fun h=>(congrArg (fun z:Int=>max 0 (min z (n:Int))) (Int.subNatNat_of_lt h)).trans ((nW (Int.negSucc_lt_zero _)).trans (congrArg Int.ofNat (Nat.sub_eq_zero_of_le (Nat.le_of_lt h)).symm))) fun h=>(congrArg (fun z:Int=>max 0 (min z (n:Int))) (Int.subNatNat_of_le h)).trans (ke (Int.natCast_nonneg _) (Int.ofNat_le.mpr (Nat.sub_le _ _)))
theorem f6 (l:List Nat) (i j:Int):sl l (some i) (some j)=(l.take (bx l.length j)).drop (bx l.length i):=rfl
theorem w0 (l:List Nat) (i:Int):sl l (some i) none=(l.take l.length).drop (bx l.length i):=rfl
theorem dJ (n:Nat) (i:Int):max 0 (min (if i < 0 then i+n else i) (n:Int))=((bx n i:Nat):Int):=by
 induction i using Int.casesOn with
 | ofNat k=>exact (congrArg (fun z:Int=>max 0 (min z (n:Int))) (if_neg (Int.not_lt.mpr (Int.natCast_nonneg k)))).trans (nY k n)
 | negSucc k=>exact (congrArg (fun z:Int=>max 0 (min z (n:Int))) (if_pos (Int.negSucc_lt_zero k))).trans (nS k n)
theorem gO (n:Nat) (i:Int):bx n i≤n:=by
 induction i using Int.casesOn with
 | ofNat k=>exact Nat.min_le_right _ _
 | negSucc k=>exact Nat.sub_le _ _
theorem aT {n i:Nat} (h:i≤n):bx n (i:Int)=i:=Nat.min_eq_left h
theorem jK {n:Nat} {i:Int} (h:(n:Int)≤i):bx n i=n:=by
 induction i using Int.casesOn with
 | ofNat k=>exact Nat.min_eq_right (Int.ofNat_le.mp h)
 | negSucc k=>exact absurd h (Int.not_le.mpr (Int.lt_of_lt_of_le (Int.negSucc_lt_zero k) (Int.natCast_nonneg n)))
theorem j5 (v:Option Int) (d n:Nat):(Option.casesOn v (d:Int) fun i=>max 0 (min (if i < 0 then i+n else i) (n:Int)):Int)=((v.map (bx n)).getD d:Nat):=by
 induction v using Option.casesOn with
 | none=>rfl
 | some i=>exact dJ n i
theorem eU (lo hi:Option Int) (n:Nat):Builtin.Str.strSliceIndices lo hi 1 n=sliceRange ((lo.map (bx n)).getD 0:Nat) ((hi.map (bx n)).getD n:Nat) 1:=
 Eq.trans (by kernel_rfl) ((congrArg (fun x=>sliceRange x (Option.casesOn hi (n:Int) fun i=>max 0 (min (if i < 0 then i+n else i) (n:Int))) 1) (j5 lo 0 n)).trans (congrArg (fun y=>sliceRange ((lo.map (bx n)).getD 0:Nat) y 1) (j5 hi n n)))
theorem uA (l:List Nat) (lo hi:Option Int):Txt.slice (S l) lo hi=S (sl l lo hi):=by
 have e:=eU lo hi (S l).length
 have hb:(hi.map (bx l.length)).getD l.length≤l.length:=by rcases hi with _ | _;exact Nat.le_refl _;exact gO _ _
 unfold Txt.slice sl
 rw [e,am]
 generalize (lo.map (bx l.length)).getD 0=a
 generalize (hi.map (bx l.length)).getD l.length=b at hb ⊢
 by_cases hab:a≤b
 · have e2:=eU (some a) (some b) (S l).length
   have:=StrLaws.sliceText_nat (S l) hab (by rw [am];exact hb)
   unfold StrLaws.sliceText at this
   rw [e2,am] at this
   have e3:((some (a:Int)).map (bx l.length)).getD 0=a:=aT (nT0 hab hb)
   have e4:((some (b:Int)).map (bx l.length)).getD l.length=b:=aT hb
   rw [e3,e4] at this
   rw [List.drop_take]
   exact this
 · have h1:(l.take b).drop a=[]:=List.drop_eq_nil_of_le (nT0 (List.length_take_le ..) (Nat.le_of_not_le hab))
   have h2:sliceRange (a:Int) (b:Int) 1=[]:=by
    unfold sliceRange
    rw [if_pos (by decide),if_neg (Int.not_lt.mpr (Int.ofNat_le.mpr (Nat.le_of_not_le hab)))]
    rfl
   rw [h1,h2]
   rcases l with _ | _<;>rfl
noncomputable def at? (l:List Nat) (i:Int):Option Nat:=(seqIndex? i l.length).bind (l[·]?)
theorem f7 {l:List Nat} {k:Nat} (h:k < l.length):at? l k=some l[k]:=by
 unfold at? seqIndex?
 rw [if_neg (show ¬ ((k:Nat):Int) < 0 by simp+arith)]
 simp [h]
section
variable {B:a5} {n:Nat} {L:Addr} {H:HL} {σ:St} {env:Env}
theorem v9 {first:List Value} {args:List Expr} {pos} {Φ:PV}
 (h:WL B n L (spliced (backTo pos (starEach args env))) H σ fun vs ds σ₁=>WV B n L (call (.builtin id) (first++vs)) (vs.zip ds++H) σ₁ Φ)
 (hp:autoParam ((backTo pos (starEach args env)).any (·.1)=false) bR):WV B n L (callWith pos (.builtin id) first (backTo pos (starEach args env)) []) H σ Φ:=a7 fun A F s hA x=>by
 refine Calls.callWith_builtin hp (cu hp (wpAny_mono (h.run A F s hA x) (fun vs s₁ z=>?_) fun _ _ z=>z))
 refine z.then fun F₁ σ₁ x₁ ⟨ds,hds,w⟩=>?_
 have x₂:Holds B.P B.G L F₁ (vs.zip ds++H) σ₁ s₁.heap:=⟨x₁.core,x₁.sub,x₁.loc,x₁.names,x₁.objs,x₁.nodup,x₁.apart,fun p hp=>by
  rcases List.mem_append.mp hp with hp | hp
  · exact gN.zip_is hds p hp
  · exact x₁.held p hp,x₁.low⟩
 exact wpAny_mono (w.run A F₁ s₁ hA x₂) (fun _ _ y=>y.weaken fun _ hp=>List.mem_append_right _ hp) fun _ _ z=>z
theorem Cj {name:Str} {x:List Nat} {pl:Sem Bool} {Ψ:Value×List Value→Fz→St→Prop} (mv:(v₀,.str x)∈H) (slot:Slot "str" name id) (ty:typeOf (.builtin id)=pure (.type "method_descriptor"))
 (h:∀ F,Ψ (.builtin id,[v₀]) F σ):W B n L (getMethod v₀ name pl) H σ Ψ:=a7 fun A F s hA X=>by
 obtain ⟨t,rfl⟩:=ak (X.hold mv)
 exact getMethod_builtin (typeIs_str _ _ _) PySem.F.plainAttrs_str slot ty (fun _ e=>nomatch e) (.here X (h _))
theorem wN {name:Str} {a:Addr} {l:List AV} {pl:Sem Bool} {Ψ:Value×List Value→Fz→St→Prop} (mv:(v₀,.ref a)∈H) (m:(a,AO.list l)∈σ.objs) (slot:Slot "list" name id) (ty:typeOf (.builtin id)=pure (.type "method_descriptor"))
 (h:∀ F,Ψ (.builtin id,[v₀]) F σ):W B n L (getMethod v₀ name pl) H σ Ψ:=a7 fun A F s hA X=>by
 obtain rfl:=al (X.hold mv)
 refine x22 (X.objs _ m) ?_;rintro vs k h1 _
 exact getMethod_builtin (T:="list") ⟨_,h1,rfl⟩ PySem.F.plainAttrs_list slot ty (fun b e=>by cases e;exact ⟨_,h1,rfl⟩) (.here X (h _))
theorem fF {a:Addr} {l:List AV} {v:Value} {d:AV} {objs':OL} {Φ:PV} (mv:(v₀,.ref a)∈H) (md:(v,d)∈H) (m:Chg a (.list l) (.list (l++[d])) σ.objs objs') (hz:l.length≤16777216)
 (h:Φ .none .none ⟨σ.loc,objs'⟩):WV B n L (call (.builtin "list.append") [v₀,v]) H σ Φ:=a7 fun A F s hA X=>by
 obtain ⟨loc,objs⟩:=σ
 refine x22 (m.split) ?_;rintro pre post rfl rfl
 obtain rfl:=al (X.hold mv)
 have hd:=X.hold md
 refine x22 (X.objs (a,.list l) (by simp)) ?_;rintro vs k h1 h2
 refine append_at h1 (fun h' hs ho=>?_) (by rw [az];simpa [h2.length] using hz)
 refine ae.change (o':=.list (l++[d])) X (c:=a) (.inl rfl) rfl (fun b y _ q e=>(hs.2 b q).trans e) ?_ ⟨vs++[v],k+1,by rw [ho];simp [aA],snoc h2 hd⟩ rfl rfl ⟨_,.none,h⟩
 refine x12 (X.frame) ?_;rintro m₀ FR hl
 exact ⟨m₀,FR.ns.sameBut hs (fun e=>(List.nodup_cons.mp X.nodup).1 (by rw [e];exact ay.mpr ⟨_,List.mem_append_right _ (.head _),.inl rfl⟩)),hl⟩
where
 snoc {P:Params} {F:Fz} {v:Value} {d:AV} {vs:List Value} {l:List AV} (h:IsAll P F vs l) (q:Is P F v d):IsAll P F (vs++[v]) (l++[d]):=h.ind (C:=fun vs l=>IsAll P F (vs++[v]) (l++[d])) (.cons q .nil) fun _ _ _ _ h _ c=>.cons h c
end
end
section
variable {a:Addr} {l:List AV} {v₀ v:Value} {Φ:PV} {x:List Nat} {c:Nat}
noncomputable def aY (c:Nat) (l:List Nat) (hi:Int):Nat:=(Builtin.Str.occurrences (S l) (S [c]) 0 (min (bx l.length hi) l.length) (l.length+1)).length
noncomputable def cY (c:Nat) (l:List Nat) (hi:Int):Int:=match Builtin.Str.lastOccurrence (S l) (S [c]) 0 (min (bx l.length hi) l.length) with | some i=>(i:Int) | none=> -1
section
variable {B:a5} {n:Nat} {L:Addr} {H:HL} {σ:St} {env:Env}
theorem fG {l':List AV} {d:AV} {k:Nat} {i:Int} {objs':OL} (mv:(v₀,.ref a)∈H) (md:(v,.int i)∈H) (hi:Builtin.List.listFitsIndex i=true) (hk:seqIndex? i l.length=some k) (hd:l[k]? =some d)
 (hl :l.eraseIdx k=l') (m:Chg a (.list l) (.list l') σ.objs objs') (hz:l.length≤16777216)
 (h : ∀ v,Φ v d ⟨σ.loc,objs'⟩):WV B n L (call (.builtin "list.pop") [v₀,v]) H σ Φ:=a7 fun A F s hA X=>by
 obtain ⟨loc,objs⟩:=σ
 refine x22 (m.split) ?_;rintro pre post rfl rfl
 obtain rfl:=al (X.hold mv)
 obtain ⟨t,rfl⟩:=ah (X.hold md)
 refine x22 (X.objs (a,.list l) (by simp)) ?_;rintro vs q h1 h2
 have hlen:=h2.length
 refine x12 (nth h2 hd) ?_;rintro y hy hyd
 have hkl:k < l.length:=(List.getElem?_eq_some_iff.mp hd).1
 refine call_meets PySem.F.slot_list_pop ⟨_,h1,rfl⟩ PySem.F.entry_list_pop (PySem.F.args_list_pop_2 _ _) (MeetsSeq.list_pop_at a vs.toArray q i t k y hi (by simpa [hlen] using hk) (by simpa using hy) (by rw [az];simpa [hlen] using hz)) ⟨h1,?_⟩
 have er:vs.toArray.eraseIdxIfInBounds k=(vs.eraseIdx k).toArray:=by
  unfold Array.eraseIdxIfInBounds
  rw [dif_pos (by simpa [hlen] using hkl)]
  simp
 refine ae.change (o':=.list l') X (c:=a) (.inl rfl) rfl (fun b y _ q e=>((Heap.SameBut.update (h:=s.heap) (a:=a) (f:=Obj.mapSeq fun xs=>xs.eraseIdxIfInBounds k)).2 b q).trans e) ?_ ⟨vs.eraseIdx k,q+1,?_,hl▸era h2 k⟩ rfl rfl ⟨d,hyd,h _⟩
 · refine x12 (X.frame) ?_;rintro m₀ FR hl
   exact ⟨m₀,FR.ns.sameBut (Heap.SameBut.update ..) (fun e=>(List.nodup_cons.mp X.nodup).1 (by rw [e];exact ay.mpr ⟨_,List.mem_append_right _ (.head _),.inl rfl⟩)),hl⟩
 · have e:Obj.mapSeq (fun xs=>xs.eraseIdxIfInBounds k) (aA vs q)=aA (vs.eraseIdx k) (q+1):=by
    show (⟨_,_,.seq (vs.toArray.eraseIdxIfInBounds k) (if (vs.toArray.eraseIdxIfInBounds k).size==vs.toArray.size then q else q+1),_⟩:Obj)= _
    rw [er]
    have:((vs.eraseIdx k).toArray.size==vs.toArray.size)=false:=by
     simp only [List.size_toArray,List.length_eraseIdx]
     rw [if_pos (by omega)]
     exact beq_eq_false_iff_ne.mpr (by omega)
    rw [this];rfl
   rw [Heap.get?_update_self _ h1 (by rw [e];rfl),e]
where
 nth {P:Params} {F:Fz} {vs:List Value} {l:List AV} {k:Nat} {d:AV} (h:IsAll P F vs l) (e:l[k]? =some d):∃ y,vs[k]? =some y∧Is P F y d:=
  h.ind (C:=fun vs l=>∀ k,l[k]? =some d→∃ y,vs[k]? =some y∧Is P F y d) (fun k e=>by contradiction) (fun v d vs l h r ih k e=>by
   induction k using Nat.casesOn with
   | zero=>exact ⟨v,rfl,Option.some.inj e▸h⟩
   | succ k=>exact ih k e) k e
 era {P:Params} {F:Fz} {vs:List Value} {l:List AV} (h:IsAll P F vs l) (k:Nat):IsAll P F (vs.eraseIdx k) (l.eraseIdx k):=
  h.ind (C:=fun vs l=>∀ k,IsAll P F (vs.eraseIdx k) (l.eraseIdx k)) (fun _=>.nil) (fun v d vs l h r ih k=>Nat.casesOn (motive:=fun k=>IsAll P F ((v::vs).eraseIdx k) ((d::l).eraseIdx k)) k r fun k=>.cons h (ih k)) k
theorem l9 {ms:List (List Nat)} (mv:(v₀,.str x)∈H) (md:(v,.ref a)∈H) (m:(a,AO.list l)∈σ.objs) (e:aD l=some ms)
 (hz:(ms.map (·.length)).sum+ms.length*x.length≤16777216) (h:∀ v,Φ v (.str (List.intercalate x ms)) σ):WV B n L (call (.builtin "str.join") [v₀,v]) H σ Φ:=a7 fun A F s hA X=>by
 obtain ⟨t,rfl⟩:=ak (X.hold mv)
 obtain rfl:=al (X.hold md)
 refine x22 (X.objs _ m) ?_;rintro vs k h1 h2
 exact join_list (s:=s) (D:=a) (items:=vs.toArray) ⟨_,h1,rfl,_,rfl⟩ (by simpa using dC h2 e) (by rw [lens,am,List.length_map];exact hz) fun t' k=>.toks X ⟨_,by rw [joined];exact .str _ _,h _⟩
where
 lens {ms:List (List Nat)}:(ms.map S).map (·.length)=ms.map (·.length):=by rw [List.map_map];exact List.map_congr_left fun a _=>am a
 inter {x a b:List Nat} {r:List (List Nat)}:List.intercalate x ((a++x++b)::r)=List.intercalate x (a::b::r):=by
  rcases r with _ | _<;>simp [List.intercalate,List.intersperse]
 joined {x:List Nat} {ms:List (List Nat)}:Txt.join (S x) (ms.map S)=S (List.intercalate x ms):=by
  show Builtin.Str.glued _ _ = _
  rw [StrLaws.glued_eq_join]
  induction ms using List.casesOn with
  | nil=>rfl
  | cons a r=>
   rw [List.map_cons,←StrLaws.glued_cons]
   induction r generalizing a with
   | nil=>simp [List.intercalate]
   | cons b r ih=>
    rw [List.map_cons,List.foldl_cons]
    have:=ih (a++x++b)
    simp only [S,List.append_toArray] at this ⊢
    rw [this,inter]
theorem t4 {ms:List (List Nat)} (mv:(v₀,.str x)∈H) (md:(v,.lst l)∈H) (e:aD l=some ms)
 (hz:(ms.map (·.length)).sum+ms.length*x.length≤16777216) (h:∀ v,Φ v (.str (List.intercalate x ms)) σ):WV B n L (call (.builtin "str.join") [v₀,v]) H σ Φ:=a7 fun A F s hA X=>by
 obtain ⟨t,rfl⟩:=ak (X.hold mv)
 refine x33 (bd (X.hold md)) ?_;rintro a vs k rfl h1 h2
 exact join_list (s:=s) (D:=a) (items:=vs.toArray) (bP X.sub h1) (by simpa using dC h2 e) (by rw [l9.lens,am,List.length_map];exact hz) fun t' k=>.toks X ⟨_,by rw [l9.joined];exact .str _ _,h _⟩
theorem yH (mv:(v,.str x)∈H) (hz:x.length≤16777216) (h:∀ v,Φ v (.int x.length) σ):WV B n L (call (.builtin "len") [v]) H σ Φ:=a7 fun A F s hA X=>by
 obtain ⟨t,rfl⟩:=ak (X.hold mv)
 exact PyProof.Rows.len_str (by rw [am];omega) (.toks X ⟨_,by rw [am];exact .int _ _,h _⟩)
theorem xE (mv:(v,.ref a)∈H) (m:(a,AO.list l)∈σ.objs) (hz:l.length≤16777216) (h:∀ v,Φ v (.int l.length) σ):WV B n L (call (.builtin "len") [v]) H σ Φ:=a7 fun A F s hA X=>by
 obtain rfl:=al (X.hold mv)
 refine x22 (X.objs _ m) ?_;rintro vs k h1 h2
 have hlen:=h2.length
 exact Calls.call_len_list (l:=a) (items:=vs.toArray) ⟨_,h1,rfl,_,rfl⟩ (by simp [hlen];omega) (.toks X ⟨.int l.length,by simp only [List.size_toArray,hlen];exact .int _ _,h _⟩)
theorem CF (mv:(v,.str [c])∈H) (h:∀ v,Φ v (.int c) σ):WV B n L (call (.builtin "ord") [v]) H σ Φ:=a7 fun A F s hA X=>by
 obtain ⟨t,rfl⟩:=ak (X.hold mv)
 exact PySem.P.ord_of_char (c:=c) (.toks X ⟨_,.int _ _,h _⟩)
theorem A1 {Ψ:Bool→St→Prop} (mv:(v,.ref a)∈H) (m:(a,AO.list l)∈σ.objs) (hz:l.length≤16777216) (h:Ψ (!l.isEmpty) σ):WB B n L (truthy v) H σ Ψ:=a7 fun A F s hA X=>by
 obtain rfl:=al (X.hold mv)
 refine x22 (X.objs _ m) ?_;rintro vs k h1 h2
 have hlen:=h2.length
 have e:vs.toArray.isEmpty=l.isEmpty:=by
  induction vs using List.casesOn with
  | nil=>induction l using List.casesOn with
   | nil=>rfl
   | cons _ _=>cases hlen
  | cons _ _=>induction l using List.casesOn with
   | nil=>cases hlen
   | cons _ _=>simp [Array.isEmpty]
 exact wpAny_truthy_list (l:=a) (items:=vs.toArray) ⟨_,h1,rfl,_,rfl⟩ (by simp [hlen];omega) (.toks X (e▸h))
theorem nR (y:Int) (n:Nat):min (max 0 y).toNat n=(max 0 (min y n)).toNat:=by
 rcases Int.le_total y 0 with h | h
 · rw [Int.max_eq_left h,Int.max_eq_left (Int.le_trans (Int.min_le_left _ _) h)];exact Nat.zero_min n
 · obtain ⟨m,rfl⟩:=Int.eq_ofNat_of_zero_le h
   rw [Int.max_eq_right h]
   rcases Nat.le_total m n with q | q
   · rw [Int.min_eq_left (Int.ofNat_le.mpr q),Int.max_eq_right h];exact Nat.min_eq_left q
   · rw [Int.min_eq_right (Int.ofNat_le.mpr q),Int.max_eq_right (Int.natCast_nonneg n)];exact Nat.min_eq_right q
theorem iV (n:Nat) (hi:Int):min (fromIndex n hi) n=min (bx n hi) n:=(nR _ n).trans ((congrArg Int.toNat (dJ n hi)).trans (Nat.min_eq_left (gO n hi)).symm)
theorem qm {hi:Int} {v1 v2 v3:Value} (m0:(v₀,.str x)∈H) (m1:(v1,.str [c])∈H) (m2:(v2,.int 0)∈H) (m3:(v3,.int hi)∈H) (h:∀ v,Φ v (.int (aY c x hi)) σ):
 WV B n L (call (.builtin "str.count") [v₀,v1,v2,v3]) H σ Φ:=a7 fun A F s hA X=>by
 obtain ⟨t0,rfl⟩:=ak (X.hold m0);obtain ⟨t1,rfl⟩:=ak (X.hold m1);obtain ⟨t2,rfl⟩:=ah (X.hold m2);obtain ⟨t3,rfl⟩:=ah (X.hold m3)
 refine call_gives (m:=.int (aY c x hi)) PySem.F.slot_str_count (typeIs_str _ _ _) PySem.F.entry_str_count (PySem.F.args_str_count_4 _ _ _ _) ?_ (.toks X ⟨_,.int _ _,h _⟩)
 have e:fromIndex (S x).length 0=0:=by simp [fromIndex]
 have e2:min (fromIndex (S x).length hi) (S x).length=min (bx x.length hi) x.length:=by rw [am];exact iV _ _
 show Gives (retInt (Builtin.Str.occurrences (S x) (S [c]) (fromIndex (S x).length 0) (min (fromIndex (S x).length hi) (S x).length) ((S x).length+1)).length) _
 rw [e,e2,am]
 exact .of_eq rfl
theorem qK {hi:Int} {v1 v2 v3:Value} (m0:(v₀,.str x)∈H) (m1:(v1,.str [c])∈H) (m2:(v2,.int 0)∈H) (m3:(v3,.int hi)∈H) (h:∀ v,Φ v (.int (cY c x hi)) σ):
 WV B n L (call (.builtin "str.rfind") [v₀,v1,v2,v3]) H σ Φ:=a7 fun A F s hA X=>by
 obtain ⟨t0,rfl⟩:=ak (X.hold m0);obtain ⟨t1,rfl⟩:=ak (X.hold m1);obtain ⟨t2,rfl⟩:=ah (X.hold m2);obtain ⟨t3,rfl⟩:=ah (X.hold m3)
 refine call_gives (m:=.int (cY c x hi)) PySem.F.slot_str_rfind (typeIs_str _ _ _) PySem.F.entry_str_rfind (PySem.F.args_str_rfind_4 _ _ _ _) ?_ (.toks X ⟨_,.int _ _,h _⟩)
 have e:fromIndex (S x).length 0=0:=by simp [fromIndex]
 have e2:min (fromIndex (S x).length hi) (S x).length=min (bx x.length hi) x.length:=by rw [am];exact iV _ _
 show Gives (match Builtin.Str.lastOccurrence (S x) (S [c]) (fromIndex (S x).length 0) (min (fromIndex (S x).length hi) (S x).length) with | some i=>retInt i | none=>(do rule "str.rfind.not-found";retInt (-1))) _
 rw [e,e2]
 unfold cY
 induction Builtin.Str.lastOccurrence (S x) (S [c]) 0 (min (bx x.length hi) x.length) using Option.casesOn with
 | none=>exact .rule (.of_eq rfl)
 | some i=>exact .of_eq rfl
end
end
section
variable {k:Int} {j:Nat} {value slice:Expr} {o i:Value} {Φ:PV} {d:AV}
theorem hS {n:Nat} (h:seqIndex? k n=some j): -(n:Int)≤k∧k < n:=by
 unfold seqIndex? at h
 by_cases hk:k < 0
 · simp only [hk,if_true] at h
   split at h
   · rename_i q
     simp only [Bool.and_eq_true,decide_eq_true_eq] at q
     omega
   · contradiction
 · simp only [hk,if_false] at h
   split at h
   · rename_i q
     simp only [Bool.and_eq_true,decide_eq_true_eq] at q
     omega
   · contradiction
section
variable {B:a5} {n:Nat} {L:Addr} {H:HL} {σ:St} {env:Env}
theorem cU {T id:String} (hT:∀ F (s:Shared),Holds B.P B.G L F H σ s.heap→s.TypeIs o T) (hl:typeLookup (.type T) "__getitem__"=pure (some (.builtin id)))
 (h:WV B n L (getItem o i) H σ Φ) (hs:∃ ops,subscripted slice false o i=operate ops (getItem o i):=by exact ⟨_,rfl⟩):WV B n L (subscriptTail value slice o i) H σ Φ:=a7 fun A F s hA X=>by
 obtain ⟨ops,hs⟩:=hs
 unfold subscriptTail
 refine wpAny_bind ?_
 rw [getitemInPython_of_ne (hT F s X).not_modules]
 refine wpAny_bind (wpAny_specialOf (hT F s X) hl ?_)
 have fin:wpAny B.M A (subscripted slice false o i) (fun r s₃=>wpAny B.M A (letTemporaryGo value o r >>= fun _=>pure r) (fun a s'=>ae B L H σ F s s' ((fun v F' σ'=>∃ d,Is B.P F' v d∧Φ v d σ') a)) (fun _ _=>False) s₃) (fun _ _=>False) s:=by
  rw [hs]
  exact wpAny_operateT (wpAny_mono (h.run A F s hA X) (fun r s₃ h₃=>wpAny_bind (wpAny_letTemporaryGo (wpAny_pure h₃))) fun _ _ x=>x)
 first
  | exact wpAny_pure (wpAny_bind fin)
  | exact wpAny_bind (wpAny_pure (wpAny_bind fin))
  | exact wpAny_bind fin
theorem w8 {pos} (h:WV B n L (eval value env) H σ fun o d σ₁=>WV B n L (eval slice env) ((o,d)::H) σ₁ fun i e σ₂=>WV B n L (subscriptTail value slice o i) ((i,e)::(o,d)::H) σ₂ Φ):
 WV B n L (eval (.Subscript value slice pos) env) H σ Φ:=by
 rw [eval_Subscript]
 exact af (ab h fun o d σ₁ w=>af (a8 (ab w fun i e σ₂ w₂=>ag w₂)))
theorem C5 {x:List Nat} {c:Nat} (mo:(o,.str x)∈H) (mi:(i,.int k)∈H) (hc:at? x k=some c) (hz:x.length≤16777216) (h:∀ v,Φ v (.str [c]) σ)
 (hs : ∃ ops,subscripted slice false o i=operate ops (getItem o i):=by exact ⟨_,rfl⟩):WV B n L (subscriptTail value slice o i) H σ Φ:=by
 refine cU (T:="str") (fun F s X=>?_) PySem.F.slot_str_getitem.lookup (a7 fun A F s hA X=>?_) hs
 · obtain ⟨t,rfl⟩:=ak (X.hold mo);exact typeIs_str _ _ _
 · obtain ⟨t,rfl⟩:=ak (X.hold mo)
   obtain ⟨u,rfl⟩:=ah (X.hold mi)
   refine PyProof.Rows.getItem_str (c:=c) ?_ ?_ (.toks X ⟨_,.str [c] _,h _⟩)
   · have:∃ j,seqIndex? k x.length=some j:=by
      unfold at? at hc
      induction q:seqIndex? k x.length using Option.casesOn with
      | none=>rw [q] at hc;contradiction
      | some j=>exact ⟨j,rfl⟩
     obtain ⟨j,hj⟩:=this
     have:=hS hj
     simp only [Bool.or_eq_false_iff,decide_eq_false_iff_not]
     omega
   · rw [am]
     unfold at? at hc
     simpa [S] using hc
theorem C0 {l:List AV} (mo:(o,.lst l)∈H) (mi:(i,.int k)∈H) (hk:0≤k) (hj:k.toNat=j) (hd:l[j]? =some d) (hz:l.length≤16777216) (h:∀ v,Φ v d σ)
 (hs:∃ ops,subscripted slice false o i=operate ops (getItem o i):=by exact ⟨_,rfl⟩):WV B n L (subscriptTail value slice o i) H σ Φ:=by
 refine cU (T:="list") (fun F s X=>?_) slot_list_getitem.lookup (a7 fun A F s hA X=>?_) hs
 · refine x33 (bd (X.hold mo)) ?_;rintro a vs m rfl h1 h2;exact (bP X.sub h1).typeIs
 · refine x33 (bd (X.hold mo)) ?_;rintro a vs m rfl h1 h2
   obtain ⟨u,rfl⟩:=ah (X.hold mi)
   refine x12 (fG.nth h2 hd) ?_;rintro y hy hyd
   have hlen:=h2.length
   have hjl:j < l.length:=(List.getElem?_eq_some_iff.mp hd).1
   exact wpAny_getItem_list (l:=a) (items:=vs.toArray) (bP X.sub h1) (by omega) (by omega) (by simpa [hj] using hy) (.here X ⟨d,hyd,h _⟩)
noncomputable def ic:AV→Option (Option Int)
 | .none=>some none
 | .int i=>some (some i)
 | _=>none
theorem iR {P:Params} {F:Fz} {v:Value} {i:Option Int} (h:Is P F v d) (e:ic d=some i):∃ p:Option (Int×Tok),v=partValue p∧p.map (·.1)=i:=by
 induction d using AV.casesOn with
 | none=>obtain rfl:=cm h;obtain rfl:=Option.some.inj e;exact ⟨none,rfl,rfl⟩
 | int k=>obtain ⟨t,rfl⟩:=ah h;obtain rfl:=Option.some.inj e;exact ⟨some (k,t),rfl,rfl⟩
 | _=>contradiction
theorem rg (l:List Nat) (i j:Option Int):(sl l i j).length≤l.length:=by
 unfold sl
 rw [List.length_drop,List.length_take]
 omega
theorem lQ {x:Str} {t:Tok} {pl pu:Option (Int×Tok)} {s:Shared} {Q:Value→Shared→Prop} (hl:(Txt.slice x (pl.map (·.1)) (pu.map (·.1))).length≤sizeLine)
 (h:∀ t' k,Q (.str (Txt.slice x (pl.map (·.1)) (pu.map (·.1))) t') { s with toks:=k }):(sliceMade x t pl pu none).post Q s:=by
 unfold sliceMade
 unfold Txt.slice at hl h
 exact post_val_or_str ⟨hl,h⟩
theorem vq (h:Φ .none .none σ):WV B n L (evalPart none env) H σ Φ:=a7 fun _ _ _ _ x=>wpAny_pure (.here x ⟨_,.none,h⟩)
theorem tB {e:Expr} (h:WV B n L (eval e env) H σ Φ):WV B n L (evalPart (some e) env) H σ Φ:=h
theorem uE {lo hi:Option Expr} {p pos}
 (h :WV B n L (eval value env) H σ fun o d σ₁=>WV B n L (evalPart lo env) ((o,d)::H) σ₁ fun l dl σ₂=>WV B n L (evalPart hi env) ((l,dl)::(o,d)::H) σ₂ fun _ du σ₃=>
  ∃ x i j,d=.str x∧ic dl=some i∧ic du=some j∧x.length≤16777216∧∀ v,Φ v (.str (sl x i j)) σ₃):
 WV B n L (eval (.Subscript value (.Slice lo hi none p) pos) env) H σ Φ:=fL fun A F s Q hA X fq=>by
 rw [eval_Subscript]
 refine wpAny_bind (h.then hA X fun o s₁ F₁ σ₁ x₁ p₁ z=>x12 z fun d hd w₁=>?_)
 refine wpAny_bind (wpAny_holding (wpAny_Slice (w₁.then hA (x₁.push hd) fun l s₂ F₂ σ₂ x₂ p₂ z=>x12 z fun dl hdl w₂=>?_)))
 refine w₂.then hA (x₂.push hdl) fun u s₃ F₃ σ₃ x₃ p₃ z=>?_
 refine x12 z ?_;clear z;rintro du hdu z;refine x35 z ?_;clear z;rintro x i j rfl bi bj hz q
 refine wpAny_pure (wpAny_bind (wpAny_standAt ?_))
 obtain ⟨t,rfl⟩:=ak (x₃.hold (.tail _ (.head _)))
 refine x12 (iR (x₃.hold (.head _)) bi) ?_;rintro pl rfl e1
 refine x12 (iR hdu bj) ?_;rintro pu rfl e2
 have x₃':=x₃.weaken (H':=H) fun p hp=>.tail _ (.tail _ hp)
 have fin:wpAny B.M A (operate [.ref s₃.heap.objs.size,.str (S x) t] (getItem (.str (S x) t) (.ref s₃.heap.objs.size))) (fun r s₄=>wpAny B.M A (letTemporaryGo value (.str (S x) t) r >>= fun _=>pure r) Q (fun _ _=>False) s₄) (fun _ _=>False)
  { s₃ with heap:=s₃.heap.push { cls:=.type "slice",data:=.fields #[partValue pl,partValue pu,.none] } }:=by
  refine wpAny_operateT (wpAny_getItem_str_slice (l:=pl) (u:=pu) (st:=none) ⟨_,Heap.get?_push_size _ rfl,rfl,rfl⟩ rfl ?_)
  have e:Txt.slice (S x) (pl.map (·.1)) (pu.map (·.1))=S (sl x i j):=by rw [uA,e1,e2]
  refine lQ (Q:=fun r s₄=>wpAny B.M A (letTemporaryGo value (.str (S x) t) r >>= fun _=>pure r) Q (fun _ _=>False) s₄) ?_ fun t' k=>?_
  · rw [e,am,az]
    exact nT0 (rg x i j) hz
  · refine wpAny_bind (wpAny_letTemporaryGo (wpAny_pure ?_))
    refine e▸?_
    exact fq _ _ ⟨F₃,σ₃,x₃'.grow fun b o e=>Heap.get?_push_of_some _ e,p₁.trans (p₂.trans (p₃.trans ⟨fun b o _ e=>Heap.get?_push_of_some _ e,fun _ h=>.inl h,fun _ _ e=>.inl e,.refl _,.refl _,rfl⟩)),.str (sl x i j),.str _ _,q _⟩
 refine wpAny_bind ?_
 refine (getitemInPython_of_ne (typeIs_str s₃ (S x) t).not_modules)▸?_
 refine wpAny_bind (wpAny_specialOf (typeIs_str _ (S x) t) PySem.F.slot_str_getitem.lookup ?_)
 first
  | exact wpAny_pure (wpAny_bind fin)
  | exact wpAny_bind (wpAny_pure (wpAny_bind fin))
  | exact wpAny_bind fin
end
end
section
variable {P:Params} {F:Fz} {vs:List (Value×Value)} {l:FL} {prog:Program} {w:World} {es:List DictEntry}
noncomputable def aw (env:Env) (pos:Pos):List (Option Expr)→List Expr→List (Sem Value×Sem Value)
 | some k::ks,v::vs=>(eval k env,do let x ←eval v env;standAt pos;pure x)::aw env pos ks vs
 | _,_=>[]
inductive KV (P:Params) (F:Fz):List (Value×Value)→FL→Prop
 | nil:KV P F [] []
 | cons {x t v d vs l}:Is P F v d→KV P F vs l→KV P F ((.str x t,v)::vs) ((x,d)::l)
theorem KV.mono {F':Fz} (k:F.le F') (h:KV P F vs l):KV P F' vs l:=by
 induction h with
 | nil=>exact .nil
 | cons h _ ih=>exact .cons (h.mono k) ih
noncomputable def KV.vals:List (Value×Value)→FL→List (Str×Value)
 | (_,v)::vs,(x,_)::l=>(x,v)::KV.vals vs l
 | _,_=>[]
theorem KV.carries (h:KV P F vs l):Carries (strKind prog w) vs (KV.vals vs l):=by
 induction h with
 | nil=>exact trivial
 | cons _ _ ih=>exact ⟨beq_self_eq_true _,rfl,ih⟩
theorem KV.keys (h:KV P F vs l):(KV.vals vs l).map (·.1)=l.map (·.1):=by
 induction h with
 | nil=>rfl
 | cons _ _ ih=>exact congrArg (List.cons _) ih
inductive KM (P:Params) (F:Fz):List (Str×Value)→FL→Prop
 | nil:KM P F [] []
 | cons {x v d r l}:Is P F v d→KM P F r l→KM P F ((x,v)::r) ((x,d)::l)
theorem uY {x:Str} {v:Value} {d:AV} {e:DictEntry} (h1:(strKind prog w).is x e.key=true) (h2:e.val=v) (hk:∃ k,(strKind prog w).is k e.key=true∧e.hash=(strKind prog w).hash k) (h:Is w.params F v d) (r:IsEnts w.params F es l):IsEnts w.params F (e::es) ((x,d)::l):=by
 obtain ⟨hh,key,val⟩:=e
 obtain ⟨t,ht⟩:=Value.isStrOf_shape h1
 refine x12 (hk) ?_;clear hk;rintro k k1 k2
 have ek:k=x:=(strKind prog w).inj _ _ _ k1 h1
 subst ek
 dsimp only at ht k2 h2
 subst ht k2 h2
 exact .cons h r
theorem KM.ents {kvs:List (Str×Value)} (h:KM w.params F kvs l) (p:Pairs (strKind prog w) es kvs)
 (hk:∀ e∈es,∃ k,(strKind prog w).is k e.key=true∧e.hash=(strKind prog w).hash k):IsEnts w.params F es l:=by
 induction h generalizing es with
 | nil=>cases p;exact .nil
 | cons h r ih=>cases p with | cons h1 h2 rest=>exact uY h1 h2 (hk _ (.head _)) h (ih rest fun e he=>hk e (.tail _ he))
theorem KV.km (h:KV P F vs l):KM P F (KV.vals vs l) l:=by
 induction h with
 | nil=>exact .nil
 | cons h _ ih=>exact .cons h ih
theorem KV.ents (h:KV w.params F vs l) (p:Pairs (strKind prog w) es (KV.vals vs l))
 (hk:∀ e∈es,∃ k,(strKind prog w).is k e.key=true∧e.hash=(strKind prog w).hash k):IsEnts w.params F es l:=h.km.ents p hk
section
variable {B:a5} {n:Nat} {L:Addr} {H:HL} {σ:St} {env:Env}
noncomputable abbrev WD (B:a5) (n:Nat) (L:Addr) (t:Sem (List (Value×Value))) (H:HL) (σ:St) (Φ:FL→St→Prop):Prop:=
 W B n L t H σ (fun vs F' σ'=>∃ l,KV B.P F' vs l∧Φ l σ')
theorem wg {pos} {Φ:FL→St→Prop} (h:Φ [] σ):WD B n L (evalPairs (aw env pos [] [])) H σ Φ:=a7 fun _ _ _ _ x=>evalPairs_nil (.here x ⟨[],.nil,h⟩)
theorem sf {x:Str} {kk kp pos} {ks:List (Option Expr)} {v:Expr} {vs:List Expr} {Φ:FL→St→Prop}
 (h:WV B n L (eval v env) H σ fun a d σ₁=>WD B n L (evalPairs (aw env pos ks vs)) ((a,d)::H) σ₁ fun l σ₂=>Φ ((x,d)::l) σ₂):
 WD B n L (evalPairs (aw env pos (some (.Constant (.str x) kk kp)::ks) (v::vs))) H σ Φ:=a7 fun A F s hA X=>by
 refine evalPairs_cons (wpAny_Constant_str (wpAny_bind ?_))
 refine wpAny_mono (h.run A F { s with toks:=s.toks+1 } hA X) (fun a s₁ z=>wpAny_bind (wpAny_standAt (wpAny_pure ?_))) fun _ _ z=>z
 obtain ⟨F₁,σ₁,x₁,p₁,d,hd,w⟩:=z
 refine wpAny_mono (w.run A F₁ s₁ hA (x₁.push hd)) (fun b s₂ z=>?_) fun _ _ z=>z
 obtain ⟨F₂,σ₂,x₂,p₂,l,hl,q⟩:=z
 have pr:=p₁.trans p₂
 exact ⟨F₂,σ₂,x₂.weaken fun _ hp=>.tail _ hp,⟨pr.keep,pr.own,pr.frz,pr.mono,pr.gens,pr.os⟩,(x,d)::l,.cons (x₂.hold (.head _)) hl,q⟩
theorem eN {kvs:List (Str×Value)} {h:Heap} {a:Addr} (x:h.DictOf (strKind B.prog B.w) a kvs):∃ es m,h.get? a=some (dictOf es m)∧Pairs (strKind B.prog B.w) es kvs∧
 ∀ e∈es,∃ k,(strKind B.prog B.w).is k e.key=true∧e.hash=(strKind B.prog B.w).hash k:=by
 refine x36 (x) ?_;clear x;rintro ⟨cls,dict,data,slots⟩ es ep ho ⟨h1,h2,h3⟩ hd hk hp _
 dsimp only at h1 h2 h3 hd
 subst h1 h2 h3 hd
 exact ⟨es.toList,ep,ho,hp,fun e he=>hk e (Array.mem_toList_iff.mp he)⟩
theorem Holds.frozenAt {G:Heap} {h h':Heap} {a:Addr} {o:Obj} (x:Holds P G L F H σ h) (hF:F a=none) (hO:a∉L::a9 σ.objs) (k:∀ b o,b≠a→h.get? b=some o→h'.get? b=some o) (ha:h'.get? a=some o):
 Holds P G L (F.put a o) H σ h'∧F.le (F.put a o):=by
 have le:=Fz.le_put (o:=o) hF
 have sub:∀ b o,F b=some o→h'.get? b=some o:=fun b o e=>k b o (fun z=>by rw [z,hF] at e;contradiction) (x.sub _ _ e)
 refine ⟨⟨fun b o' e=>le _ _ (x.core b o' e),fun b o' e=>?_,?_,x.names,fun p hp=>(x.objs p hp).move le fun b o' hb e=>k _ _ (fun z=>hO (z▸.tail _ (ay.mpr ⟨p,hp,hb⟩))) e,x.nodup,fun b hb=>?_,fun p hp=>(x.held p hp).mono le,x.low⟩,le⟩
 · unfold Fz.put at e
   split at e
   · rename_i q;subst q;obtain rfl:=Option.some.inj e;exact ha
   · exact sub _ _ e
 · obtain ⟨m,⟨o',es,ep,e1,e2⟩,r⟩:=x.loc
   exact ⟨m,⟨o',es,ep,k _ _ (fun z=>hO (z▸.head _)) e1,e2⟩,fun y d hy=>let ⟨v,e,q⟩:=r y d hy;⟨v,e,q.mono le⟩⟩
 · unfold Fz.put
   split
   · rename_i q;exact absurd (q▸hb) hO
   · exact x.apart b hb
theorem gV {n:Nat} (h:B.G.objs.size≤n):(n==sysModules)=false:=by
 obtain ⟨mg,g⟩:=B.g
 have:=g.lt
 have h2:mainGlobals=3:=rfl
 rw [h2] at this
 refine beq_eq_false_iff_ne.mpr fun e=>?_
 have h3:sysModules=1:=rfl
 rw [h3] at e
 have h':3 < B.G.objs.size:=this
 omega
theorem pI {keys:List (Option Expr)} {values:List Expr} {pos:Pos} {Φ:PV}
 (h : WD B n L (evalPairs (aw env pos keys values)) H σ fun l σ₁=>(l.map (·.1)).Nodup∧∀ v,Φ v (.dct l) σ₁)
 (hs :autoParam ((evalEachOpt keys env).zip ((evalEach values env).map fun v=>do let x ←v;standAt pos;pure x)=(aw env pos keys values).map fun p=>(some p.1,p.2)) bR)
 (h0 :aw env pos keys values≠[]:=by exact List.cons_ne_nil _ _) (hl:(aw env pos keys values).length≤15:=by decide):WV B n L (eval (.Dict keys values pos) env) H σ Φ:=a7 fun A F s hA X=>by
 refine wpAny_Dict_pairs (knd:=strKind B.prog B.w) hs h0 hl ?_
 have hn:=b0 s.heap
 have up:∀ b o,s.heap.get? b=some o→(s.heap.push { cls:=.type "dict",data:=.dict #[] }).get? b=some o:=fun b o e=>Heap.get?_push_of_some _ e
 have aO:s.heap.objs.size∉L::a9 σ.objs:=fun hm=>by obtain ⟨o,ho⟩:=X.there _ hm;rw [hn] at ho;contradiction
 refine wpAny_mono (h.run A F _ hA (X.grow up)) (fun vs s₁ z=>?_) fun _ _ z=>z
 obtain ⟨F₁,σ₁,x₁,p₁,l,hl,hnd,q⟩:=z
 have a0:s₁.heap.get? s.heap.objs.size=some { cls:=.type "dict",data:=.dict #[] }:=p₁.keep _ _ aO (Heap.get?_push_size _ rfl)
 refine ⟨KV.vals vs l,KV.carries hl,⟨_,#[],_,a0,⟨rfl,rfl,rfl⟩,rfl,(fun e he=>by simp at he),.nil,List.nodup_nil⟩,fun h' hd hs'=>?_⟩
 rw [merged_nil_of_nodup _ (by rw [KV.keys hl];exact hnd)] at hd
 refine x23 (eN hd) ?_;rintro es m e1 e2 e3
 have aF:F₁ s.heap.objs.size=none:=by
  induction w:F₁ s.heap.objs.size using Option.casesOn with
  | none=>rfl
  | some o=>
   rcases p₁.frz _ _ w with z | z | z
   · have:=X.sub _ _ z;rw [hn] at this;contradiction
   · exact absurd z aO
   · rw [Heap.get?_push_size _ rfl] at z;contradiction
 have aO':s.heap.objs.size∉L::a9 σ₁.objs:=fun hm=>by
  rcases p₁.own _ hm with z | z
  · exact aO z
  · rw [Heap.get?_push_size _ rfl] at z;contradiction
 obtain ⟨x₂,le⟩:=x₁.frozenAt (h':=h') (o:=dictOf es m) aF aO' (fun b o hb e=>(hs'.2 b hb).trans e) e1
 refine ⟨_,σ₁,x₂,⟨fun b o hb e=>(hs'.2 b (fun z=>by rw [z,hn] at e;contradiction)).trans (p₁.keep _ _ hb (up _ _ e)),fun b hb=>(p₁.own b hb).imp_right fun e=>?_,fun b o e=>?_,p₁.mono.trans le,p₁.gens,p₁.os⟩,.dct l,.dct (Fz.put_self ..) ((KV.ents hl e2 e3).mono le) hnd (gV X.big),q _⟩
 · induction w:s.heap.get? b using Option.casesOn with
   | none=>rfl
   | some o=>rw [up _ _ w] at e;contradiction
 · unfold Fz.put at e
   split at e
   · rename_i z;exact .inr (.inr (by rw [z];exact hn))
   · refine (p₁.frz _ _ e).imp_right (Or.imp_right fun e=>?_)
     induction w:s.heap.get? b using Option.casesOn with
     | none=>rfl
     | some o=>rw [up _ _ w] at e;contradiction
end
end
section
variable {target:Expr} {a:Addr} {v:Value} {Φ:PF} {body:List Stmt}
noncomputable def vV (o:Obj):Prop:=∃ n,o.cls=.type n∧["enumerate","zip","dict_itemiterator","dict_reverseitemiterator","odict_iterator","itertools.zip_longest","itertools.pairwise"].contains n=false
section
variable {prog:Program} {w:World} {A:Around} {E:Value→Shared→Prop} {s:Shared}
theorem gB {o:Obj} {Q:Unit→Shared→Prop} (h:s.heap.get? a=some o) (q:vV o) (hQ:Q () s):wpAny (model prog w) A (letOwnedTupleGo target (.ref a) v) Q E s:=by
 refine x12 (q) ?_;clear q;rintro n hc hn
 unfold letOwnedTupleGo
 have key:∀ r:Addr,wpAny (model prog w) A (load a >>= fun o=>match o.cls,o.data with
  | .type n,.fields vs=>if (["enumerate","zip","dict_itemiterator","dict_reverseitemiterator","odict_iterator","itertools.zip_longest","itertools.pairwise"].contains n&&vs[0]? ==some (rawInt r))=true then (do rule "for.unpacks-the-owned-tuple";updateField a 0 .none) else pure ()
  | _,_=>pure ()) Q E s:=fun r=>by
  refine wpAny_bind (wpAny_load h ?_)
  rw [hc]
  cases o.data<;>first | exact wpAny_pure hQ | (dsimp only;rw [hn,Bool.false_and,if_neg Bool.false_ne_true];exact wpAny_pure hQ)
 split
 · rcases v with _ | _<;>first | exact wpAny_pure hQ | exact key _
 · rcases v with _ | _<;>first | exact wpAny_pure hQ | exact key _
 · exact wpAny_pure hQ
end
section
variable {B:a5} {n:Nat} {L:Addr} {H:HL} {σ:St} {env:Env}
theorem jh {x:Str} {p} {Φ:St→Prop} (h:WU B n L (storeName env x v) H σ Φ):WU B n L (assign (.Name x p) env v) H σ Φ:=a7 fun A F s hA X=>wpAny_assign_Name (h.run A F s hA X)
theorem xj {o:Expr} {attr:Str} {p} {Φ:St→Prop} (h:WV B n L (eval o env) H σ fun ov d σ₁=>WU B n L (setAttr ov attr v) ((ov,d)::H) σ₁ Φ):WU B n L (assign (.Attribute o attr p) env v) H σ Φ:=by
 rw [arm_assign_Attribute]
 refine af (a8 (ab h fun ov od σ₂ w=>ag (bz (a8 (W_dropU w fun σ₃ q=>?_)))))
 exact dz q
where
 W_dropU {t:Sem Unit} {H':HL} {Φ:St→Prop} {Ψ:St→Prop} {σ:St} (h:WU B n L t H' σ Φ) (k:∀ σ,Φ σ→Ψ σ):WU B n L t H' σ Ψ:=cD h k
theorem iT {t1 t2 e:Expr} {k p pos}
 (h:WV B n L (eval e env) H σ fun v d σ₁=>∃ d1 d2,d=.tup [d1,d2]∧∀ v1 v2,WU B n L (assign t1 env v1) ((v1,d1)::(v2,d2)::H) σ₁ fun σ₂=>WU B n L (assign t2 env v2) ((v1,d1)::(v2,d2)::H) σ₂ fun σ₃=>Φ .next σ₃)
 (hs:autoParam (swapsWithSole [.Tuple [t1,t2] k p] e pos.line env=pure false) bR) (hw:autoParam (swappedStores [.Tuple [t1,t2] k p] e env=pure none) bR)
 (he:autoParam (assignEach [t1,t2] env=[(false,assign t1 env),(false,assign t2 env)]) bR):WF B n L (exec (.Assign [.Tuple [t1,t2] k p] e pos) env) H σ Φ:=a7 fun A F s hA X=>by
 refine PyProof.Rows.Assign_Tuple (wpAny_mono (h.run A F s hA X) (fun v s₁ z=>?_) fun _ _ z=>z) hs hw
 obtain ⟨F₁,σ₁,x₁,p₁,d,hd,d1,d2,rfl,w⟩:=z
 refine x33 (cx hd) ?_;rintro a vs m rfl e1 e2
 refine x23 (two e2) ?_;rintro v1 v2 rfl q1 q2
 refine assign_Tuple_tuple hA.handled (cG x₁.sub e1) (by rw [he];rfl) (by rw [he];rfl) fun h' hk=>?_
 rw [he]
 have keep:∀ b o,s₁.heap.get? b=some o→h'.get? b=some o:=fun b o e=>hk b o (Nat.ne_of_lt (Heap.lt_size e)) e
 have x₂:=((x₁.grow keep).push q2).push q1
 refine assignInOrder_cons ?_
 refine wpAny_mono ((w v1 v2).run A F₁ { s₁ with heap:=h' } hA x₂) (fun _ s₃ z=>?_) fun _ _ z=>z
 obtain ⟨F₃,σ₃,x₃,p₃,w₃⟩:=z
 refine assignInOrder_cons (wpAny_mono (w₃.run A F₃ s₃ hA x₃) (fun _ s₄ z=>?_) fun _ _ z=>z)
 obtain ⟨F₄,σ₄,x₄,p₄,q⟩:=z
 refine assignInOrder_nil ⟨F₄,σ₄,x₄.weaken fun _ hp=>.tail _ (.tail _ hp),p₁.trans (aJ.trans (s':={ s₁ with heap:=h' }) ⟨fun b o _ e=>keep b o e,fun _ h=>.inl h,fun _ _ e=>.inl e,.refl F₁,.refl _,rfl⟩ (p₃.trans p₄)),.next,trivial,q⟩
where
 two {P:Params} {F:Fz} {vs:List Value} {d1 d2:AV} (h:IsAll P F vs [d1,d2]):∃ v1 v2,vs=[v1,v2]∧Is P F v1 d1∧Is P F v2 d2:=by
  exact oe h
noncomputable def jC (J:St→Prop) (Φ:PF):PF
 | .next,σ=>J σ
 | .cont,σ=>J σ
 | .brk,σ=>Φ .next σ
 | .ret d,σ=>Φ (.ret d) σ
theorem js {test:Expr} {pos} (J:Nat→St→Prop) (k:Nat) (h0:J k σ)
 (h:∀ k σ,J k σ→WB B n L (isTrue test env (eval test env)) H σ fun b σ₁=>(b=true→WF B n L (execs body env) H σ₁ (jC (fun σ₂=>∃ m,m < k∧J m σ₂) Φ))∧(b=false→Φ .next σ₁)):
 WF B n L (exec (.While test body [] pos) env) H σ Φ:=a7 fun A F s hA X=>by
 refine wpAny_While ?_
 refine codeAny_whileLoop (fun k s'=>∃ F' σ',Holds B.P B.G L F' H σ' s'.heap∧aJ (L::a9 σ.objs) F s (L::a9 σ'.objs) F' s'∧J k σ') (fun k s₁ hI=>?_) k ⟨F,σ,X,.refl _ _ _,h0⟩
 refine x23 (hI) ?_;clear hI;rintro F₁ σ₁ x₁ p₁ j₁
 refine wpAny_mono ((h k σ₁ j₁).run A F₁ s₁ hA x₁) (fun b s₂ z=>?_) fun _ _ z=>z.elim
 obtain ⟨F₂,σ₂,x₂,p₂,q⟩:=z
 induction b using Bool.casesOn with
 | false=>exact wpAny_execs_nil ⟨F₂,σ₂,x₂,p₁.trans p₂,.next,trivial,q.2 rfl⟩
 | true=>
  refine wpAny_mono ((q.1 rfl).run A F₂ s₂ hA x₂) (fun f s₃ z=>?_) fun _ _ z=>z.elim
  obtain ⟨F₃,σ₃,x₃,p₃,e,he,q⟩:=z
  have pp:=p₁.trans (p₂.trans p₃)
  cases f with
  | next=>rcases e with _ | _<;>first | exact he.elim | (refine x12 (q) ?_;clear q;rintro m hm j;exact ⟨m,hm,F₃,σ₃,x₃,pp,j⟩)
  | cont=>rcases e with _ | _<;>first | exact he.elim | (refine x12 (q) ?_;clear q;rintro m hm j;exact ⟨m,hm,F₃,σ₃,x₃,pp,j⟩)
  | brk=>rcases e with _ | _<;>first | exact he.elim | exact ⟨F₃,σ₃,x₃,pp,.next,trivial,q⟩
  | ret v=>rcases e with _ | _<;>first | exact he.elim | exact ⟨F₃,σ₃,x₃,pp,.ret _,he,q⟩
inductive jc (B:a5) (n:Nat) (xv:Value) (d:AV) (N:Nat) (item:Nat→AV) (a:Addr) (K:Nat→Obj→Prop):Prop
 | mk (next:∀ L' i loc objs H,i < N→(xv,d)∈H→W B n L' (pyNext (.ref a)) H ⟨loc,(a,.is (K i))::objs⟩ fun r F σ'=>∃ v,r=some v∧Is B.P F v (item i)∧σ'=⟨loc,(a,.is (K (i+1)))::objs⟩)
  (stop:∀ L' loc objs H,(xv,d)∈H→W B n L' (pyNext (.ref a)) H ⟨loc,(a,.is (K N))::objs⟩ fun r _ σ'=>r=none∧σ'=⟨loc,objs⟩)
  (self:∀ L' loc objs H,W B n L' (pyIter (.ref a)) H ⟨loc,(a,.is (K 0))::objs⟩ fun r _ σ'=>r=.ref a∧σ'=⟨loc,(a,.is (K 0))::objs⟩) (quiet:∀ i o,K i o→vV o)
noncomputable def bL (B:a5) (n:Nat) (L:Addr) (xv:Value) (d:AV) (N:Nat) (item:Nat→AV):Prop:=
 ∀ H σ,(xv,d)∈H→W B n L (pyIter xv) H σ fun r _ σ'=>∃ (a:Addr) (K:Nat→Obj→Prop),r=.ref a∧σ'=⟨σ.loc,(a,.is (K 0))::σ.objs⟩∧jc B n xv d N item a K
noncomputable def fm (a:Addr) (p:Obj→Prop) (J:St→Prop) (Φ:PF):PF
 | .next,σ=>∃ loc objs,σ=⟨loc,(a,.is p)::objs⟩∧J ⟨loc,objs⟩
 | .cont,σ=>∃ loc objs,σ=⟨loc,(a,.is p)::objs⟩∧J ⟨loc,objs⟩
 | .brk,σ=>Φ .next σ
 | .ret d,σ=>Φ (.ret d) σ
theorem hU {p:Obj→Prop} {J:St→Prop} {H':HL} (st:WU B n L (assign target env v) H' σ fun σ₂=>WF B n L (execs body env) H σ₂ (fm a p J Φ))
 {A:Around} {F:Fz} {s:Shared} {C:Flow→Shared→Prop} {E E':Value→Shared→Prop} (hA:c3 n A) (X:Holds B.P B.G L F H' σ s.heap) (hH:∀ q∈H,q∈H')
 (k:∀ f s' F' σ' e,Holds B.P B.G L F' H σ' s'.heap→aJ (L::a9 σ.objs) F s (L::a9 σ'.objs) F' s'→iw B.P F' f e→fm a p J Φ e σ'→C f s'):wpAny B.M A (assign target env v) (fun _ s₂=>wpAny B.M A (execs body env) C E s₂) E' s:=
 st.then hA X fun _ _ _ _ x₁ p₁ w=>w.then hA (x₁.weaken hH) fun _ _ _ _ x₂ p₂ q=>Exists.elim q fun _ q=>k _ _ _ _ _ x₂ (p₁.trans p₂) q.1 q.2
noncomputable def Dv (G:Prop) (Q:Flow→Prop):Flow→Prop
 | .next | .cont=>G
 | .brk=>Q .next
 | .ret v=>Q (.ret v)
theorem jq {P:Params} {F:Fz} {f:Flow} {e:Fl} {σ':St} {p:Obj→Prop} {J:St→Prop} {G:Prop} {Q:Flow→Prop} (he:iw P F f e) (q:fm a p J Φ e σ')
 (go:∀ loc objs,σ'=⟨loc,(a,.is p)::objs⟩→J ⟨loc,objs⟩→G) (out:∀ f e,iw P F f e→Φ e σ'→Q f):Dv G Q f:=by
 have g:(∃ loc objs,σ'=⟨loc,(a,.is p)::objs⟩∧J ⟨loc,objs⟩)→G:=fun ⟨loc,objs,e,j⟩=>go loc objs e j
 rcases f with _ | _<;>rcases e with _ | _<;>first | exact he.elim | exact g q | exact out .next .next trivial q | exact out (.ret _) (.ret _) he q
inductive sk (B:a5) (L:Addr) (H:HL) (σ:St) (F:Fz) (s:Shared) (a:Addr) (K:Nat→Obj→Prop) (N:Nat) (J:Nat→St→Prop) (k:Nat) (s':Shared):Prop
 | mk (i:Nat) (F':Fz) (loc:LL) (objs:OL) (e:k=N - i) (hi:i≤N) (j:J i ⟨loc,objs⟩) (x:Holds B.P B.G L F' H ⟨loc,(a,.is (K i))::objs⟩ s'.heap) (p:aJ (L::a9 σ.objs) F s (L::a9 ((a,AO.is (K i))::objs)) F' s')
inductive jR (B:a5) (n:Nat) (L:Addr) (H:HL) (env:Env) (target:Expr) (body:List Stmt) (J:Nat→St→Prop) (Φ:PF) (xv:Value) (d:AV) (σ₁:St):Prop
 | mk (N:Nat) (item:Nat→AV) (it:bL B n L xv d N item) (j0:J 0 σ₁) (fin:∀ σ,J N σ→Φ .next σ) (step:∀ i loc objs a p v,i < N→J i ⟨loc,objs⟩→WU B n L (assign target env v) ((v,item i)::(xv,d)::H) ⟨loc,(a,.is p)::objs⟩ fun σ₂=>WF B n L (execs body env) H σ₂ (fm a p (J (i+1)) Φ))
theorem CI {iter:Expr} {pos} (J:Nat→St→Prop) (h:WV B n L (eval iter env) H σ (jR B n L H env target body J Φ))
 (hs:autoParam (∀ x,foldedSetIterable iter env x=pure x) bI) (ht:autoParam (∀ it v,letOwnedTupleGo target it v=pure ()) bJ):WF B n L (exec (.For target iter body [] pos) env) H σ Φ:=fL fun A F s Q hA X fq=>by
 refine wpAny_For (h.then hA X fun xv s₁ F₁ σ₁ x₁ p₁ q=>?_) hs
 refine x12 (q) ?_;clear q;rintro d hd ⟨N,item,it,j0,fin,step⟩
 refine (it _ σ₁ (.head _)).then hA (x₁.push hd) fun r s₂ F₂ σ₂ x₂ p₂ q=>?_
 refine x23 (q) ?_;clear q;rintro a K rfl rfl ⟨next,stop,_⟩
 refine codeAny_forLoop (sk B L ((xv,d)::H) σ F s a K N J) (fun k s₃ hI=>?_) N ⟨0,F₂,σ₁.loc,σ₁.objs,rfl,Nat.zero_le _,j0,x₂,p₁.trans p₂⟩ (ht _)
 obtain ⟨i,F₃,loc,objs,e,hi,j,x₃,p₃⟩:=hI
 by_cases hN:i=N
 · subst hN
   refine (stop L loc objs _ (.head _)).then hA x₃ fun r s₄ F₄ σ₄ x₄ p₄ q=>?_
   obtain ⟨rfl,rfl⟩:=q
   exact wpAny_execs_nil (fq _ _ ⟨F₄,_,x₄.weaken fun _ hp=>.tail _ hp,p₃.trans p₄,.next,trivial,fin _ j⟩)
 · have hlt:i < N:=Nat.lt_of_le_of_ne hi hN
   refine (next L i loc objs _ hlt (.head _)).then hA x₃ fun r s₄ F₄ σ₄ x₄ p₄ q=>?_
   refine x13 (q) ?_;clear q;rintro v rfl hv rfl
   refine hU (step i loc objs a (K (i+1)) v hlt j) hA (x₄.push hv) (fun _ hp=>.tail _ (.tail _ hp)) fun f s₅ F₅ σ₅ fe x₅ p₅ he q=>?_
   have pp:=p₃.trans (p₄.trans p₅)
   refine jq (G:=∃ m,m < k∧sk B L ((xv,d)::H) σ F s a K N J m s₅) (Q:=fun f=>Q f s₅) he q (fun loc' objs' e' j'=>?_) fun f e he q=>fq _ _ ⟨F₅,σ₅,x₅,pp,e,he,q⟩
   subst e'
   exact ⟨N - (i+1),e▸Nat.sub_succ_lt_self _ _ hlt,i+1,F₅,loc',objs',rfl,hlt,j',x₅.push ((x₄.hold (.head _)).mono p₅.mono),pp⟩
end
end
section
variable {F:Fz} {objs:OL} {loc:LL} {s s':Shared} {Ψ:Fz→St→Prop} {xv:Value}
section
variable {B:a5} {n:Nat} {L:Addr} {H:HL} {σ:St} {env:Env}
theorem Holds.add {P:Params} {G:Heap} {h:Heap} {H':HL} (x:Holds P G L F H σ h) (k:∀ p∈H',Is P F p.1 p.2):Holds P G L F (H'++H) σ h:=
 ⟨x.core,x.sub,x.loc,x.names,x.objs,x.nodup,x.apart,fun p hp=>(List.mem_append.mp hp).elim (k p) (x.held p),x.low⟩
theorem c0.enter {P:Params} {G:Heap} {h h₁:Heap} {C:Addr} (x:c0 P G F objs h) (hC:h.get? C=none) (big:G.objs.size≤C)
 (k : ∀ b o,h.get? b=some o→h₁.get? b=some o) (hl:∃ m,h₁.Ns C m∧∀ y d,(y,some d)∈loc→∃ v,m y=some v∧Is P F v d) (hn:(loc.map (·.1)).Nodup) (hH:∀ p∈H,Is P F p.1 p.2):Holds P G C F H ⟨loc,objs⟩ h₁:=by
 have there:∀ b∈a9 objs,∃ o,h.get? b=some o:=fun b hb=>by
  refine x12 (ay.mp hb) ?_;rintro p hp hb
  exact (x.objs p hp).there b hb
 refine ⟨x.core,fun b o e=>k _ _ (x.sub _ _ e),hl,hn,fun p hp=>(x.objs p hp).move (.refl F) fun b o _ e=>k _ _ e,List.nodup_cons.mpr ⟨fun hm=>?_,x.nodup⟩,fun b hb=>?_,hH,big⟩
 · obtain ⟨o,ho⟩:=there _ hm;rw [hC] at ho;contradiction
 · rcases mC0 hb with rfl | hb
   · induction q:F b using Option.casesOn with
     | none=>rfl
     | some o=>have:=x.sub _ _ q;rw [hC] at this;contradiction
   · exact x.apart b hb
theorem aJ.leave {F':Fz} {s₁:Shared} {O O':List Addr} {C:Addr} (p:aJ (C::O) F s₁ (C::O') F' s') (hC:s.heap.get? C=none) (k:∀ b o,s.heap.get? b=some o→s₁.heap.get? b=some o) (g:c1 s.gens s₁.gens) (os:s₁.os=s.os) (nC:C∉O'):aJ O F s O' F' s':=
 (p.over (fun b hb=>(mC0 hb).elim (fun e=>.inr (e▸hC)) .inl) k g os).fewer fun _=>.tail _
theorem ae.remove {a:Addr} {o:AO} (x:Holds B.P B.G L F H ⟨loc,(a,o)::objs⟩ s.heap)
 (k :∀ b y,b≠a→s.heap.get? b=some y→s'.heap.get? b=some y) (g:s'.gens=s.gens) (os:s'.os=s.os) (z:Ψ F ⟨loc,objs⟩):ae B L H ⟨loc,(a,o)::objs⟩ F s s' Ψ:=by
 have x':=x.drop (objs':=objs) (rest:=[(a,o)]) (List.perm_append_comm (l₁:=[(a,o)]))
 have aO:a∈L::a9 ((a,o)::objs):=.tail _ (.head _)
 have nd:=x.nodup
 have nL:a≠L:=fun e=>(List.nodup_cons.mp nd).1 (e▸.head _)
 have nO:a∉a9 objs:=fun hm=>(List.nodup_cons.mp (List.nodup_cons.mp nd).2).1 (List.mem_append_right _ hm)
 have keep:∀ b y,b≠a→s.heap.get? b=some y→s'.heap.get? b=some y:=k
 refine ⟨F,⟨loc,objs⟩,⟨x.core,fun b y e=>keep b y (fun q=>?_) (x.sub _ _ e),?_,x'.names,fun p hp=>(x'.objs p hp).move (.refl F) fun b y hb e=>keep b y (fun q=>nO (q▸ay.mpr ⟨p,hp,hb⟩)) e,x'.nodup,x'.apart,x'.held,x.low⟩,
  ⟨fun b y hb e=>keep b y (fun q=>hb (q▸aO)) e,fun b hb=>.inl ?_,fun _ _ e=>.inl e,.refl F,.of g,os⟩,z⟩
 · have:=x.apart a aO;rw [←q,e] at this;contradiction
 · obtain ⟨m,⟨o',es,ep,e1,e2⟩,r⟩:=x.loc
   exact ⟨m,⟨o',es,ep,keep _ _ (fun q=>nL q.symm) e1,e2⟩,r⟩
 · rcases mC0 hb with rfl | hb
   · exact .head _
   · exact .tail _ (.tail _ (List.mem_append_right _ hb))
theorem ae.turn {a:Addr} {p p':Obj→Prop} (x:Holds B.P B.G L F H ⟨loc,(a,.is p)::objs⟩ s.heap)
 (k:Heap.SameBut a s.heap s'.heap) (q:∃ o,s'.heap.get? a=some o∧p' o) (g:s'.gens=s.gens) (os:s'.os=s.os) (z:Ψ F ⟨loc,(a,.is p')::objs⟩):ae B L H ⟨loc,(a,.is p)::objs⟩ F s s' Ψ:=by
 have nL:L≠a:=fun e=>(List.nodup_cons.mp x.nodup).1 (e▸.head _)
 refine ae.change (pre:=[]) (o':=.is p') x (c:=a) (.inl rfl) rfl (fun b y _ h e=>(k.2 b h).trans e) ?_ q g os z
 refine x12 (x.loc) ?_;rintro m hm r
 exact ⟨m,hm.sameBut k nL,r⟩
theorem ae.begin (x:Holds B.P B.G L F H σ s.heap) {o:Obj} {p:Obj→Prop} {tk:Nat} (hp:p o) (z:Ψ F ⟨σ.loc,(s.heap.objs.size,.is p)::σ.objs⟩)
 (hf:(s.heap.push o).get? s.heap.objs.size=some o:=by exact Heap.get?_push_size _ rfl):ae B L H σ F s { s with heap:=s.heap.push o,toks:=tk } Ψ:=
 ae.track (o:=.is p) x (fun b y e=>Heap.get?_push_of_some _ e) (fun b hb=>by rw [List.mem_singleton.mp hb];exact b0 _) (by simp [AO.more]) ⟨o,hf,hp⟩ rfl rfl z
noncomputable def nf (T:String) (l:List Nat) (t:Tok) (i:Nat) (o:Obj):Prop:=o.cls=.type T∧o.data=.fields #[.str (S l) t,.int i 0]
theorem m5 {l:List Nat}:bL B n L xv (.str l) l.length (fun i=>.str [l.getD i 0]):=by
 intro H σ m;refine a7 fun A F s hA X=>?_
 obtain ⟨t,rfl⟩:=ak (X.hold m)
 have cps:∀ i:Nat,(S l).cps[i]? =l[i]?:=fun i=>by simp
 induction ha:(S l).cps.all (· < 128) using Bool.casesOn with
 | true=>
  refine wpAny_pyIter_ascii ha (ae.begin (p:=nf "str_ascii_iterator" l t 0) X ⟨rfl,rfl⟩ ⟨_,fun i=>nf "str_ascii_iterator" l t i,rfl,rfl,fun L' i loc objs H hi _=>a7 fun A F s hA X=>?_,fun L' loc objs H _=>a7 fun A F s hA X=>?_,(fun L' loc objs H=>a7 fun A F s hA X=>?_),fun i o ho=>⟨_,(by first | exact ho.1 | exact congrArg Obj.cls ho),rfl⟩⟩)
  · refine x13 (X.objs _ (.head _)) ?_;rintro o ho hc hd
    refine wpAny_pyNext_ascii_item (x:=S l) (t:=t) (i:=i) (c:=l[i]) ⟨o,ho,hc,hd⟩ (by rw [cps];simp [hi]) fun h' hit hs=>?_
    exact ae.turn X hs hit rfl rfl ⟨_,rfl,(by have e:l.getD i 0=l[i]:=(by simp [hi]);show Is B.P F _ (.str [l.getD i 0]);rw [e];exact .str _ _),rfl⟩
  · refine x13 (X.objs _ (.head _)) ?_;rintro o ho hc hd
    refine wpAny_pyNext_ascii_end (x:=S l) (t:=t) (i:=l.length) hA.handled ⟨o,ho,hc,hd⟩ (by rw [cps];simp) fun h' hs=>?_
    exact ae.remove X (fun b y hb e=>hs b y hb e) rfl rfl ⟨rfl,rfl⟩
  · refine x13 (X.objs _ (.head _)) ?_;rintro o ho hc hd
    exact wpAny_pyIter_striter_ascii (i:=0) ⟨o,ho,hc,hd⟩ (.here X ⟨rfl,rfl⟩)
 | false=>
  refine wpAny_pyIter_wide ha (ae.begin (p:=nf "str_iterator" l t 0) X ⟨rfl,rfl⟩ ⟨_,fun i=>nf "str_iterator" l t i,rfl,rfl,fun L' i loc objs H hi _=>a7 fun A F s hA X=>?_,fun L' loc objs H _=>a7 fun A F s hA X=>?_,(fun L' loc objs H=>a7 fun A F s hA X=>?_),fun i o ho=>⟨_,(by first | exact ho.1 | exact congrArg Obj.cls ho),rfl⟩⟩)
  · refine x13 (X.objs _ (.head _)) ?_;rintro o ho hc hd
    refine wpAny_pyNext_wide_item (x:=S l) (t:=t) (i:=i) (c:=l[i]) ⟨o,ho,hc,hd⟩ (by rw [cps];simp [hi]) fun h' hit hs=>?_
    exact ae.turn X hs hit rfl rfl ⟨_,rfl,(by have e:l.getD i 0=l[i]:=(by simp [hi]);show Is B.P F _ (.str [l.getD i 0]);rw [e];exact .str _ _),rfl⟩
  · refine x13 (X.objs _ (.head _)) ?_;rintro o ho hc hd
    refine wpAny_pyNext_wide_end (x:=S l) (t:=t) (i:=l.length) hA.handled ⟨o,ho,hc,hd⟩ (by rw [cps];simp) fun h' hs=>?_
    exact ae.remove X (fun b y hb e=>hs b y hb e) rfl rfl ⟨rfl,rfl⟩
  · refine x13 (X.objs _ (.head _)) ?_;rintro o ho hc hd
    exact wpAny_pyIter_striter_wide (i:=0) ⟨o,ho,hc,hd⟩ (.here X ⟨rfl,rfl⟩)
theorem EX {l:List AV}:bL B n L xv (.tup l) l.length (fun i=>l.getD i .any):=by
 intro H σ m;refine a7 fun A F s hA X=>?_
 refine x33 (cx (X.hold m)) ?_;rintro t vs q rfl e1 e2
 have hlen:=e2.length
 refine iter_tuple (cG X.sub e1) (ae.begin (p:=fun o=>o.cls=.type "tuple_iterator"∧o.data=.fields #[.ref t,.int (0:Nat) 0]) X ⟨rfl,rfl⟩ ⟨_,fun i o=>o.cls=.type "tuple_iterator"∧o.data=.fields #[.ref t,.int (i:Nat) 0],rfl,rfl,fun L' i loc objs H hi mm=>a7 fun A F s hA X=>?_,fun L' loc objs H mm=>a7 fun A F s hA X=>?_,(fun L' loc objs H=>a7 fun A F s hA X=>?_),fun i o ho=>⟨_,(by first | exact ho.1 | exact congrArg Obj.cls ho),rfl⟩⟩)
 · refine x13 (X.objs _ (.head _)) ?_;rintro o ho hc hd
   refine x33 (cx (X.hold mm)) ?_;rintro t' vs' q' et e1 e2
   cases et
   refine x12 (fG.nth e2 (k:=i) (d:=l[i]) (by simp [hi])) ?_;rintro y hy hyd
   refine next_tuple_item (i:=i) ⟨o,ho,hc,hd⟩ (cG X.sub e1) (x:=y) (by simpa using hy) fun h' hit hs=>?_
   exact ae.turn X hs hit rfl rfl ⟨_,rfl,(by have e:l.getD i .any=l[i]:=(by simp [hi]);show Is B.P F _ (l.getD i .any);rw [e];exact hyd),rfl⟩
 · refine x13 (X.objs _ (.head _)) ?_;rintro o ho hc hd
   refine x33 (cx (X.hold mm)) ?_;rintro t' vs' q' et e1 e2
   cases et
   refine next_tuple_end (i:=l.length) hA.handled ⟨o,ho,hc,hd⟩ (cG X.sub e1) (by have:=e2.length;simp;omega) fun h' hs=>?_
   exact ae.remove X (fun b y hb e=>hs b y hb e) rfl rfl ⟨rfl,rfl⟩
 · refine x13 (X.objs _ (.head _)) ?_;rintro o ho hc hd
   exact wpAny_pyIter_tupleiter (t:=t) (i:=0) ⟨o,ho,hc,hd⟩ (.here X ⟨rfl,rfl⟩)
theorem f9 {l:List AV}:bL B n L xv (.lst l) l.length (fun i=>l.getD i .any):=by
 intro H σ m;refine a7 fun A F s hA X=>?_
 refine x33 (bd (X.hold m)) ?_;rintro t vs q rfl e1 e2
 have hlen:=e2.length
 refine wpAny_pyIter_list (bP X.sub e1) (ae.begin (p:=fun o=>o.cls=.type "list_iterator"∧o.data=.fields #[.ref t,.int (0:Nat) 0]) X ⟨rfl,rfl⟩ ⟨_,fun i o=>o.cls=.type "list_iterator"∧o.data=.fields #[.ref t,.int (i:Nat) 0],rfl,rfl,fun L' i loc objs H hi mm=>a7 fun A F s hA X=>?_,fun L' loc objs H mm=>a7 fun A F s hA X=>?_,(fun L' loc objs H=>a7 fun A F s hA X=>?_),fun i o ho=>⟨_,(by first | exact ho.1 | exact congrArg Obj.cls ho),rfl⟩⟩)
 · refine x13 (X.objs _ (.head _)) ?_;rintro o ho hc hd
   refine x33 (bd (X.hold mm)) ?_;rintro t' vs' q' et e1 e2
   cases et
   refine x12 (fG.nth e2 (k:=i) (d:=l[i]) (by simp [hi])) ?_;rintro y hy hyd
   refine wpAny_pyNext_list_item (i:=i) ⟨o,ho,hc,hd⟩ (bP X.sub e1) (x:=y) (by simpa using hy) fun h' hit hs=>?_
   exact ae.turn X hs hit rfl rfl ⟨_,rfl,(by have e:l.getD i .any=l[i]:=(by simp [hi]);show Is B.P F _ (l.getD i .any);rw [e];exact hyd),rfl⟩
 · refine x13 (X.objs _ (.head _)) ?_;rintro o ho hc hd
   refine x33 (bd (X.hold mm)) ?_;rintro t' vs' q' et e1 e2
   cases et
   refine wpAny_pyNext_list_end (i:=l.length) hA.handled ⟨o,ho,hc,hd⟩ (bP X.sub e1) (by have:=e2.length;simp;omega) fun h' hs=>?_
   exact ae.remove X (fun b y hb e=>hs b y hb e) rfl rfl ⟨rfl,rfl⟩
 · refine x13 (X.objs _ (.head _)) ?_;rintro o ho hc hd
   exact wpAny_pyIter_listiter (l:=t) (i:=0) ⟨o,ho,hc,hd⟩ (.here X ⟨rfl,rfl⟩)
end
end
section
variable {Φ:PV}
section
variable {B:a5} {n:Nat} {L:Addr} {H:HL} {σ:St} {env:Env}
theorem k9 (C:Value) (vs:List Value) (kw:List (Str×Value)) (C':Addr) (e:C=.ref C'):(Code.builtin "type.__call__" ⟨C::vs,kw⟩).weight=1:=by subst e;kernel_rfl
theorem zW {C fI:Addr} {vs:List Value} {ds:List AV} (hm:makesIn B.K C=true) (hi:findIn B.K (.ref C) "__init__"=some (some (.ref fI))) (hf:isFn B.K (.ref fI)=true)
 (e :vs.length=ds.length) (k:∀ p∈vs.zip ds,p∈H) (c:∀ x dx,a4 B n fI (.ref x::ds) ((x,.inst C dx [])::σ.objs) fun d objs'=>d=.none∧Φ (.ref x) (.ref x) ⟨σ.loc,objs'⟩):
 WV B (n+1) L (call (.ref C) vs) H σ Φ:=a7 fun A F s hA X=>by
 obtain ⟨hh,g,d,t,os⟩:=s
 refine wpAny_call (make_core (makes_of X.K hm) (looks_findIn X.K hi) (fun self=>bind_fn X.K self (beq_iff_eq.mp hf)) (.inl rfl) ?_)
 have T:ae B L H σ F ⟨hh,g,d,t,os⟩ ⟨(hh.push emptyDict).push (instObj C hh.objs.size),g,d,t,os⟩ (fun F' σ'=>F'=F∧σ'=⟨σ.loc,(hh.objs.size+1,.inst C hh.objs.size [])::σ.objs⟩):=by
  have h1:((hh.push emptyDict).push (instObj C hh.objs.size)).get? (hh.objs.size+1)=some (instObj C hh.objs.size):=by heap_get
  have h2:((hh.push emptyDict).push (instObj C hh.objs.size)).get? hh.objs.size=some (dictOf [] 0):=Heap.get?_push_of_some _ (Heap.get?_push_size _ rfl)
  refine ae.track (o:=.inst C hh.objs.size []) X (fun b y e=>Heap.get?_push_of_some _ (Heap.get?_push_of_some _ e)) (fun b hb=>?_) (by simp [AO.more]) ⟨h1,[],0,h2,.nil⟩ rfl rfl ⟨rfl,rfl⟩
  induction q:hh.get? b using Option.casesOn with
  | none=>rfl
  | some o=>
   have:b < hh.objs.size:=Heap.lt_size q
   rcases mC0 hb with rfl | hb
   · exact absurd this (Nat.not_lt.mpr (Nat.le_succ _))
   · rw [List.mem_singleton.mp hb] at this;exact absurd this (Nat.lt_irrefl _)
 obtain ⟨F₁,σ₁,X₁,p₁,rfl,rfl⟩:=T
 have hA':c3 n (A.under (.builtin "type.__call__" ⟨.ref C::vs,[]⟩)):=by
  refine ⟨hA.handled,?_,?_⟩
  · have:=hA.depth
    show A.depth+(Code.builtin "type.__call__" ⟨.ref C::vs,[]⟩).weight+n≤900
    rw [k9 (.ref C) vs [] C rfl];omega
  · have:=hA.units
    show A.units+(Code.builtin "type.__call__" ⟨.ref C::vs,[]⟩).cUnits+8*n≤9000
    have:(Code.builtin "type.__call__" ⟨.ref C::vs,[]⟩).cUnits=1:=by kernel_rfl
    omega
 refine codeAny_mono (c _ _ _ F₁ _ _ hA' X₁.call (.cons (.ref _) (fU X e k))) fun r s' z=>?_
 obtain ⟨v,d',objs',F',rfl,hd,y,p,rfl,q⟩:=z
 obtain ⟨x',p'⟩:=X₁.back y p
 exact ⟨cm hd,F',_,x',p₁.trans p',_,.ref _,q⟩
theorem vA {T:String} {first:List Value} {args:List Expr} {pos}
 (h:WL B n L (spliced (backTo pos (starEach args env))) H σ fun vs ds σ₁=>WV B n L (call (.type T) (first++vs)) (vs.zip ds++H) σ₁ Φ)
 (hp:autoParam ((backTo pos (starEach args env)).any (·.1)=false) bR):WV B n L (callWith pos (.type T) first (backTo pos (starEach args env)) []) H σ Φ:=a7 fun A F s hA x=>by
 refine PyProof.Rows.callWith_type hp (cu hp (wpAny_mono (h.run A F s hA x) (fun vs s₁ z=>?_) fun _ _ z=>z))
 refine z.then fun F₁ σ₁ x₁ ⟨ds,hds,w⟩=>?_
 exact wpAny_mono (w.run A F₁ s₁ hA (x₁.add (gN.zip_is hds))) (fun _ _ y=>y.weaken fun _ hp=>List.mem_append_right _ hp) fun _ _ z=>z
theorem Holds.freeze {P:Params} {G:Heap} {F:Fz} {h:Heap} {loc:LL} {objs:OL} {a:Addr} {l:List AV} (x:Holds P G L F H ⟨loc,(a,.list l)::objs⟩ h):
 ∃ F',F.le F'∧Holds P G L F' H ⟨loc,objs⟩ h∧Is P F' (.ref a) (.lst l)∧∀ b o,F' b=some o→F b=some o∨b=a:=by
 refine x22 (x.objs _ (.head _)) ?_;rintro vs m h1 h2
 have aF:F a=none:=x.apart a (.tail _ (.head _))
 have le:=Fz.le_put (o:=aA vs m) aF
 have x':=x.drop (objs':=objs) (rest:=[(a,AO.list l)]) (List.perm_append_comm (l₁:=[(a,AO.list l)]))
 have nd:=x.nodup
 have nL:a≠L:=fun e=>(List.nodup_cons.mp nd).1 (e▸.head _)
 have nO:a∉a9 objs:=fun hm=>(List.nodup_cons.mp (List.nodup_cons.mp nd).2).1 (List.mem_append_right _ hm)
 refine ⟨F.put a (aA vs m),le,⟨fun b o' e=>le _ _ (x.core b o' e),fun b o' e=>?_,let ⟨m,hm,r⟩:=x.loc;⟨m,hm,fun y d hy=>let ⟨v,e,q⟩:=r y d hy;⟨v,e,q.mono le⟩⟩,x'.names,
  fun p hp=>(x'.objs p hp).move le fun _ _ _ e=>e,x'.nodup,fun b hb=>?_,fun p hp=>(x.held p hp).mono le,x.low⟩,.lst (Fz.put_self ..) (h2.mono le),fun b o e=>?_⟩
 · unfold Fz.put at e
   split at e
   · rename_i q;subst q;obtain rfl:=Option.some.inj e;exact h1
   · exact x.sub _ _ e
 · unfold Fz.put
   split
   · rename_i q
     subst q
     rcases mC0 hb with h | hb
     · exact absurd h nL
     · exact absurd hb nO
   · exact x'.apart b hb
 · unfold Fz.put at e
   split at e
   · exact .inr ‹_›
   · exact .inl e
theorem iA {t:Sem Value} (h:WV B n L t H σ fun v d σ₁=>∃ a l loc objs,d=.ref a∧σ₁=⟨loc,(a,.list l)::objs⟩∧Φ v (.lst l) ⟨loc,objs⟩):WV B n L t H σ Φ:=a7 fun A F s hA X=>by
 refine wpAny_mono (h.run A F s hA X) (fun v s₁ z=>?_) fun _ _ z=>z
 obtain ⟨F₁,σ₁,x₁,p₁,d,hd,a,l,loc,objs,rfl,rfl,q⟩:=z
 refine x14 (x₁.freeze) ?_;rintro F₂ le x₂ hl back
 obtain rfl:=al hd
 have aO:a∈L::a9 σ.objs∨s.heap.get? a=none:=p₁.own a (.tail _ (.head _))
 refine ⟨F₂,_,x₂,⟨p₁.keep,fun b hb=>p₁.own b ?_,fun b o e=>?_,p₁.mono.trans le,p₁.gens,p₁.os⟩,_,hl,q⟩
 · rcases mC0 hb with rfl | hb
   · exact .head _
   · exact .tail _ (.tail _ hb)
 · rcases back b o e with z | rfl
   · exact p₁.frz b o z
   · rcases aO with z | z
     · exact .inr (.inl z)
     · exact .inr (.inr z)
end
end
section
variable {xs:List Str} {F:Fz} {C a D:Addr} {objs:OL}
noncomputable def bare (xs:List Str):LL:=xs.map (·,none)
theorem g8 (xs:List Str):(bare xs).map (·.1)=xs:=by
 unfold bare;rw [List.map_map];exact (List.map_congr_left fun _ _=>rfl).trans (List.map_id _)
theorem g6 {y:Str} {d:AV} (h:(y,some d)∈bare xs):False:=by
 unfold bare at h
 refine x12 (List.mem_map.mp h) ?_;rintro _ _ e
 cases e
noncomputable abbrev gM (ifs:List Expr) (env:Env):Sem Bool:=forIn ifs true fun c r=>if r=true then do let ok ←isTrue c env (eval c env);pure (ForInStep.yield ok) else pure (ForInStep.yield r)
section
variable {B:a5} {n:Nat} {L:Addr} {H:HL} {σ:St} {env:Env}
theorem xQ {Φ:Bool→St→Prop} (h:Φ true σ):WB B n L (gM [] env) H σ Φ:=a7 fun _ _ _ _ x=>by
 exact wpAny_pure (.here x h)
theorem Holds.besides {P:Params} {G:Heap} {h h':Heap} (x:Holds P G L F H σ h) (hF:F C=none) (hO:C∉L::a9 σ.objs) (k:∀ b o,b≠C→h.get? b=some o→h'.get? b=some o):Holds P G L F H σ h':=by
 refine ⟨x.core,fun b o e=>k b o (fun z=>by rw [z,hF] at e;contradiction) (x.sub _ _ e),?_,x.names,fun p hp=>(x.objs p hp).move (.refl F) fun b o' hb e=>k _ _ (fun z=>hO (z▸.tail _ (ay.mpr ⟨p,hp,hb⟩))) e,x.nodup,x.apart,x.held,x.low⟩
 refine x12 (x.loc) ?_;rintro m ⟨o',es,ep,e1,e2⟩ r
 exact ⟨m,⟨o',es,ep,k _ _ (fun z=>hO (z▸.head _)) e1,e2⟩,r⟩
end
section
variable {prog:Program} {w:World} {A:Around} {E:Value→Shared→Prop} {s:Shared}
variable {R:Result→Shared→Prop}
theorem BK {elt target iter:Expr} {ifs:List Expr} {scope:Scope} {pos:Pos} {it acc:Value} {env:Env} (I:Nat→Shared→Prop)
 (turn:∀ n s,I n s→wpAny (model prog w) A (pyNext it) (fun r s₁=>match r with
  | none=>R (.ok .next) s₁
  | some v=>wpAny (model prog w) A (letOwnedTupleGo target it v) (fun _ s₀=>wpAny (model prog w) A (assign target env v) (fun _ s₂=>
   wpAny (model prog w) A (gM ifs env) (fun ok s₃=>
    if ok=true then wpAny (model prog w) A (eval elt env) (fun x s₄=>
     wpAny (model prog w) A (call (.builtin "list.append") [acc,x]) (fun _ s₅=>∃ m,m < n∧I m s₅) (notedBy (model prog w) A env fun e s'=>R (.error e) s') s₄) (notedBy (model prog w) A env fun e s'=>R (.error e) s') s₃
    else ∃ m,m < n∧I m s₃) (notedBy (model prog w) A env fun e s'=>R (.error e) s') s₂) (notedBy (model prog w) A env fun e s'=>R (.error e) s') s₀) (notedBy (model prog w) A env fun e s'=>R (.error e) s') s₁) (notedBy (model prog w) A env fun e s'=>R (.error e) s') s)
 (n:Nat) (h:I n s):codeAny (model prog w) A (.compLoop (.ListComp elt [⟨target,iter,ifs,0⟩] scope pos) 0 it acc env) R s:=by
 refine codeAny_loop rfl I (fun n s hI=>?_) n h
 show wpAny _ A ((compTurn (.ListComp elt [⟨target,iter,ifs,0⟩] scope pos) 0 it acc env).onRaise (fun x=>do noteFrame x env;theTreesLotGoes x)) _ _ s
 refine wpAny_noted ?_
 rw [compTurn_list]
 refine wpAny_bind (wpAny_standAt (wpAny_bind (wpAny_mono (turn n s hI) (fun r s₁ h₁=>?_) fun _ _ h'=>h')))
 induction r using Option.casesOn with
 | none=>exact wpAny_pure h₁
 | some v=>
  refine wpAny_bind (wpAny_mono h₁ (fun _ s₀ h₀=>?_) fun _ _ h'=>h')
  refine wpAny_bind (wpAny_mono h₀ (fun _ s₂ h₂=>wpAny_bind (wpAny_mono h₂ (fun ok s₃ h₃=>?_) fun _ _ h'=>h')) fun _ _ h'=>h')
  induction ok using Bool.casesOn with
  | false=>exact wpAny_pure ⟨rfl,h₃⟩
  | true=>exact wpAny_bind (wpAny_bind (wpAny_mono h₃ (fun x s₄ h₄=>wpAny_bind (wpAny_mono h₄ (fun _ s₅ h₅=>wpAny_pure (wpAny_pure ⟨rfl,h₅⟩)) fun _ _ h'=>h')) fun _ _ h'=>h'))
end
section
variable {B:a5} {n:Nat} {L:Addr} {H:HL} {σ:St} {env:Env}
noncomputable def ig (B:a5) (n:Nat) (target elt:Expr) (ifs:List Expr) (cenv:Addr→Env) (H:HL) (xs:List Str) (item:AV) (J J':List AV→OL→Prop):Prop:=
 ∀ C ys objs D a p v,J ys objs→WU B n C (assign target (cenv C) v) ((v,item)::H) ⟨bare xs,(D,.list ys)::(a,.is p)::objs⟩ fun σ₂=>WB B n C (gM ifs (cenv C)) H σ₂ fun ok σ₃=>
  (ok=true→WV B n C (eval elt (cenv C)) H σ₃ fun _ e σ₄=>∃ loc objs',σ₄=⟨loc,(D,.list ys)::(a,.is p)::objs'⟩∧ys.length≤16777215∧J' (ys++[e]) objs')∧
  (ok=false→∃ loc objs',σ₃=⟨loc,(D,.list ys)::(a,.is p)::objs'⟩∧J' ys objs')
theorem aJ.less {o o' rest:OL} (h:o.Perm (o'++rest)):aJ (C::a9 o) F s (C::a9 o') F s:=by
 have pe:=aZ h
 rw [b7] at pe
 refine ⟨fun _ _ _ e=>e,fun b hb=>.inl ?_,fun _ _ e=>.inl e,.refl F,.refl _,rfl⟩
 rcases mC0 hb with rfl | hb
 · exact .head _
 · exact .tail _ (pe.mem_iff.mpr (List.mem_append_left _ hb))
theorem aJ.rest {O O':List Addr} {F':Fz} {s':Shared} {h':Heap} (p:aJ O F s O' F' s') (hC:s.heap.get? C=none) (k:∀ b,b≠C→h'.get? b=s'.heap.get? b):aJ O F s O' F' { s' with heap:=h' }:=
 ⟨fun b o hb e=>(k b (fun z=>nomatch (z▸e).symm.trans hC)).trans (p.keep b o hb e),p.own,p.frz,p.mono,p.gens,p.os⟩
inductive vY (B:a5) (C:Addr) (H:HL) (O:List Addr) (F:Fz) (s:Shared) (xs:List Str) (a D:Addr) (K:Nat→Obj→Prop) (N:Nat) (J:Nat→List AV→OL→Prop) (k:Nat) (s':Shared):Prop
 | mk (i:Nat) (F':Fz) (ys:List AV) (objs':OL) (e:k=N - i) (hi:i≤N) (j:J i ys objs') (x:Holds B.P B.G C F' H ⟨bare xs,(a,.is (K i))::(D,.list ys)::objs'⟩ s'.heap) (p:aJ O F s (C::a9 ((a,AO.is (K i))::(D,.list ys)::objs')) F' s')
inductive tm (B:a5) (L:Addr) (H:HL) (O:List Addr) (F:Fz) (s:Shared) (loc:LL) (D:Addr) (J:List AV→OL→Prop) (C:Addr) (s₅:Shared):Prop
 | mk (ys:List AV) (objs':OL) (F':Fz) (m:Str→Option Value) (hns:s₅.heap.Ns C m) (j:J ys objs') (x:Holds B.P B.G L F' H ⟨loc,(D,.list ys)::objs'⟩ s₅.heap) (p:aJ O F s (L::a9 ((D,AO.list ys)::objs')) F' s₅) (hC:C∉L::a9 ((D,AO.list ys)::objs')) (hF:F' C=none)
theorem bZ {p:Obj→Prop} {ys:List AV}:((D,AO.list ys)::(a,AO.is p)::objs).Perm (((a,AO.is p)::(D,AO.list ys)::objs)++[]):=by rw [List.append_nil];exact .swap _ _ _
theorem lL {p:Obj→Prop} {ys:List AV}:((a,AO.is p)::(D,AO.list ys)::objs).Perm (((D,AO.list ys)::(a,AO.is p)::objs)++[]):=by rw [List.append_nil];exact .swap _ _ _
theorem Holds.forget {P:Params} {G:Heap} {loc:LL} {h:Heap} (hx:xs.Nodup) (x:Holds P G C F H ⟨loc,objs⟩ h):Holds P G C F H ⟨bare xs,objs⟩ h:=
 ⟨x.core,x.sub,x.loc.imp fun m q=>⟨q.1,fun y d h=>(g6 h).elim⟩,by rw [g8];exact hx,x.objs,x.nodup,x.apart,x.held,x.low⟩
theorem om {elt target iter:Expr} {ifs:List Expr} {scope:Scope} {pos:Pos} {cl:List (Str×Addr)} {N:Nat} {item:Nat→AV} {K:Nat→Obj→Prop} {xv:Value} {d:AV} {J:Nat→List AV→OL→Prop}
 {loc :LL} {A:Around} {R:Addr→Result→Shared→Prop} {E:Value→Shared→Prop} (hA:c3 n A) (hx:xs.Nodup) (hm:(xv,d)∈H)
 (X : Holds B.P B.G L F H ⟨loc,(D,.list [])::(a,.is (K 0))::objs⟩ s.heap) (it:jc B n xv d N item a K)
 (h0 :J 0 [] objs) (step:∀ i,i < N→ig B n target elt ifs (fun C=>compEnvC scope cl C env) H xs (item i) (J i) (J (i+1)))
 (hcell:∀ y∈scope.names,y.2≠.cell) (hkind:scope.kind=.function)
 (hR :∀ C s₅,s.heap.get? C=none→tm B L H (L::a9 ((D,AO.list [])::(a,AO.is (K 0))::objs)) F s loc D (J N) C s₅→R C (.ok .next) s₅):
 wpAny B.M A (newFunctionEnv scope env.globals cl [] env.qual none .none (some env)) (fun cenv s₄=>
  codeAny B.M A (.compStart (.ListComp elt [⟨target,iter,ifs,0⟩] scope pos) 0 (.ref a) (.ref D) { cenv with scope:=relabel scope env }) (R cenv.locals) s₄) E s:=by
 obtain ⟨next,stop,self,hq⟩:=it
 refine wpAny_newFunctionEnv hcell (fun _ hy=>nomatch hy) (fun h₁ hns₁ hsb₁=>?_) hkind
 have hC:=b0 s.heap
 generalize hCe:s.heap.objs.size=C at*
 have up:∀ b o,s.heap.get? b=some o→h₁.get? b=some o:=fun b o e=>hsb₁.extBut b o (fun z=>by rw [z,hC] at e;contradiction) (Heap.get?_push_of_some _ e)
 have big:B.G.objs.size≤C:=hCe▸X.big
 have X₁:Holds B.P B.G C F H ⟨bare xs,(D,.list [])::(a,.is (K 0))::objs⟩ h₁:=X.call.enter hC big up ⟨_,hns₁,fun y d h=>(g6 h).elim⟩ (by rw [g8];exact hx) X.held
 show codeAny B.M A (.compStart (.ListComp elt [⟨target,iter,ifs,0⟩] scope pos) 0 (.ref a) (.ref D) (compEnvC scope cl C env)) (R C) { s with heap:=h₁,toks:=s.toks+([]:List (Str×Value)).length }
 have hR:=hR C
 generalize R C=R at*
 obtain ⟨s₁,es⟩:∃ s₁:Shared,s₁={ s with heap:=h₁,toks:=s.toks+([]:List (Str×Value)).length }:=⟨_,rfl⟩
 have eh:s₁.heap=h₁:=congrArg Shared.heap es
 have eg:s₁.gens=s.gens:=by rw [es]
 have eo:s₁.os=s.os:=by rw [es]
 rw [←es]
 clear es
 subst eh
 have loop:∀ k s',vY B C H (C::a9 ((D,AO.list [])::(a,AO.is (K 0))::objs)) F s₁ xs a D K N J k s'→codeAny B.M A (.compLoop (.ListComp elt [⟨target,iter,ifs,0⟩] scope pos) 0 (.ref a) (.ref D) (compEnvC scope cl C env)) R s':=fun k s' hI=>by
  refine BK _ (fun k s₂ hI=>?_) k hI
  obtain ⟨i,F₂,ys,objs₂,e,hi,j,x₂,p₂⟩:=hI
  by_cases hN:i=N
  · subst hN
    refine (stop C _ _ _ hm).then hA x₂ fun r s₃ F₃ σ₃ x₃ p₃ z=>?_
    obtain ⟨rfl,rfl⟩:=z
    have nC:C∉a9 ((D,AO.list ys)::objs₂):=(List.nodup_cons.mp x₃.nodup).1
    obtain ⟨y,py⟩:=X.back x₃.call (aJ.leave (s:=s) (p₂.trans p₃) hC up (.of eg) eo nC)
    refine x12 (x₃.loc) ?_;rintro m hm' _
    exact hR _ hC ⟨ys,objs₂,F₃,m,hm',j,y,py,fun hm=>(mC0 hm).elim (fun z=>by obtain ⟨o,ho⟩:=X.there C (z▸.head _);rw [hC] at ho;contradiction) nC,x₃.apart _ (.head _)⟩
  · have hlt:i < N:=Nat.lt_of_le_of_ne hi hN
    refine (next C i _ _ _ hlt hm).then hA x₂ fun r s₃ F₃ σ₃ x₃ p₃ z=>?_
    refine x13 (z) ?_;clear z;rintro v rfl hv rfl
    refine x12 (x₃.objs _ (.head _)) ?_;rintro o₃ ho₃ hk₃
    refine gB ho₃ (hq _ _ hk₃) ?_
    refine (lr lL (step i hlt C ys objs₂ D a (K (i+1)) v j)).then hA (x₃.push hv) fun _ s₄ F₄ σ₄ x₄ p₄ w=>?_
    refine w.then hA (x₄.weaken fun _ hp=>.tail _ hp) fun ok s₅ F₅ σ₅ x₅ p₅ z=>?_
    have pp:=p₂.trans (p₃.trans (p₄.trans p₅))
    induction ok using Bool.casesOn with
    | false=>
     refine x22 (z.2 rfl) ?_;rintro loc' objs' rfl j'
     exact ⟨N - (i+1),e▸Nat.sub_succ_lt_self _ _ hlt,i+1,F₅,ys,objs',rfl,hlt,j',(x₅.forget hx).drop bZ,pp.trans (aJ.less bZ)⟩
    | true=>
     refine (z.1 rfl).then hA x₅ fun y s₆ F₆ σ₆ x₆ p₆ z=>?_
     refine x12 (z) ?_;clear z;rintro e' he ⟨loc',objs',rfl,hz,j'⟩
     refine (fF (v₀:=.ref D) (v:=y) (d:=e') (H:=(y,e')::(.ref D,.ref D)::H) (Φ:=fun _ _ σ'=>σ'=⟨loc',(D,.list (ys++[e']))::(a,.is (K (i+1)))::objs'⟩) (.tail _ (.head _)) (.head _) .head (Nat.le_succ_of_le hz) rfl).then hA ((x₆.push (.ref D)).push he) fun _ s₇ F₇ σ₇ x₇ p₇ z=>?_
     refine x12 (z) ?_;clear z;rintro _ _ rfl
     exact ⟨N - (i+1),e▸Nat.sub_succ_lt_self _ _ hlt,i+1,F₇,ys++[e'],objs',rfl,hlt,j',((x₇.weaken fun _ hp=>.tail _ (.tail _ hp)).forget hx).drop bZ,pp.trans (p₆.trans (p₇.trans (aJ.less bZ)))⟩
 have begin_:vY B C H (C::a9 ((D,AO.list [])::(a,AO.is (K 0))::objs)) F s₁ xs a D K N J N s₁:=⟨0,F,[],objs,rfl,Nat.zero_le _,h0,X₁.drop bZ,aJ.less bZ⟩
 refine codeAny_compStart_list (loop _ _ begin_) ?_
 refine (lr bZ (self C (bare xs) ((D,.list [])::objs) H)).then hA X₁ fun r s' F₂ σ₂ x₂ p₂ z=>?_
 obtain ⟨rfl,rfl⟩:=z
 exact loop N s' ⟨0,F₂,[],objs,rfl,Nat.zero_le _,h0,x₂,p₂⟩
end
end
section
variable {elt target iter:Expr} {ifs:List Expr} {scope:Scope} {pos:Pos} {cl:List (Str×Addr)}
section
variable {B:a5} {n:Nat} {L:Addr} {H:HL} {σ:St} {env:Env}
inductive gj (B:a5) (n:Nat) (L:Addr) (H:HL) (target elt:Expr) (ifs:List Expr) (cenv:Addr→Env) (xs:List Str) (J:Nat→List AV→OL→Prop) (Q:Addr→St→Prop) (xv:Value) (d:AV) (σ₁:St):Prop
 | mk (N:Nat) (item:Nat→AV) (it:bL B n L xv d N item) (j0:J 0 [] σ₁.objs) (step:∀ i,i < N→ig B n target elt ifs cenv ((xv,d)::H) xs (item i) (J i) (J (i+1))) (fin:∀ ys objs D,J N ys objs→Q D ⟨σ₁.loc,(D,.list ys)::objs⟩)
theorem kh {ps:Pos} {use:Option (Value→Sem Unit)} {P:Addr→St→Prop} {A:Around} {F:Fz} {s:Shared} {E:Value→Shared→Prop} {Q:Value→Shared→Prop} (xs:List Str) (J:Nat→List AV→OL→Prop)
 (h:WV B n L (eval iter env) H σ (gj B n L H target elt ifs (fun C=>compEnvC scope cl C env) xs J P)) (hA:c3 n A) (X:Holds B.P B.G L F H σ s.heap)
 (k:∀ D C s₅ F' ys objs loc m O₃ F₃ s₃,aJ (L::a9 σ.objs) F s O₃ F₃ s₃→s₃.heap.get? C=none→Holds B.P B.G L F' H ⟨loc,(D,.list ys)::objs⟩ s₅.heap→aJ O₃ F₃ s₃ (L::a9 ((D,AO.list ys)::objs)) F' s₅→s₅.heap.Ns C m→C∉L::a9 ((D,AO.list ys)::objs)→F' C=none→P D ⟨loc,(D,.list ys)::objs⟩→compPost B.M A E use Q (.ref D) C (.ok .next) s₅)
 (hclos:closureFor scope env=pure cl) (hx:xs.Nodup) (hcell:∀ y∈scope.names,y.2≠.cell) (hkind:scope.kind=.function) (hnames:∀ y∈scope.names,y.2=.local→scope.names.lookup y.1=some .local)
 (hs:∀ x,foldedSetIterable iter env x=pure x):wpAny B.M A (comprehension (.ListComp elt [⟨target,iter,ifs,0⟩] scope pos) scope env ps (newList []) false (eval iter env) use) Q E s:=by
 refine wpAny_comprehension_free rfl hs hclos hkind hnames (h.then hA X fun xv s₁ F₁ σ₁ x₁ p₁ z=>?_)
 refine x12 (z) ?_;clear z;rintro d hd ⟨N,item,it,j0,step,fin⟩
 refine (it _ σ₁ (.head _)).then hA (x₁.push hd) fun r s₂ F₂ σ₂ x₂ p₂ z=>?_
 refine x23 (z) ?_;clear z;rintro a K rfl rfl it
 refine wpAny_newObj_type ?_
 have T:ae B L ((xv,d)::H) ⟨σ₁.loc,(a,.is (K 0))::σ₁.objs⟩ F₂ s₂ { s₂ with heap:=s₂.heap.push (aA [] 0) } (fun F' σ'=>F'=F₂∧σ'=⟨σ₁.loc,(s₂.heap.objs.size,.list [])::(a,.is (K 0))::σ₁.objs⟩):=
  ae.track (o:=.list []) x₂ (fun b y e=>Heap.get?_push_of_some _ e) (fun b hb=>by rw [List.mem_singleton.mp hb];exact b0 _) (by simp [AO.more]) ⟨[],0,Heap.get?_push_size _ rfl,.nil⟩ rfl rfl ⟨rfl,rfl⟩
 obtain ⟨F₃,σ₃,x₃,p₃,rfl,rfl⟩:=T
 have up:=p₁.trans (p₂.trans p₃)
 refine om (R:=fun C=>compPost B.M A E use Q (.ref s₂.heap.objs.size) C) hA hx (.head _) x₃ it j0 step hcell hkind fun C s₅ hC z=>?_
 obtain ⟨ys,objs',F₅,m,hns,j,x₅,p₅,nC,hF⟩:=z
 exact k _ C s₅ F₅ ys objs' _ m _ _ _ up hC (x₅.weaken fun _ hp=>.tail _ hp) p₅ hns nC hF (fin ys objs' _ j)
theorem rU {Φ:PV} (xs:List Str) (J:Nat→List AV→OL→Prop)
 (h:WV B n L (eval iter env) H σ (gj B n L H target elt ifs (fun C=>compEnvC scope cl C env) xs J fun D=>Φ (.ref D) (.ref D)))
 (hclos:closureFor scope env=pure cl) (hx:xs.Nodup:=by decide)
 (hcell:∀ y∈scope.names,y.2≠.cell:=by decide) (hkind:autoParam (scope.kind=.function) bR) (hnames:∀ y∈scope.names,y.2=.local→scope.names.lookup y.1=some .local:=by decide)
 (hs:autoParam (∀ x,foldedSetIterable iter env x=pure x) bI):
 WV B n L (eval (.ListComp elt [⟨target,iter,ifs,0⟩] scope pos) env) H σ Φ:=fL fun A F s Q hA X fq=>by
 rw [eval_ListComp]
 exact kh (use:=none) xs J h hA X (fun D C s₅ F' ys objs loc m O₃ F₃ s₃ p hC x p₅ hns nC hF q=>⟨m,hns,fun h' hs'=>fq _ _ ⟨F',_,x.besides hF nC fun b o hb e=>(hs'.2 b hb).trans e,p.trans (p₅.rest hC hs'.2),_,.ref _,q⟩⟩) hclos hx hcell hkind hnames hs
theorem jI {p pos':Pos} {x:Str} {Φ:PF} (xs:List Str) (J:Nat→List AV→OL→Prop)
 (h:WV B n L (eval iter env) H σ (gj B n L H target elt ifs (fun C=>compEnvC scope cl C env) xs J fun D σ₁=>WU B n L (storeName env x (.ref D)) ((.ref D,.ref D)::H) σ₁ fun σ₂=>Φ .next σ₂))
 (hsw:swapsWith (.ListComp elt [⟨target,iter,ifs,0⟩] scope pos) (some (.Name x p)) pos'.line env=pure true)
 (hclos:closureFor scope env=pure cl) (hx:xs.Nodup:=by decide)
 (hcell:∀ y∈scope.names,y.2≠.cell:=by decide) (hkind:autoParam (scope.kind=.function) bR) (hnames:∀ y∈scope.names,y.2=.local→scope.names.lookup y.1=some .local:=by decide)
 (hs:autoParam (∀ x,foldedSetIterable iter env x=pure x) bI):
 WF B n L (exec (.Assign [.Name x p] (.ListComp elt [⟨target,iter,ifs,0⟩] scope pos) pos') env) H σ Φ:=fL fun A F s Q hA X fq=>by
 rw [exec_Assign_Name_used _ _ _ _ hsw]
 refine wpAny_bind (wpAny_standAt (wpAny_bind (wpAny_bind (kh (ps:=firstIterPos [⟨target,iter,ifs,0⟩] pos) (use:=some (assign (.Name x p) env)) xs J h hA X (fun D C s₅ F' ys objs loc m O₃ F₃ s₃ p₀ hC x p₅ hns nC hF q=>?_) hclos hx hcell hkind hnames hs))))
 refine (jh (p:=p) q).then hA (x.push (.ref D)) fun _ s₆ F₆ σ₆ x₆ p₆ q=>?_
 refine x32 (hns) ?_;clear hns;rintro oC es ep e1 r
 refine ⟨m,⟨oC,es,ep,p₆.keep C _ nC e1,r⟩,fun h' hs'=>wpAny_pure (wpAny_pure (fq _ _ ⟨F₆,σ₆,(x₆.weaken fun _ hp=>.tail _ hp).besides ?_ (fun hm=>(p₆.own _ hm).elim nC fun z=>nomatch z.symm.trans e1) fun b o hb e=>(hs'.2 b hb).trans e,p₀.trans ((p₅.trans p₆).rest hC hs'.2),.next,trivial,q⟩))⟩
 exact Option.eq_none_iff_forall_ne_some.mpr fun o w=>(p₆.frz _ _ w).elim (fun z=>nomatch z.symm.trans hF) fun z=>z.elim nC fun z=>nomatch z.symm.trans e1
end
end
section
variable {ps:List Str} {fd:FuncData} {p1 p2:Str} {d1 d2:AV}
noncomputable def bT:List Str→List AV→LL
 | x::xs,d::ds=>(x,some d)::bT xs ds
 | _,_=>[]
theorem kA:∀ {ds:List AV},ps.length=ds.length→(bT ps ds).map (·.1)=ps:=by
 induction ps with
 | nil=>intro ds h;cases ds with | nil=>rfl | cons=>contradiction
 | cons p ps ih=>intro ds h;cases ds with | nil=>cases h | cons d ds=>exact congrArg (p::·) (ih (Nat.succ.inj h))
theorem io {x:Str} {v:Value}:∀ {l:List (Str×Value)},(l.map (·.1)).Nodup→(x,v)∈l→l.reverse.lookup x=some v
 | (y,w)::r,n,h=>by
  rw [List.map_cons,List.nodup_cons] at n
  rw [List.reverse_cons,List.lookup_append]
  cases h with
  | head=>
   have:r.reverse.lookup x=none:=by
    rw [List.lookup_eq_none_iff]
    intro p hp
    refine bne_iff_ne.mpr fun e=>n.1 ?_
    exact List.mem_map.mpr ⟨p,List.mem_reverse.mp hp,e.symm⟩
   rw [this];simp
  | tail _ h=>rw [io n.2 h];rfl
theorem nM {P:Params} {F:Fz} {x:Str} {d:AV}:∀ {vals:List Value} {ds:List AV},IsAll P F vals ds→(x,some d)∈bT ps ds→∃ v,(x,v)∈ps.zip vals∧Is P F v d:=by
 induction ps with
 | nil=>intro vals ds _ m;rcases ds with _ | _<;>contradiction
 | cons p ps ih=>
  intro vals ds h m
  induction ds using List.casesOn with
  | nil=>contradiction
  | cons d0 ds0=>
   refine x23 (cq h) ?_;clear h;rintro v0 vs0 rfl h r
   have m:(x,some d)∈(p,some d0)::bT ps ds0:=m
   rcases mC0 m with e | m
   · rw [(Prod.mk.inj e).1,Option.some.inj (Prod.mk.inj e).2];exact ⟨_,.head _,h⟩
   · refine x12 (ih r m) ?_;rintro v a b;exact ⟨v,.tail _ a,b⟩
theorem kf:∀ {vals:List Value},((ps.zip vals).map (·.1)).Sublist ps:=by
 induction ps with
 | nil=>intro vals;rcases vals with _ | _<;>exact .slnil
 | cons p r ih=>
  intro vals
  induction vals using List.casesOn with
  | nil=>exact List.nil_sublist _
  | cons v vs=>exact (ih (vals:=vs)).cons_cons p
section
variable {B:a5} {n:Nat} {objs:OL}
noncomputable def b8 (B:a5) (fd:FuncData) (ps:List Str) (args ds:List AV):Prop:=
 ∀ (F:Fz) (s:Shared) (vs:List Value),IsAll B.P F vs args→B.K.In s.heap→(∀ b o,B.G.get? b=some o→F b=some o)→∃ vals,IsAll B.P F vals ds∧BindsTo s fd ⟨vs,[]⟩ (ps.zip vals)
theorem b8.one (h:∀ v1,bindArgs fd ⟨[v1],[]⟩=pure [(p1,v1)]):b8 B fd [p1] [d1] [d1]:=fun F s vs hv _ _=>by
 obtain ⟨v1,rfl,q1⟩:=sC hv;exact ⟨_,.cons q1 .nil,.of_eq (h _)⟩
theorem b8.two (h:∀ v1 v2,bindArgs fd ⟨[v1,v2],[]⟩=pure [(p1,v1),(p2,v2)]):b8 B fd [p1,p2] [d1,d2] [d1,d2]:=fun F s vs hv _ _=>by
 obtain ⟨v1,v2,rfl,q1,q2⟩:=oe hv;exact ⟨_,.cons q1 (.cons q2 .nil),.of_eq (h _ _)⟩
theorem b8.three {p3:Str} {d3:AV} (h:∀ v1 v2 v3,bindArgs fd ⟨[v1,v2,v3],[]⟩=pure [(p1,v1),(p2,v2),(p3,v3)]):b8 B fd [p1,p2,p3] [d1,d2,d3] [d1,d2,d3]:=fun F s vs hv _ _=>by
 obtain ⟨v1,v2,v3,rfl,q1,q2,q3⟩:=uX hv;exact ⟨_,.cons q1 (.cons q2 (.cons q3 .nil)),.of_eq (h _ _ _)⟩
theorem b8.dflt {T:Addr} {o:Obj} {w:Value} {m:Nat} {k:Value→Option (Array Value)→Sem (List (Str×Value))} (hd:fd.defaults=.ref T) (ho:B.K.lookup T=some o) (hs:o.data=.seq #[w] m)
 (h₁:∀ v1,bindArgs fd ⟨[v1],[]⟩=seqItems? fd.defaults >>= k v1) (h₂:∀ v1,k v1 (some #[w])=pure [(p1,v1),(p2,w)]) (c:aS B w d2):b8 B fd [p1,p2] [d1] [d1,d2]:=fun F s vs hv X core=>by
 obtain ⟨v1,rfl,q1⟩:=sC hv;exact ⟨_,.cons q1 (.cons (c F core) .nil),.of_defaults hd (X _ _ ho) hs (h₁ _) (h₂ _)⟩
theorem b8.dflt3 {p3:Str} {d3:AV} {T:Addr} {o:Obj} {w:Value} {m:Nat} {k:Value→Value→Option (Array Value)→Sem (List (Str×Value))} (hd:fd.defaults=.ref T) (ho:B.K.lookup T=some o) (hs:o.data=.seq #[w] m)
 (h₁:∀ v1 v2,bindArgs fd ⟨[v1,v2],[]⟩=seqItems? fd.defaults >>= k v1 v2) (h₂:∀ v1 v2,k v1 v2 (some #[w])=pure [(p1,v1),(p2,v2),(p3,w)]) (c:aS B w d3):b8 B fd [p1,p2,p3] [d1,d2] [d1,d2,d3]:=fun F s vs hv X core=>by
 obtain ⟨v1,v2,rfl,q1,q2⟩:=oe hv;exact ⟨_,.cons q1 (.cons q2 (.cons (c F core) .nil)),.of_defaults hd (X _ _ ho) hs (h₁ _ _) (h₂ _ _)⟩
theorem DW {name qual:Str} {params:Arguments} {body:List Stmt} {scope:Scope} {dV kV doc pm cdv ct oc:Value} {an od:Option Addr} {osl:Array (Option Value)} {f:Addr} {args ds:List AV} {Φ:AV→OL→Prop} {loc:LL} (ps xs:List Str)
 (ho :B.K.lookup f=some ⟨oc,od,.func (fnOf name qual params body scope dV kV doc pm an cdv ct),osl⟩) (hcd:codeIn B.K cdv qual=true)
 (hb :b8 B (fnOf name qual params body scope dV kV doc pm an cdv ct) ps args ds) (h:∀ L,WF B n L (execs body (envOf qual scope L f cdv)) [] ⟨loc,objs⟩ (jN Φ))
 (hloc:bT ps ds++bare xs=loc:=by simp only [bT,bare,List.map_cons,List.map_nil,List.cons_append,List.nil_append];rfl) (hl:autoParam (ps.length=ds.length) bR) (hn:(ps++xs).Nodup:=by decide) (hps:autoParam (ps.all (fun y=>scope.names.lookup y==some .local)=true) bR)
 (hco :autoParam (scope.isCoroutine=false) bR) (hgen:autoParam (scope.isGenerator=false) bR) (hk:autoParam (scope.kind=.function) bR) (hcell:∀ x∈scope.names,x.2≠.cell:=by decide):a4 B (n+1) f args objs Φ:=by
 subst hloc
 refine Bf (loc:=bT ps ds++bare xs) ho hcd (fun F s vs hvs X core=>?_) (by rw [List.map_append,kA hl,g8];exact hn) h hco hgen hk hcell
 refine x12 (hb F s vs hvs X core) ?_;rintro vals hv hbind
 have sub:((ps.zip vals).map (·.1)).Nodup:=(kf).nodup (List.nodup_append.mp hn).1
 refine ⟨_,hbind,fun y hy=>?_,fun y d hy=>?_⟩
 · exact beq_iff_eq.mp (List.all_eq_true.mp hps y.1 (kf.subset (List.mem_map_of_mem hy)))
 · rcases List.mem_append.mp hy with hy | hy
   · refine x12 (nM hv hy) ?_;rintro v hv q
     exact ⟨v,io sub hv,q⟩
   · exact (g6 hy).elim
end
end
section
variable {Φ:PV} {x y:Expr} {rest:List Expr}
theorem sy (a b:Int):PyData.eqv (.int a) (.int b)=decide (a=b):=by
 first | rfl | (simp [PyData.eqv];done) | (unfold PyData.eqv;simp)
section
variable {B:a5} {n:Nat} {L:Addr} {H:HL} {σ:St} {env:Env}
noncomputable def i6:List AV→Option (List Int)
 | []=>some []
 | .int i::r=>(i6 r).map (i::·)
 | _=>none
theorem jS {l:List AV}:∀ {ks:List Int},i6 l=some ks→dataAll l=some (ks.map .int):=by
 induction l with
 | nil=>intro ks e;obtain rfl:=Option.some.inj e;rfl
 | cons d r ih=>
  intro ks e
  rcases d with _ | _<;>try contradiction
  refine x12 (Option.map_eq_some_iff.mp e) ?_;rintro m e1 rfl
  show (dataAll r).map (PyData.int _::·)= _
  refine (ih e1)▸?_;rfl
theorem jQ:∀ ks:List Int,PyData.canLayAll0 (ks.map .int)=true
 | []=>rfl
 | k::r=>by simp only [List.map_cons,PyData.canLayAll0,PyData.canLay0,jQ r,Bool.and_true]
theorem kR (i:Int):∀ ks:List Int,((ks.map PyData.int).any fun y=>PyData.eqv y (.int i))=decide (i∈ks)
 | []=>(decide_eq_false (nomatch ·)).symm
 | k::r=>by
  rw [List.map_cons,List.any_cons,kR i r,sy,Bool.eq_iff_iff,Bool.or_eq_true,decide_eq_true_iff,decide_eq_true_iff,decide_eq_true_iff,List.mem_cons]
  exact ⟨fun h=>h.imp_left Eq.symm,fun h=>h.imp_left Eq.symm⟩
theorem Df {a b:Value} {i:Int} {l:List AV} {ks:List Int} (ma:(a,.int i)∈H) (mb:(b,.tup l)∈H) (e:i6 l=some ks) (h:∀ v,Φ v (.bool (decide (i∈ks))) σ):WV B n L (compareOp .In a b) H σ Φ:=
 qe ma mb rfl (jS e) rfl (jQ ks) (by simp [PyData.depth]) (kR i ks) h
theorem lP {l m r:Expr} {op op' pos}
 (h :WV B n L (eval l env) H σ fun a x σ₁=>WV B n L (eval m env) ((a,x)::H) σ₁ fun b y σ₂=>WV B n L (compareOp op a b) ((b,y)::(a,x)::H) σ₂ fun _ z σ₃=>∃ c,z=.bool c∧(c=false→∀ v,Φ v (.bool false) σ₃)∧
  (c=true→WV B n L (eval r env) ((b,y)::(a,x)::H) σ₃ fun d w σ₄=>WV B n L (compareOp op' b d) ((d,w)::(b,y)::(a,x)::H) σ₄ Φ))
 (hm:autoParam (markedEach [op,op'] [m,r] (evalEach [m,r] env)=[eval m env,eval r env]) bW):WV B n L (eval (.Compare l [op,op'] [m,r] pos) env) H σ Φ:=by
 rw [arm_eval_Compare,hm]
 refine af (ab h fun a x σ₁ w=>?_)
 show W B n L (do
  let rv ←holding [a] (eval m env)
  standAt pos
  let c ←holding [a,rv] (compareOp op a rv)
  release [a,rv] [c]
  if ←holding [c,rv] (truthy c) then compareChain pos rv [op'] [eval r env] else pure c) ((a,x)::H) σ₁ _
 refine af (a8 (ab w fun b y σ₂ w=>ag (af (a8 (ab w fun c z σ₃ ⟨k,e,q0,q1⟩=>?_)))))
 subst e
 refine j7 (cv (a8 (eZ (.head _) ?_)))
 induction k using Bool.casesOn with
 | false=>exact ly (.head _) (q0 rfl _)
 | true=>
  refine gX ?_
  show W B n L (do
   let rv ←holding [b] (eval r env)
   standAt pos
   operate [b,rv] (compareOp op' b rv)) _ _ _
  exact af (a8 (ab (q1 rfl) fun d w σ₄ w=>ag (c5 w)))
theorem nQ {l m r:Expr} {op op' pos}
 (h:WV B n L (eval l env) H σ fun a x σ₁=>WV B n L (eval m env) ((a,x)::H) σ₁ fun b y σ₂=>WV B n L (compareOp op a b) ((b,y)::(a,x)::H) σ₂ fun _ z σ₃=>∃ c c',z=.bool c∧
  WV B n L (eval r env) ((b,y)::(a,x)::H) σ₃ (fun d w σ₄=>WV B n L (compareOp op' b d) ((d,w)::(b,y)::(a,x)::H) σ₄ fun _ z σ₅=>z=.bool c'∧σ₅=σ₃)∧∀ v,Φ v (.bool (c&&c')) σ₃)
 (hm:autoParam (markedEach [op,op'] [m,r] (evalEach [m,r] env)=[eval m env,eval r env]) bW):WV B n L (eval (.Compare l [op,op'] [m,r] pos) env) H σ Φ:=
 lP (ab h fun a x σ₁ w=>ab w fun b y σ₂ w=>ab w fun _ z σ₃ ⟨c,c',e,w,q⟩=>⟨c,e,fun hc v=>by subst hc;exact q v,fun hc=>by
  subst hc
  exact ab w fun d w σ₄ q₄=>ab q₄ fun v z σ₅ ⟨e,e'⟩=>by subst e e';exact q v⟩) hm
theorem jk {op:BoolOp} {values:List Expr} {pos} (h:WV B n L (boolOp pos op (evalEach values env)) H σ Φ):WV B n L (eval (.BoolOp op values pos) env) H σ Φ:=h
theorem jm {op:BoolOp} {pos} (h:WV B n L (eval x env) H σ Φ):WV B n L (boolOp pos op (evalEach [x] env)) H σ Φ:=h
theorem qI {pos}
 (h:WV B n L (eval x env) H σ fun v d σ₁=>WB B n L (truthy v) ((v,d)::H) σ₁ fun c σ₂=>(c=true→Φ v d σ₂)∧(c=false→WV B n L (boolOp pos .Or (evalEach (y::rest) env)) H σ₂ Φ)):
 WV B n L (boolOp pos .Or (evalEach (x::y::rest) env)) H σ Φ:=by
 show W B n L (do
  let v ←eval x env
  standAt pos
  let t ←holding [v] (truthy v)
  match BoolOp.Or,t with
  | .And,false | .Or,true=>pure v
  | _,_=>boolOp pos .Or (evalEach (y::rest) env)) H σ _
 refine af (ab h fun v d σ₁ w=>ag (cv (a8 (cf w fun c σ₂ q=>?_))))
 induction c using Bool.casesOn with
 | false=>exact gX (q.2 rfl)
 | true=>exact ly (.head _) (q.1 rfl)
theorem lN {pos}
 (h:WV B n L (eval x env) H σ fun v d σ₁=>WB B n L (truthy v) ((v,d)::H) σ₁ fun c σ₂=>(c=false→Φ v d σ₂)∧(c=true→WV B n L (boolOp pos .And (evalEach (y::rest) env)) H σ₂ Φ)):
 WV B n L (boolOp pos .And (evalEach (x::y::rest) env)) H σ Φ:=by
 show W B n L (do
  let v ←eval x env
  standAt pos
  let t ←holding [v] (truthy v)
  match BoolOp.And,t with
  | .And,false | .Or,true=>pure v
  | _,_=>boolOp pos .And (evalEach (y::rest) env)) H σ _
 refine af (ab h fun v d σ₁ w=>ag (cv (a8 (cf w fun c σ₂ q=>?_))))
 induction c using Bool.casesOn with
 | true=>exact gX (q.2 rfl)
 | false=>exact ly (.head _) (q.1 rfl)
theorem AL {pos}
 (h:WV B n L (eval x env) H σ fun _ d σ₁=>∃ c,d=.bool c∧(c=true→∀ v,Φ v (.bool true) σ₁)∧(c=false→WV B n L (boolOp pos .Or (evalEach (y::rest) env)) H σ₁ Φ)):
 WV B n L (boolOp pos .Or (evalEach (x::y::rest) env)) H σ Φ:=
 qI (ab h fun v d σ₁ ⟨c,e,q1,q2⟩=>by
  subst e
  exact eZ (.head _) ⟨fun hc=>by subst hc;exact q1 rfl v,q2⟩)
theorem xG {pos}
 (h:WV B n L (eval x env) H σ fun _ d σ₁=>∃ c,d=.bool c∧(c=false→∀ v,Φ v (.bool false) σ₁)∧(c=true→WV B n L (boolOp pos .And (evalEach (y::rest) env)) H σ₁ Φ)):
 WV B n L (boolOp pos .And (evalEach (x::y::rest) env)) H σ Φ:=
 lN (ab h fun v d σ₁ ⟨c,e,q1,q2⟩=>by
  subst e
  exact eZ (.head _) ⟨fun hc=>by subst hc;exact q1 rfl v,q2⟩)
end
end
section
inductive gJ (x:Str) (d:AV):FL→FL→Prop
 | hit {e r}:gJ x d ((x,e)::r) ((x,d)::r)
 | skip {y e r r'}:(y==x)=false→gJ x d r r'→gJ x d ((y,e)::r) ((y,e)::r')
 | new:gJ x d [] [(x,d)]
theorem gJ.eq {x:Str} {d:AV} {l l':FL} (h:gJ x d l l'):bC x d l=l':=by
 induction h with
 | hit=>unfold bC;rw [if_pos (beq_self_eq_true _)]
 | skip h _ ih=>unfold bC;rw [if_neg (by rw [h];exact Bool.false_ne_true),ih]
 | new=>rfl
inductive k5 (x:Str) (d:AV):FL→Prop
 | hit {r}:k5 x d ((x,d)::r)
 | skip {y e r}:(y==x)=false→k5 x d r→k5 x d ((y,e)::r)
theorem k5.eq {x:Str} {d:AV} {l:FL} (h:k5 x d l):bB x l=some d:=by
 induction h with
 | hit=>exact gS _ _ _
 | skip h _ ih=>exact (fO _ _ (by refine h▸?_;exact Bool.false_ne_true)).trans ih
section
variable {B:a5} {n:Nat} {L:Addr} {H:HL} {σ:St} {env:Env}
noncomputable def dP (B:a5) (n:Nat) (L:Addr) (rest:List Stmt) (env:Env) (H:HL) (Φ:PF):PF
 | .next,σ=>WF B n L (execs rest env) H σ Φ
 | .brk,σ=>Φ .brk σ
 | .cont,σ=>Φ .cont σ
 | .ret d,σ=>Φ (.ret d) σ
theorem cQ {st:Stmt} {rest:List Stmt} {Φ:PF} (h:WF B n L (exec st env) H σ (dP B n L rest env H Φ)):WF B n L (execs (st::rest) env) H σ Φ:=
 zj (jG h fun f σ q=>by rcases f with _ | _<;>exact q)
theorem ib {x:Str} {v:Value} {d:AV} {loc loc':LL} {objs:OL} {Φ:St→Prop} (md:(v,d)∈H) (m:eF x d loc loc') (h:Φ ⟨loc',objs⟩) (hl:autoParam (env.kindOf x=some .local) bK)
 (hL:autoParam (env.locals=L) bR) (hp:autoParam ((env.scope.kind==.class||(env.scope.kind==.module&&env.locals !=env.globals))=false) bR):WU B n L (storeName env x v) H ⟨loc,objs⟩ Φ:=sD (σ:=⟨loc,objs⟩) md m h hl hL hp
theorem BF {x:Addr} {C dx:Addr} {fs:FL} {name:Str} {expr:Bool} {v₀:Value} {d:AV} {Φ:PV} (mv:(v₀,.ref x)∈H) (m:(x,AO.inst C dx fs)∈σ.objs) (hf:k5 name d fs) (ho:cr B.K C name=true)
 (hd:cJ d=true) (h:∀ v,Φ v d σ):WV B n L (getAttr v₀ name expr) H σ Φ:=pL mv m ho hf.eq hd h
theorem BC {x:Addr} {C dx:Addr} {fs fs':FL} {name:Str} {v₀ v:Value} {d:AV} {loc:LL} {objs objs':OL} {Φ:St→Prop} (mv:(v₀,.ref x)∈H) (md:(v,d)∈H) (mx:(x,AO.inst C dx fs)∈objs) (hp:gJ name d fs fs')
 (m:Chg x (.inst C dx fs) (.inst C dx fs') objs objs') (ho:dt B.K C name=true) (hz:fs.length≤900:=by simp) (h:Φ ⟨loc,objs'⟩):WU B n L (setAttr v₀ name v) H ⟨loc,objs⟩ Φ:=by
 obtain rfl:=hp.eq
 exact vD (σ:=⟨loc,objs⟩) mv md m ho hz h
theorem gT {m:Nat} {f:Addr} {vs:List Value} {ds:List AV} {loc:LL} {objs:OL} {Φ:PV} {Φ₀:AV→OL→Prop} (c:a4 B m f ds objs Φ₀) (hm:m≤n) (e:vs.length=ds.length) (k:∀ p∈vs.zip ds,p∈H)
 (h:∀ d objs',Φ₀ d objs'→∀ v,Φ v d ⟨loc,objs'⟩):WV B n L (call (.ref f) vs) H ⟨loc,objs⟩ Φ:=tM (σ:=⟨loc,objs⟩) e k ((c.room hm).mono fun d o q v=>h d o q v)
end
noncomputable def sg (s:String):List Nat:=(Str.ofString s).cps.toList
theorem k0 (s:String):Str.ofString s=S (sg s):=by unfold sg S;cases Str.ofString s;rfl
noncomputable def Go {α:Type} (_:α) (p:Prop):Prop:=p
noncomputable def GoT {α:Type} (_:α) (p:Prop):Prop:=p
noncomputable def GoB {α:Type} (_:α) (p:Prop):Prop:=p
noncomputable def cM:List Str→Bool
 | []=>true
 | x::r=>r.all (fun y=> !(y==x))&&cM r
theorem bf:∀ {l:List Str},cM l=true→l.Nodup
 | [],_=>List.nodup_nil
 | x::r,h=>by
  simp only [cM,Bool.and_eq_true,List.all_eq_true,Bool.not_eq_true',beq_eq_false_iff_ne] at h
  exact List.nodup_cons.mpr ⟨fun m=>h.1 x m rfl,bf h.2⟩
inductive Op | get | set | store | load | meth | callw | callm | methO | call | tail | truth | test | assign
noncomputable def Br (b:Bool) (p q:Prop):Prop:=(b=true→p)∧(b=false→q)
section
variable {B:a5} {n:Nat} {L:Addr} {H:HL} {σ:St} {env:Env}
theorem uO {objs:OL} {name qual:Str} {params:Arguments} {body body':List Stmt} {scope scope':Scope} {dV kV doc pm cdv ct oc:Value} {an od:Option Addr} {osl:Array (Option Value)} {f:Addr} {args ds:List AV} {Φ:AV→OL→Prop} {loc:LL} (ps xs:List Str)
 (ho:B.K.lookup f=some ⟨oc,od,.func (fnOf name qual params body scope dV kV doc pm an cdv ct),osl⟩) (hcd:codeIn B.K cdv qual=true)
 (hb:b8 B (fnOf name qual params body scope dV kV doc pm an cdv ct) ps args ds) (h:∀ L,GoB body' (WF B n L (execs body' (envOf qual scope' L f cdv)) [] ⟨loc,objs⟩ (jN Φ)))
 (eb:body=body':=by (conv=>lhs;whnf)) (es:scope=scope':=by (conv=>lhs;whnf))
 (hloc:bT ps ds++bare xs=loc:=by simp only [bT,bare,List.map_cons,List.map_nil,List.cons_append,List.nil_append]<;>rfl) (hl:autoParam (ps.length=ds.length) bR) (hn:(ps++xs).Nodup:=by decide) (hps:autoParam (ps.all (fun y=>scope'.names.lookup y==some .local)=true) bR)
 (hco:autoParam (scope'.isCoroutine=false) bR) (hgen:autoParam (scope'.isGenerator=false) bR) (hk:autoParam (scope'.kind=.function) bR) (hcell:∀ x∈scope'.names,x.2≠.cell:=by decide):a4 B (n+1) f args objs Φ:=by
 subst eb es
 exact DW ps xs ho hcd hb h hloc hl hn hps hco hgen hk hcell
end
end
section
variable {i:Int} {Φ:PF} {v:Value} {f self:Addr} {loc:LL} {objs:OL} {rest:List Stmt}
noncomputable def hM (K:Frag) (C:Addr) (x:Str):Option Int:=match findIn K (.ref C) x with
 | some (some (.int i t))=>if plainGet K C x&&hasDictIn K C&&(specialIn K (.int i t) "__get__"==some none)&& !(copiedNames.contains x) then some i else none
 | _=>none
noncomputable def e8 (x y z:List Nat):List Nat:=(Txt.replace (S x) (S y) (S z)).cps.toList
theorem zc (x y z:List Nat):Txt.replace (S x) (S y) (S z)=S (e8 x y z):=by unfold e8 S;cases Txt.replace _ _ _;rfl
section
variable {B:a5} {n:Nat} {L:Addr} {H:HL} {σ:St} {env:Env}
theorem rx {x:Addr} {C dx:Addr} {fs:FL} {name:Str} {expr:Bool} {v₀:Value} {Φ:PV} (mv:(v₀,.ref x)∈H) (m:(x,AO.inst C dx fs)∈σ.objs) (ho:hM B.K C name=some i)
 (hf :bB name fs=none) (h:∀ v,Φ v (.int i) σ):WV B n L (getAttr v₀ name expr) H σ Φ:=by
 refine a7 fun A F s hA X=>?_
 obtain rfl:=al (X.hold mv)
 obtain ⟨h1,es,k,h2,h3⟩:=X.objs _ m
 unfold hM at ho
 split at ho
 · rename_i j t e
   split at ho
   · rename_i hc
     obtain rfl:=Option.some.inj ho
     simp only [Bool.and_eq_true,beq_iff_eq,Bool.not_eq_true'] at hc
     obtain ⟨⟨⟨hg,hh⟩,hs⟩,hcp⟩:=hc
     exact get_value X.K (⟨h1,rfl,rfl,h2⟩:InstAt s.heap x (instObj C dx) C (some (dictOf es k))) (plainGet_of hg).1 (findObj_cls hh e hs rfl hcp (by rw [lookIn_dict];exact eJ h3 hf)) rfl (.toks X ⟨_,.int _ _,h _⟩)
   · contradiction
 · contradiction
theorem eV:typeLookup (.type "method") "__bool__"=pure none:=by rw [typeLookup_type,builtinLookup_eq_fast];kernel_rfl
theorem fy:typeLookup (.type "method") "__len__"=pure none:=by rw [typeLookup_type,builtinLookup_eq_fast];kernel_rfl
theorem yF {Ψ:Bool→St→Prop} (mv:(v,.meth f self)∈H) (h:Ψ true σ):WB B n L (truthy v) H σ Ψ:=a7 fun A F s hA X=>by
 refine x12 (fX (X.hold mv)) ?_;rintro a rfl ha
 have hT:s.TypeIs (.ref a) "method":=⟨_,X.sub _ _ ha,rfl⟩
 unfold truthy
 first
  | refine wpAny_bind (wpAny_callSpecial?_none (name:=Str.ofString "__bool__") hT eV ?_)
  | refine wpAny_bind (wpAny_pure (wpAny_bind (wpAny_callSpecial?_none (name:=Str.ofString "__bool__") hT eV ?_)))
 first
  | refine wpAny_bind (wpAny_specialOf (name:=Str.ofString "__len__") hT fy ?_)
  | refine wpAny_bind (wpAny_pure (wpAny_bind (wpAny_specialOf (name:=Str.ofString "__len__") hT fy ?_)))
 exact wpAny_pure (.here X h)
theorem mT {args:List Expr} {pos} {Φ:PV} (mv:(v,.meth f self)∈H) (hf:fnIn B.K f=true)
 (h :WL B n L (spliced (backTo pos (starEach args env))) H σ fun vs ds σ₁=>WV B n L (call v ([]++vs)) (vs.zip ds++H) σ₁ Φ)
 (hp:autoParam ((backTo pos (starEach args env)).any (·.1)=false) bR):WV B n L (callWith pos v [] (backTo pos (starEach args env)) []) H σ Φ:=a7 fun A F s hA x=>by
 refine x12 (fX (x.hold mv)) ?_;rintro q rfl hq
 refine callWith_of (P:=MethP B.K q f (.ref self)) (by rw [hp];rfl) (keeps_M hf) (cu hp (wpAny_mono (h.run A F s hA x) (fun vs s₁ z=>⟨?_,?_⟩) fun _ _ z=>z))
 · obtain ⟨F₁,_,x₁,p₁,_⟩:=z
   exact ⟨x₁.sub _ _ (p₁.mono _ _ hq),x₁.K⟩
 · refine z.then fun F₁ σ₁ x₁ ⟨ds,hds,w⟩=>?_
   exact wpAny_mono (w.run A F₁ s₁ hA (x₁.add (gN.zip_is hds))) (fun _ _ y=>y.weaken fun _ hp=>List.mem_append_right _ hp) fun _ _ z=>z
theorem kL {m:Nat} {vs:List Value} {ds:List AV} {Φ:PV} {Φ₀:AV→OL→Prop} (mv:(v,.meth f self)∈H) (c:a4 B m f (.ref self::ds) objs Φ₀) (hm:m≤n) (e:vs.length=ds.length)
 (k:∀ p∈vs.zip ds,p∈H) (h:∀ d objs',Φ₀ d objs'→∀ v,Φ v d ⟨loc,objs'⟩):WV B n L (call v vs) H ⟨loc,objs⟩ Φ:=a7 fun A F s hA X=>by
 refine x12 (fX (X.hold mv)) ?_;rintro q rfl hq
 refine wpAny_call (method_call (X.sub _ _ hq) (codeAny_mono (c A F s _ (hA.le hm) X.call (.cons (.ref self) (fU X e k))) fun r s' z=>?_))
 obtain ⟨w,d,objs',F',rfl,hd,y,p,q⟩:=z
 obtain ⟨x',p'⟩:=X.back y p
 exact ⟨F',_,x',p',d,hd,h d objs' q w⟩
structure WP {α:Type} (B:a5) (n:Nat) (L:Addr) (t:Sem α) (H:HL) (σ:St) (Ψ:α→Fz→St→Prop):Prop where
 run:∀ A F s,c3 n A→0 < s.toks→Holds B.P B.G L F H σ s.heap→wpAny B.M A t (fun a s'=>ae B L H σ F s s' (Ψ a)) (fun _ _=>False) s
noncomputable abbrev WPF (B:a5) (n:Nat) (L:Addr) (t:Sem Flow) (H:HL) (σ:St) (Φ:PF):Prop:=
 WP B n L t H σ (fun f F' σ'=>∃ e,iw B.P F' f e∧Φ e σ')
noncomputable def dQ (B:a5) (n:Nat) (L:Addr) (rest:List Stmt) (env:Env) (H:HL) (Φ:PF):PF
 | .next,σ=>WPF B n L (execs rest env) H σ Φ
 | .brk,σ=>Φ .brk σ
 | .cont,σ=>Φ .cont σ
 | .ret d,σ=>Φ (.ret d) σ
theorem CZ {α:Type} {t:Sem α} {Ψ:α→Fz→St→Prop} (h:W B n L t H σ Ψ):WP B n L t H σ Ψ:=⟨fun A F s hA _ x=>h.run A F s hA x⟩
theorem eM {A:Around} {env:Env} {F:Fz} {s s₁:Shared} {f:Flow} (hA:c3 n A) (ht:0 < s₁.toks)
 (z:ae B L H σ F s s₁ fun F' σ'=>∃ e,iw B.P F' f e∧dQ B n L rest env H Φ e σ'):
 wpAny B.M A (match f with | .next=>execs rest env | f=>pure f) (fun b s₂=>ae B L H σ F s s₂ fun F' σ'=>∃ e,iw B.P F' b e∧Φ e σ') (fun _ _=>False) s₁:=by
 refine z.then fun F₁ σ₁ x₁ ⟨e,he,q⟩=>?_
 cases f with
 | next=>rcases e with _ | _<;>first | exact he.elim | exact q.run A F₁ s₁ hA ht x₁
 | brk=>rcases e with _ | _<;>first | exact he.elim | exact wpAny_pure (.here x₁ ⟨.brk,trivial,q⟩)
 | cont=>rcases e with _ | _<;>first | exact he.elim | exact wpAny_pure (.here x₁ ⟨.cont,trivial,q⟩)
 | ret v=>rcases e with _ | _<;>first | exact he.elim | exact wpAny_pure (.here x₁ ⟨.ret _,he,q⟩)
theorem BW {st:Stmt} (h:WF B n L (exec st env) H σ (dQ B n L rest env H Φ)):WPF B n L (execs (st::rest) env) H σ Φ:=⟨fun A F s hA ht x=>by
 rw [execs_cons]
 refine wpAny_bind (wpAny_mono (dA (h.run A F s hA x)) (fun f s₁ z=>?_) fun _ _ z=>z)
 have:=eM (s₁:=s₁) hA (nL0 ht z.1) z.2
 rcases f with _ | _<;>exact this⟩
theorem sZ {kk kp} {o:Expr} {attr:Str} {p pos}
 (h:∀ v,WV B n L (eval o env) ((v,.int i)::H) σ fun ov od σ₂=>WU B n L (setAttr ov attr v) ((ov,od)::(v,.int i)::H) σ₂ fun σ₃=>dQ B n L rest env H Φ .next σ₃):
 WF B n L (execs (.Assign [.Attribute o attr p] (.Constant (.int i) kk kp) pos::rest) env) H σ Φ:=a7 fun A F s hA x=>by
 rw [execs_cons,plainObj_exec_Assign_Attribute o attr p (.Constant (.int i) kk kp) pos rfl]
 refine wpAny_bind (wpAny_bind (wpAny_standAt (wpAny_bind (wpAny_Constant_int ?_))))
 have w:WF B n L (do assign (.Attribute o attr p) env (.int i s.toks);pure Flow.next) ((.int i s.toks,.int i)::H) σ (dQ B n L rest env H Φ):=by
  rw [arm_assign_Attribute]
  refine bz (af (a8 (ab (h _) fun ov od σ₂ w₂=>ag (bz (a8 (cD w₂ fun σ₃ q=>?_))))))
  exact dz (f8 q)
 have x':Holds B.P B.G L F ((.int i s.toks,.int i)::H) σ { s with toks:=s.toks+1 }.heap:=x.push (.int i _)
 refine wpAny_mono (dA (w.run A F { s with toks:=s.toks+1 } hA x')) (fun f s₁ z=>?_) fun _ _ z=>z
 have ht:0 < s₁.toks:=nL0 (Nat.succ_pos _) z.1
 obtain ⟨F₁,σ₁,x₁,p₁,e,he,q⟩:=z.2
 have z':ae B L H σ F s s₁ fun F' σ'=>∃ e,iw B.P F' f e∧dQ B n L rest env H Φ e σ':=⟨F₁,σ₁,x₁.weaken fun _ hp=>.tail _ hp,⟨p₁.keep,p₁.own,p₁.frz,p₁.mono,p₁.gens,p₁.os⟩,e,he,q⟩
 have:=eM (s₁:=s₁) hA ht z'
 rcases f with _ | _<;>exact this
theorem o7 {x y:Str} {a b:Str} {la lb l:List Nat} {p q ap pos pos' ka kb pa pb} {loc':LL} (ea:a=S la) (eb:b=S lb) (m:(y,some (.str l))∈loc) (sl:eF x (.str (e8 l la lb)) loc loc')
 (hz:l.length≤1048576) (hb:lb.length≤14) (hk:env.scope.kind=.function) (hy:env.kindOf y=some .local) (hx:env.kindOf x=some .local) (hL:env.locals=L) (hd:(y==("__debug__":Str))=false)
 (hp:(env.scope.kind==.class||(env.scope.kind==.module&&env.locals !=env.globals))=false) (hne:(S la==S lb)=false)
 (hline:(ap.endLine==pos'.line)=true) (h:WPF B n L (execs rest env) H ⟨loc',objs⟩ Φ) (hs:autoParam (swapsWith (.Call (.Attribute (.Name y q) "replace" ap) [.Constant (.str a) ka pa,.Constant (.str b) kb pb] [] pos') (some (.Name x p)) pos.line env=pure false) bR):
 WPF B n L (execs (.Assign [.Name x p] (.Call (.Attribute (.Name y q) "replace" ap) [.Constant (.str a) ka pa,.Constant (.str b) kb pb] [] pos') pos::rest) env) H ⟨loc,objs⟩ Φ:=⟨fun A F s hA ht X=>by
 subst ea eb hL
 rw [execs_cons,exec_Assign_Name env x p _ pos hs]
 refine wpAny_bind (wpAny_bind (wpAny_standAt (wpAny_bind ?_)))
 refine x12 (X.loc) ?_;rintro m₀ hns r
 refine x12 (r y _ m) ?_;rintro v e hv
 obtain ⟨t,rfl⟩:=ak hv
 have base:attributeBase (.Name y q) "replace" env (eval (.Name y q) env)=eval (.Name y q) env:=rfl
 refine wpAny_Call_method_late base (by rfl) hline rfl ?_
 refine wpAny_Name (wpAny_loadName_local hk hy hns e ⟨"str","str.replace",PySem.F.plainAttrs_str,PySem.F.slot_str_replace,PySem.F.type_str_replace,typeIs_str _ _ _,(fun _ e=>nomatch e),?_⟩) hd
 refine Calls.callWith_builtin rfl (cu rfl ?_)
 refine (show starEach [Expr.Constant (.str (S la)) ka pa,Expr.Constant (.str (S lb)) kb pb] env=(false,eval (.Constant (.str (S la)) ka pa) env)::starEach [Expr.Constant (.str (S lb)) kb pb] env from rfl)▸?_
 refine spliced_cons (show wpAny _ _ (eval (.Constant (.str (S la)) ka pa) env) _ _ _ from wpAny_Constant_str ?_)
 refine (show starEach [Expr.Constant (.str (S lb)) kb pb] env=(false,eval (.Constant (.str (S lb)) kb pb) env)::starEach [] env from rfl)▸?_
 refine spliced_cons (show wpAny _ _ (eval (.Constant (.str (S lb)) kb pb) env) _ _ _ from wpAny_Constant_str (spliced_nil ?_))
 refine wpAny_mono (dA (SC.replaceW (x:=S l) (y:=S la) (z:=S lb) (Q:=fun r s'=>∃ t' k,r=.str (Txt.replace (S l) (S la) (S lb)) t'∧s'={ s with toks:=k }) (Nat.pos_iff_ne_zero.mp ht) (Nat.succ_ne_zero _) (Nat.ne_of_lt (Nat.lt_succ_self _)) hne
  (by rw [am];exact hz) (by rw [am];exact hb) fun t' k=>⟨t',k,rfl,rfl⟩)) (fun r s' z=>?_) fun _ _ z=>z
 obtain ⟨hk',t',k,rfl,rfl⟩:=z
 have q:Is B.P F (.str (Txt.replace (S l) (S la) (S lb)) t') (.str (e8 l la lb)):=by rw [zc];exact .str _ _
 have w:WF B n env.locals (do standAt p;bindName env x (.str (Txt.replace (S l) (S la) (S lb)) t');pure Flow.next) ((.str (Txt.replace (S l) (S la) (S lb)) t',.str (e8 l la lb))::H) ⟨loc,objs⟩ (dQ B n env.locals rest env H Φ):=
  ag (bz (fh (ib (.head _) sl (f8 (Φ:=dQ B n env.locals rest env H Φ) h) hx rfl hp)))
 have X':Holds B.P B.G env.locals F ((.str (Txt.replace (S l) (S la) (S lb)) t',.str (e8 l la lb))::H) ⟨loc,objs⟩ { s with toks:=k }.heap:=X.push q
 refine wpAny_mono (dA (w.run A F { s with toks:=k } hA X')) (fun f s₁ z=>?_) fun _ _ z=>z
 have hk'':s.toks+1+1≤k:=hk'
 have h1:k≤s₁.toks:=z.1
 have ht₁:0 < s₁.toks:=by omega
 obtain ⟨F₁,σ₁,x₁,p₁,e,he,q⟩:=z.2
 have z':ae B env.locals H ⟨loc,objs⟩ F s s₁ fun F' σ'=>∃ e,iw B.P F' f e∧dQ B n env.locals rest env H Φ e σ':=⟨F₁,σ₁,x₁.weaken fun _ hp=>.tail _ hp,⟨p₁.keep,p₁.own,p₁.frz,p₁.mono,p₁.gens,p₁.os⟩,e,he,q⟩
 have:=eM (s₁:=s₁) hA ht₁ z'
 rcases f with _ | _<;>exact this⟩
noncomputable def F1 (p:Prop):Prop:=p
end
structure Az:Prop where
section
variable {B:a5} {n:Nat} {L:Addr} {H:HL} {σ:St} {env:Env} {s:Stmt} {R:PF}
theorem a4.of {args:List AV} {P:AV→OL→Prop} (h:∀ Φ:AV→OL→Prop,(∀ d o,P d o→Φ d o)→a4 B n f args objs Φ):a4 B n f args objs P:=h P fun _ _ h=>h
end
end
section
variable {es:List DictEntry} {l:FL} {d:AV} {a:Addr} {Φ:PV} {vs:List Value} {m:Nat}
noncomputable def dS:List DictEntry→FL→List (Str×Value)
 | e::es,(x,_)::l=>(x,e.val)::dS es l
 | _,_=>[]
section
variable {prog:Program} {w:World} {F:Fz}
theorem cT (h:IsEnts w.params F es l):(dS es l).map (·.1)=l.map (·.1):=h.ind (C:=fun es l=>(dS es l).map (·.1)=l.map (·.1)) rfl fun _ _ _ _ _ _ _ _ c=>congrArg (List.cons _) c
theorem l5 (h:IsEnts w.params F es l):Pairs (strKind prog w) es (dS es l):=h.ind (C:=fun es l=>Pairs (strKind prog w) es (dS es l)) .nil fun _ _ _ _ _ _ _ _ c=>.cons (beq_self_eq_true _) rfl c
theorem mD (h:IsEnts w.params F es l):∀ e∈es,∃ k,(strKind prog w).is k e.key=true∧e.hash=(strKind prog w).hash k:=
 h.ind (C:=fun es _=>∀ e∈es,∃ k,(strKind prog w).is k e.key=true∧e.hash=(strKind prog w).hash k) (fun _ h=>nomatch h) fun x _ _ _ _ _ _ _ c=>List.forall_mem_cons.mpr ⟨⟨x,beq_self_eq_true _,rfl⟩,c⟩
theorem qB (h:IsEnts w.params F es l):KM w.params F (dS es l) l:=h.ind (C:=fun es l=>KM w.params F (dS es l) l) .nil fun _ _ _ _ _ _ h _ c=>.cons h c
theorem KM.value {P:Params} {x:Str} {r:List (Str×Value)} (h:KM P F r l) (e:bB x l=some d):∃ v,valueAt r x=some v∧Is P F v d:=by
 induction h with
 | nil=>contradiction
 | @cons y v c r l h _ ih=>
  by_cases q:(y==x)=true
  · have z:=eq_of_beq q
    subst z
    exact ⟨v,by simp [valueAt],Option.some.inj ((gS _ c l).symm.trans e)▸h⟩
  · refine x12 (ih ((fO c l q).symm.trans e)) ?_;rintro w e1 e2
    refine ⟨w,?_,e2⟩
    show Option.map _ (List.find? _ ((y,v)::r))= _
    rw [List.find?_cons]
    simp only [decide_eq_false fun z=>q (beq_iff_eq.mpr z)]
    exact e1
theorem fE {x:Str} (h:IsEnts w.params F es l) (e:bB x l=some d):∃ v,valueAt (dS es l) x=some v∧Is w.params F v d:=(qB h).value e
theorem cR {h:Heap} (e:IsEnts w.params F es l) (nd:(l.map (·.1)).Nodup) (hg:h.get? a=some (dictOf es n)):h.DictOf (strKind prog w) a (dS es l):=
 ⟨_,es.toArray,n,hg,⟨rfl,rfl,rfl⟩,rfl,fun x hx=>mD e x (by simpa using hx),l5 e,by rw [cT e];exact nd⟩
end
section
variable {B:a5} {n:Nat} {L:Addr} {H:HL} {σ:St} {env:Env}
theorem Al {value slice:Expr} {o i:Value} {x:List Nat} (mo:(o,.dct l)∈H) (mi:(i,.str x)∈H) (hd:bB (S x) l=some d) (h:∀ v,Φ v d σ)
 (hs:∃ ops,subscripted slice false o i=operate ops (getItem o i):=by exact ⟨_,rfl⟩):WV B n L (subscriptTail value slice o i) H σ Φ:=by
 refine cU (T:="dict") (fun F s X=>?_) slot_dict_getitem.lookup (a7 fun A F s hA X=>?_) hs
 · refine x34 (h9 (X.hold mo)) ?_;rintro a es k rfl h1 h2 h3;exact ⟨_,X.sub _ _ h1,rfl⟩
 · refine x34 (h9 (X.hold mo)) ?_;rintro a es k rfl h1 h2 h3
   obtain ⟨t,rfl⟩:=ak (X.hold mi)
   refine x12 (fE h2 hd) ?_;rintro v e1 e2
   exact wpAny_getItem_of (knd:=strKind B.prog B.w) (k:=S x) (beq_self_eq_true _) (cR h2 h3 (X.sub _ _ h1)).mapOf e1 (.toks X ⟨d,e2,h _⟩)
noncomputable def iD:Value→AV
 | .none=>.none
 | .bool b=>.bool b
 | .int i _=>.int i
 | .str x _=>.str x.cps.toList
 | v=>.lit v
theorem jg (P:Params) (F:Fz):∀ v,Is P F v (iD v)
 | .none=>.none
 | .bool b=>.bool b
 | .int i t=>.int i t
 | .str x t=>by
  have e:S x.cps.toList=x:=by cases x;rfl
  have q:Is P F (.str (S x.cps.toList) t) (.str x.cps.toList):=.str _ _
  rw [e] at q
  exact q
 | .float .. =>.lit _
 | .bytes .. =>.lit _
 | .type _=>.lit _
 | .builtin _=>.lit _
 | .ref _=>.lit _
 | .ellipsis=>.lit _
 | .notImplemented=>.lit _
theorem kH (P:Params) (F:Fz):∀ vs,IsAll P F vs (vs.map iD)
 | []=>.nil
 | v::r=>.cons (jg P F v) (kH P F r)
theorem ii {l:List AV} (h:B.K.lookup a=some (ik vs m)) (e:vs.map iD=l):aS B (.ref a) (.tup l):=fun F core=>e▸.tup (core _ _ (B.X _ _ h)) (kH B.P F vs)
noncomputable def fC:List DictEntry→FL
 | ⟨_,.str x _,v⟩::r=>(x,iD v)::fC r
 | _=>[]
noncomputable def jt (P:Params):List DictEntry→Prop
 | []=>True
 | e::r=>(∃ x t,e.key=.str x t∧e.hash=PyData.keyHash P x)∧jt P r
theorem iS (P:Params) (F:Fz):∀ es,jt P es→IsEnts P F es (fC es)
 | [],_=>.nil
 | ⟨hs,key,v⟩::r,⟨⟨x,t,e1,e2⟩,q⟩=>by
  dsimp only at e1 e2
  subst e1 e2
  exact .cons (jg P F v) (iS P F r q)
theorem qH (h:B.K.lookup a=some (dictOf es m)) (ok:jt B.P es) (e:fC es=l) (nd:(l.map (·.1)).Nodup) (ha:(a==sysModules)=false:=by decide):aS B (.ref a) (.dct l):=
 fun F core=>e▸.dct (core _ _ (B.X _ _ h)) (iS B.P F es ok) (by rw [e];exact nd) ha
end
theorem c0.perm {P:Params} {G:Heap} {F:Fz} {o o':OL} {h:Heap} (e:o.Perm o') (x:c0 P G F o h):c0 P G F o' h:=
 ⟨x.core,x.sub,fun p hp=>x.objs p (e.mem_iff.mpr hp),(aZ e).nodup_iff.mp x.nodup,fun b hb=>x.apart b ((aZ e).mem_iff.mpr hb),x.big⟩
theorem aJ.perm {O O₁ O' O₁':List Addr} {F F':Fz} {s s':Shared} (e:O.Perm O₁) (e':O'.Perm O₁') (p:aJ O F s O' F' s'):aJ O₁ F s O₁' F' s':=
 ⟨fun b o hb=>p.keep b o fun h=>hb (e.mem_iff.mp h),fun b hb=>(p.own b (e'.mem_iff.mpr hb)).imp_left e.mem_iff.mp,fun b o h=>(p.frz b o h).imp_right (Or.imp_left e.mem_iff.mp),p.mono,p.gens,p.os⟩
theorem a4.perm {B:a5} {f:Addr} {args:List AV} {o o₁:OL} {Φ Φ₁:AV→OL→Prop} (e:o.Perm o₁) (c:a4 B n f args o₁ Φ₁) (k:∀ d q,Φ₁ d q→∃ q',q.Perm q'∧Φ d q'):a4 B n f args o Φ:=
 fun A F s vs hA x hv=>codeAny_mono (c A F s vs hA (x.perm e) hv) fun r s' ⟨v,d,objs',F',a,b,y,p,q⟩=>by
  refine x12 (k d objs' q) ?_;rintro q' e' hq
  exact ⟨v,d,q',F',a,b,y.perm e',p.perm (aZ e).symm (aZ e'),hq⟩
theorem a4.second {B:a5} {f:Addr} {args:List AV} {a a' b:Addr×AO} {rest:OL} {d₀:AV} (c:a4 B n f args (a::b::rest) fun d o=>d=d₀∧o=a'::b::rest):a4 B n f args (b::a::rest) fun d o=>d=d₀∧o=b::a'::rest:=
 c.perm (.swap _ _ _) fun d q ⟨e1,e2⟩=>⟨b::a'::rest,by rw [e2];exact .swap _ _ _,e1,rfl⟩
section
variable {B:a5} {n:Nat} {L:Addr} {H:HL} {σ:St} {env:Env}
theorem lF {l m r:Expr} {op op' pos whole} {Φ:Bool→St→Prop}
 (h :Go l (WV B n L (eval l env) H σ fun a x σ₁=>Go m (WV B n L (eval m env) ((a,x)::H) σ₁ fun b y σ₂=>Go op (WV B n L (compareOp op a b) ((b,y)::(a,x)::H) σ₂ fun _ z σ₃=>∃ c,z=.bool c∧∃ c',
  Go r (WV B n L (eval r env) ((b,y)::(a,x)::H) σ₃ (fun d w σ₄=>Go op' (WV B n L (compareOp op' b d) ((d,w)::(b,y)::(a,x)::H) σ₄ fun _ z σ₅=>z=.bool c'∧σ₅=σ₃)))∧Φ (c&&c') σ₃))))
 (hm:autoParam (markedEach [op,op'] [m,r] (evalEach [m,r] env)=[eval m env,eval r env]) bW):GoT (Expr.Compare l [op,op'] [m,r] pos) (WB B n L (isTrue (.Compare l [op,op'] [m,r] pos) env whole) H σ Φ):=by
 show WB B n L (isTrue (.Compare l [op,op'] [m,r] pos) env whole) H σ Φ
 rw [arm_isTrue_Compare,hm]
 refine af (ab h fun a x σ₁ w=>?_)
 show W B n L (do
  let rv ←holding [a] (eval m env)
  standAt pos
  let c ←holding [a,rv] (compareOp op a rv)
  release [a,rv] [c]
  if ←holding [c,rv] (truthy c) then testChain pos rv [op'] [eval r env] else pure false) ((a,x)::H) σ₁ _
 refine af (a8 (ab w fun b y σ₂ w=>ag (af (a8 (ab w fun c z σ₃ ⟨k,e,c',w,q⟩=>?_)))))
 subst e
 refine j7 (cv (a8 (eZ (.head _) ?_)))
 induction k using Bool.casesOn with
 | false=>exact iq q
 | true=>
  refine gX ?_
  show W B n L (do
   let rv ←holding [b] (eval r env)
   standAt pos
   let c ←operate [b,rv] (compareOp op' b rv)
   holding [c] (truthy c)) _ _ _
  refine af (a8 (ab w fun d w' σ₄ w=>ag (af (c5 (ab w fun v z σ₅ ⟨e,e'⟩=>?_)))))
  subst e e'
  exact a8 (eZ (.head _) q)
end
section
variable {B:a5} {n:Nat} {L:Addr} {H:HL} {σ:St} {env:Env}
end
section
variable {B:a5} {n:Nat} {L:Addr} {H:HL} {σ:St} {env:Env}
theorem vO {C fI:Addr} {ds:List AV} {loc:LL} {objs:OL} {Φ₀:Addr→Addr→AV→OL→Prop} (hm:makesIn B.K C=true) (hi:findIn B.K (.ref C) "__init__"=some (some (.ref fI))) (hf:isFn B.K (.ref fI)=true)
 (c:∀ x dx,a4 B m fI (.ref x::ds) ((x,.inst C dx [])::objs) (Φ₀ x dx)) (hn:m≤n) (e:vs.length=ds.length) (k:∀ p∈vs.zip ds,p∈H)
 (h:∀ x dx d objs',Φ₀ x dx d objs'→d=.none∧Φ (.ref x) (.ref x) ⟨loc,objs'⟩):WV B (n+1) L (call (.ref C) vs) H ⟨loc,objs⟩ Φ:=
 zW (σ:=⟨loc,objs⟩) hm hi hf e k fun x dx=>((c x dx).room hn).mono fun d o q=>h x dx d o q
end
end
section
section
variable {B:a5} {n:Nat} {L:Addr} {H:HL} {σ:St} {env:Env}
theorem wf {a b:Value} {c:Nat} {x:List Nat} {Φ:PV} (ma:(a,.str [c])∈H) (mb:(b,.str x)∈H) (h:∀ v,Φ v (.bool (decide (c∈x))) σ):WV B n L (compareOp .In a b) H σ Φ:=a7 fun A F s hA X=>by
 obtain ⟨t1,rfl⟩:=ak (X.hold ma);obtain ⟨t2,rfl⟩:=ak (X.hold mb)
 have e:(!(Builtin.Str.occurrences (S x) (S [c]) 0 (S x).length 1).isEmpty)=decide (c∈x):=StrLaws.found_one (S x) c
 with_reducible exact in_str (.here X ⟨_,.bool _,e▸h _⟩)
theorem rz (a b:Bool):PyData.eqv (.bool a) (.bool b)=(a==b):=by rcases a with _ | _<;>rcases b with _ | _<;>first | rfl | simp [PyData.eqv]
theorem Ag {a b:Value} {x y:Bool} {Φ:PV} (ma:(a,.bool x)∈H) (mb:(b,.bool y)∈H) (h:∀ v,Φ v (.bool (x==y)) σ):WV B n L (compareOp .Eq a b) H σ Φ:=
 qo ma mb rfl rfl rfl rfl (rz x y) h
end
theorem a4.drop {B:a5} {n:Nat} {f:Addr} {args:List AV} {o:OL} {Φ:AV→OL→Prop} (c:a4 B n f args o fun d q=>∃ q' g,q.Perm (q'++g)∧Φ d q'):a4 B n f args o Φ:=
 fun A F s vs hA x hv=>codeAny_mono (c A F s vs hA x hv) fun r s' ⟨v,d,objs',F',a,b,y,p,q',g,e,hq⟩=>by
  have pe:=aZ e
  rw [b7] at pe
  have sub:∀ b∈a9 q',b∈a9 objs':=fun b hb=>pe.mem_iff.mpr (List.mem_append_left _ hb)
  exact ⟨v,d,q',F',a,b,⟨y.core,y.sub,fun p hp=>y.objs p (e.mem_iff.mpr (List.mem_append_left _ hp)),(List.nodup_append.mp (pe.nodup_iff.mp y.nodup)).1,fun b hb=>y.apart b (sub b hb),y.big⟩,
   ⟨p.keep,fun b hb=>p.own b (sub b hb),p.frz,p.mono,p.gens,p.os⟩,hq⟩
end
section
theorem a4.dropH {B:a5} {n:Nat} {f:Addr} {args:List AV} {o:OL} {Φ:AV→OL→Prop} (c:a4 B n f args o fun d q=>F1 (∃ q' g,q.Perm (q'++g)∧Φ d q')):a4 B n f args o Φ:=a4.drop c
theorem a4.ahead {B:a5} {n:Nat} {f:Addr} {args:List AV} {a:Addr×AO} {o o':OL} {d₀:AV} (c:a4 B n f args (o++[a]) fun d q=>d=d₀∧q=o'++[a]):a4 B n f args (a::o) fun d q=>d=d₀∧q=a::o':=
 c.perm (List.perm_append_comm (l₁:=[a])) fun d q ⟨e1,e2⟩=>⟨a::o',by rw [e2];exact List.perm_append_comm (l₂:=[a]),e1,rfl⟩
theorem i9 (ms:List (List Nat)):List.intercalate [] ms=ms.flatten:=by
 induction ms with
 | nil=>rfl
 | cons a r ih=>induction r using List.casesOn with
  | nil=>simp [List.intercalate,List.intersperse]
  | cons b r=>simp only [List.intercalate,List.intersperse_cons_cons,List.flatten_cons] at ih ⊢;refine ih▸?_;simp
theorem dE {l:List AV} {ms:List (List Nat)} {x:List Nat} (h:aD l=some ms):aD (l++[.str x])=some (ms++[x]):=by
 induction l generalizing ms with
 | nil=>obtain rfl:=Option.some.inj h;rfl
 | cons d r ih=>
  refine x23 (i7 h) ?_;rintro y m rfl e1 rfl
  show (aD (r++[.str x])).map (y::·)= _
  refine (ih e1)▸?_
  rfl
theorem wJ {l:List Nat} {i j:Nat} (h:i≤l.length) (h':j≤l.length):sl l (some i) (some j)=(l.take j).drop i:=by
 rw [f6]
 rw [aT h,aT h']
theorem tX {l:List Nat} {i:Nat} (h:i≤l.length):sl l (some i) (some i)=[]:=by rw [wJ h h];simp
theorem kn (ms:List (List Nat)):(ms.map (·.length)).sum=ms.flatten.length:=by rw [List.length_flatten]
section
variable {B:a5} {n:Nat} {L:Addr} {H:HL} {σ:St} {env:Env}
theorem yk {a:Addr} {l:List AV} {ms:List (List Nat)} {v₀ v:Value} {Φ:PV} (mv:(v₀,.str [])∈H) (md:(v,.ref a)∈H) (m:(a,AO.list l)∈σ.objs) (e:aD l=some ms)
 (hz:ms.flatten.length≤16777216) (h:∀ v,Φ v (.str ms.flatten) σ):WV B n L (call (.builtin "str.join") [v₀,v]) H σ Φ:=
 l9 mv md m e (by rw [kn];simpa using hz) (by rw [i9];exact h)
end
end
section
section
variable {M:Model} {A:Around} {c:Code} {fs:List Frame} {s:Shared} {Q:End→Shared→Prop} {K:Flow→Sem Fin} {Hh:Value→Sem Fin} {gd:Bool→Bool} {lv:List Value→List Value} {env:Env}
noncomputable def Sg (M:Model) (A:Around) (c:Code) (t:Sem Fin) (fs:List Frame) (s:Shared) (Q:End→Shared→Prop):Prop:=
 ∀ Γ p,Γ.code=c→Γ.Woken A→∃ e s',Runs M Γ p t fs s e s'∧(e.quiet=true∧Q e s')
theorem Sg.tree {α:Type} {m:Sem α} {K:α→Sem Fin} {Hh:Value→Sem Fin} (h:wpAny M (A.over c fs) m (fun a s'=>Sg M A c (K a) fs s' Q) (fun x s'=>Sg M A c (Hh x) fs s' Q) s):Sg M A c (m.wrap K Hh gd lv) fs s Q:=by
 rintro Γ p rfl hΓ
 exact runs_wrap_of_wp K Hh gd lv m (h (Γ.over fs) p (hΓ.over fs)) (fun a p' s' w=>w Γ p' rfl hΓ) fun x p' s' w=>w Γ p' rfl hΓ
theorem Sg.stand {p':Pos} {k:Unit→Sem Fin} (h:Sg M A c (k ()) fs s Q):Sg M A c (.at p' k) fs s Q:=Sg.tree (m:=standAt p') (K:=k) (Hh:=.raise) (gd:=id) (lv:=id) (wpAny_standAt h)
theorem Sg.spot {l:List Value} {k:Unit→Sem Fin} (h:Sg M A c (k ()) fs s Q):Sg M A c (.point l k) fs s Q:=Sg.tree (m:=point) (K:=k) (Hh:=.raise) (gd:=id) (lv:=fun _=>l) (wpAny_point h)
theorem Sg.into {c':Code} {h g l} {k:Result→Sem Fin} (w:∀ p,Sg M A c' (M.den c') (.ret k h g l c p []::fs) s Q):Sg M A c (.call c' h g l k) fs s Q:=by
 rintro Γ p rfl hΓ
 refine x22 (w p (Γ.goto c') p rfl (hΓ.goto c')) ?_;rintro e s' hr q
 exact ⟨e,s',runs_call_seg hr,q⟩
theorem Sg.back {k h g l c₁ p₁ kp} (r:Result) (w:Sg M A c₁ (k r) fs s Q):Sg M A c (leafOf r) (.ret k h g l c₁ p₁ kp::fs) s Q:=by
 rintro Γ p rfl hΓ
 refine x22 (w (Γ.goto c₁) p₁ rfl (hΓ.goto c₁)) ?_;rintro e s' hr q
 exact ⟨e,s',Runs.pop r hr,q⟩
theorem Sg.turn {c':Code} (hq:c'.quiet=true) (w:Sg M A c' (M.den c') fs s Q):Sg M A c (.pure (.again c')) fs s Q:=by
 rintro Γ p rfl hΓ
 refine x22 (w (Γ.goto c') p rfl (hΓ.goto c')) ?_;rintro e s' hr q
 exact ⟨e,s',Runs.head (c₁:=c') (fun _ _ x=>.again hq x) hr,q⟩
theorem Sg.over (r:Result) (h:Q (.ret r) s):Sg M A c (leafOf r) [] s Q:=by
 rintro Γ p rfl _
 exact ⟨.ret r,s,Runs.leaf r,rfl,h⟩
theorem Sg.give {v g l} {k:Resume→Sem Fin} (hfs:splitAtGen fs=none) (hg:g=false) (hfg:fs.any Frame.guarded=false) (h:∀ p,Q (.susp v g l k c p fs) s):Sg M A c (.yield v g l k) fs s Q:=by
 rintro Γ p rfl _
 exact ⟨_,s,Runs.yield' fs hfs,by simp [End.quiet,hg,hfg],h p⟩
noncomputable def Wk (M:Model) (A:Around) (gs:GenState) (s:Shared) (Q:End→Shared→Prop):Prop:=
 match gs with
 | .fresh c=>Sg M A c (M.den c) [] s Q
 | .suspended k _ c _ fs _=>Sg M A c (k (.send .none)) fs s Q
 | _=>False
theorem lI {E:Value→Shared→Prop} {g:Nat} {gs:GenState} {l:List Value} {α:Type} {k:GenResult→Sem α} {R:α→Shared→Prop} (hg:s.gens[g]? =some gs) (w:Wk M A gs (s.setGen g .running) Q)
 (h:∀ e s₁,e.quiet=true→Q e s₁→wpAny M A (k e.result) R E (s₁.setGen g e.genState)):wpAny M A (.resume g (.send .none) l k) R E s:=by
 intro Γ p hΓ
 rw [Sem.wp_resume]
 cases gs with
 | running=>exact w.elim
 | finished=>exact w.elim
 | fresh c=>
  refine x23 (w (Γ.wake c p) p rfl (hΓ.wake c p)) ?_;rintro e s' hr q z
  exact ⟨_,_,by unfold Wakes;rw [hg];exact ⟨e,s',hr,q,rfl,rfl⟩,h e s' q z Γ p hΓ⟩
 | suspended k₀ l₀ c p₀ fs cl=>
  refine x23 (w (Γ.wake c p) p₀ rfl (hΓ.wake c p)) ?_;rintro e s' hr q z
  exact ⟨_,_,by unfold Wakes;rw [hg];exact ⟨e,s',hr,q,rfl,rfl⟩,h e s' q z Γ p hΓ⟩
theorem Sg.steps {st:Stmt} {rest:List Stmt} (h:Sg M A c ((exec st env).wrap (fun f=>match f with | .next=>(execs rest env).wrap K Hh gd lv | f=>K f) Hh gd lv) fs s Q):Sg M A c ((execs (st::rest) env).wrap K Hh gd lv) fs s Q:=by
 rw [execs_cons_wrap];exact h
theorem Sg.yields {e:Expr} {yp pos:Pos} (hfs:splitAtGen fs=none) (hgd:gd false=false) (hfg:fs.any Frame.guarded=false)
 (h:wpAny M (A.over c fs) (eval e env) (fun v s'=>∀ l k p,k (.send .none)=K .next→Q (.susp v (gd false) l k c p fs) s') (fun _ _=>False) s) (hco:env.scope.isCoroutine=false) (hi:interactive env=false):
 Sg M A c ((exec (.Expr (.Yield (some e) yp) pos) env).wrap K Hh gd lv) fs s Q:=by
 rw [exec_Expr env _ pos hi rfl]
 have hy:∀ v,yieldOut env v=yieldValue v:=fun v=>by simp only [yieldOut,hco,Bool.false_eq_true,if_false]
 show Sg M A c (.at pos fun _=>((eval e env >>= fun v=>(standAt yp >>= fun _=>yieldOut env v)) >>= fun x=>dropValue (.Yield (some e) yp) pos x).wrap K Hh gd lv) fs s Q
 simp only [hy]
 refine Sg.stand ?_
 rw [Sem.bind_eq_wrap',Sem.bind_eq_wrap',Sem.wrap_wrap,Sem.wrap_wrap]
 refine Sg.tree (wpAny_mono h (fun v s' z=>?_) fun _ _ z=>z.elim)
 exact Sg.stand (Sg.give hfs hgd hfg fun p=>z _ _ p rfl)
theorem Sg.whiles {test:Expr} {body:List Stmt} {pos:Pos}
 (h:∀ p k,(∀ f,k (.ok f)=K f)→Sg M A (.whileLoop test body [] env) (M.den (.whileLoop test body [] env)) (.ret k none (gd false) (lv []) c p []::fs) s Q):Sg M A c ((exec (.While test body [] pos) env).wrap K Hh gd lv) fs s Q:=
 Sg.stand (Sg.into fun p=>h p _ fun f=>rfl)
end
section
variable {prog:Program} {w:World} {A:Around} {fs:List Frame} {s:Shared} {Q:End→Shared→Prop} {env:Env}
theorem Sg.round {test:Expr} {body:List Stmt} (h:wpAny (model prog w) (A.over (.whileLoop test body [] env) fs) (isTrue test env (eval test env)) (fun b s'=>
 (b =true→∀ Hh,Sg (model prog w) A (.whileLoop test body [] env) ((execs body env).wrap (fun f=>match f with
  | .next | .cont=>.pure (.again (.whileLoop test body [] env))
  | .brk=>.pure (.done .next)
  | .ret v=>.pure (.done (.ret v))) Hh id id) fs s' Q)∧
 (b =false→Sg (model prog w) A (.whileLoop test body [] env) (.pure (.done .next)) fs s' Q)) (fun _ _=>False) s):
 Sg (model prog w) A (.whileLoop test body [] env) ((model prog w).den (.whileLoop test body [] env)) fs s Q:=by
 show Sg _ A _ ((whileTurn test body [] env).onRaise (fun x=>do noteFrame x env;theTreesLotGoes x)) fs s Q
 unfold whileTurn
 rw [Sem.onRaise_eq_wrap,Sem.bind_eq_wrap',Sem.wrap_wrap]
 refine Sg.tree (wpAny_mono h (fun b s' z=>?_) fun _ _ z=>z.elim)
 induction b using Bool.casesOn with
 | true=>
  show Sg _ A _ (Sem.wrap _ _ _ _ (execs body env >>= _)) fs s' Q
  rw [Sem.bind_eq_wrap',Sem.wrap_wrap]
  rw [Sem.wrap_congr (execs body env) (K':=fun f=>match f with
   | .next | .cont=>.pure (.again (.whileLoop test body [] env))
   | .brk=>.pure (.done .next)
   | .ret v=>.pure (.done (.ret v))) _ _ (fun f=>by rcases f with _ | _<;>rfl) (fun e=>rfl)]
  exact z.1 rfl _
 | false=>exact z.2 rfl
theorem Sg.body {body:List Stmt} (h:∀ Hh,Sg (model prog w) A (.func body env) ((execs body env).wrap (fun f=>.pure (.done (.ret (match f with | .ret v=>v | _=>.none)))) Hh id id) fs s Q):
 Sg (model prog w) A (.func body env) ((model prog w).den (.func body env)) fs s Q:=by
 show Sg _ A _ (.point [] fun _=>((execs body env).onRaise (leaving env)) >>= _) fs s Q
 refine Sg.spot ?_
 rw [Sem.onRaise_eq_wrap,Sem.bind_eq_wrap',Sem.wrap_wrap]
 rw [Sem.wrap_congr (execs body env) (K':=fun f=>.pure (.done (.ret (match f with | .ret v=>v | _=>.none)))) _ _ (fun f=>by rcases f with _ | _<;>rfl) (fun e=>rfl)]
 exact h _
end
end
section
variable {st:Stmt} {pos:Pos} {test:Expr}
theorem Sg.mono {M:Model} {A:Around} {c:Code} {t:Sem Fin} {fs:List Frame} {s:Shared} {Q Q':End→Shared→Prop} (h:Sg M A c t fs s Q) (k:∀ e s',Q e s'→Q' e s'):Sg M A c t fs s Q':=fun Γ p e hΓ=>
 let ⟨x,s',hr,q,z⟩:=h Γ p e hΓ;⟨x,s',hr,q,k _ _ z⟩
section
variable {γ:Type}
noncomputable def oz (B:a5) (m:Nat) (L:Addr) (YJ:γ→AV→OL→Prop) (RJ:OL→Prop):List γ→List Addr→Fz→Shared→End→Shared→Prop
 | []=>fun O F s e s₁=>e=.ret (.ok (.ret .none))∧∃ F' σ',Holds B.P B.G L F' [] σ' s₁.heap∧aJ O F s (L::a9 σ'.objs) F' s₁∧RJ σ'.objs
 | x::tr=>fun O F s e s₁=>∃ v g l k c p fs F' σ' d,e=.susp v g l k c p fs∧Holds B.P B.G L F' [(v,d)] σ' s₁.heap∧aJ O F s (L::a9 σ'.objs) F' s₁∧YJ x d σ'.objs∧
  ∀ A F₂ s₂,c3 m A→Holds B.P B.G L F₂ [] σ' s₂.heap→Sg B.M A c (k (.send .none)) fs s₂ (oz B m L YJ RJ tr (L::a9 σ'.objs) F₂ s₂)
variable {B:a5} {m n:Nat} {L:Addr} {YJ:γ→AV→OL→Prop} {RJ:OL→Prop}
theorem oz.trans {tr:List γ} {O O':List Addr} {F F':Fz} {s s' s₁:Shared} {e:End} (p:aJ O F s O' F' s') (h:oz B m L YJ RJ tr O' F' s' e s₁):oz B m L YJ RJ tr O F s e s₁:=by
 induction tr using List.casesOn with
 | nil=>
  obtain ⟨rfl,F₁,σ₁,x,q,r⟩:=h
  exact ⟨rfl,F₁,σ₁,x,p.trans q,r⟩
 | cons x tr=>
  refine x61 (h) ?_;clear h;rintro v g l k c p' ⟨fs,F₁,σ₁,d,rfl,x,q,r⟩
  exact ⟨v,g,l,k,c,p',fs,F₁,σ₁,d,rfl,x,p.trans q,r⟩
structure GW (B:a5) (m:Nat) (L:Addr) (YJ:γ→AV→OL→Prop) (RJ:OL→Prop) (c:Code) (fs:List Frame) (t:Sem Fin) (tr:List γ) (σ:St):Prop where
 run:∀ A F s,c3 m A→Holds B.P B.G L F [] σ s.heap→Sg B.M A c t fs s (oz B m L YJ RJ tr (L::a9 σ.objs) F s)
variable {c:Code} {fs:List Frame} {tr:List γ} {σ:St} {K:Flow→Sem Fin} {Hh:Value→Sem Fin} {gd:Bool→Bool} {lv:List Value→List Value} {env:Env}
noncomputable def bD (m n:Nat) (c:Code) (fs:List Frame):Prop:=∀ A,c3 m A→c3 n (A.over c fs)
theorem GW.bind {α:Type} {t:Sem α} {K:α→Sem Fin} (hr:bD m n c fs) (h:W B n L t [] σ fun a _ σ'=>GW B m L YJ RJ c fs (K a) tr σ'):GW B m L YJ RJ c fs (t.wrap K Hh gd lv) tr σ:=⟨fun A F s hA X=>
 Sg.tree (wpAny_mono (h.run _ F s (hr A hA) X) (fun a s' ⟨F',σ',X',p,w⟩=>(w.run A F' s' hA X').mono fun _ _ z=>z.trans p) fun _ _ z=>z.elim)⟩
theorem GW.stmt (hr:bD m n c fs) (h:WF B n L (exec st env) [] σ fun e σ'=>e=.next∧GW B m L YJ RJ c fs (K .next) tr σ'):GW B m L YJ RJ c fs ((exec st env).wrap K Hh gd lv) tr σ:=
 GW.bind hr ⟨fun A F s hA X=>wpAny_mono (h.run A F s hA X) (fun f s' ⟨F',σ',X',p,e,he,q,w⟩=>⟨F',σ',X',p,by subst q;rcases f with _ | _<;>first | exact w | exact he.elim⟩) fun _ _ z=>z⟩
theorem GW.steps {rest:List Stmt} (h:GW B m L YJ RJ c fs ((exec st env).wrap (fun f=>match f with | .next=>(execs rest env).wrap K Hh gd lv | f=>K f) Hh gd lv) tr σ):GW B m L YJ RJ c fs ((execs (st::rest) env).wrap K Hh gd lv) tr σ:=
 ⟨fun A F s hA X=>Sg.steps (h.run A F s hA X)⟩
theorem GW.yields {x:γ} {e:Expr} {yp:Pos} (hr:bD m n c fs) (hfs:splitAtGen fs=none) (hgd:gd false=false) (hfg:fs.any Frame.guarded=false)
 (h:WV B n L (eval e env) [] σ fun v d σ'=>YJ x d σ'.objs∧GW B m L YJ RJ c fs (K .next) tr σ') (hco:env.scope.isCoroutine=false) (hi:interactive env=false):
 GW B m L YJ RJ c fs ((exec (.Expr (.Yield (some e) yp) pos) env).wrap K Hh gd lv) (x::tr) σ:=⟨fun A F s hA X=>
 Sg.yields hfs hgd hfg (wpAny_mono (h.run _ F s (hr A hA) X) (fun v s' ⟨F',σ',X',p,d,hd,y,w⟩ l k p' hk=>⟨v,gd false,l,k,c,p',fs,F',σ',d,rfl,X'.push hd,p,y,fun A F₂ s₂ hA X₂=>by rw [hk];exact w.run A F₂ s₂ hA X₂⟩) fun _ _ z=>z) hco hi⟩
theorem GW.whiles {body:List Stmt}
 (h:∀ p k,(∀ f,k (.ok f)=K f)→GW B m L YJ RJ (.whileLoop test body [] env) (.ret k none (gd false) (lv []) c p []::fs) (B.M.den (.whileLoop test body [] env)) tr σ):GW B m L YJ RJ c fs ((exec (.While test body [] pos) env).wrap K Hh gd lv) tr σ:=
 ⟨fun A F s hA X=>Sg.whiles fun p k e=>(h p k e).run A F s hA X⟩
theorem GW.round {body:List Stmt} (hr:bD m n (.whileLoop test body [] env) fs) (h:WB B n L (isTrue test env (eval test env)) [] σ fun b σ'=>
 (b=true→∀ Hh,GW B m L YJ RJ (.whileLoop test body [] env) fs ((execs body env).wrap (fun f=>match f with
  | .next | .cont=>.pure (.again (.whileLoop test body [] env))
  | .brk=>.pure (.done .next)
  | .ret v=>.pure (.done (.ret v))) Hh id id) tr σ')∧
 (b=false→GW B m L YJ RJ (.whileLoop test body [] env) fs (.pure (.done .next)) tr σ')):GW B m L YJ RJ (.whileLoop test body [] env) fs (B.M.den (.whileLoop test body [] env)) tr σ:=
 ⟨fun A F s hA X=>Sg.round (wpAny_mono (h.run _ F s (hr A hA) X) (fun b s' ⟨F',σ',X',p,w⟩=>⟨fun e Hh=>((w.1 e Hh).run A F' s' hA X').mono fun _ _ z=>z.trans p,fun e=>((w.2 e).run A F' s' hA X').mono fun _ _ z=>z.trans p⟩) fun _ _ z=>z)⟩
theorem GW.turn {c':Code} (hq:c'.quiet=true) (h:GW B m L YJ RJ c' fs (B.M.den c') tr σ):GW B m L YJ RJ c fs (.pure (.again c')) tr σ:=⟨fun A F s hA X=>Sg.turn hq (h.run A F s hA X)⟩
theorem GW.back {k:Result→Sem Fin} {h' g l c₁ p₁ kp} {f:Flow} (h:GW B m L YJ RJ c₁ fs (k (.ok f)) tr σ):GW B m L YJ RJ c (.ret k h' g l c₁ p₁ kp::fs) (.pure (.done f)) tr σ:=⟨fun A F s hA X=>Sg.back (.ok f) (h.run A F s hA X)⟩
theorem GW.body {body:List Stmt} (h:∀ Hh,GW B m L YJ RJ (.func body env) fs ((execs body env).wrap (fun f=>.pure (.done (.ret (match f with | .ret v=>v | _=>.none)))) Hh id id) tr σ):
 GW B m L YJ RJ (.func body env) fs (B.M.den (.func body env)) tr σ:=⟨fun A F s hA X=>Sg.body fun Hh=>(h Hh).run A F s hA X⟩
theorem GW.over (h:RJ σ.objs):GW B m L YJ RJ c [] (.pure (.done (.ret .none))) [] σ:=⟨fun A F s hA X=>Sg.over (.ok (.ret .none)) ⟨rfl,F,σ,X,.refl _ _ _,h⟩⟩
theorem c6 {body:List Stmt}:bD (n+1) n (.func body env) []:=fun A hA=>by
 have h1:(Code.func body env).weight=1:=by rfl
 have h2:(Code.func body env).cUnits=3:=by rfl
 refine ⟨hA.handled,?_,?_⟩
 · have:=hA.depth
   show A.depth+frameCount ([].map Frame.where_)+(Code.func body env).weight+n≤900
   rw [h1];simp [frameCount];omega
 · have:=hA.units
   show A.units+unitsOf ([].map Frame.where_)+(Code.func body env).cUnits+8*n≤9000
   rw [h2];simp [unitsOf];omega
theorem aP {body:List Stmt} {env':Env} {k:Result→Sem Fin} {g l p kp} (h:bD m n c fs):bD m n (.whileLoop test body [] env') (.ret k none g l c p kp::fs):=fun A hA=>by
 obtain ⟨r1,r2,r3⟩:=h A hA
 have h1:(Code.whileLoop test body [] env').weight=0:=by rfl
 have h2:(Code.whileLoop test body [] env').cUnits=0:=by rfl
 refine ⟨?_,?_,?_⟩
 · exact r1
 · have:A.depth+frameCount (fs.map Frame.where_)+c.weight+n≤900:=r2
   show A.depth+frameCount ((Frame.ret k none g l c p kp::fs).map Frame.where_)+(Code.whileLoop test body [] env').weight+n≤900
   rw [h1,List.map_cons,show (Frame.ret k none g l c p kp).where_ =(c,p) from rfl,frameCount_cons];omega
 · have:A.units+unitsOf (fs.map Frame.where_)+c.cUnits+8*n≤9000:=r3
   show A.units+unitsOf ((Frame.ret k none g l c p kp::fs).map Frame.where_)+(Code.whileLoop test body [] env').cUnits+8*n≤9000
   rw [h2,List.map_cons,show (Frame.ret k none g l c p kp).where_ =(c,p) from rfl,unitsOf_cons];omega
end
variable {st:Stmt} {pos:Pos} {test:Expr}
section
variable {γ:Type} {B:a5} {m n:Nat} {L:Addr} {YJ:γ→AV→OL→Prop} {RJ:OL→Prop} {c:Code} {fs:List Frame} {tr:List γ} {K:Flow→Sem Fin} {Hh:Value→Sem Fin} {gd:Bool→Bool} {lv:List Value→List Value} {env:Env} {t:Sem Fin}
theorem GW.perm {loc:LL} {objs objs' rest:OL} (e:objs.Perm (objs'++rest)) (h:GW B m L YJ RJ c fs t tr ⟨loc,objs'⟩):GW B m L YJ RJ c fs t tr ⟨loc,objs⟩:=⟨fun A F s hA X=>by
 refine (h.run A F s hA (X.drop e)).mono fun x s' z=>z.trans ?_
 have pe:=aZ e
 rw [b7] at pe
 refine ⟨fun _ _ _ e=>e,fun b hb=>.inl ?_,fun _ _ e=>.inl e,.refl F,.refl _,rfl⟩
 rcases mC0 hb with rfl | hb
 · exact .head _
 · exact .tail _ (pe.mem_iff.mpr (List.mem_append_left _ hb))⟩
end
end
section
variable {g:Nat} {gs:GenState} {F':Fz}
section
variable {prog:Program} {w:World} {A:Around} {E:Value→Shared→Prop} {s:Shared}
theorem oG {a:Addr} {Q₀:End→Shared→Prop} {Q:Option Value→Shared→Prop} (hh:A.handled=none) (hl:s.heap.NoLimit) (hroom:A.depth < recursionLimit) (hg:s.heap.IsGen a g) (hgs:s.gens[g]? =some gs)
 (wk:Wk (model prog w) A.in1 gs (s.setGen g .running) Q₀)
 (h :∀ e s₁,e.quiet=true→Q₀ e s₁→match e with
  | .susp v g₀ l k c p fs=>Q (some v) (s₁.setGen g (End.susp v g₀ l k c p fs).genState)
  | .ret r=>r=.ok (.ret .none)∧∀ h',(∀ b o,s₁.heap.get? b=some o→h'.get? b=some o)→Q none { s₁.setGen g .finished with heap:=h' }):
 wpAny (model prog w) A (pyNext (.ref a)) Q E s:=by
 unfold pyNext
 refine wpAny_bind (wpAny_attempt (wpAny_callSpecial?_slot (name:=Str.ofString "__next__") hg.typeIs slot_gen_next (wpAny_call_entry slot_gen_next hg.typeIs entry_gen_next ?_ (args_gen_next _))))
 show wpAny _ _ (Builtin.Generator.genWake (.ref a) (.send .none)) _ _ s
 unfold Builtin.Generator.genWake
 refine wpAny_bind (wpAny_holding (wpAny_genNumber hg (wpAny_bind (wpAny_genState hgs ?_))))
 cases gs with
 | running=>exact wk.elim
 | finished=>exact wk.elim
 | _=>
  refine wpAny_bind (wpAny_roomToWake hl hroom ?_)
  refine lI hgs wk (fun e s₁ hq z=>?_)
  cases e with
  | susp v g₀ l k c p fs=>exact wpAny_pure ⟨v,rfl,wpAny_pure (h _ s₁ hq z)⟩
  | ret r=>
   obtain ⟨rfl,z'⟩:=h _ s₁ hq z
   show wpAny _ _ (newExc (.type "StopIteration") [] >>= _) _ _ _
   refine wpAny_bind ?_
   simp only [newExc,newTuple]
   refine wpAny_bind (wpAny_newObj_type ?_ (by size_fits))
   refine wpAny_bind (m:=firstArgMember _ _) (wpAny_of_eq (a:=Value.none) (by first | rfl | (simp only [firstArgMember];rfl)) ?_)
   refine wpAny_newObj_type ?_ (by size_fits)
   simp only [raiseNew]
   refine wpAny_bind (wpAny_bind (wpAny_handled ?_))
   rw [show A.in1.handled=none from hh]
   refine wpAny_throw ?_
   refine wpAny_bind (wpAny_isInstance (T:="StopIteration") (b:=true) ⟨_,Heap.get?_push_size _ rfl,rfl⟩ isSubtype_stop ?_)
   exact wpAny_pure (z' _ fun b o hb=>Heap.get?_push_of_some _ (Heap.get?_push_of_some _ hb))
end
theorem Shared.set_set (s:Shared) (g:Nat) (x y:GenState):(s.setGen g x).setGen g y=s.setGen g y:=by
 unfold Shared.setGen;simp
theorem c1.fin {a b:Array GenState} {x:GenState} (h:c1 a b) (hg:a[g]? =some x):c1 (a.setIfInBounds g .finished) (b.setIfInBounds g .finished):=by
 have ha:g < a.size:=by by_cases q:g < a.size;exact q;simp [q] at hg
 have hb:g < b.size:=by
  have:=h.keep g x hg
  by_cases q:g < b.size;exact q;simp [q] at this
 refine ⟨fun i y e=>?_,fun i y e=>?_⟩
 · rw [Array.getElem?_setIfInBounds] at e ⊢
   by_cases q:g=i
   · subst q;rw [if_pos rfl,if_pos ha] at e;rw [if_pos rfl,if_pos hb];exact e
   · rw [if_neg q] at e;rw [if_neg q];exact h.keep i y e
 · rw [Array.getElem?_setIfInBounds] at e
   by_cases q:g=i
   · subst q;rw [if_pos rfl,if_pos hb] at e;obtain rfl:=Option.some.inj e;exact .inr rfl
   · rw [if_neg q] at e
     rw [Array.getElem?_setIfInBounds,if_neg q]
     exact h.bare i y e
noncomputable abbrev fin (g:Nat) (s:Shared):Shared:=s.setGen g .finished
theorem aJ.fin {O O':List Addr} {F:Fz} {s':Shared} {x:GenState} (p:aJ O F s O' F' s') (hg:s.gens[g]? =some x):aJ O F (fin g s) O' F' (fin g s'):=
 ⟨p.keep,p.own,p.frz,p.mono,p.gens.fin hg,p.os⟩
section
variable {γ:Type} {B:a5} {m n:Nat} {L:Addr} {YJ:γ→AV→OL→Prop} {RJ:OL→Prop} {tr:List γ}
structure lV (B:a5) (m:Nat) (Lg:Addr) (YJ:γ→AV→OL→Prop) (RJ:OL→Prop) (tr:List γ) (o:Obj) (gobjs:OL) (F:Fz) (gs:GenState):Prop where
 it:∃ gloc:LL,(∃ mm,(∀ h:Heap,h.get? Lg=some o→h.Ns Lg mm)∧∀ x d,(x,some d)∈gloc→∃ v,mm x=some v∧Is B.P F v d)∧(gloc.map (·.1)).Nodup∧
  ∀ A F s,c3 m A→Holds B.P B.G Lg F [] ⟨gloc,gobjs⟩ s.heap→Wk B.M A gs s (oz B m Lg YJ RJ tr (Lg::a9 gobjs) F s)
 low:B.G.objs.size≤Lg
theorem lV.mono {Lg:Addr} {o:Obj} {gobjs:OL} {F:Fz} (h:lV B m Lg YJ RJ tr o gobjs F gs) (k:F.le F'):lV B m Lg YJ RJ tr o gobjs F' gs:=by
 obtain ⟨⟨gloc,⟨mm,a,b⟩,c,d⟩,e⟩:=h
 exact ⟨⟨gloc,⟨mm,a,fun x d hx=>let ⟨v,q,r⟩:=b x d hx;⟨v,q,r.mono k⟩⟩,c,d⟩,e⟩
noncomputable abbrev frO (Lg:Addr) (o:Obj):Addr×AO:=(Lg,.is (·=o))
variable {H:HL} {loc:LL} {gobjs own:OL} {Lg:Addr} {o:Obj} {F:Fz}
theorem Holds.inner {h:Heap} {gloc:LL} (X:Holds B.P B.G L F H ⟨loc,frO Lg o::(gobjs++own)⟩ h) (low:B.G.objs.size≤Lg) (nd:(gloc.map (·.1)).Nodup)
 (hl:∃ mm,(∀ h:Heap,h.get? Lg=some o→h.Ns Lg mm)∧∀ x d,(x,some d)∈gloc→∃ v,mm x=some v∧Is B.P F v d):Holds B.P B.G Lg F [] ⟨gloc,gobjs⟩ h:=by
 refine x12 (X.objs _ (.head _)) ?_;rintro o' e1 e2
 have nd2:=(List.nodup_cons.mp X.nodup).2
 have e:a9 (frO Lg o::(gobjs++own))=(Lg::a9 gobjs)++a9 own:=by simp [a9,AO.more,b7]
 rw [show a9 (⟨loc,frO Lg o::(gobjs++own)⟩:St).objs= _ from e] at nd2
 refine ⟨X.core,X.sub,?_,nd,fun p hp=>X.objs p (.tail _ (List.mem_append_left _ hp)),(List.nodup_append.mp nd2).1,fun b hb=>X.apart b (.tail _ (by rw [show a9 (⟨loc,frO Lg o::(gobjs++own)⟩:St).objs= _ from e];exact List.mem_append_left _ hb)),fun _ hp=>(nomatch hp),low⟩
 refine x12 (hl) ?_;clear hl;rintro mm a b
 exact ⟨mm,a h (by rw [e1,e2]),b⟩
theorem Holds.outer {s₁:Shared} {H':HL} {σ':St} (X:Holds B.P B.G L F H ⟨loc,frO Lg o::(gobjs++own)⟩ s.heap) (Y:Holds B.P B.G Lg F' H' σ' s₁.heap) (p:aJ (Lg::a9 gobjs) F s (Lg::a9 σ'.objs) F' s₁):
 ∃ o', (∃ mm,(∀ h:Heap,h.get? Lg=some o'→h.Ns Lg mm)∧∀ x d,(x,some d)∈σ'.loc→∃ v,mm x=some v∧Is B.P F' v d)∧
  Holds B.P B.G L F' H ⟨loc,frO Lg o'::(σ'.objs++own)⟩ s₁.heap∧aJ (L::a9 (frO Lg o::(gobjs++own))) F s (L::a9 (frO Lg o'::(σ'.objs++own))) F' s₁:=by
 refine x12 (Y.loc) ?_;rintro mm ⟨o',es,ep,e1,e2⟩ e3
 have e:∀ o (g:OL),a9 (frO Lg o::(g++own))=(Lg::a9 g)++a9 own:=fun o g=>by simp [a9,AO.more,b7]
 have nd:=X.nodup
 rw [show a9 (⟨loc,frO Lg o::(gobjs++own)⟩:St).objs= _ from e o gobjs] at nd
 obtain ⟨nL,nd2⟩:=List.nodup_cons.mp nd
 refine x03 (List.nodup_append.mp nd2) ?_;rintro n1 n2 n3
 have there:∀ b∈L::a9 own,∃ y,s.heap.get? b=some y:=fun b hb=>X.there b (by
  refine (show a9 (⟨loc,frO Lg o::(gobjs++own)⟩:St).objs= _ from e o gobjs)▸?_
  rcases mC0 hb with rfl | hb
  · exact .head _
  · exact .tail _ (List.mem_append_right _ hb))
 -- what the asker has is none of the generator's
 have apart:∀ b∈L::a9 own,b∉Lg::a9 gobjs:=fun b hb hm=>by
  rcases mC0 hb with rfl | hb
  · exact nL (List.mem_append_left _ hm)
  · exact n3 b hm b hb rfl
 have apart':∀ b∈L::a9 own,b∉Lg::a9 σ'.objs:=fun b hb hm=>by
  rcases p.own b hm with z | z
  · exact apart b hb z
  · obtain ⟨y,hy⟩:=there b hb;rw [hy] at z;contradiction
 have keep:∀ b∈L::a9 own,∀ y,s.heap.get? b=some y→s₁.heap.get? b=some y:=fun b hb y hy=>p.keep b y (apart b hb) hy
 have noF:∀ b∈L::a9 own,F' b=none:=fun b hb=>by
  induction q:F' b using Option.casesOn with
  | none=>rfl
  | some y=>
   rcases p.frz b y q with z | z | z
   · rw [X.apart b (by
      refine (show a9 (⟨loc,frO Lg o::(gobjs++own)⟩:St).objs= _ from e o gobjs)▸?_
      rcases mC0 hb with rfl | hb
      · exact .head _
      · exact .tail _ (List.mem_append_right _ hb))] at z;contradiction
   · exact absurd z (apart b hb)
   · obtain ⟨y',hy⟩:=there b hb;rw [hy] at z;contradiction
 refine ⟨o',⟨mm,fun h eh=>⟨o',es,ep,eh,e2⟩,e3⟩,⟨Y.core,Y.sub,?_,X.names,fun q hq=>?_,?_,fun b hb=>?_,fun q hq=>(X.held q hq).mono p.mono,X.low⟩,⟨fun b y hb=>p.keep b y fun hm=>hb ?_,fun b hb=>?_,fun b y h=>?_,p.mono,p.gens,p.os⟩⟩
 · refine x12 (X.loc) ?_;rintro mL ⟨oL,esL,epL,l1,l2⟩ l3
   exact ⟨mL,⟨oL,esL,epL,keep L (.head _) _ l1,l2⟩,fun x d hx=>let ⟨v,a,b⟩:=l3 x d hx;⟨v,a,b.mono p.mono⟩⟩
 · rcases mC0 hq with rfl | hq
   · exact ⟨o',e1,rfl⟩
   · rcases List.mem_append.mp hq with hq | hq
     · exact Y.objs q hq
     · exact (X.objs q (.tail _ (List.mem_append_right _ hq))).move p.mono fun b y hb=>keep b (.tail _ (ay.mpr ⟨q,hq,hb⟩)) y
 · show (L::a9 (frO Lg o'::(σ'.objs++own))).Nodup
   rw [e]
   refine List.nodup_cons.mpr ⟨fun hm=>?_,List.nodup_append.mpr ⟨Y.nodup,n2,fun a ha b hb q=>apart' b (.tail _ hb) (q▸ha)⟩⟩
   rcases List.mem_append.mp hm with hm | hm
   · exact apart' L (.head _) hm
   · exact nL (List.mem_append_right _ hm)
 · rw [show a9 (⟨loc,frO Lg o'::(σ'.objs++own)⟩:St).objs= _ from e o' σ'.objs] at hb
   rcases mC0 hb with rfl | hb
   · exact noF _ (.head _)
   · rcases List.mem_append.mp hb with hb | hb
     · exact Y.apart b hb
     · exact noF b (.tail _ hb)
 · rw [e];exact .tail _ (List.mem_append_left _ hm)
 · rw [e] at hb
   rw [e]
   rcases mC0 hb with rfl | hb
   · exact .inl (.head _)
   · rcases List.mem_append.mp hb with hb | hb
     · exact (p.own b hb).imp_left fun h=>.tail _ (List.mem_append_left _ h)
     · exact .inl (.tail _ (List.mem_append_right _ hb))
 · rw [e]
   exact (p.frz b y h).imp_right (Or.imp_left fun h=>.tail _ (List.mem_append_left _ h))
noncomputable def B5 (B:a5) (m:Nat) (L Lg:Addr) (YJ:γ→AV→OL→Prop) (RJ:OL→Prop) (H:HL) (loc:LL) (own:OL) (O:List Addr) (F:Fz) (g:Nat) (s:Shared):List γ→Option Value→Shared→Prop
 | [],r,s'=>r=none∧∃ F' gobjs' o',Holds B.P B.G L F' H ⟨loc,frO Lg o'::(gobjs'++own)⟩ s'.heap∧aJ O F (fin g s) (L::a9 (frO Lg o'::(gobjs'++own))) F' s'∧RJ gobjs'
 | x::tr,r,s'=>∃ v d F' gobjs' o' gs',r=some v∧Is B.P F' v d∧YJ x d gobjs'∧Holds B.P B.G L F' H ⟨loc,frO Lg o'::(gobjs'++own)⟩ s'.heap∧aJ O F (fin g s) (L::a9 (frO Lg o'::(gobjs'++own))) F' (fin g s')∧s'.gens[g]? =some gs'∧lV B m Lg YJ RJ tr o' gobjs' F' gs'
theorem ask {A:Around} {a:Addr} (hA:c3 (m+1) A) (X:Holds B.P B.G L F H ⟨loc,frO Lg o::(gobjs++own)⟩ s.heap) (hg:s.heap.IsGen a g) (hgs:s.gens[g]? =some gs) (lv:lV B m Lg YJ RJ tr o gobjs F gs):
 wpAny B.M A (pyNext (.ref a)) (B5 B m L Lg YJ RJ H loc own (L::a9 (frO Lg o::(gobjs++own))) F g s tr) (fun _ _=>False) s:=by
 obtain ⟨⟨gloc,hl,hn,wk⟩,low⟩:=lv
 have X₁:Holds B.P B.G L F H ⟨loc,frO Lg o::(gobjs++own)⟩ (s.setGen g .running).heap:=X
 have hsz:g < s.gens.size:=by by_cases q:g < s.gens.size;exact q;simp [q] at hgs
 have hrun:(s.setGen g .running).gens[g]? =some .running:=by unfold Shared.setGen;simp [hsz]
 refine oG hA.handled (B.nolimit.keeps fun b o e=>X.sub _ _ (X.core _ _ e)) (by have:=hA.depth;show A.depth < 1000;omega) hg hgs
  (wk A.in1 F (s.setGen g .running) ⟨hA.handled,by have:=hA.depth;show A.depth+m≤900;exact Nat.le_of_lt ‹_›,by have:=hA.units;show A.units+1+8*m≤9000;omega⟩ (X₁.inner low hn hl)) fun e s₁ hq z=>?_
 induction tr using List.casesOn with
 | nil=>
  obtain ⟨rfl,F',σ',Y,p,r⟩:=z
  refine ⟨rfl,fun h' hk=>?_⟩
  refine x13 (X₁.outer Y p) ?_;rintro o' _ X' p'
  have p'':=p'.fin hrun
  rw [show fin g (s.setGen g .running)=fin g s from Shared.set_set s g _ _] at p''
  exact ⟨rfl,F',σ'.objs,o',X'.grow hk,⟨fun b y hb e=>hk _ _ (p''.keep b y hb e),p''.own,p''.frz,p''.mono,p''.gens,p''.os⟩,r⟩
 | cons x tr=>
  refine x61 (z) ?_;clear z;rintro v g₀ l k c p₀ ⟨fs,F',σ',d,rfl,Y,p,y,nx⟩
  refine x13 (X₁.outer Y p) ?_;rintro o' hl' X' p'
  have p'':=p'.fin hrun
  rw [show fin g (s.setGen g .running)=fin g s from Shared.set_set s g _ _] at p''
  have h1:s₁.gens[g]? =some .running:=p'.gens.keep _ _ hrun
  have hsz₁:g < s₁.gens.size:=by by_cases q:g < s₁.gens.size;exact q;simp [q] at h1
  refine ⟨v,d,F',σ'.objs,o',(End.susp v g₀ l k c p₀ fs).genState,rfl,Y.hold (.head _),y,X',?_,by unfold Shared.setGen;simp [hsz₁],⟨⟨σ'.loc,hl',Y.names,fun A₂ F₂ s₂ hA₂ X₂=>nx A₂ F₂ s₂ hA₂ X₂⟩,low⟩⟩
  rw [show fin g (s₁.setGen g (End.susp v g₀ l k c p₀ fs).genState)=fin g s₁ from Shared.set_set s₁ g _ _]
  exact p''
end
end
section
noncomputable def lJ (g:Nat) (o:Obj):Prop:=o.cls=.type "generator"∧(∃ nm qn,o.data=.fields #[.int g 0,nm,qn])∧o.slots=#[]
theorem s7 (a:Array GenState) (x:GenState):c1 a ((a.push x).setIfInBounds a.size .finished):=by
 refine ⟨fun i y e=>?_,fun i y e=>?_⟩
 · have:i < a.size:=by by_cases q:i < a.size;exact q;simp [q] at e
   rw [Array.getElem?_setIfInBounds,if_neg (by exact Nat.ne_of_gt ‹_›),Array.getElem?_push,if_neg (by exact Nat.ne_of_lt ‹_›)];exact e
 · rw [Array.getElem?_setIfInBounds] at e
   by_cases q:a.size=i
   · subst q;simp at e;subst e;exact .inr rfl
   · rw [if_neg q,Array.getElem?_push,if_neg (fun z=>q z.symm)] at e;exact .inl e
section
variable {B:a5} {n:Nat} {L:Addr} {H:HL} {loc:LL} {objs:OL}
theorem me {F:Fz} {a:Addr} {g:Nat} {P:Params} {h:Heap} (x:Is P F (.ref a) (.obj (lJ g))) (sub:∀ b o,F b=some o→h.get? b=some o):h.IsGen a g:=
 x23 (eG x) fun _ _ q e p=>x03 p fun p1 p2 p3=>x21 p2 fun nm qn p2=>by cases q;exact ⟨_,nm,qn,sub _ _ e,p1,p2,p3⟩
theorem ry {A:Around} {F:Fz} {s:Shared} {x C dx f:Addr} {fs:FL} {name qual:Str} {params:Arguments} {body:List Stmt} {scope:Scope} {dV kV doc pm cdv ct oc:Value} {an od:Option Addr} {osl:Array (Option Value)} {pself:Str} (hA:c3 n A)
 (X : Holds B.P B.G L F H ⟨loc,objs⟩ s.heap) (mo:(x,AO.inst C dx fs)∈objs) (hi:findIn B.K (.ref C) "__iter__"=some (some (.ref f))) (hfn:isFn B.K (.ref f)=true)
 (ho : B.K.lookup f=some ⟨oc,od,.func (fnOf name qual params body scope dV kV doc pm an cdv ct),osl⟩) (hcd:codeIn B.K cdv qual=true) (hb:b8 B (fnOf name qual params body scope dV kV doc pm an cdv ct) [pself] [.ref x] [.ref x])
 (hps :scope.names.lookup pself=some .local) (hco:autoParam (scope.isCoroutine=false) bR) (hgen:autoParam (scope.isGenerator=true) bR) (hk:autoParam (scope.kind=.function) bR) (hcell:∀ x∈scope.names,x.2≠.cell:=by decide):
 wpAny B.M A (pyIter (.ref x)) (fun r s'=>∃ a g Lg o F',r=.ref a∧Holds B.P B.G L F' H ⟨loc,frO Lg o::objs⟩ s'.heap∧aJ (L::a9 objs) F s (L::a9 (frO Lg o::objs)) F' (fin g s')∧Is B.P F' (.ref a) (.obj (lJ g))∧
  s'.gens[g]? =some (.fresh (.func body (envOf qual scope Lg f cdv)))∧(∃ mm,(∀ h:Heap,h.get? Lg=some o→h.Ns Lg mm)∧∀ y d,(y,some d)∈[(pself,some (AV.ref x))]→∃ v,mm y=some v∧Is B.P F' v d)∧B.G.objs.size≤Lg) (fun _ _=>False) s:=by
 obtain ⟨h1,es,k,h2,h3⟩:=X.objs _ mo
 have I:InstAt s.heap x (instObj C dx) C (some (dictOf es k)):=⟨h1,rfl,rfl,h2⟩
 have spec:Looks B.M s.heap (specialOf (.ref x) "__iter__") (some (.ref f)):=I.type.andThen (looks_findIn X.K hi)
 have bnd:Looks B.M s.heap (bindSpecial (.ref f) (.ref x)) (.ref f,[.ref x]):=bind_fn X.K _ (beq_iff_eq.mp hfn)
 unfold pyIter
 refine wpAny_bind (spec.here ?_)
 refine wpAny_bind ?_
 simp only [callSpecialIfBoundUnlessNone?,bindSpecialIfBound?]
 refine wpAny_holding (wpAny_bind (wpAny_bind (spec.here ?_)))
 refine wpAny_bind (wpAny_askSetting (wpAny_ite ?_))
 have nn:(Value.ref f==Value.none)=false:=by rfl
 have fin_:∀ (Q:Option Value→Shared→Prop) (refuse:Sem Value),wpAny B.M A (call (.ref f) [.ref x]) (fun v=>Q (some v)) (fun _ _=>False) s→
  wpAny B.M A (if (Value.ref f==Value.none)=true then (refuse >>= fun v=>pure (some v)) else (call (.ref f) [.ref x] >>= fun v=>pure (some v))) Q (fun _ _=>False) s:=fun Q refuse w=>by
  refine nn▸(if_neg Bool.false_ne_true)▸?_
  exact wpAny_bind (wpAny_mono w (fun v s' z=>wpAny_pure z) fun _ _ z=>z)
 have main:wpAny B.M A (call (.ref f) [.ref x]) (fun v s'=>∃ a g Lg o F',v=.ref a∧Holds B.P B.G L F' H ⟨loc,frO Lg o::objs⟩ s'.heap∧aJ (L::a9 objs) F s (L::a9 (frO Lg o::objs)) F' (fin g s')∧Is B.P F' (.ref a) (.obj (lJ g))∧
  s'.gens[g]? =some (.fresh (.func body (envOf qual scope Lg f cdv)))∧(∃ mm,(∀ h:Heap,h.get? Lg=some o→h.Ns Lg mm)∧∀ y d,(y,some d)∈[(pself,some (AV.ref x))]→∃ v,mm y=some v∧Is B.P F' v d)∧B.G.objs.size≤Lg) (fun _ _=>False) s:=by
  refine x12 (hb F s [.ref x] (.cons (.ref x) .nil) X.K X.core) ?_;rintro vals hv hbind
  obtain ⟨v1,q1,rfl⟩:∃ v1,Is B.P F v1 (.ref x)∧vals=[v1]:=by obtain ⟨v1,rfl,q1⟩:=sC hv;exact ⟨_,q1,rfl⟩
  have hlim:s.heap.NoLimit:=B.nolimit.keeps fun b o e=>X.sub _ _ (X.core _ _ e)
  refine wpAny_call (codeAny_call_generator (body:=body) (by have:=hA.depth;show A.depth < 1000;omega) (X.K _ _ ho) rfl hco hgen rfl (codeRec_of X.K hcd) (hbind _ _ _ _ ?_))
  refine wpAny_newFunctionEnv hcell (fun y hy=>by rcases List.mem_singleton.mp hy with rfl;exact hps) (fun h₁ hns₁ hsb₁=>⟨hlim.fresh _ hsb₁,?_⟩) hk
  have hC:=b0 s.heap
  have up:∀ b o,s.heap.get? b=some o→h₁.get? b=some o:=fun b o e=>hsb₁.extBut b o (fun z=>by rw [z,hC] at e;contradiction) (Heap.get?_push_of_some _ e)
  refine x32 (hns₁) ?_;clear hns₁;rintro oL es' ep l1 l2
  have T:ae B L H ⟨loc,objs⟩ F s { s with heap:=h₁ } (fun F' σ'=>F'=F∧σ'=⟨loc,frO s.heap.objs.size oL::objs⟩):=
   ae.track (o:=.is (·=oL)) X up (fun b hb=>by refine (List.mem_singleton.mp hb)▸?_;exact hC) (by simp [AO.more]) ⟨oL,l1,rfl⟩ rfl rfl ⟨rfl,rfl⟩
  obtain ⟨F₁,σ₁,X₁,p₁,rfl,rfl⟩:=T
  obtain ⟨go,hgo⟩:∃ go:Obj,go={ cls:=.type "generator",data:=.fields #[.int s.gens.size 0,.str name (s.toks+([pself].zip [v1]).length),.str qual (s.toks+([pself].zip [v1]).length+1)] }:=⟨_,rfl⟩
  have pg:lJ s.gens.size go:=by subst hgo;exact ⟨rfl,⟨_,_,rfl⟩,rfl⟩
  have hga:(h₁.push go).get? h₁.objs.size=some go:=Heap.get?_push_size _ (by subst hgo;rfl)
  obtain ⟨X₂,le⟩:=X₁.frozen (h':=h₁.push go) (fun b o e=>Heap.get?_push_of_some _ e) (b0 h₁) hga
  refine ⟨h₁.objs.size,s.gens.size,s.heap.objs.size,oL,F₁.put h₁.objs.size go,rfl,?_⟩
  refine ⟨by rw [hgo] at X₂ ⊢;exact X₂,⟨fun b o hb e=>Heap.get?_push_of_some _ (p₁.keep b o hb e),p₁.own,fun b o e=>?_,p₁.mono.trans le,s7 _ _,rfl⟩,.obj (Fz.put_self ..) pg,?_,⟨_,fun h e=>⟨oL,es',ep,e,l2⟩,fun y d hy=>?_⟩,X.big⟩
  · unfold Fz.put at e
    split at e
    · rename_i z
      refine .inr (.inr ?_)
      refine z▸?_
      induction w:s.heap.get? h₁.objs.size using Option.casesOn with
      | none=>rfl
      | some o=>have:=up _ _ w;rw [b0 h₁] at this;contradiction
    · exact p₁.frz b o e
  · show (s.gens.push _)[s.gens.size]? =some _
    rw [Array.getElem?_push_size];rfl
  · rcases List.mem_singleton.mp hy with e
    cases e
    exact ⟨v1,by simp,q1.mono le⟩
 split
 · refine wpAny_bind (bnd.here (wpAny_pure (fin_ _ _ (wpAny_mono main (fun v s' z=>?_) fun _ _ z=>z))))
   refine x53 (z) ?_;clear z;rintro a g Lg o F' rfl X' r
   exact wpAny_bind (wpAny_specialOf (me r.2.1 X'.sub).typeIs slot_gen_next.lookup (wpAny_pure ⟨a,g,Lg,o,F',rfl,X',r⟩))
 · refine wpAny_tryCatch (wpAny_bind (bnd.here (wpAny_pure (fin_ _ _ (wpAny_mono main (fun v s' z=>?_) fun _ _ z=>z.elim)))))
   refine x53 (z) ?_;clear z;rintro a g Lg o F' rfl X' r
   exact wpAny_bind (wpAny_specialOf (me r.2.1 X'.sub).typeIs slot_gen_next.lookup (wpAny_pure ⟨a,g,Lg,o,F',rfl,X',r⟩))
end
end
section
section
variable {γ:Type} {B:a5} {m n:Nat} {L:Addr} {YJ:γ→AV→OL→Prop} {RJ:OL→Prop} {tr:List γ} {H:HL} {env:Env} {own:OL} {fi:γ→AV}
end
end
section
section
variable {γ:Type} {B:a5} {m n:Nat} {L:Addr} {YJ:γ→AV→OL→Prop} {RJ:OL→Prop} {tr:List γ} {H:HL} {env:Env} {σ:St}
noncomputable def eH (B:a5) (n m:Nat) (x:Addr) (gobjs:OL) (YJ:γ→AV→OL→Prop) (RJ:OL→Prop) (tr:List γ):Prop:=
 ∀ A F s L H loc own,c3 n A→Holds B.P B.G L F H ⟨loc,gobjs++own⟩ s.heap→wpAny B.M A (pyIter (.ref x)) (fun r s'=>∃ a g Lg o F' gs,r=.ref a∧Holds B.P B.G L F' H ⟨loc,frO Lg o::(gobjs++own)⟩ s'.heap∧
  aJ (L::a9 (gobjs++own)) F s (L::a9 (frO Lg o::(gobjs++own))) F' (fin g s')∧Is B.P F' (.ref a) (.obj (lJ g))∧s'.gens[g]? =some gs∧lV B m Lg YJ RJ tr o gobjs F' gs) (fun _ _=>False) s
theorem eH.of {x C dx f:Addr} {fs:FL} {gobjs:OL} {name qual:Str} {params:Arguments} {body body':List Stmt} {scope scope':Scope} {dV kV doc pm cdv ct oc:Value} {an od:Option Addr} {osl:Array (Option Value)} {pself:Str}
 (ho:B.K.lookup f=some ⟨oc,od,.func (fnOf name qual params body scope dV kV doc pm an cdv ct),osl⟩) (mo:(x,AO.inst C dx fs)∈gobjs) (hi:findIn B.K (.ref C) "__iter__"=some (some (.ref f))) (hfn:isFn B.K (.ref f)=true)
 (hcd:codeIn B.K cdv qual=true) (hb:b8 B (fnOf name qual params body scope dV kV doc pm an cdv ct) [pself] [.ref x] [.ref x])
 (hw:∀ Lg,GW B m Lg YJ RJ (.func body' (envOf qual scope' Lg f cdv)) [] (B.M.den (.func body' (envOf qual scope' Lg f cdv))) tr ⟨[(pself,some (.ref x))],gobjs⟩)
 (eb:body=body':=by (conv=>lhs;whnf)) (es:scope=scope':=by (conv=>lhs;whnf))
 (hps:autoParam (scope'.names.lookup pself=some .local) bR) (hco:autoParam (scope'.isCoroutine=false) bR) (hgen:autoParam (scope'.isGenerator=true) bR) (hk:autoParam (scope'.kind=.function) bR) (hcell:∀ x∈scope'.names,x.2≠.cell:=by decide):eH B n m x gobjs YJ RJ tr:=fun A F s L H loc own hA X=>by
 subst eb es
 refine wpAny_mono (ry hA X (List.mem_append_left _ mo) hi hfn ho hcd hb hps hco hgen hk hcell) (fun r s' z=>?_) fun _ _ z=>z
 refine x54 (z) ?_;clear z;rintro a g Lg o F' rfl X' p ⟨ga,hg,hl,low⟩
 exact ⟨a,g,Lg,o,F',_,rfl,X',p,ga,hg,⟨⟨_,hl,by simp,fun A₂ F₂ s₂ hA₂ X₂=>(hw Lg).run A₂ F₂ s₂ hA₂ X₂⟩,low⟩⟩
end
end
section
noncomputable def ia (ns:List Int) (o:Obj):Prop:=o.cls=.type "list"∧∃ vs n,o.data=.seq vs.toArray n∧IntsAre vs ns
theorem rB {P:Params} {F:Fz} {vs:List Value} {ns:List Int} (h:IntsAre vs ns):IsAll P F vs (ns.map .int):=by
 induction h with
 | nil=>exact .nil
 | cons n t _ ih=>exact .cons (.int n t) ih
section
variable {B:a5} {n:Nat} {L:Addr} {H:HL} {σ:St} {env:Env}
theorem kE {value hi:Expr} {p pos} {Φ:PV}
 (h:WV B n L (eval value env) H σ fun o d σ₁=>WV B n L (eval hi env) ((o,d)::H) σ₁ fun _ du σ₂=>∃ ns j,d=.obj (ia ns)∧du=.int j∧0≤j∧ns.length≤16777216∧∀ v,Φ v (.lst ((ns.take j.toNat).map .int)) σ₂)
 (hs:∀ o i,∃ ops,subscripted (.Slice none (some hi) none p) false o i=operate ops (getItem o i):=by intro _ _;exact ⟨_,rfl⟩) (ht:∀ l r,letTemporaryGo value (.ref l) r=pure ():=by intro _ _;with_unfolding_all rfl):
 WV B n L (eval (.Subscript value (.Slice none (some hi) none p) pos) env) H σ Φ:=fL fun A F s Q hA X fq=>by
 rw [eval_Subscript]
 refine wpAny_bind (h.then hA X fun o s₁ F₁ σ₁ x₁ p₁ z=>x12 z fun d hd w₁=>?_)
 refine wpAny_bind (wpAny_holding (wpAny_Slice (wpAny_pure (w₁.then hA (x₁.push hd) fun u s₃ F₃ σ₃ x₃ p₃ z=>?_))))
 refine x12 z ?_;clear z;rintro du hdu z;refine x25 z ?_;clear z;rintro ns j rfl rfl hj hz q
 refine wpAny_pure (wpAny_bind (wpAny_standAt ?_))
 obtain ⟨tj,rfl⟩:=ah hdu
 obtain ⟨l,o',rfl,e1,e2,vs,m,e3,e4⟩:∃ l o',o=.ref l∧F₃ l=some o'∧o'.cls=.type "list"∧∃ vs n,o'.data=.seq vs.toArray n∧IntsAre vs ns:=by
  exact eG (x₃.hold (.head _))
 have hl:s₃.heap.IsList l vs.toArray:=⟨o',x₃.sub _ _ e1,e2,m,e3⟩
 obtain ⟨ops,hs⟩:=hs (.ref l) (.ref s₃.heap.objs.size)
 refine subscriptTail_ops (Heap.IsList.typeIs (s:={ s₃ with heap:=s₃.heap.push { cls:=.type "slice",data:=.fields #[.none,.int j tj,.none] } }) (hl.push _)) list_getitem_lookup
  (wpAny_getItem_list_slice (lo:=none) (hi:=some j) (st:=none) (hl.push _) (Heap.IsSliceOf.new ..) .none (.int j tj) .none (by simp) ?_ (by rw [az,List.size_toArray,e4.length];exact hz)) hs (ht l)
 have i4:=slice_ints_uptoW e4 hj
 have e:({ cls:=.type "list",data:=.seq (slicePick vs.toArray none (some j) none) }:Obj)=aA (slicePick vs.toArray none (some j) none).toList 0:=by simp [aA]
 rw [e]
 have x₃':=x₃.weaken (H':=H) fun p hp=>.tail _ hp
 have hn:s₃.heap.get? (s₃.heap.push { cls:=.type "slice",data:=.fields #[.none,.int j tj,.none] }).objs.size=none:=by
  induction w:s₃.heap.get? (s₃.heap.push { cls:=.type "slice",data:=.fields #[.none,.int j tj,.none] }).objs.size using Option.casesOn with
  | none=>rfl
  | some y=>have:=Heap.lt_size w;rw [Heap.size_push] at this;exact absurd this (Nat.not_lt.mpr (Nat.le_succ _))
 obtain ⟨F₄,σ₄,x₄,p₄,hF,rfl⟩:=ae.fresh (B:=B) (L:=L) (H:=H) (σ:=σ₃) (F:=F₃) (s:=s₃) (s':={ s₃ with heap:=(s₃.heap.push { cls:=.type "slice",data:=.fields #[.none,.int j tj,.none] }).push (aA (slicePick vs.toArray none (some j) none).toList 0) })
  (Ψ:=fun F' σ'=>F'=F₃.put (s₃.heap.push { cls:=.type "slice",data:=.fields #[.none,.int j tj,.none] }).objs.size (aA (slicePick vs.toArray none (some j) none).toList 0)∧σ'=σ₃) x₃' (fun b o e=>Heap.get?_push_of_some _ (Heap.get?_push_of_some _ e)) hn (Heap.get?_push_size _ rfl) rfl rfl fun le=>⟨rfl,rfl⟩
 subst hF
 exact fq _ _ ⟨_,σ₄,x₄,p₁.trans (p₃.trans p₄),_,.lst (Fz.put_self ..) (rB i4),q _⟩
end
end
section
theorem vg {prog:Program} {w:World} {K:Frag} {s₁:Shared} {mg mb:Str→Option Value} {x:Str} {fa fl l:Addr} {vs:List Value} {ns:List Int} {n:Nat} {Q:Result→Shared→Prop}
 (KX :K.In s₁.heap) (hmg:mg x=some (.ref fa)) (g:s₁.heap.Ns mainGlobals mg) (b:s₁.heap.Ns builtinsNs mb) (hb:∀ x,x≠("__name__":Str)→mb x=bootBuiltins x) (nl:s₁.heap.NoLimit) (e:nsIn K mainGlobals x=some (some (.ref fl)))
 (hL :s₁.heap.IsList l vs.toArray) (hI:IntsAre vs ns) (hg:s₁.gens=#[]) (hn:n≤500)
 (c :∀ B:a5,B.prog=prog→B.w=w→B.K=K→a4 B n fl [.obj (ia ns)] [] fun d _=>d=.bool true)
 (hQ :∀ s',(∀ b o,s₁.heap.get? b=some o→s'.heap.get? b=some o)→s'.os=s₁.os→AllBare s'.gens→Q (.ok (.ret (.bool true))) s'):
 codeAny (model prog w) callerA (.call (.ref fa) ⟨[.ref l],[]⟩) Q s₁:=by
 have ef:=mg_of KX g e
 obtain rfl:=Value.ref.inj (Option.some.inj (hmg.symm.trans ef))
 let B:a5:=⟨prog,w,s₁.heap,K,KX,⟨mg,g⟩,⟨mb,b,hb⟩,nl⟩
 refine x13 (hL) ?_;clear hL;rintro o ho hc ⟨m,hd⟩
 have hA:c3 n callerA:=by
  refine ⟨rfl,?_,?_⟩
  · have:callerA.depth=301:=by decide+kernel
    rw [this];omega
  · show 4+8*n≤9000;omega
 refine codeAny_mono (c B rfl rfl rfl callerA (s₁.heap.get? ·) s₁ [.ref l] hA ⟨fun _ _ e=>e,fun _ _ e=>e,(fun p hp=>nomatch hp),List.nodup_nil,(fun b hb=>nomatch hb),Nat.le_refl _⟩ (.cons (.obj ho ⟨hc,vs,m,hd,hI⟩) .nil)) fun r s' z=>?_
 obtain ⟨v,d,objs',F',rfl,hv,x,p,rfl⟩:=z
 have:v=.bool true:=by cases hv;rfl
 subst this
 refine hQ s' (fun b o e=>p.keep b o (fun h=>nomatch h) e) p.os fun y hy=>?_
 obtain ⟨i,hi,e⟩:=Array.getElem_of_mem hy
 rcases p.gens.bare i y (by rw [Array.getElem?_eq_getElem hi,e]) with z | z
 · rw [hg] at z;simp at z
 · exact z
end
section
section
variable {B:a5} {n:Nat} {L:Addr} {H:HL} {σ:St} {env:Env}
end
end
section
variable {A:Around} {s:Shared} {l b:Addr}
noncomputable def EqH (prog:Program) (w:World) (A:Around) (s:Shared) (v y:Value):Prop:=∀ (E:Value→Shared→Prop) (Q:Bool→Shared→Prop),Q true s→wpAny (model prog w) A (eqBool v y) Q E s
section
variable {prog:Program} {w:World}
theorem EqH.of {v y:Value} (h:SeqAt.EqAt A s v y true):EqH prog w A s v y:=fun E Q q=>h prog w E Q q
theorem EqH.refs (h:∀ (E:Value→Shared→Prop) (Q:Value→Shared→Prop),Q (.bool true) s→wpAny (model prog w) A (richCompare .Eq (.ref l) (.ref b)) Q E s):EqH prog w A s (.ref l) (.ref b):=fun E Q q=>by
 by_cases e:l=b
 · subst e;exact SeqAt.EqAt.same _ prog w E Q q
 · unfold eqBool
   refine wpAny_holding ?_
   refine wpAny_ite_split (fun hab=>absurd (by have:=eq_of_beq hab;injection this) e) (fun _=>?_)
   exact wpAny_bind (h E _ (wpAny_truthy_bool q))
theorem tF {items items2:Array Value} {n n2:Nat} {dd dd2:Option Addr} {sl sl2:Array (Option Value)} (hsz:items.size=items2.size) (k:Nat):
 ∀ i:Nat,items.size - i=k→∀ (A:Around) (R:Result→Shared→Prop) (s:Shared),s.heap.get? l=some { cls:=.type "list",dict:=dd,data:=.seq items n,slots:=sl }→s.heap.get? b=some { cls:=.type "list",dict:=dd2,data:=.seq items2 n2,slots:=sl2 }→
  (∀ j (h1:j < items.size) (h2:j < items2.size),EqH prog w A.in1 s items[j] items2[j])→R (.ok (.ret (.bool true))) s→
  wpAny (model prog w) A.in1 (Builtin.«list.__eq__.loop» ⟨[.ref l,.ref b,rawInt i,rawInt 2],[]⟩) (fun fin s'=>match fin with | .done f=>R (.ok f) s' | .again c'=>c'.quiet=true∧codeAny (model prog w) A c' R s') (fun e s'=>R (.error e) s') s:=by
 induction k with
 | zero=>
  intro i hk A R s hl hb he h
  obtain ⟨hp,g,d,tk,os⟩:=s
  wp_walk using AutoSeq1.wpAny_loadPart' hl,AutoSeq1.wpAny_loadPart' hb
  have hi1:items[((i:Nat):Int).toNat]? =none:=by simp;omega
  have hi2:items2[((i:Nat):Int).toNat]? =none:=by simp;omega
  rw [hi1,hi2]
  wp_walk using AutoSeq1.wpAny_loadPart' hl,AutoSeq1.wpAny_loadPart' hb
  show R (.ok (.ret (.bool (items.size==items2.size)))) _
  rw [hsz]
  simpa using h
 | succ k ih=>
  intro i hk A R s hl hb he h
  obtain ⟨hp,g,d,tk,os⟩:=s
  wp_walk using AutoSeq1.wpAny_loadPart' hl,AutoSeq1.wpAny_loadPart' hb
  have hlt:i < items.size:=by omega
  have hlt2:i < items2.size:=by omega
  have hi1:items[((i:Nat):Int).toNat]? =some items[i]:=by simp [hlt]
  have hi2:items2[((i:Nat):Int).toNat]? =some items2[i]:=by simp [hlt2]
  have hc:((i:Int)+1)=((i+1:Nat):Int):=by push_cast;rfl
  rw [hi1,hi2]
  refine wpAny_bind (he i hlt hlt2 _ _ ?_)
  wp_walk
  rw [hc]
  exact ⟨plainId_quiet MeetsSeq3.plain_eq_loop _,codeAny_builtin MeetsSeq3.entry_eq_loop (by
   rw [Around.under_plainId MeetsSeq3.plain_eq_loop _]
   exact ih (i+1) (by omega) A R _ hl hb he h)⟩
theorem jZ {E:Value→Shared→Prop} {items items2:Array Value} {Q:Value→Shared→Prop} (hl:s.heap.IsList l items) (hb:s.heap.IsList b items2) (hsz:items.size=items2.size) (hu:A.units < cLine)
 (he:∀ j (h1:j < items.size) (h2:j < items2.size),EqH prog w A.in1 s items[j] items2[j]) (h:Q (.bool true) s):wpAny (model prog w) A (richCompare .Eq (.ref l) (.ref b)) Q E s:=by
 refine x13 (id hl) ?_;rintro ⟨cls,dd,data,sl⟩ ho hc ⟨n,hd⟩
 refine x13 (id hb) ?_;rintro ⟨cls2,dd2,data2,sl2⟩ ho2 hc2 ⟨n2,hd2⟩
 simp only at hc hd hc2 hd2
 subst hc hd hc2 hd2
 have f3:=AutoSeq1.sub_list_list
 have hne:¬ (items.size !=items2.size)=true:=by simp [hsz]
 have hT:s.TypeIs (.ref l) "list":=⟨_,ho,rfl⟩
 refine wpAny_richCompare_same_room (op:=.Eq) hT ⟨_,ho2,rfl⟩ F.slot_list_eq (wpAny_call (codeAny_call_builtin F.slot_list_eq.plain F.entry_list_eq (F.slot_list_eq.check _ _ _ _ _ _ _ _ hT (F.args_list_eq_2 _ _) ?_))) hu
 obtain ⟨hp,g,d,tk,os⟩:=s
 wp_walk using AutoSeq1.wpAny_loadPart' ho,AutoSeq1.wpAny_loadPart' ho2
 exact ⟨plainId_quiet MeetsSeq3.plain_eq_loop _,codeAny_builtin MeetsSeq3.entry_eq_loop (by
  rw [Around.under_plainId MeetsSeq3.plain_eq_loop _]
  exact tF hsz _ 0 rfl A (wants (fun v s'=>v≠.notImplemented∧Q v s') E) _ ho ho2 he ⟨(fun x=>nomatch x),h⟩)⟩
end
end
section
noncomputable def vK:AV→Bool
 | .none=>true | .bool _=>true | .int _=>true | .str _=>true | _=>false
theorem uG {P:Params} {F:Fz} {A:Around} {s:Shared} {v y:Value} {d:AV} (h:Is P F v d) (k:Is P F y d) (f:vK d=true):SeqAt.EqAt A s v y true:=by
 induction d using AV.casesOn with
 | none=>exact (cm h).symm▸(cm k).symm▸SeqAt.EqAt.same _
 | bool b=>exact (fT h).symm▸(fT k).symm▸SeqAt.EqAt.same _
 | int i=>
  obtain ⟨t,rfl⟩:=ah h;obtain ⟨u,rfl⟩:=ah k
  exact beq_self_eq_true i▸SeqAt.EqAt.int_int (A:=A) (s:=s) i t i u
 | str l=>
  obtain ⟨t,rfl⟩:=ak h;obtain ⟨u,rfl⟩:=ak k
  exact beq_self_eq_true (S l)▸SeqAt.EqAt.str_str (A:=A) (s:=s) (S l) t (S l) u
 | _=>exact Bool.noConfusion f
theorem m7 {l:FL} (nd:(l.map (·.1)).Nodup) {p:Str×AV} (hp:p∈l):bB p.1 l=some p.2:=by
 induction l with
 | nil=>contradiction
 | cons q r ih=>
  rw [List.map_cons,List.nodup_cons] at nd
  unfold bB
  rw [List.find?_cons]
  rcases mC0 hp with rfl | hp
  · simp
  · have:(q.1==p.1)=false:=beq_eq_false_iff_ne.mpr fun e=>nd.1 (e▸List.mem_map_of_mem hp)
    exact (this)▸(ih nd.2 hp)
section
variable {prog:Program} {w:World} {F:Fz} {A:Around} {s:Shared}
end
section
variable {B:a5} {n:Nat} {L:Addr} {H:HL} {σ:St} {env:Env}
end
end
section
section
variable {γ:Type} {B:a5} {m n:Nat} {L:Addr} {H:HL} {env:Env} {σ:St}
theorem rW {a b:Value} {i j k l:Int} {Φ:PV} (ma:(a,.tup [.int i,.int j])∈H) (mb:(b,.tup [.int k,.int l])∈H) (h:∀ v,Φ v (.bool (i==k&&j==l)) σ):WV B n L (compareOp .Eq a b) H σ Φ:=
 qo ma mb rfl rfl (by simp [SeqAt.shaped,PyData.canLay0,PyData.canLayAll0,PyData.depth,PyData.depthAll]) (by simp [SeqAt.shaped,PyData.canLay0,PyData.canLayAll0,PyData.depth,PyData.depthAll]) (by simp [PyData.eqv,PyData.eqvAll]) h
end
end
section
section
variable {prog:Program} {w:World}
theorem nD {A:Around} {E:Value→Shared→Prop} {s:Shared} {l b:Addr} {items items2:Array Value} {Q:Value→Shared→Prop} (hl:s.heap.IsTuple l items) (hb:s.heap.IsTuple b items2) (hsz:items.size=items2.size) (hu:A.units < cLine)
 (he :∀ j (h1:j < items.size) (h2:j < items2.size),EqH prog w A.in1 s items[j] items2[j]) (h:Q (.bool true) s):wpAny (model prog w) A (richCompare .Eq (.ref l) (.ref b)) Q E s:=by
 refine x13 (id hl) ?_;rintro ⟨cls,dd,data,sl⟩ ho hc ⟨n,hd⟩
 refine x13 (id hb) ?_;rintro ⟨cls2,dd2,data2,sl2⟩ ho2 hc2 ⟨n2,hd2⟩
 simp only at hc hd hc2 hd2
 subst hc hd hc2 hd2
 have f2:=AutoSeq1.sub_tuple_tuple
 have hT:s.TypeIs (.ref l) "tuple":=⟨_,ho,rfl⟩
 refine wpAny_richCompare_same_room (op:=.Eq) hT ⟨_,ho2,rfl⟩ F.slot_tuple_eq (wpAny_call (codeAny_call_builtin F.slot_tuple_eq.plain F.entry_tuple_eq (F.slot_tuple_eq.check _ _ _ _ _ _ _ _ hT (F.args_tuple_eq_2 _ _) ?_))) hu
 obtain ⟨hp,g,d,tk,os⟩:=s
 have hZ:(items.toList.zip items2.toList).length=min items.size items2.size:=by simp
 have main:wpAny (model prog w) A.in1 (Builtin.«tuple.__eq__» ⟨[.ref l,.ref b],[]⟩) (fun fin s'=>∃ v,fin=.done (.ret v)∧(v≠.notImplemented∧Q v s')) (fun e s'=>E e s') ⟨hp,g,d,tk,os⟩:=by
  wp_walk using AutoSeq1.wpAny_loadPart' ho,AutoSeq1.wpAny_loadPart' ho2,wpAny_forIn_list _ (fun rest b s'=>b.1=none∧s'=⟨hp,g,d,tk,os⟩∧∃ i,rest=(items.toList.zip items2.toList).drop i) _
  case turn=>
   rintro ⟨y,x⟩ rest b s' ⟨hb',rfl,i,hz⟩
   have hlt:i < (items.toList.zip items2.toList).length:=by
    rcases Nat.lt_or_ge i (items.toList.zip items2.toList).length with h' | h'
    · exact h'
    · rw [List.drop_of_length_le h'] at hz;contradiction
   have hm:i < min items.size items2.size:=hZ▸hlt
   have h1:i < items.size:=nL0 hm (Nat.min_le_left _ _)
   have h2:i < items2.size:=nL0 hm (Nat.min_le_right _ _)
   rw [List.drop_eq_getElem_cons hlt] at hz
   injection hz with hyx hrest
   have hy:y=items[i]:=by have:=congrArg Prod.fst hyx;simpa using this
   have hx:x=items2[i]:=by have:=congrArg Prod.snd hyx;simpa using this
   subst hy hx
   refine wpAny_bind (he i h1 h2 _ _ ?_)
   wp_walk
   exact ⟨rfl,rfl,i+1,hrest⟩
  case fin=>
   rintro ⟨b1,b2⟩ s' ⟨hb',rfl,i,hz⟩
   simp only at hb'
   subst hb'
   wp_walk
   refine ⟨_,rfl,?_⟩
   have:Builtin.Tuple.tupleCompareSizes .Eq items.size items2.size=.bool true:=by rw [hsz];simp [Builtin.Tuple.tupleCompareSizes]
   first
    | (exact (this)▸(⟨(fun x=>nomatch x),h⟩))
    | (simp only [hsz,Builtin.Tuple.tupleCompareSizes,beq_self_eq_true];exact ⟨(fun x=>nomatch x),h⟩)
  case h=>
   exact ⟨rfl,rfl,0,rfl⟩
 refine wpAny_mono main (fun fin s' z=>?_) fun _ _ z=>z
 refine x12 (z) ?_;clear z;rintro v rfl q
 exact q
end
end
section
section
variable {prog:Program} {w:World} {A:Around} {E:Value→Shared→Prop} {s:Shared}
inductive dX (prog:Program) (w:World) (A:Around) (s:Shared) (kb:List (Str×Value)):List (Str×Value)→Prop
 | nil:dX prog w A s kb []
 | cons {k:Str} {v y:Value} {r:List (Str×Value)}:valueAt kb k=some y→EqH prog w A s v y→dX prog w A s kb r→dX prog w A s kb ((k,v)::r)
theorem lR {nm:String} {a b:Addr} {ka kb:List (Str×Value)} {Q:Bool→Shared→Prop} (ha:(a==sysModules)=false) (hb:(b==sysModules)=false)
 (da :s.heap.DictOf (strKind prog w) a ka) (db:s.heap.DictOf (strKind prog w) b kb) (hlen:ka.length=kb.length) (hits:dX prog w A s kb ka) (h:Q true s):
 wpAny (model prog w) A (Builtin.Dict.samePairs nm a b) Q E s:=by
 refine x36 (da) ?_;clear da;rintro oa es ep hoa _ hda hka hpa _
 refine x36 (db) ?_;clear db;rintro ob es' ep' hob _ hdb hkb hpb _
 have hla:ka.length=es.size:=by rw [←hpa.length];exact Array.length_toList
 have hlb:kb.length=es'.size:=by rw [←hpb.length];exact Array.length_toList
 have hsz:es.size=es'.size:=by omega
 have hfind:∀ k,findBy (strKind prog w).is es' k=valueAt kb k:=fun k=>by
  rw [←hpb.find k]
  clear hlb hpb hkb hdb hob hsz
  obtain ⟨l⟩:=es'
  simp [findBy]
 unfold Builtin.Dict.samePairs Builtin.Dict.showsAll
 rw [if_neg (show ¬ (a==sysModules)=true by rw [ha];exact Bool.false_ne_true),if_neg (show ¬ (b==sysModules)=true by rw [hb];exact Bool.false_ne_true)]
 refine wpAny_bind (wpAny_pure (wpAny_bind (wpAny_pure ?_)))
 refine wpAny_bind (wpAny_dictEntries hoa hda ?_)
 dsimp only
 refine wpAny_bind (wpAny_dictEntries hob hdb ?_)
 rw [if_neg (by rw [hsz];simp)]
 refine wpAny_bind (wpAny_dictEpoch hoa hda ?_)
 refine wpAny_bind ?_
 rw [Std.Legacy.Range.forIn_eq_forIn_range']
 simp only [Std.Legacy.Range.size,Nat.sub_zero,Nat.add_sub_cancel,Nat.div_one]
 refine wpAny_forIn_list _ (fun rest q s'=>s'=s∧q=(none,())∧∃ i,rest=List.range' i (es.size - i)∧i≤es.size∧dX prog w A s kb (ka.drop i)) _ ?_ ?_ _ _ ⟨rfl,rfl,0,by rfl,Nat.zero_le _,hits⟩
 · intro x rest q s' z9;refine x03 z9 ?_;clear z9;rintro rfl rfl ⟨i,hr,hi,hpre⟩
   have hlt:i < es.size:=by
    rcases Nat.lt_or_ge i es.size with h | h
    · exact h
    · rw [Nat.sub_eq_zero_of_le h] at hr;simp at hr
   obtain ⟨rfl,hrest⟩:x=i∧rest=List.range' (i+1) (es.size - (i+1)):=by
    have e:es.size - i=(es.size - (i+1))+1:=by omega
    rw [e,List.range'_succ] at hr
    injection hr with h1 h2
    exact ⟨h1,h2⟩
   refine wpAny_bind (wpAny_dictEntries hoa hda ?_)
   rw [Array.getElem?_eq_getElem hlt]
   have hlt':x < ka.length:=by rw [hla];exact hlt
   refine x21 (show ∃ k v,ka[x]=(k,v) from ⟨_,_,rfl⟩) ?_;rintro k v hkv
   have hdrop:ka.drop x=(k,v)::ka.drop (x+1):=by rw [←hkv];exact List.drop_eq_getElem_cons hlt'
   obtain ⟨hkey,hval⟩:=hpa.get? (i:=x) (e:=es[x]) (k:=k) (v:=v) (by rw [Array.getElem?_toList];exact Array.getElem?_eq_getElem hlt) (by rw [List.getElem?_eq_getElem hlt',hkv])
   refine x12 (hka es[x] (Array.getElem_mem hlt)) ?_;rintro k' hk' hh
   have ekk:k'=k:=(strKind prog w).inj _ _ _ hk' hkey
   rw [ekk] at hh
   rw [hdrop] at hpre
   show wpAny _ _ (holding [es[x].key,es[x].val] _ >>= _) _ _ _
   rw [hh]
   refine wpAny_bind (wpAny_holding (wpAny_bind (wpAny_dictFind_of hkey hob hdb hkb ?_)))
   cases hpre with
   | @cons _ _ y _ hy he hrr=>
   induction hj:es'.findIdx? fun e=>(strKind prog w).is k e.key using Option.casesOn with
   | none=>
    have hn:valueAt kb k=none:=by rw [←hfind k,findBy_of_findIdx?,hj]
    rw [hn] at hy;exact nomatch hy
   | some j=>
    refine x12 (Array.findIdx?_eq_some_iff_getElem.mp hj) ?_;rintro hjlt _ _
    have hv':valueAt kb k=some es'[j].val:=by
     rw [←hfind k,findBy_of_findIdx?,hj]
     simp [Array.getElem?_eq_getElem hjlt]
    refine wpAny_bind (wpAny_dictEntries hob hdb ?_)
    rw [Array.getElem?_eq_getElem hjlt]
    have ey:es'[j].val=y:=Option.some.inj (hv'.symm.trans hy)
    rw [←ey,←hval] at he
    refine wpAny_holding (he _ _ ?_)
    show wpAny _ _ (if (!true)=true then _ else _) _ _ _
    rw [if_neg (by decide)]
    refine wpAny_bind (wpAny_dictEpoch hoa hda ?_)
    rw [if_neg (by simp)]
    exact wpAny_pure ⟨rfl,rfl,x+1,hrest,hlt,hrr⟩
 · intro q s' z9;refine x03 z9 ?_;clear z9;rintro rfl rfl ⟨i,hr,hi,hpre⟩
   refine wpAny_pure ?_
   exact h
theorem pZ {a b:Addr} {ka kb:List (Str×Value)} {Q:Value→Shared→Prop} (ha:(a==sysModules)=false) (hb:(b==sysModules)=false)
 (da:s.heap.DictOf (strKind prog w) a ka) (db:s.heap.DictOf (strKind prog w) b kb) (hu:A.units < cLine) (hlen:ka.length=kb.length) (hits:dX prog w A.in1 s kb ka) (h:Q (.bool true) s):
 wpAny (model prog w) A (richCompare .Eq (.ref a) (.ref b)) Q E s:=by
 refine wpAny_richCompare_same_room (op:=.Eq) da.typeIs db.typeIs PySem.F.slot_dict_eq (wpAny_call_entry PySem.F.slot_dict_eq da.typeIs PySem.F.entry_dict_eq ?_ (PySem.F.args_dict_eq_2 _ _)) hu
 refine wpAny_bind ?_
 unfold Builtin.Dict.dictSlotArgs
 refine wpAny_bind (wpAny_notOrdered_dict da.typeIs ?_)
 refine wpAny_pure ?_
 refine wpAny_bind (wpAny_isInstance (T:="dict") db.typeIs PySem.F.sub_dict_dict ?_)
 simp only [Bool.not_true,Bool.false_eq_true,if_false]
 refine wpAny_bind (wpAny_pure (wpAny_bind (wpAny_pure ?_)))
 refine wpAny_bind (lR ha hb da db hlen hits ?_)
 refine wpAny_pure ⟨_,rfl,?_,?_⟩
 · exact fun x=>nomatch x
 · simpa using h
end
inductive d7:Nat→AV→Prop
 | none {n}:d7 n .none
 | bool {n b}:d7 n (.bool b)
 | int {n i}:d7 n (.int i)
 | str {n l}:d7 n (.str l)
 | tup {n l}:(∀ d∈l,d7 n d)→d7 (n+1) (.tup l)
 | lst {n l}:(∀ d∈l,d7 n d)→d7 (n+1) (.lst l)
 | dct {n l}:(∀ p∈l,d7 n p.2)→d7 (n+1) (.dct l)
section
variable {prog:Program} {w:World} {F:Fz} {s:Shared}
theorem IsAll.get {P:Params} {vs:List Value} {l:List AV} (h:IsAll P F vs l) {j:Nat} (hj:j < l.length) (h1:j < vs.length):Is P F vs[j] l[j]:=by
 refine x12 (fG.nth h (k:=j) (d:=l[j]) (by simp [hj])) ?_;rintro v e q
 have:vs[j]=v:=by rw [List.getElem?_eq_getElem h1] at e;exact Option.some.inj e
 exact (this)▸(q)
theorem sJ (sub:∀ b o,F b=some o→s.heap.get? b=some o):∀ (n:Nat) {d:AV},d7 n d→∀ {A:Around} {v y:Value},Is w.params F v d→Is w.params F y d→A.units+2*n < cLine→EqH prog w A s v y:=by
 have leaf :∀ {d:AV} {A:Around} {v y:Value},vK d=true→Is w.params F v d→Is w.params F y d→EqH prog w A s v y:=fun f h k=>EqH.of (uG h k f)
 intro n
 induction n with
 | zero =>
  intro d hf A v y h k hu
  cases hf with
  | none => exact leaf rfl h k
  | bool => exact leaf rfl h k
  | int => exact leaf rfl h k
  | str => exact leaf rfl h k
 | succ n ih=>
  intro d hf A v y h k hu
  cases hf with
  | none => exact leaf rfl h k
  | bool => exact leaf rfl h k
  | int => exact leaf rfl h k
  | str => exact leaf rfl h k
  | @tup _ l f=>
   refine x33 (cx h) ?_;rintro a vs m rfl h1 h2
   refine x33 (cx k) ?_;rintro b us m' rfl k1 k2
   have e1 :=h2.length
   have e2 :=k2.length
   refine EqH.refs fun E Q q=>nD (items:=vs.toArray) (items2:=us.toArray) ⟨_,sub _ _ h1,rfl,m,rfl⟩ ⟨_,sub _ _ k1,rfl,m',rfl⟩ (by simp;omega) (by omega) (fun j j1 j2=>?_) q
   have hj :j < l.length:=by simp at j1;omega
   have g1 :=h2.get hj (by simpa using j1)
   have g2 :=k2.get hj (by simpa using j2)
   simp only [List.getElem_toArray]
   exact ih (f _ (List.getElem_mem hj)) g1 g2 (by show A.units+1+2*n < cLine;omega)
  | @lst _ l f=>
   refine x33 (bd h) ?_;rintro a vs m rfl h1 h2
   refine x33 (bd k) ?_;rintro b us m' rfl k1 k2
   have e1 :=h2.length
   have e2 :=k2.length
   refine EqH.refs fun E Q q=>jZ (items:=vs.toArray) (items2:=us.toArray) ⟨_,sub _ _ h1,rfl,m,rfl⟩ ⟨_,sub _ _ k1,rfl,m',rfl⟩ (by simp;omega) (by omega) (fun j j1 j2=>?_) q
   have hj :j < l.length:=by simp at j1;omega
   have g1 :=h2.get hj (by simpa using j1)
   have g2 :=k2.get hj (by simpa using j2)
   simp only [List.getElem_toArray]
   exact ih (f _ (List.getElem_mem hj)) g1 g2 (by show A.units+1+2*n < cLine;omega)
  | @dct _ l f=>
   cases h with
   | dct h1 h2 h3 h4=>
    cases k with
    | dct k1 k2 k3 k4=>
     rename_i a es m b es' m'
     refine EqH.refs fun E Q q=>pZ (prog:=prog) (w:=w) h4 k4 (cR h2 h3 (sub _ _ h1)) (cR k2 h3 (sub _ _ k1)) (by omega) ?_ ?_ q
     · have e1:=congrArg List.length (cT h2)
       have e2:=congrArg List.length (cT k2)
       simp only [List.length_map] at e1 e2
       omega
     · have go:∀ {es:List DictEntry} {l':FL},IsEnts w.params F es l'→(∀ p∈l',p∈l)→dX prog w A.in1 s (dS es' l) (dS es l'):=by
        intro es l' hh
        induction es generalizing l' with
        | nil=>intro _;cases hh;exact .nil
        | cons e es ihh=>
         cases hh with
         | @cons x t v d _ l'' hv r=>
          intro sb
          refine x12 (fE k2 (m7 h3 (sb (x,d) (.head _)))) ?_;rintro y e1 e2
          exact dX.cons (k:=x) e1 (ih (f _ (sb (x,d) (.head _))) hv e2 (by show A.units+1+2*n < cLine;omega)) (ihh r fun p hp=>sb p (.tail _ hp))
       exact go h2 fun p hp=>hp
end
section
variable {B:a5} {n:Nat} {L:Addr} {H:HL} {σ:St} {env:Env}
theorem rM {a b:Value} {x y:Addr} {l:List AV} {Φ:PV} (ma:(a,.ref x)∈H) (mb:(b,.ref y)∈H) (mx:(x,AO.list l)∈σ.objs) (my:(y,AO.list l)∈σ.objs) (f:∀ d∈l,d7 50 d)
 (h:∀ v,Φ v (.bool true) σ):WV B n L (compareOp .Eq a b) H σ Φ:=a7 fun A F s hA X=>by
 obtain rfl:=al (X.hold ma)
 obtain rfl:=al (X.hold mb)
 refine x22 (X.objs _ mx) ?_;rintro vs m h1 h2
 refine x22 (X.objs _ my) ?_;rintro us k k1 k2
 have e1:=h2.length
 have e2:=k2.length
 have hu:=hA.units
 have hc:cLine=9900:=rfl
 refine jZ (items:=vs.toArray) (items2:=us.toArray) ⟨_,h1,rfl,m,rfl⟩ ⟨_,k1,rfl,k,rfl⟩ (by simp;omega) (by rw [hc];omega) (fun j j1 j2=>?_) (.here X ⟨_,.bool true,h _⟩)
 have hj:j < l.length:=by simp at j1;omega
 have g1:=h2.get hj (by simpa using j1)
 have g2:=k2.get hj (by simpa using j2)
 simp only [List.getElem_toArray]
 exact sJ (w:=B.w) X.sub 50 (f _ (List.getElem_mem hj)) g1 g2 (by show A.units+1+2*50 < cLine;rw [hc];omega)
end
end
section
variable {k:Str→Option NameKind} {x:Str}
noncomputable def b5:Addr→LL→OL
 | _,[]=>[]
 | c,(_,d)::r=>(c,.cell d)::b5 (c+1) r
noncomputable def bw:Addr→LL→List (Str×Addr)
 | _,[]=>[]
 | c,(x,_)::r=>(x,c)::bw (c+1) r
theorem rT {v:Value} (hx:k x=some .local):∀ {b:List (Str×Value)} {m:Str→Option Value},(b.map (·.1)).Nodup→(x,v)∈b→bindL k b m x=some v:=by
 have out:∀ {b:List (Str×Value)} {m:Str→Option Value},x∉b.map (·.1)→bindL k b m x=m x:=by
  intro b
  induction b with
  | nil=>intro m _;rfl
  | cons p r ih=>
   intro m h
   rw [List.map_cons,List.mem_cons,not_or] at h
   unfold bindL
   rw [ih h.2]
   split
   · exact if_neg h.1
   · rfl
 intro b
 induction b with
 | nil=>intro m _ h;contradiction
 | cons p r ih=>
  intro m nd h
  rw [List.map_cons,List.nodup_cons] at nd
  unfold bindL
  rcases mC0 h with e | h
  · subst e
    rw [out nd.1]
    rw [if_pos hx];simp
  · exact ih nd.2 h
theorem j9:∀ {b:List (Str×Value)} {m:Str→Option Value},x∉b.map (·.1)→bindC k b m x=m x:=by
 intro b
 induction b with
 | nil=>intro m _;rfl
 | cons p r ih=>
  intro m h
  rw [List.map_cons,List.mem_cons,not_or] at h
  unfold bindC
  rw [ih h.2]
  split
  · rfl
  · exact if_neg h.1
theorem ro {v:Value} (hx:k x≠some .local):∀ {b:List (Str×Value)} {m:Str→Option Value},(b.map (·.1)).Nodup→(x,v)∈b→bindC k b m x=some v:=by
 intro b
 induction b with
 | nil=>intro m _ h;contradiction
 | cons p r ih=>
  intro m nd h
  rw [List.map_cons,List.nodup_cons] at nd
  unfold bindC
  rcases mC0 h with e | h
  · subst e
    rw [j9 nd.1]
    rw [if_neg hx];simp
  · exact ih nd.2 h
theorem cZ:∀ (c:Addr) (cn:LL),(bw c cn).map (·.1)=cn.map (·.1)
 | _,[]=>rfl
 | c,(x,d)::r=>by rw [bw,List.map_cons,cZ (c+1) r];rfl
theorem fM:∀ {c:Addr} {cn:LL} {p:Addr×AO},p∈b5 c cn→∃ x d,(x,d)∈cn∧(x,p.1)∈bw c cn∧p.2=.cell d∧c≤p.1
 | _,[],_,h=>nomatch h
 | c,(x,d)::r,p,h=>by
  rcases mC0 h with rfl | h
  · exact ⟨x,d,.head _,.head _,rfl,Nat.le_refl _⟩
  · refine x24 (fM h) ?_;rintro y e h1 h2 h3 h4
    exact ⟨y,e,.tail _ h1,.tail _ h2,h3,nT0 (Nat.le_succ _) h4⟩
theorem eR:∀ (c:Addr) (cn:LL),(a9 (b5 c cn)).Nodup∧∀ b∈a9 (b5 c cn),c≤b
 | _,[]=>⟨List.nodup_nil,fun _ h=>nomatch h⟩
 | c,(x,d)::r=>by
  obtain ⟨h1,h2⟩:=eR (c+1) r
  have e:a9 (b5 c ((x,d)::r))=c::a9 (b5 (c+1) r):=rfl
  rw [e]
  refine ⟨List.nodup_cons.mpr ⟨fun h=>absurd (h2 c h) (Nat.not_le.mpr (Nat.lt_succ_self c)),h1⟩,fun b hb=>?_⟩
  rcases mC0 hb with rfl | hb
  · exact Nat.le_refl _
  · exact nT0 (Nat.le_succ _) (h2 b hb)
section
variable {B:a5} {n:Nat} {objs:OL}
theorem ux {name qual:Str} {params:Arguments} {body body':List Stmt} {scope scope':Scope} {dV kV doc pm cdv ct oc:Value} {an od:Option Addr} {osl:Array (Option Value)} {f:Addr} {args ds:List AV} {Φ:AV→OL→Prop} (ps:List Str) (loc:LL) (cn:LL)
 (ho : B.K.lookup f=some ⟨oc,od,.func (fnOf name qual params body scope dV kV doc pm an cdv ct),osl⟩) (hcd:codeIn B.K cdv qual=true)
 (hbind :∀ vs,vs.length=args.length→bindArgs (fnOf name qual params body scope dV kV doc pm an cdv ct) ⟨vs,[]⟩=pure (ps.zip vs)) (hlen:ps.length=args.length) (hds:ds=args)
 (h : ∀ L,GoB body' (WF B n L (execs body' (envOfC qual scope' L f cdv)) [] ⟨loc,b5 (L+1) cn++objs⟩ (jN Φ)))
 (hloc :∀ x d,(x,some d)∈loc→scope'.names.lookup x=some .local∧(x,d)∈ps.zip ds) (hln:(loc.map (·.1)).Nodup)
 (hcs : ∀ L,(bw (L+1) cn).reverse=cellsFrom (L+1) scope'.names []) (hcn:(cn.map (·.1)).Nodup)
 (hck : ∀ x d,(x,d)∈cn→scope'.names.lookup x=some .cell∧(match d with | some d=>(x,d)∈ps.zip ds | none=>x∉ps)) (hpn:ps.Nodup)
 (hpk : ∀ x∈ps,scope'.names.lookup x=some .local∨(scope'.names.lookup x=some .cell∧x∈cn.map (·.1)))
 (hco : autoParam (scope'.isCoroutine=false) bR) (hgen:autoParam (scope'.isGenerator=false) bR) (hk:autoParam (scope'.kind=.function) bR) (eb:body=body':=by (conv=>lhs;whnf)) (es:scope=scope':=by (conv=>lhs;whnf)):a4 B (n+1) f args objs Φ:=by
 subst eb es
 subst hds
 intro A F s vs hA x hvs
 have up:∀ b o,B.G.get? b=some o→s.heap.get? b=some o:=fun b o e=>x.sub _ _ (x.core _ _ e)
 have hvl:=hvs.length
 have keys:(ps.zip vs).map (·.1)=ps:=by rw [List.map_fst_zip];omega
 have look:∀ L y c,(y,c)∈bw (L+1) cn→(cellsFrom (L+1) scope.names []).lookup y=some c:=by
  intro L y c hm
  rw [← hcs L]
  have nd:((bw (L+1) cn).reverse.map (·.1)).Nodup:=by rw [List.map_reverse,cZ];exact (List.reverse_perm _).nodup_iff.mpr hcn
  have hm':(y,c)∈(bw (L+1) cn).reverse:=List.mem_reverse.mpr hm
  generalize (bw (L+1) cn).reverse=l at nd hm'
  induction l with
  | nil =>contradiction
  | cons p r ih=>
   rw [List.map_cons,List.nodup_cons] at nd
   rw [List.lookup_cons]
   rcases mC0 hm' with e | hm'
   · subst e;simp
   · have:(y==p.1)=false:=beq_eq_false_iff_ne.mpr fun e=>nd.1 (e▸List.mem_map_of_mem hm')
     rw [this];exact ih nd.2 hm'
 have val:∀ y d,(y,d)∈ps.zip ds→∃ v,(y,v)∈ps.zip vs∧Is B.P F v d:=by
  intro y d hm
  have :∀ {ps:List Str} {vs:List Value} {ds:List AV},IsAll B.P F vs ds→(y,d)∈ps.zip ds→∃ v,(y,v)∈ps.zip vs∧Is B.P F v d:=by
   intro ps vs ds hh
   induction ps generalizing vs ds with
   | nil=>intro h;simp at h
   | cons p r ih=>
    intro h
    cases hh with
    | nil=>simp at h
    | cons a b=>
     rw [List.zip_cons_cons] at h
     rcases mC0 h with e | h
     · cases e;exact ⟨_,.head _,a⟩
     · refine x12 (ih b h) ?_;rintro v h1 h2;exact ⟨v,.tail _ h1,h2⟩
  exact this hvs hm
 refine codeAny_call_cells (fd:=fnOf name qual params body scope dV kV doc pm an cdv ct) (body:=body) (binds:=ps.zip vs) (by have:=hA.depth;show A.depth < 1000;omega) ((B.X.keeps up) _ _ ho) rfl (B.nolimit.keeps up)
  (codeRec_of (B.X.keeps up) hcd) rfl (hbind vs hvl) rfl (fun y hy=>?_) (fun s₁ z=>?_) hco hgen hk
 · have hy1:y.1∈ps:=keys▸List.mem_map_of_mem hy
   rcases hpk y.1 hy1 with q | ⟨q,q2⟩
   · exact .inl q
   · refine .inr ⟨q,?_⟩
     rw [←cZ (s.heap.objs.size+1) cn] at q2
     refine x12 (List.mem_map.mp q2) ?_;rintro p hp e
     rw [←e,look _ _ _ (show (p.1,p.2)∈_ from hp)];rfl
 have hL:s.heap.get? s.heap.objs.size=none:=b0 _
 have there:∀ b∈a9 objs,∃ o,s.heap.get? b=some o:=fun b hb=>by
  refine x12 (ay.mp hb) ?_;rintro p hp hb
  exact (x.objs p hp).there b hb
 have below:∀ b∈a9 objs,b < s.heap.objs.size:=fun b hb=>by obtain ⟨o,e⟩:=there b hb;exact Heap.lt_size e
 obtain ⟨z1,z2,z3,z4⟩:=z
 refine x22 (z1.done) ?_;rintro h₁ tk rfl keep
 have hns:=z1.ns
 have big:B.G.objs.size≤s.heap.objs.size:=x.big
 obtain ⟨cn1,cn2⟩:=eR (s.heap.objs.size+1) cn
 have noneF:∀ b,s.heap.objs.size≤b→F b=none:=fun b hb=>by
  induction q:F b using Option.casesOn with
  | none=>rfl
  | some o=>exact absurd (Heap.lt_size (x.sub _ _ q)) (Nat.not_lt.mpr hb)
 have eo:a9 (b5 (s.heap.objs.size+1) cn++objs)=a9 (b5 (s.heap.objs.size+1) cn)++a9 objs:=b7 _ _
 have X :Holds B.P B.G s.heap.objs.size F [] ⟨loc,b5 (s.heap.objs.size+1) cn++objs⟩ h₁:=by
  refine ⟨x.core,fun b o e=>keep _ _ (x.sub _ _ e),⟨_,hns,fun y d hy=>?_⟩,hln,fun p hp=>?_,?_,fun b hb=>?_,fun _ hp=>(nomatch hp),big⟩
  · obtain ⟨k1,k2⟩:=hloc y d hy
    refine x12 (val y d k2) ?_;rintro v hv q
    exact ⟨v,rT (k:=(callEnvC (fnOf name qual params body scope dV kV doc pm an cdv ct) s.heap.objs.size f).kindOf) k1 (by rw [keys];exact hpn) hv,q⟩
  · rcases List.mem_append.mp hp with hp | hp
    · refine x24 (fM hp) ?_;rintro y d m1 m2 m3 _
      have hc:=z2 y p.1 (look _ _ _ m2)
      obtain ⟨k1,k2⟩:=hck y d m1
      rw [m3]
      induction d using Option.casesOn with
      | none=>
       have:bindC (callEnvC (fnOf name qual params body scope dV kV doc pm an cdv ct) s.heap.objs.size f).kindOf (ps.zip vs) (fun _=>none) y=none:=j9 (by rw [keys];exact k2)
       rw [this] at hc
       exact hc
      | some d=>
       refine x12 (val y d k2) ?_;rintro v hv q
       have:bindC (callEnvC (fnOf name qual params body scope dV kV doc pm an cdv ct) s.heap.objs.size f).kindOf (ps.zip vs) (fun _=>none) y=some v:=ro (by show scope.names.lookup y≠_;rw [k1];decide) (by rw [keys];exact hpn) hv
       rw [this] at hc
       exact ⟨v,hc,q⟩
    · exact (x.objs p hp).move (.refl F) fun b o _ e=>keep _ _ e
  · show (s.heap.objs.size::a9 (b5 (s.heap.objs.size+1) cn++objs)).Nodup
    rw [eo]
    refine List.nodup_cons.mpr ⟨fun hm=>?_,List.nodup_append.mpr ⟨cn1,x.nodup,fun a ha b hb e=>?_⟩⟩
    · rcases List.mem_append.mp hm with hm | hm
      · exact absurd (cn2 _ hm) (Nat.not_le.mpr (Nat.lt_succ_self _))
      · exact absurd (below _ hm) (Nat.lt_irrefl _)
    · have g1:=cn2 a ha
      have g2:=below b hb
      rw [←e] at g2
      exact absurd (nL0 g2 (Nat.le_succ _)) (Nat.not_lt.mpr g1)
  · rcases mC0 hb with rfl | hb
    · exact noneF _ (Nat.le_refl _)
    · rw [show a9 (⟨loc,b5 (s.heap.objs.size+1) cn++objs⟩:St).objs= _ from eo] at hb
      rcases List.mem_append.mp hb with hb | hb
      · exact noneF _ (nT0 (Nat.le_succ _) (cn2 _ hb))
      · exact x.apart b hb
 have hA':c3 n (A.deeper (callEnvC (fnOf name qual params body scope dV kV doc pm an cdv ct) s.heap.objs.size f)):=
  ⟨hA.handled,by have:=hA.depth;show A.depth+1+n≤900;omega,by have:=hA.units;show A.units+3+8*n≤9000;omega⟩
 refine wpAny_mono ((h s.heap.objs.size).run _ F { s with heap:=h₁,toks:=tk } hA' X) (fun fl s' z=>?_) fun _ _ z=>z.elim
 obtain ⟨F',σ',x',p,e,he,q⟩:=z
 refine x12 (kY he q) ?_;rintro d hd q
 exact .mk _ d σ'.objs F' rfl hd x'.call ((p.over (fun b hb=>(mC0 hb).elim (fun e=>.inr (e▸hL)) fun hb=>by
  rw [eo] at hb
  exact (List.mem_append.mp hb).elim (fun hb=>.inr (Option.eq_none_iff_forall_ne_some.mpr fun o w=>absurd (Heap.lt_size w) (Nat.not_lt.mpr (nT0 (Nat.le_succ _) (cn2 _ hb))))) .inl) keep (.refl _) rfl).fewer fun _=>.tail _) q
end
end
section
variable {x:Str} {c a:Addr} {d:AV} {loc:LL} {objs objs':OL} {Φ:PV} {v:Value} {P:Params} {G h:Heap} {F:Fz} {value:Expr} {l:FL}
section
variable {B:a5} {n:Nat} {L:Addr} {H:HL} {σ:St} {env:Env}
theorem qR {pos} (hc:env.cells.lookup x=some c) (m:(c,AO.cell (some d))∈objs) (h:∀ v,Φ v d ⟨loc,objs⟩)
 (hk:env.scope.kind=.function) (hl:env.kindOf x=some .cell) (hd:(x==("__debug__":Str))=false):WV B n L (eval (.Name x pos) env) H ⟨loc,objs⟩ Φ:=a7 fun A F s hA X=>by
 refine x12 (X.objs _ m) ?_;rintro v h1 h2
 exact wpAny_Name (wpAny_loadName_cell hk hl hc h1 (.here X ⟨d,h2,h v⟩)) hd
theorem pB {o:Option AV} {Φ:St→Prop} (hc:env.cells.lookup x=some c) (md:(v,d)∈H) (m:Chg c (.cell o) (.cell (some d)) objs objs') (h:Φ ⟨loc,objs'⟩)
 (hk:env.scope.kind=.function) (hl:env.kindOf x=some .cell):WU B n L (storeName env x v) H ⟨loc,objs⟩ Φ:=a7 fun A F s hA X=>by
 refine x22 (m.split) ?_;rintro pre post rfl rfl
 have hd:=X.hold md
 have:∃ v₀,s.heap.IsCell c v₀:=by
  have:=X.objs (c,.cell o) (by simp)
  induction o using Option.casesOn with
  | none=>exact ⟨_,this⟩
  | some e=>refine x12 (this) ?_;clear this;rintro v h1 _;exact ⟨_,h1⟩
 obtain ⟨v₀,h1⟩:=this
 refine wpAny_storeName_cell hk hl hc h1 fun h' hc' hs=>?_
 refine ae.change (o':=.cell (some d)) X (c:=c) (.inl rfl) rfl (fun b y _ q e=>(hs.2 b q).trans e) ?_ ⟨v,hc',hd⟩ rfl rfl h
 refine x12 (X.frame) ?_;rintro m₀ FR hl
 exact ⟨m₀,FR.ns.sameBut hs (fun e=>(List.nodup_cons.mp X.nodup).1 (by rw [e];exact ay.mpr ⟨_,List.mem_append_right _ (.head _),.inl rfl⟩)),hl⟩
theorem Holds.trackAt {h':Heap} {o:AO} (x:Holds P G L F H σ h) (hF:F a=none) (hO:a∉L::a9 σ.objs) (k:∀ b o,b≠a→h.get? b=some o→h'.get? b=some o) (em:o.more=[]) (q:OAt P F h' a o):
 Holds P G L F H ⟨σ.loc,(a,o)::σ.objs⟩ h':=by
 have x':=x.besides hF hO k
 have eo:a9 ((a,o)::σ.objs)=a::a9 σ.objs:=by show a::(o.more++a9 σ.objs)= _;refine em▸?_;rfl
 refine ⟨x'.core,x'.sub,x'.loc,x'.names,fun p hp=>?_,?_,fun b hb=>?_,x'.held,x'.low⟩
 · rcases mC0 hp with rfl | hp
   · exact q
   · exact x'.objs p hp
 · show (L::a9 ((a,o)::σ.objs)).Nodup
   refine eo▸?_
   have nd:=List.nodup_cons.mp x'.nodup
   have h1:L≠a:=fun e=>hO (e▸.head _)
   have h2:a∉a9 σ.objs:=fun hm=>hO (.tail _ hm)
   refine List.nodup_cons.mpr ⟨fun hm=>?_,List.nodup_cons.mpr ⟨h2,nd.2⟩⟩
   rcases mC0 hm with e | hm
   · exact h1 e
   · exact nd.1 hm
 · rw [show a9 (⟨σ.loc,(a,o)::σ.objs⟩:St).objs= _ from eo] at hb
   rcases mC0 hb with rfl | hb
   · exact x'.apart _ (.head _)
   rcases mC0 hb with rfl | hb
   · exact hF
   · exact x'.apart _ (.tail _ hb)
theorem ua {keys:List (Option Expr)} {values:List Expr} {pos:Pos}
 (h :WD B n L (evalPairs (aw env pos keys values)) H σ fun l σ₁=>(l.map (·.1)).Nodup∧∀ a,Φ (.ref a) (.ref a) ⟨σ₁.loc,(a,.dict l)::σ₁.objs⟩)
 (hs:autoParam ((evalEachOpt keys env).zip ((evalEach values env).map fun v=>do let x ←v;standAt pos;pure x)=(aw env pos keys values).map fun p=>(some p.1,p.2)) bR)
 (h0:aw env pos keys values≠[]:=by exact List.cons_ne_nil _ _) (hl:(aw env pos keys values).length≤15:=by decide):WV B n L (eval (.Dict keys values pos) env) H σ Φ:=a7 fun A F s hA X=>by
 refine wpAny_Dict_pairs (knd:=strKind B.prog B.w) hs h0 hl ?_
 have hn:=b0 s.heap
 have up:∀ b o,s.heap.get? b=some o→(s.heap.push { cls:=.type "dict",data:=.dict #[] }).get? b=some o:=fun b o e=>Heap.get?_push_of_some _ e
 have aO:s.heap.objs.size∉L::a9 σ.objs:=fun hm=>by obtain ⟨o,ho⟩:=X.there _ hm;rw [hn] at ho;contradiction
 refine wpAny_mono (h.run A F _ hA (X.grow up)) (fun vs s₁ z=>?_) fun _ _ z=>z
 obtain ⟨F₁,σ₁,x₁,p₁,l,hl,hnd,q⟩:=z
 have a0:s₁.heap.get? s.heap.objs.size=some { cls:=.type "dict",data:=.dict #[] }:=p₁.keep _ _ aO (Heap.get?_push_size _ rfl)
 refine ⟨KV.vals vs l,KV.carries hl,⟨_,#[],_,a0,⟨rfl,rfl,rfl⟩,rfl,(fun e he=>by simp at he),.nil,List.nodup_nil⟩,fun h' hd hs'=>?_⟩
 rw [merged_nil_of_nodup _ (by refine (KV.keys hl)▸?_;exact hnd)] at hd
 refine x23 (eN hd) ?_;rintro es m e1 e2 e3
 have aF:F₁ s.heap.objs.size=none:=by
  induction w:F₁ s.heap.objs.size using Option.casesOn with
  | none=>rfl
  | some o=>
   rcases p₁.frz _ _ w with z | z | z
   · have:=X.sub _ _ z;rw [hn] at this;contradiction
   · exact absurd z aO
   · rw [Heap.get?_push_size _ rfl] at z;contradiction
 have aO':s.heap.objs.size∉L::a9 σ₁.objs:=fun hm=>by
  rcases p₁.own _ hm with z | z
  · exact aO z
  · rw [Heap.get?_push_size _ rfl] at z;contradiction
 have x₂:=x₁.trackAt (h':=h') (o:=.dict l) aF aO' (fun b o hb e=>(hs'.2 b hb).trans e) rfl ⟨⟨es,m,e1,KV.ents hl e2 e3⟩,hnd,gV X.big⟩
 have old:∀ b,(s.heap.push { cls:=.type "dict",data:=.dict #[] }).get? b=none→s.heap.get? b=none:=fun b e=>by
  induction w:s.heap.get? b using Option.casesOn with
  | none=>rfl
  | some o=>rw [up _ _ w] at e;contradiction
 refine ⟨F₁,_,x₂,⟨fun b o hb e=>(hs'.2 b (fun z=>by rw [z,hn] at e;contradiction)).trans (p₁.keep _ _ hb (up _ _ e)),fun b hb=>?_,fun b o e=>(p₁.frz _ _ e).imp_right (Or.imp_right (old b)),p₁.mono,p₁.gens,p₁.os⟩,.ref _,.ref _,q _⟩
 rcases mC0 hb with rfl | hb
 · exact .inl (.head _)
 have hb':b∈s.heap.objs.size::a9 σ₁.objs:=hb
 rcases mC0 hb' with rfl | hb'
 · exact .inr hn
 · exact (p₁.own b (.tail _ hb')).imp_right (old b)
theorem yq {slice:Expr} {o i:Value} {x:List Nat} (mo:(o,.ref a)∈H) (ma:(a,AO.dict l)∈σ.objs) (mi:(i,.str x)∈H) (hd:bB (S x) l=some d) (h:∀ v,Φ v d σ)
 (hs:∃ ops,subscripted slice false o i=operate ops (getItem o i):=by exact ⟨_,rfl⟩):WV B n L (subscriptTail value slice o i) H σ Φ:=by
 refine cU (T:="dict") (fun F s X=>?_) slot_dict_getitem.lookup (a7 fun A F s hA X=>?_) hs
 · obtain rfl:=al (X.hold mo);obtain ⟨⟨es,k,h1,_⟩,_⟩:=X.objs _ ma;exact ⟨_,h1,rfl⟩
 · obtain rfl:=al (X.hold mo)
   refine x03 (X.objs _ ma) ?_;rintro ⟨es,k,h1,h2⟩ h3 _
   obtain ⟨t,rfl⟩:=ak (X.hold mi)
   refine x12 (fE h2 hd) ?_;rintro v e1 e2
   exact wpAny_getItem_of (knd:=strKind B.prog B.w) (k:=S x) (beq_self_eq_true _) (cR h2 h3 h1).mapOf e1 (.toks X ⟨d,e2,h _⟩)
theorem zI {o i:Value} {x:List Nat} (mo:(o,.ref a)∈H) (ma:(a,AO.dict l)∈σ.objs) (mi:(i,.str x)∈H) (hd:bB (S x) l=some d) (h:∀ v,Φ v d σ):WV B n L (getItem o i) H σ Φ:=a7 fun A F s hA X=>by
 obtain rfl:=al (X.hold mo)
 refine x03 (X.objs _ ma) ?_;rintro ⟨es,k,h1,h2⟩ h3 _
 obtain ⟨t,rfl⟩:=ak (X.hold mi)
 refine x12 (fE h2 hd) ?_;rintro v e1 e2
 exact wpAny_getItem_of (knd:=strKind B.prog B.w) (k:=S x) (beq_self_eq_true _) (cR h2 h3 h1).mapOf e1 (.toks X ⟨d,e2,h _⟩)
end
theorem KM.keys {r:List (Str×Value)} (h:KM P F r l):r.map (·.1)=l.map (·.1):=by
 induction h with
 | nil=>rfl
 | cons _ _ ih=>exact congrArg (List.cons _) ih
theorem KM.stored {k:Str} (q:Is P F v d):∀ {kvs:List (Str×Value)} {l:FL},KM P F kvs l→(l.map (·.1)).Nodup→KM P F (stored kvs k v) (bC k d l)
 | _, _,.nil,_=>.cons q .nil
 | (y,u)::r,(_,e)::l,.cons h hr,nd=>by
  rw [List.map_cons,List.nodup_cons] at nd
  by_cases hy:y=k
  · subst hy
    have hnot:∀ p∈r,p.1≠y:=fun p hp e=>nd.1 (by rw [←hr.keys,←e];exact List.mem_map_of_mem hp)
    have e1:PySem.stored ((y,u)::r) y v=(y,v)::r:=by
     unfold PySem.stored
     rw [if_pos (by simp)]
     rw [List.map_cons,if_pos rfl]
     congr 1
     have:r.map (fun kv=>if kv.1=y then (kv.1,v) else kv)=r.map id:=List.map_congr_left fun p hp=>by rw [if_neg (hnot p hp)];rfl
     rw [this,List.map_id]
    have e2:bC y d ((y,e)::l)=(y,d)::l:=by unfold bC;rw [if_pos (beq_self_eq_true _)]
    rw [e1,e2]
    exact .cons q hr
  · have e1:PySem.stored ((y,u)::r) k v=(y,u)::PySem.stored r k v:=by
     unfold PySem.stored
     rw [List.any_cons,List.map_cons,if_neg hy]
     simp only [hy,decide_false,Bool.false_or]
     split<;>rfl
    have e2:bC k d ((y,e)::l)=(y,e)::bC k d l:=by
     rw [bC,if_neg (by simpa using hy)]
    rw [e1,e2]
    exact .cons h (KM.stored q hr nd.2)
theorem gi {k:Str}:∀ {l:FL},(l.map (·.1)).Nodup→((bC k d l).map (·.1)).Nodup
 | [], _ =>by simp [bC]
 | (y, e)::l,nd=>by
  have nd':=nd
  rw [List.map_cons,List.nodup_cons] at nd
  unfold bC
  split
  · rename_i h
    have h:y=k:=by simpa using h
    subst h
    exact nd'
  · rename_i h
    have h:y≠k:=by simpa using h
    rw [List.map_cons,List.nodup_cons]
    refine ⟨fun hm=>?_,gi nd.2⟩
    have :∀ {l:FL},y∈(bC k d l).map (·.1)→y=k∨y∈l.map (·.1):=by
     intro l
     induction l with
     | nil=>intro h;simp [bC] at h;exact .inl h
     | cons p r ih=>
      intro h
      unfold bC at h
      split at h
      · rename_i hp
        have hp:p.1=k:=by simpa using hp
        rw [List.map_cons,List.mem_cons] at h
        rcases h with h | h
        · exact .inl h
        · exact .inr (.tail _ h)
      · rw [List.map_cons,List.mem_cons] at h
        rcases h with h | h
        · exact .inr (by rw [h];exact .head _)
        · exact (ih h).imp_right (.tail _)
    rcases this hm with h' | h'
    · exact h h'
    · exact nd.1 h'
section
variable {B:a5} {n:Nat} {L:Addr} {H:HL} {σ:St} {env:Env}
theorem rS {l':FL} {x:List Nat} {ov iv:Value} {Φ:St→Prop} (mo:(ov,.ref a)∈H) (mi:(iv,.str x)∈H) (md:(v,d)∈H) (hp:gJ (S x) d l l')
 (m :Chg a (.dict l) (.dict l') objs objs') (hz:l.length≤900) (h:Φ ⟨loc,objs'⟩):WU B n L (setItem ov iv v) H ⟨loc,objs⟩ Φ:=a7 fun A F s hA X=>by
 refine x22 (m.split) ?_;rintro pre post rfl rfl
 obtain rfl:=hp.eq
 obtain rfl:=al (X.hold mo)
 obtain ⟨t,rfl⟩:=ak (X.hold mi)
 have hd:=X.hold md
 refine x03 (X.objs (a,.dict l) (by simp)) ?_;rintro ⟨es,k,h1,h2⟩ h3 h4
 refine wpAny_setItem_pairs (knd:=strKind B.prog B.w) (k:=S x) (beq_self_eq_true _) (cR h2 h3 h1) (fun h' hm hs=>?_) ?_
 · refine x23 (eN hm) ?_;rintro es' m' e1 e2 e3
   refine ae.change (o':=.dict (bC (S x) d l)) X (c:=a) (.inl rfl) rfl (fun b y _ q e=>(hs.2 b q).trans e) ?_ ⟨⟨es',m',e1,KM.ents ((qB h2).stored hd h3) e2 e3⟩,gi h3,h4⟩ rfl rfl h
   refine x12 (X.frame) ?_;rintro m₀ FR hl
   exact ⟨m₀,FR.ns.sameBut hs (fun e=>(List.nodup_cons.mp X.nodup).1 (by rw [e];exact ay.mpr ⟨_,List.mem_append_right _ (.head _),.inl rfl⟩)),hl⟩
 · have:=congrArg List.length (cT h2)
   simp only [List.length_map] at this
   rw [this,az];omega
theorem gC {o i:Expr} {p pos} {Φ:PF}
 (h:WV B n L (eval value env) H σ fun v d σ₁=>WV B n L (eval o env) ((v,d)::H) σ₁ fun ov od σ₂=>WV B n L (eval i env) ((ov,od)::(v,d)::H) σ₂ fun iv e σ₃=>WU B n L (setItem ov iv v) ((iv,e)::(ov,od)::(v,d)::H) σ₃ fun σ₄=>Φ .next σ₄)
 (hs:swapsWith value (some (.Subscript o i p)) pos.line env=pure false):WF B n L (exec (.Assign [.Subscript o i p] value pos) env) H σ Φ:=by
 rw [exec_Assign_Subscript o i p value pos hs]
 refine ag (af (ab h fun v d σ₁ w=>?_))
 rw [assign_Subscript]
 refine bz (af (a8 (ab w fun ov od σ₂ w=>af (a8 (ab w fun iv e σ₃ w=>ag (bz (a8 (cD w fun σ₄ q=>dz (f8 q)))))))))
theorem s8 {o i:Expr} {p pos op} {Φ:PF}
 (h:WV B n L (eval o env) H σ fun ov od σ₁=>WV B n L (eval i env) ((ov,od)::H) σ₁ fun iv e σ₂=>WV B n L (getItem ov iv) ((iv,e)::(ov,od)::H) σ₂ fun a d σ₃=>WV B n L (eval value env) ((a,d)::(iv,e)::(ov,od)::H) σ₃ fun b y σ₄=>
  WV B n L (inplaceOp op a b) ((b,y)::(a,d)::(iv,e)::(ov,od)::H) σ₄ fun c z σ₅=>WU B n L (setItem ov iv c) ((c,z)::(iv,e)::(ov,od)::H) σ₅ fun σ₆=>Φ .next σ₆)
 (hi:∀ ov iv c,augStore i ov iv c=(do holding [c,ov,iv] (setItem ov iv c);release [c,ov,iv] [];pure .next)):
 WF B n L (exec (.AugAssign (.Subscript o i p) op value pos) env) H σ Φ:=by
 rw [arm_exec_AugAssign_3]
 refine ag (af (ab h fun ov od σ₁ w=>af (a8 (ab w fun iv e σ₂ w=>af (a8 ?_)))))
 refine ag (af (ab w fun a d σ₃ w=>af (a8 (ab w fun b y σ₄ w=>ag (c5 (ab w fun c z σ₅ w=>?_))))))
 refine ag ?_
 rw [hi]
 refine bz (a8 (cD w fun σ₆ q=>?_))
 exact a7 fun A F s hA x=>wpAny_bind (wpAny_release (wpAny_pure (.here x ⟨.next,trivial,q⟩)))
inductive eW (a:Addr) (o:AO):OL→OL→Prop
 | head {r}:eW a o ((a,o)::r) r
 | tail {p r r'}:eW a o r r'→eW a o (p::r) (p::r')
theorem eW.perm {o:AO} {l l':OL} (h:eW a o l l'):l.Perm ((a,o)::l'):=by
 induction h with
 | head=>exact .refl _
 | tail _ ih=>exact (List.Perm.cons _ ih).trans (.swap _ _ _)
theorem Holds.freezeD (x:Holds P G L F H ⟨loc,(a,.dict l)::objs⟩ h):
 ∃ F',F.le F'∧Holds P G L F' H ⟨loc,objs⟩ h∧Is P F' (.ref a) (.dct l)∧∀ b o,F' b=some o→F b=some o∨b=a:=by
 refine x03 (x.objs _ (.head _)) ?_;rintro ⟨es,m,h1,h2⟩ h3 h4
 have aF:F a=none:=x.apart a (.tail _ (.head _))
 have le:=Fz.le_put (o:=dictOf es m) aF
 have x':=x.drop (objs':=objs) (rest:=[(a,AO.dict l)]) (List.perm_append_comm (l₁:=[(a,AO.dict l)]))
 have nd:=x.nodup
 have nL:a≠L:=fun e=>(List.nodup_cons.mp nd).1 (e▸.head _)
 have nO:a∉a9 objs:=fun hm=>(List.nodup_cons.mp (List.nodup_cons.mp nd).2).1 (List.mem_append_right _ hm)
 refine ⟨F.put a (dictOf es m),le,⟨fun b o' e=>le _ _ (x.core b o' e),fun b o' e=>?_,let ⟨m,hm,r⟩:=x.loc;⟨m,hm,fun y d hy=>let ⟨v,e,q⟩:=r y d hy;⟨v,e,q.mono le⟩⟩,x'.names,
  fun p hp=>(x'.objs p hp).move le fun _ _ _ e=>e,x'.nodup,fun b hb=>?_,fun p hp=>(x.held p hp).mono le,x.low⟩,.dct (Fz.put_self ..) (h2.mono le) h3 h4,fun b o e=>?_⟩
 · unfold Fz.put at e
   split at e
   · rename_i q;subst q;obtain rfl:=Option.some.inj e;exact h1
   · exact x.sub _ _ e
 · unfold Fz.put
   split
   · rename_i q
     subst q
     rcases mC0 hb with h | hb
     · exact absurd h nL
     · exact absurd hb nO
   · exact x'.apart b hb
 · unfold Fz.put at e
   split at e
   · exact .inr ‹_›
   · exact .inl e
theorem Holds.perm (e:objs.Perm objs') (x:Holds P G L F H ⟨loc,objs⟩ h):Holds P G L F H ⟨loc,objs'⟩ h:=
 x.drop (rest:=[]) (by rw [List.append_nil];exact e)
theorem vH {α:Type} {t:Sem α} {Ψ:α→Fz→St→Prop} (mv:(v,.ref a)∈H) (tk:eW a (.dict l) objs objs') (w:W B n L t ((v,.dct l)::H) ⟨loc,objs'⟩ Ψ):W B n L t H ⟨loc,objs⟩ Ψ:=a7 fun A F s hA X=>by
 refine x14 ((X.perm tk.perm).freezeD) ?_;rintro F' le x' hd back
 obtain rfl:=al (X.hold mv)
 refine wpAny_mono (w.run A F' s hA (x'.push hd)) (fun r s' z=>?_) fun _ _ z=>z
 obtain ⟨F₂,σ₂,x₂,p₂,q⟩:=z
 have po:=aZ tk.perm
 refine ⟨F₂,σ₂,x₂.weaken fun _ hp=>.tail _ hp,aJ.trans (s':=s) (O':=L::a9 objs') (F':=F') ⟨fun _ _ _ e=>e,fun b hb=>.inl ?_,fun b o e=>?_,le,.refl _,rfl⟩ p₂,q⟩
 · rcases mC0 hb with rfl | hb
   · exact .head _
   · exact .tail _ (po.mem_iff.mpr (.tail _ hb))
 · rcases back b o e with z | rfl
   · exact .inl z
   · exact .inr (.inl (.tail _ (po.mem_iff.mpr (.head _))))
end
end
section
variable {H:HL} {x:Str} {ds:List AV} {e t:Expr} {pos p:Pos} {c:Bool} {es:List Expr} {s:Stmt} {ss:List Stmt}
structure Cx where
 B:a5
 n:Nat
 L:Addr
 env:Env
structure Ev (X:Cx) (e:Expr) (σ:St) (d:AV) (σ':St):Prop where
 run:∀ (H:HL) (Φ:PV),(∀ v,Φ v d σ')→WV X.B X.n X.L (eval e X.env) H σ Φ
structure EvX (X:Cx) (e:Expr) (σ:St) (v:Value) (d:AV):Prop where
 run:∀ (H:HL) (Φ:PV),Φ v d σ→WV X.B X.n X.L (eval e X.env) H σ Φ
structure Te (X:Cx) (e:Expr) (σ:St) (b:Bool) (σ':St):Prop where
 run:∀ (H:HL) (Φ:Bool→St→Prop),Φ b σ'→WB X.B X.n X.L (isTrue e X.env (eval e X.env)) H σ Φ
structure TeA (X:Cx) (es:List Expr) (σ:St) (b:Bool) (σ':St):Prop where
 run:∀ (H:HL) (Φ:Bool→St→Prop),Φ b σ'→WB X.B X.n X.L (allTrue .And es X.env) H σ Φ
structure TeO (X:Cx) (es:List Expr) (σ:St) (b:Bool) (σ':St):Prop where
 run:∀ (H:HL) (Φ:Bool→St→Prop),Φ b σ'→WB X.B X.n X.L (allTrue .Or es X.env) H σ Φ
structure EvO (X:Cx) (es:List Expr) (σ:St) (d:AV) (σ':St):Prop where
 run:∀ pos (H:HL) (Φ:PV),(∀ v,Φ v d σ')→WV X.B X.n X.L (boolOp pos .Or (evalEach es X.env)) H σ Φ
structure EvA (X:Cx) (es:List Expr) (σ:St) (d:AV) (σ':St):Prop where
 run:∀ pos (H:HL) (Φ:PV),(∀ v,Φ v d σ')→WV X.B X.n X.L (boolOp pos .And (evalEach es X.env)) H σ Φ
structure EvL (X:Cx) (es:List Expr) (σ:St) (ds:List AV) (σ':St):Prop where
 run:∀ pos (H:HL) (Φ:List Value→List AV→St→Prop),(∀ vs,vs.length=ds.length→Φ vs ds σ')→WL X.B X.n X.L (spliced (backTo pos (starEach es X.env))) H σ Φ
structure EvD (X:Cx) (ks:List (Option Expr)) (es:List Expr) (σ:St) (l:FL) (σ':St):Prop where
 run:∀ pos (H:HL) (Φ:FL→St→Prop),Φ l σ'→WD X.B X.n X.L (evalPairs (aw X.env pos ks es)) H σ Φ
structure EvP (X:Cx) (e:Option Expr) (σ:St) (d:AV) (σ':St):Prop where
 run:∀ (H:HL) (Φ:PV),(∀ v,Φ v d σ')→WV X.B X.n X.L (evalPart e X.env) H σ Φ
structure bF (X:Cx) (op:CmpOp) (a b:AV) (c:Bool) (σ:St):Prop where
 run:∀ (H:HL) va vb (Φ:PV),(va,a)∈H→(vb,b)∈H→(∀ v,Φ v (.bool c) σ)→WV X.B X.n X.L (compareOp op va vb) H σ Φ
structure iE (X:Cx) (op:Operator) (a b d:AV) (σ:St):Prop where
 run:∀ (H:HL) va vb (Φ:PV),(va,a)∈H→(vb,b)∈H→(∀ v,Φ v d σ)→WV X.B X.n X.L (binaryOp op va vb) H σ Φ
structure oD (X:Cx) (op:Operator) (a b d:AV) (σ:St):Prop where
 run:∀ (H:HL) va vb (Φ:PV),(va,a)∈H→(vb,b)∈H→(∀ v,Φ v d σ)→WV X.B X.n X.L (inplaceOp op va vb) H σ Φ
structure gI (X:Cx) (a:AV) (c:Bool) (σ:St):Prop where
 run:∀ (H:HL) va (Φ:Bool→St→Prop),(va,a)∈H→Φ c σ→WB X.B X.n X.L (truthy va) H σ Φ
structure jn (X:Cx) (o:AV) (name:Str) (d:AV) (σ:St):Prop where
 run:∀ (H:HL) vo (Φ:PV),(vo,o)∈H→(∀ v,Φ v d σ)→WV X.B X.n X.L (getAttr vo name true) H σ Φ
structure kX (X:Cx) (o:AV) (name:Str) (d:AV) (σ σ':St):Prop where
 run:∀ (H:HL) vo vd (Φ:St→Prop),(vo,o)∈H→(vd,d)∈H→Φ σ'→WU X.B X.n X.L (setAttr vo name vd) H σ Φ
structure e7 (X:Cx) (o:AV) (name:Str) (f:Value) (σ:St):Prop where
 run:∀ (H:HL) vo pl (Ψ:Value×List Value→Fz→St→Prop),(vo,o)∈H→(∀ F,Ψ (f,[vo]) F σ)→W X.B X.n X.L (getMethod vo name pl) H σ Ψ
structure qk (X:Cx) (o:AV) (name:Str) (d:AV) (σ:St):Prop where
 run:∀ (H:HL) vo pl (Ψ:Value×List Value→Fz→St→Prop),(vo,o)∈H→(∀ v F,Is X.B.P F v d→Ψ (v,[]) F σ)→W X.B X.n X.L (getMethod vo name pl) H σ Ψ
structure cF (X:Cx) (value slice:Expr) (o i d:AV) (σ:St):Prop where
 run:∀ (H:HL) vo vi (Φ:PV),(vo,o)∈H→(vi,i)∈H→(∀ v,Φ v d σ)→WV X.B X.n X.L (subscriptTail value slice vo vi) H σ Φ
structure aQ (X:Cx) (f:Value) (ds:List AV) (σ:St) (d:AV) (σ':St):Prop where
 run:∀ (H:HL) vs (Φ:PV),vs.length=ds.length→(∀ p∈vs.zip ds,p∈H)→(∀ v,Φ v d σ')→WV X.B X.n X.L (call f vs) H σ Φ
structure d5 (X:Cx) (f:Value):Prop where
 run:∀ (H:HL) (σ:St) first args pos (Φ:PV),(backTo pos (starEach args X.env)).any (·.1)=false→
  WL X.B X.n X.L (spliced (backTo pos (starEach args X.env))) H σ (fun vs ds σ₁=>WV X.B X.n X.L (call f (first++vs)) (vs.zip ds++H) σ₁ Φ)→WV X.B X.n X.L (callWith pos f first (backTo pos (starEach args X.env)) []) H σ Φ
structure Ex (X:Cx) (s:Stmt) (σ:St) (f:Fl) (σ':St):Prop where
 run:∀ (H:HL) (Φ:PF),Φ f σ'→WF X.B X.n X.L (exec s X.env) H σ Φ
structure ExB (X:Cx) (ss:List Stmt) (σ:St) (f:Fl) (σ':St):Prop where
 run:∀ (H:HL) (Φ:PF),Φ f σ'→WF X.B X.n X.L (execs ss X.env) H σ Φ
structure ExP (X:Cx) (ss:List Stmt) (σ:St) (f:Fl) (σ':St):Prop where
 run:∀ (H:HL) (Φ:PF),Φ f σ'→WPF X.B X.n X.L (execs ss X.env) H σ Φ
structure StR (X:Cx) (x:Str) (d:AV) (σ σ':St):Prop where
 run:∀ (H:HL) v (Φ:St→Prop),(v,d)∈H→Φ σ'→WU X.B X.n X.L (storeName X.env x v) H σ Φ
structure AsR (X:Cx) (t:Expr) (d:AV) (σ σ':St):Prop where
 run:∀ (H:HL) v (Φ:St→Prop),(v,d)∈H→Φ σ'→WU X.B X.n X.L (assign t X.env v) H σ Φ
section
variable {X:Cx} {σ σ₁ σ₂ σ₃ σ':St} {d o a b:AV} {f:Value}
theorem hd0 {v:Value} {d:AV}:(v,d)∈(v,d)::H:=List.mem_cons_self
theorem hd1 {p:Value×AV} {v:Value} {d:AV}:(v,d)∈p::(v,d)::H:=.tail _ (.head _)
theorem rH {k pos}:Ev X (.Constant .none k pos) σ .none σ:=⟨fun _ _ h=>yg (h _)⟩
theorem mc {c k pos}:Ev X (.Constant (.bool c) k pos) σ (.bool c) σ:=⟨fun _ _ h=>yV (h _)⟩
theorem dk {i k pos}:Ev X (.Constant (.int i) k pos) σ (.int i) σ:=⟨fun _ _ h=>B9 h⟩
theorem eS {l:List Nat} {k pos} (e:x=S l):Ev X (.Constant (.str x) k pos) σ (.str l) σ:=⟨fun _ _ h=>BI e h⟩
theorem a6 {pos d loc objs} (hm:(x,some d)∈loc) (hk:autoParam (X.env.scope.kind=.function) bR) (hl:autoParam (X.env.kindOf x=some .local) bK) (hL:autoParam (X.env.locals=X.L) bR) (hd:autoParam ((x==("__debug__":Str))=false) bK):
 Ev X (.Name x pos) ⟨loc,objs⟩ d ⟨loc,objs⟩:=⟨fun _ _ h=>vz (σ:=⟨loc,objs⟩) hm h hk hl hL hd⟩
theorem l0 {pos v d} (e:nsIn X.B.K mainGlobals x=some (some v)) (c:aS X.B v d) (hk:autoParam (X.env.scope.kind=.function) bR) (hl:autoParam (X.env.kindOf x=some .globalImplicit) bK) (hg:autoParam (X.env.globals=mainGlobals) bR) (hd:autoParam ((x==("__debug__":Str))=false) bK):
 Ev X (.Name x pos) σ d σ:=⟨fun _ _ h=>jV e c (h _) hk hl hg hd⟩
theorem cg {pos v} (e:nsIn X.B.K mainGlobals x=some (some v)) (hk:autoParam (X.env.scope.kind=.function) bR) (hl:autoParam (X.env.kindOf x=some .globalImplicit) bK) (hg:autoParam (X.env.globals=mainGlobals) bR) (hd:autoParam ((x==("__debug__":Str))=false) bK):
 EvX X (.Name x pos) σ v (.lit v):=⟨fun _ _ h=>jV e (aS.lit _ _) h hk hl hg hd⟩
theorem aM {pos v} (hb:bootBuiltins x=some v) (e:nsIn X.B.K mainGlobals x=some none) (hk:autoParam (X.env.scope.kind=.function) bR) (hl:autoParam (X.env.kindOf x=some .globalImplicit) bK) (hg:autoParam (X.env.globals=mainGlobals) bR) (hbl:autoParam (X.env.builtins=builtinsNs) bR)
 (hn:x≠("__name__":Str):=by (refine bne_iff_ne.mp ?_;kernel_rfl)) (hd:autoParam ((x==("__debug__":Str))=false) bK):EvX X (.Name x pos) σ v (.lit v):=⟨fun _ _ h=>ou e hb h hk hl hg hbl hn hd⟩
theorem zJ {e attr pos} (h1:Ev X e σ o σ₁) (h2:jn X o attr d σ₁) (he:autoParam (eval (.Attribute e attr pos) X.env=(do
 let o ←eval e X.env
 standAt pos.atName
 let r ←holding [o] (getAttr o attr true)
 letTemporaryGo e o r
 pure r)) bW):Ev X (.Attribute e attr pos) σ d σ₁:=⟨fun _ _ h=>q6 (h1.run _ _ fun _=>h2.run _ _ _ hd0 h) he⟩
theorem ri {l r op pos c} (h1:Ev X l σ a σ₁) (h2:Ev X r σ₁ b σ₂) (h3:bF X op a b c σ₂) (hm:autoParam (behindInMarks op r=false) bW):Ev X (.Compare l [op] [r] pos) σ (.bool c) σ₂:=
 ⟨fun _ _ h=>iH (h1.run _ _ fun _=>h2.run _ _ fun _=>h3.run _ _ _ _ hd1 hd0 h) hm⟩
theorem oI {l m r op op' pos c c'} {y:AV} (h1:Ev X l σ a σ₁) (h2:Ev X m σ₁ b σ₂) (h3:bF X op a b c σ₂) (h4:Ev X r σ₂ y σ₂) (h5:bF X op' b y c' σ₂)
 (hm:autoParam (markedEach [op,op'] [m,r] (evalEach [m,r] X.env)=[eval m X.env,eval r X.env]) bW):Ev X (.Compare l [op,op'] [m,r] pos) σ (.bool (c&&c')) σ₂:=
 ⟨fun _ _ h=>nQ (h1.run _ _ fun _=>h2.run _ _ fun _=>h3.run _ _ _ _ hd1 hd0 fun _=>⟨c,c',rfl,h4.run _ _ fun _=>h5.run _ _ _ _ hd1 hd0 fun _=>⟨rfl,rfl⟩,h⟩) hm⟩
theorem fD {l r op pos} (h1:Ev X l σ a σ₁) (h2:Ev X r σ₁ b σ₂) (h3:iE X op a b d σ₂):Ev X (.BinOp l op r pos) σ d σ₂:=⟨fun _ _ h=>mO (h1.run _ _ fun _=>h2.run _ _ fun _=>h3.run _ _ _ _ hd1 hd0 h)⟩
theorem EG {es pos} (h1:EvO X es σ d σ'):Ev X (.BoolOp .Or es pos) σ d σ':=⟨fun _ _ h=>jk (h1.run _ _ _ h)⟩
theorem vX {es pos} (h1:EvA X es σ d σ'):Ev X (.BoolOp .And es pos) σ d σ':=⟨fun _ _ h=>jk (h1.run _ _ _ h)⟩
theorem sV {e} (h1:Ev X e σ d σ'):EvO X [e] σ d σ':=⟨fun _ _ _ h=>jm (h1.run _ _ h)⟩
theorem v5 {e e' es c c'} (h1:Ev X e σ (.bool c) σ) (h2:EvO X (e'::es) σ (.bool c') σ):EvO X (e::e'::es) σ (.bool (c||c')) σ:=⟨fun _ _ _ h=>AL (h1.run _ _ fun _=>⟨c,rfl,fun q v=>by subst q;exact h v,fun q=>by subst q;exact h2.run _ _ _ h⟩)⟩
theorem mV {e} (h1:Ev X e σ d σ'):EvA X [e] σ d σ':=⟨fun _ _ _ h=>jm (h1.run _ _ h)⟩
theorem mU {e e' es c c'} (h1:Ev X e σ (.bool c) σ) (h2:EvA X (e'::es) σ (.bool c') σ):EvA X (e::e'::es) σ (.bool (c&&c')) σ:=⟨fun _ _ _ h=>xG (h1.run _ _ fun _=>⟨c,rfl,fun q v=>by subst q;exact h v,fun q=>by subst q;exact h2.run _ _ _ h⟩)⟩
theorem vM {e pos i} (h1:Ev X e σ (.int i) σ₁):Ev X (.UnaryOp .USub e pos) σ (.int (-i)) σ₁:=⟨fun _ _ h=>w9 (h1.run _ _ fun _=>⟨i,rfl,h⟩)⟩
theorem fo {es k pos ds} (h1:EvL X es σ ds σ₁) (hz:ds.length≤16777216):Ev X (.Tuple es k pos) σ (.tup ds) σ₁:=⟨fun _ _ h=>ny (h1.run _ _ _ fun _ _=>⟨hz,h⟩)⟩
theorem jp {es pos ds} (h1:EvL X es σ ds σ₁) (hz:ds.length≤16777216):Ev X (.List es pos) σ (.lst ds) σ₁:=⟨fun _ _ h=>nr (h1.run _ _ _ fun _ _=>⟨hz,h⟩)⟩
theorem zQ {ks es l pos} (h1:EvD X ks es σ l σ₁) (hn:cM (l.map (·.1))=true)
 (hs:autoParam ((evalEachOpt ks X.env).zip ((evalEach es X.env).map fun v=>do let x ←v;standAt pos;pure x)=(aw X.env pos ks es).map fun p=>(some p.1,p.2)) bR)
 (h0:aw X.env pos ks es≠[]:=by exact List.cons_ne_nil _ _) (hl:(aw X.env pos ks es).length≤15:=by exact lB0 (by rfl)):Ev X (.Dict ks es pos) σ (.dct l) σ₁:=
 ⟨fun _ _ h=>pI (h1.run _ _ _ ⟨bf hn,h⟩) hs h0 hl⟩
theorem wt:EvD X [] [] σ [] σ:=⟨fun _ _ _ h=>wg h⟩
theorem mZ {kk kp ks v vs l} (h1:Ev X v σ d σ₁) (h2:EvD X ks vs σ₁ l σ₂):EvD X (some (.Constant (.str x) kk kp)::ks) (v::vs) σ ((x,d)::l) σ₂:=⟨fun _ _ _ h=>sf (h1.run _ _ fun _=>h2.run _ _ _ h)⟩
theorem aq:EvL X [] σ [] σ:=⟨fun _ _ _ h=>mP (h [] rfl)⟩
theorem ai {e es ds} (h1:Ev X e σ d σ₁) (h2:EvL X es σ₁ ds σ₂) (he:autoParam (starEach (e::es) X.env=(false,eval e X.env)::starEach es X.env) bR):EvL X (e::es) σ (d::ds) σ₂:=
 ⟨fun _ _ _ h=>mQ (h1.run _ _ fun _=>h2.run _ _ _ fun _ hl=>h _ (congrArg (·+1) hl)) he⟩
theorem gv {e s pos} {i:AV} (h1:Ev X e σ o σ₁) (h2:Ev X s σ₁ i σ₂) (h3:cF X e s o i d σ₂):Ev X (.Subscript e s pos) σ d σ₂:=⟨fun _ _ h=>w8 (h1.run _ _ fun _=>h2.run _ _ fun _=>h3.run _ _ _ _ hd1 hd0 h)⟩
theorem bQ {e args pos ds dv} (h1:EvX X e σ f dv) (hk:d5 X f) (h2:EvL X args σ ds σ₁) (h3:aQ X f ds σ₁ d σ₂)
 (he:autoParam (eval (.Call e args [] pos) X.env=(do callWith pos (←eval e X.env) [] (backTo pos (starEach args X.env)) [])) bR) (hp:autoParam ((backTo pos (starEach args X.env)).any (·.1)=false) bR):Ev X (.Call e args [] pos) σ d σ₂:=
 ⟨fun _ _ h=>gm (h1.run _ _ (hk.run _ _ _ _ _ _ hp (h2.run _ _ _ fun _ hl=>h3.run _ _ _ hl (fun _ hp=>List.mem_append_left _ hp) h))) he⟩
theorem gb {vo:Value} {o:AV} {vs:List Value}:∀ p∈([vo]++vs).zip (o::ds),p∈vs.zip ds++((vo,o)::H):=fun p hp=>by
 rw [List.singleton_append,List.zip_cons_cons] at hp
 rcases mC0 hp with rfl | hp
 · exact List.mem_append_right _ (.head _)
 · exact List.mem_append_left _ hp
theorem iu {name:Str} {apos:Pos} {args:List Expr} {pl:Sem Bool} (h1:Ev X e σ o σ₁) (hm:e7 X o name f σ₁) (hk:d5 X f) (h2:EvL X args σ₁ ds σ₂) (h3:aQ X f (o::ds) σ₂ d σ₃)
 (he:autoParam (eval (.Call (.Attribute e name apos) args [] pos) X.env=(do
  let ov ←eval e X.env
  standAt apos.atName
  let (f,first) ←holding [ov] (getMethod ov name pl)
  callWith pos f first (backTo pos (starEach args X.env)) [])) bR) (hp:autoParam ((backTo pos (starEach args X.env)).any (·.1)=false) bR):Ev X (.Call (.Attribute e name apos) args [] pos) σ d σ₃:=
 ⟨fun _ _ h=>lu (h1.run _ _ fun _=>hm.run _ _ _ _ hd0 fun _=>hk.run _ _ _ _ _ _ hp (h2.run _ _ _ fun _ hl=>h3.run _ _ _ (by rw [List.length_append,List.length_singleton,List.length_cons,hl,Nat.add_comm]) gb h)) he⟩
theorem vL {l r:Expr} {op:CmpOp} (h1:Ev X l σ a σ₁) (h2:Ev X r σ₁ b σ₂) (h3:bF X op a b c σ₂) (hm:autoParam (behindInMarks op r=false) bW):Te X (.Compare l [op] [r] pos) σ c σ₂:=
 ⟨fun _ _ h=>iQ (h1.run _ _ fun _=>h2.run _ _ fun _=>h3.run _ _ _ _ hd1 hd0 fun _=>⟨c,rfl,h⟩) hm⟩
theorem pU (h1:Ev X e σ d σ₁) (h2:gI X d c σ₁) (hs:∀ whole,isTrue e X.env whole=(do let v ←whole;standAt e.pos;holding [v] (truthy v)):=by with_unfolding_all exact fun _=>rfl):Te X e σ c σ₁:=
 ⟨fun _ _ h=>jb (h1.run _ _ fun _=>h2.run _ _ _ hd0 h) hs⟩
theorem CU:Ex X (.Break pos) σ .brk σ:=⟨fun _ _ h=>nz h⟩
theorem fS (h1:Ev X e σ d σ₁):Ex X (.Return (some e) pos) σ (.ret d) σ₁:=⟨fun _ _ h=>kI (h1.run _ _ fun _=>h)⟩
theorem Dc {x y:List Stmt} {fl:Fl} (h1:Te X t σ c σ₁) (h2:Br c (ExB X x σ₁ fl σ₂) (ExB X y σ₁ fl σ₂)):Ex X (.If t x y pos) σ fl σ₂:=⟨fun _ _ h=>tY (h1.run _ _ ⟨fun q=>(h2.1 q).run _ _ h,fun q=>(h2.2 q).run _ _ h⟩)⟩
theorem hW (h1:Ev X e σ d σ₁) (hi:autoParam (interactive X.env=false) bR) (hs:autoParam (swapsWith e none pos.line X.env=pure false) bR):Ex X (.Expr e pos) σ .next σ₁:=⟨fun _ _ h=>lM (h1.run _ _ fun _=>h) hi hs⟩
theorem g9 (h1:Ev X e σ d σ₁) (h2:StR X x d σ₁ σ₂) (hs:autoParam (swapsWith e (some (.Name x p)) pos.line X.env=pure false) bR):Ex X (.Assign [.Name x p] e pos) σ .next σ₂:=
 ⟨fun _ _ h=>cV (h1.run _ _ fun _=>h2.run _ _ _ hd0 h) hs⟩
theorem wP {attr:Str} (h1:Ev X e σ d σ₁) (h2:Ev X t σ₁ o σ₂) (h3:kX X o attr d σ₂ σ₃) (hs:autoParam (swapsWith e (some (.Attribute t attr p)) pos.line X.env=pure false) bR):Ex X (.Assign [.Attribute t attr p] e pos) σ .next σ₃:=
 ⟨fun _ _ h=>cS (h1.run _ _ fun _=>h2.run _ _ fun _=>h3.run _ _ _ _ hd0 hd1 h) hs⟩
theorem oU {op:Operator} {loc:LL} {objs:OL} (hm:(x,some a)∈loc) (h1:Ev X e ⟨loc,objs⟩ b σ₁) (h2:oD X op a b d σ₁) (h3:StR X x d σ₁ σ₂) (hk:autoParam (X.env.scope.kind=.function) bR) (hl:autoParam (X.env.kindOf x=some .local) bK) (hL:autoParam (X.env.locals=X.L) bR):
 Ex X (.AugAssign (.Name x p) op e pos) ⟨loc,objs⟩ .next σ₂:=⟨fun _ _ h=>qJ (rJ (σ:=⟨loc,objs⟩) hm (fun _=>h1.run _ _ fun _=>h2.run _ _ _ _ hd1 hd0 fun _=>h3.run _ _ _ hd0 h) hk hl hL)⟩
theorem dM:ExB X [] σ .next σ:=⟨fun _ _ h=>wd h⟩
theorem bu {fl:Fl} (h1:Ex X s σ .next σ₁) (h2:ExB X ss σ₁ fl σ₂):ExB X (s::ss) σ fl σ₂:=⟨fun _ Φ h=>cQ (h1.run _ _ (h2.run _ Φ h))⟩
theorem fJ (h1:Ex X s σ (.ret d) σ₁):ExB X (s::ss) σ (.ret d) σ₁:=⟨fun H Φ h=>cQ (h1.run _ (dP X.B X.n X.L ss X.env H Φ) h)⟩
theorem BU (h1:Ex X s σ .brk σ₁):ExB X (s::ss) σ .brk σ₁:=⟨fun H Φ h=>cQ (h1.run _ (dP X.B X.n X.L ss X.env H Φ) h)⟩
end
end
section
variable {c:Nat} {id:String} {p:Pos} {d1:AV} {ss:List Stmt}
section
variable {X:Cx} {σ σ₁ σ₂ σ₃ σ':St} {d o a b:AV} {f:Value} {loc loc':LL} {objs objs':OL} {x y:List Nat} {i j:Int} {ms:List (List Nat)} {l:List AV}
theorem EJ:bF X .Lt (.int i) (.int j) (decide (i < j)) σ:=⟨fun _ _ _ _ ma mb h=>EZ ma mb h⟩
theorem DY:bF X .LtE (.int i) (.int j) (decide (i≤j)) σ:=⟨fun _ _ _ _ ma mb h=>Ej ma mb h⟩
theorem wu:bF X .Gt (.int i) (.int j) (decide (j < i)) σ:=⟨fun _ _ _ _ ma mb h=>DL ma mb h⟩
theorem EL:bF X .GtE (.int i) (.int j) (decide (j≤i)) σ:=⟨fun _ _ _ _ ma mb h=>Ek ma mb h⟩
theorem EH:bF X .Eq (.int i) (.int j) (decide (i=j)) σ:=⟨fun _ _ _ _ ma mb h=>E3 ma mb h⟩
theorem EK:bF X .NotEq (.int i) (.int j) (!decide (i=j)) σ:=⟨fun _ _ _ _ ma mb h=>Ee ma mb h⟩
theorem AM:bF X .Eq (.str x) (.str y) (decide (x=y)) σ:=⟨fun _ _ _ _ ma mb h=>BN ma mb h⟩
theorem CK:bF X .NotEq (.str x) (.str y) (!decide (x=y)) σ:=⟨fun _ _ _ _ ma mb h=>Bn ma mb h⟩
theorem CO {p q:Bool}:bF X .Eq (.bool p) (.bool q) (p==q) σ:=⟨fun _ _ _ _ ma mb h=>Ag ma mb h⟩
theorem yR (hy:PyData.strOk (S y)=true):bF X .Eq .none (.str y) false σ:=⟨fun _ _ _ _ ma mb h=>qo ma mb rfl rfl (by simp [SeqAt.shaped,PyData.canLay0,PyData.depth]) (by simp [SeqAt.shaped,PyData.canLay0,PyData.depth,hy]) (by simp [PyData.eqv]) h⟩
theorem EV {c:Bool} (hd:∀ P F v,Is P F v a→(v==Value.none)=c):bF X .Is a .none c σ:=⟨fun _ _ _ _ ma mb h=>sd ma mb hd h⟩
theorem yn {c:Bool} (hd:∀ P F v,Is P F v a→(v==Value.none)=c):bF X .IsNot a .none (!c) σ:=⟨fun _ _ _ _ ma mb h=>jO ma mb hd h⟩
theorem Cf (e:aD l=some ms):bF X .In (.str x) (.tup l) (decide (x∈ms)) σ:=⟨fun _ _ _ _ ma mb h=>vE ma mb e h⟩
theorem yY (e:aD l=some ms):bF X .NotIn (.str x) (.tup l) (!decide (x∈ms)) σ:=⟨fun _ _ _ _ ma mb h=>qX ma mb e h⟩
theorem Af {ks:List Int} (e:i6 l=some ks):bF X .In (.int i) (.tup l) (decide (i∈ks)) σ:=⟨fun _ _ _ _ ma mb h=>Df ma mb e h⟩
theorem Bi:bF X .In (.str [c]) (.str x) (decide (c∈x)) σ:=⟨fun _ _ _ _ ma mb h=>wf ma mb h⟩
theorem na:iE X .Add (.int i) (.int j) (.int (i+j)) σ:=⟨fun _ _ _ _ ma mb h=>Bt ma mb h⟩
theorem we:iE X .Sub (.int i) (.int j) (.int (i - j)) σ:=⟨fun _ _ _ _ ma mb h=>Db ma mb h⟩
theorem qN (hj:j≠0):iE X .Mod (.int i) (.int j) (.int (i.fmod j)) σ:=⟨fun _ _ _ _ ma mb h=>Ak ma mb hj h⟩
theorem yl (hz:x.length+y.length≤16777216):iE X .Add (.str x) (.str y) (.str (x++y)) σ:=⟨fun _ _ _ _ ma mb h=>xy ma mb hz h⟩
theorem BP:oD X .Add (.int i) (.int j) (.int (i+j)) σ:=⟨fun _ _ _ _ ma mb h=>zD ma mb h⟩
theorem Bm:oD X .Sub (.int i) (.int j) (.int (i - j)) σ:=⟨fun _ _ _ _ ma mb h=>yZ ma mb h⟩
theorem jv (hz:x.length+y.length≤16777216):oD X .Add (.str x) (.str y) (.str (x++y)) σ:=⟨fun _ _ _ _ ma mb h=>uw ma mb hz h⟩
theorem jH {c:Bool}:gI X (.bool c) c σ:=⟨fun _ _ _ m h=>eZ m h⟩
theorem y7:gI X .none false σ:=⟨fun _ _ _ m h=>zg m h⟩
theorem C4:gI X (.int i) (!decide (i=0)) σ:=⟨fun _ _ _ m h=>Cv m h⟩
theorem CX (hz:x.length≤16777216):gI X (.str x) (!decide (x=[])) σ:=⟨fun _ _ _ m h=>CR m hz h⟩
theorem zm {s:Addr}:gI X (.meth g s) true σ:=⟨fun _ _ _ m h=>yF m h⟩
theorem xz {c:Addr} (m:(c,AO.list l)∈objs) (hz:l.length≤16777216):gI X (.ref c) (!l.isEmpty) ⟨loc,objs⟩:=⟨fun _ _ _ mv h=>A1 (σ:=⟨loc,objs⟩) mv m hz h⟩
variable {s:Addr} {C dx:Addr} {fs fs':FL} {name:Str} {g:Addr}
theorem xk (m:(s,AO.inst C dx fs)∈objs) (hf:k5 name d fs) (ho:cr X.B.K C name=true) (hd:cJ d=true):jn X (.ref s) name d ⟨loc,objs⟩:=⟨fun _ _ _ mv h=>BF (σ:=⟨loc,objs⟩) mv m hf ho hd h⟩
theorem Cr (m:(s,AO.inst C dx fs)∈objs) (hf:bB name fs=none) (ho:bV X.B.K C name g=true):jn X (.ref s) name (.meth g s) ⟨loc,objs⟩:=⟨fun _ _ _ mv h=>t9 (σ:=⟨loc,objs⟩) mv m ho hf h⟩
theorem D2 (m:(s,AO.inst C dx fs)∈objs) (hf:bB name fs=none) (ho:hM X.B.K C name=some i):jn X (.ref s) name (.int i) ⟨loc,objs⟩:=⟨fun _ _ _ mv h=>rx (σ:=⟨loc,objs⟩) mv m ho hf h⟩
theorem k7 (m:(s,AO.inst C dx fs)∈objs) (hp:gJ name d fs fs') (hc:Chg s (.inst C dx fs) (.inst C dx fs') objs objs') (ho:dt X.B.K C name=true) (hz:fs.length≤900:=by simp):kX X (.ref s) name d ⟨loc,objs⟩ ⟨loc,objs'⟩:=
 ⟨fun _ _ _ _ mv md h=>BC mv md m hp hc ho hz h⟩
theorem jr (m:(s,AO.inst C dx fs)∈objs) (hf:bB name fs=none) (ho:bV X.B.K C name g=true):e7 X (.ref s) name (.ref g) ⟨loc,objs⟩:=⟨fun _ _ _ _ mv h=>qq (σ:=⟨loc,objs⟩) mv m ho hf h⟩
theorem qh (slot:Slot "str" name id) (ty:typeOf (.builtin id)=pure (.type "method_descriptor")):e7 X (.str x) name (.builtin id) σ:=⟨fun _ _ _ _ mv h=>Cj mv slot ty h⟩
theorem qd {c:Addr} (m:(c,AO.list l)∈objs) (slot:Slot "list" name id) (ty:typeOf (.builtin id)=pure (.type "method_descriptor")):e7 X (.ref c) name (.builtin id) ⟨loc,objs⟩:=⟨fun _ _ _ _ mv h=>wN (σ:=⟨loc,objs⟩) mv m slot ty h⟩
theorem Aw (m:(s,AO.inst C dx fs)∈objs) (hf:k5 name d fs) (ho:cr X.B.K C name=true) (hn:findIn X.B.K (.ref C) name=some none) (hd:cJ d=true):qk X (.ref s) name d ⟨loc,objs⟩:=⟨fun _ _ _ _ mv h=>gy (σ:=⟨loc,objs⟩) mv m ho hn hf.eq hd h⟩
theorem bk {nm:Str} (m:eF nm d loc loc') (hl:autoParam (X.env.kindOf nm=some .local) bK) (hL:autoParam (X.env.locals=X.L) bR) (hp:autoParam ((X.env.scope.kind==.class||(X.env.scope.kind==.module&&X.env.locals !=X.env.globals))=false) bR):StR X nm d ⟨loc,objs⟩ ⟨loc',objs⟩:=
 ⟨fun _ _ _ md h=>ib md m h hl hL hp⟩
theorem bU {nm:Str} (h1:StR X nm d σ σ'):AsR X (.Name nm p) d σ σ':=⟨fun _ _ _ md h=>jh (h1.run _ _ _ md h)⟩
variable {e1 e2:Expr} {k:Nat}
theorem B3 (hc:at? x i=some c) (hz:x.length≤16777216) (hs:∀ o i,∃ ops,subscripted e2 false o i=operate ops (getItem o i):=by exact fun _ _=>⟨_,rfl⟩):cF X e1 e2 (.str x) (.int i) (.str [c]) σ:=⟨fun _ _ _ _ mo mi h=>C5 mo mi hc hz h (hs _ _)⟩
theorem iW {fs:FL} (hd:bB (S x) fs=some d) (hs:∀ o i,∃ ops,subscripted e2 false o i=operate ops (getItem o i):=by exact fun _ _=>⟨_,rfl⟩):cF X e1 e2 (.dct fs) (.str x) d σ:=⟨fun _ _ _ _ mo mi h=>Al mo mi hd h (hs _ _)⟩
theorem cA (hk:keepIn X.B.K (.ref g)=true):d5 X (.ref g):=⟨fun _ _ _ _ _ _ hp h=>gN hk h hp⟩
theorem c9:d5 X (.builtin id):=⟨fun _ _ _ _ _ _ hp h=>v9 h hp⟩
theorem Dd {T:String}:d5 X (.type T):=⟨fun _ _ _ _ _ _ hp h=>vA h hp⟩
theorem r_J {m:Nat} {ds:List AV} (c:a4 X.B m g ds objs fun d' o'=>d'=d∧o'=objs') (hm:m≤X.n):aQ X (.ref g) ds ⟨loc,objs⟩ d ⟨loc,objs'⟩:=⟨fun _ _ _ hl hp h=>gT c hm hl hp fun d' o' e v=>by obtain ⟨rfl,rfl⟩:=e;exact h v⟩
theorem cI {α:Type} {n:Nat} {l:List α} (e:l.length=n+1):∃ a r,l=a::r∧r.length=n:=by
 induction l using List.casesOn with
 | nil=>contradiction
 | cons a r=>exact ⟨a,r,rfl,Nat.succ.inj e⟩
theorem gZ {α:Type} {l:List α} (e:l.length=0):l=[]:=List.eq_nil_of_length_eq_zero e
theorem gu (h:∀ (H:HL) v (Φ:PV),(v,d1)∈H→(∀ w,Φ w d σ')→WV X.B X.n X.L (call f [v]) H σ Φ):aQ X f [d1] σ d σ':=⟨fun H vs Φ hl hp k=>by
 refine x22 (cI hl) ?_;rintro v r rfl hl1
 cases gZ hl1
 exact h H v Φ (hp _ (.head _)) k⟩
theorem fA {d2:AV} (h:∀ (H:HL) v w (Φ:PV),(v,d1)∈H→(w,d2)∈H→(∀ w,Φ w d σ')→WV X.B X.n X.L (call f [v,w]) H σ Φ):aQ X f [d1,d2] σ d σ':=⟨fun H vs Φ hl hp k=>by
 refine x22 (cI hl) ?_;rintro v r rfl hl1
 refine x22 (cI hl1) ?_;rintro w r rfl hl2
 cases gZ hl2
 exact h H v w Φ (hp _ (.head _)) (hp _ (.tail _ (.head _))) k⟩
theorem vQ {d2 d3 d4:AV} (h:∀ (H:HL) v1 v2 v3 v4 (Φ:PV),(v1,d1)∈H→(v2,d2)∈H→(v3,d3)∈H→(v4,d4)∈H→(∀ w,Φ w d σ')→WV X.B X.n X.L (call f [v1,v2,v3,v4]) H σ Φ):aQ X f [d1,d2,d3,d4] σ d σ':=⟨fun H vs Φ hl hp k=>by
 refine x22 (cI hl) ?_;rintro v1 r rfl hl1
 refine x22 (cI hl1) ?_;rintro v2 r rfl hl2
 refine x22 (cI hl2) ?_;rintro v3 r rfl hl3
 refine x22 (cI hl3) ?_;rintro v4 r rfl hl4
 cases gZ hl4
 exact h H v1 v2 v3 v4 Φ (hp _ (.head _)) (hp _ (.tail _ (.head _))) (hp _ (.tail _ (.tail _ (.head _)))) (hp _ (.tail _ (.tail _ (.tail _ (.head _))))) k⟩
theorem hX (hz:x.length≤16777216):aQ X (.builtin "len") [.str x] σ (.int x.length) σ:=gu fun _ _ _ m h=>yH m hz h
theorem yc {c:Addr} (m:(c,AO.list l)∈objs) (hz:l.length≤16777216):aQ X (.builtin "len") [.ref c] ⟨loc,objs⟩ (.int l.length) ⟨loc,objs⟩:=gu fun _ _ _ mv h=>xE (σ:=⟨loc,objs⟩) mv m hz h
theorem Bd:aQ X (.builtin "ord") [.str [c]] σ (.int c) σ:=gu fun _ _ _ m h=>CF m h
theorem vx:aQ X (.builtin "str.count") [.str x,.str [c],.int 0,.int i] σ (.int (aY c x i)) σ:=vQ fun _ _ _ _ _ _ m1 m2 m3 m4 h=>qm m1 m2 m3 m4 h
theorem tv:aQ X (.builtin "str.rfind") [.str x,.str [c],.int 0,.int i] σ (.int (cY c x i)) σ:=vQ fun _ _ _ _ _ _ m1 m2 m3 m4 h=>qK m1 m2 m3 m4 h
theorem kP {c:Addr} (m:Chg c (.list l) (.list (l++[d])) objs objs') (hz:l.length≤16777216):aQ X (.builtin "list.append") [.ref c,d] ⟨loc,objs⟩ .none ⟨loc,objs'⟩:=fA fun _ _ _ _ mv md h=>fF (σ:=⟨loc,objs⟩) mv md m hz (h _)
theorem ql {c:Addr} (m:(c,AO.list l)∈objs) (e:aD l=some ms) (hz:ms.flatten.length≤16777216):aQ X (.builtin "str.join") [.str [],.ref c] ⟨loc,objs⟩ (.str ms.flatten) ⟨loc,objs⟩:=fA fun _ _ _ _ mv md h=>yk (σ:=⟨loc,objs⟩) mv md m e hz h
theorem gc {st:Stmt} (h1:Ex X st σ .next σ₁) (h2:ExP X ss σ₁ fl σ₂):ExP X (st::ss) σ fl σ₂:=⟨fun H Φ h=>BW (h1.run _ (dQ X.B X.n X.L ss X.env H Φ) (h2.run _ Φ h))⟩
theorem zV (h1:ExB X ss σ fl σ₁):ExP X ss σ fl σ₁:=⟨fun _ _ h=>CZ (h1.run _ _ h)⟩
theorem tV {i:Int} {kk:Nat} {kp:Pos} {t:Expr} {attr:Str} {pos:Pos} (h1:Ev X t σ o σ₁) (h2:kX X o attr (.int i) σ₁ σ₂) (h3:ExP X ss σ₂ fl σ₃):ExB X (.Assign [.Attribute t attr p] (.Constant (.int i) kk kp) pos::ss) σ fl σ₃:=
 ⟨fun H Φ h=>sZ fun _=>h1.run _ _ fun _=>h2.run _ _ _ _ hd0 hd1 (h3.run H Φ h)⟩
theorem hV {u v:Str} {ca cb:Str} {la lb l:List Nat} {q ap pos pos':Pos} {ka kb:Nat} {pa pb:Pos} (ea:ca=S la) (eb:cb=S lb) (m:(v,some (.str l))∈loc) (sl:eF u (.str (e8 l la lb)) loc loc')
 (hz:l.length≤1048576) (h:ExP X ss ⟨loc',objs⟩ fl σ') (hb:lb.length≤14:=by decide) (hk:autoParam (X.env.scope.kind=.function) bR) (hy:autoParam (X.env.kindOf v=some .local) bK) (hx:autoParam (X.env.kindOf u=some .local) bK) (hL:autoParam (X.env.locals=X.L) bR) (hd:autoParam ((v==("__debug__":Str))=false) bK)
 (hp:autoParam ((X.env.scope.kind==.class||(X.env.scope.kind==.module&&X.env.locals !=X.env.globals))=false) bR) (hne:(S la==S lb)=false:=by decide) (hline:autoParam ((ap.endLine==pos'.line)=true) bR)
 (hs:autoParam (swapsWith (.Call (.Attribute (.Name v q) "replace" ap) [.Constant (.str ca) ka pa,.Constant (.str cb) kb pb] [] pos') (some (.Name u p)) pos.line X.env=pure false) bR):
 ExP X (.Assign [.Name u p] (.Call (.Attribute (.Name v q) "replace" ap) [.Constant (.str ca) ka pa,.Constant (.str cb) kb pb] [] pos') pos::ss) ⟨loc,objs⟩ fl σ':=⟨fun H Φ k=>o7 ea eb m sl hz hb hk hy hx hL hd hp hne hline (h.run H Φ k) hs⟩
end
section
variable {X:Cx} {σ σ₁ σ':St} {d:AV} {fl f₁:Fl}
noncomputable def SqB (X:Cx) (ss:List Stmt):Fl→St→PF
 | .next,σ,fl,σ'=>ExB X ss σ fl σ'
 | f,σ,fl,σ'=>fl=f∧σ'=σ
noncomputable def Cs:Fl→AV→Prop
 | .ret d,e=>d=e
 | .next,e=>e=.none
 | _,_=>False
end
theorem iG {B:a5} {n:Nat} {objs objs':OL} {name qual:Str} {params:Arguments} {body body':List Stmt} {scope scope':Scope} {dV kV doc pm cdv ct oc:Value} {an od:Option Addr} {osl:Array (Option Value)} {f:Addr} {args ds:List AV} {d:AV} {loc:LL} (ps xs:List Str)
 (ho:B.K.lookup f=some ⟨oc,od,.func (fnOf name qual params body scope dV kV doc pm an cdv ct),osl⟩) (hcd:codeIn B.K cdv qual=true)
 (hb:b8 B (fnOf name qual params body scope dV kV doc pm an cdv ct) ps args ds) (h:∀ L,∃ fl loc' o',ExB ⟨B,n,L,envOf qual scope' L f cdv⟩ body' ⟨loc,objs⟩ fl ⟨loc',o'⟩∧Cs fl d∧o'=objs')
 (eb:body=body':=by (conv=>lhs;whnf)) (es:scope=scope':=by (conv=>lhs;whnf))
 (hloc:bT ps ds++bare xs=loc:=by simp only [bT,bare,List.map_cons,List.map_nil,List.cons_append,List.nil_append]<;>rfl) (hl:autoParam (ps.length=ds.length) bR) (hn:(ps++xs).Nodup:=by decide) (hps:autoParam (ps.all (fun y=>scope'.names.lookup y==some .local)=true) bR)
 (hco:autoParam (scope'.isCoroutine=false) bR) (hgen:autoParam (scope'.isGenerator=false) bR) (hk:autoParam (scope'.kind=.function) bR) (hcell:∀ x∈scope'.names,x.2≠.cell:=by decide):a4 B (n+1) f args objs fun d' o=>d'=d∧o=objs':=
 uO ps xs ho hcd hb (fun L=>by
 refine x33 (h L) ?_;rintro fl loc' o' e r rfl
 refine e.run _ _ ?_
 cases fl with
 | ret d=>exact ⟨r,rfl⟩
 | next=>exact ⟨r.symm,rfl⟩
 | brk=>exact r.elim
 | cont=>exact r.elim) eb es hloc hl hn hps hco hgen hk hcell
end
section
variable {X:Cx} {σ:St}
theorem F9 {a b:Nat} (h:a≤b):a≤b:=h
theorem F4 {b:Bool} (h:b=true):b=true:=h
theorem Fe {e:Expr} {σ':St} {d:AV} (h:Ev X e σ d σ'):Ev X e σ d σ':=h
theorem Fd {e:Stmt} {σ':St} {f:Fl} (h:Ex X e σ f σ'):Ex X e σ f σ':=h
theorem Ef {op:CmpOp} {a b:AV} {c:Bool} (h:bF X op a b c σ):bF X op a b c σ:=h
theorem ne1 {z k:Nat} (h:z≠k):decide ([z]=[k])=false:=decide_eq_false fun q=>h (List.cons.inj q).1
theorem Dq {p:Prop} (h:p):p:=h
end
section
variable {d:AV} {b:Bool} {e:List Expr} {v:Value}
section
variable {X:Cx} {σ σ':St}
theorem E5 {es:List Expr} {ds:List AV} (h:EvL X es σ ds σ'):EvL X es σ ds σ':=h
theorem DA {e:Option Expr} (h:EvP X e σ d σ'):EvP X e σ d σ':=h
theorem EI {ss:List Stmt} {f:Fl} (h:ExB X ss σ f σ'):ExB X ss σ f σ':=h
theorem DH {ss:List Stmt} {f f':Fl} (h:SqB X ss f σ f' σ'):SqB X ss f σ f' σ':=h
theorem F8 {e:Expr} (h:Te X e σ b σ'):Te X e σ b σ':=h
theorem Dz (h:TeA X e σ b σ'):TeA X e σ b σ':=h
theorem DN (h:TeO X e σ b σ'):TeO X e σ b σ':=h
theorem ER (h:EvO X e σ d σ'):EvO X e σ d σ':=h
theorem E2 (h:EvA X e σ d σ'):EvA X e σ d σ':=h
theorem E7 {ks:List (Option Expr)} {l:FL} (h:EvD X ks e σ l σ'):EvD X ks e σ l σ':=h
theorem Fa {c:Bool} {p q:Prop} (h:Br c p q):Br c p q:=h
theorem EF {x:Str} (h:StR X x d σ σ'):StR X x d σ σ':=h
theorem DC {x:Expr} (h:AsR X x d σ σ'):AsR X x d σ σ':=h
theorem Dp {op:Operator} {a b:AV} (h:iE X op a b d σ):iE X op a b d σ:=h
theorem D3 {e1 e2:Expr} {a b:AV} (h:cF X e1 e2 a b d σ):cF X e1 e2 a b d σ:=h
theorem D8 (h:d5 X v):d5 X v:=h
theorem Ca {o:AV} {x:Str} (h:e7 X o x v σ):e7 X o x v σ:=h
theorem C3 {f:Value} {ds:List AV} (h:aQ X f ds σ d σ'):aQ X f ds σ d σ':=h
theorem Fc (h:σ=σ'):σ=σ':=h
theorem F6 {α:Sort _} {p:α→Prop} (h:∃ x,p x):∃ x,p x:=h
theorem Fb {α:Sort _} {p:α→Prop} (h:∀ x,p x):∀ x,p x:=h
theorem DT {e:Expr} (h:EvX X e σ v d):EvX X e σ v d:=h
end
end
section
noncomputable abbrev dc (acc:List Nat):AO:=.dict [("type",.int 6),("data",.str acc)]
noncomputable abbrev gH (acc:List Nat):AV:=.dct [("type",.int 6),("data",.str acc)]
section
variable {X:Cx} {σ σ₁:St} {a c:Addr} {loc loc':LL} {objs objs' objs'':OL} {acc y:List Nat} {l:FL} {ks:List AV}
theorem oX (tk:eW a (.dict l) objs objs') (m:Chg c (.list ks) (.list (ks++[.dct l])) objs' objs'') (hz:ks.length≤16777216):aQ X (.builtin "list.append") [.ref c,.ref a] ⟨loc,objs⟩ .none ⟨loc,objs''⟩:=
 fA fun _ _ _ _ mv md h=>vH md tk (fF (σ:=⟨loc,objs'⟩) (.tail _ mv) (.head _) m hz (h _))
end
theorem ED {p:Addr×AO} {l:OL} (h:p∈l):p∈l:=h
theorem Eu {a:Addr} {o o':AO} {l l':OL} (h:Chg a o o' l l'):Chg a o o' l l':=h
end
section
noncomputable def Mk {α:Type} (t:Sem α):Prop:=∀ (M:Model) (Γ:Ctx) {Q:α→Pos→Shared→Prop} {E:Value→Pos→Shared→Prop} {p:Pos} {s:Shared},Sem.wp M Γ t Q E p s→Sem.wp M Γ t (fun a p' s'=>0 < s'.toks∧Q a p' s') E p s
section
variable {α β:Type}
theorem Mk.fst {t:Sem α} {k:α→Sem β} (h:Mk t):Mk (t >>= k):=fun M Γ {Q E p s} w=>by
 rw [Sem.wp_bind'] at w ⊢
 exact Sem.wp_mono M Γ t (fun a p' s' ⟨ht,q⟩=>n6 M Γ (k a) 1 ht q) (fun _ _ _ e=>e) p s (h M Γ w)
theorem Mk.snd {t:Sem α} {k:α→Sem β} (h:∀ a,Mk (k a)):Mk (t >>= k):=fun M Γ {Q E p s} w=>by
 rw [Sem.wp_bind'] at w ⊢
 exact Sem.wp_mono M Γ t (fun a p' s' q=>h a M Γ q) (fun _ _ _ e=>e) p s w
theorem Mk.hold {vs:List Value} {t:Sem α} (h:Mk t):Mk (holding vs t):=fun M Γ {Q E p s} w=>by
 rw [Sem.wp_holding] at w ⊢
 exact h M Γ w
theorem Mk.str {x:Str} {k pos} {env:Env}:Mk (eval (.Constant (.str x) k pos) env):=fun M Γ {Q E p s} w=>⟨Nat.succ_pos _,w⟩
theorem Mk.args {f:Value} {x:Sem Value} {rest:List (Bool×Sem Value)} (h:Mk x):Mk (evalArgs f true ((false,x)::rest) []):=by
 unfold evalArgs
 refine Mk.fst ?_
 exact h.fst
theorem Mk.callW {pos:Pos} {f:Value} {first:List Value} {x:Sem Value} {rest:List (Bool×Sem Value)} (h:Mk x):Mk (callWith pos f first ((false,x)::rest) []):=by
 unfold callWith
 exact (Mk.args h).hold.fst
end
section
variable {B:a5} {n:Nat} {L:Addr} {H:HL} {σ:St} {env:Env}
theorem E6 {st:Stmt} {rest:List Stmt} {Φ:PF} (mk:Mk (exec st env)) (h:WF B n L (exec st env) H σ (dQ B n L rest env H Φ)):WF B n L (execs (st::rest) env) H σ Φ:=a7 fun A F s hA x=>by
 rw [execs_cons]
 have w:=h.run A F s hA x
 refine wpAny_bind (wpAny_mono (Q:=fun f s'=>0 < s'.toks∧ae B L H σ F s s' fun F' σ'=>∃ e,iw B.P F' f e∧dQ B n L rest env H Φ e σ') (fun Γ p hΓ=>mk B.M Γ (w Γ p hΓ)) (fun f s₁ z=>?_) fun _ _ z=>z)
 have:=eM (s₁:=s₁) hA z.1 z.2
 rcases f with _ | _<;>exact this
theorem Mk.assignCall {x:Str} {e:Expr} {name:Str} {c:Str} {k:Nat} {kp p apos pos' pos:Pos} {pl:Sem Bool} (hs:swapsWith (.Call (.Attribute e name apos) [.Constant (.str c) k kp] [] pos') (some (.Name x p)) pos.line env=pure false)
 (he:eval (.Call (.Attribute e name apos) [.Constant (.str c) k kp] [] pos') env=(do
  let ov ←eval e env
  standAt apos.atName
  let (f,first) ←holding [ov] (getMethod ov name pl)
  callWith pos' f first (backTo pos' (starEach [.Constant (.str c) k kp] env)) [])):Mk (exec (.Assign [.Name x p] (.Call (.Attribute e name apos) [.Constant (.str c) k kp] [] pos') pos) env):=by
 rw [exec_Assign_Name env x p _ pos hs,he]
 refine Mk.snd fun _=>Mk.fst (Mk.snd fun ov=>Mk.snd fun _=>Mk.snd fun fp=>?_)
 exact Mk.callW (Mk.str (x:=c) (k:=k) (pos:=kp) (env:=env))
end
theorem Ec {X:Cx} {σ σ₁ σ₂:St} {st:Stmt} {ss:List Stmt} {fl:Fl} (mk:Mk (exec st X.env)) (h1:Ex X st σ .next σ₁) (h2:ExP X ss σ₁ fl σ₂):ExB X (st::ss) σ fl σ₂:=⟨fun H Φ h=>E6 mk (h1.run _ (dQ X.B X.n X.L ss X.env H Φ) (h2.run _ Φ h))⟩
end
section
section
variable {B:a5} {n:Nat} {L:Addr} {H:HL} {σ:St} {env:Env}
theorem yx {value slice:Expr} {o i:Value} {a:Addr} {l:List AV} {d:AV} {Φ:PV} (mo:(o,.ref a)∈H) (ma:(a,AO.list (l++[d]))∈σ.objs) (mi:(i,.int (-1))∈H) (hz:l.length≤16777000) (h:∀ v,Φ v d σ)
 (hs:∃ ops,subscripted slice false o i=operate ops (getItem o i)):WV B n L (subscriptTail value slice o i) H σ Φ:=by
 refine cU (T:="list") (fun F s X=>?_) slot_list_getitem.lookup (a7 fun A F s hA X=>?_) hs
 · obtain rfl:=al (X.hold mo);refine x22 (X.objs _ ma) ?_;rintro vs q h1 h2;exact ⟨_,h1,rfl⟩
 · obtain rfl:=al (X.hold mo)
   refine x22 (X.objs _ ma) ?_;rintro vs q h1 h2
   obtain ⟨u,rfl⟩:=ah (X.hold mi)
   have hlen:=h2.length
   rw [List.length_append,List.length_singleton] at hlen
   refine x12 (fG.nth h2 (k:=l.length) (d:=d) (by simp)) ?_;rintro y hy hyd
   refine wpAny_getItem_list_neg (l:=a) (items:=vs.toArray) ⟨_,h1,rfl,_,rfl⟩ (by decide) (by simp;omega) (by decide) ?_ (.here X ⟨d,hyd,h _⟩)
   have:((-1:Int)+(vs.toArray.size:Nat)).toNat=l.length:=by simp;omega
   rw [this]
   simpa using hy
theorem xq {a:Addr} {l:List AV} {d:AV} {v₀:Value} {loc:LL} {objs objs':OL} {Φ:PV} (mv:(v₀,.ref a)∈H) (m:Chg a (.list (l++[d])) (.list l) objs objs') (hz:l.length≤16777000)
 (h :∀ v,Φ v d ⟨loc,objs'⟩):WV B n L (call (.builtin "list.pop") [v₀]) H ⟨loc,objs⟩ Φ:=a7 fun A F s hA X=>by
 refine x22 (m.split) ?_;rintro pre post rfl rfl
 obtain rfl:=al (X.hold mv)
 refine x22 (X.objs (a,.list (l++[d])) (by simp)) ?_;rintro vs q h1 h2
 have hlen:=h2.length
 rw [List.length_append,List.length_singleton] at hlen
 refine x12 (fG.nth h2 (k:=l.length) (d:=d) (by simp)) ?_;rintro y hy hyd
 have hvs:IsAll B.P F vs.dropLast l:=by
  have:=fG.era h2 l.length
  rw [List.eraseIdx_append_of_length_le (Nat.le_refl _),Nat.sub_self] at this
  rw [show vs.dropLast=vs.eraseIdx l.length from by rw [←List.eraseIdx_eq_dropLast];congr 1;omega]
  simpa using this
 refine PyProof.Rows.Copied.pop_at (D:=a) (its:=vs.toArray) (n:=q) h1 (by simpa [hlen] using hy) (fun h' sb hg=>?_) (by rw [az];simp;omega)
 refine ae.change (o':=.list l) X (c:=a) (.inl rfl) rfl (fun b y _ q e=>(sb.2 b q).trans e) ?_ ⟨vs.dropLast,q+1,?_,hvs⟩ rfl rfl ⟨d,hyd,h _⟩
 · refine x12 (X.frame) ?_;rintro m₀ FR hl
   exact ⟨m₀,FR.ns.sameBut sb (fun e=>(List.nodup_cons.mp X.nodup).1 (by rw [e];exact ay.mpr ⟨_,List.mem_append_right _ (.head _),.inl rfl⟩)),hl⟩
 · rw [hg];simp [aA]
end
end
section
variable {ss:List Stmt} {t:Expr} {pos:Pos} {ds:List AV}
structure bg (X:Cx) (ss:List Stmt) (σ:St) (Q:PF):Prop where
 run:∀ (H:HL) (Φ:PF),(∀ f σ',Q f σ'→Φ f σ')→WF X.B X.n X.L (execs ss X.env) H σ Φ
structure ExQ (X:Cx) (s:Stmt) (σ:St) (Q:PF):Prop where
 run:∀ (H:HL) (Φ:PF),(∀ f σ',Q f σ'→Φ f σ')→WF X.B X.n X.L (exec s X.env) H σ Φ
inductive e9 (X:Cx) (t:Expr) (body:List Stmt):Nat→St→St→Prop
 | done {σ σ'}:Te X t σ false σ'→e9 X t body 0 σ σ'
 | step {k σ σ₁ σ₂ σ'}:Te X t σ true σ₁→ExB X body σ₁ .next σ₂→e9 X t body k σ₂ σ'→e9 X t body (k+1) σ σ'
section
variable {X:Cx} {σ σ₁ σ₂ σ':St} {Q:PF} {loc loc':LL} {objs objs':OL} {a:Addr} {l:List AV} {d o:AV}
theorem cE {f:Fl} (h1:ExB X ss σ f σ') (h2:Q f σ'):bg X ss σ Q:=⟨fun _ _ h=>h1.run _ _ (h _ _ h2)⟩
theorem aL {s:Stmt} (h1:Ex X s σ .next σ₁) (h2:bg X ss σ₁ Q):bg X (s::ss) σ Q:=⟨fun H Φ h=>cQ (h1.run _ (dP X.B X.n X.L ss X.env H Φ) (h2.run _ Φ h))⟩
theorem t6 {s:Stmt} (h1:ExQ X s σ fun f σ'=>f≠.next∧Q f σ'):bg X (s::ss) σ Q:=⟨fun H Φ h=>cQ (h1.run _ (dP X.B X.n X.L ss X.env H Φ) fun f σ' ⟨ne,q⟩=>by
 induction f using Fl.casesOn with
 | next=>exact absurd rfl ne
 | ret d=>exact h _ _ q
 | brk=>exact h _ _ q
 | cont=>exact h _ _ q)⟩
theorem Ck {x y:List Stmt} {c:Bool} (h1:Te X t σ c σ₁) (h2:Br c (bg X x σ₁ Q) (bg X y σ₁ Q)):ExQ X (.If t x y pos) σ Q:=⟨fun _ _ h=>tY (h1.run _ _ ⟨fun q=>(h2.1 q).run _ _ h,fun q=>(h2.2 q).run _ _ h⟩)⟩
theorem dI {x:Str} {es:List Expr} {p lp:Pos} (h1:EvL X es σ ds ⟨loc,objs⟩) (hz:ds.length≤16777216) (h2:∀ a,∃ loc',eF x (.ref a) loc loc'∧bg X ss ⟨loc',(a,.list ds)::objs⟩ Q)
 (hs:autoParam (swapsWith (.List es lp) (some (.Name x p)) pos.line X.env=pure false) bR) (hl:autoParam (X.env.kindOf x=some .local) bK) (hL:autoParam (X.env.locals=X.L) bR) (hp:autoParam ((X.env.scope.kind==.class||(X.env.scope.kind==.module&&X.env.locals !=X.env.globals))=false) bR):
 bg X (.Assign [.Name x p] (.List es lp) pos::ss) σ Q:=⟨fun H Φ h=>cQ (cV (ll (h1.run _ _ _ fun _ _=>⟨hz,fun a=>by
 refine x12 (h2 a) ?_;rintro loc' hs' w
 exact ib hd0 hs' (w.run _ Φ h) hl hL hp⟩)) hs)⟩
theorem mS {body:List Stmt} {k:Nat} (r:e9 X t body k σ σ'):Ex X (.While t body [] pos) σ .next σ':=⟨fun _ Φ h=>js (fun k σ=>e9 X t body k σ σ') k r fun k σ r=>by
 cases r with
 | done ht=>exact ht.run _ _ ⟨(fun q=>nomatch q),fun _=>h⟩
 | @step k' _ σ₁ σ₂ _ ht hb r=>exact ht.run _ _ ⟨fun _=>hb.run _ (jC (fun σ₂=>∃ m,m < k'+1∧e9 X t body m σ₂ σ') Φ) ⟨k',Nat.lt_succ_self _,r⟩,fun q=>nomatch q⟩⟩
theorem pR {e1 e2:Expr} (m:(a,AO.list (l++[d]))∈objs) (hz:l.length≤16777000) (hs:∀ o i,∃ ops,subscripted e2 false o i=operate ops (getItem o i):=by exact fun _ _=>⟨_,rfl⟩):cF X e1 e2 (.ref a) (.int (-1)) d ⟨loc,objs⟩:=
 ⟨fun _ _ _ _ mo mi h=>yx (σ:=⟨loc,objs⟩) mo m mi hz h (hs _ _)⟩
theorem xV (m:Chg a (.list (l++[d])) (.list l) objs objs') (hz:l.length≤16777000):aQ X (.builtin "list.pop") [.ref a] ⟨loc,objs⟩ d ⟨loc,objs'⟩:=gu fun _ _ _ mv h=>xq mv m hz h
theorem wR {ps:List PyData} (he:dataAll ds=some ps) (sq:PyData.canLayAll0 ps=true) (hc:(ps.any fun y=>PyData.eqv y .none)=false):bF X .In .none (.tup ds) false σ:=⟨fun _ _ _ _ ma mb h=>qe (p:=.none) ma mb rfl he rfl sq (by decide) hc h⟩
end
theorem mN {B:a5} {n:Nat} {objs:OL} {name qual:Str} {params:Arguments} {body body':List Stmt} {scope scope':Scope} {dV kV doc pm cdv ct oc:Value} {an od:Option Addr} {osl:Array (Option Value)} {f:Addr} {args:List AV} {P:AV→OL→Prop} {loc:LL} (ps xs:List Str)
 (ho:B.K.lookup f=some ⟨oc,od,.func (fnOf name qual params body scope dV kV doc pm an cdv ct),osl⟩) (hcd:codeIn B.K cdv qual=true)
 (hb:b8 B (fnOf name qual params body scope dV kV doc pm an cdv ct) ps args ds) (h:∀ L,bg ⟨B,n,L,envOf qual scope' L f cdv⟩ body' ⟨loc,objs⟩ fun f σ'=>∃ d,f=.ret d∧P d σ'.objs)
 (eb:body=body':=by (conv=>lhs;whnf)) (es:scope=scope':=by (conv=>lhs;whnf))
 (hloc:bT ps ds++bare xs=loc:=by simp only [bT,bare,List.map_cons,List.map_nil,List.cons_append,List.nil_append]<;>rfl) (hl:autoParam (ps.length=ds.length) bR) (hn:(ps++xs).Nodup:=by decide) (hps:autoParam (ps.all (fun y=>scope'.names.lookup y==some .local)=true) bR)
 (hco:autoParam (scope'.isCoroutine=false) bR) (hgen:autoParam (scope'.isGenerator=false) bR) (hk:autoParam (scope'.kind=.function) bR) (hcell:∀ x∈scope'.names,x.2≠.cell:=by decide):a4 B (n+1) f args objs P:=
 uO ps xs ho hcd hb (fun L=>(h L).run _ _ fun f σ' ⟨d,e,q⟩=>by subst e;exact q) eb es hloc hl hn hps hco hgen hk hcell
end
section
variable {e:Expr} {es:List Expr} {c:Bool} {pos:Pos}
section
variable {B:a5} {n:Nat} {L:Addr} {H:HL} {σ:St}
theorem pN {a b:Value} {c:Nat} {x:List Nat} {Φ:PV} (ma:(a,.str [c])∈H) (mb:(b,.str x)∈H) (h:∀ v,Φ v (.bool (!decide (c∈x))) σ):WV B n L (compareOp .NotIn a b) H σ Φ:=a7 fun A F s hA X=>by
 obtain ⟨t1,rfl⟩:=ak (X.hold ma);obtain ⟨t2,rfl⟩:=ak (X.hold mb)
 have e:(!(Builtin.Str.occurrences (S x) (S [c]) 0 (S x).length 1).isEmpty)=decide (c∈x):=StrLaws.found_one (S x) c
 with_reducible exact notIn_str (.here X ⟨_,.bool _,by rw [e];exact h _⟩)
end
section
variable {X:Cx} {σ σ₁ σ₂ σ':St} {Q:PF} {loc loc':LL} {objs objs':OL} {a:Addr} {d:AV} {x:List Nat}
theorem wW {c:Nat}:bF X .NotIn (.str [c]) (.str x) (!decide (c∈x)) σ:=⟨fun _ _ _ _ ma mb h=>pN ma mb h⟩
theorem pJ {target iter:Expr} {body:List Stmt} {N:Nat} {item:Nat→AV} (lo:Nat→LL) (ob:Nat→OL) (h1:Ev X iter σ d ⟨lo 0,ob 0⟩) (it:∀ xv,bL X.B X.n X.L xv d N item)
 (h2:∀ i,i < N→∀ a p,∃ σ₂,AsR X target (item i) ⟨lo i,(a,.is p)::ob i⟩ σ₂∧ExB X body σ₂ .next ⟨lo (i+1),(a,.is p)::ob (i+1)⟩)
 (hs:autoParam (∀ x,foldedSetIterable iter X.env x=pure x) bI) (ht:autoParam (∀ it v,letOwnedTupleGo target it v=pure ()) bJ):Ex X (.For target iter body [] pos) σ .next ⟨lo N,ob N⟩:=⟨fun _ Φ h=>CI (fun i σ=>σ=⟨lo i,ob i⟩)
 (h1.run _ _ fun xv=>⟨N,item,it xv,rfl,fun σ e=>e▸h,fun i loc objs a p v hi e=>by
  obtain ⟨rfl,rfl⟩:=St.mk.inj e
  refine x12 (h2 i hi a p) ?_;rintro σ₂ w1 w2
  exact w1.run _ _ _ hd0 (w2.run _ (fm a p _ Φ) ⟨_,_,rfl,rfl⟩)⟩) hs ht⟩
end
end
section
variable {x:Str} {pos:Pos} {target elt:Expr} {ifs:List Expr} {item:Nat→AV}
section
variable {B:a5} {n:Nat} {L:Addr} {H:HL} {env:Env}
end
section
variable {X:Cx} {σ σ₁ σ₂ σ':St} {Q:PF} {loc loc':LL} {objs objs':OL} {a c:Addr} {d:AV}
theorem qv (hc:X.env.cells.lookup x=some c) (m:(c,AO.cell (some d))∈objs) (hk:autoParam (X.env.scope.kind=.function) bR) (hl:autoParam (X.env.kindOf x=some .cell) bK) (hd:autoParam ((x==("__debug__":Str))=false) bK):
 Ev X (.Name x pos) ⟨loc,objs⟩ d ⟨loc,objs⟩:=⟨fun _ _ h=>qR hc m h hk hl hd⟩
theorem ym {o:Option AV} (hc:X.env.cells.lookup x=some c) (m:Chg c (.cell o) (.cell (some d)) objs objs') (hk:autoParam (X.env.scope.kind=.function) bR) (hl:autoParam (X.env.kindOf x=some .cell) bK):StR X x d ⟨loc,objs⟩ ⟨loc,objs'⟩:=⟨fun _ _ _ md h=>pB hc md m h hk hl⟩
structure TsR (X:Cx) (ifs:List Expr) (σ:St) (b:Bool) (σ':St):Prop where
 run:∀ (H:HL) (Φ:Bool→St→Prop),Φ b σ'→WB X.B X.n X.L (gM ifs X.env) H σ Φ
theorem jo:TsR X [] σ true σ:=⟨fun _ _ h=>xQ h⟩
noncomputable def b3 (keep:Nat→Bool) (val:Nat→AV):Nat→List AV
 | 0=>[]
 | i+1=>if keep i=true then b3 keep val i++[val i] else b3 keep val i
theorem iO (keep:Nat→Bool) (val:Nat→AV):∀ i,(b3 keep val i).length≤i
 | 0=>Nat.le_refl _
 | i+1=>by
  unfold b3
  have:=iO keep val i
  split
  · rw [List.length_append,List.length_singleton];exact Nat.lt_succ_of_le ‹_›
  · exact Nat.le_succ_of_le ‹_›
structure gF (B:a5) (n:Nat) (target elt:Expr) (ifs:List Expr) (cenv:Addr→Env) (xs:List Str) (item:AV) (k:Bool) (d:AV) (objs:OL):Prop where
 run:∀ C p q,∃ loc₁ loc₂,AsR ⟨B,n,C,cenv C⟩ target item ⟨bare xs,p::q::objs⟩ ⟨loc₁,p::q::objs⟩∧TsR ⟨B,n,C,cenv C⟩ ifs ⟨loc₁,p::q::objs⟩ k ⟨loc₁,p::q::objs⟩∧(k=true→Ev ⟨B,n,C,cenv C⟩ elt ⟨loc₁,p::q::objs⟩ d ⟨loc₂,p::q::objs⟩)
theorem gF.step {B:a5} {n:Nat} {cenv:Addr→Env} {xs:List Str} {keep:Nat→Bool} {val:Nat→AV} {objs:OL} {H:HL} {i:Nat} (hi:i≤16777215) (h:gF B n target elt ifs cenv xs (item i) (keep i) (val i) objs):
 ig B n target elt ifs cenv H xs (item i) (fun ys o=>ys=b3 keep val i∧o=objs) (fun ys o=>ys=b3 keep val (i+1)∧o=objs):=by
 rintro C ys o D a p v ⟨rfl,rfl⟩
 refine x23 (h.run C (D,.list (b3 keep val i)) (a,.is p)) ?_;rintro loc₁ loc₂ h1 h2 h3
 refine h1.run _ _ _ (.head _) (h2.run _ _ ⟨fun hk=>(h3 hk).run _ _ fun _=>⟨_,_,rfl,nT0 (iO _ _ _) hi,?_,rfl⟩,fun hk=>⟨_,_,rfl,?_,rfl⟩⟩)
 · conv=>rhs;unfold b3
   rw [if_pos hk]
 · conv=>rhs;unfold b3
   rw [if_neg (by rw [hk];exact Bool.false_ne_true)]
theorem qj {iter:Expr} {scope:Scope} {cl:List (Str×Addr)} {N:Nat} (xs:List Str) (keep:Nat→Bool) (val:Nat→AV) (hN:N≤16777215) (h1:Ev X iter σ d ⟨loc,objs⟩) (it:∀ xv,bL X.B X.n X.L xv d N item)
 (h2:∀ i,i < N→gF X.B X.n target elt ifs (fun C=>compEnvC scope cl C X.env) xs (item i) (keep i) (val i) objs)
 (hclos:closureFor scope X.env=pure cl) (hx:xs.Nodup:=by decide)
 (hcell:∀ y∈scope.names,y.2≠.cell:=by decide) (hkind:autoParam (scope.kind=.function) bR) (hnames:∀ y∈scope.names,y.2=.local→scope.names.lookup y.1=some .local:=by decide)
 (hs:autoParam (∀ x,foldedSetIterable iter X.env x=pure x) bI):
 Ev X (.ListComp elt [⟨target,iter,ifs,0⟩] scope pos) σ (.lst (b3 keep val N)) ⟨loc,objs⟩:=⟨fun _ _ h=>iA (rU xs (fun i ys o=>ys=b3 keep val i∧o=objs) (h1.run _ _ fun xv=>⟨N,item,it xv,⟨rfl,rfl⟩,fun i hi=>gF.step (by exact Nat.le_of_lt (nL0 ‹_› ‹_›)) (h2 i hi),fun ys o D ⟨e1,e2⟩=>⟨D,_,loc,objs,rfl,by rw [e1,e2],h _⟩⟩) hclos hx hcell hkind hnames hs)⟩
theorem uh {iter:Expr} {scope:Scope} {p pos':Pos} {cl:List (Str×Addr)} {ss:List Stmt} {N:Nat} (xs:List Str) (keep:Nat→Bool) (val:Nat→AV) (hN:N≤16777215) (h1:Ev X iter σ d ⟨loc,objs⟩) (it:∀ xv,bL X.B X.n X.L xv d N item)
 (h2:∀ i,i < N→gF X.B X.n target elt ifs (fun C=>compEnvC scope cl C X.env) xs (item i) (keep i) (val i) objs)
 (h3:∀ D,∃ σ₂,StR X x (.ref D) ⟨loc,(D,.list (b3 keep val N))::objs⟩ σ₂∧bg X ss σ₂ Q)
 (hsw:swapsWith (.ListComp elt [⟨target,iter,ifs,0⟩] scope pos) (some (.Name x p)) pos'.line X.env=pure true)
 (hclos:closureFor scope X.env=pure cl) (hx:xs.Nodup:=by decide)
 (hcell:∀ y∈scope.names,y.2≠.cell:=by decide) (hkind:autoParam (scope.kind=.function) bR) (hnames:∀ y∈scope.names,y.2=.local→scope.names.lookup y.1=some .local:=by decide)
 (hs:autoParam (∀ x,foldedSetIterable iter X.env x=pure x) bI):
 bg X (.Assign [.Name x p] (.ListComp elt [⟨target,iter,ifs,0⟩] scope pos) pos'::ss) σ Q:=⟨fun H Φ h=>cQ (jI xs (fun i ys o=>ys=b3 keep val i∧o=objs) (h1.run _ _ fun xv=>⟨N,item,it xv,⟨rfl,rfl⟩,fun i hi=>gF.step (by omega) (h2 i hi),fun ys o D ⟨e1,e2⟩=>by
 subst e1 e2
 refine x12 (h3 D) ?_;rintro σ₂ w1 w2
 exact w1.run _ _ _ hd0 (w2.run _ Φ h)⟩) hsw hclos hx hcell hkind hnames hs)⟩
end
end
section
section
variable {X:Cx} {σ σ₁ σ₂ σ':St} {Q:PF} {R:St→Prop} {f:Fl}
theorem gn {s:Stmt} {ss:List Stmt} (R:St→Prop) (h1:ExQ X s σ fun f σ'=>f=.next∧R σ') (h2:∀ σ',R σ'→bg X ss σ' Q):bg X (s::ss) σ Q:=⟨fun H Φ h=>cQ (h1.run _ (dP X.B X.n X.L ss X.env H Φ) fun f σ' ⟨e,r⟩=>by subst e;exact (h2 σ' r).run _ Φ h)⟩
theorem lc (h:Q .next σ):bg X [] σ Q:=cE dM h
section
variable {a:Addr} {x:List Nat} {d:AV} {l l':FL} {loc:LL} {objs objs':OL}
end
end
end
section
section
variable {γ:Type} {B:a5} {m n:Nat} {L:Addr} {H:HL} {env:Env} {σ:St}
theorem pt {tr todo:List γ} {i:Nat} {x:γ} (e:tr.drop i=x::todo):tr[i]? =some x∧tr.drop (i+1)=todo:=by
 constructor
 · rw [←Nat.add_zero i,←List.getElem?_drop,e];rfl
 · rw [←List.drop_drop,e];rfl
theorem yK {t1 t2:Expr} {k:Nat} {p:Pos} {v:Value} {d1 d2:AV} {Φ:St→Prop} (mv:(v,.tup [d1,d2])∈H) (h:∀ v1 v2,WU B n L (assign t1 env v1) ((v1,d1)::(v2,d2)::H) σ fun σ₂=>WU B n L (assign t2 env v2) ((v1,d1)::(v2,d2)::H) σ₂ Φ)
 (he:autoParam (assignEach [t1,t2] env=[(false,assign t1 env),(false,assign t2 env)]) bR):WU B n L (assign (.Tuple [t1,t2] k p) env v) H σ Φ:=a7 fun A F s hA X=>by
 refine x33 (cx (X.hold mv)) ?_;rintro a vs m rfl e1 e2
 refine x23 (iT.two e2) ?_;rintro v1 v2 rfl q1 q2
 refine assign_Tuple_tuple hA.handled (cG X.sub e1) (by rw [he];rfl) (by rw [he];rfl) fun h' hk=>?_
 rw [he]
 have keep:∀ b o,s.heap.get? b=some o→h'.get? b=some o:=fun b o e=>hk b o (Nat.ne_of_lt (Heap.lt_size e)) e
 have x₂:=((X.grow keep).push q2).push q1
 refine assignInOrder_cons ?_
 refine wpAny_mono ((h v1 v2).run A F { s with heap:=h' } hA x₂) (fun _ s₃ z=>?_) fun _ _ z=>z
 obtain ⟨F₃,σ₃,x₃,p₃,w₃⟩:=z
 refine assignInOrder_cons (wpAny_mono (w₃.run A F₃ s₃ hA x₃) (fun _ s₄ z=>?_) fun _ _ z=>z)
 obtain ⟨F₄,σ₄,x₄,p₄,q⟩:=z
 exact assignInOrder_nil ⟨F₄,σ₄,x₄.weaken fun _ hp=>.tail _ (.tail _ hp),aJ.trans (s':={ s with heap:=h' }) ⟨fun b o _ e=>keep b o e,fun _ h=>.inl h,fun _ _ e=>.inl e,.refl F,.refl _,rfl⟩ (p₃.trans p₄),q⟩
inductive BM (B:a5) (m:Nat) (L:Addr) (H:HL) (O:List Addr) (F:Fz) (s:Shared) (a g Lg:Addr) (YJ:γ→AV→OL→Prop) (RJ:OL→Prop) (tr:List γ) (lo:Nat→LL) (own:Nat→OL) (k:Nat) (s':Shared):Prop
 | mk (i:Nat) (F':Fz) (o':Obj) (gobjs':OL) (gs':GenState) (hi:i≤tr.length) (e:k=tr.length - i) (x:Holds B.P B.G L F' ((.ref a,.obj (lJ g))::H) ⟨lo i,frO Lg o'::(gobjs'++own i)⟩ s'.heap)
  (p:aJ O F s (L::a9 (frO Lg o'::(gobjs'++own i))) F' (fin g s')) (hg:s'.gens[g]? =some gs') (lv:lV B m Lg YJ RJ (tr.drop i) o' gobjs' F' gs')
inductive rm (B:a5) (m n:Nat) (L:Addr) (env:Env) (target:Expr) (body:List Stmt) (YJ:γ→AV→OL→Prop) (RJ:OL→Prop) (tr:List γ) (lo:Nat→LL) (own:Nat→OL) (Φ:PF) (d:AV) (σ₁:St):Prop
 | mk (x:Addr) (gobjs:OL) (ed:d=.ref x) (es:σ₁=⟨lo 0,gobjs++own 0⟩) (it:eH B n m x gobjs YJ RJ tr)
  (step:∀ H i x d gobjs a p v,tr[i]? =some x→YJ x d gobjs→WU B n L (assign target env v) ((v,d)::H) ⟨lo i,(a,.is p)::(own i++gobjs)⟩ fun σ₂=>WF B n L (execs body env) H σ₂ (fm a p (fun σ=>σ=⟨lo (i+1),own (i+1)++gobjs⟩) fun _ _=>False))
  (fin:∀ gobjs',RJ gobjs'→Φ .next ⟨lo tr.length,own tr.length++gobjs'⟩)
theorem rV {target iter:Expr} {body:List Stmt} {pos:Pos} {Φ:PF} (YJ:γ→AV→OL→Prop) (RJ:OL→Prop) (tr:List γ) (lo:Nat→LL) (own:Nat→OL) (hm:m+1≤n)
 (h:WV B n L (eval iter env) H σ fun _=>rm B m n L env target body YJ RJ tr lo own Φ)
 (hs:autoParam (∀ x,foldedSetIterable iter env x=pure x) bI) (ht:autoParam (∀ it v,letOwnedTupleGo target it v=pure ()) bJ):WF B n L (exec (.For target iter body [] pos) env) H σ Φ:=fL fun A F s Q hA X fq=>by
 refine wpAny_For (h.then hA X fun xv s₁ F₁ σ₁ x₁ p₁ q=>?_) hs
 refine x12 (q) ?_;clear q;rintro d hd ⟨x,gobjs,rfl,rfl,it,step,fin_⟩
 obtain rfl:=al hd
 refine wpAny_mono (it A F₁ s₁ L _ _ _ hA x₁) (fun r s₂ z=>?_) fun _ _ z=>z.elim
 refine x63 (z) ?_;clear z;rintro a g Lg o F₂ gs rfl x₂ ⟨p₂,ga,hg,lv⟩
 have hA':c3 (m+1) A:=hA.le hm
 refine codeAny_forLoop (BM B m L H (L::a9 σ.objs) F s a g Lg YJ RJ tr lo own) (fun k s₃ hI=>?_) tr.length ⟨0,F₂,o,gobjs,gs,Nat.zero_le _,rfl,x₂.push ga,p₁.trans p₂,hg,lv⟩ (ht _)
 obtain ⟨i,F₃,o₃,gobjs₃,gs₃,hi,ek,x₃,p₃,hg₃,lv₃⟩:=hI
 refine wpAny_mono (ask hA' x₃ (me (x₃.hold (.head _)) x₃.sub) hg₃ lv₃) (fun r s₄ z=>?_) fun _ _ z=>z.elim
 have fl:∀ (u v:OL),(frO Lg o₃::(u++v)).Perm ((frO Lg o₃::(v++u))++[]):=fun _ _=>by rw [List.append_nil];exact .cons _ List.perm_append_comm
 induction todo:tr.drop i using List.casesOn with
 | nil=>
  rw [todo] at z
  obtain ⟨rfl,F₄,gobjs₄,o₄,x₄,p₄,rj⟩:=z
  obtain rfl:i=tr.length:=Nat.le_antisymm hi (List.drop_eq_nil_iff.mp todo)
  have pm:(frO Lg o₄::(gobjs₄++own tr.length)).Perm ((own tr.length++gobjs₄)++[frO Lg o₄]):=(List.perm_append_comm (l₁:=[_])).trans (List.perm_append_comm.append_right _)
  exact wpAny_execs_nil (fq _ _ ⟨F₄,_,(x₄.drop pm).weaken fun _ hp=>.tail _ hp,(p₃.trans p₄).trans (aJ.less pm),.next,trivial,fin_ _ rj⟩)
 | cons x todo'=>
  rw [todo] at z
  refine x63 (z) ?_;clear z;rintro v d F₄ gobjs₄ o₄ gs₄ rfl hv ⟨yj,x₄,p₄,hg₄,lv₄⟩
  obtain ⟨hx,e'⟩:=pt todo
  have hlt:=(List.getElem?_eq_some_iff.mp hx).1
  have fl:∀ (u v:OL),(frO Lg o₄::(u++v)).Perm ((frO Lg o₄::(v++u))++[]):=fun _ _=>by rw [List.append_nil];exact .cons _ List.perm_append_comm
  refine hU (step ((.ref a,.obj (lJ g))::H) i x d gobjs₄ Lg (·=o₄) v hx yj) hA ((x₄.drop (fl gobjs₄ (own i))).push hv) (fun _ hp=>.tail _ hp) fun f s₅ F₅ σ₅ fe x₅ p₅ he q=>?_
  refine jq (G:=∃ m',m' < k∧BM B m L H (L::a9 σ.objs) F s a g Lg YJ RJ tr lo own m' s₅) (Q:=fun f=>Q f s₅) he q (fun loc' objs' e1 e2=>?_) fun _ _ _ q=>False.elim q
  subst e1
  obtain ⟨rfl,rfl⟩:=St.mk.inj e2
  exact ⟨tr.length - (i+1),ek▸Nat.sub_succ_lt_self _ _ hlt,i+1,F₅,o₄,gobjs₄,gs₄,hlt,rfl,x₅.drop (fl (own (i+1)) gobjs₄),(p₃.trans p₄).trans ((((aJ.less (fl gobjs₄ (own i))).trans p₅).trans (aJ.less (fl (own (i+1)) gobjs₄))).fin hg₄),p₅.gens.keep _ _ hg₄,e'▸lv₄.mono p₅.mono⟩
end
end
section
variable {m:Nat} {p pos:Pos} {ss:List Stmt}
section
variable {X:Cx} {σ σ₁ σ₂ σ':St} {Q:PF} {loc loc':LL} {objs objs':OL} {a:Addr} {d:AV} {l:List AV}
theorem uy {f:Addr} {fe:Expr} {args:List Expr} {cp:Pos} {ds:List AV} {dv:AV} (h1:EvX X fe σ (.ref f) dv) (hk:d5 X (.ref f)) (h2:EvL X args σ ds ⟨loc,objs⟩) (c:a4 X.B m f ds objs fun d o=>∃ a,d=.ref a∧o=(a,.list l)::objs') (hm:m≤X.n)
 (he:autoParam (eval (.Call fe args [] cp) X.env=(do callWith cp (←eval fe X.env) [] (backTo cp (starEach args X.env)) [])) bR) (hp:autoParam ((backTo cp (starEach args X.env)).any (·.1)=false) bR):Ev X (.Call fe args [] cp) σ (.lst l) ⟨loc,objs'⟩:=
 ⟨fun H Φ h=>iA (gm (h1.run _ _ (hk.run _ _ _ _ _ _ hp (h2.run _ _ _ fun vs hl'=>gT c hm hl' (fun _ hp=>List.mem_append_left _ hp) fun d o q v=>by
  refine x12 (q) ?_;clear q;rintro a rfl rfl
  exact ⟨a,l,loc,objs',rfl,rfl,h v⟩))) he)⟩
theorem tP {ms:List (List Nat)} (e:aD l=some ms) (hz:ms.flatten.length≤16777216):aQ X (.builtin "str.join") [.str [],.lst l] σ (.str ms.flatten) σ:=
 fA fun _ _ _ _ mv md h=>t4 mv md e (by rw [kn];simpa using hz) (by rw [i9];exact h)
theorem pE {y:Str} {C fI:Addr} {fe:Expr} {args:List Expr} {cp:Pos} {ds:List AV} {dv:AV} {n':Nat} {Φ₀:Addr→Addr→AV→OL→Prop} (h1:EvX X fe σ (.ref C) dv) (hk:d5 X (.ref C)) (h2:EvL X args σ ds ⟨loc,objs⟩)
 (hmk:makesIn X.B.K C=true) (hi:findIn X.B.K (.ref C) "__init__"=some (some (.ref fI))) (hf:isFn X.B.K (.ref fI)=true) (c:∀ x dx,a4 X.B m fI (.ref x::ds) ((x,.inst C dx [])::objs) (Φ₀ x dx)) (hn:X.n=n'+1) (hm:m≤n')
 (h3:∀ x dx d o,Φ₀ x dx d o→d=.none∧∃ loc',eF y (.ref x) loc loc'∧bg X ss ⟨loc',o⟩ Q)
 (he:autoParam (eval (.Call fe args [] cp) X.env=(do callWith cp (←eval fe X.env) [] (backTo cp (starEach args X.env)) [])) bR) (hp:autoParam ((backTo cp (starEach args X.env)).any (·.1)=false) bR)
 (hs:autoParam (swapsWith (.Call fe args [] cp) (some (.Name y p)) pos.line X.env=pure false) bR) (hl:autoParam (X.env.kindOf y=some .local) bK) (hL:autoParam (X.env.locals=X.L) bR) (hpp:autoParam ((X.env.scope.kind==.class||(X.env.scope.kind==.module&&X.env.locals !=X.env.globals))=false) bR):
 bg X (.Assign [.Name y p] (.Call fe args [] cp) pos::ss) σ Q:=by
 obtain ⟨B,n,L,env⟩:=X
 dsimp only at*
 subst hn
 exact ⟨fun H Φ h=>cQ (cV (gm (h1.run _ _ (hk.run _ _ _ _ _ _ hp (h2.run _ _ _ fun vs hl'=>vO hmk hi hf c hm hl' (fun _ hp=>List.mem_append_left _ hp) fun x dx d o q=>by
  obtain ⟨e,loc',hs',w⟩:=h3 x dx d o q
  exact ⟨e,ib hd0 hs' (w.run _ Φ h) hl hL hpp⟩))) he) hs)⟩
theorem oN {γ:Type} {target iter:Expr} {body:List Stmt} {x:Addr} {gobjs:OL} (YJ:γ→AV→OL→Prop) (RJ:OL→Prop) (tr:List γ) (lo:Nat→LL) (own:Nat→OL) (hm:m+1≤X.n)
 (h1:Ev X iter σ (.ref x) ⟨lo 0,gobjs++own 0⟩) (g:eH X.B X.n m x gobjs YJ RJ tr)
 (h2:∀ i x d gobjs a p,tr[i]? =some x→YJ x d gobjs→∃ σ₂,AsR X target d ⟨lo i,(a,.is p)::(own i++gobjs)⟩ σ₂∧ExB X body σ₂ .next ⟨lo (i+1),(a,.is p)::(own (i+1)++gobjs)⟩)
 (h3:∀ gobjs',RJ gobjs'→bg X ss ⟨lo tr.length,own tr.length++gobjs'⟩ Q)
 (hs:autoParam (∀ x,foldedSetIterable iter X.env x=pure x) bI) (ht:autoParam (∀ it v,letOwnedTupleGo target it v=pure ()) bJ):bg X (.For target iter body [] pos::ss) σ Q:=
 ⟨fun H Φ h=>cQ (rV YJ RJ tr lo own hm (h1.run _ _ fun xv=>⟨x,gobjs,rfl,rfl,g,fun H i x d gobjs a p v hx hy=>by
  refine x12 (h2 i x d gobjs a p hx hy) ?_;rintro σ₂ w1 w2
  exact w1.run _ _ _ hd0 (w2.run _ (fm a p _ _) ⟨_,_,rfl,rfl⟩),fun gobjs' r=>(h3 gobjs' r).run _ Φ h⟩) hs ht)⟩
theorem vT {t1 t2:Expr} {k:Nat} {d1 d2:AV} (h1:AsR X t1 d1 σ σ₁) (h2:AsR X t2 d2 σ₁ σ₂) (he:autoParam (assignEach [t1,t2] X.env=[(false,assign t1 X.env),(false,assign t2 X.env)]) bR):AsR X (.Tuple [t1,t2] k p) (.tup [d1,d2]) σ σ₂:=
 ⟨fun _ _ _ mv h=>yK mv (fun _ _=>h1.run _ _ _ hd0 (h2.run _ _ _ hd1 h)) he⟩
theorem mW {rest:OL} (e:objs.Perm (objs'++rest)) (h:bg X ss ⟨loc,objs'⟩ Q):bg X ss ⟨loc,objs⟩ Q:=⟨fun H Φ k=>lr e (h.run H Φ k)⟩
theorem gq {value hi:Expr} {ns:List Int} {j:Int} (h1:Ev X value σ (.obj (ia ns)) σ₁) (h2:Ev X hi σ₁ (.int j) σ₂) (hj:0≤j) (hz:ns.length≤16777216)
 (hs:∀ o i,∃ ops,subscripted (.Slice none (some hi) none p) false o i=operate ops (getItem o i):=by intro _ _;exact ⟨_,rfl⟩) (ht:∀ l r,letTemporaryGo value (.ref l) r=pure ():=by intro _ _;with_unfolding_all rfl):
 Ev X (.Subscript value (.Slice none (some hi) none p) pos) σ (.lst ((ns.take j.toNat).map .int)) σ₂:=⟨fun _ _ h=>kE (h1.run _ _ fun _=>h2.run _ _ fun _=>⟨ns,j,rfl,rfl,hj,hz,h⟩) hs ht⟩
theorem rZ {e1 e2:Expr} {i:Int} {j:Nat} (hi:0≤i) (hj:i.toNat=j) (hd:l[j]? =some d) (hz:l.length≤16777216) (hs:∀ o i,∃ ops,subscripted e2 false o i=operate ops (getItem o i):=by exact fun _ _=>⟨_,rfl⟩):cF X e1 e2 (.lst l) (.int i) d σ:=
 ⟨fun _ _ _ _ mo mi h=>C0 mo mi hi hj hd hz h (hs _ _)⟩
theorem pP {x y:Addr} (mx:(x,AO.list l)∈objs) (my:(y,AO.list l)∈objs) (f:∀ d∈l,d7 50 d):bF X .Eq (.ref x) (.ref y) true ⟨loc,objs⟩:=⟨fun _ _ _ _ ma mb h=>rM (σ:=⟨loc,objs⟩) ma mb mx my f h⟩
theorem pW {i j k m:Int}:bF X .Eq (.tup [.int i,.int j]) (.tup [.int k,.int m]) (i==k&&j==m) σ:=⟨fun _ _ _ _ ma mb h=>rW ma mb h⟩
end
end
section
variable {pos:Pos} {ds:List AV} {e:Expr}
structure EvQ (X:Cx) (e:Expr) (σ:St) (R:AV→St→Prop):Prop where
 run:∀ (H:HL) (Φ:PV),(∀ v d σ',R d σ'→Φ v d σ')→WV X.B X.n X.L (eval e X.env) H σ Φ
section
variable {X:Cx} {σ σ₁ σ₂:St} {Q:PF} {R:AV→St→Prop} {loc:LL} {objs:OL} {o:AV} {m:Nat} {f:Addr}
theorem ti {es:List Expr} (h1:EvL X es σ ds ⟨loc,objs⟩) (hz:ds.length≤16777216):EvQ X (.List es pos) σ fun d σ'=>∃ a,d=.ref a∧σ'=⟨loc,(a,.list ds)::objs⟩:=
 ⟨fun _ _ h=>ll (h1.run _ _ _ fun _ _=>⟨hz,fun a=>h _ _ _ ⟨a,rfl,rfl⟩⟩)⟩
theorem mI {name:Str} {apos:Pos} {args:List Expr} {pl:Sem Bool} {P:AV→OL→Prop} (h1:Ev X e σ o σ₁) (hm:e7 X o name (.ref f) σ₁) (hk:d5 X (.ref f)) (h2:EvL X args σ₁ ds ⟨loc,objs⟩) (c:a4 X.B m f (o::ds) objs P) (hn:m≤X.n)
 (he:autoParam (eval (.Call (.Attribute e name apos) args [] pos) X.env=(do
  let ov ←eval e X.env
  standAt apos.atName
  let (f,first) ←holding [ov] (getMethod ov name pl)
  callWith pos f first (backTo pos (starEach args X.env)) [])) bR) (hp:autoParam ((backTo pos (starEach args X.env)).any (·.1)=false) bR):EvQ X (.Call (.Attribute e name apos) args [] pos) σ fun d σ'=>∃ q,P d q∧σ'=⟨loc,q⟩:=
 ⟨fun _ _ h=>lu (h1.run _ _ fun _=>hm.run _ _ _ _ hd0 fun _=>hk.run _ _ _ _ _ _ hp (h2.run _ _ _ fun _ hl=>gT c hn (by rw [List.length_append,List.length_singleton,List.length_cons,hl,Nat.add_comm]) gb fun d q w v=>h _ _ _ ⟨q,w,rfl⟩)) he⟩
theorem yi {C fI:Addr} {fe:Expr} {args:List Expr} {cp:Pos} {dv:AV} {n':Nat} {Φ₀:Addr→Addr→AV→OL→Prop} (h1:EvX X fe σ (.ref C) dv) (hk:d5 X (.ref C)) (h2:EvL X args σ ds ⟨loc,objs⟩)
 (hmk:makesIn X.B.K C=true) (hi:findIn X.B.K (.ref C) "__init__"=some (some (.ref fI))) (hf:isFn X.B.K (.ref fI)=true) (c:∀ x dx,a4 X.B m fI (.ref x::ds) ((x,.inst C dx [])::objs) (Φ₀ x dx)) (hn:X.n=n'+1) (hm:m≤n') (hΦ:∀ x dx d q,Φ₀ x dx d q→d=.none)
 (he:autoParam (eval (.Call fe args [] cp) X.env=(do callWith cp (←eval fe X.env) [] (backTo cp (starEach args X.env)) [])) bR) (hp:autoParam ((backTo cp (starEach args X.env)).any (·.1)=false) bR):
 EvQ X (.Call fe args [] cp) σ fun d σ'=>∃ x dx q,Φ₀ x dx .none q∧d=.ref x∧σ'=⟨loc,q⟩:=by
 obtain ⟨B,n,L,env⟩:=X
 dsimp only at*
 subst hn
 exact ⟨fun H Φ h=>gm (h1.run _ _ (hk.run _ _ _ _ _ _ hp (h2.run _ _ _ fun vs hl'=>vO hmk hi hf c hm hl' (fun _ hp=>List.mem_append_left _ hp) fun x dx d q w=>by
  obtain rfl:=hΦ _ _ _ _ w
  exact ⟨rfl,h _ _ _ ⟨x,dx,q,w,rfl,rfl⟩⟩))) he⟩
theorem kG {t:Expr} {attr:Str} {p:Pos} {ss:List Stmt} (h1:EvQ X e σ R) (h2:∀ d σ',R d σ'→∃ o σ₁ σ₂,Ev X t σ' o σ₁∧kX X o attr d σ₁ σ₂∧bg X ss σ₂ Q) (hs:autoParam (swapsWith e (some (.Attribute t attr p)) pos.line X.env=pure false) bR):
 bg X (.Assign [.Attribute t attr p] e pos::ss) σ Q:=⟨fun H Φ h=>cQ (cS (h1.run _ _ fun v d σ' w=>by
 refine x33 (h2 d σ' w) ?_;rintro o σ₁ σ₂ w1 w2 w3
 exact w1.run _ _ fun _=>w2.run _ _ _ _ hd0 hd1 (w3.run _ Φ h)) hs)⟩
theorem pV {ss:List Stmt} (h1:EvQ X e σ R) (h2:∀ d σ',R d σ'→bg X ss σ' Q) (hi:autoParam (interactive X.env=false) bR) (hs:autoParam (swapsWith e none pos.line X.env=pure false) bR):
 bg X (.Expr e pos::ss) σ Q:=⟨fun H Φ h=>cQ (lM (h1.run _ _ fun v d σ' w=>(h2 d σ' w).run _ Φ h) hi hs)⟩
end
theorem w7 {B:a5} {n:Nat} {objs:OL} {name qual:Str} {params:Arguments} {body body':List Stmt} {scope scope':Scope} {dV kV doc pm cdv ct oc:Value} {an od:Option Addr} {osl:Array (Option Value)} {f:Addr} {args:List AV} {P:AV→OL→Prop} {loc:LL} (ps xs:List Str)
 (ho:B.K.lookup f=some ⟨oc,od,.func (fnOf name qual params body scope dV kV doc pm an cdv ct),osl⟩) (hcd:codeIn B.K cdv qual=true)
 (hb:b8 B (fnOf name qual params body scope dV kV doc pm an cdv ct) ps args ds) (h:∀ L,bg ⟨B,n,L,envOf qual scope' L f cdv⟩ body' ⟨loc,objs⟩ fun f σ'=>f=.next∧P .none σ'.objs)
 (eb:body=body':=by (conv=>lhs;whnf)) (es:scope=scope':=by (conv=>lhs;whnf))
 (hloc:bT ps ds++bare xs=loc:=by simp only [bT,bare,List.map_cons,List.map_nil,List.cons_append,List.nil_append]<;>rfl) (hl:autoParam (ps.length=ds.length) bR) (hn:(ps++xs).Nodup:=by decide) (hps:autoParam (ps.all (fun y=>scope'.names.lookup y==some .local)=true) bR)
 (hco:autoParam (scope'.isCoroutine=false) bR) (hgen:autoParam (scope'.isGenerator=false) bR) (hk:autoParam (scope'.kind=.function) bR) (hcell:∀ x∈scope'.names,x.2≠.cell:=by decide):a4 B (n+1) f args objs P:=
 uO ps xs ho hcd hb (fun L=>(h L).run _ _ fun f σ' ⟨e,q⟩=>by subst e;exact q) eb es hloc hl hn hps hco hgen hk hcell
end
section
set_option genInjectivity false
variable {k i:Nat} {v:DV} {ps:List DV} {l:List (Str×DV)} {o:DO} {x:Str}
noncomputable section
inductive DV where
 | av (d:AV) | slot (i:Nat) | meth (f:Addr) (i:Nat)
inductive DO where
 | inst (C dx:Addr) (fs:List (Str×DV))
 | list (l:List AV) (ps:List DV)
 | dict (l:List (Str×DV))
 | cell (v:Option DV)
 | ao (o:AO)
structure DS where
 loc:List (Str×Option DV)
 objs:List (Nat×DO)
 rest:OL
inductive DF where
 | next | brk | cont | ret (v:DV)
inductive c7 where
 | br (b:Bool)
 | ch (c:Nat)
 | cmp (c:Bool)
 | itm (d:AV)
 | call (k:Nat) (v:DV) (objs:List (Nat×DO)) (rest:OL) (m:Nat)
 | val (k:Nat) (v:DV) (D:DS)
 | stm (k:Nat) (D:DS)
structure Sy where
 D:DS
 n:Nat
 o:List c7
 c:Prop
structure Px where
 X:Cx
 K:Frag
 ρ:List Addr
 gl:List (Addr×AV)
 cl:List (Str×Nat)
noncomputable def aB (ρ:List Addr):Nat→Addr:=List.rec (fun _=>0) (fun a _ ih i=>Nat.casesOn i a ih) ρ
noncomputable def DV.to (ρ:List Addr):DV→AV
 | .av d=>d
 | .slot i=>.ref (aB ρ i)
 | .meth f i=>.meth f (aB ρ i)
noncomputable abbrev tos (ρ:List Addr) (l:List DV):List AV:=l.map (DV.to ρ)
noncomputable abbrev dy (ρ:List Addr) (l:List (Str×DV)):FL:=l.map fun p=>(p.1,p.2.to ρ)
noncomputable def toL (ρ:List Addr) (l:List AV) (ps:List DV):List AV:=List.casesOn ps l fun p r=>l++tos ρ (p::r)
noncomputable def DO.to (ρ:List Addr):DO→AO
 | .inst C dx fs=>.inst C dx (dy ρ fs)
 | .list l ps=>.list (toL ρ l ps)
 | .dict l=>.dict (dy ρ l)
 | .cell v=>.cell (v.map (DV.to ρ))
 | .ao o=>o
noncomputable abbrev a2 (ρ:List Addr) (rest:OL) (l:List (Nat×DO)):OL:=l.map (fun p=>(aB ρ p.1,p.2.to ρ))++rest
noncomputable abbrev cP (ρ:List Addr) (l:List (Str×Option DV)):LL:=l.map fun p=>(p.1,p.2.map (DV.to ρ))
noncomputable abbrev DS.to (ρ:List Addr) (D:DS):St:=⟨cP ρ D.loc,a2 ρ D.rest D.objs⟩
noncomputable def DF.to (ρ:List Addr):DF→Fl
 | .next=>.next | .brk=>.brk | .cont=>.cont | .ret v=>.ret (v.to ρ)
noncomputable def DV.bel (n:Nat):DV→Bool
 | .av _=>true
 | .slot i=>Nat.blt i n
 | .meth _ i=>Nat.blt i n
noncomputable def zG (n:Nat) (o:Option DV):Bool:=Option.casesOn o true (DV.bel n)
noncomputable def DO.bel (n:Nat):DO→Bool
 | .inst _ _ fs=>fs.all fun p=>p.2.bel n
 | .list _ ps=>ps.all (DV.bel n)
 | .dict l=>l.all fun p=>p.2.bel n
 | .cell v=>zG n v
 | .ao _=>true
noncomputable def qb (n:Nat) (l:List (Str×Option DV)):Bool:=l.all fun p=>zG n p.2
noncomputable def DX (n:Nat) (l:List (Nat×DO)):Bool:=l.all fun p=>Nat.blt p.1 n&&p.2.bel n
noncomputable def DS.bel (n:Nat) (D:DS):Bool:=qb n D.loc&&DX n D.objs
noncomputable def oq (k:Nat):(List Addr→Prop)→Prop:=Nat.rec (fun p=>p []) (fun _ ih p=>∀ a,ih fun as=>p (a::as)) k
noncomputable def exX (k:Nat):(List Addr→Prop)→Prop:=Nat.rec (fun p=>p []) (fun _ ih p=>∃ a,ih fun as=>p (a::as)) k
theorem fV:∀ {p:List Addr→Prop},oq k p→∀ as,as.length=k→p as:=by
 induction k with
 | zero=>exact fun h as e=>List.eq_nil_of_length_eq_zero e▸h
 | succ k ih=>
  intro p h as e
  induction as using List.casesOn with
  | nil=>contradiction
  | cons a r=>exact ih (h a) r (Nat.succ.inj e)
theorem lj:∀ {p:List Addr→Prop},exX k p→∃ as,as.length=k∧p as:=by
 induction k with
 | zero=>exact fun h=>⟨[],rfl,h⟩
 | succ k ih=>exact fun ⟨a,h⟩=>let ⟨as,e,q⟩:=ih h;⟨a::as,congrArg (·+1) e,q⟩
theorem pX:∀ {p:List Addr→Prop} {as:List Addr},as.length=k→p as→exX k p:=by
 induction k with
 | zero=>
  intro p as e h
  obtain rfl:=List.eq_nil_of_length_eq_zero e
  exact h
 | succ k ih=>
  intro p as e h
  induction as using List.casesOn with
  | nil=>contradiction
  | cons a r=>exact ⟨a,ih (Nat.succ.inj e) h⟩
theorem dw {t:List Addr}:∀ {i:Nat},i < ρ.length→aB (ρ++t) i=aB ρ i:=by
 induction ρ with
 | nil=>exact fun h=>absurd h (Nat.not_lt_zero _)
 | cons a r ih=>
  intro i h
  induction i using Nat.casesOn with
  | zero=>rfl
  | succ i=>exact ih (Nat.lt_of_succ_lt_succ h)
theorem ot {x:Addr}:aB (ρ++[x]) ρ.length=x:=by
 induction ρ with
 | nil=>rfl
 | cons a r ih=>exact ih
theorem g7 {n:Nat} (h:Nat.blt i n=true):i < n:=lB0 h
theorem aj {a b:Bool} (h:(a&&b)=true):a=true:=(Bool.and_eq_true_iff.mp h).1
theorem au {a b:Bool} (h:(a&&b)=true):b=true:=(Bool.and_eq_true_iff.mp h).2
theorem h8 {α β:Type} {l:List α} {p:α→Bool} {f g:α→β} (h:l.all p=true) (k:∀ a,p a=true→f a=g a):l.map f=l.map g:=List.map_congr_left fun a ha=>k a (List.all_eq_true.mp h a ha)
section
variable {ρ t:List Addr}
theorem DV.to_app (h:v.bel ρ.length=true):v.to (ρ++t)=v.to ρ:=by
 induction v using DV.casesOn with
 | av d=>rfl
 | slot i=>exact congrArg AV.ref (dw (g7 h))
 | meth f i=>exact congrArg (AV.meth f) (dw (g7 h))
theorem n4 (h:ps.all (DV.bel ρ.length)=true):tos (ρ++t) ps=tos ρ ps:=h8 h fun _=>DV.to_app
theorem hP {ps:List (Str×DV)} (h:(ps.all fun p=>p.2.bel ρ.length)=true):dy (ρ++t) ps=dy ρ ps:=h8 h fun p q=>congrArg (Prod.mk p.1) (DV.to_app q)
theorem mB {v:Option DV} (h:zG ρ.length v=true):v.map (DV.to (ρ++t))=v.map (DV.to ρ):=by
 induction v using Option.casesOn with
 | none=>rfl
 | some v=>exact congrArg some (DV.to_app h)
theorem dY {l:List AV}:toL ρ l ps=l++tos ρ ps:=by
 induction ps using List.casesOn with
 | nil=>exact (List.append_nil _).symm
 | cons _ _=>rfl
theorem DO.to_app (h:o.bel ρ.length=true):o.to (ρ++t)=o.to ρ:=by
 cases o with
 | inst C dx fs=>exact congrArg (AO.inst C dx) (hP h)
 | list l ps=>exact congrArg AO.list (by rw [dY,dY,n4 h])
 | dict l=>exact congrArg AO.dict (hP h)
 | cell v=>exact congrArg AO.cell (mB h)
 | ao o=>rfl
theorem j6 {l:List (Str×Option DV)} (h:qb ρ.length l=true):cP (ρ++t) l=cP ρ l:=h8 h fun p q=>congrArg (Prod.mk p.1) (mB q)
theorem DS.to_app {D:DS} (h:D.bel ρ.length=true):D.to (ρ++t)=D.to ρ:=by
 show St.mk _ (_++_)=St.mk _ (_++_)
 rw [j6 (aj h),h8 (g:=fun p=>(aB ρ p.1,p.2.to ρ)) (au h) fun p q=>congr (congrArg Prod.mk (dw (g7 (aj q)))) (DO.to_app (au q))]
noncomputable def cy {α:Type} (x:Str) (l:List (Str×α)):Option α:=(l.find? fun p=>p.1==x).map (·.2)
noncomputable def kM (x:Str) (d:DV) (l:List (Str×DV)):List (Str×DV):=List.rec [(x,d)] (fun p r ih=>bif p.1==x then (x,d)::r else p::ih) l
noncomputable def ow (x:Str) (d:DV) (l:List (Str×Option DV)):Option (List (Str×Option DV)):=List.rec none (fun p r ih=>bif p.1==x then some ((x,some d)::r) else ih.map (p::·)) l
noncomputable def aV (i:Nat) (l:List (Nat×DO)):Option DO:=(l.find? fun p=>Nat.beq p.1 i).map (·.2)
noncomputable def fc (i:Nat) (o:DO) (l:List (Nat×DO)):List (Nat×DO):=List.rec [] (fun p r ih=>bif Nat.beq p.1 i then (i,o)::r else p::ih) l
noncomputable def iJ (i:Nat) (l:List (Nat×DO)):List (Nat×DO):=List.rec [] (fun p r ih=>bif Nat.beq p.1 i then r else p::ih) l
variable {rest:OL}
theorem nw:bB x (dy ρ l)=(cy x l).map (DV.to ρ):=by
 unfold bB cy
 rw [List.find?_map]
 show ((l.find? fun p=>p.1==x).map _).map _ = _
 cases l.find? fun p=>p.1==x<;>rfl
theorem gP (h:cy x l=some v):bB x (dy ρ l)=some (v.to ρ):=by refine nw▸h▸?_;rfl
theorem gf (h:cy x l=none):bB x (dy ρ l)=none:=by refine nw▸h▸?_;rfl
theorem kD {l:List (Str×Option DV)} (h:cy x l=some (some v)):(x,some (v.to ρ))∈cP ρ l:=by
 refine x12 (Option.map_eq_some_iff.mp h) ?_;rintro p h1 h2
 have e:=List.find?_some h1
 refine List.mem_map.mpr ⟨p,List.mem_of_find?_eq_some h1,?_⟩
 refine (eq_of_beq e)▸h2▸?_;rfl
theorem mG {d:DV}:dy ρ (kM x d l)=bC x (d.to ρ) (dy ρ l):=by
 induction l with
 | nil=>rfl
 | cons p r ih=>
  show dy ρ (bif p.1==x then (x,d)::r else p::kM x d r)=if p.1==x then (x,d.to ρ)::dy ρ r else (p.1,p.2.to ρ)::bC x (d.to ρ) (dy ρ r)
  induction p.1==x using Bool.casesOn with
  | true=>rfl
  | false=>exact congrArg (List.cons _) ih
theorem jf {d:DV} {l:List (Str×Option DV)}:∀ {l':List (Str×Option DV)},ow x d l=some l'→eF x (d.to ρ) (cP ρ l) (cP ρ l'):=by
 induction l with
 | nil=>exact fun h=>nomatch h
 | cons p r ih=>
  intro l' h
  replace h:(bif p.1==x then some ((x,some d)::r) else (ow x d r).map (p::·))=some l':=h
  induction q:p.1==x using Bool.casesOn with
  | true=>rw [q] at h;obtain rfl:=eq_of_beq q;obtain rfl:=Option.some.inj h;exact .hit
  | false=>
   rw [q] at h
   refine x12 (Option.map_eq_some_iff.mp h) ?_;rintro r' h1 h2
   exact h2▸.skip (ih h1)
theorem iZ {p:Nat×DO} {r:List (Nat×DO)} (h:aV i (p::r)=some o):(Nat.beq p.1 i=true∧p=(i,o))∨(Nat.beq p.1 i=false∧aV i r=some o):=by
 unfold aV at h
 rw [List.find?_cons] at h
 induction q:Nat.beq p.1 i using Bool.casesOn with
 | true=>rw [q] at h;exact .inl ⟨rfl,by obtain rfl:=Nat.eq_of_beq_eq_true q;obtain rfl:=Option.some.inj h;rfl⟩
 | false=>rw [q] at h;exact .inr ⟨rfl,h⟩
theorem bc {l:List (Nat×DO)} (h:aV i l=some o):(aB ρ i,o.to ρ)∈a2 ρ rest l:=by
 refine x12 (Option.map_eq_some_iff.mp h) ?_;rintro p h1 h2
 exact List.mem_append_left _ (List.mem_map.mpr ⟨p,List.mem_of_find?_eq_some h1,by rw [Nat.eq_of_beq_eq_true (List.find?_some (p:=fun p:Nat×DO=>Nat.beq p.1 i) h1),h2]⟩)
theorem dh {o':DO} {l:List (Nat×DO)} (h:aV i l=some o):Chg (aB ρ i) (o.to ρ) (o'.to ρ) (a2 ρ rest l) (a2 ρ rest (fc i o' l)):=by
 induction l with
 | nil=>contradiction
 | cons p r ih=>
  show Chg _ _ _ _ (a2 ρ rest (bif Nat.beq p.1 i then (i,o')::r else p::fc i o' r))
  rcases iZ h with ⟨e1,e2⟩ | ⟨e1,e2⟩
  · refine e1▸e2▸?_;exact .head
  · refine e1▸?_;exact .tail (ih e2)
theorem rn {l:List (Nat×DO)} (h:aV i l=some o):eW (aB ρ i) (o.to ρ) (a2 ρ rest l) (a2 ρ rest (iJ i l)):=by
 induction l with
 | nil=>contradiction
 | cons p r ih=>
  show eW _ _ _ (a2 ρ rest (bif Nat.beq p.1 i then r else p::iJ i r))
  rcases iZ h with ⟨e1,e2⟩ | ⟨e1,e2⟩
  · refine e1▸e2▸?_;exact .head
  · refine e1▸?_;exact .tail (ih e2)
theorem dL {l:List AV}:(toL ρ l ps).length=l.length+ps.length:=by rw [dY,List.length_append,List.length_map]
theorem fQ {l:List AV} {p:DV}:AO.list (toL ρ l (ps++[p]))=.list (toL ρ l ps++[p.to ρ]):=by rw [dY,dY,tos,List.map_append,List.append_assoc];rfl
end
noncomputable def mh (v:DV):Option AV:=DV.casesOn v some (fun _=>none) fun _ _=>none
theorem j4 {d:AV} (h:mh v=some d):v.to ρ=d:=by
 induction v using DV.casesOn with
 | av x=>exact Option.some.inj h
 | slot=>contradiction
 | meth=>contradiction
noncomputable def fg (ps:List DV):Option (List AV):=List.rec (some []) (fun v _ ih=>(mh v).bind fun d=>ih.map (d::·)) ps
noncomputable def ie (ps:List (Str×DV)):Option (FL):=List.rec (some []) (fun p _ ih=>(mh p.2).bind fun d=>ih.map ((p.1,d)::·)) ps
theorem ge:∀ {l:List AV},fg ps=some l→tos ρ ps=l:=by
 induction ps with
 | nil=>exact fun h=>Option.some.inj h
 | cons v r ih=>
  intro l h
  refine x12 (Option.bind_eq_some_iff.mp h) ?_;rintro d h1 h2
  refine x12 (Option.map_eq_some_iff.mp h2) ?_;rintro l' h3 h4
  exact h4▸congr (congrArg List.cons (j4 h1)) (ih h3)
theorem j8 {ps:List (Str×DV)}:∀ {l:FL},ie ps=some l→dy ρ ps=l:=by
 induction ps with
 | nil=>exact fun h=>Option.some.inj h
 | cons v r ih=>
  intro l h
  refine x12 (Option.bind_eq_some_iff.mp h) ?_;rintro d h1 h2
  refine x12 (Option.map_eq_some_iff.mp h2) ?_;rintro l' h3 h4
  exact h4▸congr (congrArg (fun z=>List.cons (v.1,z)) (j4 h1)) (ih h3)
end
end
section
set_option genInjectivity false
variable {α:Type} {e:Expr} {es:List Expr} {pos:Pos}
noncomputable section
noncomputable def be (e:Expr):Bool:=by
 cases e with
 | Starred=>exact false
 | ListComp=>exact false
 | SetComp=>exact false
 | DictComp=>exact false
 | Set=>exact false
 | Slice=>exact false
 | _=>exact true
noncomputable abbrev dG:=be
noncomputable abbrev eY:=be
noncomputable abbrev bm:=be
noncomputable def dU (e:Expr):Bool:=by
 cases e with
 | Call=>exact false
 | _=>exact true
noncomputable def AZ (o:UnaryOp):Bool:=by
 cases o with
 | Not=>exact true
 | _=>exact false
noncomputable def pF (e:Expr):Bool:=by
 cases e with
 | UnaryOp op=>exact !AZ op
 | BoolOp=>exact false
 | IfExp=>exact false
 | Compare=>exact false
 | _=>exact true
noncomputable abbrev kt (p:α→Bool) (l:List α):Bool:=l.all p
theorem cd {b:Bool} {x y:α} (h:b=true) (e:x=cond b y x):x=y:=by
 subst h;exact e
section
variable {env:Env}
theorem gW {t:Option Expr} {l:Nat} (h:dG e=true):swapsWith e t l env=pure false:=cd h (by clear h;rcases e with _ | _<;>rfl)
theorem gR (h:be e=true):starEach (e::es) env=(false,eval e env)::starEach es env:=cd h (by clear h;rcases e with _ | _<;>rfl)
theorem i5 (h:kt be es=true):(backTo pos (starEach es env)).any (·.1)=false:=by
 induction es with
 | nil=>rfl
 | cons e es ih=>exact (gR (aj h))▸(ih (au h))
theorem oJ (h:kt be es=true):(backTo pos (starEach es env)).all (!·.1)=true:=by
 induction es with
 | nil=>rfl
 | cons e es ih=>exact (gR (aj h))▸(ih (au h))
theorem vm {o:Expr} {attr:Str} {w:Sem Value} (h:dU o=true):attributeBase o attr env w=w:=cd h (by clear h;rcases o with _ | _<;>rfl)
theorem jF {op:CmpOp} (h:eY e=true):behindInMarks op e=false:=cd h (by clear h;rcases e with _ | _<;>rfl)
theorem ue {x:Str} {xp:Pos} {args:List Expr}:eval (.Call (.Name x xp) args [] pos) env=(do callWith pos (←eval (.Name x xp) env) [] (backTo pos (starEach args env)) []):=rfl
theorem sP {attr:Str} (h:dU e=true):eval (.Attribute e attr pos) env=(do
 let o ←eval e env
 standAt pos.atName
 let r ←holding [o] (getAttr o attr true)
 letTemporaryGo e o r
 pure r):=cd h (by clear h;rcases e with _ | _<;>rfl)
theorem mJ {o:Expr} {name:Str} {args:List Expr} {apos:Pos} (h:dU o=true) (hs:kt be args=true) (hl:Nat.blt args.length 30=true) (hp:(apos.endLine==pos.line)=true):
 eval (.Call (.Attribute o name apos) args [] pos) env=(do
  let ov ←eval o env
  standAt apos.atName
  let (f,first) ←holding [ov] (getMethod ov name (do return (←importBound o env).getD true))
  callWith pos f first (backTo pos (starEach args env)) []):=by
 have hf:methodCallForm (args.length+0) (backTo pos (starEach args env)) (backToKw pos (keywordEach [] env))=true:=by
  unfold methodCallForm
  rw [oJ hs,show (backToKw pos (keywordEach [] env))=[] from rfl]
  exact decide_eq_true (g7 hl)
 have e1:eval (.Call (.Attribute o name apos) args [] pos) env=(do
  let ov ←attributeBase o name env (eval o env)
  standAt apos.atName
  methodCall o name apos pos env ov (args.length+0) (backTo pos (starEach args env)) (backToKw pos (keywordEach [] env))):=rfl
 have e2:methodCallPos true o env apos pos=pure pos:=by
  unfold methodCallPos
  rw [hp];rfl
 rw [e1,vm h]
 unfold methodCall
 simp only [hf,e2]
 rfl
theorem sQ (h:pF e=true) (whole:Sem Value):isTrue e env whole=(do let v ←whole;standAt e.pos;holding [v] (truthy v)):=cd h (by
 clear h
 cases e with
 | UnaryOp op=>rcases op with _ | _<;>rfl
 | _=>rfl)
theorem g5 (h:bm e=true) (o i:Value):∃ ops,subscripted e false o i=operate ops (getItem o i):=⟨[o,i],cd h (by clear h;rcases e with _ | _<;>rfl)⟩
theorem s6 (h:be e=true):assignEach (e::es) env=(false,assign e env)::assignEach es env:=cd h (by clear h;rcases e with _ | _<;>rfl)
theorem mn {c:Prop} [Decidable c] {x:Sem α} {v:α} (h:x=pure v):(if c then pure v else x)=pure v:=by
 subst h;exact ite_self _
theorem ld {ts vs:List Expr} {k k':Nat} {p p':Pos} {env:Env} (h:vs.all (foldedForSure 8)=true):swappedStores [.Tuple ts k p] (.Tuple vs k' p') env=pure none:=by
 unfold swappedStores
 exact mn (mn (mn ((congrArg (fun b=>ite (b=true) (pure none) _) h).trans rfl)))
noncomputable def pH (e:Expr):Bool:=by
 cases e with
 | Tuple vs=>exact vs.all (foldedForSure 8)
 | _=>exact true
theorem s0 {ts:List Expr} {k:Nat} {p:Pos} {env:Env} (h:pH e=true):swappedStores [.Tuple ts k p] e env=pure none:=by
 rcases e with _ | _
 case Tuple=>exact ld h
 all_goals rfl
theorem A3 (h:bm e=true) (ov iv c:Value):augStore e ov iv c=(do holding [c,ov,iv] (setItem ov iv c);release [c,ov,iv] [];pure .next):=cd h (by clear h;rcases e with _ | _<;>rfl)
end
end
end
section
section
variable {prog:Program} {w:World} {A:Around} {E:Value→Shared→Prop} {s:Shared}
theorem mK {vs:List Value} {q k:Nat} {v:Value}:Obj.mapSeq (fun xs=>xs.setIfInBounds k v) (aA vs q)=aA (vs.set k v) q:=by
 show (⟨_,_,.seq (vs.toArray.setIfInBounds k v) (if (vs.toArray.setIfInBounds k v).size==vs.toArray.size then q else q+1),_⟩:Obj)= _
 rw [Array.size_setIfInBounds,beq_self_eq_true]
 simp
theorem A8 {a:Addr} {vs:List Value} {q:Nat} {k:Int} {t:Tok} {v:Value} {Q:Unit→Shared→Prop} (h:s.heap.get? a=some (aA vs q)) (h0:0≤k) (hfit:k < 2 ^ 63) (hn:k < vs.toArray.size)
 (hQ:∀ h',Heap.SameBut a s.heap h'→h'.get? a=some (Obj.mapSeq (fun xs=>xs.setIfInBounds k.toNat v) (aA vs q))→Q () { s with heap:=h' }):wpAny (model prog w) A (setItem (.ref a) (.int k t) v) Q E s:=by
 have hl:s.heap.IsList a vs.toArray:=⟨_,h,rfl,_,rfl⟩
 unfold setItem
 try with_reducible refine wpAny_holding ?_
 first | refine wpAny_bind (wpAny_pure ?_) | skip
 refine wpAny_bind (wpAny_sequenceKey hl.typeIs (by decide) ?_)
 refine wpAny_bind (wpAny_callSpecial?_slot (name:=Str.ofString "__setitem__") hl.typeIs slot_list_setitem (wpAny_call_entry slot_list_setitem hl.typeIs entry_list_setitem ?_ (args_list_setitem _ _ _)))
 show wpAny _ _ (Builtin.List.listSubscript? (.int k t) >>= _) _ _ s
 refine wpAny_bind (wpAny_listSubscript_int (fitsIndex_of h0 hfit) ?_)
 clear hfit
 obtain ⟨j,rfl⟩:=Int.eq_ofNat_of_zero_le h0
 have hj:j < vs.toArray.size:=by omega
 have hx:vs.toArray[j]? =some vs.toArray[j]:=Array.getElem?_eq_getElem hj
 show wpAny _ _ ((seqItemAt a j >>= fun r=>pure (r.map (j,·))) >>= _) _ _ s
 refine wpAny_bind (wpAny_bind (wpAny_seqItemAt h rfl (wpAny_pure ?_)))
 rw [hx]
 show wpAny _ _ (setSeqItemAt a j v >>= _) _ _ s
 have e:=mK (vs:=vs) (q:=q) (k:=j) (v:=v)
 have fin:Q () { s with heap:=s.heap.update a (Obj.mapSeq (·.setIfInBounds j v)) }:=hQ _ (Heap.SameBut.update ..) (Heap.get?_update_self _ h (Obj.isFreed_of_seq (n:=q) (xs:=(vs.set j v).toArray) (by rw [e])))
 refine wpAny_bind (wpAny_setSeqItemAt h rfl ?_)
 first
  | exact wpAny_bind (wpAny_pure (wpAny_pure ⟨.none,rfl,wpAny_pure fin⟩))
  | exact wpAny_pure ⟨.none,rfl,wpAny_pure fin⟩
end
theorem IsAll.setAt {P:Params} {F:Fz} {v:Value} {d:AV} {vs:List Value} {l:List AV} (h:IsAll P F vs l) (q:Is P F v d):∀ k,IsAll P F (vs.set k v) (l.set k d):=
 h.ind (C:=fun vs l=>∀ k,IsAll P F (vs.set k v) (l.set k d)) (fun _=>.nil) fun _ _ _ _ h r ih k=>Nat.casesOn k (.cons q r) fun k=>.cons h (ih k)
section
variable {B:a5} {n:Nat} {L a:Addr} {H:HL} {loc:LL} {objs objs':OL} {l:List AV} {d:AV} {k:Nat} {ov iv v:Value}
theorem wV {Φ:St→Prop} (mo:(ov,.ref a)∈H) (mi:(iv,.int k)∈H) (md:(v,d)∈H) (hk:k < l.length) (hz:l.length≤16777000) (m:Chg a (.list l) (.list (l.set k d)) objs objs') (h:Φ ⟨loc,objs'⟩):WU B n L (setItem ov iv v) H ⟨loc,objs⟩ Φ:=a7 fun A F s hA X=>by
 refine x22 (m.split) ?_;rintro pre post rfl rfl
 obtain rfl:=al (X.hold mo)
 obtain ⟨t,rfl⟩:=ah (X.hold mi)
 have hd:=X.hold md
 refine x22 (X.objs (a,.list l) (List.mem_append_right _ (.head _))) ?_;rintro vs q h1 h2
 have hl:=h2.length
 refine A8 h1 (Int.natCast_nonneg k) (by omega) (by simp;omega) fun h' hs ho=>?_
 refine ae.change (o':=.list (l.set k d)) X (c:=a) (.inl rfl) rfl (fun b y _ q e=>(hs.2 b q).trans e) ?_ ⟨vs.set k v,q,ho.trans (congrArg some mK),h2.setAt hd k⟩ rfl rfl h
 refine x12 (X.frame) ?_;rintro m₀ FR hl
 exact ⟨m₀,FR.ns.sameBut hs (fun e=>(List.nodup_cons.mp X.nodup).1 (by rw [e];exact ay.mpr ⟨_,List.mem_append_right _ (.head _),.inl rfl⟩)),hl⟩
theorem AT {Φ:PV} {σ:St} (mo:(ov,.ref a)∈H) (ma:(a,AO.list l)∈σ.objs) (mi:(iv,.int k)∈H) (hd:l[k]? =some d) (hz:l.length≤16777000) (h:∀ v,Φ v d σ):WV B n L (getItem ov iv) H σ Φ:=a7 fun A F s hA X=>by
 obtain rfl:=al (X.hold mo)
 refine x22 (X.objs _ ma) ?_;rintro vs q h1 h2
 obtain ⟨u,rfl⟩:=ah (X.hold mi)
 have hlen:=h2.length
 have hkl:k < l.length:=(List.getElem?_eq_some_iff.mp hd).1
 refine x12 (fG.nth h2 hd) ?_;rintro y hy hyd
 exact wpAny_getItem_list (l:=a) (items:=vs.toArray) ⟨_,h1,rfl,_,rfl⟩ (by omega) (by omega) (by simpa using hy) (.here X ⟨d,hyd,h _⟩)
theorem DJ {Φ:PV} {σ:St} {value slice:Expr} (mo:(ov,.ref a)∈H) (ma:(a,AO.list l)∈σ.objs) (mi:(iv,.int k)∈H) (hd:l[k]? =some d) (hz:l.length≤16777000) (h:∀ v,Φ v d σ)
 (hs:∃ ops,subscripted slice false ov iv=operate ops (getItem ov iv)):WV B n L (subscriptTail value slice ov iv) H σ Φ:=
 cU (T:="list") (fun F s X=>by obtain rfl:=al (X.hold mo);refine x22 (X.objs _ ma) ?_;rintro vs q h1 h2;exact ⟨_,h1,rfl⟩) slot_list_getitem.lookup (AT mo ma mi hd hz h) hs
end
end
section
section
variable {B:a5} {n:Nat} {L:Addr} {H:HL} {loc:LL} {objs:OL} {env:Env}
theorem sx {v:Value} {d:AV} {item:Nat→AV} {a:Addr} {K:Nat→Obj→Prop} (mv:(v,d)∈H) (q:jc B n v d 2 item a K):
 W B n L (draw (.ref a) 2) H ⟨loc,(a,.is (K 0))::objs⟩ fun vs F σ'=>∃ v1 v2,vs=[v1,v2]∧Is B.P F v1 (item 0)∧Is B.P F v2 (item 1)∧σ'=⟨loc,(a,AO.is (K 2))::objs⟩:=by
 obtain ⟨next,stop,self,quiet⟩:=q
 show W B n L (pyNext (.ref a) >>= _) H _ _
 refine bN (next L 0 loc objs H (by decide) mv) ?_
 intro r F σ₁ z;refine x13 z ?_;clear z;rintro v1 rfl q1 rfl
 refine ⟨(v1,item 0)::H,fun _ h=>.tail _ h,fun p hp=>(mC0 hp).elim (fun e=>.inr (e▸q1)) .inl,?_⟩
 show W B n L (holding [v1] (pyNext (.ref a) >>= _) >>= _) _ _ _
 refine bN (Ψ₁:=fun vs F σ'=>∃ v2,vs=[v2]∧Is B.P F v2 (item 1)∧σ'=⟨loc,(a,AO.is (K 2))::objs⟩) (a8 ?_) ?_
 · refine bN (next L 1 loc objs ((v1,item 0)::H) (by decide) (.tail _ mv)) ?_
   intro r F σ₁ z;refine x13 z ?_;clear z;rintro v2 rfl q2 rfl
   refine ⟨(v2,item 1)::(v1,item 0)::H,fun _ h=>.tail _ h,fun p hp=>(mC0 hp).elim (fun e=>.inr (e▸q2)) .inl,?_⟩
   exact a7 fun _ _ _ _ x=>wpAny_bind (wpAny_holding (wpAny_pure (wpAny_pure (.here x ⟨v2,rfl,x.hold (.head _),rfl⟩))))
 · intro r F σ₁ z;refine x13 z ?_;clear z;rintro v2 rfl q2 rfl
   refine ⟨(v2,item 1)::(v1,item 0)::H,fun _ h=>.tail _ h,fun p hp=>(mC0 hp).elim (fun e=>.inr (e▸q2)) .inl,?_⟩
   exact a7 fun _ _ _ _ x=>wpAny_pure (.here x ⟨v1,v2,rfl,x.hold (.tail _ (.head _)),x.hold (.head _),rfl⟩)
theorem qE {v:Value} {d:AV} {item:Nat→AV} (it:bL B n L v d 2 item) (mv:(v,d)∈H) (nt:WB B n L (notIterableAtAll v) H ⟨loc,objs⟩ fun b σ₁=>b=false∧σ₁=⟨loc,objs⟩):
 W B n L (unpackItems v 2 none) H ⟨loc,objs⟩ fun vs F σ'=>∃ v1 v2,vs=[v1,v2]∧Is B.P F v1 (item 0)∧Is B.P F v2 (item 1)∧σ'=⟨loc,objs⟩:=by
 unfold unpackItems
 refine cv (cf nt ?_)
 rintro _ _ ⟨rfl,rfl⟩
 rw [if_neg Bool.false_ne_true]
 refine bN (a8 (it H _ mv)) ?_
 intro r F σ₁ z;refine x23 z ?_;clear z;rintro a K rfl rfl q
 refine ⟨H,fun _ h=>h,fun _ h=>.inl h,?_⟩
 dsimp only
 refine bN (a8 (sx mv q)) ?_
 intro r F σ₁ z;refine x24 z ?_;clear z;rintro v1 v2 rfl q1 q2 rfl
 refine ⟨(v1,item 0)::(v2,item 1)::H,fun _ h=>.tail _ (.tail _ h),fun p hp=>?_,?_⟩
 · rcases mC0 hp with rfl | hp
   · exact .inr q1
   · rcases mC0 hp with rfl | hp
     · exact .inr q2
     · exact .inl hp
 rw [if_neg (show ¬ ([v1,v2]:List Value).length < 2 from Nat.lt_irrefl 2)]
 refine bN (a8 (q.2 L loc objs _ (.tail _ (.tail _ mv)))) ?_
 rintro r F σ₁ ⟨rfl,rfl⟩
 refine ⟨_,fun _ h=>h,fun _ h=>.inl h,?_⟩
 rw [if_neg (by decide)]
 exact a7 fun _ _ _ _ x=>wpAny_pure (.here x ⟨v1,v2,rfl,x.hold (.head _),x.hold (.tail _ (.head _)),rfl⟩)
theorem m8 {v:Value} {l:List AV} {σ:St} (mv:(v,.lst l)∈H):WB B n L (notIterableAtAll v) H σ fun b σ₁=>b=false∧σ₁=σ:=a7 fun A F s hA X=>by
 refine x33 (bd (X.hold mv)) ?_;rintro a vs m rfl e1 e2
 unfold notIterableAtAll
 exact wpAny_bind (wpAny_specialOf (bP X.sub e1).typeIs PySem.F.slot_list_iter.lookup (wpAny_pure (.here X ⟨rfl,rfl⟩)))
theorem zt {σ:St} {t1 t2:Expr} {k:Nat} {p:Pos} {v:Value} {d1 d2:AV} {Φ:St→Prop} (mv:(v,.lst [d1,d2])∈H) (h:∀ v1 v2,WU B n L (assign t1 env v1) ((v1,d1)::(v2,d2)::H) σ fun σ₂=>WU B n L (assign t2 env v2) ((v1,d1)::(v2,d2)::H) σ₂ Φ)
 (he :autoParam (assignEach [t1,t2] env=[(false,assign t1 env),(false,assign t2 env)]) bR):WU B n L (assign (.Tuple [t1,t2] k p) env v) H σ Φ:=by
 obtain ⟨loc,objs⟩:=σ
 rw [assign_Tuple]
 refine ag ?_
 unfold unpack
 rw [he]
 refine bN (a8 (qE f9 mv (m8 mv))) ?_
 intro r F σ₁ z;refine x24 z ?_;clear z;rintro v1 v2 rfl q1 q2 rfl
 refine ⟨(v1,d1)::(v2,d2)::H,fun _ h=>.tail _ (.tail _ h),fun p hp=>?_,?_⟩
 · rcases mC0 hp with rfl | hp
   · exact .inr q1
   · rcases mC0 hp with rfl | hp
     · exact .inr q2
     · exact .inl hp
 · show W B n L (holding [v2] (assign t1 env v1) >>= fun _=>(holding [] (assign t2 env v2) >>= fun _=>pure ())) _ _ _
   exact bz (a8 (cD (h v1 v2) fun σ₂ w=>bz (a8 (cD w fun σ₃ q=>iq (Φ:=fun _ σ=>Φ σ) q))))
end
end
section
theorem oR (items:Array Value) (j:Int):slicePick items none (some j) none=(items.toList.take (bx items.size j)).toArray:=by
 have e:sliceBounds none (some j) none items.size=sliceBounds none (some ((bx items.size j:Nat):Int)) none items.size:=
  (congrArg (fun z:Int=>((0:Int),z,(1:Int))) ((dJ items.size j).trans ((dJ items.size _).trans (congrArg Int.ofNat (aT (gO _ _)))).symm):_)
 have e2:=slicePick_upto items (bx items.size j) (gO _ _)
 unfold slicePick at e2 ⊢
 rw [e];exact e2
theorem IsAll.take {P:Params} {F:Fz} {vs:List Value} {l:List AV} (h:IsAll P F vs l):∀ k,IsAll P F (vs.take k) (l.take k):=
 h.ind (C:=fun vs l=>∀ k,IsAll P F (vs.take k) (l.take k)) (fun k=>Nat.casesOn k .nil fun _=>.nil) fun _ _ _ _ h _ ih k=>Nat.casesOn k .nil fun k=>.cons h (ih k)
noncomputable def dH (B:a5) (L:Addr) (d:AV) (l:List AV) (σ:St):Prop:=∀ F H h o,Holds B.P B.G L F H σ h→Is B.P F o d→∃ a vs,o=.ref a∧h.IsList a vs.toArray∧IsAll B.P F vs l
theorem dH.trk {B:a5} {L a:Addr} {l:List AV} {σ:St} (m:(a,AO.list l)∈σ.objs):dH B L (.ref a) l σ:=fun F H h o X q=>by
 obtain rfl:=al q
 exact x22 (X.objs _ m) fun vs n h1 h2=>⟨a,vs,rfl,⟨_,h1,rfl,n,rfl⟩,h2⟩
theorem dH.lst {B:a5} {L:Addr} {l:List AV} {σ:St}:dH B L (.lst l) l σ:=fun F H h o X q=>
 x33 (bd q) fun a vs n e h1 h2=>⟨a,vs,e,bP X.sub h1,h2⟩
theorem gt {prog:Program} {w:World} {A:Around} {E:Value→Shared→Prop} {s:Shared} {value slice:Expr} {o i:Value} {T id:String} {ops:List Value} {Q:Value→Shared→Prop} (hT:s.TypeIs o T)
 (hl:typeLookup (.type T) "__getitem__"=pure (some (.builtin id))) (h:wpAny (model prog w) A (getItem o i) Q E s) (hs:subscripted slice false o i=operate ops (getItem o i)):wpAny (model prog w) A (subscriptTail value slice o i) Q E s:=by
 unfold subscriptTail
 refine wpAny_bind ?_
 rw [getitemInPython_of_ne hT.not_modules]
 refine wpAny_bind (wpAny_specialOf hT hl ?_)
 have fin:wpAny (model prog w) A (subscripted slice false o i) (fun r s₃=>wpAny (model prog w) A (letTemporaryGo value o r >>= fun _=>pure r) Q E s₃) E s:=by
  rw [hs]
  exact wpAny_operateT (wpAny_mono h (fun r s₃ h₃=>wpAny_bind (wpAny_letTemporaryGo (wpAny_pure h₃))) fun _ _ x=>x)
 first
  | exact wpAny_pure (wpAny_bind fin)
  | exact wpAny_bind (wpAny_pure (wpAny_bind fin))
  | exact wpAny_bind fin
section
variable {B:a5} {n:Nat} {L:Addr} {H:HL} {σ:St} {env:Env}
theorem wS {value hi:Expr} {p pos} {Φ:PV}
 (h:WV B n L (eval value env) H σ fun o d σ₁=>WV B n L (eval hi env) ((o,d)::H) σ₁ fun _ du σ₂=>∃ l j,dH B L d l σ₂∧du=.int j∧l.length≤16777216∧∀ v,Φ v (.lst (l.take (bx l.length j))) σ₂)
 (hs:∀ o i,∃ ops,subscripted (.Slice none (some hi) none p) false o i=operate ops (getItem o i):=by intro _ _;exact ⟨_,rfl⟩):
 WV B n L (eval (.Subscript value (.Slice none (some hi) none p) pos) env) H σ Φ:=fL fun A F s Q hA X fq=>by
 rw [eval_Subscript]
 refine wpAny_bind (h.then hA X fun o s₁ F₁ σ₁ x₁ p₁ z=>x12 z fun d hd w₁=>?_)
 refine wpAny_bind (wpAny_holding (wpAny_Slice (wpAny_pure (w₁.then hA (x₁.push hd) fun u s₃ F₃ σ₃ x₃ p₃ z=>?_))))
 refine x12 z ?_;clear z;rintro du hdu z;refine x24 z ?_;clear z;rintro l j hL rfl hz q
 refine wpAny_pure (wpAny_bind (wpAny_standAt ?_))
 obtain ⟨tj,rfl⟩:=ah hdu
 refine x23 (hL F₃ _ s₃.heap o x₃ (x₃.hold (.head _))) ?_;rintro a vs rfl hl e4
 obtain ⟨ops,hs⟩:=hs (.ref a) (.ref s₃.heap.objs.size)
 refine gt (Heap.IsList.typeIs (s:={ s₃ with heap:=s₃.heap.push { cls:=.type "slice",data:=.fields #[.none,.int j tj,.none] } }) (hl.push _)) list_getitem_lookup
  (wpAny_getItem_list_slice (lo:=none) (hi:=some j) (st:=none) (hl.push _) (Heap.IsSliceOf.new ..) .none (.int j tj) .none (by simp) ?_ (by rw [az,List.size_toArray,e4.length];exact hz)) hs
 have e:({ cls:=.type "list",data:=.seq (slicePick vs.toArray none (some j) none) }:Obj)=aA (vs.take (bx vs.length j)) 0:=by rw [oR];rfl
 rw [e]
 have x₃':=x₃.weaken (H':=H) fun p hp=>.tail _ hp
 have hn:s₃.heap.get? (s₃.heap.push { cls:=.type "slice",data:=.fields #[.none,.int j tj,.none] }).objs.size=none:=by
  induction w:s₃.heap.get? (s₃.heap.push { cls:=.type "slice",data:=.fields #[.none,.int j tj,.none] }).objs.size using Option.casesOn with
  | none=>rfl
  | some y=>have:=Heap.lt_size w;rw [Heap.size_push] at this;exact absurd this (Nat.not_lt.mpr (Nat.le_succ _))
 obtain ⟨F₄,σ₄,x₄,p₄,hF,rfl⟩:=ae.fresh (B:=B) (L:=L) (H:=H) (σ:=σ₃) (F:=F₃) (s:=s₃) (s':={ s₃ with heap:=(s₃.heap.push { cls:=.type "slice",data:=.fields #[.none,.int j tj,.none] }).push (aA (vs.take (bx vs.length j)) 0) })
  (Ψ:=fun F' σ'=>F'=F₃.put (s₃.heap.push { cls:=.type "slice",data:=.fields #[.none,.int j tj,.none] }).objs.size (aA (vs.take (bx vs.length j)) 0)∧σ'=σ₃) x₃' (fun b o e=>Heap.get?_push_of_some _ (Heap.get?_push_of_some _ e)) hn (Heap.get?_push_size _ rfl) rfl rfl fun le=>⟨rfl,rfl⟩
 subst hF
 exact fq _ _ ⟨_,σ₄,x₄,p₁.trans (p₃.trans p₄),_,.lst (Fz.put_self ..) (show IsAll _ _ (vs.take (bx vs.length j)) (l.take (bx l.length j)) from by rw [←e4.length];exact (e4.mono p₄.mono).take _),q _⟩
end
end
section
section
variable {B:a5} {n:Nat} {L:Addr} {H:HL} {σ:St} {a b v:Value} {x y c:Nat} {Φ:PV}
theorem yC:decide (([x]:List Nat) < [y])=decide (x < y):=by
 refine decide_eq_decide.mpr ⟨fun h=>?_,fun h=>List.Lex.rel h⟩
 cases h with
 | rel h=>exact h
 | cons h=>exact absurd h (List.not_lt_nil _)
theorem Ao (ma:(a,.str [x])∈H) (mb:(b,.str [y])∈H) (h:∀ v,Φ v (.bool (decide (x≤y))) σ):WV B n L (compareOp .LtE a b) H σ Φ:=a7 fun A F s hA X=>by
 obtain ⟨t,rfl⟩:=ak (X.hold ma);obtain ⟨u,rfl⟩:=ak (X.hold mb)
 refine PySem.P.le_str (.here X ⟨.bool (decide (x≤y)),?_,h _⟩)
 have e:(!decide ((S [y]).cps.toList < (S [x]).cps.toList))=decide (x≤y):=by
  show (!decide (([y]:List Nat) < [x]))= _
  rw [yC,←decide_not]
  exact decide_eq_decide.mpr Nat.not_lt
 exact e▸.bool _
theorem Dm {i:Int} (mv:(v,.int i)∈H) (hi:0≤i∧i≤1114111) (h:∀ v,Φ v (.str [i.toNat]) σ):WV B n L (call (.builtin "chr") [v]) H σ Φ:=a7 fun A F s hA X=>by
 obtain ⟨t,rfl⟩:=ah (X.hold mv)
 exact PySem.P.chr_of_int (by rw [decide_eq_false (Int.not_lt.mpr hi.1),decide_eq_false (show ¬ i > 1114111 from Int.not_lt.mpr hi.2)];rfl) (.toks X ⟨_,.str [i.toNat] _,h _⟩)
end
section
variable {X:Cx} {σ:St} {x y c:Nat}
theorem AF:bF X .LtE (.str [x]) (.str [y]) (decide (x≤y)) σ:=⟨fun _ _ _ _ ma mb h=>Ao ma mb h⟩
theorem Ay {i:Int} (hi:0≤i∧i≤1114111):aQ X (.builtin "chr") [.int i] σ (.str [i.toNat]) σ:=gu fun _ _ _ m h=>Dm m hi h
end
end
section
section
variable {P:Params} {G:Heap} {F F':Fz} {h:Heap} {la lb:Addr} {kv as bs:List AV} {R:OL}
theorem IsAll.retell {d d':AV} (le:F.le F') (k:∀ v,Is P F v d→Is P F' v d') (as:List AV):∀ {vs:List Value},IsAll P F vs (as++d::bs)→IsAll P F' vs (as++d'::bs):=by
 induction as with
 | nil=>
  intro vs h
  refine x23 (cq h) ?_;rintro v ws rfl q r
  exact .cons (k v q) (r.mono le)
 | cons a as ih=>
  intro vs h
  refine x23 (cq h) ?_;rintro v ws rfl q r
  exact .cons (q.mono le) (ih r)
theorem c0.frz (x:c0 P G F ((lb,.list kv)::(la,.list (as++.ref lb::bs))::R) h):∃ F',F.le F'∧c0 P G F' ((la,.list (as++.lst kv::bs))::R) h∧∀ b o,F' b=some o→F b=some o∨b=lb:=by
 refine x22 (x.objs _ (.head _)) ?_;rintro vs m h1 h2
 have le:=Fz.le_put (o:=aA vs m) (x.apart lb (.head _))
 have nd:=List.nodup_cons.mp x.nodup
 have here:Is P (F.put lb (aA vs m)) (.ref lb) (.lst kv):=.lst (Fz.put_self ..) (h2.mono le)
 have back:∀ b o,F.put lb (aA vs m) b=some o→F b=some o∨b=lb:=fun b o e=>by
  unfold Fz.put at e
  by_cases q:b=lb
  · exact .inr q
  · rw [if_neg q] at e;exact .inl e
 refine ⟨_,le,⟨fun b o e=>le _ _ (x.core b o e),fun b o e=>?_,fun p hp=>?_,nd.2,fun b hb=>?_,x.big⟩,back⟩
 · rcases back b o e with q | rfl
   · exact x.sub b o q
   · rw [Fz.put_self] at e;exact Option.some.inj e▸h1
 · rcases mC0 hp with rfl | hp
   · refine x22 (x.objs (la,.list (as++.ref lb::bs)) (.tail _ (.head _))) ?_;rintro ws k g1 g2
     exact ⟨ws,k,g1,IsAll.retell le (fun v q=>by obtain rfl:=al q;exact here) as g2⟩
   · exact (x.objs p (.tail _ (.tail _ hp))).move le fun _ _ _ e=>e
 · cases q:F.put lb (aA vs m) b with
   | none=>rfl
   | some o=>
    rcases back b o q with e | rfl
    · have:=x.apart b (.tail _ hb);rw [e] at this;contradiction
    · exact absurd hb nd.1
end
theorem a4.frz {B:a5} {n:Nat} {f:Addr} {args:List AV} {o:OL} {Φ:AV→OL→Prop} (c:a4 B n f args o fun d q=>∃ la lb kv as bs R,q.Perm ((lb,.list kv)::(la,.list (as++.ref lb::bs))::R)∧Φ d ((la,.list (as++.lst kv::bs))::R)):a4 B n f args o Φ:=
 fun A F s vs hA x hv=>codeAny_mono (c A F s vs hA x hv) fun r s' ⟨v,d,objs',F',a,b,y,p,q⟩=>by
  obtain ⟨la,lb,kv,as,bs,R,e,hq⟩:=q
  refine x13 (y.perm e).frz ?_;rintro F'' le y' back
  have sub:∀ x∈a9 ((la,AO.list (as++.lst kv::bs))::R),x∈a9 objs':=fun x hx=>(aZ e).mem_iff.mpr (.tail _ hx)
  have hlb:lb∈a9 objs':=(aZ e).mem_iff.mpr (.head _)
  exact ⟨v,d,_,F'',a,b.mono le,y',⟨p.keep,fun x hx=>p.own x (sub x hx),fun x o hx=>(back x o hx).elim (p.frz x o) fun z=>.inr (z▸p.own lb hlb),p.mono.trans le,p.gens,p.os⟩,hq⟩
end
section
theorem a4.pre {B:a5} {n:Nat} {f la lb:Addr} {args kv as bs:List AV} {R:OL} {Φ:AV→OL→Prop} (c:a4 B n f args ((la,.list (as++.lst kv::bs))::R) Φ):a4 B n f args ((lb,.list kv)::(la,.list (as++.ref lb::bs))::R) Φ:=
 fun A F s vs hA x hv=>by
  refine x13 x.frz ?_;rintro F' le y back
  refine codeAny_mono (c A F' s vs hA y (hv.mono le)) fun r s' ⟨v,d,objs',F'',a,b,y',p,q⟩=>?_
  exact ⟨v,d,objs',F'',a,b,y',⟨fun b o hb=>p.keep b o fun h=>hb (.tail _ h),fun b hb=>(p.own b hb).imp_left (.tail _),
   fun b o e=>Or.elim (p.frz b o e) (fun w=>Or.imp_right (fun (z:b=lb)=>Or.inl (List.mem_cons.mpr (.inl z))) (back b o w)) fun w=>.inr (Or.imp_left (.tail _) w),le.trans p.mono,p.gens,p.os⟩,q⟩
end
section
theorem c8:plainId "dict.update.loop"=true:=by decide+kernel
theorem e6:entryFor table "dict.update.loop"=some Builtin.«dict.update.loop»:=entryFor_of_fast (by kernel_rfl)
section
variable {prog:Program} {w:World} {A:Around} {E:Value→Shared→Prop} {s:Shared}
theorem oh {a:Addr} {xs:Array Value} {k:Nat} {Q:Option Value→Shared→Prop} (hx:s.heap.get? a=some { cls:=.type "list",data:=.seq xs k }) (hA:A.handled=none)
 (h:∀ h' tk,(∀ b o,s.heap.get? b=some o→h'.get? b=some o)→Q none { s with heap:=h',toks:=tk }):wpAny (model prog w) A (getAttr? (.ref a) "keys") Q E s:=by
 obtain ⟨hp,g,d,tk,os⟩:=s
 have hT:∀ tk',(⟨hp,g,d,tk',os⟩:Shared).TypeIs (.ref a) "list":=fun _=>⟨_,hx,rfl⟩
 have f1:=sub_AttributeError
 have f3:=F.slot_list_getattribute.lookup
 have f4:=F.slot_list_getattribute.bind (.ref a)
 have f5:=am_list_getattr_none
 have hmiss:typeLookup (.type "list") "keys"=pure none:=am_miss_of_fast (by kernel_rfl)
 unfold getAttr? getAttrBy? getAttrBy
 repeat (any_goals (first | assumption | exact hT _ | ((with_reducible show wpAny _ _ (call (Value.builtin "list.__getattribute__") _ _) _ _ _);refine call_meets F.slot_list_getattribute (hT _) am_entry_list_getattribute (F.args_list_getattribute_2 _ _) (meets_getattribute_miss_list a xs k #[] "keys" _ hmiss (by kernel_rfl) (by decide)) ⟨hx,hA,fun h' tk' e hx'=>?_⟩) | wp_step))
 obtain ⟨t',u',he⟩:=hx'.there
 have hk:=hx'.keeps
 have hE:∀ tk,(⟨h',g,d,tk,os⟩:Shared).TypeIs (.ref e) "AttributeError":=fun _=>⟨_,he,rfl⟩
 show wpAny _ _ (getattributeRaised _ _ _ _ _ _ _) _ _ _
 unfold getattributeRaised
 repeat (any_goals (first | assumption | exact hE _ | wp_step))
 exact h _ _ hk
end
end
section
section
variable {B:a5} {n:Nat} {L:Addr} {H:HL} {σ:St} {loc:LL} {objs objs':OL}
theorem nI {a:Addr} {l:FL} {x:List Nat} {kv v:Value} {d:AV} {Φ:St→Prop} (mi:(kv,.str x)∈H) (md:(v,d)∈H)
 (m :Chg a (.dict l) (.dict (bC (S x) d l)) objs objs') (hz:l.length≤100000) (h:Φ ⟨loc,objs'⟩):WU B n L (dictSet a kv v) H ⟨loc,objs⟩ Φ:=a7 fun A F s hA X=>by
 refine x22 (m.split) ?_;rintro pre post rfl rfl
 obtain ⟨t,rfl⟩:=ak (X.hold mi)
 have hd:=X.hold md
 refine x03 (X.objs (a,.dict l) (by simp)) ?_;rintro ⟨es,k,h1,h2⟩ h3 h4
 refine wpAny_dictSet_pairs (knd:=strKind B.prog B.w) (k:=S x) (beq_self_eq_true _) (cR h2 h3 h1) (fun h' hm hs=>?_) ?_
 · refine x23 (eN hm) ?_;rintro es' m' e1 e2 e3
   refine ae.change (o':=.dict (bC (S x) d l)) X (c:=a) (.inl rfl) rfl (fun b y _ q e=>(hs.2 b q).trans e) ?_ ⟨⟨es',m',e1,KM.ents ((qB h2).stored hd h3) e2 e3⟩,gi h3,h4⟩ rfl rfl h
   refine x12 (X.frame) ?_;rintro m₀ FR hl
   exact ⟨m₀,FR.ns.sameBut hs (fun e=>(List.nodup_cons.mp X.nodup).1 (by rw [e];exact ay.mpr ⟨_,List.mem_append_right _ (.head _),.inl rfl⟩)),hl⟩
 · have:=congrArg List.length (cT h2)
   simp only [List.length_map] at this
   rw [this,az];exact nT0 hz (by decide)
theorem kc {d1 d2:AV} {v:Value} {σ:St} (mv:(v,.lst [d1,d2])∈H):W B n L (Builtin.Dict.pairItems v) H σ fun vs F σ'=>∃ v1 v2,vs=[v1,v2]∧Is B.P F v1 d1∧Is B.P F v2 d2∧σ'=σ:=a7 fun A F s hA X=>by
 refine x33 (bd (X.hold mv)) ?_;rintro a vs m rfl e1 e2
 refine x23 (oe e2) ?_;rintro v1 v2 rfl q1 q2
 have hl:=X.sub _ _ e1
 unfold Builtin.Dict.pairItems
 refine wpAny_bind (wpAny_typeOf (T:="list") ⟨_,hl,rfl⟩ ?_)
 rw [if_pos (by decide)]
 exact wpAny_bind (wpAny_seqItems hl rfl (wpAny_pure (.here X ⟨v1,v2,rfl,q1,q2,rfl⟩)))
noncomputable abbrev ad (p:List Nat×AV):AV:=.lst [.str p.1,p.2]
noncomputable abbrev dZ (l:FL) (p:List Nat×AV):FL:=bC (S p.1) p.2 l
theorem jT {x:Str} {d:AV} {l:FL}:(bC x d l).length≤l.length+1:=by
 induction l with
 | nil=>exact Nat.le_refl _
 | cons p r ih=>
  show (if p.1==x then (x,d)::r else p::bC x d r).length≤_
  by_cases q:(p.1==x)=true
  · rw [if_pos q];exact Nat.le_succ _
  · rw [if_neg q];exact Nat.succ_le_succ ih
theorem oj {xv res:Value} {dx:AV} {I c:Addr} {K:Nat→Obj→Prop} {ps:List (List Nat×AV)} {item:Nat→AV} (hi:∀ i (h:i < ps.length),item i=ad ps[i]) (it:jc B n xv dx ps.length item I K) (mx:(xv,dx)∈H)
 {A:Around} {R:Result→Shared→Prop} (hA:c3 n A.in1) (k:Nat):∀ (i:Nat) (F:Fz) (s:Shared) (acc:FL),ps.length - i=k→i≤ps.length→acc.length+k≤100000→Holds B.P B.G L F H ⟨loc,(I,.is (K i))::(c,.dict acc)::objs⟩ s.heap→
  (∀ s' F',Holds B.P B.G L F' H ⟨loc,(c,.dict ((ps.drop i).foldl dZ acc))::objs⟩ s'.heap→aJ (L::a9 ((I,AO.is (K i))::(c,.dict acc)::objs)) F s (L::a9 ((c,AO.dict ((ps.drop i).foldl dZ acc))::objs)) F' s'→R (.ok (.ret res)) s')→
  codeAny B.M A (.builtin "dict.update.loop" ⟨[.ref c,.ref I,rawInt i,res],[]⟩) R s:=by
 induction k with
 | zero=>
  intro i F s acc hk hi' hz X hR
  have e:i=ps.length:=Nat.le_antisymm hi' (Nat.sub_eq_zero_iff_le.mp hk)
  refine codeAny_builtin e6 ?_
  rw [Around.under_plainId c8 _]
  show wpAny _ A.in1 (pyNext (.ref I) >>= _) _ _ s
  refine wpAny_bind ((it.2 L loc _ H mx).then hA (e▸X) fun r s₁ F₁ σ₁ x₁ p₁ q=>?_)
  obtain ⟨rfl,rfl⟩:=q
  subst e
  rw [List.drop_length] at hR
  exact wpAny_bind (wpAny_pure (wpAny_pure (hR _ _ x₁ p₁)))
 | succ k ih=>
  intro i F s acc hk hi' hz X hR
  have hlt:i < ps.length:=Nat.lt_of_sub_pos (hk▸Nat.succ_pos k)
  refine codeAny_builtin e6 ?_
  rw [Around.under_plainId c8 _]
  show wpAny _ A.in1 (pyNext (.ref I) >>= _) _ _ s
  refine wpAny_bind ((it.1 L i loc _ H hlt mx).then hA X fun r s₁ F₁ σ₁ x₁ p₁ q=>?_)
  refine x13 q ?_;clear q;rintro v rfl hv rfl
  rw [hi i hlt] at hv
  show wpAny _ _ (holding [v] _ >>= _) _ _ _
  refine wpAny_bind (wpAny_holding (wpAny_bind (wpAny_tryCatch ((kc (H:=(v,ad ps[i])::H) (.head _)).then hA (x₁.push hv) fun r s₂ F₂ σ₂ x₂ p₂ q=>?_))))
  refine x24 q ?_;clear q;rintro v1 v2 rfl q1 q2 rfl
  show wpAny _ _ (holding [v1,v2] (dictSet c v1 v2)) _ _ _
  have x₂':=(((x₂.weaken (H':=H) fun _ hp=>.tail _ hp).push q2).push q1)
  refine wpAny_holding ((nI (Φ:=fun σ'=>σ'=⟨loc,(I,.is (K (i+1)))::(c,.dict (dZ acc ps[i]))::objs⟩) (.head _) (.tail _ (.head _)) (.tail .head) (nT0 (Nat.le_add_right _ _) hz) rfl).then hA x₂' fun _ s₃ F₃ σ₃ x₃ p₃ q=>?_)
  subst q
  refine wpAny_pure ⟨plainId_quiet c8 _,?_⟩
  have hc:((i:Int)+1)=((i+1:Nat):Int):=rfl
  refine ih (i+1) F₃ s₃ (dZ acc ps[i]) (by rw [Nat.sub_add_eq,hk];rfl) hlt (nT0 (Nat.add_le_add_right jT k) (by rw [Nat.add_assoc,Nat.add_comm 1 k];exact hz)) (x₃.weaken fun _ hp=>.tail _ (.tail _ hp)) fun s' F' X' P'=>?_
  have ed:ps.drop i=ps[i]::ps.drop (i+1):=List.drop_eq_getElem_cons hlt
  rw [ed] at hR
  exact hR s' F' X' (p₁.trans (p₂.trans (p₃.trans P')))
end
end
section
section
variable {B:a5} {n:Nat} {L:Addr} {H:HL} {σ:St} {loc:LL} {objs objs':OL}
theorem c3.in1 {A:Around} (h:c3 (n+1) A):c3 n A.in1:=⟨h.handled,nT0 (Nat.add_le_add_left (Nat.le_succ n) A.depth) h.depth,by have:=h.units;show A.units+1+8*n≤9000;omega⟩
theorem kr {A:Around} {id:String} {res xv:Value} {ps:List (List Nat×AV)} {c:Addr} {acc:FL} {F:Fz} {s:Shared} {Q:Fin→Shared→Prop} {E:Value→Shared→Prop} {R:Result→Shared→Prop} {A₀:Around} (hA:c3 n A) (hA0:A₀.in1=A) (mx:(xv,.lst (ps.map ad))∈H)
 (hz:acc.length+ps.length≤100000) (X:Holds B.P B.G L F H ⟨loc,(c,.dict acc)::objs⟩ s.heap) (hQ:∀ c' s',c'.quiet=true∧codeAny B.M A₀ c' R s'→Q (.again c') s')
 (hR:∀ s' F',Holds B.P B.G L F' H ⟨loc,(c,.dict (ps.foldl dZ acc))::objs⟩ s'.heap→aJ (L::a9 ((c,AO.dict acc)::objs)) F s (L::a9 ((c,AO.dict (ps.foldl dZ acc))::objs)) F' s'→R (.ok (.ret res)) s'):
 wpAny B.M A (Builtin.Dict.updateFrom id c xv [] res) Q E s:=by
 subst hA0
 refine x33 (bd (X.hold mx)) ?_;rintro a vs m rfl e1 e2
 have hl:=X.sub _ _ e1
 unfold Builtin.Dict.updateFrom
 refine wpAny_bind (wpAny_typeOf (T:="list") ⟨_,hl,rfl⟩ ?_)
 rw [if_pos (by decide)]
 refine wpAny_bind (oh hl hA.handled fun h' tk k=>?_)
 rw [if_pos (by rfl)]
 refine wpAny_bind (wpAny_rule ?_)
 obtain ⟨F₁,σ₁,X₁,P₁,rfl,rfl⟩:=ae.more (B:=B) (L:=L) (H:=H) (σ:=⟨loc,(c,.dict acc)::objs⟩) (F:=F) (s:=s) (s':={ s with heap:=h',toks:=tk }) (Ψ:=fun F' σ'=>F'=F∧σ'=⟨loc,(c,.dict acc)::objs⟩) X k rfl rfl ⟨rfl,rfl⟩
 refine wpAny_bind ((f9 (B:=B) (n:=n) (L:=L) H _ mx).then hA X₁ fun r s₂ F₂ σ₂ x₂ p₂ q=>?_)
 refine x23 q ?_;clear q;rintro I K rfl rfl it
 refine wpAny_pure (hQ _ _ ⟨plainId_quiet c8 _,?_⟩)
 rw [List.length_map] at it
 exact oj (ps:=ps) (fun i h=>by simp [h]) it mx hA ps.length 0 F₂ s₂ acc rfl (Nat.zero_le _) hz x₂ fun s' F' X' P'=>hR s' F' X' (P₁.trans (p₂.trans P'))
theorem p9 {v₀ v:Value} {c:Addr} {acc:FL} {ps:List (List Nat×AV)} {Φ:PV} (mv:(v₀,.ref c)∈H) (mx:(v,.lst (ps.map ad))∈H) (hz:acc.length+ps.length≤100000)
 (h:Φ .none .none ⟨loc,(c,.dict (ps.foldl dZ acc))::objs⟩):WV B (n+1) L (call (.builtin "dict.update") [v₀,v]) H ⟨loc,(c,.dict acc)::objs⟩ Φ:=a7 fun A F s hA X=>by
 obtain rfl:=al (X.hold mv)
 refine x03 (X.objs (c,.dict acc) (.head _)) ?_;rintro ⟨es,k,h1,h2⟩ h3 h4
 have hD:=cR (prog:=B.prog) h2 h3 h1
 refine wpAny_call (codeAny_call_builtin PySem.F.slot_dict_update.plain PySem.F.entry_dict_update (PySem.F.slot_dict_update.check _ _ _ _ _ _ _ _ hD.typeIs (PySem.F.args_dict_update_2 _ _) ?_))
 unfold Builtin.«dict.update» Builtin.Dict.selfAndRest
 refine wpAny_bind (wpAny_bind (wpAny_notOrdered_dict hD.typeIs ?_))
 refine wpAny_pure ?_
 show wpAny _ _ (Builtin.Dict.updateFrom "dict.update" c v [] .none) _ _ _
 exact kr (ps:=ps) hA.in1 rfl mx hz X (fun c' s' z=>z) fun s' F' X' P'=>⟨F',_,X',P',.none,.none,h⟩
theorem qG {v:Value} {ps:List (List Nat×AV)} {σ:St} {Φ:PV} (mx:(v,.lst (ps.map ad))∈H) (hz:ps.length≤100000)
 (h:∀ c,Φ (.ref c) (.ref c) ⟨σ.loc,(c,.dict (ps.foldl dZ []))::σ.objs⟩):WV B (n+2) L (call (.type "dict") [v]) H σ Φ:=a7 fun A F s hA X=>by
 refine callType_codes (Q₁:=fun obj s₁=>obj=.ref s.heap.objs.size∧s₁={ s with heap:=s.heap.push { cls:=.type "dict",data:=.dict #[] } }) PySem.F.kt_called_dict (PySem.F.kt_typeCall_dict_1 _) PySem.F.entry_dict_init (kt_code_dict_new _ ⟨rfl,rfl⟩) ?_
 rintro obj s₁ ⟨rfl,rfl⟩
 have hg:(s.heap.push { cls:=.type "dict",data:=.dict #[] }).get? s.heap.objs.size=some (dictOf [] 0):=Heap.get?_push_size _ rfl
 have hT:(⟨s.heap.push { cls:=.type "dict",data:=.dict #[] },s.gens,s.drawn,s.toks,s.os⟩:Shared).TypeIs (.ref s.heap.objs.size) "dict":=⟨_,hg,rfl⟩
 refine ⟨hT,PySem.F.args_dict_init_2 _ _,?_⟩
 have hsm:(s.heap.objs.size==sysModules)=false:=gV (B:=B) (nT0 X.low (by obtain ⟨y,hy⟩:=X.there L (.head _);exact Nat.le_of_lt (Heap.lt_size hy)))
 obtain ⟨F₁,σ₁,X₁,P₁,rfl,rfl⟩:=ae.track (B:=B) (L:=L) (H:=H) (σ:=σ) (s:=s) (s':={ s with heap:=s.heap.push { cls:=.type "dict",data:=.dict #[] } }) (o:=.dict []) (Ψ:=fun F' σ'=>F'=F∧σ'=⟨σ.loc,(s.heap.objs.size,.dict [])::σ.objs⟩) X
  (fun b y e=>Heap.get?_push_of_some _ e) (fun b hb=>by rcases mC0 hb with rfl | hb;exact b0 _;contradiction) (by simp [AO.more]) ⟨⟨[],0,hg,.nil⟩,List.nodup_nil,hsm⟩ rfl rfl ⟨rfl,rfl⟩
 unfold Builtin.«dict.__init__» Builtin.Dict.selfAndRest
 refine wpAny_bind (wpAny_bind (wpAny_notOrdered_dict hT ?_))
 refine wpAny_pure ?_
 show wpAny _ _ (Builtin.Dict.updateFrom "dict.__init__" s.heap.objs.size v [] .none) _ _ _
 exact kr (ps:=ps) hA.in1.in1 rfl mx (by simpa using hz) X₁ (fun c' s' z=>z) fun s' F' X' P'=>⟨rfl,F',_,X',P₁.trans P',.ref s.heap.objs.size,.ref _,h _⟩
end
end
section
theorem IsAll.reverse {P:Params} {F:Fz} {vs:List Value} {l:List AV} (h:IsAll P F vs l):IsAll P F vs.reverse l.reverse:=
 h.ind (C:=fun vs l=>IsAll P F vs.reverse l.reverse) .nil fun v d vs l hv _ c=>by rw [List.reverse_cons,List.reverse_cons];exact fF.snoc c hv
section
variable {B:a5} {n:Nat} {L:Addr} {H:HL} {σ:St} {env:Env} {loc:LL} {objs:OL}
theorem Bw {value st:Expr} {p pos} {Φ:PV}
 (h:WV B n L (eval value env) H σ fun o d σ₁=>WV B n L (eval st env) ((o,d)::H) σ₁ fun _ du σ₂=>∃ l,dH B L d l σ₂∧du=.int (-1)∧l.length≤16777216∧∀ v,Φ v (.lst l.reverse) σ₂)
 (hs:∀ o i,∃ ops,subscripted (.Slice none none (some st) p) false o i=operate ops (getItem o i):=by intro _ _;exact ⟨_,rfl⟩):
 WV B n L (eval (.Subscript value (.Slice none none (some st) p) pos) env) H σ Φ:=fL fun A F s Q hA X fq=>by
 rw [eval_Subscript]
 refine wpAny_bind (h.then hA X fun o s₁ F₁ σ₁ x₁ p₁ z=>x12 z fun d hd w₁=>?_)
 refine wpAny_bind (wpAny_holding (wpAny_Slice (wpAny_pure (wpAny_pure (w₁.then hA (x₁.push hd) fun u s₃ F₃ σ₃ x₃ p₃ z=>?_)))))
 refine x12 z ?_;clear z;rintro du hdu z;refine x14 z ?_;clear z;rintro l hL rfl hz q
 refine wpAny_bind (wpAny_standAt ?_)
 obtain ⟨tj,rfl⟩:=ah hdu
 refine x23 (hL F₃ _ s₃.heap o x₃ (x₃.hold (.head _))) ?_;rintro a vs rfl hl e4
 obtain ⟨ops,hs⟩:=hs (.ref a) (.ref s₃.heap.objs.size)
 refine gt (Heap.IsList.typeIs (s:={ s₃ with heap:=s₃.heap.push { cls:=.type "slice",data:=.fields #[.none,.none,.int (-1) tj] } }) (hl.push _)) list_getitem_lookup
  (wpAny_getItem_list_slice (lo:=none) (hi:=none) (st:=some (-1)) (hl.push _) (Heap.IsSliceOf.new ..) .none .none (.int (-1) tj) (by decide) ?_ (by rw [az,List.size_toArray,e4.length];exact hz)) hs
 have e:({ cls:=.type "list",data:=.seq (slicePick vs.toArray none none (some (-1))) }:Obj)=aA vs.reverse 0:=by rw [krv_pick]
 rw [e]
 have x₃':=x₃.weaken (H':=H) fun p hp=>.tail _ hp
 have hn:s₃.heap.get? (s₃.heap.push { cls:=.type "slice",data:=.fields #[.none,.none,.int (-1) tj] }).objs.size=none:=by
  induction w:s₃.heap.get? (s₃.heap.push { cls:=.type "slice",data:=.fields #[.none,.none,.int (-1) tj] }).objs.size using Option.casesOn with
  | none=>rfl
  | some y=>have:=Heap.lt_size w;rw [Heap.size_push] at this;exact absurd this (Nat.not_lt.mpr (Nat.le_succ _))
 obtain ⟨F₄,σ₄,x₄,p₄,hF,rfl⟩:=ae.fresh (B:=B) (L:=L) (H:=H) (σ:=σ₃) (F:=F₃) (s:=s₃) (s':={ s₃ with heap:=(s₃.heap.push { cls:=.type "slice",data:=.fields #[.none,.none,.int (-1) tj] }).push (aA vs.reverse 0) })
  (Ψ:=fun F' σ'=>F'=F₃.put (s₃.heap.push { cls:=.type "slice",data:=.fields #[.none,.none,.int (-1) tj] }).objs.size (aA vs.reverse 0)∧σ'=σ₃) x₃' (fun b o e=>Heap.get?_push_of_some _ (Heap.get?_push_of_some _ e)) hn (Heap.get?_push_size _ rfl) rfl rfl fun le=>⟨rfl,rfl⟩
 subst hF
 exact fq _ _ ⟨_,σ₄,x₄,p₁.trans (p₃.trans p₄),_,.lst (Fz.put_self ..) (e4.mono p₄.mono).reverse,q _⟩
theorem zU {v:Value} {c:Addr} {l:FL} {Φ:PV} (mv:(v,.ref c)∈H) (m:(c,AO.dict l)∈σ.objs) (hz:l.length≤100000) (h:∀ v,Φ v (.int l.length) σ):WV B n L (call (.builtin "len") [v]) H σ Φ:=a7 fun A F s hA X=>by
 obtain rfl:=al (X.hold mv)
 refine x03 (X.objs _ m) ?_;rintro ⟨es,k,h1,h2⟩ h3 h4
 have hD:=cR (prog:=B.prog) h2 h3 h1
 have e:=congrArg List.length (cT h2)
 simp only [List.length_map] at e
 exact call_len_dict h4 hD (by rw [e];omega) (.toks X ⟨.int l.length,e▸.int _ _,h _⟩)
theorem yN {v:Value} {d:AV} {l:List AV} {Φ:PV} (mv:(v,d)∈H) (m:dH B L d l σ) (hz:l.length≤16777216) (h:∀ v,Φ v (.int l.length) σ):WV B n L (call (.builtin "len") [v]) H σ Φ:=a7 fun A F s hA X=>by
 refine x23 (m F H _ v X (X.hold mv)) ?_;rintro a vs rfl h1 h2
 have hlen:=h2.length
 exact Calls.call_len_list (l:=a) (items:=vs.toArray) h1 (by simp [hlen];omega) (.toks X ⟨.int l.length,by simp only [List.size_toArray,hlen];exact .int _ _,h _⟩)
theorem tg {v:Value} {d:AV} {l:List AV} {Ψ:Bool→St→Prop} (mv:(v,d)∈H) (m:dH B L d l σ) (hz:l.length≤16777216) (h:Ψ (!l.isEmpty) σ):WB B n L (truthy v) H σ Ψ:=a7 fun A F s hA X=>by
 refine x23 (m F H _ v X (X.hold mv)) ?_;rintro a vs rfl h1 h2
 have e:vs.toArray.isEmpty=l.isEmpty:=by
  refine h2.ind (C:=fun vs l=>vs.toArray.isEmpty=l.isEmpty) rfl fun _ _ _ _ _ _ _=>?_
  simp [Array.isEmpty]
 exact wpAny_truthy_list (l:=a) (items:=vs.toArray) h1 (by have:=h2.length;simp [this];omega) (.toks X (e▸h))
theorem zT {name:Str} {id:String} {v₀:Value} {a:Addr} {l:FL} {pl:Sem Bool} {Ψ:Value×List Value→Fz→St→Prop} (mv:(v₀,.ref a)∈H) (m:(a,AO.dict l)∈σ.objs) (slot:Slot "dict" name id) (ty:typeOf (.builtin id)=pure (.type "method_descriptor"))
 (h:∀ F,Ψ (.builtin id,[v₀]) F σ):W B n L (getMethod v₀ name pl) H σ Ψ:=a7 fun A F s hA X=>by
 obtain rfl:=al (X.hold mv)
 refine x03 (X.objs _ m) ?_;rintro ⟨es,k,h1,h2⟩ h3 h4
 exact getMethod_builtin (T:="dict") ⟨_,h1,rfl⟩ PySem.F.plainAttrs_dict slot ty (fun b e=>by cases e;exact ⟨_,h1,rfl⟩) (.here X (h _))
end
end
section
section
variable {X:Cx} {σ σ₁ σ₂:St} {loc loc':LL} {objs objs' objs'':OL} {d o:AV} {R:AV→St→Prop} {QF:PF} {e:Expr} {pos p:Pos} {x:Str}
theorem qy (h1:EvQ X e σ R) (h2:∀ d σ',R d σ'→∃ σ₂,StR X x d σ' σ₂∧QF .next σ₂) (hs:autoParam (swapsWith e (some (.Name x p)) pos.line X.env=pure false) bR):ExQ X (.Assign [.Name x p] e pos) σ QF:=
 ⟨fun H Φ h=>cV (h1.run _ _ fun v d σ' w=>x12 (h2 d σ' w) fun σ₂ w1 w2=>w1.run _ _ _ hd0 (h _ _ w2)) hs⟩
theorem nZ {fe a:Expr} {ps:List (List Nat×AV)} {dv:AV} (h1:EvX X fe σ (.type "dict") dv) (h2:EvL X [a] σ [.lst (ps.map ad)] ⟨loc,objs⟩) (hz:ps.length≤100000) (hn:Nat.ble 2 X.n=true)
 (he:autoParam (eval (.Call fe [a] [] pos) X.env=(do callWith pos (←eval fe X.env) [] (backTo pos (starEach [a] X.env)) [])) bR) (hp:autoParam ((backTo pos (starEach [a] X.env)).any (·.1)=false) bR):
 EvQ X (.Call fe [a] [] pos) σ fun d σ'=>∃ c,d=.ref c∧σ'=⟨loc,(c,.dict (ps.foldl dZ []))::objs⟩:=
 ⟨fun H Φ h=>gm (h1.run _ _ (Dd.run _ _ _ _ _ _ hp (h2.run _ _ _ fun vs hl=>by
  refine x22 (cI hl) ?_;rintro v r rfl hl1
  cases gZ hl1
  refine qZ (qG (n:=0) (ps:=ps) (List.mem_append_left _ (List.mem_cons_self)) hz fun c=>h _ _ _ ⟨c,rfl,rfl⟩) (lB0 hn)))) he⟩
theorem r0 {c:Addr} {l:FL} (m:(c,AO.dict l)∈objs) (hz:l.length≤100000):aQ X (.builtin "len") [.ref c] ⟨loc,objs⟩ (.int l.length) ⟨loc,objs⟩:=gu fun _ _ _ mv h=>zU (σ:=⟨loc,objs⟩) mv m hz h
theorem pT {l:List AV} (hz:l.length≤16777216):aQ X (.builtin "len") [.lst l] σ (.int l.length) σ:=gu fun _ _ _ mv h=>yN mv .lst hz h
theorem lT {l:List AV} (hz:l.length≤16777216):gI X (.lst l) (!l.isEmpty) σ:=⟨fun _ _ _ m h=>tg m .lst hz h⟩
theorem xU {name:Str} {id:String} {c:Addr} {l:FL} (m:(c,AO.dict l)∈objs) (slot:Slot "dict" name id) (ty:typeOf (.builtin id)=pure (.type "method_descriptor")):e7 X (.ref c) name (.builtin id) ⟨loc,objs⟩:=⟨fun _ _ _ _ mv h=>zT (σ:=⟨loc,objs⟩) mv m slot ty h⟩
theorem p6 {c:Addr} {acc:FL} {ps:List (List Nat×AV)} (hz:acc.length+ps.length≤100000) (hn:Nat.ble 1 X.n=true):aQ X (.builtin "dict.update") [.ref c,.lst (ps.map ad)] ⟨loc,(c,.dict acc)::objs⟩ .none ⟨loc,(c,.dict (ps.foldl dZ acc))::objs⟩:=
 fA fun _ _ _ _ mv mw h=>qZ (p9 (n:=0) (ps:=ps) mv mw hz (h _)) (lB0 hn)
theorem AK {value st:Expr} {q:Pos} {l:List AV} (h1:Ev X value σ (.lst l) σ₁) (h2:Ev X st σ₁ (.int (-1)) σ₂) (hz:l.length≤16777216)
 (hs:∀ o i,∃ ops,subscripted (.Slice none none (some st) q) false o i=operate ops (getItem o i):=by intro _ _;exact ⟨_,rfl⟩):
 Ev X (.Subscript value (.Slice none none (some st) q) pos) σ (.lst l.reverse) σ₂:=⟨fun _ _ h=>Bw (h1.run _ _ fun _=>h2.run _ _ fun _=>⟨l,.lst,rfl,hz,h⟩) hs⟩
noncomputable def iy (ps:List (List Nat×AV)):FL:=if (ps.foldl dZ []).length < ps.length then ps.reverse.foldl dZ (ps.foldl dZ []) else ps.foldl dZ []
theorem oy (ps:List (List Nat×AV)):∀ acc:FL,(ps.foldl dZ acc).length≤acc.length+ps.length:=by
 induction ps with
 | nil=>exact fun _=>Nat.le_refl _
 | cons p r ih=>exact fun acc=>nT0 (ih _) (by rw [List.length_cons,Nat.add_comm r.length 1,←Nat.add_assoc];exact Nat.add_le_add_right jT _)
theorem r9 {o i value:Expr} {c a:Addr} {x:List Nat} {fs l l':FL} (h1:Ev X value σ (.ref c) σ₁) (h2:Ev X o σ₁ (.ref a) σ₂) (h3:Ev X i σ₂ (.str x) ⟨loc,objs⟩) (tk:eW c (.dict fs) objs objs') (hp:gJ (S x) (.dct fs) l l') (m:Chg a (.dict l) (.dict l') objs' objs'') (hz:l.length≤900)
 (hs:autoParam (swapsWith value (some (.Subscript o i p)) pos.line X.env=pure false) bR):Ex X (.Assign [.Subscript o i p] value pos) σ .next ⟨loc,objs''⟩:=
 ⟨fun _ _ h=>gC (h1.run _ _ fun _=>h2.run _ _ fun _=>h3.run _ _ fun _=>vH (.tail _ (.tail _ (.head _))) tk (rS (.tail _ (.tail _ (.head _))) (.tail _ (.head _)) (.head _) hp m hz h)) hs⟩
theorem CG {ss:List Stmt} {f:Fl} (h:bg X ss σ fun f' σ'=>f'=f∧σ'=σ₁):ExB X ss σ f σ₁:=⟨fun H Φ k=>h.run H Φ fun _ _ z=>z.1▸z.2▸k⟩
theorem iB {ss:List Stmt} (h:bg X ss ⟨loc',objs⟩ QF) (e:∀ x d,(x,some d)∈loc'→(x,some d)∈loc) (nd:(loc'.map (·.1)).Nodup):bg X ss ⟨loc,objs⟩ QF:=
 ⟨fun H Φ k=>a7 fun A F s hA Y=>wpAny_mono ((h.run H Φ k).run A F s hA ⟨Y.core,Y.sub,let ⟨m,hm,r⟩:=Y.loc;⟨m,hm,fun y d hy=>r y d (e y d hy)⟩,nd,Y.objs,Y.nodup,Y.apart,Y.held,Y.low⟩) (fun v s' z=>let ⟨F',σ',x,p,q⟩:=z;⟨F',σ',x,p,q⟩) fun _ _ z=>z⟩
theorem vh {t:Expr} {x y:List Stmt} {fl:Fl} (h1:Te X t σ true σ₁) (h2:ExB X x σ₁ fl σ₂):Ex X (.If t x y pos) σ fl σ₂:=Dc h1 ⟨fun _=>h2,nofun⟩
theorem r7 {t:Expr} {x y:List Stmt} {fl:Fl} (h1:Te X t σ false σ₁) (h2:ExB X y σ₁ fl σ₂):Ex X (.If t x y pos) σ fl σ₂:=Dc h1 ⟨nofun,fun _=>h2⟩
end
end
section
section
variable {X:Cx} {σ σ₁ σ₂ σ':St} {loc loc':LL} {objs objs':OL} {d d1 d2 o:AV} {Q:PF} {e:Expr} {pos p:Pos} {x:Str} {l:List AV} {ss body:List Stmt} {f:Fl}
theorem yJ {value hi:Expr} {q:Pos} {j:Int} (h1:Ev X value σ d σ₁) (h2:Ev X hi σ₁ (.int j) σ₂) (hl:dH X.B X.L d l σ₂) (hz:l.length≤16777216)
 (hs:∀ o i,∃ ops,subscripted (.Slice none (some hi) none q) false o i=operate ops (getItem o i):=by intro _ _;exact ⟨_,rfl⟩):
 Ev X (.Subscript value (.Slice none (some hi) none q) pos) σ (.lst (l.take (bx l.length j))) σ₂:=⟨fun _ _ h=>wS (h1.run _ _ fun _=>h2.run _ _ fun _=>⟨l,j,hl,rfl,hz,h⟩) hs⟩
theorem wU {t1 t2:Expr} {k:Nat} (h1:AsR X t1 d1 σ σ₁) (h2:AsR X t2 d2 σ₁ σ₂) (he:autoParam (assignEach [t1,t2] X.env=[(false,assign t1 X.env),(false,assign t2 X.env)]) bR):AsR X (.Tuple [t1,t2] k p) (.lst [d1,d2]) σ σ₂:=
 ⟨fun H v Φ m h=>zt m (fun v1 v2=>h1.run _ _ _ (.head _) (h2.run _ _ _ (.tail _ (.head _)) h)) he⟩
theorem x8 {B:a5} {n:Nat} {L:Addr} {H:HL} {σ:St} {env:Env} {target iter:Expr} {body:List Stmt} {pos:Pos} {Φ:PF} (J:Nat→St→Prop) (h:WV B n L (eval iter env) H σ (jR B n L H env target body J Φ))
 (hs:autoParam (∀ x,foldedSetIterable iter env x=pure x) bI):WF B n L (exec (.For target iter body [] pos) env) H σ Φ:=fL fun A F s Q hA X fq=>by
 refine wpAny_For (h.then hA X fun xv s₁ F₁ σ₁ x₁ p₁ q=>?_) hs
 refine x12 (q) ?_;clear q;rintro d hd ⟨N,item,it,j0,fin,step⟩
 refine (it _ σ₁ (.head _)).then hA (x₁.push hd) fun r s₂ F₂ σ₂ x₂ p₂ q=>?_
 refine x23 (q) ?_;clear q;rintro a K rfl rfl ⟨next,stop,_,quiet⟩
 refine codeAny_forLoop_any (sk B L ((xv,d)::H) σ F s a K N J) (fun k s₃ hI=>?_) N ⟨0,F₂,σ₁.loc,σ₁.objs,rfl,Nat.zero_le _,j0,x₂,p₁.trans p₂⟩
 obtain ⟨i,F₃,loc,objs,e,hi,j,x₃,p₃⟩:=hI
 by_cases hN:i=N
 · subst hN
   refine (stop L loc objs _ (.head _)).then hA x₃ fun r s₄ F₄ σ₄ x₄ p₄ q=>?_
   obtain ⟨rfl,rfl⟩:=q
   exact wpAny_execs_nil (fq _ _ ⟨F₄,_,x₄.weaken fun _ hp=>.tail _ hp,p₃.trans p₄,.next,trivial,fin _ j⟩)
 · have hlt:i < N:=Nat.lt_of_le_of_ne hi hN
   refine (next L i loc objs _ hlt (.head _)).then hA x₃ fun r s₄ F₄ σ₄ x₄ p₄ q=>?_
   refine x13 (q) ?_;clear q;rintro v rfl hv rfl
   refine x12 (x₄.objs _ (.head _)) ?_;rintro o ho hk
   refine gB ho (quiet _ _ hk) ?_
   refine hU (step i loc objs a (K (i+1)) v hlt j) hA (x₄.push hv) (fun _ hp=>.tail _ (.tail _ hp)) fun f s₅ F₅ σ₅ fe x₅ p₅ he q=>?_
   have pp:=p₃.trans (p₄.trans p₅)
   refine jq (G:=∃ m,m < k∧sk B L ((xv,d)::H) σ F s a K N J m s₅) (Q:=fun f=>Q f s₅) he q (fun loc' objs' e' j'=>?_) fun f e he q=>fq _ _ ⟨F₅,σ₅,x₅,pp,e,he,q⟩
   subst e'
   exact ⟨N - (i+1),e▸Nat.sub_succ_lt_self _ _ hlt,i+1,F₅,loc',objs',rfl,hlt,j',x₅.push ((x₄.hold (.head _)).mono p₅.mono),pp⟩
theorem jj {target iter:Expr} {N:Nat} {item:Nat→AV} (J:Nat→St→Prop) (h1:Ev X iter σ d σ₁) (it:∀ xv,bL X.B X.n X.L xv d N item) (j0:J 0 σ₁) (fin:∀ σ,J N σ→Q .next σ)
 (step:∀ i loc objs a p,i < N→J i ⟨loc,objs⟩→∃ σ₂,AsR X target (item i) ⟨loc,(a,.is p)::objs⟩ σ₂∧bg X body σ₂ fun f σ'=>(f=.next∧∃ loc' objs',σ'=⟨loc',(a,.is p)::objs'⟩∧J (i+1) ⟨loc',objs'⟩)∨(f=.brk∧Q .next σ'))
 (hs:autoParam (∀ x,foldedSetIterable iter X.env x=pure x) bI):ExQ X (.For target iter body [] pos) σ Q:=
 ⟨fun H Φ h=>x8 (J:=J) (h1.run _ _ fun xv=>⟨N,item,it xv,j0,fun σ z=>h _ _ (fin σ z),fun i loc objs a p v hi hj=>by
  refine x12 (step i loc objs a p hi hj) ?_;rintro σ₂ w1 w2
  refine w1.run _ _ _ (.head _) (w2.run _ _ fun f σ' z=>?_)
  rcases z with ⟨rfl,z⟩ | ⟨rfl,z⟩
  · exact z
  · exact h _ _ z⟩) hs⟩
theorem iL {env:Env} {b:List Stmt}:∀ a:List Stmt,execs (a++b) env=(do match ←execs a env with | .next=>execs b env | f=>pure f)
 | []=>by rw [execs_nil];exact (pure_bind _ _).symm
 | st::a=>by
  rw [List.cons_append,execs_cons,execs_cons,bind_assoc]
  refine bind_congr fun f=>?_
  rcases f with _ | _
  · exact iL a
  all_goals exact (pure_bind _ _).symm
theorem CA {B:a5} {n:Nat} {L:Addr} {env:Env} {H:HL} {a b:List Stmt} {Φ:PF} (h:WF B n L (execs a env) H σ (dP B n L b env H Φ)):WF B n L (execs (a++b) env) H σ Φ:=by
 refine a7 fun A F s hA x=>?_
 rw [iL]
 refine wpAny_bind (wpAny_mono (h.run A F s hA x) (fun f s₁ z=>z.then fun F₁ σ₁ x₁ ⟨e,he,q⟩=>?_) fun _ _ z=>z)
 induction f using Flow.casesOn with
 | next=>rcases e with _ | _<;>first | exact he.elim | exact q.run A F₁ s₁ hA x₁
 | brk=>rcases e with _ | _<;>first | exact he.elim | exact wpAny_pure (.here x₁ ⟨.brk,trivial,q⟩)
 | cont=>rcases e with _ | _<;>first | exact he.elim | exact wpAny_pure (.here x₁ ⟨.cont,trivial,q⟩)
 | ret v=>rcases e with _ | _<;>first | exact he.elim | exact wpAny_pure (.here x₁ ⟨.ret _,he,q⟩)
theorem x0 (k:Nat) (h1:ExB X (ss.take k) σ .next σ₁) (h2:bg X (ss.drop k) σ₁ Q):bg X ss σ Q:=by
 refine ⟨fun H Φ h=>?_⟩
 have w:=h1.run H (dP X.B X.n X.L (ss.drop k) X.env H Φ) (h2.run H Φ h)
 rw [←List.take_append_drop k ss]
 exact CA w
theorem E9 {σ':St} {d':AV} (h:Ev X e σ d σ') (q:d=d'):Ev X e σ d' σ':=q▸h
theorem vR {t:Expr} {x y:List Stmt} (h1:Te X t σ true σ₁) (h2:bg X x σ₁ Q):ExQ X (.If t x y pos) σ Q:=Ck h1 ⟨fun _=>h2,nofun⟩
end
end
section
section
variable {B:a5} {n:Nat} {L:Addr} {H:HL} {σ:St} {env:Env} {loc:LL} {objs:OL}
theorem tN {pos:Pos} {Φ:PV} (h:∀ v,Φ v (.dct []) σ):WV B n L (eval (.Dict [] [] pos) env) H σ Φ:=a7 fun A F s hA X=>by
 rw [eval_Dict_empty]
 refine wpAny_bind (wpAny_standAt ?_)
 have hsm:(s.heap.objs.size==sysModules)=false:=gV (B:=B) (nT0 X.low (by obtain ⟨y,hy⟩:=X.there L (.head _);exact Nat.le_of_lt (Heap.lt_size hy)))
 refine wpAny_newObj_type ?_
 exact ae.fresh X (fun b o e=>Heap.get?_push_of_some _ e) (b0 _) (o:=dictOf [] 0) (Heap.get?_push_size _ rfl) rfl rfl fun le=>⟨.dct [],.dct (Fz.put_self ..) .nil List.nodup_nil hsm,h _⟩
theorem wA {a b:Value} {l m:List AV} {Φ:PV} (ma:(a,.lst l)∈H) (mb:(b,.lst m)∈H) (hz:l.length+m.length≤16777216) (h:∀ v,Φ v (.lst (l++m)) σ):WV B n L (binaryOp .Add a b) H σ Φ:=a7 fun A F s hA X=>by
 refine x33 (bd (X.hold ma)) ?_;rintro x vs k rfl e1 e2
 refine x33 (bd (X.hold mb)) ?_;rintro y ws k' rfl e3 e4
 have e:vs.toArray++ws.toArray=(vs++ws).toArray:=by simp
 refine concat_meets ⟨_,X.sub _ _ e1,rfl⟩ ⟨_,X.sub _ _ e3,rfl⟩ noFill_list_add seq_list_add PySem.F.slot_list_add PySem.F.entry_list_add (PySem.F.args_list_add_2 _ _) (list_addW x y vs.toArray ws.toArray k k' none none #[] #[] (by simp [e2.length,e4.length];rw [az];exact hz)) ⟨X.sub _ _ e1,X.sub _ _ e3,?_⟩
 rw [e]
 have ap:∀ {F':Fz},F.le F'→IsAll B.P F' (vs++ws) (l++m):=fun le=>by
  have q:=e2.mono le
  have q':=e4.mono le
  exact q.ind (C:=fun vs l=>IsAll _ _ (vs++ws) (l++m)) q' fun _ _ _ _ h _ c=>.cons h c
 exact ae.fresh X (fun b o e=>Heap.get?_push_of_some _ e) (b0 _) (o:=aA (vs++ws) 0) (Heap.get?_push_size _ rfl) rfl rfl fun le=>⟨_,.lst (Fz.put_self ..) (ap le),h _⟩
theorem pn {v w:Value} {b:Bool} {Φ:PV} (mv:(v,.bool b)∈H) (mw:(w,.lit (.type "bool"))∈H) (h:∀ v,Φ v (.bool true) σ):WV B n L (call (.builtin "isinstance") [v,w]) H σ Φ:=a7 fun A F s hA X=>by
 obtain rfl:=n9 (X.hold mw)
 have e:v=.bool b:=cz (X.hold mv)
 subst e
 exact PySem.IsiPair.bool_bool (.here X ⟨.bool true,.bool _,h _⟩)
noncomputable abbrev fb (x:Str):List Nat:=x.cps.toList
theorem zH {xv:Value} {l:FL} {es:List DictEntry} {q:Nat} {F₀:Fz} (e2:IsEnts B.P F₀ es l) (e3:(l.map (·.1)).Nodup) (hx:∀ t,xv=.ref t→(t==sysModules)=false):bL B n L xv (.obj fun o=>o=dictOf es q) l.length (fun i=>(l.map fun p=>AV.str (fb p.1)).getD i .any):=by
 intro H σ m;refine a7 fun A F s hA X=>?_
 refine x23 (eG (X.hold m)) ?_;rintro t _ rfl e1 rfl
 have at':∀ {h:Heap},h.get? t=some (dictOf es q)→h.DictAt (strKind B.prog B.w) t (dS es l) q:=fun hg=>⟨_,es.toArray,hg,⟨rfl,rfl,rfl⟩,rfl,fun x hx=>mD e2 x (by simpa using hx),l5 e2,by rw [cT e2];exact e3⟩
 have hlen:(dS es l).length=l.length:=by have:=congrArg List.length (cT e2);simpa using this
 have hsys:=hx t rfl
 refine wpAny_pyIter_dict hsys (at' (X.sub _ _ e1)) ?_
 refine ae.begin (p:=fun o=>o.cls=.type "dict_keyiterator"∧o.data=.fields #[.ref t,.int (0:Nat) 0,.int (dS es l).length 0,.int q 0]) X ⟨rfl,rfl⟩ ⟨_,fun i o=>o.cls=.type "dict_keyiterator"∧o.data=.fields #[.ref t,.int (i:Nat) 0,.int (dS es l).length 0,.int q 0],rfl,rfl,fun L' i loc objs H hi mm=>a7 fun A F s hA X=>?_,fun L' loc objs H mm=>a7 fun A F s hA X=>?_,(fun L' loc objs H=>a7 fun A F s hA X=>?_),fun i o ho=>⟨_,ho.1,by decide⟩⟩
 · refine x13 (X.objs _ (.head _)) ?_;rintro o ho hc hd
   refine x23 (eG (X.hold mm)) ?_;rintro t' _ et e1' rfl
   cases et
   have hi':i < (dS es l).length:=hlen▸hi
   obtain ⟨k,v,hkv⟩:∃ k v,(dS es l)[i]=(k,v):=⟨_,_,rfl⟩
   refine wpAny_pyNext_dict_item (i:=i) ⟨o,ho,hc,hd⟩ (at' (X.sub _ _ e1')) (k:=k) (v:=v) (by rw [List.getElem?_eq_getElem hi',hkv]) fun key h' hk hit hs=>?_
   obtain ⟨tk,rfl⟩:=Value.isStrOf_shape hk
   have ek:k=(l[i]'hi).1:=by
    have:=congrArg (fun z:List Str=>z[i]?) (cT e2)
    simp only [List.getElem?_map,List.getElem?_eq_getElem hi',List.getElem?_eq_getElem hi,hkv,Option.map_some] at this
    exact Option.some.inj this
   refine ae.turn X hs hit rfl rfl ⟨_,rfl,?_,rfl⟩
   rw [List.getD_eq_getElem?_getD,List.getElem?_map,List.getElem?_eq_getElem hi,ek]
   exact .str (fb l[i].1) tk
 · refine x13 (X.objs _ (.head _)) ?_;rintro o ho hc hd
   refine x23 (eG (X.hold mm)) ?_;rintro t' _ et e1' rfl
   cases et
   refine wpAny_pyNext_dict_end (i:=l.length) hA.handled ⟨o,ho,hc,hd⟩ (at' (X.sub _ _ e1')) (List.getElem?_eq_none (Nat.le_of_eq hlen)) fun h' hs=>?_
   exact ae.remove X (fun b y hb e=>hs b y hb e) rfl rfl ⟨rfl,rfl⟩
 · refine x13 (X.objs _ (.head _)) ?_;rintro o ho hc hd
   exact wpAny_pyIter_keyiter (d:=t) (i:=0) (n:=(dS es l).length) (ep:=q) ⟨o,ho,hc,hd⟩ (.here X ⟨rfl,rfl⟩)
theorem xJ {t:Sem Value} {Φ:PV} {l:FL} (h:WV B n L t H σ fun v d σ₁=>d=.dct l∧∀ es q F₀,IsEnts B.P F₀ es l→(l.map (·.1)).Nodup→(∀ a,v=.ref a→(a==sysModules)=false)→Φ v (.obj fun o=>o=dictOf es q) σ₁):WV B n L t H σ Φ:=a7 fun A F s hA X=>
 wpAny_mono (h.run A F s hA X) (fun v s₁ z=>by
  obtain ⟨F',σ',x,p,d,hd,rfl,k⟩:=z
  obtain ⟨a,es,q,rfl,e1,e2,e3,e4⟩:=pj hd
  exact ⟨F',σ',x,p,.obj fun o=>o=dictOf es q,.obj (p:=fun o=>o=dictOf es q) e1 rfl,k es q F' e2 e3 fun b e=>by cases e;exact e4⟩) fun _ _ z=>z
end
section
variable {X:Cx} {σ σ₁:St} {loc:LL} {objs:OL} {target elt:Expr} {ifs:List Expr} {pos:Pos}
theorem tA {iter:Expr} {scope:Scope} {cl:List (Str×Addr)} {l:FL} (xs:List Str) (keep:Nat→Bool) (val:Nat→AV) (hN:l.length≤16777215) (h1:Ev X iter σ (.dct l) ⟨loc,objs⟩)
 (h2:∀ i,i < l.length→gF X.B X.n target elt ifs (fun C=>compEnvC scope cl C X.env) xs ((l.map fun p=>AV.str (fb p.1)).getD i .any) (keep i) (val i) objs)
 (hclos:closureFor scope X.env=pure cl) (hx:xs.Nodup:=by decide)
 (hcell:∀ y∈scope.names,y.2≠.cell:=by decide) (hkind:autoParam (scope.kind=.function) bR) (hnames:∀ y∈scope.names,y.2=.local→scope.names.lookup y.1=some .local:=by decide)
 (hs:autoParam (∀ x,foldedSetIterable iter X.env x=pure x) bI):
 Ev X (.ListComp elt [⟨target,iter,ifs,0⟩] scope pos) σ (.lst (b3 keep val l.length)) ⟨loc,objs⟩:=⟨fun _ _ h=>iA (rU xs (fun i ys o=>ys=b3 keep val i∧o=objs) (xJ (l:=l) (h1.run _ _ fun xv=>⟨rfl,fun es q F₀ e2 e3 e4=>⟨l.length,_,zH e2 e3 e4,⟨rfl,rfl⟩,fun i hi=>gF.step (item:=fun i=>(l.map fun p=>AV.str (fb p.1)).getD i .any) (Nat.le_of_lt (nL0 hi hN)) (h2 i hi),fun ys o D ⟨e1,e2⟩=>⟨D,_,loc,objs,rfl,by rw [e1,e2],h _⟩⟩⟩)) hclos hx hcell hkind hnames hs)⟩
theorem uQ:Ev X (.Dict [] [] pos) σ (.dct []) σ:=⟨fun _ _ h=>tN h⟩
theorem q8 {l m:List AV} (hz:l.length+m.length≤16777216):iE X .Add (.lst l) (.lst m) (.lst (l++m)) σ:=⟨fun _ _ _ _ ma mb h=>wA ma mb hz h⟩
theorem jM {b:Bool}:aQ X (.builtin "isinstance") [.bool b,.lit (.type "bool")] σ (.bool true) σ:=fA fun _ _ _ _ mv mw h=>pn mv mw h
end
end
section
set_option genInjectivity false
variable {op:CmpOp} {a:DV} {s:Sy} {X:Cx} {ρ:List Addr} {i j:Nat} {D:DS} {K:Frag} {name:Str} {C dx:Addr} {fs:List (Str×DV)}
noncomputable section
noncomputable def ob {α:Type u} {β:Type v} (o:Option α) (f:α→Option β):Option β:=Option.casesOn o none f
noncomputable def obe {α:Type u} {β:Type v} (o:Option α) (f:∀ a,o=some a→Option β):Option β:=Option.casesOn (motive:=fun o=>(∀ a,o=some a→Option β)→Option β) o (fun _=>none) (fun a f=>f a rfl) f
noncomputable def gd {α:Type u} (b:Bool) (f:b=true→Option α):Option α:=Bool.casesOn (motive:=fun b=>(b=true→Option α)→Option α) b (fun _=>none) (fun f=>f rfl) f
inductive DB where
 | yes | no | is (c:Bool)
noncomputable def DB.val:DB→Bool
 | .yes=>true
 | .no=>false
 | .is c=>c
noncomputable abbrev RA (op:CmpOp) (a b:AV):={r:DB // ∀ X σ,bF X op a b r.val σ}
noncomputable abbrev RA.r {a b:AV} (x:RA op a b):DB:=x.1
theorem RA.ok {a b:AV} (x:RA op a b):∀ X σ,bF X op a b x.r.val σ:=x.2
noncomputable abbrev RC (op:CmpOp) (a b:DV):={r:DB // ∀ X σ ρ,bF X op (a.to ρ) (b.to ρ) r.val σ}
noncomputable abbrev RC.r {b:DV} (x:RC op a b):DB:=x.1
theorem RC.ok {b:DV} (x:RC op a b):∀ X σ ρ,bF X op (a.to ρ) (b.to ρ) x.r.val σ:=x.2
noncomputable def Bx (i j:Int):(op:CmpOp)→Option (RA op (.int i) (.int j))
 | .Eq=>some ⟨.is _,fun _ _=>EH⟩
 | .NotEq=>some ⟨.is _,fun _ _=>EK⟩
 | .Lt=>some ⟨.is _,fun _ _=>EJ⟩
 | .LtE=>some ⟨.is _,fun _ _=>DY⟩
 | .Gt=>some ⟨.is _,fun _ _=>wu⟩
 | .GtE=>some ⟨.is _,fun _ _=>EL⟩
 | _=>none
noncomputable def Bu (x y:List Nat):(op:CmpOp)→Option (RA op (.str x) (.str y))
 | .Eq=>some ⟨.is _,fun _ _=>AM⟩
 | .NotEq=>some ⟨.is _,fun _ _=>CK⟩
 | .In=>(match x with
  | [c]=>some ⟨.is _,fun _ _=>Bi⟩
  | _=>none)
 | .NotIn=>(match x with
  | [c]=>some ⟨.is _,fun _ _=>wW⟩
  | _=>none)
 | .LtE=>(match x,y with
  | [c],[d]=>some ⟨.is _,fun _ _=>AF⟩
  | _,_=>none)
 | _=>none
noncomputable def Dg (x:List Nat) (l:List AV):(op:CmpOp)→Option (RA op (.str x) (.tup l))
 | .In=>obe (aD l) fun ms e=>some ⟨.is _,fun _ _=>Cf e⟩
 | .NotIn=>obe (aD l) fun ms e=>some ⟨.is _,fun _ _=>yY e⟩
 | _=>none
noncomputable def BR (i:Int) (l:List AV):(op:CmpOp)→Option (RA op (.int i) (.tup l))
 | .In=>obe (i6 l) fun ms e=>some ⟨.is _,fun _ _=>Af e⟩
 | _=>none
noncomputable def Dh (l:List AV):(op:CmpOp)→Option (RA op .none (.tup l))
 | .In=>obe (dataAll l) fun ps e=>gd (PyData.canLayAll0 ps&& !(ps.any fun y=>PyData.eqv y .none)) fun q=>some ⟨.no,fun _ _=>wR e (aj q) (by simpa using au q)⟩
 | _=>none
noncomputable def B2 (y:List Nat):(op:CmpOp)→Option (RA op .none (.str y))
 | .Eq=>gd (PyData.strOk (S y)) fun q=>some ⟨.no,fun _ _=>yR q⟩
 | _=>none
noncomputable def Av (p q:Bool):(op:CmpOp)→Option (RA op (.bool p) (.bool q))
 | .Eq=>some ⟨.is _,fun _ _=>CO⟩
 | _=>none
noncomputable def nK (op:CmpOp) (a b:AV):Option (RA op a b):=match a with
 | .int i=>(match b with
  | .int j=>Bx i j op
  | .tup l=>BR i l op
  | _=>none)
 | .str x=>(match b with
  | .str y=>Bu x y op
  | .tup l=>Dg x l op
  | _=>none)
 | .none=>(match b with
  | .str y=>B2 y op
  | .tup l=>Dh l op
  | _=>none)
 | .bool p=>(match b with
  | .bool q=>Av p q op
  | _=>none)
 | _=>none
noncomputable abbrev RN (a:DV):={r:Bool // ∀ ρ P F v,Is P F v (a.to ρ)→(v==Value.none)=r}
noncomputable abbrev RN.r (x:RN a):Bool:=x.1
theorem RN.ok (x:RN a):∀ ρ P F v,Is P F v (a.to ρ)→(v==Value.none)=x.r:=x.2
noncomputable def vB:(a:DV)→Option (RN a)
 | .av d=>(match d with
  | .none=>some ⟨true,fun _=>tU⟩
  | .str _=>some ⟨false,fun _=>oV⟩
  | .int _=>some ⟨false,fun _=>s9⟩
  | .dct _=>some ⟨false,fun _=>qT⟩
  | _=>none)
 | .slot _=>some ⟨false,fun _=>rE⟩
 | _=>none
noncomputable def DB.of (b:Bool):DB:=Bool.casesOn b .no .yes
theorem DB.of_val (b:Bool):(DB.of b).val=b:=by rcases b with _ | _<;>rfl
noncomputable def Em (op:CmpOp) (a b:DV):Option (RC op a b):=match b with
 | .av y=>(match op with
  | .Is=>(match y with
   | .none=>ob (vB a) fun q=>some ⟨.of q.r,fun X σ ρ=>(DB.of_val _).symm▸EV (q.ok ρ)⟩
   | _=>none)
  | .IsNot=>(match y with
   | .none=>ob (vB a) fun q=>some ⟨.of !q.r,fun X σ ρ=>(DB.of_val _).symm▸yn (q.ok ρ)⟩
   | _=>none)
  | op=>(match a with
   | .av x=>ob (nK op x y) fun q=>some ⟨q.r,fun X σ _=>q.ok X σ⟩
   | _=>none))
 | _=>none
noncomputable def Sy.need (s:Sy) (p:Prop):Sy:=⟨s.D,s.n,s.o,s.c∧p⟩
structure eP (s s':Sy):Prop where
 D:s'.D=s.D
 n:s'.n=s.n
 c:s'.c→s.c
theorem eP.refl (s:Sy):eP s s:=⟨rfl,rfl,id⟩
theorem eP.need (s:Sy) (p:Prop):eP s (s.need p):=⟨rfl,rfl,And.left⟩
noncomputable abbrev RB (op:Operator) (a b:DV) (s:Sy):=Sigma fun v:DV=>{s':Sy // eP s s'∧(s'.c→∀ X σ ρ,iE X op (a.to ρ) (b.to ρ) (v.to ρ) σ∧oD X op (a.to ρ) (b.to ρ) (v.to ρ) σ)}
noncomputable abbrev RB.v {op:Operator} {b:DV} (x:RB op a b s):DV:=x.1
noncomputable abbrev RB.s' {op:Operator} {b:DV} (x:RB op a b s):Sy:=x.2.1
theorem RB.A {op:Operator} {b:DV} (x:RB op a b s):eP s x.s':=x.2.2.1
theorem RB.ok {op:Operator} {b:DV} (x:RB op a b s):x.s'.c→∀ X σ ρ,iE X op (a.to ρ) (b.to ρ) (x.v.to ρ) σ∧oD X op (a.to ρ) (b.to ρ) (x.v.to ρ) σ:=x.2.2.2
noncomputable def ui (op:Operator) (a b:DV) (s:Sy):Option (RB op a b s):=match a with
 | .av (.int i)=>(match b with
  | .av (.int j)=>(match op with
   | .Add=>some ⟨.av (.int (i+j)),s,.refl s,fun _ _ _ _=>⟨na,BP⟩⟩
   | .Sub=>some ⟨.av (.int (i - j)),s,.refl s,fun _ _ _ _=>⟨we,Bm⟩⟩
   | _=>none)
  | _=>none)
 | .av (.str x)=>(match b with
  | .av (.str y)=>(match op with
   | .Add=>some ⟨.av (.str (x++y)),s.need (x.length+y.length≤16777216),.need _ _,fun c _ _ _=>⟨yl c.2,jv c.2⟩⟩
   | _=>none)
  | _=>none)
 | _=>none
noncomputable abbrev RT (a:DV) (s:Sy):=Sigma fun r:DB=>{s':Sy // eP s s'∧(s'.c→∀ X ρ,gI X (a.to ρ) r.val (s.D.to ρ))}
noncomputable abbrev RT.r (x:RT a s):DB:=x.1
noncomputable abbrev RT.s' (x:RT a s):Sy:=x.2.1
theorem RT.A (x:RT a s):eP s x.s':=x.2.2.1
theorem RT.ok (x:RT a s):x.s'.c→∀ X ρ,gI X (a.to ρ) x.r.val (s.D.to ρ):=x.2.2.2
theorem mX {l:List AV} {ps:List DV} (e:aV i D.objs=some (.list l ps)) (hz:l.length+ps.length≤16777216):gI X (.ref (aB ρ i)) (!(toL ρ l ps).isEmpty) (D.to ρ):=
 xz (bc e) (by refine dL▸?_;exact hz)
noncomputable def Dw (i:Nat) (s:Sy) (l:List AV) (ps:List DV) (e:aV i s.D.objs=some (.list l ps)):RT (.slot i) s:=match ps with
 | []=>⟨.is (!l.isEmpty),s.need (l.length+0≤16777216),.need _ _,fun c X ρ=>mX e c.2⟩
 | p::r=>⟨.yes,s.need (l.length+(p::r).length≤16777216),.need _ _,fun c X ρ=>by
  have w:=mX (X:=X) (ρ:=ρ) e c.2
  rw [show (!(toL ρ l (p::r)).isEmpty)=true by rcases l with _ | _<;>rfl] at w
  exact w⟩
noncomputable def wI (a:DV) (s:Sy):Option (RT a s):=match a with
 | .av d=>(match d with
  | .none=>some ⟨.no,s,.refl s,fun _ _ _=>y7⟩
  | .bool c=>some ⟨.is c,s,.refl s,fun _ _ _=>jH⟩
  | .int i=>some ⟨.is (!decide (i=0)),s,.refl s,fun _ _ _=>C4⟩
  | .str x=>some ⟨.is (!decide (x=[])),s.need (x.length≤16777216),.need _ _,fun c _ _=>CX c.2⟩
  | .lst l=>some ⟨.is (!l.isEmpty),s.need (l.length≤16777216),.need _ _,fun c _ _=>lT c.2⟩
  | _=>none)
 | .meth _ _=>some ⟨.yes,s,.refl s,fun _ _ _=>zm⟩
 | .slot i=>obe (aV i s.D.objs) fun o e=>(match o,e with
  | .list l ps,e=>some (Dw i s l ps e)
  | _,_=>none)
noncomputable abbrev RD (r:DB) (s:Sy):=Sigma fun b:Bool=>{s':Sy // eP s s'∧(s'.c→r.val=b)}
noncomputable abbrev RD.b {r:DB} (x:RD r s):Bool:=x.1
noncomputable abbrev RD.s' {r:DB} (x:RD r s):Sy:=x.2.1
theorem RD.A {r:DB} (x:RD r s):eP s x.s':=x.2.2.1
theorem RD.ok {r:DB} (x:RD r s):x.s'.c→r.val=x.b:=x.2.2.2
noncomputable def tu (r:DB) (s:Sy):Option (RD r s):=match r with
 | .yes=>some ⟨true,s,.refl s,fun _=>rfl⟩
 | .no=>some ⟨false,s,.refl s,fun _=>rfl⟩
 | .is c=>(match s.o with
  | .br b::o=>some ⟨b,⟨s.D,s.n,o,s.c∧c=b⟩,⟨rfl,rfl,And.left⟩,And.right⟩
  | _=>none)
noncomputable abbrev RG (K:Frag) (i:Nat) (name:Str) (s:Sy):={v:DV // ∀ X:Cx,X.B.K=K→∀ ρ,jn X (.ref (aB ρ i)) name (v.to ρ) (s.D.to ρ)}
noncomputable abbrev RG.v (x:RG K i name s):DV:=x.1
theorem RG.ok (x:RG K i name s):∀ X:Cx,X.B.K=K→∀ ρ,jn X (.ref (aB ρ i)) name (x.v.to ρ) (s.D.to ρ):=x.2
noncomputable def jA (v:DV):Bool:=DV.casesOn v cJ (fun _=>true) fun _ _=>true
theorem oF {v:DV} (h:jA v=true):cJ (v.to ρ)=true:=by
 induction v using DV.casesOn with
 | av d=>exact h
 | slot i=>rfl
 | meth f i=>rfl
theorem yM {v:DV} (hK:X.B.K=K) (e:aV i D.objs=some (.inst C dx fs)) (q:cy name fs=some v) (h:(cr K C name&&jA v)=true):jn X (.ref (aB ρ i)) name (v.to ρ) (D.to ρ):=by
 subst hK
 exact ⟨fun _ _ _ mv k=>pL mv (bc e) (aj h) (gP q) (oF (au h)) k⟩
theorem zr {g:Addr} (hK:X.B.K=K) (e:aV i D.objs=some (.inst C dx fs)) (q:cy name fs=none) (h:bV K C name g=true):jn X (.ref (aB ρ i)) name (.meth g (aB ρ i)) (D.to ρ):=by
 subst hK
 exact Cr (bc e) (gf q) h
theorem za {k:Int} (hK:X.B.K=K) (e:aV i D.objs=some (.inst C dx fs)) (q:cy name fs=none) (h:hM K C name=some k):jn X (.ref (aB ρ i)) name (.int k) (D.to ρ):=by
 subst hK
 exact D2 (bc e) (gf q) h
noncomputable def vW (o:Option (Option Value)):Option Addr:=match o with
 | some (some (.ref g))=>some g
 | _=>none
noncomputable def Bv (K:Frag) (i:Nat) (name:Str) (s:Sy):Option (RG K i name s):=obe (aV i s.D.objs) fun o e=>match o,e with
 | .inst C dx fs,e=>Option.casesOn (motive:=fun z=>cy name fs=z→Option (RG K i name s)) (cy name fs)
  (fun q=>Option.casesOn (motive:=fun _=>Option (RG K i name s)) (vW (findIn K (.ref C) name)) (obe (hM K C name) fun k h=>some ⟨.av (.int k),fun X hK ρ=>za hK e q h⟩) fun g=>gd (bV K C name g) fun h=>some ⟨.meth g i,fun X hK ρ=>zr hK e q h⟩)
  (fun v q=>gd (cr K C name&&jA v) fun h=>some ⟨v,fun X hK ρ=>yM hK e q h⟩) rfl
 | _,_=>none
noncomputable def Sy.objs (s:Sy) (l:List (Nat×DO)):Sy:=⟨⟨s.D.loc,l,s.D.rest⟩,s.n,s.o,s.c⟩
noncomputable abbrev RS (K:Frag) (i:Nat) (name:Str) (v:DV) (s:Sy):={l:List (Nat×DO) // ∀ X:Cx,X.B.K=K→∀ ρ,kX X (.ref (aB ρ i)) name (v.to ρ) (s.D.to ρ) ((s.objs l).D.to ρ)}
noncomputable abbrev RS.l {v:DV} (x:RS K i name v s):List (Nat×DO):=x.1
theorem RS.ok {v:DV} (x:RS K i name v s):∀ X:Cx,X.B.K=K→∀ ρ,kX X (.ref (aB ρ i)) name (v.to ρ) (s.D.to ρ) ((s.objs x.l).D.to ρ):=x.2
theorem x9 {v:DV} (hK:X.B.K=K) (e:aV i s.D.objs=some (.inst C dx fs)) (h:(dt K C name&&Nat.ble fs.length 900)=true):kX X (.ref (aB ρ i)) name (v.to ρ) (s.D.to ρ) ((s.objs (fc i (.inst C dx (kM name v fs)) s.D.objs)).D.to ρ):=by
 subst hK
 have m:=dh (ρ:=ρ) (rest:=s.D.rest) (o':=.inst C dx (kM name v fs)) e
 rw [show (DO.inst C dx (kM name v fs)).to ρ=.inst C dx (bC name (v.to ρ) (dy ρ fs)) from congrArg (AO.inst C dx) mG] at m
 exact ⟨fun _ _ _ _ mv md k=>vD (σ:=s.D.to ρ) mv md m (aj h) (by rw [List.length_map];exact lB0 (au h)) k⟩
noncomputable def D9 (K:Frag) (i:Nat) (name:Str) (v:DV) (s:Sy):Option (RS K i name v s):=obe (aV i s.D.objs) fun o e=>match o,e with
 | .inst C dx fs,e=>gd (dt K C name&&Nat.ble fs.length 900) fun h=>some ⟨_,fun X hK ρ=>x9 hK e h⟩
 | _,_=>none
noncomputable abbrev RI (a i:DV) (s:Sy):=Sigma fun v:DV=>{s':Sy // eP s s'∧(s'.c→∀ X ρ e1 e2,bm e2=true→cF X e1 e2 (a.to ρ) (i.to ρ) (v.to ρ) (s.D.to ρ))}
noncomputable abbrev RI.v {i:DV} (x:RI a i s):DV:=x.1
noncomputable abbrev RI.s' {i:DV} (x:RI a i s):Sy:=x.2.1
theorem RI.A {i:DV} (x:RI a i s):eP s x.s':=x.2.2.1
theorem RI.ok {i:DV} (x:RI a i s):x.s'.c→∀ X ρ e1 e2,bm e2=true→cF X e1 e2 (a.to ρ) (i.to ρ) (x.v.to ρ) (s.D.to ρ):=x.2.2.2
theorem v8 {l:List AV} {ps:List DV} {v:DV} {e1 e2:Expr} (e:aV j D.objs=some (.list l ps)) (q:ps.getLast? =some v) (hz:l.length+ps.length≤16777000) (hs:bm e2=true):cF X e1 e2 (.ref (aB ρ j)) (.int (-1)) (v.to ρ) (D.to ρ):=by
 have m:=bc (ρ:=ρ) (rest:=D.rest) e
 obtain ⟨qs,rfl⟩:=List.getLast?_eq_some_iff.mp q
 rw [DO.to,fQ] at m
 exact pR m (by refine dL▸?_;rw [List.length_append] at hz;exact nT0 (Nat.add_le_add_left (Nat.le_add_right _ _) _) hz) (g5 hs)
theorem zA {l:List (Str×DV)} {x:List Nat} {v:DV} {e1 e2:Expr} (e:aV j D.objs=some (.dict l)) (q:cy (S x) l=some v) (hs:bm e2=true):cF X e1 e2 (.ref (aB ρ j)) (.str x) (v.to ρ) (D.to ρ):=
 ⟨fun _ _ _ _ mo mi k=>yq mo (bc e) mi (gP q) k (g5 hs _ _)⟩
theorem fz {ρ:List Addr} {ps:List DV}:toL ρ [] ps=tos ρ ps:=dY
theorem qf {ρ:List Addr} {ps:List DV} {k:Nat} {v:DV} (q:ps[k]? =some v):(toL ρ [] ps)[k]? =some (v.to ρ):=by rw [fz,List.getElem?_map,q];rfl
theorem r8 {ρ:List Addr} {ps:List DV} (h:Nat.ble ps.length 900=true):(toL ρ [] ps).length≤16777000:=by rw [fz,List.length_map];exact nT0 (lB0 h) (by decide)
theorem BQ {X:Cx} {ρ:List Addr} {D:DS} {j k:Nat} {ps:List DV} {v:DV} {e1 e2:Expr} (e:aV j D.objs=some (.list [] ps)) (q:ps[k]? =some v) (hz:Nat.ble ps.length 900=true) (hs:bm e2=true):cF X e1 e2 (.ref (aB ρ j)) (.int k) (v.to ρ) (D.to ρ):=
 ⟨fun _ _ _ _ mo mi h=>DJ mo (bc e) mi (qf q) (r8 hz) h (g5 hs _ _)⟩
noncomputable def EC (a i:DV) (s:Sy):Option (RI a i s):=match i with
 | .av (.str x)=>(match a with
  | .av (.dct l)=>obe (bB (S x) l) fun d e=>some ⟨.av d,s,.refl s,fun _ X ρ e1 e2 hs=>iW e (g5 hs)⟩
  | .slot j=>obe (aV j s.D.objs) fun o e=>(match o,e with
   | .dict l,e=>obe (cy (S x) l) fun v q=>some ⟨v,s,.refl s,fun _ X ρ e1 e2 hs=>zA e q hs⟩
   | _,_=>none)
  | _=>none)
 | .av (.int k)=>(match a with
  | .av (.str x)=>(match s.o with
   | .ch c::o=>some ⟨.av (.str [c]),⟨s.D,s.n,o,(s.c∧at? x k=some c)∧x.length≤16777216⟩,⟨rfl,rfl,fun c=>c.1.1⟩,fun h X ρ e1 e2 hs=>B3 h.1.2 h.2 (g5 hs)⟩
   | _=>none)
  | .slot j=>(match k with
   | .negSucc 0=>obe (aV j s.D.objs) fun o e=>(match o,e with
    | .list l ps,e=>obe ps.getLast? fun v q=>some ⟨v,s.need (l.length+ps.length≤16777000),.need _ _,fun c X ρ e1 e2 hs=>v8 e q c.2 hs⟩
    | _,_=>none)
   | .ofNat n=>obe (aV j s.D.objs) fun o e=>(match o,e with
    | .list [] ps,e=>obe ps[n]? fun v q=>gd (Nat.ble ps.length 900) fun hz=>some ⟨v,s,.refl s,fun _ X ρ e1 e2 hs=>BQ e q hz hs⟩
    | _,_=>none)
   | _=>none)
  | _=>none)
 | _=>none
structure sw (X:Cx) (a i d:AV) (σ σ':St):Prop where
 run:∀ (H:HL) va vi vd (Φ:St→Prop),(va,a)∈H→(vi,i)∈H→(vd,d)∈H→Φ σ'→WU X.B X.n X.L (setItem va vi vd) H σ Φ
structure Dn (X:Cx) (a i d:AV) (σ:St):Prop where
 run:∀ (H:HL) va vi (Φ:PV),(va,a)∈H→(vi,i)∈H→(∀ v,Φ v d σ)→WV X.B X.n X.L (getItem va vi) H σ Φ
noncomputable abbrev RJ (a i v:DV) (s:Sy):={l:List (Nat×DO) // ∀ X ρ,sw X (a.to ρ) (i.to ρ) (v.to ρ) (s.D.to ρ) ((s.objs l).D.to ρ)}
noncomputable abbrev RJ.l {i v:DV} (x:RJ a i v s):List (Nat×DO):=x.1
theorem RJ.ok {i v:DV} (x:RJ a i v s):∀ X ρ,sw X (a.to ρ) (i.to ρ) (v.to ρ) (s.D.to ρ) ((s.objs x.l).D.to ρ):=x.2
theorem uz {x:Str} {d:AV} {l:FL}:gJ x d l (bC x d l):=by
 induction l with
 | nil=>exact .new
 | cons p r ih=>
  show gJ x d (p::r) (if p.1==x then (x,d)::r else p::bC x d r)
  induction q:p.1==x using Bool.casesOn with
  | true=>obtain rfl:=eq_of_beq q;exact .hit
  | false=>exact .skip q ih
theorem wO {l:List (Str×DV)} {x:List Nat} {v:DV} (e:aV j s.D.objs=some (.dict l)) (h:Nat.ble l.length 900=true):sw X (.ref (aB ρ j)) (.str x) (v.to ρ) (s.D.to ρ) ((s.objs (fc j (.dict (kM (S x) v l)) s.D.objs)).D.to ρ):=by
 have m:=dh (ρ:=ρ) (rest:=s.D.rest) (o':=.dict (kM (S x) v l)) e
 rw [show (DO.dict (kM (S x) v l)).to ρ=.dict (bC (S x) (v.to ρ) (dy ρ l)) from congrArg AO.dict mG] at m
 exact ⟨fun _ _ _ _ _ ma mi md k=>rS ma mi md uz m (by rw [List.length_map];exact lB0 h) k⟩
theorem zE {X:Cx} {ρ:List Addr} {s:Sy} {j k:Nat} {ps:List DV} {v:DV} (e:aV j s.D.objs=some (.list [] ps)) (h:(Nat.blt k ps.length&&Nat.ble ps.length 900)=true):sw X (.ref (aB ρ j)) (.int k) (v.to ρ) (s.D.to ρ) ((s.objs (fc j (.list [] (ps.set k v)) s.D.objs)).D.to ρ):=by
 have m:=dh (ρ:=ρ) (rest:=s.D.rest) (o':=.list [] (ps.set k v)) e
 rw [show (DO.list [] (ps.set k v)).to ρ=.list ((toL ρ [] ps).set k (v.to ρ)) from congrArg AO.list (by rw [fz,fz];exact List.map_set)] at m
 exact ⟨fun _ _ _ _ _ ma mi md q=>wV ma mi md (by rw [fz,List.length_map];exact g7 (aj h)) (r8 (au h)) m q⟩
noncomputable def CW (a i v:DV) (s:Sy):Option (RJ a i v s):=match i with
 | .av (.str x)=>(match a with
  | .slot j=>obe (aV j s.D.objs) fun o e=>(match o,e with
   | .dict l,e=>gd (Nat.ble l.length 900) fun h=>some ⟨_,fun X ρ=>wO e h⟩
   | _,_=>none)
  | _=>none)
 | .av (.int (.ofNat n))=>(match a with
  | .slot j=>obe (aV j s.D.objs) fun o e=>(match o,e with
   | .list [] ps,e=>gd (Nat.blt n ps.length&&Nat.ble ps.length 900) fun h=>some ⟨_,fun X ρ=>zE e h⟩
   | _,_=>none)
  | _=>none)
 | _=>none
noncomputable abbrev RK (a i:DV) (s:Sy):={v:DV // ∀ X ρ,Dn X (a.to ρ) (i.to ρ) (v.to ρ) (s.D.to ρ)}
noncomputable abbrev RK.v {i:DV} (x:RK a i s):DV:=x.1
theorem RK.ok {i:DV} (x:RK a i s):∀ X ρ,Dn X (a.to ρ) (i.to ρ) (x.v.to ρ) (s.D.to ρ):=x.2
noncomputable def EW (a i:DV) (s:Sy):Option (RK a i s):=match i with
 | .av (.str x)=>(match a with
  | .slot j=>obe (aV j s.D.objs) fun o e=>(match o,e with
   | .dict l,e=>obe (cy (S x) l) fun v q=>some ⟨v,fun X ρ=>⟨fun _ _ _ _ ma mi k=>zI ma (bc e) mi (gP q) k⟩⟩
   | _,_=>none)
  | _=>none)
 | .av (.int (.ofNat n))=>(match a with
  | .slot j=>obe (aV j s.D.objs) fun o e=>(match o,e with
   | .list [] ps,e=>obe ps[n]? fun v q=>gd (Nat.ble ps.length 900) fun hz=>some ⟨v,fun X ρ=>⟨fun _ _ _ _ ma mi k=>AT ma (bc e) mi (qf q) (r8 hz) k⟩⟩
   | _,_=>none)
  | _=>none)
 | _=>none
end
end
section
set_option genInjectivity false
variable {k:Option NameKind} {x:Str} {s:Sy} {v:Value} {g:Addr} {b:Bl} {fs:List (Str×DV)} {Φ:PV} {l:List AV} {ρ:List Addr} {ps:List DV}
noncomputable section
structure cO (P:Px):Prop where
 K:P.X.B.K=P.K
 kind:P.X.env.scope.kind=.function
 loc:P.X.env.locals=P.X.L
 glob:P.X.env.globals=mainGlobals
 blt:P.X.env.builtins=builtinsNs
 gl:∀ p∈P.gl,aS P.X.B (.ref p.1) p.2
 cl:∀ x i,cy x P.cl=some i→P.X.env.cells.lookup x=some (aB P.ρ i)∧i < P.ρ.length
noncomputable def Px.N (P:Px) (s:Sy):Nat:=P.ρ.length+s.n
inductive Bl where
 | append | pop | join | count | rfind | len | ord | min | max | chr
noncomputable def Bl.id:Bl→String
 | .append=>"list.append"
 | .pop=>"list.pop"
 | .join=>"str.join"
 | .count=>"str.count"
 | .rfind=>"str.rfind"
 | .len=>"len"
 | .ord=>"ord"
 | .min=>"min"
 | .max=>"max"
 | .chr=>"chr"
inductive Ce where
 | fn (g:Addr) | bl (b:Bl)
noncomputable def Ce.val:Ce→Value
 | .fn g=>.ref g
 | .bl b=>.builtin b.id
noncomputable def dO (x:Str) (b:Bl):Prop:=bootBuiltins x=some (.builtin b.id)∧x≠("__name__":Str)
theorem sM:dO "len" .len:=⟨PyProof.Rows.Boot.«len»,by refine bne_iff_ne.mp ?_;kernel_rfl⟩
theorem t5:dO "ord" .ord:=⟨PyProof.Rows.Boot.«ord»,by refine bne_iff_ne.mp ?_;kernel_rfl⟩
theorem tT:dO "min" .min:=⟨PyProof.Rows.Boot.«min»,by refine bne_iff_ne.mp ?_;kernel_rfl⟩
theorem uF:dO "chr" .chr:=⟨PyProof.Rows.Boot.«chr»,by refine bne_iff_ne.mp ?_;kernel_rfl⟩
theorem sm:dO "max" .max:=⟨PyProof.Rows.Boot.«max»,by refine bne_iff_ne.mp ?_;kernel_rfl⟩
noncomputable def iF {β:Str→Type} (x y:Str) (b:β y) (z:Option (β x)):Option (β x):=Bool.casesOn (motive:=fun c=>(x==y)=c→Option (β x)) (x==y) (fun _=>z) (fun e=>some (eq_of_beq e▸b)) rfl
noncomputable def uC (x:Str):Option {b:Bl // dO x b}:=iF (β:=fun x=>{b:Bl // dO x b}) x "len" ⟨.len,sM⟩ (iF (β:=fun x=>{b:Bl // dO x b}) x "ord" ⟨.ord,t5⟩ (iF (β:=fun x=>{b:Bl // dO x b}) x "min" ⟨.min,tT⟩ (iF (β:=fun x=>{b:Bl // dO x b}) x "max" ⟨.max,sm⟩ (iF (β:=fun x=>{b:Bl // dO x b}) x "chr" ⟨.chr,uF⟩ none))))
noncomputable def ph (gl:List (Addr×AV)) (a:Addr):AV:=List.rec (.lit (.ref a)) (fun p _ ih=>bif Nat.beq p.1 a then p.2 else ih) gl
noncomputable def qO (gl:List (Addr×AV)):Value→AV
 | .ref a=>ph gl a
 | v=>iD v
theorem qY {B:a5} {gl:List (Addr×AV)} (h:∀ p∈gl,aS B (.ref p.1) p.2) (a:Addr):aS B (.ref a) (ph gl a):=by
 induction gl with
 | nil=>exact aS.lit _ _
 | cons p r ih=>
  show aS B (.ref a) (bif Nat.beq p.1 a then p.2 else ph r a)
  induction q:Nat.beq p.1 a using Bool.casesOn with
  | true=>obtain rfl:=Nat.eq_of_beq_eq_true q;exact h p (.head _)
  | false=>exact ih fun p hp=>h p (.tail _ hp)
theorem rq {B:a5} {gl:List (Addr×AV)} (h:∀ p∈gl,aS B (.ref p.1) p.2) (v:Value):aS B v (qO gl v):=by
 rcases v with _ | _<;>first | exact qY h _ | exact fun F _=>jg _ _ _
noncomputable def gE (k:Option NameKind):Bool:=match k with
 | some .local=>true
 | _=>false
noncomputable def im (k:Option NameKind):Bool:=match k with
 | some .globalImplicit=>true
 | _=>false
noncomputable def iU (k:Option NameKind):Bool:=match k with
 | some .cell=>true
 | _=>false
theorem jX (h:iU k=true):k=some .cell:=by
 induction k using Option.casesOn with
 | none=>exact Bool.noConfusion h
 | some k=>rcases k with _ | _<;>first | rfl | exact Bool.noConfusion h
theorem eu (h:gE k=true):k=some .local:=by
 induction k using Option.casesOn with
 | none=>exact Bool.noConfusion h
 | some k=>rcases k with _ | _<;>first | rfl | exact Bool.noConfusion h
theorem iz (h:im k=true):k=some .globalImplicit:=by
 induction k using Option.casesOn with
 | none=>exact Bool.noConfusion h
 | some k=>rcases k with _ | _<;>first | rfl | exact Bool.noConfusion h
noncomputable def two {α:Type} (o:Option (Option α)):Option α:=Option.casesOn o none id
theorem lK {α:Type} {o:Option (Option α)} {a:α} (h:two o=some a):o=some (some a):=by
 induction o using Option.casesOn with
 | none=>contradiction
 | some o=>exact congrArg some h
section
variable {P:Px} (O:cO P)
include O in
theorem yL {v:DV} (h:(!(x==("__debug__":Str))&&gE (P.X.env.kindOf x))=true) (e:two (cy x s.D.loc)=some v) (ρ:List Addr) (pos:Pos):Ev P.X (.Name x pos) (s.D.to ρ) (v.to ρ) (s.D.to ρ):=
 a6 (kD (lK e)) O.kind (eu (au h)) O.loc (by simpa using aj h)
include O in
theorem yE {σ:St} (h:(!(x==("__debug__":Str))&&im (P.X.env.kindOf x))=true) (e:two (nsIn P.K mainGlobals x)=some v) (pos:Pos):Ev P.X (.Name x pos) σ (qO P.gl v) σ:=
 l0 (by rw [O.K];exact lK e) (rq O.gl _) O.kind (iz (au h)) O.glob (by simpa using aj h)
include O in
theorem A9 {v:DV} {i:Nat} (h:(!(x==("__debug__":Str))&&iU (P.X.env.kindOf x))=true) (e:cy x P.cl=some i) (q:aV i s.D.objs=some (.cell (some v))) (as:List Addr) (pos:Pos):Ev P.X (.Name x pos) (s.D.to (P.ρ++as)) (v.to (P.ρ++as)) (s.D.to (P.ρ++as)):=by
 obtain ⟨h1,h2⟩:=O.cl x i e
 rw [←dw (t:=as) h2] at h1
 exact ⟨fun _ _ k=>qR h1 (bc q) k O.kind (jX (au h)) (by simpa using aj h)⟩
noncomputable abbrev NmR (P:Px) (x:Str) (s:Sy):Type:={v:DV // ∀ as pos,Ev P.X (.Name x pos) (s.D.to (P.ρ++as)) (v.to (P.ρ++as)) (s.D.to (P.ρ++as))}
noncomputable def vP (x:Str) (s:Sy):Option (NmR P x s):=
 Bool.casesOn (motive:=fun b=>(!(x==("__debug__":Str))&&gE (P.X.env.kindOf x))=b→Option (NmR P x s)) (!(x==("__debug__":Str))&&gE (P.X.env.kindOf x))
  (fun _=>Bool.casesOn (motive:=fun b=>(!(x==("__debug__":Str))&&im (P.X.env.kindOf x))=b→Option (NmR P x s)) (!(x==("__debug__":Str))&&im (P.X.env.kindOf x))
   (fun _=>gd (!(x==("__debug__":Str))&&iU (P.X.env.kindOf x)) fun h=>obe (cy x P.cl) fun i e=>obe (aV i s.D.objs) fun o q=>match o,q with
    | .cell (some v),q=>some ⟨v,fun as pos=>A9 O h e q as pos⟩
    | _,_=>none)
   (fun h=>obe (two (nsIn P.K mainGlobals x)) fun v e=>some ⟨.av (qO P.gl v),fun _ pos=>yE O h e pos⟩) rfl)
  (fun h=>obe (two (cy x s.D.loc)) fun v e=>some ⟨v,fun as pos=>yL O h e _ pos⟩) rfl
noncomputable def ud (P:Px) (x:Str) (c:Ce):Prop:=(∀ σ pos,EvX P.X (.Name x pos) σ c.val (.lit c.val))∧d5 P.X c.val
include O in
theorem Bq (h:(!(x==("__debug__":Str))&&im (P.X.env.kindOf x))=true) (e:nsIn P.K mainGlobals x=some (some (.ref g))) (hk:keepIn P.K (.ref g)=true):ud P x (.fn g):=
 ⟨fun σ pos=>cg (by rw [O.K];exact e) O.kind (iz (au h)) O.glob (by simpa using aj h),cA (by rw [O.K];exact hk)⟩
include O in
theorem B4 (h:(!(x==("__debug__":Str))&&im (P.X.env.kindOf x))=true) (e:nsIn P.K mainGlobals x=some none) (q:dO x b):ud P x (.bl b):=
 ⟨fun σ pos=>aM q.1 (by rw [O.K];exact e) O.kind (iz (au h)) O.glob O.blt q.2 (by simpa using aj h),c9⟩
noncomputable def ES (x:Str):Option {c:Ce // ud P x c}:=gd (!(x==("__debug__":Str))&&im (P.X.env.kindOf x)) fun h=>obe (nsIn P.K mainGlobals x) fun o e=>match o,e with
 | some (.ref g),e=>gd (keepIn P.K (.ref g)) fun hk=>some ⟨.fn g,Bq O h e hk⟩
 | none,e=>ob (uC x) fun b=>some ⟨.bl b.1,B4 O h e b.2⟩
 | _,_=>none
end
noncomputable def iY (T:String) (x:Str) (b:Bl):Prop:=Slot T x b.id∧typeOf (.builtin b.id)=pure (.type "method_descriptor")
theorem rc:iY "str" "join" .join:=⟨PySem.F.slot_str_join,PySem.F.type_str_join⟩
theorem o9:iY "str" "count" .count:=⟨PySem.F.slot_str_count,PySem.F.type_str_count⟩
theorem nJ:iY "str" "rfind" .rfind:=⟨PySem.F.slot_str_rfind,PySem.F.type_str_rfind⟩
theorem lq:iY "list" "append" .append:=⟨slot_list_append,type_list_append⟩
theorem vj:iY "list" "pop" .pop:=⟨PySem.F.slot_list_pop,PySem.F.type_list_pop⟩
noncomputable abbrev lx (T:String) (x:Str):Type:={b:Bl // iY T x b}
noncomputable def tc (x:Str):Option (lx "str" x):=iF (β:=lx "str") x "join" ⟨.join,rc⟩ (iF (β:=lx "str") x "count" ⟨.count,o9⟩ (iF (β:=lx "str") x "rfind" ⟨.rfind,nJ⟩ none))
noncomputable def u6 (x:Str):Option (lx "list" x):=iF (β:=lx "list") x "append" ⟨.append,lq⟩ (iF (β:=lx "list") x "pop" ⟨.pop,vj⟩ none)
inductive MeD (P:Px) (o:DV) (name:Str) (s:Sy) where
 | cls (c:Ce) (ok:∀ ρ,e7 P.X (o.to ρ) name c.val (s.D.to ρ)∧d5 P.X c.val)
 | own (g:Addr) (j:Nat) (ok:∀ ρ,qk P.X (o.to ρ) name (.meth g (aB ρ j)) (s.D.to ρ)) (hf:fnIn P.X.B.K g=true)
section
variable {P:Px} (O:cO P)
include O in
theorem z0 {i:Nat} {name:Str} {C dx:Addr} (e:aV i s.D.objs=some (.inst C dx fs)) (q:cy name fs=none) (h:(bV P.K C name g&&keepIn P.K (.ref g))=true) (ρ:List Addr):e7 P.X (.ref (aB ρ i)) name (.ref g) (s.D.to ρ)∧d5 P.X (.ref g):=by
 rw [←O.K] at h
 exact ⟨jr (bc e) (gf q) (aj h),cA (au h)⟩
noncomputable def ww (o:Option (Option Value)):Bool:=match o with
 | some none=>true
 | _=>false
theorem tG {o:Option (Option Value)} (h:ww o=true):o=some none:=by
 induction o using Option.casesOn with
 | none=>exact Bool.noConfusion h
 | some o=>rcases o with _ | _<;>first | rfl | exact Bool.noConfusion h
include O in
theorem yG {i j:Nat} {name:Str} {C dx:Addr} (e:aV i s.D.objs=some (.inst C dx fs)) (q:cy name fs=some (.meth g j)) (h:(cr P.K C name&&ww (findIn P.K (.ref C) name)&&fnIn P.K g)=true) (ρ:List Addr):qk P.X (.ref (aB ρ i)) name (.meth g (aB ρ j)) (s.D.to ρ):=by
 rw [←O.K] at h
 exact ⟨fun _ _ _ _ mv k=>gy mv (bc e) (aj (aj h)) (tG (au (aj h))) (gP q) rfl k⟩
noncomputable def EU (i:Nat) (name:Str) (s:Sy) (C dx:Addr) (fs:List (Str×DV)) (e:aV i s.D.objs=some (.inst C dx fs)):Option (MeD P (.slot i) name s):=
 Option.casesOn (motive:=fun z=>cy name fs=z→Option (MeD P (.slot i) name s)) (cy name fs)
  (fun q=>ob (vW (findIn P.K (.ref C) name)) fun g=>gd (bV P.K C name g&&keepIn P.K (.ref g)) fun h=>some (.cls (.fn g) fun ρ=>z0 O e q h ρ))
  (fun v q=>match v,q with
   | .meth g j,q=>gd (cr P.K C name&&ww (findIn P.K (.ref C) name)&&fnIn P.K g) fun h=>some (.own g j (fun ρ=>yG O e q h ρ) (by exact (O.K)▸(au h)))
   | _,_=>none) rfl
noncomputable def F2 (o:DV) (name:Str) (s:Sy):Option (MeD P o name s):=match o with
 | .av (.str x)=>ob (tc name) fun b=>some (.cls (.bl b.1) fun ρ=>⟨qh b.2.1 b.2.2,c9⟩)
 | .slot i=>obe (aV i s.D.objs) fun o e=>(match o,e with
  | .list l ps,e=>ob (u6 name) fun b=>some (.cls (.bl b.1) fun ρ=>⟨qd (bc e) b.2.1 b.2.2,c9⟩)
  | .inst C dx fs,e=>EU O i name s C dx fs e
  | _,_=>none)
 | _=>none
end
section
variable {B:a5} {n:Nat} {L:Addr} {H:HL} {σ:St}
theorem ye {a b:Int} {w:Value} (mv:(v,.int a)∈H) (mw:(w,.int b)∈H) (h:∀ v,Φ v (.int (min a b)) σ):WV B n L (call (.builtin "min") [v,w]) H σ Φ:=a7 fun A F s hA X=>by
 obtain ⟨t,rfl⟩:=ah (X.hold mv);obtain ⟨u,rfl⟩:=ah (X.hold mw)
 refine min_two_ints hA.handled fun h' tk k=>ae.more X k rfl rfl ?_
 by_cases q:b < a
 · exact (if_pos q)▸(⟨.int (min a b),by rw [Int.min_eq_right (Int.le_of_lt q)];exact .int _ _,h _⟩)
 · exact (if_neg q)▸(⟨.int (min a b),by rw [Int.min_eq_left (Int.not_lt.mp q)];exact .int _ _,h _⟩)
theorem x1 {a b:Int} {w:Value} (mv:(v,.int a)∈H) (mw:(w,.int b)∈H) (h:∀ v,Φ v (.int (max a b)) σ):WV B n L (call (.builtin "max") [v,w]) H σ Φ:=a7 fun A F s hA X=>by
 obtain ⟨t,rfl⟩:=ah (X.hold mv);obtain ⟨u,rfl⟩:=ah (X.hold mw)
 refine max_two_ints hA.handled fun h' tk k=>ae.more X k rfl rfl ?_
 by_cases q:b > a
 · exact (if_pos q)▸(⟨.int (max a b),by rw [Int.max_eq_right (Int.le_of_lt q)];exact .int _ _,h _⟩)
 · exact (if_neg q)▸(⟨.int (max a b),by rw [Int.max_eq_left (Int.not_lt.mp q)];exact .int _ _,h _⟩)
end
section
variable {X:Cx} {σ:St} {i j:Int}
theorem xW:aQ X (.builtin "min") [.int i,.int j] σ (.int (min i j)) σ:=fA fun _ _ _ _ mv mw h=>ye mv mw h
theorem rR:aQ X (.builtin "max") [.int i,.int j] σ (.int (max i j)) σ:=fA fun _ _ _ _ mv mw h=>x1 mv mw h
end
section
variable {B:a5} {n:Nat} {L:Addr} {H:HL} {σ:St} {env:Env}
theorem yz {a:Addr} {d:AV} {v₀:Value} {loc:LL} {objs objs':OL} (mv:(v₀,.ref a)∈H) (md:(v,.int 0)∈H) (mo:(a,AO.list (d::l))∈objs)
 (m:Chg a (.list (d::l)) (.list l) objs objs') (hz:(d::l).length≤16777216) (h:∀ v,Φ v d ⟨loc,objs'⟩):WV B n L (call (.builtin "list.pop") [v₀,v]) H ⟨loc,objs⟩ Φ:=
 fG (σ:=⟨loc,objs⟩) (k:=0) (i:=0) mv md (by rfl) (by unfold seqIndex?;rw [if_neg (show ¬ (0:Int) < 0 by simp+arith)];simp) rfl rfl m hz h
end
theorem zz {i:Nat} {d:AV} (e:aV i s.D.objs=some (.list (d::l) [])) (hz:l.length≤16777215):aQ X (.builtin "list.pop") [.ref (aB ρ i),.int 0] (s.D.to ρ) d ((s.objs (fc i (.list l []) s.D.objs)).D.to ρ):=
 fA fun _ _ _ _ mv md h=>yz mv md (bc (ρ:=ρ) (rest:=s.D.rest) e) (dh (ρ:=ρ) (rest:=s.D.rest) (o':=.list l []) e) (Nat.succ_le_succ hz) h
noncomputable abbrev BcR (b:Bl) (vs:List DV) (s:Sy):Type:={p:DV×Sy // p.2.n=s.n∧(p.2.c→s.c)∧(p.2.c→∀ X ρ,aQ X (.builtin b.id) (tos ρ vs) (s.D.to ρ) (p.1.to ρ) (p.2.D.to ρ))}
noncomputable def kO {vs:List DV} (v:DV) (h:∀ X ρ,aQ X (.builtin b.id) (tos ρ vs) (s.D.to ρ) (v.to ρ) (s.D.to ρ)):Option (BcR b vs s):=some ⟨(v,s),rfl,id,fun _=>h⟩
noncomputable def gw {vs:List DV} (v:DV) (l:List (Nat×DO)) (q:Prop) (h:q→∀ X ρ,aQ X (.builtin b.id) (tos ρ vs) (s.D.to ρ) (v.to ρ) ((s.objs l).D.to ρ)):Option (BcR b vs s):=some ⟨(v,(s.objs l).need q),rfl,And.left,fun c=>h c.2⟩
theorem xM {i:Nat} (e:aV i s.D.objs=some (.list l ps)) (h:l.length+ps.length≤16777216):aQ X (.builtin "len") [.ref (aB ρ i)] (s.D.to ρ) (.int (l.length+ps.length:Nat)) (s.D.to ρ):=by
 have:=yc (X:=X) (loc:=cP ρ s.D.loc) (bc (ρ:=ρ) (rest:=s.D.rest) e) (by exact (dL)▸(h))
 rw [dL] at this
 exact this
theorem AH {i:Nat} {d:DV} (e:aV i s.D.objs=some (.list l ps)) (hz:l.length+ps.length≤16777216):aQ X (.builtin "list.append") [.ref (aB ρ i),d.to ρ] (s.D.to ρ) .none ((s.objs (fc i (.list l (ps++[d])) s.D.objs)).D.to ρ):=by
 have m:=dh (ρ:=ρ) (rest:=s.D.rest) (o':=.list l (ps++[d])) e
 rw [show (DO.list l (ps++[d])).to ρ= _ from fQ] at m
 exact kP m (by exact (dL)▸(hz))
theorem Bz {i j:Nat} {fs':FL} (e:aV j s.D.objs=some (.dict fs)) (q:ie fs=some fs') (e':aV i (iJ j s.D.objs)=some (.list l ps)) (hz:l.length+ps.length≤16777216):
 aQ X (.builtin "list.append") [.ref (aB ρ i),.ref (aB ρ j)] (s.D.to ρ) .none ((s.objs (fc i (.list l (ps++[.av (.dct fs')])) (iJ j s.D.objs))).D.to ρ):=by
 have m:=dh (ρ:=ρ) (rest:=s.D.rest) (o':=.list l (ps++[.av (.dct fs')])) e'
 rw [show (DO.list l (ps++[.av (.dct fs')])).to ρ= _ from fQ] at m
 have tk:=rn (ρ:=ρ) (rest:=s.D.rest) e
 rw [DO.to,j8 q] at tk
 exact oX tk m (by exact (dL)▸(hz))
theorem Cw {i:Nat} {v:DV} (e:aV i s.D.objs=some (.list l ps)) (q:ps.getLast? =some v) (hz:l.length+ps.length≤16777000):aQ X (.builtin "list.pop") [.ref (aB ρ i)] (s.D.to ρ) (v.to ρ) ((s.objs (fc i (.list l ps.dropLast) s.D.objs)).D.to ρ):=by
 have m:=dh (ρ:=ρ) (rest:=s.D.rest) (o':=.list l ps.dropLast) e
 obtain ⟨qs,rfl⟩:=List.getLast?_eq_some_iff.mp q
 rw [show (DO.list l (qs++[v])).to ρ= _ from fQ,List.dropLast_concat] at m
 rw [List.dropLast_concat]
 rw [List.length_append] at hz
 exact xV m (by rw [dL];exact nT0 (Nat.add_le_add_left (Nat.le_add_right _ _) _) hz)
theorem xO {i:Nat} {l':List AV} {ms:List (List Nat)} (e:aV i s.D.objs=some (.list l ps)) (q:fg ps=some l') (t:aD (l++l')=some ms) (hz:ms.flatten.length≤16777216):aQ X (.builtin "str.join") [.str [],.ref (aB ρ i)] (s.D.to ρ) (.str ms.flatten) (s.D.to ρ):=
 ql (bc e) (by rw [dY,ge q];exact t) hz
noncomputable def AP (b:Bl) (i:Nat) (s:Sy):Option (BcR b [.slot i] s):=obe (aV i s.D.objs) fun o e=>match o,e with
 | .list l ps,e=>(match b with
  | .len=>gw (.av (.int (l.length+ps.length:Nat))) s.D.objs (l.length+ps.length≤16777216) fun h X ρ=>xM e h
  | .pop=>obe ps.getLast? fun v q=>gw v (fc i (.list l ps.dropLast) s.D.objs) (l.length+ps.length≤16777000) fun h X ρ=>Cw e q h
  | _=>none)
 | _,_=>none
noncomputable def DQ (b:Bl) (x:List Nat) (s:Sy):Option (BcR b [.av (.str x)] s):=match b with
 | .len=>gw (.av (.int x.length)) s.D.objs (x.length≤16777216) fun h X ρ=>hX h
 | .ord=>(match x with
  | [c]=>kO (.av (.int c)) fun X ρ=>Bd
  | _=>none)
 | _=>none
noncomputable def AB (i:Nat) (d:DV) (s:Sy):Option (BcR .append [.slot i,d] s):=obe (aV i s.D.objs) fun o e=>match o,e with
 | .list l ps,e=>gw (.av .none) (fc i (.list l (ps++[d])) s.D.objs) (l.length+ps.length≤16777216) fun h X ρ=>AH e h
 | _,_=>none
noncomputable def E8 (i j:Nat) (s:Sy) (fs:List (Str×DV)) (e:aV j s.D.objs=some (.dict fs)):Option (BcR .append [.slot i,.slot j] s):=obe (ie fs) fun fs' q=>obe (aV i (iJ j s.D.objs)) fun o e'=>match o,e' with
 | .list l ps,e'=>gw (.av .none) (fc i (.list l (ps++[.av (.dct fs')])) (iJ j s.D.objs)) (l.length+ps.length≤16777216) fun h X ρ=>Bz e q e' h
 | _,_=>none
noncomputable def Er (b:Bl) (x y:DV) (s:Sy):Option (BcR b [x,y] s):=match b with
 | .append=>(match x with
  | .slot i=>(match y with
   | .slot j=>obe (aV j s.D.objs) fun o e=>(match o,e with
    | .dict fs,e=>E8 i j s fs e
    | _,_=>AB i (.slot j) s)
   | d=>AB i d s)
  | _=>none)
 | .min=>(match x,y with
  | .av (.int i),.av (.int j)=>kO (.av (.int (Min.min i j))) fun X ρ=>xW
  | _,_=>none)
 | .max=>(match x,y with
  | .av (.int i),.av (.int j)=>kO (.av (.int (Max.max i j))) fun X ρ=>rR
  | _,_=>none)
 | .pop=>(match x with
  | .slot i=>(match y with
   | .av (.int (.ofNat 0))=>obe (aV i s.D.objs) fun o e=>(match o,e with
    | .list (d::l) [],e=>gw (.av d) (fc i (.list l []) s.D.objs) (l.length≤16777215) fun h X ρ=>zz e h
    | _,_=>none)
   | _=>none)
  | _=>none)
 | .join=>(match x with
  | .av (.str [])=>(match y with
   | .slot i=>obe (aV i s.D.objs) fun o e=>(match o,e with
    | .list l ps,e=>obe (fg ps) fun l' q=>obe (aD (l++l')) fun ms t=>gw (.av (.str ms.flatten)) s.D.objs (ms.flatten.length≤16777216) fun h X ρ=>xO e q t h
    | _,_=>none)
   | _=>none)
  | _=>none)
 | _=>none
noncomputable def BH (b:Bl) (x y z w:DV) (s:Sy):Option (BcR b [x,y,z,w] s):=match x,y,z,w with
 | .av (.str x),.av (.str [c]),.av (.int (.ofNat 0)),.av (.int i)=>(match b with
  | .count=>kO (.av (.int (aY c x i))) fun X ρ=>vx
  | .rfind=>kO (.av (.int (cY c x i))) fun X ρ=>tv
  | _=>none)
 | _,_,_,_=>none
noncomputable def EQ (b:Bl) (i:Int) (s:Sy):Option (BcR b [.av (.int i)] s):=match b with
 | .chr=>gw (.av (.str [i.toNat])) s.D.objs (0≤i∧i≤1114111) fun h X ρ=>Ay h
 | _=>none
noncomputable def Ei (b:Bl) (vs:List DV) (s:Sy):Option (BcR b vs s):=match vs with
 | [.slot i]=>AP b i s
 | [.av (.str x)]=>DQ b x s
 | [.av (.int i)]=>EQ b i s
 | [x,y]=>Er b x y s
 | [x,y,z,w]=>BH b x y z w s
 | _=>none
end
end
section
set_option genInjectivity false
variable {a i x y:DV} {op:CmpOp} {b:Bool} {D:DS} {l:List (Str×DV)} {t e m:Expr} {body:List Stmt} {pos:Pos} {k:Nat} {o:List c7} {g:Addr} {vs:List DV} {es:List Expr} {ks:List (Option Expr)}
noncomputable abbrev RY (P:Px) (a i:DV) (s:Sy):=Sigma fun v:DV=>{s':Sy // eP s s'∧(s'.c→∀ as,as.length=s.n→∀ e1 e2,bm e2=true→cF P.X e1 e2 (a.to (P.ρ++as)) (i.to (P.ρ++as)) (v.to (P.ρ++as)) (s.D.to (P.ρ++as)))}
noncomputable abbrev RY.v (x:RY P a i s):DV:=x.1
noncomputable abbrev RY.s' (x:RY P a i s):Sy:=x.2.1
theorem RY.A (x:RY P a i s):eP s x.s':=x.2.2.1
theorem RY.ok (x:RY P a i s):x.s'.c→∀ as,as.length=s.n→∀ e1 e2,bm e2=true→cF P.X e1 e2 (a.to (P.ρ++as)) (i.to (P.ρ++as)) (x.v.to (P.ρ++as)) (s.D.to (P.ρ++as)):=x.2.2.2
noncomputable abbrev RX (P:Px) (op:CmpOp) (a b:DV) (s:Sy):=Sigma fun r:DB=>{s':Sy // eP s s'∧(s'.c→∀ as,as.length=s.n→bF P.X op (a.to (P.ρ++as)) (b.to (P.ρ++as)) r.val (s.D.to (P.ρ++as)))}
noncomputable abbrev RX.r {b:DV} (x:RX P op a b s):DB:=x.1
noncomputable abbrev RX.s' {b:DV} (x:RX P op a b s):Sy:=x.2.1
theorem RX.A {b:DV} (x:RX P op a b s):eP s x.s':=x.2.2.1
theorem RX.ok {b:DV} (x:RX P op a b s):x.s'.c→∀ as,as.length=s.n→bF P.X op (a.to (P.ρ++as)) (b.to (P.ρ++as)) x.r.val (s.D.to (P.ρ++as)):=x.2.2.2
section
variable {P:Px} {s s':Sy} {as bs:List Addr}
theorem fH {α:Type} {f:List Addr→α} {n:Nat} (h:∀ ρ t:List Addr,ρ.length=n→f (ρ++t)=f ρ) (hn:P.N s=n) (ha:as.length=s.n) (hp:as <+:bs):f (P.ρ++bs)=f (P.ρ++as):=by
 obtain ⟨t,rfl⟩:=hp
 rw [←List.append_assoc]
 exact h _ _ (by rw [List.length_append,ha];exact hn)
theorem b6 {v:DV} (h:v.bel (P.N s)=true) (ha:as.length=s.n) (hp:as <+:bs):v.to (P.ρ++bs)=v.to (P.ρ++as):=fH (f:=fun ρ=>v.to ρ) (fun ρ t e=>DV.to_app (by rw [e];exact h)) rfl ha hp
theorem yd {l:List (Str×Option DV)} (h:qb (P.N s) l=true) (ha:as.length=s.n) (hp:as <+:bs):cP (P.ρ++bs) l=cP (P.ρ++as) l:=fH (f:=fun ρ=>cP ρ l) (fun ρ t e=>j6 (by rw [e];exact h)) rfl ha hp
theorem Et (h:D.bel (P.N s)=true) (ha:as.length=s.n) (hp:as <+:bs):D.to (P.ρ++bs)=D.to (P.ρ++as):=fH (f:=fun ρ=>D.to ρ) (fun ρ t e=>DS.to_app (by rw [e];exact h)) rfl ha hp
theorem E0 (h:(l.all fun p=>p.2.bel (P.N s))=true) (ha:as.length=s.n) (hp:as <+:bs):dy (P.ρ++bs) l=dy (P.ρ++as) l:=fH (f:=fun ρ=>dy ρ l) (fun ρ t e=>hP (by rw [e];exact h)) rfl ha hp
theorem Dx {l:List DV} (h:l.all (DV.bel (P.N s))=true) (ha:as.length=s.n) (hp:as <+:bs):tos (P.ρ++bs) l=tos (P.ρ++as) l:=fH (f:=fun ρ=>tos ρ l) (fun ρ t e=>n4 (by rw [e];exact h)) rfl ha hp
end
structure SV (P:Px) (e:Expr) (s:Sy) (v:DV) (s':Sy):Prop where
 c:s'.c→s.c
 run:s'.c→∀ as,as.length=s.n→∀ (H:HL) (Φ:PV),(∀ w bs,bs.length=s'.n→as <+:bs→Φ w (v.to (P.ρ++bs)) (s'.D.to (P.ρ++bs)))→WV P.X.B P.X.n P.X.L (eval e P.X.env) H (s.D.to (P.ρ++as)) Φ
structure ST (P:Px) (e:Expr) (s:Sy) (b:Bool) (s':Sy):Prop where
 c:s'.c→s.c
 run:s'.c→∀ as,as.length=s.n→∀ (H:HL) (Φ:Bool→St→Prop),(∀ bs,bs.length=s'.n→as <+:bs→Φ b (s'.D.to (P.ρ++bs)))→WB P.X.B P.X.n P.X.L (isTrue e P.X.env (eval e P.X.env)) H (s.D.to (P.ρ++as)) Φ
structure SX (P:Px) (st:Stmt) (s:Sy) (f:DF) (s':Sy):Prop where
 c:s'.c→s.c
 run:s'.c→∀ as,as.length=s.n→∀ (H:HL) (Φ:PF),(∀ bs,bs.length=s'.n→as <+:bs→Φ (f.to (P.ρ++bs)) (s'.D.to (P.ρ++bs)))→WF P.X.B P.X.n P.X.L (exec st P.X.env) H (s.D.to (P.ρ++as)) Φ
structure SL (P:Px) (es:List Expr) (s:Sy) (vs:List DV) (s':Sy):Prop where
 c :s'.c→s.c
 run:s'.c→∀ as,as.length=s.n→∀ pos (H:HL) (Φ:List Value→List AV→St→Prop),(∀ ws bs,ws.length=vs.length→bs.length=s'.n→as <+:bs→Φ ws (tos (P.ρ++bs) vs) (s'.D.to (P.ρ++bs)))→
  WL P.X.B P.X.n P.X.L (spliced (backTo pos (starEach es P.X.env))) H (s.D.to (P.ρ++as)) Φ
structure SD (P:Px) (ks:List (Option Expr)) (es:List Expr) (s:Sy) (l:List (Str×DV)) (s':Sy):Prop where
 c:s'.c→s.c
 len:l.length=es.length
 zip:∀ pos,(evalEachOpt ks P.X.env).zip ((evalEach es P.X.env).map fun v=>do let x ←v;standAt pos;pure x)=(aw P.X.env pos ks es).map fun p=>(some p.1,p.2)
 plen:∀ pos,(aw P.X.env pos ks es).length=es.length
 run:s'.c→∀ as,as.length=s.n→∀ pos (H:HL) (Φ:FL→St→Prop),(∀ bs,bs.length=s'.n→as <+:bs→Φ (dy (P.ρ++bs) l) (s'.D.to (P.ρ++bs)))→WD P.X.B P.X.n P.X.L (evalPairs (aw P.X.env pos ks es)) H (s.D.to (P.ρ++as)) Φ
structure SP (P:Px) (e:Option Expr) (s:Sy) (v:DV) (s':Sy):Prop where
 c:s'.c→s.c
 run:s'.c→∀ as,as.length=s.n→∀ (H:HL) (Φ:PV),(∀ w bs,bs.length=s'.n→as <+:bs→Φ w (v.to (P.ρ++bs)) (s'.D.to (P.ρ++bs)))→WV P.X.B P.X.n P.X.L (evalPart e P.X.env) H (s.D.to (P.ρ++as)) Φ
structure SA (P:Px) (op:BoolOp) (es:List Expr) (s:Sy) (b:Bool) (s':Sy):Prop where
 c:s'.c→s.c
 run:s'.c→∀ as,as.length=s.n→∀ (H:HL) (Φ:Bool→St→Prop),(∀ bs,bs.length=s'.n→as <+:bs→Φ b (s'.D.to (P.ρ++bs)))→WB P.X.B P.X.n P.X.L (allTrue op es P.X.env) H (s.D.to (P.ρ++as)) Φ
structure SB (P:Px) (ss:List Stmt) (s:Sy) (f:DF) (s':Sy):Prop where
 c:s'.c→s.c
 run:s'.c→∀ as,as.length=s.n→∀ (H:HL) (Φ:PF),(∀ bs,bs.length=s'.n→as <+:bs→Φ (f.to (P.ρ++bs)) (s'.D.to (P.ρ++bs)))→WF P.X.B P.X.n P.X.L (execs ss P.X.env) H (s.D.to (P.ρ++as)) Φ
structure SC (P:Px) (f:Value) (vs:List DV) (s:Sy) (v:DV) (s':Sy):Prop where
 c :s'.c→s.c
 run:s'.c→∀ as,as.length=s.n→∀ (H:HL) ws (Φ:PV),ws.length=vs.length→(∀ p∈ws.zip (tos (P.ρ++as) vs),p∈H)→(∀ w bs,bs.length=s'.n→as <+:bs→Φ w (v.to (P.ρ++bs)) (s'.D.to (P.ρ++bs)))→
  WV P.X.B P.X.n P.X.L (call f ws) H (s.D.to (P.ρ++as)) Φ
structure SK (P:Px) (g:Addr) (vs:List DV) (s:Sy) (v:DV) (s':Sy):Prop where
 c:s'.c→s.c
 ok:∃ m,m≤P.X.n∧(s'.c→∀ as,as.length=s.n→a4 P.X.B m g (tos (P.ρ++as) vs) (a2 (P.ρ++as) s.D.rest s.D.objs) fun d o=>∃ bs,bs.length=s'.n∧as <+:bs∧d=v.to (P.ρ++bs)∧(⟨cP (P.ρ++as) s.D.loc,o⟩:St)=s'.D.to (P.ρ++bs))
structure SG (P:Px) (t:Expr) (v:DV) (s s':Sy):Prop where
 c :s'.c→s.c
 n :s'.n=s.n
 run:s'.c→∀ as,as.length=s.n→∀ (H:HL) w (Φ:St→Prop),(w,v.to (P.ρ++as))∈H→Φ (s'.D.to (P.ρ++as))→WU P.X.B P.X.n P.X.L (assign t P.X.env w) H (s.D.to (P.ρ++as)) Φ
 stm:∀ e pos,(∀ t l,swapsWith e t l P.X.env=pure false)→s'.c→∀ (H:HL) (σ:St) (Φ:PF),
  WV P.X.B P.X.n P.X.L (eval e P.X.env) H σ (fun w d σ₁=>∃ bs,bs.length=s.n∧d=v.to (P.ρ++bs)∧σ₁=s.D.to (P.ρ++bs)∧Φ .next (s'.D.to (P.ρ++bs)))→WF P.X.B P.X.n P.X.L (exec (.Assign [t] e pos) P.X.env) H σ Φ
noncomputable def JW (X:Cx) (t:Expr) (body:List Stmt) (H:HL) (Φ:PF) (k:Nat):St→Prop:=
 Nat.rec (fun σ=>WB X.B X.n X.L (isTrue t X.env (eval t X.env)) H σ fun b σ₁=>(b=false∧Φ .next σ₁)∨(b=true∧WF X.B X.n X.L (execs body X.env) H σ₁ fun f σ₂=>f=.brk∧Φ .next σ₂))
  (fun _ ih σ=>WB X.B X.n X.L (isTrue t X.env (eval t X.env)) H σ fun b σ₁=>b=true∧WF X.B X.n X.L (execs body X.env) H σ₁ fun f σ₂=>(f=.next∨f=.cont)∧ih σ₂) k
theorem rk {X:Cx} {H:HL} {Φ:PF} {σ:St} (h:JW X t body H Φ k σ):WF X.B X.n X.L (exec (.While t body [] pos) X.env) H σ Φ:=
 js (fun k σ=>JW X t body H Φ k σ) k h fun k σ w=>by
  cases k with
  | zero=>exact cf w fun b σ₁ z=>z.elim (fun ⟨e,q⟩=>⟨fun e'=>(nomatch e.symm.trans e'),fun _=>q⟩) fun ⟨e,q⟩=>⟨fun _=>jG q fun f σ₂ ⟨e,q⟩=>by subst e;exact q,fun e'=>(nomatch e.symm.trans e')⟩
  | succ k=>exact cf w fun b σ₁ ⟨e,q⟩=>⟨fun _=>jG q fun f σ₂ ⟨e,q⟩=>by rcases e with rfl | rfl<;>exact ⟨k,Nat.lt_succ_self _,q⟩,fun e'=>(nomatch e.symm.trans e')⟩
structure SW (P:Px) (t:Expr) (body:List Stmt) (s s':Sy):Prop where
 c:s'.c→s.c
 run:s'.c→∃ k,∀ as,as.length=s.n→∀ (H:HL) (Φ:PF),(∀ bs,bs.length=s'.n→as <+:bs→Φ .next (s'.D.to (P.ρ++bs)))→JW P.X t body H Φ k (s.D.to (P.ρ++as))
section
variable {P:Px} (O:cO P) {s s' s1 s2 s3 s4:Sy}
theorem xA (a:ST P t s false s'):SW P t body s s':=⟨a.c,fun c=>⟨0,fun as ha H Φ k=>a.run c as ha H _ fun bs hb pb=>.inl ⟨rfl,k bs hb pb⟩⟩⟩
theorem x2 (a:ST P t s true s1) (b:SB P body s1 .brk s'):SW P t body s s':=⟨fun c=>a.c (b.c c),fun c=>⟨0,fun as ha H Φ k=>a.run (b.c c) as ha H _ fun bs hb pb=>.inr ⟨rfl,b.run c bs hb H _ fun cs hc pc=>⟨rfl,k cs hc (pb.trans pc)⟩⟩⟩⟩
theorem wn {f:DF} (hf:f=.next∨f=.cont) (a:ST P t s true s1) (b:SB P body s1 f s2) (w:SW P t body s2 s'):SW P t body s s':=⟨fun c=>a.c (b.c (w.c c)),fun c=>by
 obtain ⟨n,w'⟩:=w.run c
 refine ⟨n+1,fun as ha H Φ k=>a.run (b.c (w.c c)) as ha H _ fun bs hb pb=>⟨rfl,b.run (w.c c) bs hb H _ fun cs hc pc=>⟨?_,w' cs hc H Φ fun ds hd pd=>k ds hd ((pb.trans pc).trans pd)⟩⟩⟩
 rcases hf with rfl | rfl
 · exact .inl rfl
 · exact .inr rfl⟩
theorem qx (w:SW P t body s s'):SX P (.While t body [] pos) s .next s':=⟨w.c,fun c as ha H Φ k=>by
 obtain ⟨n,w'⟩:=w.run c
 exact rk (w' as ha H Φ k)⟩
theorem SV.of {v:DV} (hn:s'.n=s.n) (hc:s'.c→s.c) (h:s'.c→∀ as,Ev P.X e (s.D.to (P.ρ++as)) (v.to (P.ρ++as)) (s'.D.to (P.ρ++as))):SV P e s v s':=
 ⟨hc,fun c as ha H Φ k=>(h c _).run H Φ fun w=>k w as (ha.trans hn.symm) (List.prefix_refl _)⟩
noncomputable def Sy.exE (P:Px) (e:Expr) (s:Sy) (k:Nat) (v:DV) (D:DS) (o:List c7):Sy:=⟨D,s.n+k,o,s.c∧oq s.n fun as=>EvQ P.X e (s.D.to (P.ρ++as)) fun d σ'=>exX k fun bs=>d=v.to (P.ρ++(as++bs))∧σ'=D.to (P.ρ++(as++bs))⟩
noncomputable def Sy.exS (P:Px) (st:Stmt) (s:Sy) (k:Nat) (D:DS) (o:List c7):Sy:=⟨D,s.n+k,o,s.c∧oq s.n fun as=>ExQ P.X st (s.D.to (P.ρ++as)) fun f σ'=>f=.next∧exX k fun bs=>σ'=D.to (P.ρ++(as++bs))⟩
noncomputable def Sy.cal (P:Px) (g:Addr) (vs:List DV) (s:Sy) (k:Nat) (v:DV) (objs:List (Nat×DO)) (rest:OL) (m:Nat) (o:List c7):Sy:=⟨⟨s.D.loc,objs,rest⟩,s.n+k,o,s.c∧oq s.n fun as=>a4 P.X.B m g (tos (P.ρ++as) vs) (a2 (P.ρ++as) s.D.rest s.D.objs) fun d o=>exX k fun bs=>d=v.to (P.ρ++(as++bs))∧o=a2 (P.ρ++(as++bs)) rest objs⟩
theorem Ac {v:DV}:SV P e s v (s.exE P e k v D o):=
 ⟨And.left,fun c as ha H Φ k=>(fV c.2 as ha).run H Φ fun w d σ' q=>by
  refine x13 (lj q) ?_;rintro bs hl e1 e2
  subst e1 e2
  exact k w (as++bs) (by rw [List.length_append,ha,hl];rfl) (List.prefix_append _ _)⟩
theorem BX {st:Stmt}:SX P st s .next (s.exS P st k D o):=
 ⟨And.left,fun c as ha H Φ k=>(fV c.2 as ha).run H Φ fun f σ' q=>by
  obtain ⟨e1,q⟩:=q
  refine x12 (lj q) ?_;rintro bs hl e2
  subst e1 e2
  exact k (as++bs) (by rw [List.length_append,ha,hl];rfl) (List.prefix_append _ _)⟩
theorem D7 {v:DV} {m:Nat} {objs:List (Nat×DO)} {rest:OL} (h:(Nat.ble m P.X.n&&(Nat.beq k 0||qb (P.N s) s.D.loc))=true):
 SK P g vs s v (s.cal P g vs k v objs rest m o):=
 ⟨And.left,_,lB0 (aj h),fun c as ha=>(fV c.2 as ha).mono fun d o q=>by
  refine x13 (lj q) ?_;rintro bs hl e1 e2
  refine ⟨as++bs,by rw [List.length_append,ha,hl];rfl,List.prefix_append _ _,e1,?_⟩
  subst e2
  refine congrArg (fun z=>St.mk z _) ?_
  rcases Bool.or_eq_true_iff.mp (au h) with hk | hk
  · obtain rfl:=Nat.eq_of_beq_eq_true hk
    rw [List.eq_nil_of_length_eq_zero hl,List.append_nil];rfl
  · exact (yd hk ha (List.prefix_append _ _)).symm⟩
theorem xL {v:DV} (h:SK P g vs s v s'):SC P (.ref g) vs s v s':=by
 obtain ⟨hc,m,hm,w⟩:=h
 refine ⟨hc,fun c as ha H ws Φ hl hp k=>gT (w c as ha) hm (by rw [List.length_map];exact hl) hp fun d o q w=>?_⟩
 refine x14 (q) ?_;clear q;rintro bs h1 h2 e1 e2
 rw [e1,e2];exact k w bs h1 h2
theorem wQ {b:Bl} (p:BcR b vs s):SC P (.builtin b.id) vs s p.1.1 p.1.2:=
 ⟨p.2.2.1,fun c as ha H ws Φ hl hp k=>(p.2.2.2 c _ _).run H ws Φ (by rw [List.length_map];exact hl) hp fun w=>k w as (ha.trans p.2.1.symm) (List.prefix_refl _)⟩
theorem xe:SL P [] s [] s:=⟨id,fun c as ha pos H Φ k=>mP (k [] as rfl ha (List.prefix_refl _))⟩
theorem sE {v:DV} (hs:be e=true) (a:SV P e s v s1) (hb:v.bel (P.N s1)=true) (b:SL P es s1 vs s'):SL P (e::es) s (v::vs) s':=
 ⟨fun c=>a.c (b.c c),fun c as ha pos H Φ k=>mQ (a.run (b.c c) as ha H _ fun w bs hbl pb=>b.run c bs hbl pos _ _ fun ws cs hl hc pc=>b6 hb hbl pc▸k (w::ws) cs (congrArg (·+1) hl) hc (pb.trans pc)) (gR hs)⟩
theorem A7:SD P [] [] s [] s:=⟨id,rfl,fun _=>rfl,fun _=>rfl,fun c as ha pos H Φ k=>wg (k as ha (List.prefix_refl _))⟩
theorem uN {x:Str} {kk kp} {v:DV} (a:SV P e s v s1) (hb:v.bel (P.N s1)=true) (b:SD P ks es s1 l s'):SD P (some (.Constant (.str x) kk kp)::ks) (e::es) s ((x,v)::l) s':=
 ⟨fun c=>a.c (b.c c),congrArg (·+1) b.len,fun pos=>congrArg (List.cons _) (b.zip pos),fun pos=>congrArg (·+1) (b.plen pos),fun c as ha pos H Φ k=>sf (a.run (b.c c) as ha H _ fun w bs hbl pb=>b.run c bs hbl pos _ _ fun cs hc pc=>b6 hb hbl pc▸k cs hc (pb.trans pc))⟩
theorem u7:SP P none s (.av .none) s:=⟨id,fun c as ha H Φ k=>vq (k _ as ha (List.prefix_refl _))⟩
theorem tW {v:DV} (a:SV P e s v s'):SP P (some e) s v s':=⟨a.c,fun c as ha H Φ k=>tB (a.run c as ha H Φ k)⟩
theorem ug:SA P .And [] s true s:=⟨id,fun c as ha H Φ k=>oT (k as ha (List.prefix_refl _))⟩
theorem uI:SA P .Or [] s false s:=⟨id,fun c as ha H Φ k=>uZ (k as ha (List.prefix_refl _))⟩
theorem zi (a:ST P e s true s1) (w:SA P .And es s1 b s'):SA P .And (e::es) s b s':=
 ⟨fun c=>a.c (w.c c),fun c as ha H Φ k=>iK (a.run (w.c c) as ha H _ fun bs hb pb=>⟨fun _=>w.run c bs hb H Φ fun cs hc pc=>k cs hc (pb.trans pc),nofun⟩)⟩
theorem yv (a:ST P e s false s'):SA P .And (e::es) s false s':=
 ⟨a.c,fun c as ha H Φ k=>iK (a.run c as ha H _ fun bs hb pb=>⟨nofun,fun _=>k bs hb pb⟩)⟩
theorem xY (a:ST P e s false s1) (w:SA P .Or es s1 b s'):SA P .Or (e::es) s b s':=
 ⟨fun c=>a.c (w.c c),fun c as ha H Φ k=>ki (a.run (w.c c) as ha H _ fun bs hb pb=>⟨nofun,fun _=>w.run c bs hb H Φ fun cs hc pc=>k cs hc (pb.trans pc)⟩)⟩
theorem vt (a:ST P e s true s'):SA P .Or (e::es) s true s':=
 ⟨a.c,fun c as ha H Φ k=>ki (a.run c as ha H _ fun bs hb pb=>⟨fun _=>k bs hb pb,nofun⟩)⟩
theorem xu (a:ST P e s b s'):ST P (.UnaryOp .Not e pos) s (!b) s':=⟨a.c,fun c as ha H Φ k=>Cu (a.run c as ha H _ k)⟩
theorem zN (a:SA P .And (e::es) s b s'):ST P (.BoolOp .And (e::es) pos) s b s':=⟨a.c,fun c as ha H Φ k=>Ba (a.run c as ha H Φ k)⟩
theorem C8 (a:SA P .Or (e::es) s b s'):ST P (.BoolOp .Or (e::es) pos) s b s':=⟨a.c,fun c as ha H Φ k=>Ey (a.run c as ha H Φ k)⟩
noncomputable def Sy.exI (P:Px) (a i:DV) (s:Sy) (d:AV) (o:List c7):Sy:=⟨s.D,s.n,o,s.c∧oq s.n fun as=>∀ X:Cx,X.B=P.X.B→∀ e1 e2,bm e2=true→cF X e1 e2 (a.to (P.ρ++as)) (i.to (P.ρ++as)) d (s.D.to (P.ρ++as))⟩
noncomputable def Sy.exC (P:Px) (op:CmpOp) (a b:DV) (s:Sy) (c:Bool) (o:List c7):Sy:=⟨s.D,s.n,o,s.c∧oq s.n fun as=>∀ X:Cx,X.B=P.X.B→bF X op (a.to (P.ρ++as)) (b.to (P.ρ++as)) c (s.D.to (P.ρ++as))⟩
theorem zZ {l:Expr} (hs:eY m=true) (a:SV P l s x s1) (hb:x.bel (P.N s1)=true) (d:SV P m s1 y s2) (z:RX P op x y s2) (w:RD z.r z.s'):ST P (.Compare l [op] [m] pos) s w.b w.s':=
 ⟨fun c=>a.c (d.c (z.A.c (w.A.c c))),fun c as ha H Φ k=>iQ (a.run (d.c (z.A.c (w.A.c c))) as ha H _ fun u bs hbl pb=>d.run (z.A.c (w.A.c c)) bs hbl _ _ fun v cs hc pc=>by
  have z':=z.ok (w.A.c c) cs hc
  rw [b6 hb hbl pc] at z'
  refine z'.run _ _ _ _ hd1 hd0 fun _=>⟨_,rfl,?_⟩
  rw [w.ok c,←z.A.D,←w.A.D]
  exact k cs (hc.trans (w.A.n.trans z.A.n).symm) (pb.trans pc)) (jF hs)⟩
theorem A4 (hs:pF e=true) (a:SV P e s x s1) (t:RT x s1) (w:RD t.r t.s'):ST P e s w.b w.s':=
 ⟨fun c=>a.c (t.A.c (w.A.c c)),fun c as ha H Φ k=>jb (a.run (t.A.c (w.A.c c)) as ha H _ fun u bs hbl pb=>(t.ok (w.A.c c) _ _).run _ _ Φ hd0 (by
  rw [w.ok c,←t.A.D,←w.A.D]
  exact k bs (hbl.trans (w.A.n.trans t.A.n).symm) pb)) (sQ hs)⟩
theorem tZ {a:Str} {i:Nat} {s1:Sy} (O:cO P) (hs:dU e=true) (h:SV P e s (.slot i) s1) (g:RG P.K i a s1):SV P (.Attribute e a pos) s g.v s1:=
 ⟨h.c,fun c as ha H Φ k=>q6 (h.run c as ha H _ fun u bs hbl pb=>(g.ok P.X O.K _).run _ _ _ hd0 fun w=>k w bs hbl pb) (sP hs)⟩
theorem ya {l:Expr} (hs:eY m=true) (a:SV P l s x s1) (hb:x.bel (P.N s1)=true) (d:SV P m s1 y s2) (z:RX P op x y s2):SV P (.Compare l [op] [m] pos) s (.av (.bool z.r.val)) z.s':=
 ⟨fun c=>a.c (d.c (z.A.c c)),fun c as ha H Φ k=>iH (a.run (d.c (z.A.c c)) as ha H _ fun u bs hbl pb=>d.run (z.A.c c) bs hbl _ _ fun v cs hc pc=>by
  have z':=z.ok c cs hc
  rw [b6 hb hbl pc] at z'
  exact z'.run _ _ _ _ hd1 hd0 fun w=>z.A.D▸k w cs (hc.trans z.A.n.symm) (pb.trans pc)) (jF hs)⟩
theorem zR {l:Expr} {op:Operator} (a:SV P l s x s1) (hb:x.bel (P.N s1)=true) (d:SV P m s1 y s2) (z:RB op x y s2):SV P (.BinOp l op m pos) s z.v z.s':=
 ⟨fun c=>a.c (d.c (z.A.c c)),fun c as ha H Φ k=>mO (a.run (d.c (z.A.c c)) as ha H _ fun u bs hbl pb=>d.run (z.A.c c) bs hbl _ _ fun v cs hc pc=>by
  have z':=(z.ok c P.X (s2.D.to (P.ρ++cs)) (P.ρ++cs)).1
  rw [b6 hb hbl pc] at z'
  exact z'.run _ _ _ _ hd1 hd0 fun w=>z.A.D▸k w cs (hc.trans z.A.n.symm) (pb.trans pc))⟩
theorem zX (a:SV P e s x s1) (t:RT x s1):SV P (.UnaryOp .Not e pos) s (.av (.bool !t.r.val)) t.s':=
 ⟨fun c=>a.c (t.A.c c),fun c as ha H Φ k=>Co (a.run (t.A.c c) as ha H _ fun u bs hbl pb=>(t.ok c _ _).run _ _ _ hd0 (t.A.D▸k _ bs (hbl.trans t.A.n.symm) pb))⟩
theorem y6 {i:Int} (a:SV P e s (.av (.int i)) s'):SV P (.UnaryOp .USub e pos) s (.av (.int (-i))) s':=
 ⟨a.c,fun c as ha H Φ k=>w9 (a.run c as ha H _ fun u bs hbl pb=>⟨_,rfl,fun w=>k w bs hbl pb⟩)⟩
theorem z5 {x y:Expr} {v:DV} (a:ST P t s true s1) (w:SV P x s1 v s'):SV P (.IfExp t x y pos) s v s':=
 ⟨fun c=>a.c (w.c c),fun c as ha H Φ k=>mM (a.run (w.c c) as ha H _ fun bs hb pb=>⟨fun _=>w.run c bs hb H Φ fun u cs hc pc=>k u cs hc (pb.trans pc),nofun⟩)⟩
theorem zK {x y:Expr} {v:DV} (a:ST P t s false s1) (w:SV P y s1 v s'):SV P (.IfExp t x y pos) s v s':=
 ⟨fun c=>a.c (w.c c),fun c as ha H Φ k=>mM (a.run (w.c c) as ha H _ fun bs hb pb=>⟨nofun,fun _=>w.run c bs hb H Φ fun u cs hc pc=>k u cs hc (pb.trans pc)⟩)⟩
theorem wZ {l:List AV} (a:SL P es s vs s') (q:fg vs=some l) (hz:Nat.ble l.length 16777216=true):SV P (.Tuple es k pos) s (.av (.tup l)) s':=
 ⟨a.c,fun c as ha H Φ k=>ny (a.run c as ha _ _ _ fun ws bs hl hb pb=>by rw [ge q];exact ⟨lB0 hz,fun w=>k w bs hb pb⟩)⟩
theorem nk {B:a5} {n:Nat} {L:Addr} {H:HL} {σ:St} {t:Sem Value} {Φ:PV} (h:WV B n L t H σ fun v d σ'=>∃ objs',σ'.objs.Perm objs'∧Φ v d ⟨σ'.loc,objs'⟩):WV B n L t H σ Φ:=
 a7 fun A F s hA X=>wpAny_mono (h.run A F s hA X) (fun v s' z=>by
  obtain ⟨F',⟨loc,objs⟩,x,p,d,hd,objs',e,q⟩:=z
  exact ⟨F',⟨loc,objs'⟩,x.perm e,p.fewer fun b hb=>(mC0 hb).elim (fun h=>h▸.head _) fun h=>.tail _ ((aZ e).mem_iff.mpr h),d,hd,q⟩) fun _ _ z=>z
noncomputable def Sy.new (P:Px) (s:Sy) (o:DO):Sy:=⟨⟨s.D.loc,s.D.objs++[(P.N s,o)],s.D.rest⟩,s.n+1,s.o,s.c⟩
theorem qW {o:DO} {bs:List Addr} {x:Addr} (hb:bs.length=s.n) (h:s.D.bel (P.N s)=true):aB (P.ρ++(bs++[x])) (P.N s)=x∧(s.new P o).D.to (P.ρ++(bs++[x]))=⟨cP (P.ρ++bs) s.D.loc,s.D.objs.map (fun p=>(aB (P.ρ++bs) p.1,p.2.to (P.ρ++bs)))++(x,o.to (P.ρ++(bs++[x])))::s.D.rest⟩:=by
 have hN:(P.ρ++bs).length=P.N s:=by rw [List.length_append,hb];rfl
 have hx:aB (P.ρ++(bs++[x])) (P.N s)=x:=by rw [←List.append_assoc,←hN];exact ot
 refine ⟨hx,?_⟩
 have e:=Et (D:=⟨s.D.loc,s.D.objs,[]⟩) h hb (List.prefix_append bs [x])
 rw [DS.to,DS.to,a2,a2,List.append_nil,List.append_nil] at e
 obtain ⟨e1,e2⟩:=St.mk.inj e
 show St.mk (cP (P.ρ++(bs++[x])) s.D.loc) (a2 (P.ρ++(bs++[x])) s.D.rest (s.D.objs++[(P.N s,o)]))= _
 rw [a2,List.map_append,e1,e2,List.append_assoc,List.map_cons,List.map_nil,hx];rfl
theorem tp (a:SL P es s vs s1) (hz:(Nat.ble vs.length 16777216&&vs.all (DV.bel (P.N s1))&&s1.D.bel (P.N s1))=true):SV P (.List es pos) s (.slot (P.N s1)) (s1.new P (.list [] vs)):=
 ⟨a.c,fun c as ha H Φ k=>nk (ll (a.run c as ha _ _ _ fun ws bs hl hb pb=>⟨by rw [List.length_map];exact lB0 (aj (aj hz)),fun x=>by
  obtain ⟨hx,hD⟩:=qW (P:=P) (o:=.list [] vs) (x:=x) hb (au hz)
  have:=k (.ref x) (bs++[x]) (by rw [List.length_append,hb];rfl) (pb.trans (List.prefix_append _ _))
  rw [hD,DV.to,hx,DO.to,dY,Dx (au (aj hz)) hb (List.prefix_append bs [x])] at this
  exact ⟨_,List.perm_middle.symm,this⟩⟩))⟩
theorem rN (a:SD P ks es s l s') (h0:Nat.ble 1 l.length=true) (pos:Pos):aw P.X.env pos ks es≠[]:=fun e=>by
 have h1:1≤l.length:=lB0 h0
 rw [a.len,←a.plen pos,e] at h1
 exact absurd h1 (by decide)
theorem sX {vs:List (Str×DV)} {l:FL} (a:SD P ks es s vs s') (q:ie vs=some l) (hz:(cM (l.map (·.1))&&Nat.ble 1 vs.length&&Nat.ble es.length 15)=true):SV P (.Dict ks es pos) s (.av (.dct l)) s':=
 ⟨a.c,fun c as ha H Φ k=>pI (a.run c as ha _ _ _ fun bs hb pb=>by rw [j8 q];exact ⟨bf (aj (aj hz)),fun w=>k w bs hb pb⟩) (a.zip _) (rN a (au (aj hz)) pos) (by rw [a.plen];exact lB0 (au hz))⟩
theorem pO {lo hi:Option Expr} {p:Pos} {x:List Nat} {d1 d2:AV} {i j:Option Int} (a:SV P e s (.av (.str x)) s1) (b:SP P lo s1 (.av d1) s2) (d:SP P hi s2 (.av d2) s3) (e1:ic d1=some i) (e2:ic d2=some j):SV P (.Subscript e (.Slice lo hi none p) pos) s (.av (.str (sl x i j))) (s3.need (x.length≤16777216)):=
 ⟨fun c=>a.c (b.c (d.c c.1)),fun c as ha H Φ k=>uE (a.run (b.c (d.c c.1)) as ha H _ fun u bs hb pb=>b.run (d.c c.1) bs hb _ _ fun u cs hc pc=>d.run c.1 cs hc _ _ fun u ds hd pd=>⟨_,_,_,rfl,e1,e2,c.2,fun w=>k w ds hd ((pb.trans pc).trans pd)⟩)⟩
theorem xF {i:Expr} (hs:bm i=true) (a:SV P e s x s1) (hb:x.bel (P.N s1)=true) (d:SV P i s1 y s2) (z:RY P x y s2):SV P (.Subscript e i pos) s z.v z.s':=
 ⟨fun c=>a.c (d.c (z.A.c c)),fun c as ha H Φ k=>w8 (a.run (d.c (z.A.c c)) as ha H _ fun u bs hbl pb=>d.run (z.A.c c) bs hbl _ _ fun v cs hc pc=>by
  have z':=z.ok c cs hc e i hs
  rw [b6 hb hbl pc] at z'
  exact z'.run _ _ _ _ hd1 hd0 fun w=>z.A.D▸k w cs (hc.trans z.A.n.symm) (pb.trans pc))⟩
theorem ut {x:Str} {xp:Pos} {f:Ce} {v:DV} (hs:kt be es=true) (q:ud P x f) (b:SL P es s vs s1) (w:SC P f.val vs s1 v s'):SV P (.Call (.Name x xp) es [] pos) s v s':=
 ⟨fun c=>b.c (w.c c),fun c as ha H Φ k=>gm ((q.1 _ xp).run _ _ (q.2.run _ _ _ _ _ _ (i5 hs) (b.run (w.c c) as ha _ _ _ fun ws bs hl hb pb=>w.run c bs hb _ _ Φ hl (fun _ hp=>List.mem_append_left _ hp) fun u cs hc pc=>k u cs hc (pb.trans pc)))) ue⟩
theorem uP {a:Str} {ap:Pos} {o:DV} {f:Ce} {v:DV} (hs:(dU e&&kt be es&&Nat.blt es.length 30&&(ap.endLine==pos.line))=true) (x:SV P e s o s1) (hb:o.bel (P.N s1)=true)
 (q:∀ ρ,e7 P.X (o.to ρ) a f.val (s1.D.to ρ)∧d5 P.X f.val) (b:SL P es s1 vs s2) (w:SC P f.val (o::vs) s2 v s'):SV P (.Call (.Attribute e a ap) es [] pos) s v s':=
 have hst:=au (aj (aj hs))
 ⟨fun c=>x.c (b.c (w.c c)),fun c as ha H Φ k=>lu (x.run (b.c (w.c c)) as ha H _ fun vo bs hbl pb=>(q (P.ρ++bs)).1.run _ _ _ _ hd0 fun _=>(q (P.ρ++bs)).2.run _ _ _ _ _ _ (i5 hst) (b.run (w.c c) bs hbl _ _ _ fun ws cs hl hcl pc=>
  w.run c cs hcl _ _ Φ (by rw [List.length_append,hl,Nat.add_comm];rfl) (by rw [tos,List.map_cons,b6 hb hbl pc];exact gb) fun u ds hd pd=>k u ds hd ((pb.trans pc).trans pd))) (mJ (aj (aj (aj hs))) hst (au (aj hs)) (au hs))⟩
theorem wH {a:Str} {ap:Pos} {o:DV} {i:Nat} {v:DV} (hs:(dU e&&kt be es&&Nat.blt es.length 30&&(ap.endLine==pos.line))=true) (x:SV P e s o s1) (hi:Nat.blt i (P.N s1)=true)
 (q :∀ ρ,qk P.X (o.to ρ) a (.meth g (aB ρ i)) (s1.D.to ρ)) (hf:fnIn P.X.B.K g=true) (b:SL P es s1 vs s2) (w:SK P g (.slot i::vs) s2 v s'):SV P (.Call (.Attribute e a ap) es [] pos) s v s':=by
 have hst:=au (aj (aj hs))
 obtain ⟨hc,m,hm,w⟩:=w
 refine ⟨fun c=>x.c (b.c (hc c)),fun c as ha H Φ k=>?_⟩
 rw [mJ (aj (aj (aj hs))) hst (au (aj hs)) (au hs)]
 refine af (x.run (b.c (hc c)) as ha H _ fun vo bs hbl pb=>ag ?_)
 refine bN (a8 ((q (P.ρ++bs)).run _ vo _ (fun p F σ₂=>p.2=[]∧σ₂=s1.D.to (P.ρ++bs)∧Is P.X.B.P F p.1 (.meth g (aB (P.ρ++bs) i))) hd0 fun v F hv=>⟨rfl,rfl,hv⟩)) ?_
 rintro ⟨v',fs⟩ F σ₂ ⟨rfl,rfl,hv⟩
 refine ⟨(v',.meth g (aB (P.ρ++bs) i))::(vo,o.to (P.ρ++bs))::H,fun _ h=>.tail _ h,fun x hx=>?_,?_⟩
 · rcases mC0 hx with rfl | hx
   · exact .inr hv
   · exact .inl hx
 · refine mT hd0 hf (b.run (hc c) bs hbl _ _ _ fun ws cs hl hcl pc=>?_) (i5 hst)
   have cj:=w c cs hcl
   rw [tos,List.map_cons,b6 (v:=.slot i) hi hbl pc] at cj
   refine kL (List.mem_append_right _ hd0) cj hm (by rw [List.length_map];exact hl) (fun _ hp=>List.mem_append_left _ hp) fun d o' q' v=>?_
   refine x14 (q') ?_;clear q';rintro ds hd1' pd e1 e2
   rw [e1,e2]
   exact k v ds hd1' ((pb.trans pc).trans pd)
end
end
section
set_option genInjectivity false
section
variable {P:Px} (O:cO P) {s s' s1 s2 s3 s4:Sy}
theorem mj {P:Px} (O:cO P):(P.X.env.scope.kind==.class||(P.X.env.scope.kind==.module&&P.X.env.locals !=P.X.env.globals))=false:=by rw [O.kind];rfl
theorem xR {P:Px} (O:cO P):interactive P.X.env=false:=by unfold interactive;rw [O.kind];rfl
include O in
theorem u9 {x:Str} {p:Pos} {v:DV} {l:List (Str×Option DV)} (hl:gE (P.X.env.kindOf x)=true) (q:ow x v s.D.loc=some l):SG P (.Name x p) v s ⟨⟨l,s.D.objs,s.D.rest⟩,s.n,s.o,s.c⟩:=
 ⟨id,rfl,fun c as ha H w Φ m k=>jh (ib m (jf q) k (eu hl) O.loc (mj O)),fun e pos hs c H σ Φ w=>cV (ab w fun x d σ₁ ⟨bs,hb,e1,e2,k⟩=>by
  subst e1 e2
  exact ib hd0 (jf q) k (eu hl) O.loc (mj O)) (hs _ _)⟩
include O in
theorem uJ {x:Str} {p:Pos} {v:DV} {i:Nat} {w:Option DV} (hl:iU (P.X.env.kindOf x)=true) (e0:cy x P.cl=some i) (q:aV i s.D.objs=some (.cell w)):SG P (.Name x p) v s (s.objs (fc i (.cell (some v)) s.D.objs)):=by
 obtain ⟨h1,h2⟩:=O.cl x i e0
 have key:∀ (as:List Addr) (H:HL) (u:Value) (Φ:St→Prop),(u,v.to (P.ρ++as))∈H→Φ ((s.objs (fc i (.cell (some v)) s.D.objs)).D.to (P.ρ++as))→WU P.X.B P.X.n P.X.L (storeName P.X.env x u) H (s.D.to (P.ρ++as)) Φ:=fun as H u Φ m k=>
  pB (by rw [dw h2];exact h1) m (dh (ρ:=P.ρ++as) (rest:=s.D.rest) (o':=.cell (some v)) q) k O.kind (jX hl)
 exact ⟨id,rfl,fun c as ha H w Φ m k=>jh (key as H w Φ m k),fun e pos hs c H σ Φ w=>cV (ab w fun x d σ₁ ⟨bs,hb,e1,e2,k⟩=>by
  subst e1 e2
  exact key bs _ _ _ hd0 k) (hs _ _)⟩
include O in
theorem vf {e:Expr} {a:Str} {p:Pos} {v:DV} {i:Nat} (h:SV P e s (.slot i) s1) (hn:Nat.beq s1.n s.n=true) (q:RS P.K i a v s1):SG P (.Attribute e a p) v s (s1.objs q.l):=by
 replace hn:s1.n=s.n:=Nat.eq_of_beq_eq_true hn
 refine ⟨h.c,hn,fun c as ha H w Φ m k=>xj (h.run c as ha H _ fun x bs hbl pb=>?_),fun e' pos hs c H σ Φ z=>cS (ab z fun x d σ₁ ⟨as,ha,e1,e2,k⟩=>?_) (hs _ _)⟩
 · obtain rfl:=pb.eq_of_length ((ha.trans hn.symm).trans hbl.symm)
   exact (q.ok P.X O.K _).run _ _ _ Φ hd0 (.tail _ m) k
 · subst e1 e2
   refine h.run c as ha _ _ fun x bs hbl pb=>?_
   obtain rfl:=pb.eq_of_length ((ha.trans hn.symm).trans hbl.symm)
   exact (q.ok P.X O.K _).run _ _ _ _ hd0 hd1 k
theorem x5:SB P [] s .next s:=⟨id,fun c as ha H Φ k=>wd (k as ha (List.prefix_refl _))⟩
theorem v6 {st:Stmt} {ss:List Stmt} {f:DF} (a:SX P st s .next s1) (w:SB P ss s1 f s'):SB P (st::ss) s f s':=
 ⟨fun c=>a.c (w.c c),fun c as ha H Φ k=>cQ (a.run (w.c c) as ha H (dP P.X.B P.X.n P.X.L ss P.X.env H Φ) fun bs hb pb=>w.run c bs hb H Φ fun cs hc pc=>k cs hc (pb.trans pc))⟩
theorem xo {st:Stmt} {ss:List Stmt} (a:SX P st s .brk s'):SB P (st::ss) s .brk s':=⟨a.c,fun c as ha H Φ k=>cQ (a.run c as ha H (dP P.X.B P.X.n P.X.L ss P.X.env H Φ) k)⟩
theorem su {st:Stmt} {ss:List Stmt} (a:SX P st s .cont s'):SB P (st::ss) s .cont s':=⟨a.c,fun c as ha H Φ k=>cQ (a.run c as ha H (dP P.X.B P.X.n P.X.L ss P.X.env H Φ) k)⟩
theorem wX {st:Stmt} {ss:List Stmt} {v:DV} (a:SX P st s (.ret v) s'):SB P (st::ss) s (.ret v) s':=⟨a.c,fun c as ha H Φ k=>cQ (a.run c as ha H (dP P.X.B P.X.n P.X.L ss P.X.env H Φ) k)⟩
theorem uK {pos:Pos}:SX P (.Pass pos) s .next s:=⟨id,fun c as ha H Φ k=>xN (k as ha (List.prefix_refl _))⟩
theorem yy {pos:Pos}:SX P (.Break pos) s .brk s:=⟨id,fun c as ha H Φ k=>nz (k as ha (List.prefix_refl _))⟩
theorem uS {pos:Pos}:SX P (.Continue pos) s .cont s:=⟨id,fun c as ha H Φ k=>lO (k as ha (List.prefix_refl _))⟩
theorem tD {pos:Pos}:SX P (.Return none pos) s (.ret (.av .none)) s:=⟨id,fun c as ha H Φ k=>ji (k as ha (List.prefix_refl _))⟩
theorem wF {e:Expr} {pos:Pos} {v:DV} (a:SV P e s v s'):SX P (.Return (some e) pos) s (.ret v) s':=⟨a.c,fun c as ha H Φ k=>kI (a.run c as ha H _ fun w bs hb pb=>k bs hb pb)⟩
theorem xC {t:Expr} {x y:List Stmt} {pos:Pos} {f:DF} (a:ST P t s true s1) (w:SB P x s1 f s'):SX P (.If t x y pos) s f s':=
 ⟨fun c=>a.c (w.c c),fun c as ha H Φ k=>tY (a.run (w.c c) as ha H _ fun bs hb pb=>⟨fun _=>w.run c bs hb H Φ fun cs hc pc=>k cs hc (pb.trans pc),nofun⟩)⟩
theorem zd {t:Expr} {x y:List Stmt} {pos:Pos} {f:DF} (a:ST P t s false s1) (w:SB P y s1 f s'):SX P (.If t x y pos) s f s':=
 ⟨fun c=>a.c (w.c c),fun c as ha H Φ k=>tY (a.run (w.c c) as ha H _ fun bs hb pb=>⟨nofun,fun _=>w.run c bs hb H Φ fun cs hc pc=>k cs hc (pb.trans pc)⟩)⟩
include O in
theorem vp {e:Expr} {pos:Pos} {v:DV} (hs:dG e=true) (a:SV P e s v s'):SX P (.Expr e pos) s .next s':=⟨a.c,fun c as ha H Φ k=>lM (a.run c as ha H _ fun w bs hb pb=>k bs hb pb) (xR O) (gW hs)⟩
theorem nG {t:Expr} {m pos} (a:ST P t s true s'):SX P (.Assert t m pos) s .next s':=⟨a.c,fun c as ha H Φ k=>pY (a.run c as ha H _ fun bs hb pb=>⟨rfl,k bs hb pb⟩)⟩
theorem zk {t e:Expr} {pos:Pos} {v:DV} (hs:dG e=true) (a:SV P e s v s1) (b:SG P t v s1 s'):SX P (.Assign [t] e pos) s .next s':=
 ⟨fun c=>a.c (b.c c),fun c as ha H Φ k=>b.stm e pos (fun _ _=>gW hs) c H _ Φ (a.run (b.c c) as ha H _ fun w bs hb pb=>⟨bs,hb,rfl,rfl,k bs (hb.trans b.n.symm) pb⟩)⟩
theorem sS {t1 t2 e:Expr} {kk:Nat} {p pos:Pos} {d1 d2:AV} (hs:(dG e&&pH e&&be t1&&be t2)=true) (a:SV P e s (.av (.tup [d1,d2])) s1) (b:SG P t1 (.av d1) s1 s2) (d:SG P t2 (.av d2) s2 s'):SX P (.Assign [.Tuple [t1,t2] kk p] e pos) s .next s':=
 ⟨fun c=>a.c (b.c (d.c c)),fun c as ha H Φ k=>iT (a.run (b.c (d.c c)) as ha H _ fun w bs hb pb=>⟨d1,d2,rfl,fun v1 v2=>b.run (d.c c) bs hb _ _ _ hd0 (d.run c bs (hb.trans b.n.symm) _ _ _ hd1 (k bs (hb.trans (b.n.symm.trans d.n.symm)) pb))⟩)
  (by rw [swapsWithSole];exact gW (aj (aj (aj hs)))) (s0 (au (aj (aj hs)))) (by rw [s6 (au (aj hs)),s6 (au hs)];rfl)⟩
theorem t8 {o i e:Expr} {p pos:Pos} {v x y:DV} (hs:dG e=true) (a:SV P e s v s1) (hb1:v.bel (P.N s1)=true) (b:SV P o s1 x s2) (hb2:x.bel (P.N s2)=true) (d:SV P i s2 y s3) (q:RJ x y v s3):SX P (.Assign [.Subscript o i p] e pos) s .next (s3.objs q.l):=
 ⟨fun c=>a.c (b.c (d.c c)),fun c as ha H Φ k=>gC (a.run (b.c (d.c c)) as ha H _ fun w bs hb pb=>b.run (d.c c) bs hb _ _ fun w2 cs hc pc=>d.run c cs hc _ _ fun w3 ds hd pd=>by
  have y:=q.ok P.X (P.ρ++ds)
  rw [b6 hb1 hb (pc.trans pd),b6 hb2 hc pd] at y
  exact y.run _ _ _ _ _ hd1 hd0 (.tail _ (.tail _ (.head _))) (k ds hd ((pb.trans pc).trans pd))) (gW hs)⟩
theorem un {t:Expr} {ks:List (Option Expr)} {es:List Expr} {dp pos:Pos} {l:List (Str×DV)} (a:SD P ks es s l s1) (hz:(cM (l.map (·.1))&&Nat.ble 1 l.length&&Nat.ble es.length 15&&(l.all fun p=>p.2.bel (P.N s1))&&s1.D.bel (P.N s1))=true) (b:SG P t (.slot (P.N s1)) (s1.new P (.dict l)) s'):SX P (.Assign [t] (.Dict ks es dp) pos) s .next s':=
 ⟨fun c=>a.c (b.c c),fun c as ha H Φ k=>b.stm _ pos (fun _ _=>rfl) c H _ Φ (nk (ua (a.run (b.c c) as ha _ _ _ fun bs hb pb=>⟨bf (by rw [List.map_map];exact aj (aj (aj (aj hz)))),fun x=>by
  obtain ⟨hx,hD⟩:=qW (P:=P) (o:=.dict l) (x:=x) hb (au hz)
  refine ⟨_,List.perm_middle.symm,bs++[x],by rw [List.length_append,hb];rfl,congrArg AV.ref hx.symm,?_,k _ (by rw [List.length_append,hb];exact b.n.symm) (pb.trans (List.prefix_append _ _))⟩
  rw [hD,DO.to,E0 (au (aj hz)) hb (List.prefix_append bs [x])]⟩) (a.zip _) (rN a (au (aj (aj (aj hz)))) dp) (by rw [a.plen];exact lB0 (au (aj (aj hz))))))⟩
include O in
theorem zY {x:Str} {p pos:Pos} {op:Operator} {e:Expr} {a v:DV} {l:List (Str×Option DV)} (hl:gE (P.X.env.kindOf x)=true) (e0:two (cy x s.D.loc)=some a) (hb:a.bel (P.N s)=true) (h:SV P e s v s1) (z:RB op a v s1) (q:ow x z.v z.s'.D.loc=some l):
 SX P (.AugAssign (.Name x p) op e pos) s .next ⟨⟨l,z.s'.D.objs,z.s'.D.rest⟩,z.s'.n,z.s'.o,z.s'.c⟩:=
 ⟨fun c=>h.c (z.A.c c),fun c as ha H Φ k=>qJ (rJ (σ:=s.D.to _) (kD (lK e0)) (fun x=>h.run (z.A.c c) as ha _ _ fun y bs hbl pb=>by
  have z':=(z.ok c P.X (s1.D.to (P.ρ++bs)) (P.ρ++bs)).2
  rw [b6 hb ha pb] at z'
  refine z'.run _ _ _ _ hd1 hd0 fun y'=>?_
  rw [←z.A.D]
  exact ib hd0 (jf q) (k bs (hbl.trans z.A.n.symm) pb) (eu hl) O.loc (mj O)) O.kind (eu hl) O.loc)⟩
include O in
theorem uL {o e:Expr} {a:Str} {p pos:Pos} {op:Operator} {i:Nat} {v:DV} (h:SV P o s (.slot i) s1) (hi:Nat.blt i (P.N s1)=true) (g:RG P.K i a s1) (hx:g.v.bel (P.N s1)=true) (b:SV P e s1 v s2) (z:RB op g.v v s2) (q:RS P.K i a z.v z.s'):SX P (.AugAssign (.Attribute o a p) op e pos) s .next (z.s'.objs q.l):=
 ⟨fun c=>h.c (b.c (z.A.c c)),fun c as ha H Φ k=>nU (h.run (b.c (z.A.c c)) as ha H _ fun wo bs hb pb=>(g.ok P.X O.K _).run _ _ _ hd0 fun wa=>b.run (z.A.c c) bs hb _ _ fun wb cs hc pc=>by
  have z':=(z.ok c P.X (s2.D.to (P.ρ++cs)) (P.ρ++cs)).2
  rw [b6 hx hb pc] at z'
  refine z'.run _ _ _ _ hd1 hd0 fun wc=>?_
  have y':=q.ok P.X O.K (P.ρ++cs)
  rw [show AV.ref (aB (P.ρ++cs) i)= _ from b6 (v:=.slot i) (s:=s1) hi hb pc,z.A.D] at y'
  exact y'.run _ _ _ _ hd1 hd0 (k cs (hc.trans z.A.n.symm) (pb.trans pc)))⟩
theorem uW {o i e:Expr} {p pos:Pos} {op:Operator} {x y v:DV} (hs:bm i=true) (a:SV P o s x s1) (hb1:x.bel (P.N s1)=true) (b:SV P i s1 y s2) (hb2:y.bel (P.N s2)=true) (g:RK x y s2) (hx:g.v.bel (P.N s2)=true) (d:SV P e s2 v s3) (z:RB op g.v v s3) (q:RJ x y z.v z.s'):SX P (.AugAssign (.Subscript o i p) op e pos) s .next (z.s'.objs q.l):=
 ⟨fun c=>a.c (b.c (d.c (z.A.c c))),fun c as ha H Φ k=>s8 (a.run (b.c (d.c (z.A.c c))) as ha H _ fun wo bs hb pb=>b.run (d.c (z.A.c c)) bs hb _ _ fun wi cs hc pc=>by
  have g':=g.ok P.X (P.ρ++cs)
  rw [b6 hb1 hb pc] at g'
  refine g'.run _ _ _ _ hd1 hd0 fun wx=>d.run (z.A.c c) cs hc _ _ fun wv ds hd pd=>?_
  have z':=(z.ok c P.X (s3.D.to (P.ρ++ds)) (P.ρ++ds)).2
  rw [b6 hx hc pd] at z'
  refine z'.run _ _ _ _ hd1 hd0 fun wc=>?_
  have y':=q.ok P.X (P.ρ++ds)
  rw [b6 hb1 hb (pc.trans pd),b6 hb2 hc pd,z.A.D] at y'
  exact y'.run _ _ _ _ _ (.tail _ (.tail _ (.head _))) hd1 hd0 (k ds (hd.trans z.A.n.symm) ((pb.trans pc).trans pd))) (A3 hs)⟩
end
noncomputable section
noncomputable abbrev VR (P:Px) (e:Expr) (s:Sy):Type:={p:DV×Sy // SV P e s p.1 p.2}
noncomputable abbrev TR (P:Px) (e:Expr) (s:Sy):Type:={p:Bool×Sy // ST P e s p.1 p.2}
noncomputable abbrev XR (P:Px) (st:Stmt) (s:Sy):Type:={p:DF×Sy // SX P st s p.1 p.2}
noncomputable abbrev GR (P:Px) (t:Expr) (v:DV) (s:Sy):Type:={s':Sy // SG P t v s s'}
noncomputable abbrev UR (P:Px) (e:Expr) (s:Sy):Type:={d:AV // ∀ as,Ev P.X e (s.D.to (P.ρ++as)) d (s.D.to (P.ρ++as))}
structure Fns (P:Px) where
 pu:∀ e s,Option (UR P e s)
 ev:∀ e s,Option (VR P e s)
 te:∀ e s,Option (TR P e s)
 ex:∀ st s,Option (XR P st s)
section
variable {P:Px} (O:cO P) (r:Fns P)
noncomputable def wr (d:AV):Option {c:Bool // d=.bool c}:=match d with
 | .bool c=>some ⟨c,rfl⟩
 | _=>none
theorem mH {e:Expr} {s:Sy} {d d':AV} (h:∀ as,Ev P.X e (s.D.to (P.ρ++as)) d (s.D.to (P.ρ++as))) (q:d=d') (as:List Addr):Ev P.X e (s.D.to (P.ρ++as)) d' (s.D.to (P.ρ++as)):=q▸h as
noncomputable def orU (es:List Expr):∀ s:Sy,Option {c:Bool // ∀ as,EvO P.X es (s.D.to (P.ρ++as)) (.bool c) (s.D.to (P.ρ++as))}:=List.rec (fun _=>none)
 (fun e es ih s=>ob (r.pu e s) fun a=>ob (wr a.1) fun c=>match es,ih with
  | [],_=>some ⟨c.1,fun ρ=>sV (mH a.2 c.2 ρ)⟩
  | _::_,ih=>ob (ih s) fun b=>some ⟨c.1||b.1,fun ρ=>v5 (mH a.2 c.2 ρ) (b.2 ρ)⟩) es
noncomputable def ET (es:List Expr):∀ s:Sy,Option {c:Bool // ∀ as,EvA P.X es (s.D.to (P.ρ++as)) (.bool c) (s.D.to (P.ρ++as))}:=List.rec (fun _=>none)
 (fun e es ih s=>ob (r.pu e s) fun a=>ob (wr a.1) fun c=>match es,ih with
  | [],_=>some ⟨c.1,fun ρ=>mV (mH a.2 c.2 ρ)⟩
  | _::_,ih=>ob (ih s) fun b=>some ⟨c.1&&b.1,fun ρ=>mU (mH a.2 c.2 ρ) (b.2 ρ)⟩) es
noncomputable def DE (es:List Expr):∀ s:Sy,Option {l:List AV // ∀ as,EvL P.X es (s.D.to (P.ρ++as)) l (s.D.to (P.ρ++as))}:=List.rec (fun s=>some ⟨[],fun ρ=>aq⟩)
 (fun e es ih s=>gd (be e) fun hs=>ob (r.pu e s) fun a=>ob (ih s) fun b=>some ⟨a.1::b.1,fun ρ=>ai (a.2 ρ) (b.2 ρ) (gR hs)⟩) es
theorem kq {op op':CmpOp} {m x:Expr} {env:Env} (h:eY x=true):markedEach [op,op'] [m,x] (evalEach [m,x] env)=[eval m env,eval x env]:=by
 show eval m env::[markedBehindIn op' x (eval x env)]= _
 rw [markedBehindIn_of_false (jF h)]
noncomputable def En (l:Expr) (ops:List CmpOp) (ms:List Expr) (pos:Pos) (s:Sy):Option (UR P (.Compare l ops ms pos) s):=match ops,ms with
 | [op],[m]=>gd (eY m) fun hs=>ob (r.pu l s) fun a=>ob (r.pu m s) fun b=>ob (nK op a.1 b.1) fun z=>some ⟨.bool z.r.val,fun ρ=>ri (a.2 ρ) (b.2 ρ) (z.ok _ _) (jF hs)⟩
 | [op,op'],[m,x]=>gd (eY x) fun hs=>ob (r.pu l s) fun a=>ob (r.pu m s) fun b=>ob (r.pu x s) fun y=>ob (nK op a.1 b.1) fun z=>ob (nK op' b.1 y.1) fun w=>some ⟨.bool (z.r.val&&w.r.val),fun ρ=>oI (a.2 ρ) (b.2 ρ) (z.ok _ _) (y.2 ρ) (w.ok _ _) (kq hs)⟩
 | _,_=>none
noncomputable def Du (l:Expr) (op:Operator) (m:Expr) (pos:Pos) (s:Sy):Option (UR P (.BinOp l op m pos) s):=ob (r.pu l s) fun a=>ob (r.pu m s) fun b=>match a,b with
 | ⟨.int i,ha⟩,⟨.int j,hb⟩=>(match op with
  | .Add=>some ⟨.int (i+j),fun ρ=>fD (ha ρ) (hb ρ) na⟩
  | .Sub=>some ⟨.int (i - j),fun ρ=>fD (ha ρ) (hb ρ) we⟩
  | .Mod=>gd (!(j==0)) fun h=>some ⟨.int (i.fmod j),fun ρ=>fD (ha ρ) (hb ρ) (qN (by simpa using h))⟩
  | _=>none)
 | _,_=>none
noncomputable def Aj (e:Expr) (s:Sy):Option (UR P e s):=by
 induction e using Expr.casesOn with
 | Constant c k pos=>exact ((match c with
  | .none=>some ⟨.none,fun ρ=>rH⟩
  | .int i=>some ⟨.int i,fun ρ=>dk⟩
  | .str x=>some ⟨.str x.cps.toList,fun ρ=>eS rfl⟩
  | _=>none))
 | Name x pos=>exact (ob (vP O x s) fun v=>(match v with
  | ⟨.av d,h⟩=>some ⟨d,fun ρ=>h ρ pos⟩
  | _=>none))
 | BinOp l op m pos=>exact (Du r l op m pos s)
 | Compare l ops ms pos=>exact (En r l ops ms pos s)
 | BoolOp op es pos=>exact ((match op with
  | .Or=>ob (orU r es s) fun c=>some ⟨.bool c.1,fun ρ=>EG (c.2 ρ)⟩
  | .And=>ob (ET r es s) fun c=>some ⟨.bool c.1,fun ρ=>vX (c.2 ρ)⟩))
 | Tuple es k pos=>exact (ob (DE r es s) fun l=>gd (Nat.ble l.1.length 16777216) fun hz=>some ⟨.tup l.1,fun ρ=>fo (l.2 ρ) (lB0 hz)⟩)
 | _=>exact none
theorem CL {e:Expr} {s:Sy} (u:UR P e s):SV P e s (.av u.1) s:=.of rfl id fun _ ρ=>u.2 ρ
noncomputable def BE (e:Expr) (s:Sy):Option (VR P e s):=ob (r.pu e s) fun u=>some ⟨(.av u.1,s),CL u⟩
noncomputable def evL (es:List Expr):∀ s,Option {p:List DV×Sy // SL P es s p.1 p.2}:=List.rec (fun s=>some ⟨([],s),xe⟩)
 (fun e es ih s=>gd (be e) fun hs=>ob (r.ev e s) fun p=>gd (p.1.1.bel (P.N p.1.2)) fun hb=>ob (ih p.1.2) fun q=>some ⟨(p.1.1::q.1.1,q.1.2),sE hs p.2 hb q.2⟩) es
noncomputable def As (k:Expr):Option {x:Str // ∃ kk kp,some k=some (.Constant (.str x) kk kp)}:=by
 induction k using Expr.casesOn with
 | Constant c kk kp=>
  induction c using Const.casesOn with
  | str x=>exact some ⟨x,kk,kp,rfl⟩
  | _=>exact none
 | _=>exact none
noncomputable def DG (k:Option Expr):Option {x:Str // ∃ kk kp,k=some (.Constant (.str x) kk kp)}:=Option.casesOn k none As
theorem zx {ks:List (Option Expr)} {e:Expr} {es:List Expr} {s s1 s':Sy} {v:DV} {l:List (Str×DV)} {k:Option Expr} (x:{x:Str // ∃ kk kp,k=some (.Constant (.str x) kk kp)}) (a:SV P e s v s1) (hb:v.bel (P.N s1)=true) (b:SD P ks es s1 l s'):SD P (k::ks) (e::es) s ((x.1,v)::l) s':=by
 obtain ⟨x,kk,kp,rfl⟩:=x
 exact uN a hb b
noncomputable def evD (ks:List (Option Expr)):∀ es s,Option {p:List (Str×DV)×Sy // SD P ks es s p.1 p.2}:=List.rec
 (fun es s=>match es with
  | []=>some ⟨([],s),A7⟩
  | _=>none)
 (fun k ks ih es s=>match es with
  | e::es=>ob (DG k) fun x=>ob (r.ev e s) fun p=>gd (p.1.1.bel (P.N p.1.2)) fun hb=>ob (ih es p.1.2) fun q=>some ⟨((x.1,p.1.1)::q.1.1,q.1.2),zx x p.2 hb q.2⟩
  | _=>none) ks
noncomputable def evP (e:Option Expr) (s:Sy):Option {p:DV×Sy // SP P e s p.1 p.2}:=match e with
 | none=>some ⟨(.av .none,s),u7⟩
 | some e=>ob (r.ev e s) fun p=>some ⟨p.1,tW p.2⟩
noncomputable def teA (es:List Expr):∀ s,Option {p:Bool×Sy // SA P .And es s p.1 p.2}:=List.rec (fun s=>some ⟨(true,s),ug⟩)
 (fun e es ih s=>ob (r.te e s) fun p=>match p with
  | ⟨(true,s1),h⟩=>ob (ih s1) fun q=>some ⟨q.1,zi h q.2⟩
  | ⟨(false,s1),h⟩=>some ⟨(false,s1),yv h⟩) es
noncomputable def teO (es:List Expr):∀ s,Option {p:Bool×Sy // SA P .Or es s p.1 p.2}:=List.rec (fun s=>some ⟨(false,s),uI⟩)
 (fun e es ih s=>ob (r.te e s) fun p=>match p with
  | ⟨(true,s1),h⟩=>some ⟨(true,s1),vt h⟩
  | ⟨(false,s1),h⟩=>ob (ih s1) fun q=>some ⟨q.1,xY h q.2⟩) es
noncomputable def exB (ss:List Stmt):∀ s,Option {p:DF×Sy // SB P ss s p.1 p.2}:=List.rec (fun s=>some ⟨(.next,s),x5⟩)
 (fun st ss ih s=>ob (r.ex st s) fun p=>match p with
  | ⟨(.next,s1),h⟩=>ob (ih s1) fun q=>some ⟨q.1,v6 h q.2⟩
  | ⟨(.brk,s1),h⟩=>some ⟨(.brk,s1),xo h⟩
  | ⟨(.cont,s1),h⟩=>some ⟨(.cont,s1),su h⟩
  | ⟨(.ret v,s1),h⟩=>some ⟨(.ret v,s1),wX h⟩) ss
noncomputable def si (e:Expr) (s:Sy):Option (VR P e s):=match s.o with
 | .val k v D::o=>some ⟨(v,s.exE P e k v D o),Ac⟩
 | _=>none
noncomputable def kC (st:Stmt) (s:Sy):Option (XR P st s):=match s.o with
 | .stm k D::o=>some ⟨(.next,s.exS P st k D o),BX⟩
 | _=>none
noncomputable def D4 (g:Addr) (vs:List DV) (s:Sy):Option {p:DV×Sy // SK P g vs s p.1 p.2}:=match s.o with
 | .call k v objs rest m::o=>gd (Nat.ble m P.X.n&&(Nat.beq k 0||qb (P.N s) s.D.loc)) fun h=>some ⟨(v,s.cal P g vs k v objs rest m o),D7 h⟩
 | _=>none
noncomputable def Ct (c:Ce) (vs:List DV) (s:Sy):Option {p:DV×Sy // SC P c.val vs s p.1 p.2}:=match c with
 | .fn g=>ob (D4 g vs s) fun p=>some ⟨p.1,xL p.2⟩
 | .bl b=>ob (Ei b vs s) fun p=>some ⟨p.1,wQ p⟩
noncomputable def EA (o:List c7):Bool:=match o with
 | .br _::_=>true
 | _=>false
structure SO (P:Px) (op:BoolOp) (es:List Expr) (s:Sy) (v:DV) (s':Sy):Prop where
 c:s'.c→s.c
 run:s'.c→∀ as,as.length=s.n→∀ pos (H:HL) (Φ:PV),(∀ w bs,bs.length=s'.n→as <+:bs→Φ w (v.to (P.ρ++bs)) (s'.D.to (P.ρ++bs)))→WV P.X.B P.X.n P.X.L (boolOp pos op (evalEach es P.X.env)) H (s.D.to (P.ρ++as)) Φ
theorem tf {op:BoolOp} {e:Expr} {s s':Sy} {v:DV} (a:SV P e s v s'):SO P op [e] s v s':=⟨a.c,fun c as ha pos H Φ k=>jm (a.run c as ha H Φ k)⟩
theorem yU {op:BoolOp} {e e':Expr} {es:List Expr} {s s1:Sy} {v:DV} (a:SV P e s v s1) (t:RT v s1) (w:RD t.r t.s') (hw:w.b=(op==.Or)):SO P op (e::e'::es) s v w.s':=by
 refine ⟨fun c=>a.c (t.A.c (w.A.c c)),fun c as ha pos H Φ k=>?_⟩
 have hd:w.s'.D=s1.D:=w.A.D.trans t.A.D
 have hn:w.s'.n=s1.n:=w.A.n.trans t.A.n
 rw [hd] at k
 have key:=fun (u:Value) bs (hbl:bs.length=s1.n) pb (hb:t.r.val=w.b)=>k u bs (hbl.trans hn.symm) pb
 induction op using BoolOp.casesOn with
 | Or=>exact qI (a.run (t.A.c (w.A.c c)) as ha H _ fun u bs hbl pb=>(t.ok (w.A.c c) _ _).run _ _ _ hd0 ⟨fun _=>k u bs (hbl.trans hn.symm) pb,fun q=>by rw [w.ok c,hw] at q;exact Bool.noConfusion q⟩)
 | And=>exact lN (a.run (t.A.c (w.A.c c)) as ha H _ fun u bs hbl pb=>(t.ok (w.A.c c) _ _).run _ _ _ hd0 ⟨fun _=>k u bs (hbl.trans hn.symm) pb,fun q=>by rw [w.ok c,hw] at q;exact Bool.noConfusion q⟩)
theorem An {op:BoolOp} {e e':Expr} {es:List Expr} {s s1 s':Sy} {v v':DV} (a:SV P e s v s1) (t:RT v s1) (w:RD t.r t.s') (hw:w.b= !(op==.Or)) (z:SO P op (e'::es) w.s' v' s'):SO P op (e::e'::es) s v' s':=by
 refine ⟨fun c=>a.c (t.A.c (w.A.c (z.c c))),fun c as ha pos H Φ k=>?_⟩
 have c2:=w.A.c (z.c c)
 have hd:w.s'.D=s1.D:=w.A.D.trans t.A.D
 have hn:w.s'.n=s1.n:=w.A.n.trans t.A.n
 have key:=fun (H:HL) bs (hbl:bs.length=s1.n) (pb:as <+:bs)=>z.run c bs (hbl.trans hn.symm) pos H Φ fun w cs hc pc=>k w cs hc (pb.trans pc)
 rw [hd] at key
 induction op using BoolOp.casesOn with
 | Or=>exact qI (a.run (t.A.c c2) as ha H _ fun u bs hbl pb=>(t.ok c2 _ _).run _ _ _ hd0 ⟨(fun q=>by rw [w.ok (z.c c),hw] at q;exact Bool.noConfusion q),fun _=>key H bs hbl pb⟩)
 | And=>exact lN (a.run (t.A.c c2) as ha H _ fun u bs hbl pb=>(t.ok c2 _ _).run _ _ _ hd0 ⟨(fun q=>by rw [w.ok (z.c c),hw] at q;exact Bool.noConfusion q),fun _=>key H bs hbl pb⟩)
theorem vr {op:BoolOp} {es:List Expr} {pos:Pos} {s s':Sy} {v:DV} (a:SO P op es s v s'):SV P (.BoolOp op es pos) s v s':=⟨a.c,fun c as ha H Φ k=>jk (a.run c as ha pos H Φ k)⟩
noncomputable def F3 (op:BoolOp) (b:Bool):Option (Sum (PLift (b=(op==.Or))) (PLift (b= !(op==.Or)))):=match op,b with
 | .Or,true=>some (.inl ⟨rfl⟩)
 | .Or,false=>some (.inr ⟨rfl⟩)
 | .And,true=>some (.inr ⟨rfl⟩)
 | .And,false=>some (.inl ⟨rfl⟩)
noncomputable def Ea (op:BoolOp) (es:List Expr):∀ s,Option {p:DV×Sy // SO P op es s p.1 p.2}:=List.rec (fun _=>none)
 (fun e es ih s=>ob (r.ev e s) fun a=>match es,ih with
  | [],_=>some ⟨a.1,tf a.2⟩
  | _::_,ih=>ob (wI a.1.1 a.1.2) fun t=>ob (tu t.r t.s') fun w=>ob (F3 op w.b) fun o=>match o with
   | .inl h=>some ⟨(a.1.1,w.s'),yU a.2 t w h.1⟩
   | .inr h=>ob (ih w.s') fun z=>some ⟨z.1,An a.2 t w h.1 z.2⟩) es
noncomputable def D0 (o:List c7):Bool:=match o with
 | .val .. ::_=>true
 | _=>false
noncomputable def F7 (v:DV):Option {i:Nat // v=.slot i}:=match v with
 | .slot i=>some ⟨i,rfl⟩
 | _=>none
noncomputable def BO (op:CmpOp) (a b:DV) (s:Sy):Option (RX P op a b s):=match s.o with
 | .cmp c::o=>some ⟨.is c,s.exC P op a b c o,⟨rfl,rfl,And.left⟩,fun h as ha=>fV h.2 as ha P.X rfl⟩
 | _=>ob (Em op a b) fun q=>some ⟨q.r,s,.refl s,fun _ as _=>q.ok _ _ _⟩
noncomputable def tI (l:Expr) (ops:List CmpOp) (ms:List Expr) (pos:Pos) (s:Sy):Option (VR P (.Compare l ops ms pos) s):=match ops,ms with
 | [op],[m]=>gd (eY m) fun hs=>ob (r.ev l s) fun p=>gd (p.1.1.bel (P.N p.1.2)) fun hb=>ob (r.ev m p.1.2) fun q=>ob (BO op p.1.1 q.1.1 q.1.2) fun z=>some ⟨(.av (.bool z.r.val),z.s'),ya hs p.2 hb q.2 z⟩
 | _,_=>BE r _ s
noncomputable def EN (a i:DV) (s:Sy):Option (RY P a i s):=match s.o with
 | .itm d::o=>some ⟨.av d,s.exI P a i d o,⟨rfl,rfl,And.left⟩,fun h as ha=>fV h.2 as ha P.X rfl⟩
 | _=>ob (EC a i s) fun q=>some ⟨q.v,q.s',q.A,fun h as _ e1 e2 hs=>q.ok h _ _ e1 e2 hs⟩
noncomputable def Dt (e:Expr) (lo hi st:Option Expr) (p pos:Pos) (s:Sy):Option (VR P (.Subscript e (.Slice lo hi st p) pos) s):=match st with
 | .none=>ob (r.ev e s) fun a=>(match a with
  | ⟨(.av (.str x),s1),ha⟩=>ob (evP r lo s1) fun b=>(match b with
   | ⟨(.av d1,s2),hb⟩=>ob (evP r hi s2) fun d=>(match d with
    | ⟨(.av d2,s3),hd⟩=>obe (ic d1) fun i e1=>obe (ic d2) fun j e2=>some ⟨(.av (.str (sl x i j)),s3.need (x.length≤16777216)),pO ha hb hd e1 e2⟩
    | _=>none)
   | _=>none)
  | _=>none)
 | _=>none
noncomputable def Eb (e i:Expr) (pos:Pos) (s:Sy):Option (VR P (.Subscript e i pos) s):=gd (bm i) fun hs=>ob (r.ev e s) fun p=>gd (p.1.1.bel (P.N p.1.2)) fun hb=>ob (r.ev i p.1.2) fun q=>ob (EN p.1.1 q.1.1 q.1.2) fun z=>some ⟨(z.v,z.s'),xF hs p.2 hb q.2 z⟩
noncomputable def ul (e i:Expr) (pos:Pos) (s:Sy):Option (VR P (.Subscript e i pos) s):=by
 induction i using Expr.casesOn with
 | Slice lo hi st p=>exact Dt r e lo hi st p pos s
 | _=>exact Eb r e _ pos s
noncomputable def AN (e:Expr) (a:Str) (ap:Pos) (es:List Expr) (pos:Pos) (s:Sy):Option (VR P (.Call (.Attribute e a ap) es [] pos) s):=gd (dU e&&kt be es&&Nat.blt es.length 30&&(ap.endLine==pos.line)) fun hs=>ob (r.ev e s) fun x=>ob (F2 O x.1.1 a x.1.2) fun m=>(match m with
 | .own g i q hf=>gd (Nat.blt i (P.N x.1.2)) fun hi=>ob (evL r es x.1.2) fun b=>ob (D4 g (.slot i::b.1.1) b.1.2) fun w=>some ⟨w.1,wH hs x.2 hi q hf b.2 w.2⟩
 | .cls f q=>gd (x.1.1.bel (P.N x.1.2)) fun hb=>ob (evL r es x.1.2) fun b=>ob (Ct f (x.1.1::b.1.1) b.1.2) fun w=>some ⟨w.1,uP hs x.2 hb q b.2 w.2⟩)
noncomputable def oW (f:Expr) (es:List Expr) (kw:List Keyword) (pos:Pos) (s:Sy):Option (VR P (.Call f es kw pos) s):=match kw with
 | []=>by
  induction f using Expr.casesOn with
  | Attribute e a ap=>exact AN O r e a ap es pos s
  | Name x xp=>exact gd (kt be es) fun hs=>ob (ES O x) fun f=>ob (evL r es s) fun b=>ob (Ct f.1 b.1.1 b.1.2) fun w=>some ⟨w.1,ut hs f.2 b.2 w.2⟩
  | _=>exact si _ s
 | _=>si _ s
theorem fN {c:Const} {d:AV} {k pos} {s:Sy} (h:∀ σ,Ev P.X (.Constant c k pos) σ d σ):SV P (.Constant c k pos) s (.av d) s:=.of rfl id fun _ _=>h _
noncomputable def C1 (c:Const) (k:Nat) (pos:Pos) (s:Sy):Option (VR P (.Constant c k pos) s):=match c with
 | .none=>some ⟨(.av .none,s),fN fun _=>rH⟩
 | .bool b=>some ⟨(.av (.bool b),s),fN fun _=>mc⟩
 | .int i=>some ⟨(.av (.int i),s),fN fun _=>dk⟩
 | .str x=>some ⟨(.av (.str x.cps.toList),s),fN fun _=>eS rfl⟩
 | _=>none
theorem tq {x:Str} {pos:Pos} {s:Sy} (v:NmR P x s):SV P (.Name x pos) s v.1 s:=.of rfl id fun _ ρ=>v.2 ρ pos
theorem tQ {es:List Expr} {pos:Pos} {s s':Sy} {vs:List DV} {l:List AV} (a:SL P es s vs s') (q:fg vs=some l) (hz:Nat.ble l.length 16777216=true):SV P (.List es pos) s (.av (.lst l)) s':=
 ⟨a.c,fun c as ha H Φ k=>nr (a.run c as ha _ _ _ fun ws bs hl hb pb=>by rw [ge q];exact ⟨lB0 hz,fun w=>k w bs hb pb⟩)⟩
theorem EE {es:List Expr} {s s':Sy} {vs:List DV} {o:List c7} (a:SL P es ⟨s.D,s.n,o,s.c⟩ vs s'):SL P es s vs s':=⟨a.c,a.run⟩
theorem qi {pos:Pos} {s:Sy}:SV P (.Dict [] [] pos) s (.av (.dct [])) s:=.of rfl id fun _ _=>uQ
noncomputable def zy (o:List c7):Bool:=match o with
 | .cmp true::_=>true
 | _=>false
noncomputable def Ep (es:List Expr) (pos:Pos) (s:Sy):Option (VR P (.List es pos) s):=ob (evL r es ⟨s.D,s.n,s.o.tail,s.c⟩) fun p=>obe (fg p.1.1) fun l q=>gd (Nat.ble l.length 16777216) fun hz=>some ⟨(.av (.lst l),p.1.2),tQ (EE p.2) q hz⟩
noncomputable def F5 (ks:List (Option Expr)) (es:List Expr) (pos:Pos) (s:Sy):Option (VR P (.Dict ks es pos) s):=match ks,es with
 | [],[]=>some ⟨(.av (.dct []),s),qi⟩
 | ks,es=>ob (evD r ks es s) fun p=>obe (ie p.1.1) fun l q=>gd (cM (l.map (·.1))&&Nat.ble 1 p.1.1.length&&Nat.ble es.length 15) fun hz=>some ⟨(.av (.dct l),p.1.2),sX p.2 q hz⟩
noncomputable def AI (e:Expr) (s:Sy):Option (VR P e s):=by
 induction e using Expr.casesOn with
 | Constant c k pos=>exact (C1 c k pos s)
 | Name x pos=>exact (ob (vP O x s) fun v=>some ⟨(v.1,s),tq v⟩)
 | Attribute e a pos=>exact (gd (dU e) fun hs=>ob (r.ev e s) fun p=>(match p with
  | ⟨(.slot i,s1),h⟩=>ob (Bv P.K i a s1) fun g=>some ⟨(g.v,s1),tZ O hs h g⟩
  | _=>none))
 | Compare l ops ms pos=>exact (tI r l ops ms pos s)
 | BinOp l op m pos=>exact (ob (r.ev l s) fun p=>gd (p.1.1.bel (P.N p.1.2)) fun hb=>ob (r.ev m p.1.2) fun q=>ob (ui op p.1.1 q.1.1 q.1.2) fun z=>some ⟨(z.v,z.s'),zR p.2 hb q.2 z⟩)
 | UnaryOp op e pos=>exact ((match op with
  | .Not=>ob (r.ev e s) fun p=>ob (wI p.1.1 p.1.2) fun t=>some ⟨(.av (.bool !t.r.val),t.s'),zX p.2 t⟩
  | .USub=>ob (r.ev e s) fun p=>(match p with
   | ⟨(.av (.int i),s1),h⟩=>some ⟨(.av (.int (-i)),s1),y6 h⟩
   | _=>none)
  | _=>none))
 | IfExp t x y pos=>exact (ob (r.te t s) fun p=>(match p with
  | ⟨(true,s1),h⟩=>ob (r.ev x s1) fun w=>some ⟨w.1,z5 h w.2⟩
  | ⟨(false,s1),h⟩=>ob (r.ev y s1) fun w=>some ⟨w.1,zK h w.2⟩))
 | Tuple es k pos=>exact (ob (evL r es s) fun p=>obe (fg p.1.1) fun l q=>gd (Nat.ble l.length 16777216) fun hz=>some ⟨(.av (.tup l),p.1.2),wZ p.2 q hz⟩)
 | List es pos=>exact (Bool.casesOn (zy s.o) (ob (evL r es s) fun p=>gd (Nat.ble p.1.1.length 16777216&&p.1.1.all (DV.bel (P.N p.1.2))&&p.1.2.D.bel (P.N p.1.2)) fun hz=>some ⟨(.slot (P.N p.1.2),p.1.2.new P (.list [] p.1.1)),tp p.2 hz⟩) (Ep r es pos s))
 | Dict ks es pos=>exact (F5 r ks es pos s)
 | Subscript e i pos=>exact (ul r e i pos s)
 | BoolOp op es pos=>exact (Bool.casesOn (EA s.o) (BE r (.BoolOp op es pos) s) (ob (Ea r op es s) fun p=>some ⟨p.1,vr p.2⟩))
 | Call f es kw pos=>exact (Bool.casesOn (D0 s.o) (oW O r f es kw pos s) (si _ s))
 | _=>exact si _ s
noncomputable def Dj (e:Expr) (s:Sy):Option (TR P e s):=gd (pF e) fun hs=>ob (r.ev e s) fun p=>ob (wI p.1.1 p.1.2) fun t=>ob (tu t.r t.s') fun w=>some ⟨(w.b,w.s'),A4 hs p.2 t w⟩
theorem uf {l m x:Expr} {op op':CmpOp} {pos:Pos} {s:Sy} (hs:eY x=true) (a:UR P l s) (b:UR P m s) (y:UR P x s) (z:RA op a.1 b.1) (w:RA op' b.1 y.1) (d:RD (.is (z.r.val&&w.r.val)) s):ST P (.Compare l [op,op'] [m,x] pos) s d.b d.s':=
 ⟨d.A.c,fun c as ha H Φ k=>lF ((a.2 _).run _ _ fun _=>(b.2 _).run _ _ fun _=>(z.ok _ _).run _ _ _ _ hd1 hd0 fun _=>⟨_,rfl,_,(y.2 _).run _ _ fun _=>(w.ok _ _).run _ _ _ _ hd1 hd0 fun _=>⟨rfl,rfl⟩,by
  have e:(z.r.val&&w.r.val)=d.b:=d.ok c
  have k':=k as (ha.trans d.A.n.symm) (List.prefix_refl _)
  rw [d.A.D,←e] at k'
  exact k'⟩) (kq hs)⟩
noncomputable def Ez (l:Expr) (ops:List CmpOp) (ms:List Expr) (pos:Pos) (s:Sy):Option (TR P (.Compare l ops ms pos) s):=match ops,ms with
 | [op],[m]=>gd (eY m) fun hs=>ob (r.ev l s) fun p=>gd (p.1.1.bel (P.N p.1.2)) fun hb=>ob (r.ev m p.1.2) fun q=>ob (BO op p.1.1 q.1.1 q.1.2) fun z=>ob (tu z.r z.s') fun w=>some ⟨(w.b,w.s'),zZ hs p.2 hb q.2 z w⟩
 | [op,op'],[m,x]=>gd (eY x) fun hs=>ob (r.pu l s) fun a=>ob (r.pu m s) fun b=>ob (r.pu x s) fun y=>ob (nK op a.1 b.1) fun z=>ob (nK op' b.1 y.1) fun w=>ob (tu (.is (z.r.val&&w.r.val)) s) fun d=>some ⟨(d.b,d.s'),uf hs a b y z w d⟩
 | _,_=>none
noncomputable def CE (op:BoolOp) (es:List Expr) (pos:Pos) (s:Sy):Option (TR P (.BoolOp op es pos) s):=match es with
 | e::es=>(match op with
  | .And=>ob (teA r (e::es) s) fun p=>some ⟨p.1,zN p.2⟩
  | .Or=>ob (teO r (e::es) s) fun p=>some ⟨p.1,C8 p.2⟩)
 | _=>none
noncomputable def Cz (e:Expr) (s:Sy):Option (TR P e s):=by
 induction e using Expr.casesOn with
 | UnaryOp op e pos=>exact ((match op with
  | .Not=>ob (r.te e s) fun p=>some ⟨(!p.1.1,p.1.2),xu p.2⟩
  | op=>Dj r (.UnaryOp op e pos) s))
 | BoolOp op es pos=>exact (CE r op es pos s)
 | Compare l ops ms pos=>exact (Ez r l ops ms pos s)
 | _=>exact Dj r _ s
noncomputable def uj (t:Expr) (v:DV) (s:Sy):Option (GR P t v s):=by
 induction t using Expr.casesOn with
 | Name x p=>exact (Bool.casesOn (motive:=fun b=>iU (P.X.env.kindOf x)=b→Option (GR P (.Name x p) v s)) (iU (P.X.env.kindOf x)) (fun _=>gd (gE (P.X.env.kindOf x)) fun hl=>obe (ow x v s.D.loc) fun l q=>some ⟨_,u9 O hl q⟩)
  (fun hl=>obe (cy x P.cl) fun i e0=>obe (aV i s.D.objs) fun o q=>match o,q with
   | .cell w,q=>some ⟨_,uJ O hl e0 q⟩
   | _,_=>none) rfl)
 | Attribute e a p=>exact (ob (r.ev e s) fun h=>gd (Nat.beq h.1.2.n s.n) fun hn=>(match h,hn with
  | ⟨(.slot i,s1),h⟩,hn=>ob (D9 P.K i a v s1) fun q=>some ⟨s1.objs q.l,vf O h hn q⟩
  | _,_=>none))
 | _=>exact none
noncomputable def Dy (o i e:Expr) (p pos:Pos) (s:Sy):Option (XR P (.Assign [.Subscript o i p] e pos) s):=gd (dG e) fun hs=>ob (r.ev e s) fun a=>gd (a.1.1.bel (P.N a.1.2)) fun hb1=>ob (r.ev o a.1.2) fun b=>gd (b.1.1.bel (P.N b.1.2)) fun hb2=>ob (r.ev i b.1.2) fun d=>ob (CW b.1.1 d.1.1 a.1.1 d.1.2) fun q=>some ⟨(.next,d.1.2.objs q.l),t8 hs a.2 hb1 b.2 hb2 d.2 q⟩
noncomputable def Es (t1 t2:Expr) (kk:Nat) (p:Pos) (e:Expr) (pos:Pos) (s:Sy):Option (XR P (.Assign [.Tuple [t1,t2] kk p] e pos) s):=gd (dG e&&pH e&&be t1&&be t2) fun hs=>ob (r.ev e s) fun a=>match a with
 | ⟨(.av (.tup [d1,d2]),s1),h⟩=>ob (uj O r t1 (.av d1) s1) fun b=>ob (uj O r t2 (.av d2) b.1) fun d=>some ⟨(.next,d.1),sS hs h b.2 d.2⟩
 | _=>none
noncomputable def El (t:Expr) (ks:List (Option Expr)) (es:List Expr) (dp pos:Pos) (s:Sy):Option (XR P (.Assign [t] (.Dict ks es dp) pos) s):=ob (evD r ks es s) fun p=>gd (cM (p.1.1.map (·.1))&&Nat.ble 1 p.1.1.length&&Nat.ble es.length 15&&(p.1.1.all fun q=>q.2.bel (P.N p.1.2))&&p.1.2.D.bel (P.N p.1.2)) fun hz=>ob (uj O r t (.slot (P.N p.1.2)) (p.1.2.new P (.dict p.1.1))) fun b=>some ⟨(.next,b.1),un p.2 hz b.2⟩
noncomputable def Eg (t e:Expr) (pos:Pos) (s:Sy):Option (XR P (.Assign [t] e pos) s):=gd (dG e) fun hs=>ob (r.ev e s) fun a=>ob (uj O r t a.1.1 a.1.2) fun b=>some ⟨(.next,b.1),zk hs a.2 b.2⟩
noncomputable def Eo (t e:Expr) (pos:Pos) (s:Sy):Option (XR P (.Assign [t] e pos) s):=by
 induction e using Expr.casesOn with
 | Dict ks es dp=>exact El O r t ks es dp pos s
 | ListComp=>exact kC _ s
 | _=>exact Eg O r t _ pos s
noncomputable def EP (t e:Expr) (pos:Pos) (s:Sy):Option (XR P (.Assign [t] e pos) s):=by
 induction t using Expr.casesOn with
 | Tuple ts kk p=>exact (match ts with
  | [t1,t2]=>Es O r t1 t2 kk p e pos s
  | _=>kC _ s)
 | Subscript o i p=>exact Dy r o i e p pos s
 | _=>exact Eo O r _ e pos s
noncomputable def Dr (ts:List Expr) (e:Expr) (pos:Pos) (s:Sy):Option (XR P (.Assign ts e pos) s):=match ts with
 | [t]=>EP O r t e pos s
 | _=>kC _ s
noncomputable def E4 (t:Expr) (op:Operator) (e:Expr) (pos:Pos) (s:Sy):Option (XR P (.AugAssign t op e pos) s):=by
 induction t using Expr.casesOn with
 | Name x p=>exact (gd (gE (P.X.env.kindOf x)) fun hl=>obe (two (cy x s.D.loc)) fun a e0=>gd (a.bel (P.N s)) fun hb=>ob (r.ev e s) fun h=>ob (ui op a h.1.1 h.1.2) fun z=>obe (ow x z.v z.s'.D.loc) fun l q=>some ⟨(.next,_),zY O hl e0 hb h.2 z q⟩)
 | Attribute o a p=>exact (ob (r.ev o s) fun h=>(match h with
  | ⟨(.slot i,s1),h⟩=>gd (Nat.blt i (P.N s1)) fun hi=>ob (Bv P.K i a s1) fun g=>gd (g.v.bel (P.N s1)) fun hx=>ob (r.ev e s1) fun b=>ob (ui op g.v b.1.1 b.1.2) fun z=>ob (D9 P.K i a z.v z.s') fun q=>some ⟨(.next,z.s'.objs q.l),uL O h hi g hx b.2 z q⟩
  | _=>none))
 | Subscript o i p=>exact (gd (bm i) fun hs=>ob (r.ev o s) fun a=>gd (a.1.1.bel (P.N a.1.2)) fun hb1=>ob (r.ev i a.1.2) fun b=>gd (b.1.1.bel (P.N b.1.2)) fun hb2=>ob (EW a.1.1 b.1.1 b.1.2) fun g=>gd (g.v.bel (P.N b.1.2)) fun hx=>ob (r.ev e b.1.2) fun d=>ob (ui op g.v d.1.1 d.1.2) fun z=>ob (CW a.1.1 b.1.1 z.v z.s') fun q=>some ⟨(.next,z.s'.objs q.l),uW hs a.2 hb1 b.2 hb2 g hx d.2 z q⟩)
 | _=>exact none
noncomputable def EM (t:Expr) (body:List Stmt) (k:Nat):∀ s:Sy,Option {s':Sy // SW P t body s s'}:=Nat.rec (fun _=>none)
 (fun _ ih s=>ob (r.te t s) fun p=>match p with
  | ⟨(false,s1),h⟩=>some ⟨s1,xA h⟩
  | ⟨(true,s1),h⟩=>ob (exB r body s1) fun w=>match w with
   | ⟨(.next,s2),b⟩=>ob (ih s2) fun z=>some ⟨z.1,wn (.inl rfl) h b z.2⟩
   | ⟨(.cont,s2),b⟩=>ob (ih s2) fun z=>some ⟨z.1,wn (.inr rfl) h b z.2⟩
   | ⟨(.brk,s2),b⟩=>some ⟨s2,x2 h b⟩
   | _=>none) k
noncomputable def rt (o:List c7):Bool:=match o with
 | .stm .. ::_=>true
 | _=>false
noncomputable def F0 (t:Expr) (body orelse:List Stmt) (pos:Pos) (s:Sy):Option (XR P (.While t body orelse pos) s):=match orelse with
 | []=>Bool.casesOn (rt s.o) (ob (EM r t body 20 s) fun z=>some ⟨(.next,z.1),qx z.2⟩) (kC _ s)
 | _=>kC _ s
noncomputable def Bo (st:Stmt) (s:Sy):Option (XR P st s):=by
 induction st using Stmt.casesOn with
 | Pass _=>exact (some ⟨(.next,s),uK⟩)
 | Break _=>exact (some ⟨(.brk,s),yy⟩)
 | Continue _=>exact (some ⟨(.cont,s),uS⟩)
 | Return o _=>exact ((match o with
  | none=>some ⟨(.ret (.av .none),s),tD⟩
  | some e=>ob (r.ev e s) fun p=>some ⟨(.ret p.1.1,p.1.2),wF p.2⟩))
 | If t x y _=>exact (Bool.casesOn (rt s.o) (ob (r.te t s) fun p=>(match p with
  | ⟨(true,s1),h⟩=>ob (exB r x s1) fun w=>some ⟨w.1,xC h w.2⟩
  | ⟨(false,s1),h⟩=>ob (exB r y s1) fun w=>some ⟨w.1,zd h w.2⟩)) (kC _ s))
 | Expr e _=>exact (gd (dG e) fun hs=>ob (r.ev e s) fun p=>some ⟨(.next,p.1.2),vp O hs p.2⟩)
 | Assert t _ _=>exact (ob (r.te t s) fun p=>(match p with
  | ⟨(true,s1),h⟩=>some ⟨(.next,s1),nG h⟩
  | _=>none))
 | Assign ts e pos=>exact (Bool.casesOn (rt s.o) (Dr O r ts e pos s) (kC _ s))
 | AugAssign t op e pos=>exact (E4 O r t op e pos s)
 | While t body orelse pos=>exact (F0 r t body orelse pos s)
 | _=>exact kC _ s
end
noncomputable def eX {P:Px} (O:cO P) (k:Nat):Fns P:=Nat.rec ⟨fun _ _=>none,fun _ _=>none,fun _ _=>none,fun _ _=>none⟩ (fun _ r=>⟨Aj O r,AI O r,Cz r,Bo O r⟩) k
noncomputable def oi {P:Px} (O:cO P) (ss:List Stmt) (D:DS) (hints:List c7):Option (DF×Sy):=ob (exB (eX O 60) ss ⟨D,0,hints,True⟩) fun p=>some p.1
noncomputable def uo {P:Px} (O:cO P) (e:Expr) (D:DS) (hints:List c7):Option (Bool×Sy):=ob ((eX O 60).te e ⟨D,0,hints,True⟩) fun p=>some p.1
noncomputable def sU {P:Px} (O:cO P) (e:Expr) (D:DS) (hints:List c7):Option (DV×Sy):=ob ((eX O 60).ev e ⟨D,0,hints,True⟩) fun p=>some p.1
theorem kj {P:Px} (O:cO P) {ss:List Stmt} {D D':DS} {hints o:List c7} {q:Prop} {k:Nat} {f:DF} (hq:q) (e:oi O ss D hints=some (f,⟨D',k,o,q⟩)):bg P.X ss (D.to P.ρ) fun fl σ'=>exX k fun bs=>fl=f.to (P.ρ++bs)∧σ'=D'.to (P.ρ++bs):=by
 unfold oi at e
 induction h:exB (eX O 60) ss ⟨D,0,hints,True⟩ using Option.casesOn with
 | none=>rw [h] at e;contradiction
 | some p=>
  rw [h] at e
  obtain ⟨⟨f',s'⟩,w⟩:=p
  cases e
  exact ⟨fun H Φ k=>List.append_nil P.ρ▸w.run hq [] rfl H Φ fun bs hl _=>k _ _ (pX hl ⟨rfl,rfl⟩)⟩
theorem iN {P:Px} (O:cO P) {ss:List Stmt} {D D':DS} {hints o:List c7} {q:Prop} {f:DF} (hq:q) (e:oi O ss D hints=some (f,⟨D',0,o,q⟩)):ExB P.X ss (D.to P.ρ) (f.to P.ρ) (D'.to P.ρ):=
 ⟨fun H Φ k=>(kj O hq e).run H Φ fun fl σ' h=>by
  obtain ⟨h1,h2⟩:fl=f.to (P.ρ++[])∧σ'=D'.to (P.ρ++[]):=h
  rw [List.append_nil] at h1 h2
  rw [h1,h2];exact k⟩
theorem kU {P:Px} (O:cO P) {e:Expr} {D D':DS} {hints o:List c7} {q:Prop} {b:Bool} (hq:q) (h:uo O e D hints=some (b,⟨D',0,o,q⟩)):Te P.X e (D.to P.ρ) b (D'.to P.ρ):=by
 unfold uo at h
 induction h':(eX O 60).te e ⟨D,0,hints,True⟩ using Option.casesOn with
 | none=>rw [h'] at h;contradiction
 | some p=>
  rw [h'] at h
  obtain ⟨⟨b',s'⟩,w⟩:=p
  cases h
  exact ⟨fun H Φ k=>List.append_nil P.ρ▸w.run hq [] rfl H Φ fun bs hl _=>List.eq_nil_of_length_eq_zero hl▸(List.append_nil P.ρ).symm▸k⟩
theorem ko {P:Px} (O:cO P) {e:Expr} {D D':DS} {hints o:List c7} {q:Prop} {v:DV} (hq:q) (h:sU O e D hints=some (v,⟨D',0,o,q⟩)):Ev P.X e (D.to P.ρ) (v.to P.ρ) (D'.to P.ρ):=by
 unfold sU at h
 induction h':(eX O 60).ev e ⟨D,0,hints,True⟩ using Option.casesOn with
 | none=>rw [h'] at h;contradiction
 | some p=>
  rw [h'] at h
  obtain ⟨⟨b',s'⟩,w⟩:=p
  cases h
  exact ⟨fun H Φ k=>List.append_nil P.ρ▸w.run hq [] rfl H Φ fun u bs hl _=>List.eq_nil_of_length_eq_zero hl▸(List.append_nil P.ρ).symm▸k u⟩
structure Out where
 c:Prop
 k:Nat
 v:DV
 objs:List (Nat×DO)
 rest:OL
noncomputable def q5 (f:DF) (s:Sy):Option Out:=match f with
 | .ret v=>some ⟨s.c,s.n,v,s.D.objs,s.D.rest⟩
 | .next=>some ⟨s.c,s.n,.av .none,s.D.objs,s.D.rest⟩
 | _=>none
noncomputable def o8 (ps:List Str) (ds:List DV) (xs:List Str):List (Str×Option DV):=(ps.zip ds).map (fun p=>(p.1,some p.2))++xs.map (·,none)
theorem vn {ρ:List Addr} {xs:List Str} {ps:List Str}:∀ {ds:List DV},cP ρ (o8 ps ds xs)=bT ps (tos ρ ds)++bare xs:=by
 have hb:cP ρ (xs.map (·,none))=bare xs:=by rw [cP,List.map_map];rfl
 induction ps with
 | nil=>exact hb
 | cons p ps ih=>
  intro ds
  induction ds using List.casesOn with
  | nil=>exact hb
  | cons d ds=>exact congrArg (List.cons _) ih
noncomputable def ku (scope:Scope):Bool:=(match scope.kind with | .function=>true | _=>false)&& !scope.isCoroutine&& !scope.isGenerator
noncomputable def fW (scope:Scope):Bool:=scope.names.all fun x=>match x.2 with | .cell=>false | _=>true
theorem d8 {scope:Scope} (h:ku scope=true):scope.kind=.function∧scope.isCoroutine=false∧scope.isGenerator=false:=by
 have h1:=aj (aj h)
 refine ⟨?_,by simpa using au (aj h),by simpa using au h⟩
 cases q:scope.kind<;>first | rfl | (rw [q] at h1;exact Bool.noConfusion h1)
theorem lY {scope:Scope} (h:fW scope=true):∀ x∈scope.names,x.2≠.cell:=fun x hx e=>by
 have:=List.all_eq_true.mp h x hx
 rw [e] at this
 exact Bool.noConfusion this
theorem vc {α:Type u} {β:Type v} {o:Option α} {f:α→Option β} {y:β} (e:ob o f=some y):∃ x,f x=some y:=by
 induction o using Option.casesOn with
 | none=>exact nomatch e
 | some x=>exact ⟨x,e⟩
theorem uR {fl:DF} {s:Sy} {o:Out} (e:q5 fl s=some o):(fl=.ret o.v∨fl=.next∧.av .none=o.v)∧o.c=s.c∧s.n=o.k∧s.D.objs=o.objs∧s.D.rest=o.rest:=by
 cases fl with
 | ret v=>cases Option.some.inj e;exact ⟨.inl rfl,rfl,rfl,rfl,rfl⟩
 | next=>cases Option.some.inj e;exact ⟨.inr ⟨rfl,rfl⟩,rfl,rfl,rfl,rfl⟩
 | brk=>exact nomatch e
 | cont=>exact nomatch e
theorem wC {ρ:List Addr} {a b:List (Nat×DO)} {r r':OL} (e1:a=b) (e2:r=r'):a2 ρ r a=a2 ρ r' b:=by rw [e1,e2]
theorem B0 {B:a5} {n:Nat} {name qual:Str} {params:Arguments} {body:List Stmt} {scope:Scope} {dV kV doc pm cdv ct oc:Value} {an od:Option Addr} {osl:Array (Option Value)} {f:Addr} {args:List AV} {Φ:AV→OL→Prop} {objs:OL} {K:Frag} {gl:List (Addr×AV)}
 {u :Out} (ps xs:List Str) (ρ:List Addr) (ds:List DV) (os:List (Nat×DO)) (rest:OL) (hints:List c7)
 (hK:B.K=K) (hgl:∀ p∈gl,aS B (.ref p.1) p.2) (ho:K.lookup f=some ⟨oc,od,.func (fnOf name qual params body scope dV kV doc pm an cdv ct),osl⟩)
 (hb:b8 B (fnOf name qual params body scope dV kV doc pm an cdv ct) ps args (tos ρ ds)) (hq:u.c) (hΦ:∀ d o,exX u.k (fun bs=>d=u.v.to (ρ++bs)∧o=a2 (ρ++bs) u.rest u.objs)→Φ d o)
 (ck:(codeIn K cdv qual&&fW scope&&cM (ps++xs)&&ps.all (fun y=>scope.names.lookup y==some .local)&&Nat.beq ps.length ds.length)=true) (fu:ku scope=true) (eo:a2 ρ rest os=objs)
 (e :∀ L,(ob (exB (eX (P:=⟨⟨B,n,L,envOf qual scope L f cdv⟩,K,ρ,gl,[]⟩) ⟨hK,(d8 fu).1,rfl,rfl,rfl,hgl,nofun⟩ 60) body ⟨⟨o8 ps ds xs,os,rest⟩,0,hints,True⟩) fun p=>q5 p.1.1 p.1.2)=some u):a4 B (n+1) f args objs Φ:=by
 subst eo hK
 refine uO ps xs ho (aj (aj (aj (aj ck)))) hb (fun L=>?_) rfl rfl vn.symm ?_ (bf (au (aj (aj ck)))) (au (aj ck)) (d8 fu).2.1 (d8 fu).2.2 (d8 fu).1 (lY (au (aj (aj (aj ck)))))
 · obtain ⟨p,e⟩:=vc (e L)
   have z:=uR e
   show WF B n L (execs body (envOf qual scope L f cdv)) [] (DS.to ρ ⟨o8 ps ds xs,os,rest⟩) _
   rw [←List.append_nil ρ]
   refine p.2.run (z.2.1▸hq) [] rfl [] _ fun bs hl _=>?_
   have w:=fun d (h:d=u.v.to (ρ++bs))=>hΦ d _ (pX (hl.trans z.2.2.1) ⟨h,wC z.2.2.2.1 z.2.2.2.2⟩)
   rcases z.1 with h | h
   · rw [h];exact w _ rfl
   · rw [h.1];exact w _ (congrArg (DV.to (ρ++bs)) h.2)
 · rw [tos,List.length_map];exact Nat.eq_of_beq_eq_true (au ck)
theorem il {B:a5} {n:Nat} {name qual:Str} {params:Arguments} {body:List Stmt} {scope:Scope} {dV kV doc pm cdv ct oc:Value} {an od:Option Addr} {osl:Array (Option Value)} {f:Addr} {args:List AV} {Φ:AV→OL→Prop} {objs:OL} {K:Frag} {gl:List (Addr×AV)}
 {k:Nat} {v:DV} {objs':List (Nat×DO)} {rest':OL} {q:Prop} (ps xs:List Str) (ρ:List Addr) (ds:List DV) (os:List (Nat×DO)) (rest:OL) (hints:List c7)
 (hK:B.K=K) (hgl:∀ p∈gl,aS B (.ref p.1) p.2) (ho:K.lookup f=some ⟨oc,od,.func (fnOf name qual params body scope dV kV doc pm an cdv ct),osl⟩)
 (hb:b8 B (fnOf name qual params body scope dV kV doc pm an cdv ct) ps args (tos ρ ds)) (hq:q) (hΦ:∀ d o,exX k (fun bs=>d=v.to (ρ++bs)∧o=a2 (ρ++bs) rest' objs')→Φ d o)
 (ck:(codeIn K cdv qual&&fW scope&&cM (ps++xs)&&ps.all (fun y=>scope.names.lookup y==some .local)&&Nat.beq ps.length ds.length)=true) (fu:ku scope=true) (eo:a2 ρ rest os=objs)
 (e:∀ L,(ob (exB (eX (P:=⟨⟨B,n,L,envOf qual scope L f cdv⟩,K,ρ,gl,[]⟩) ⟨hK,(d8 fu).1,rfl,rfl,rfl,hgl,nofun⟩ 60) body ⟨⟨o8 ps ds xs,os,rest⟩,0,hints,True⟩) fun p=>q5 p.1.1 p.1.2)=some ⟨q,k,v,objs',rest'⟩):a4 B (n+1) f args objs Φ:=
 B0 (u:=⟨q,k,v,objs',rest'⟩) ps xs ρ ds os rest hints hK hgl ho hb hq hΦ ck fu eo e
end
end
section
set_option genInjectivity false
variable {X:Cx} {cl:List (Str×Nat)} {σ σ':St} {t:Expr} {st:Stmt}
structure IsB (B:a5):Prop where
 K:B.K=dR B.P
noncomputable def nV:FL:=[("Doctype",.int 0),("Characters",.int 1),("SpaceCharacters",.int 2),("StartTag",.int 3),("EndTag",.int 4),("EmptyTag",.int 5),("Comment",.int 6),("ParseError",.int 7)]
theorem nj (hB:IsB B):aS B (.ref 48) (.dct nV):=by
 obtain ⟨es,m,h,ok,e⟩:∃ es m,B.K.lookup 48=some (dictOf es m)∧jt B.P es∧fC es=nV:=by
  rw [hB.K]
  refine ⟨_,_,rfl,?_,rfl⟩
  exact ⟨⟨_,_,rfl,rfl⟩,⟨_,_,rfl,rfl⟩,⟨_,_,rfl,rfl⟩,⟨_,_,rfl,rfl⟩,⟨_,_,rfl,rfl⟩,⟨_,_,rfl,rfl⟩,⟨_,_,rfl,rfl⟩,⟨_,_,rfl,rfl⟩,trivial⟩
 exact qH h ok e (bf (by kernel_rfl))
noncomputable def ar:List (List Nat):=[[9],[10],[12],[32],[13]]
theorem m9 (hB:IsB B):aS B (.ref 22) (.tup (ar.map .str)):=ii (by rw [hB.K];rfl) rfl
noncomputable def aX:List (List Nat):=((List.range' 97 26)++(List.range' 65 26)).map fun c=>[c]
theorem kJ (hB:IsB B):aS B (.ref 27) (.tup (aX.map .str)):=ii (by rw [hB.K];rfl) rfl
noncomputable def Cq:List AV:=[.int 3,.int 4,.int 5]
theorem oQ {B:a5} (hB:IsB B):aS B (.ref 49) (.tup Cq):=ii (by rw [hB.K];rfl) rfl
noncomputable abbrev glT:List (Addr×AV):=[(48,.dct nV),(22,.tup (ar.map .str)),(27,.tup (aX.map .str)),(49,.tup Cq)]
theorem d6 (hB:IsB B):∀ p∈glT,aS B (.ref p.1) p.2:=by
 intro p hp
 rcases mC0 hp with rfl | hp
 · exact nj hB
 rcases mC0 hp with rfl | hp
 · exact m9 hB
 rcases mC0 hp with rfl | hp
 · exact kJ hB
 rcases mC0 hp with rfl | hp
 · exact oQ hB
 contradiction
theorem b8.four {fd:FuncData} {p1 p2 p3 p4:Str} {d1 d2 d3 d4:AV} (h:∀ v1 v2 v3 v4,bindArgs fd ⟨[v1,v2,v3,v4],[]⟩=pure [(p1,v1),(p2,v2),(p3,v3),(p4,v4)]):b8 B fd [p1,p2,p3,p4] [d1,d2,d3,d4] [d1,d2,d3,d4]:=fun F s vs hv _ _=>by
 obtain ⟨v1,v2,v3,v4,rfl,q1,q2,q3,q4⟩:=Ds hv;exact ⟨_,.cons q1 (.cons q2 (.cons q3 (.cons q4 .nil))),.of_eq (h _ _ _ _)⟩
noncomputable def bM (B:a5) (m:Nat) (f:Addr) (args:List AV) (d:AV):Prop:=∀ objs,a4 B m f args objs fun d' o=>d'=d∧o=objs
theorem gp:aS B .none .none:=fun _ _=>.none
theorem mr:aS B (.bool false) (.bool false):=fun _ _=>.bool _
theorem qa {a b:Prop} (h:a) (k:b):a∧b:=⟨h,k⟩
theorem tt:true=true:=rfl
theorem ff:false=false:=rfl
section
variable {B:a5} {n:Nat} {name qual:Str} {params:Arguments} {body:List Stmt} {scope:Scope} {dV kV doc pm cdv ct oc:Value} {an od:Option Addr} {osl:Array (Option Value)} {f:Addr} {args:List AV} {objs:OL} {q:Prop}
theorem d9 {objs':OL} {d:AV} (ps xs:List Str) (ρ:List Addr) (ds:List DV) (os:List (Nat×DO)) (rest:OL) (hints:List c7) (v:DV) (os':List (Nat×DO)) (rest':OL) (hB:IsB B)
 (ho:(dR B.P).lookup f=some ⟨oc,od,.func (fnOf name qual params body scope dV kV doc pm an cdv ct),osl⟩) (hb:b8 B (fnOf name qual params body scope dV kV doc pm an cdv ct) ps args (tos ρ ds)) (hq:q)
 (eo:autoParam (a2 ρ rest os=objs) bK) (e1:autoParam (v.to ρ=d) bK) (e2:autoParam (a2 ρ rest' os'=objs') bK)
 (ck:autoParam ((codeIn (dR B.P) cdv qual&&fW scope&&cM (ps++xs)&&ps.all (fun y=>scope.names.lookup y==some .local)&&Nat.beq ps.length ds.length)=true) bK) (fu:autoParam (ku scope=true) bK)
 (e:∀ L,(ob (exB (eX (P:=⟨⟨B,n,L,envOf qual scope L f cdv⟩,dR B.P,ρ,glT,[]⟩) ⟨hB.K,(d8 fu).1,rfl,rfl,rfl,d6 hB,nofun⟩ 60) body ⟨⟨o8 ps ds xs,os,rest⟩,0,hints,True⟩) fun p=>q5 p.1.1 p.1.2)=some ⟨q,0,v,os',rest'⟩:=by intro L;kernel_rfl):
 a4 B (n+1) f args objs fun d' o=>d'=d∧o=objs':=by
 subst e1 e2
 exact il ps xs ρ ds os rest hints hB.K (d6 hB) ho hb hq (k:=0) (v:=v) (objs':=os') (rest':=rest') (fun d o (h:d=v.to (ρ++[])∧o=a2 (ρ++[]) rest' os')=>by rw [List.append_nil] at h;exact h) ck fu eo e
end
theorem pxo {K:Frag} {ρ:List Addr} (hB:IsB X.B) (hK:autoParam (K=dR X.B.P) bR) (h1:autoParam (X.env.scope.kind=.function) bK) (h2:autoParam (X.env.locals=X.L) bR) (h3:autoParam (X.env.globals=mainGlobals) bR) (h4:autoParam (X.env.builtins=builtinsNs) bR):cO ⟨X,K,ρ,glT,[]⟩:=⟨hB.K.trans hK.symm,h1,h2,h3,h4,d6 hB,nofun⟩
theorem pxc {K:Frag} {ρ:List Addr} (hB:IsB X.B) (hc:∀ x i,cy x cl=some i→X.env.cells.lookup x=some (aB ρ i)∧i < ρ.length) (hK:autoParam (K=dR X.B.P) bR) (h1:autoParam (X.env.scope.kind=.function) bK) (h2:autoParam (X.env.locals=X.L) bR) (h3:autoParam (X.env.globals=mainGlobals) bR) (h4:autoParam (X.env.builtins=builtinsNs) bR):cO ⟨X,K,ρ,glT,cl⟩:=⟨hB.K.trans hK.symm,h1,h2,h3,h4,d6 hB,hc⟩
theorem aE {ss:List Stmt} {f:Fl} (ρ:List Addr) (D D':DS) (hints:List c7) (fd:DF) (O:cO ⟨X,dR X.B.P,ρ,glT,cl⟩) (hq:q) (h1:autoParam (D.to ρ=σ) bK) (h2:autoParam (D'.to ρ=σ') bK) (h3:autoParam (fd.to ρ=f) bK)
 (e:autoParam (oi O ss D hints=some (fd,⟨D',0,[],q⟩)) bK):ExB X ss σ f σ':=by
 subst h1 h2 h3
 exact iN O hq e
theorem dN {b:Bool} (ρ:List Addr) (D D':DS) (hints:List c7) (O:cO ⟨X,dR X.B.P,ρ,glT,cl⟩) (hq:q) (h1:autoParam (D.to ρ=σ) bK) (h2:autoParam (D'.to ρ=σ') bK)
 (e:autoParam (uo O t D hints=some (b,⟨D',0,[],q⟩)) bK):Te X t σ b σ':=by
 subst h1 h2
 exact kU O hq e
theorem jU {d:AV} (ρ:List Addr) (D D':DS) (hints:List c7) (v:DV) (O:cO ⟨X,dR X.B.P,ρ,glT,cl⟩) (hq:q) (h1:autoParam (D.to ρ=σ) bK) (h2:autoParam (D'.to ρ=σ') bK) (h3:autoParam (v.to ρ=d) bK)
 (e:autoParam (sU O t D hints=some (v,⟨D',0,[],q⟩)) bK):Ev X t σ d σ':=by
 subst h1 h2 h3
 exact ko O hq e
theorem BY {ss:List Stmt} {Q:PF} (ρ:List Addr) (D D':DS) (hints:List c7) (k:Nat) (fd:DF) (O:cO ⟨X,dR X.B.P,ρ,glT,cl⟩) (hq:q) (hQ:∀ f σ',(exX k fun bs=>f=fd.to (ρ++bs)∧σ'=D'.to (ρ++bs))→Q f σ') (h1:autoParam (D.to ρ=σ) bK)
 (e:autoParam (oi O ss D hints=some (fd,⟨D',k,[],q⟩)) bK):bg X ss σ Q:=by
 subst h1
 exact ⟨fun H Φ w=>(kj O hq e).run H Φ fun f σ' z=>w _ _ (hQ _ _ z)⟩
theorem kS {c c':Bool} (h:Te X t σ c σ') (q:c=c'):Te X t σ c' σ':=q▸h
theorem Ax {σ₁:St} {f:Fl} (h:Ex X st σ f σ₁) (e:σ₁=σ'):Ex X st σ f σ':=e▸h
theorem big {n m:Nat} (h:n≤m) (q:autoParam (Nat.ble m 16777216=true) bR):n≤16777216:=nT0 h (lB0 q)
variable {X:Cx} {cl:List (Str×Nat)} {σ σ':St} {t:Expr} {st:Stmt}
theorem oB {env:Env}:execs [st] env=exec st env:=by
 rw [execs_cons]
 exact (bind_congr fun f=>by rcases f with _ | _<;>rfl).trans (bind_pure _)
theorem dj {f:Fl} (h:ExB X [st] σ f σ'):Ex X st σ f σ':=⟨fun H Φ k=>by
 have:=h.run H Φ k
 rw [oB] at this
 exact this⟩
end
section
set_option genInjectivity false
variable {B:a5} {rest objs:OL}
noncomputable abbrev txO (x dx:Addr) (t:List Nat) (p:Int):Addr×AO:=(x,.inst 73 dx [("text",.str t),("place",.int p)])
noncomputable def dTx (k:Nat) (dx:Addr) (t:List Nat) (p:Int):Nat×DO:=(k,.inst 73 dx [("text",.av (.str t)),("place",.av (.int p))])
theorem jy (hB:IsB B) {x dx:Addr} {t D:List Nat} {p size:Int} (hz:t.length≤16777216) (hD:sl t (some p) (some (p+size))=D):
 a4 B 1 70 [.ref x,.int size] (txO x dx t p::rest) fun d objs=>d=.str D∧objs=txO x dx t (p+D.length)::rest:=by
 subst hD
 exact d9 ["self","size"] ["part"] [x] [.slot 0,.av (.int size)] [dTx 0 dx t p] rest [] (.av (.str (sl t (some p) (some (p+size))))) [dTx 0 dx t (p+(sl t (some p) (some (p+size))).length)] rest hB rfl (.two fun _ _=>rfl) (qa (qa trivial hz) (nT0 (rg t (some p) (some (p+size))) hz))
theorem mf (hB:IsB B) {x dx:Addr} {t:List Nat}:a4 B 1 63 [.ref x,.str t] ((x,.inst 73 dx [])::rest) fun d objs=>d=.none∧objs=txO x dx t 0::rest:=
 d9 ["self","text"] [] [x] [.slot 0,.av (.str t)] [(0,.inst 73 dx [])] rest [] (.av .none) [dTx 0 dx t 0] rest hB rfl (.two fun _ _=>rfl) trivial
noncomputable def inv (n:Int):Bool:=(decide (1≤n)&&decide (n≤8))||(decide (n=11)||((decide (14≤n)&&decide (n≤31))||((decide (127≤n)&&decide (n≤159))||((decide (64976≤n)&&decide (n≤65007))||(decide (n.fmod 65536∈[65534,65535])||(decide (55296≤n)&&decide (n≤57343)))))))
theorem nB (hB:IsB B) {c:Int}:bM B 1 84 [.int c] (.bool (inv c)):=fun objs=>
 d9 ["codepoint"] [] [] [.av (.int c)] [] objs [] (.av (.bool (inv c))) [] objs hB rfl (.one fun _=>rfl) trivial
noncomputable def cB (pc:Int) (c:List Nat) (off:Int):Int:=if cY 10 c off= -1 then pc+off else off - (cY 10 c off+1)
noncomputable abbrev stF (st tx er:Addr) (c:List Nat) (sz off pl pc:Int) (buf:AV):FL:=
 [("reportCharacterErrors",.meth 148 st),("newLines",.lst [.int 0]),("dataStream",.ref tx),("chunk",.str c),("chunkSize",.int sz),("chunkOffset",.int off),("errors",.ref er),("prevNumLines",.int pl),("prevNumCols",.int pc),("_bufferedCharacter",buf)]
noncomputable abbrev stO (st dx tx er:Addr) (c:List Nat) (sz off pl pc:Int) (buf:AV):Addr×AO:=(st,.inst 166 dx (stF st tx er c sz off pl pc buf))
noncomputable def t7 (s:Nat) (tx er:DV) (c:List Nat) (sz off pl pc:Int) (buf:AV):List (Str×DV):=
 [("reportCharacterErrors",.meth 148 s),("newLines",.av (.lst [.int 0])),("dataStream",tx),("chunk",.av (.str c)),("chunkSize",.av (.int sz)),("chunkOffset",.av (.int off)),("errors",er),("prevNumLines",.av (.int pl)),("prevNumCols",.av (.int pc)),("_bufferedCharacter",.av buf)]
noncomputable abbrev bad:AV:=.str (sg "invalid-codepoint")
noncomputable def bads (l:List Nat):List AV:=(l.filter fun (c:Nat)=>inv (c:Int)).map fun _=>bad
section
variable {st dx tx tdx er:Addr} {c t:List Nat} {sz off pl pc p:Int} {buf:AV} {es:List AV}
noncomputable abbrev l7 (dx tx er:Addr) (c:List Nat) (sz off pl pc:Int) (buf:AV):List (Nat×DO):=[(0,.inst 166 dx (t7 0 (.av (.ref tx)) (.av (.ref er)) c sz off pl pc buf))]
theorem nv (hB:IsB B) {o:Int}:a4 B 1 119 [.ref st,.int o] (stO st dx tx er c sz off pl pc buf::rest) fun d objs=>d=.tup [.int (pl+aY 10 c o),.int (cB pc c o)]∧objs=stO st dx tx er c sz off pl pc buf::rest:=by
 unfold cB
 by_cases h:cY 10 c o= -1
 · exact (if_pos h)▸(d9 ["self","offset"] ["chunk","nLines","positionLine","lastLinePos","positionColumn"] [st] [.slot 0,.av (.int o)] (l7 dx tx er c sz off pl pc buf) rest [.br true] (.av (.tup [.int (pl+aY 10 c o),.int (pc+o)])) (l7 dx tx er c sz off pl pc buf) rest hB rfl (.two fun _ _=>rfl) (qa trivial (decide_eq_true h)))
 · exact (if_neg h)▸(d9 ["self","offset"] ["chunk","nLines","positionLine","lastLinePos","positionColumn"] [st] [.slot 0,.av (.int o)] (l7 dx tx er c sz off pl pc buf) rest [.br false] (.av (.tup [.int (pl+aY 10 c o),.int (o - (cY 10 c o+1))])) (l7 dx tx er c sz off pl pc buf) rest hB rfl (.two fun _ _=>rfl) (qa trivial (decide_eq_false h)))
theorem li (hB:IsB B):a4 B 2 126 [.ref st] (stO st dx tx er c sz off pl pc buf::rest) fun d objs=>d=.tup [.int (pl+aY 10 c off+1),.int (cB pc c off)]∧objs=stO st dx tx er c sz off pl pc buf::rest:=
 d9 ["self"] ["line","col"] [st] [.slot 0] (l7 dx tx er c sz off pl pc buf) rest [.call 0 (.av (.tup [.int (pl+aY 10 c off),.int (cB pc c off)])) (l7 dx tx er c sz off pl pc buf) rest 1] (.av (.tup [.int (pl+aY 10 c off+1),.int (cB pc c off)])) (l7 dx tx er c sz off pl pc buf) rest hB rfl (.one fun _=>rfl)
  (qa trivial (nv (rest:=rest) (dx:=dx) (st:=st) (tx:=tx) (er:=er) (c:=c) (sz:=sz) (off:=off) (pl:=pl) (pc:=pc) (buf:=buf) hB (o:=off)))
noncomputable abbrev sO (st dx tx tdx er:Addr) (c:List Nat) (sz off pl pc:Int) (buf:AV) (t:List Nat) (p:Int) (es:List AV) (rest:OL):OL:=stO st dx tx er c sz off pl pc buf::txO tx tdx t p::(er,.list es)::rest
noncomputable def dSO (k:Nat) (dx tdx:Addr) (c:List Nat) (sz off pl pc:Int) (buf:AV) (t:List Nat) (p:Int) (es:List AV) (ps:List DV) (r:List (Nat×DO)):List (Nat×DO):=
 (k,.inst 166 dx (t7 k (.slot (k+1)) (.slot (k+2)) c sz off pl pc buf))::dTx (k+1) tdx t p::(k+2,.list es ps)::r
theorem sv (hB:IsB B) (hz:t.length≤16777216) (hD:sl t (some p) (some (p+10240))=[]):
 a4 B 3 141 [.ref st] (sO st dx tx tdx er c sz off pl pc .none t p es rest) fun d objs=>d=.bool false∧objs=sO st dx tx tdx er [] 0 0 (pl+aY 10 c sz) (cB pc c sz) .none t p es rest:=by
 have hr:=(jy (x:=tx) (dx:=tdx) (rest:=stO st dx tx er [] 0 0 (pl+aY 10 c sz) (cB pc c sz) .none::(er,.list es)::rest) hB hz hD).second
 exact d9 ["self","chunkSize"] ["data","lastv"] [st,tx,er] [.slot 0,.av .none] (dSO 0 dx tdx c sz off pl pc .none t p es [] []) rest
  [.call 0 (.av (.tup [.int (pl+aY 10 c sz),.int (cB pc c sz)])) (dSO 0 dx tdx c sz off pl pc .none t p es [] []) rest 1,.call 0 (.av (.str [])) (dSO 0 dx tdx [] 0 0 (pl+aY 10 c sz) (cB pc c sz) .none t (p+((0:Nat):Int)) es [] []) rest 1,.br false]
  (.av (.bool false)) (dSO 0 dx tdx [] 0 0 (pl+aY 10 c sz) (cB pc c sz) .none t (p+((0:Nat):Int)) es [] []) rest hB rfl (.dflt rfl (by rw [hB.K];rfl) rfl (fun _=>rfl) (fun _=>rfl) gp)
  (qa (qa (qa (qa trivial (nv (rest:=txO tx tdx t p::(er,.list es)::rest) (dx:=dx) (st:=st) (tx:=tx) (er:=er) (c:=c) (sz:=sz) (off:=off) (pl:=pl) (pc:=pc) (buf:=.none) hB (o:=sz))) hr) (big (m:=0) (Nat.le_refl _))) ff)
  (e2:=by rw [show p+((0:Nat):Int)=p from Int.add_zero p];kernel_rfl)
end
end
section
set_option genInjectivity false
variable {B:a5} {rest:OL}
theorem oH (l:List Nat) {i:Nat} (h:i < l.length):bads (l.take (i+1))=bads (l.take i)++(if inv ((l.getD i 0:Nat):Int) then [bad] else []):=by
 have e:l.getD i 0=l[i]:=by simp [h]
 rw [e,List.take_add_one,List.getElem?_eq_getElem h]
 unfold bads
 rw [List.filter_append,List.map_append]
 congr 1
 simp only [Option.toList,List.filter_cons,List.filter_nil]
 split<;>rfl
theorem ur (l:List Nat) (i:Nat):(bads (l.take i)).length≤l.length:=by
 unfold bads
 rw [List.length_map]
 exact nT0 (List.length_filter_le _ _) (by rw [List.length_take];exact Nat.min_le_right _ _)
noncomputable abbrev bE (l:List Nat):List Nat:=e8 (e8 l [13,10] [10]) [13] [10]
section
variable {st dx tx tdx er:Addr} {c t D:List Nat} {sz off pl pc p:Int} {es:List AV} {z:Nat} {buf:AV}
noncomputable def dCe (dx tx:Addr) (c:List Nat) (sz off pl pc:Int) (buf:AV) (q tO:AO) (l:List AV) (ps:List DV):List (Nat×DO):=[(0,.ao q),(1,.inst 166 dx (t7 1 (.av (.ref tx)) (.slot 3) c sz off pl pc buf)),(2,.ao tO),(3,.list l ps)]
noncomputable def dCl (D:List Nat) (g:Nat):List (Str×Option DV):=[("self",some (.slot 1)),("data",some (.av (.str D))),("c",some (.av (.str [g])))]
theorem og (hB:IsB B) {tO:Addr×AO} (hz:es.length+D.length≤16777216):a4 B 2 148 [.ref st,.str D] (stO st dx tx er c sz off pl pc buf::tO::(er,.list es)::rest) fun d objs=>d=.none∧objs=stO st dx tx er c sz off pl pc buf::tO::(er,.list (es++bads D))::rest:=by
 refine iG ["self","data"] ["c"] (by rw [hB.K];rfl) (by rw [hB.K];kernel_rfl) (.two fun _ _=>rfl) fun L=>?_
 refine ⟨_,_,_,bu (pJ (N:=D.length) (item:=fun i=>.str [D.getD i 0]) (d:=.str D) (fun i=>[("self",some (.ref st)),("data",some (.str D)),("c",if i=0 then none else some (.str [D.getD (i - 1) 0]))]) (fun i=>stO st dx tx er c sz off pl pc buf::tO::(er,.list (es++bads (D.take i)))::rest) ?_ (fun xv=>m5) ?_) dM,rfl,?_⟩
 · show Ev _ _ _ _ ⟨[("self",some (.ref st)),("data",some (.str D)),("c",none)],stO st dx tx er c sz off pl pc buf::tO::(er,.list (es++[]))::rest⟩
   rw [List.append_nil]
   exact a6 (.tail _ (.head _))
 · intro i hi a q
   have hc:=nB hB (c:=(D.getD i 0:Nat))
   have hb:(es++bads (D.take i)).length≤16777216:=by have:=ur D i;rw [List.length_append];omega
   have ec:(if i+1=0 then none else some (AV.str [D.getD (i+1 - 1) 0]))=some (.str [D.getD i 0]):=if_neg (Nat.succ_ne_zero i)
   rw [ec,oH D hi]
   refine ⟨⟨[("self",some (.ref st)),("data",some (.str D)),("c",some (.str [D.getD i 0]))],(a,.is q)::stO st dx tx er c sz off pl pc buf::tO::(er,.list (es++bads (D.take i)))::rest⟩,bU (bk (.skip (.skip .hit))),?_⟩
   clear ec
   by_cases h:inv ((D.getD i 0:Nat):Int)=true
   · rw [if_pos h,←List.append_assoc]
     generalize es++bads (D.take i)=l at hb ⊢
     generalize D.getD i 0=g at hc h ⊢
     exact aE [a,st,tO.1,er] ⟨dCl D g,dCe dx tx c sz off pl pc buf (.is q) tO.2 l [],rest⟩
      ⟨dCl D g,dCe dx tx c sz off pl pc buf (.is q) tO.2 l [.av bad],rest⟩
      [.call 0 (.av (.bool (inv g))) (dCe dx tx c sz off pl pc buf (.is q) tO.2 l []) rest 1,.br true] .next (pxo hB) (qa (qa (qa trivial (hc (a2 [a,st,tO.1,er] rest (dCe dx tx c sz off pl pc buf (.is q) tO.2 l [])))) h) hb)
   · rw [if_neg h,List.append_nil]
     have h:=Bool.eq_false_iff.mpr h
     generalize es++bads (D.take i)=l at hb ⊢
     generalize D.getD i 0=g at hc h ⊢
     exact aE [a,st,tO.1,er] ⟨dCl D g,dCe dx tx c sz off pl pc buf (.is q) tO.2 l [],rest⟩
      ⟨dCl D g,dCe dx tx c sz off pl pc buf (.is q) tO.2 l [],rest⟩
      [.call 0 (.av (.bool (inv g))) (dCe dx tx c sz off pl pc buf (.is q) tO.2 l []) rest 1,.br false] .next (pxo hB) (qa (qa trivial (hc (a2 [a,st,tO.1,er] rest (dCe dx tx c sz off pl pc buf (.is q) tO.2 l [])))) h)
 · rw [List.take_length]
end
section
variable {B:a5} {rest:OL} {st dx tx tdx er:Addr} {c t D:List Nat} {sz off pl pc p:Int} {es:List AV} {z:Nat} {buf:AV}
theorem b8.full2 {fd:FuncData} {p1 p2:Str} {d1 d2:AV} {T:Addr} {o:Obj} {w:Value} {m:Nat} {k:Value→Value→Option (Array Value)→Sem (List (Str×Value))} (hd:fd.defaults=.ref T) (ho:B.K.lookup T=some o) (hs:o.data=.seq #[w] m)
 (h₁:∀ v1 v2,bindArgs fd ⟨[v1,v2],[]⟩=seqItems? fd.defaults >>= k v1 v2) (h₂:∀ v1 v2,k v1 v2 (some #[w])=pure [(p1,v1),(p2,v2)]):b8 B fd [p1,p2] [d1,d2] [d1,d2]:=fun F s vs hv X core=>by
 obtain ⟨v1,v2,rfl,q1,q2⟩:=oe hv;exact ⟨_,.cons q1 (.cons q2 .nil),.of_defaults hd (X _ _ ho) hs (h₁ _ _) (h₂ _ _)⟩
noncomputable def dRl (N:Int) (d l:Option AV):List (Str×Option DV):=[("self",some (.slot 0)),("chunkSize",some (.av (.int N))),("data",d.map .av),("lastv",l.map .av)]
theorem j3:("\r\n":Str)=S [13,10]:=by kernel_rfl
theorem gL:("\n":Str)=S [10]:=by kernel_rfl
theorem n5:("\r":Str)=S [13]:=by kernel_rfl
theorem sB (hB:IsB B) {N:Int} {args:List AV} (ha:args=[.ref st]∧N=10240∨args=[.ref st,.int N]) {D₁ D₂:List Nat} {buf₂:AV} {lv:Option AV} {buf:AV} (hz:t.length≤16777216) (hD:sl t (some p) (some (p+N))=D)
 (h1 : buf=.none∧D≠[]∧D₁=D∨buf=.str [13]∧D₁=[13]++D)
 (h2 : D₁.length≤1∧lv=none∧D₂=D₁∧buf₂=.none∨1 < D₁.length∧∃ z,at? D₁ (-1)=some z∧lv=some (.int z)∧(z≠13∧¬ (55296≤z∧z≤56319)∧D₂=D₁∧buf₂=.none∨z=13∧D₂=sl D₁ none (some (-1))∧buf₂=.str [13]))
 (hs : D.length≤1048576) (hs₁:D₁.length≤1048576) (he:es.length+D₂.length≤16777216) (hr:(e8 D₂ [13,10] [10]).length≤1048576) (hr':(e8 (e8 D₂ [13,10] [10]) [13] [10]).length≤1048576):
 a4 B 3 141 args (sO st dx tx tdx er c sz off pl pc buf t p es rest) fun d objs=>d=.bool true∧objs=sO st dx tx tdx er (bE D₂) (bE D₂).length 0 (pl+aY 10 c sz) (cB pc c sz) buf₂ t (p+D.length) (es++bads D₂) rest:=by
 have hp:=nv (rest:=txO tx tdx t p::(er,.list es)::rest) (dx:=dx) (st:=st) (tx:=tx) (er:=er) (c:=c) (sz:=sz) (off:=off) (pl:=pl) (pc:=pc) (buf:=buf) hB (o:=sz)
 generalize pl+(aY 10 c sz:Int)=A,cB pc c sz=C at hp ⊢
 have hrd:=(jy (x:=tx) (dx:=tdx) (rest:=stO st dx tx er [] 0 0 A C buf::(er,.list es)::rest) hB hz hD).second
 generalize p+(D.length:Int)=P at hrd ⊢
 have hce:=og (rest:=rest) (dx:=dx) (st:=st) (tx:=tx) (er:=er) (c:=[]) (sz:=0) (off:=0) (pl:=A) (pc:=C) (buf:=buf₂) (tO:=txO tx tdx t P) hB he
 have hs':D.length≤16777216:=big hs
 have hs₁':D₁.length≤16777216:=big hs₁
 have hs₂:D₂.length≤1048576:=by
  rcases h2 with ⟨_,_,q,_⟩ | ⟨_,_,_,_,⟨_,_,q,_⟩ | ⟨_,q,_⟩⟩
  · exact q▸hs₁
  · exact q▸hs₁
  · exact q▸nT0 (rg _ _ _) hs₁
 clear hz hD
 have tail:∀ L,ExB ⟨B,2,L,envOf "HTMLUnicodeInputStream.readChunk" (jw lG) L 141 (.ref 140)⟩ ((jD lG).drop 1) ⟨[("self",some (.ref st)),("chunkSize",some (.int N)),("data",none),("lastv",none)],sO st dx tx tdx er c sz off pl pc buf t p es rest⟩ (.ret (.bool true)) ⟨[("self",some (.ref st)),("chunkSize",some (.int N)),("data",some (.str (bE D₂))),("lastv",lv)],sO st dx tx tdx er (bE D₂) (bE D₂).length 0 A C buf₂ t P (es++bads D₂) rest⟩:=by
  intro L
  refine bu (σ₁:=⟨[("self",some (.ref st)),("chunkSize",some (.int N)),("data",none),("lastv",none)],sO st dx tx tdx er c sz off A C buf t p es rest⟩) (dj (aE [st,tx,er] ⟨dRl N none none,dSO 0 dx tdx c sz off pl pc buf t p es [] [],rest⟩ ⟨dRl N none none,dSO 0 dx tdx c sz off A C buf t p es [] [],rest⟩ [.call 0 (.av (.tup [.int A,.int C])) (dSO 0 dx tdx c sz off pl pc buf t p es [] []) rest 1] .next (pxo hB) (qa trivial hp))) ?_
  refine bu (σ₁:=⟨[("self",some (.ref st)),("chunkSize",some (.int N)),("data",none),("lastv",none)],sO st dx tx tdx er [] sz off A C buf t p es rest⟩) (dj (aE [st,tx,er] ⟨dRl N none none,dSO 0 dx tdx c sz off A C buf t p es [] [],rest⟩ ⟨dRl N none none,dSO 0 dx tdx [] sz off A C buf t p es [] [],rest⟩ [] .next (pxo hB) trivial)) ?_
  refine tV (σ₁:=⟨[("self",some (.ref st)),("chunkSize",some (.int N)),("data",none),("lastv",none)],sO st dx tx tdx er [] sz off A C buf t p es rest⟩) (o:=.ref st) (σ₂:=⟨[("self",some (.ref st)),("chunkSize",some (.int N)),("data",none),("lastv",none)],sO st dx tx tdx er [] 0 off A C buf t p es rest⟩) (a6 (.head _)) (k7 (.head _) (.skip (by kernel_rfl) (.skip (by kernel_rfl) (.skip (by kernel_rfl) (.skip (by kernel_rfl) .hit)))) .head (by rw [hB.K];kernel_rfl)) ?_
  refine gc (σ₁:=⟨[("self",some (.ref st)),("chunkSize",some (.int N)),("data",none),("lastv",none)],sO st dx tx tdx er [] 0 0 A C buf t p es rest⟩) (dj (aE [st,tx,er] ⟨dRl N none none,dSO 0 dx tdx [] 0 off A C buf t p es [] [],rest⟩ ⟨dRl N none none,dSO 0 dx tdx [] 0 0 A C buf t p es [] [],rest⟩ [] .next (pxo hB) trivial)) ?_
  refine gc (σ₁:=⟨[("self",some (.ref st)),("chunkSize",some (.int N)),("data",some (.str D)),("lastv",none)],sO st dx tx tdx er [] 0 0 A C buf t P es rest⟩) (dj (aE [st,tx,er] ⟨dRl N none none,dSO 0 dx tdx [] 0 0 A C buf t p es [] [],rest⟩ ⟨dRl N (some (.str D)) none,dSO 0 dx tdx [] 0 0 A C buf t P es [] [],rest⟩ [.call 0 (.av (.str D)) (dSO 0 dx tdx [] 0 0 A C buf t P es [] []) rest 1] .next (pxo hB) (qa trivial hrd))) ?_
  refine gc (σ₁:=⟨[("self",some (.ref st)),("chunkSize",some (.int N)),("data",some (.str D₁)),("lastv",none)],sO st dx tx tdx er [] 0 0 A C .none t P es rest⟩) (dj ?_) ?_
  · clear h2 hce hrd hp
    rcases h1 with ⟨rfl,h0,rfl⟩ | ⟨rfl,rfl⟩
    · exact aE [st,tx,er] ⟨dRl N (some (.str D₁)) none,dSO 0 dx tdx [] 0 0 A C .none t P es [] [],rest⟩ ⟨dRl N (some (.str D₁)) none,dSO 0 dx tdx [] 0 0 A C .none t P es [] [],rest⟩ [.br true] .next (pxo hB) (qa (qa trivial hs') (show (!decide (D₁=[]))=true by rw [decide_eq_false h0];rfl))
    · exact aE [st,tx,er] ⟨dRl N (some (.str D)) none,dSO 0 dx tdx [] 0 0 A C (.str [13]) t P es [] [],rest⟩ ⟨dRl N (some (.str ([13]++D))) none,dSO 0 dx tdx [] 0 0 A C .none t P es [] [],rest⟩ [.br true] .next (pxo hB) (qa (qa (qa trivial (big (Nat.le_refl 1))) tt) (show ([13]:List Nat).length+D.length≤16777216 from nT0 (Nat.le_of_eq (List.length_append (as:=[13])).symm) hs₁'))
  refine gc (σ₁:=⟨[("self",some (.ref st)),("chunkSize",some (.int N)),("data",some (.str D₂)),("lastv",lv)],sO st dx tx tdx er [] 0 0 A C buf₂ t P es rest⟩) (dj ?_) ?_
  · clear h1 hce hrd hp
    rcases h2 with ⟨h2,rfl,rfl,rfl⟩ | ⟨h2,z,hl,rfl,⟨h13,hsur,rfl,rfl⟩ | ⟨rfl,rfl,rfl⟩⟩
    · exact aE [st,tx,er] ⟨dRl N (some (.str D₂)) none,dSO 0 dx tdx [] 0 0 A C .none t P es [] [],rest⟩ ⟨dRl N (some (.str D₂)) none,dSO 0 dx tdx [] 0 0 A C .none t P es [] [],rest⟩ [.br false] .next (pxo hB) (qa (qa trivial hs₁') (decide_eq_false (show ¬ (1:Int) < (D₂.length:Int) by omega)))
    · have e1:(decide ((55296:Int)≤(z:Int))&&decide ((z:Int)≤56319))=false:=by
       by_cases q:55296≤(z:Int)
       · rw [decide_eq_true q,decide_eq_false (show ¬ (z:Int)≤56319 by omega)];rfl
       · rw [decide_eq_false q];rfl
      exact aE [st,tx,er] ⟨dRl N (some (.str D₂)) none,dSO 0 dx tdx [] 0 0 A C .none t P es [] [],rest⟩ ⟨dRl N (some (.str D₂)) (some (.int z)),dSO 0 dx tdx [] 0 0 A C .none t P es [] [],rest⟩ [.br true,.ch z,.br false,.br false] .next (pxo hB) (qa (qa (qa (qa (qa (qa trivial hs₁') (decide_eq_true (show (1:Int) < (D₂.length:Int) by exact Int.ofNat_le.mpr ‹_›))) hl) hs₁') (decide_eq_false (show ¬ (z:Int)=13 by omega))) e1)
    · exact aE [st,tx,er] ⟨dRl N (some (.str D₁)) none,dSO 0 dx tdx [] 0 0 A C .none t P es [] [],rest⟩ ⟨dRl N (some (.str (sl D₁ none (some (-1))))) (some (.int (13:Nat))),dSO 0 dx tdx [] 0 0 A C (.str [13]) t P es [] [],rest⟩ [.br true,.ch 13,.br true,.ch 13] .next (pxo hB) (qa (qa (qa (qa (qa (qa (qa (qa trivial hs₁') (decide_eq_true (show (1:Int) < (D₁.length:Int) by exact Int.ofNat_le.mpr ‹_›))) hl) hs₁') tt) hl) hs₁') hs₁')
  clear h1 h2 hrd hp
  induction lv using Option.casesOn with
  | none=>
   refine gc (σ₁:=⟨[("self",some (.ref st)),("chunkSize",some (.int N)),("data",some (.str D₂)),("lastv",none)],sO st dx tx tdx er [] 0 0 A C buf₂ t P (es++bads D₂) rest⟩) (dj (aE [st,tx,er] ⟨dRl N (some (.str D₂)) none,dSO 0 dx tdx [] 0 0 A C buf₂ t P es [] [],rest⟩ ⟨dRl N (some (.str D₂)) none,dSO 0 dx tdx [] 0 0 A C buf₂ t P (es++bads D₂) [] [],rest⟩ [.call 0 (.av .none) (dSO 0 dx tdx [] 0 0 A C buf₂ t P (es++bads D₂) [] []) rest 2] .next (pxo hB) (qa trivial hce))) ?_
   clear hce
   refine hV j3 gL (.tail _ (.tail _ (.head _))) (.skip (.skip .hit)) hs₂ ?_
   refine hV n5 gL (.tail _ (.tail _ (.head _))) (.skip (.skip .hit)) hr ?_
   have hn:(bE D₂).length≤16777216:=big hr'
   exact zV (aE [st,tx,er] ⟨dRl N (some (.str (bE D₂))) none,dSO 0 dx tdx [] 0 0 A C buf₂ t P (es++bads D₂) [] [],rest⟩ ⟨dRl N (some (.str (bE D₂))) none,dSO 0 dx tdx (bE D₂) (bE D₂).length 0 A C buf₂ t P (es++bads D₂) [] [],rest⟩ [] (.ret (.av (.bool true))) (pxo hB) (qa trivial hn))
  | some v=>
   refine gc (σ₁:=⟨[("self",some (.ref st)),("chunkSize",some (.int N)),("data",some (.str D₂)),("lastv",some v)],sO st dx tx tdx er [] 0 0 A C buf₂ t P (es++bads D₂) rest⟩) (dj (aE [st,tx,er] ⟨dRl N (some (.str D₂)) (some v),dSO 0 dx tdx [] 0 0 A C buf₂ t P es [] [],rest⟩ ⟨dRl N (some (.str D₂)) (some v),dSO 0 dx tdx [] 0 0 A C buf₂ t P (es++bads D₂) [] [],rest⟩ [.call 0 (.av .none) (dSO 0 dx tdx [] 0 0 A C buf₂ t P (es++bads D₂) [] []) rest 2] .next (pxo hB) (qa trivial hce))) ?_
   clear hce
   refine hV j3 gL (.tail _ (.tail _ (.head _))) (.skip (.skip .hit)) hs₂ ?_
   refine hV n5 gL (.tail _ (.tail _ (.head _))) (.skip (.skip .hit)) hr ?_
   have hn:(bE D₂).length≤16777216:=big hr'
   exact zV (aE [st,tx,er] ⟨dRl N (some (.str (bE D₂))) (some v),dSO 0 dx tdx [] 0 0 A C buf₂ t P (es++bads D₂) [] [],rest⟩ ⟨dRl N (some (.str (bE D₂))) (some v),dSO 0 dx tdx (bE D₂) (bE D₂).length 0 A C buf₂ t P (es++bads D₂) [] [],rest⟩ [] (.ret (.av (.bool true))) (pxo hB) (qa trivial hn))
 rcases ha with ⟨rfl,rfl⟩ | rfl
 · refine iG ["self","chunkSize"] ["data","lastv"] (by rw [hB.K];rfl) (by rw [hB.K];kernel_rfl) (.dflt rfl (by rw [hB.K];rfl) rfl (fun _=>rfl) (fun _=>rfl) gp) fun L=>?_
   exact ⟨.ret (.bool true),[("self",some (.ref st)),("chunkSize",some (.int 10240)),("data",some (.str (bE D₂))),("lastv",lv)],sO st dx tx tdx er (bE D₂) (bE D₂).length 0 A C buf₂ t P (es++bads D₂) rest,bu (σ₁:=⟨[("self",some (.ref st)),("chunkSize",some (.int 10240)),("data",none),("lastv",none)],sO st dx tx tdx er c sz off pl pc buf t p es rest⟩) (dj (aE [st,tx,er] ⟨[("self",some (.slot 0)),("chunkSize",some (.av .none)),("data",none),("lastv",none)],dSO 0 dx tdx c sz off pl pc buf t p es [] [],rest⟩ ⟨dRl 10240 none none,dSO 0 dx tdx c sz off pl pc buf t p es [] [],rest⟩ [] .next (pxo hB) trivial)) (tail L),rfl,rfl⟩
 · refine iG ["self","chunkSize"] ["data","lastv"] (by rw [hB.K];rfl) (by rw [hB.K];kernel_rfl) (.full2 rfl (by rw [hB.K];rfl) rfl (fun _ _=>rfl) (fun _ _=>rfl)) fun L=>?_
   exact ⟨.ret (.bool true),[("self",some (.ref st)),("chunkSize",some (.int N)),("data",some (.str (bE D₂))),("lastv",lv)],sO st dx tx tdx er (bE D₂) (bE D₂).length 0 A C buf₂ t P (es++bads D₂) rest,bu (σ₁:=⟨[("self",some (.ref st)),("chunkSize",some (.int N)),("data",none),("lastv",none)],sO st dx tx tdx er c sz off pl pc buf t p es rest⟩) (dj (aE [st,tx,er] ⟨[("self",some (.slot 0)),("chunkSize",some (.av (.int N))),("data",none),("lastv",none)],dSO 0 dx tdx c sz off pl pc buf t p es [] [],rest⟩ ⟨dRl N none none,dSO 0 dx tdx c sz off pl pc buf t p es [] [],rest⟩ [] .next (pxo hB) trivial)) (tail L),rfl,rfl⟩
end
end
section
set_option genInjectivity false
variable {B:a5} {rest:OL}
section
variable {st dx tx tdx er tk kdx:Addr} {c c' t D:List Nat} {sz off pl pc p p' pl' pc':Int} {es es':List AV} {z:Nat} {buf buf':AV}
theorem xm (hB:IsB B) {v:AV}:a4 B 3 112 [v,.str t] rest fun d objs=>∃ tx tdx,d=.ref tx∧objs=txO tx tdx t 0::rest:=by
 refine mN ["self","source"] ["stream"] (by rw [hB.K];rfl) (by rw [hB.K];kernel_rfl) (.two fun _ _=>rfl) fun L=>?_
 refine pE (m:=1) (n':=1) (cg (v:=.ref 73) (by refine hB.K▸?_;kernel_rfl)) (cA (by refine hB.K▸?_;kernel_rfl)) (ai (a6 (.tail _ (.head _))) aq) (by refine hB.K▸?_;kernel_rfl) (by refine hB.K▸?_;kernel_rfl) (by refine hB.K▸?_;kernel_rfl) (fun x dx=>mf hB) rfl (by decide) ?_
 rintro tx tdx _ _ ⟨rfl,rfl⟩
 exact ⟨rfl,_,.skip (.skip .hit),cE (fJ (fS (a6 (.tail _ (.tail _ (.head _)))))) ⟨_,rfl,_,_,rfl,rfl⟩⟩
theorem lC (hB:IsB B) {i:Nat} (hi:i < c.length) (hz:c.length≤16777216):a4 B 4 133 [.ref st] (sO st dx tx tdx er c c.length i pl pc buf t p es rest) fun d o=>d=.str [c[i]]∧o=sO st dx tx tdx er c c.length (i+1) pl pc buf t p es rest:=
 d9 ["self"] ["chunkOffset","char"] [st,tx,er] [.slot 0] (dSO 0 dx tdx c c.length i pl pc buf t p es [] []) rest [.br false,.ch c[i]] (.av (.str [c[i]])) (dSO 0 dx tdx c c.length (i+1) pl pc buf t p es [] []) rest hB rfl (.one fun _=>rfl)
  (qa (qa (qa trivial (decide_eq_false (show ¬ (c.length:Int)≤(i:Int) by omega))) (f7 hi)) hz)
theorem o6 (hB:IsB B) (ho:sz≤off) {c':List Nat} {sz' off' pl' pc' p':Int} {buf':AV} {es':List AV} (hr:a4 B 3 141 [.ref st] (sO st dx tx tdx er c sz off pl pc buf t p es rest) fun d o=>d=.bool false∧o=sO st dx tx tdx er c' sz' off' pl' pc' buf' t p' es' rest):
 a4 B 4 133 [.ref st] (sO st dx tx tdx er c sz off pl pc buf t p es rest) fun d o=>d=.none∧o=sO st dx tx tdx er c' sz' off' pl' pc' buf' t p' es' rest:=
 d9 ["self"] ["chunkOffset","char"] [st,tx,er] [.slot 0] (dSO 0 dx tdx c sz off pl pc buf t p es [] []) rest [.br true,.call 0 (.av (.bool false)) (dSO 0 dx tdx c' sz' off' pl' pc' buf' t p' es' [] []) rest 3,.br false] (.av .none) (dSO 0 dx tdx c' sz' off' pl' pc' buf' t p' es' [] []) rest hB rfl (.one fun _=>rfl)
  (qa (qa (qa trivial (decide_eq_true ho)) hr) ff)
theorem lZ (hB:IsB B) (ho:sz≤off) (hz:c'.length≤16777216) (h0:0 < c'.length) (hr:a4 B 3 141 [.ref st] (sO st dx tx tdx er c sz off pl pc buf t p es rest) fun d o=>d=.bool true∧o=sO st dx tx tdx er c' c'.length 0 pl' pc' buf' t p' es' rest):
 a4 B 4 133 [.ref st] (sO st dx tx tdx er c sz off pl pc buf t p es rest) fun d o=>d=.str [c'[0]]∧o=sO st dx tx tdx er c' c'.length 1 pl' pc' buf' t p' es' rest:=
 d9 ["self"] ["chunkOffset","char"] [st,tx,er] [.slot 0] (dSO 0 dx tdx c sz off pl pc buf t p es [] []) rest [.br true,.call 0 (.av (.bool true)) (dSO 0 dx tdx c' c'.length 0 pl' pc' buf' t p' es' [] []) rest 3,.br true,.ch c'[0]] (.av (.str [c'[0]])) (dSO 0 dx tdx c' c'.length 1 pl' pc' buf' t p' es' [] []) rest hB rfl (.one fun _=>rfl)
  (qa (qa (qa (qa (qa trivial (decide_eq_true ho)) hr) tt) (f7 (k:=0) h0)) hz)
theorem sF (hB:IsB B) {i:Nat} (hi:i < c.length) (hz:c.length≤16777216):a4 B 1 163 [.ref st,.str [c[i]]] (sO st dx tx tdx er c c.length (i+1:Nat) pl pc buf t p es rest) fun d o=>d=.none∧o=sO st dx tx tdx er c c.length i pl pc buf t p es rest:=by
 have e:((i+1:Nat):Int) - 1=(i:Nat):=by simp+arith
 have hl:at? c (((i+1:Nat):Int) - 1)=some c[i]:=by refine e▸?_;exact f7 hi
 refine (show (sO st dx tx tdx er c c.length i pl pc buf t p es rest)=sO st dx tx tdx er c c.length (((i+1:Nat):Int) - 1) pl pc buf t p es rest by rw [e])▸?_
 exact d9 ["self","char"] [] [st,tx,er] [.slot 0,.av (.str [c[i]])] (dSO 0 dx tdx c c.length (i+1:Nat) pl pc buf t p es [] []) rest [.br false,.ch c[i],.br true] (.av .none) (dSO 0 dx tdx c c.length (((i+1:Nat):Int) - 1) pl pc buf t p es [] []) rest hB rfl (.two fun _ _=>rfl)
  (qa (qa (qa (qa trivial (decide_eq_false (show ¬ ((i+1:Nat):Int)=0 by omega))) hl) hz) (decide_eq_true (rfl:[c[i]]=[c[i]])))
noncomputable abbrev B7 (st tx:Addr):FL:=[("reportCharacterErrors",.meth 148 st),("newLines",.lst [.int 0]),("dataStream",.ref tx)]
theorem sr (hB:IsB B):a4 B 1 105 [.ref st] ((st,.inst 166 dx (B7 st tx))::rest) fun d objs=>d=.none∧∃ er,objs=stO st dx tx er [] 0 0 0 0 .none::(er,.list [])::rest:=
 il (k:=1) (v:=.av .none) (objs':=[(0,.inst 166 dx (t7 0 (.av (.ref tx)) (.slot 1) [] 0 0 0 0 .none)),(1,.list [] [])]) (rest':=rest) ["self"] [] [st] [.slot 0] [(0,.inst 166 dx [("reportCharacterErrors",.meth 148 0),("newLines",.av (.lst [.int 0])),("dataStream",.av (.ref tx))])] rest [] hB.K (d6 hB) rfl (.one fun _=>rfl) (hq:=trivial)
  (fun d o ⟨er,h1,h2⟩=>⟨h1,er,h2⟩) (by kernel_rfl) (by kernel_rfl) (by kernel_rfl) (fun L=>by kernel_rfl)
end
end
section
set_option genInjectivity false
variable {B:a5} {rest:OL}
section
variable {st dx tx tdx er tk kdx:Addr} {t:List Nat}
theorem qS (hB:IsB B) {tO:Addr×AO}:a4 B 1 105 [.ref st] (tO::(st,.inst 166 dx (B7 st tx))::rest) fun d objs=>d=.none∧∃ er,objs=stO st dx tx er [] 0 0 0 0 .none::tO::(er,.list [])::rest:=by
 refine (sr (rest:=tO::rest) hB).perm (.swap _ _ _) ?_
 rintro d q ⟨h1,er,rfl⟩
 exact ⟨_,.cons _ (.swap _ _ _),h1,er,rfl⟩
theorem sG (hB:IsB B):a4 B 4 98 [.ref st,.str t] ((st,.inst 166 dx [])::rest) fun d objs=>d=.none∧∃ tx tdx er,objs=sO st dx tx tdx er [] 0 0 0 0 .none t 0 [] rest:=by
 refine w7 ["self","source"] [] (by rw [hB.K];rfl) (by rw [hB.K];kernel_rfl) (.two fun _ _=>rfl) fun L=>?_
 refine aL (σ₁:=⟨[("self",some (.ref st)),("source",some (.str t))],(st,.inst 166 dx [("reportCharacterErrors",.meth 148 st)])::rest⟩) (dj (aE [st] ⟨[("self",some (.slot 0)),("source",some (.av (.str t)))],[(0,.inst 166 dx [])],rest⟩ ⟨[("self",some (.slot 0)),("source",some (.av (.str t)))],[(0,.inst 166 dx [("reportCharacterErrors",.meth 148 0)])],rest⟩ [] .next (pxo hB) trivial)) ?_
 refine aL (wP (jp (ai dk aq) (by decide)) (a6 (.head _)) (k7 (.head _) (.skip (by kernel_rfl) .new) .head (by refine hB.K▸?_;kernel_rfl))) ?_
 refine kG (mI (a6 (.head _)) (jr (g:=112) (.head _) (by kernel_rfl) (by refine hB.K▸?_;kernel_rfl)) (cA (by refine hB.K▸?_;kernel_rfl)) (ai (a6 (.tail _ (.head _))) aq) (xm hB) (lB0 rfl)) ?_
 intro _ _ z9;refine x12 z9 ?_;clear z9;rintro _ ⟨tx,tdx,rfl,rfl⟩ rfl
 refine' ⟨.ref st,_,_,a6 (.head _),k7 (.tail _ (.head _)) (.skip (by kernel_rfl) (.skip (by kernel_rfl) .new)) (.tail .head) (by refine hB.K▸?_;kernel_rfl),?_⟩
 refine pV (mI (a6 (.head _)) (jr (g:=105) (.tail _ (.head _)) (by kernel_rfl) (by refine hB.K▸?_;kernel_rfl)) (cA (by refine hB.K▸?_;kernel_rfl)) aq (qS hB) (lB0 rfl)) ?_
 intro _ _ z9;refine x12 z9 ?_;clear z9;rintro _ ⟨rfl,er,rfl⟩ rfl
 exact lc ⟨rfl,rfl,tx,tdx,er,rfl⟩
end
structure SS where
 c:List Nat
 i:Nat
 pl:Int
 pc:Int
 buf:AV
 p:Int
 es:List AV
noncomputable abbrev oS (st dx tx tdx er:Addr) (t:List Nat) (q:SS) (rest:OL):OL:=sO st dx tx tdx er q.c q.c.length q.i q.pl q.pc q.buf t q.p q.es rest
noncomputable abbrev SS0:SS:=⟨[],0,0,0,.none,0,[]⟩
section
variable {st dx tx tdx er tk kdx qa lf:Addr} {t:List Nat} {cur:AV} {f:Addr}
noncomputable abbrev tkF (st f tk lf qa:Addr) (cur:AV):FL:=[("stream",.ref st),("parser",.none),("escapeFlag",.bool false),("lastFourChars",.ref lf),("state",.meth f tk),("escape",.bool false),("currentToken",cur),("tokenQueue",.ref qa)]
noncomputable abbrev tkO (st f tk kdx lf qa:Addr) (cur:AV):Addr×AO:=(tk,.inst 762 kdx (tkF st f tk lf qa cur))
noncomputable abbrev rO (st f tk lf:Addr) (cur:AV):FL:=[("stream",.ref st),("parser",.none),("escapeFlag",.bool false),("lastFourChars",.ref lf),("state",.meth f tk),("escape",.bool false),("currentToken",cur)]
noncomputable abbrev dOS (k:Nat) (dx tdx:Addr) (t:List Nat) (q:SS) (r:List (Nat×DO)):List (Nat×DO):=dSO k dx tdx q.c q.c.length q.i q.pl q.pc q.buf t q.p q.es [] r
theorem uk (hB:IsB B):a4 B 6 261 [.ref tk,.str t] ((tk,.inst 762 kdx [])::rest) fun d o=>d=.none∧∃ st dx tx tdx er lf,o=oS st dx tx tdx er t SS0 ((tk,.inst 762 kdx (rO st 304 tk lf .none))::rest):=by
 refine a4.dropH ?_
 refine w7 ["self","stream","parser"] [] (by rw [hB.K];rfl) (by rw [hB.K];kernel_rfl) (.dflt3 rfl (by rw [hB.K];rfl) rfl (fun _ _=>rfl) (fun _ _=>rfl) gp) fun L=>?_
 refine kG (yi (m:=4) (n':=4) (cg (v:=.ref 166) (by refine hB.K▸?_;kernel_rfl)) (cA (by refine hB.K▸?_;kernel_rfl)) (ai (a6 (.tail _ (.head _))) aq) (by refine hB.K▸?_;kernel_rfl) (by refine hB.K▸?_;kernel_rfl) (by refine hB.K▸?_;kernel_rfl) (fun x dx=>sG hB) rfl (by decide) (fun _ _ _ _ h=>h.1)) ?_
 intro _ _ z9;refine x33 z9 ?_;clear z9;rintro st dx _ ⟨-,tx,tdx,er,rfl⟩ rfl rfl
 refine' ⟨.ref tk,⟨[("self",some (.ref tk)),("stream",some (.str t)),("parser",some .none)],_⟩,⟨[("self",some (.ref tk)),("stream",some (.str t)),("parser",some .none)],oS st dx tx tdx er t SS0 ((tk,.inst 762 kdx [("stream",.ref st)])::rest)⟩,a6 (.head _),k7 (.tail _ (.tail _ (.tail _ (.head _)))) .new (.tail (.tail (.tail .head))) (by refine hB.K▸?_;kernel_rfl),?_⟩
 refine BY [st,tx,er,tk] ⟨[("self",some (.slot 3)),("stream",some (.av (.str t))),("parser",some (.av .none))],dOS 0 dx tdx t SS0 [(3,.inst 762 kdx [("stream",.slot 0)])],rest⟩
  ⟨[("self",some (.slot 3)),("stream",some (.av (.str t))),("parser",some (.av .none))],dOS 0 dx tdx t SS0 [(3,.inst 762 kdx [("stream",.slot 0),("parser",.av .none),("escapeFlag",.av (.bool false)),("lastFourChars",.slot 4),("state",.meth 304 3),("escape",.av (.bool false)),("currentToken",.av .none)]),(4,.list [] [])],rest⟩ [] 1 .next (pxo hB) trivial ?_
 intro _ _ z9;refine x12 z9 ?_;clear z9;rintro lf rfl rfl
 exact ⟨rfl,oS st dx tx tdx er t SS0 ((tk,.inst 762 kdx (rO st 304 tk lf .none))::rest),[(lf,AO.list [])],List.Perm.append_left [_,_,_,_] (List.perm_append_comm (l₁:=[(_,AO.list [])])),rfl,st,dx,tx,tdx,er,lf,rfl⟩
end
end
section
set_option genInjectivity false
variable {i k:Nat} {q u:Nat→Bool} {c r:List Nat} {q':SS}
section
variable {X:Cx} {σ:St} {Q:PF}
theorem o5 {t:Expr} {body:List Stmt} {pos:Pos} (Inv:Nat→St→Prop) {n:Nat} (h0:Inv n σ)
 (step:∀ k σ,Inv k σ→∃ σ₁,Te X t σ true σ₁∧bg X body σ₁ fun f σ₂=>(f=.next∧∃ m,m < k∧Inv m σ₂)∨(f=.brk∧Q .next σ₂)):ExQ X (.While t body [] pos) σ Q:=⟨fun _ Φ h=>js Inv n h0 fun k σ r=>by
 refine x12 (step k σ r) ?_;rintro σ₁ ht hb
 exact ht.run _ _ ⟨fun _=>hb.run _ (jC (fun σ₂=>∃ m,m < k∧Inv m σ₂) Φ) (fun f σ₂ w=>by
  rcases w with ⟨e,i⟩ | ⟨e,q⟩
  · subst e;exact i
  · subst e;exact h _ _ q),fun q=>nomatch q⟩⟩
end
variable {B:a5} {rest:OL}
theorem e9.count {X:Cx} {t:Expr} {body:List Stmt} (F:Nat→St):∀ {m k:Nat},(∀ j,k≤j→j < k+m→Te X t (F j) true (F j)∧ExB X body (F j) .next (F (j+1)))→Te X t (F (k+m)) false (F (k+m))→e9 X t body m (F k) (F (k+m))
 | 0,k,_,e=>.done e
 | m+1,k,h,e=>by
  obtain ⟨h1,h2⟩:=h k (Nat.le_refl _) (by omega)
  have r:=e9.count F (m:=m) (k:=k+1) (fun j a b=>h j (by omega) (by omega)) (by exact (show k+1+m=k+(m+1) from by omega)▸(e))
  rw [show k+1+m=k+(m+1) from by omega] at r
  exact .step h1 h2 r
noncomputable def bo (q:Nat→Bool) (c:List Nat) (i:Nat):Nat:=i+((c.drop i).takeWhile q).length
theorem je (q:Nat→Bool) (c:List Nat) (h:i≤c.length):bo q c i≤c.length:=by
 unfold bo
 have:((c.drop i).takeWhile q).length≤(c.drop i).length:=(List.takeWhile_sublist _).length_le
 rw [List.length_drop] at this
 omega
noncomputable def InJ (B:a5) (chs:AV) (m:Nat→Bool):Prop:=∀ {n L H σ a b c} {Φ:PV},(a,AV.str [c])∈H→(b,chs)∈H→(∀ v,Φ v (.bool (m c)) σ)→WV B n L (compareOp .In a b) H σ Φ
theorem sn {x:List Nat}:InJ B (.str x) (fun c=>decide (c∈x)):=fun ma mb h=>wf ma mb h
theorem eK {l:List AV} {ms:List (List Nat)} (e:aD l=some ms):InJ B (.tup l) (fun c=>decide ([c]∈ms)):=fun ma mb h=>vE ma mb e h
theorem q7:∀ {l:List Nat} {i:Nat} (h:i < (l.takeWhile u).length),∃ hi:i < l.length,u l[i]=true
 | [],_,h=>absurd h (Nat.not_lt_zero _)
 | a ::l,i,h=>by
  rw [List.takeWhile_cons] at h
  by_cases e:u a=true
  · rw [if_pos e] at h
    cases i with
    | zero=>exact ⟨Nat.succ_pos _,e⟩
    | succ i=>
     obtain ⟨hi,q⟩:=q7 (l:=l) (i:=i) (by simpa using h)
     exact ⟨Nat.succ_lt_succ hi,q⟩
  · rw [if_neg e] at h;exact absurd h (Nat.not_lt_zero _)
theorem p8:∀ {l:List Nat} (h:(l.takeWhile u).length < l.length),u l[(l.takeWhile u).length]=false
 | [],h=>absurd h (Nat.lt_irrefl _)
 | a ::l,h=>by
  by_cases e:u a=true
  · simp only [List.takeWhile_cons,if_pos e,List.length_cons] at h ⊢
    simpa using p8 (l:=l) (by omega)
  · simp only [List.takeWhile_cons,if_neg e,List.length_nil] at h ⊢
    simpa using e
theorem np {T:List Nat} {j:Nat} (h1:k≤j) (h2:j < bo u T k) (h:k≤T.length):∃ hj:j < T.length,u T[j]=true:=by
 unfold bo at h2
 obtain ⟨hi,q⟩:=q7 (u:=u) (l:=T.drop k) (i:=j - k) (by omega)
 rw [List.length_drop] at hi
 refine ⟨by omega,?_⟩
 rw [List.getElem_drop] at q
 simpa only [show k+(j - k)=j from by omega] using q
theorem jL {T:List Nat} (h:bo u T k < T.length):u (T[bo u T k]'h)=false:=by
 have:=p8 (u:=u) (l:=T.drop k) (by unfold bo at h;rw [List.length_drop];omega)
 rw [List.getElem_drop] at this
 exact this
variable {st dx tx tdx er:Addr} {t:List Nat}
noncomputable def Reads (B:a5) (st dx tx tdx er:Addr) (t:List Nat) (b:Bool) (q q':SS):Prop:=
 ∀ rest,a4 B 3 141 [.ref st] (oS st dx tx tdx er t q rest) fun d o=>d=.bool b∧o=oS st dx tx tdx er t q' rest
inductive bH (B:a5) (st dx tx tdx er:Addr) (t:List Nat) (u:Nat→Bool):Nat→SS→List Nat→SS→Prop
 | stop {q:SS} {e:Nat}:q.i≤q.c.length→q.c.length≤1048576→bo u q.c q.i=e→e < q.c.length→bH B st dx tx tdx er t u 0 q (sl q.c (some q.i) (some e)) { q with i:=e }
 | last {q q':SS}:q.i≤q.c.length→q.c.length≤1048576→bo u q.c q.i=q.c.length→Reads B st dx tx tdx er t false q q'→bH B st dx tx tdx er t u 0 q (sl q.c (some q.i) none) q'
 | more {q q₁ q':SS} {k:Nat} {r:List Nat}:q.i≤q.c.length→q.c.length≤1048576→bo u q.c q.i=q.c.length→Reads B st dx tx tdx er t true q q₁→bH B st dx tx tdx er t u k q₁ r q'→bH B st dx tx tdx er t u (k+1) q (sl q.c (some q.i) none++r) q'
variable {chs:AV} {m:Nat→Bool}
theorem bH.here {q:SS} (h:bH B st dx tx tdx er t u k q r q'):q.i≤q.c.length∧q.c.length≤1048576:=by cases h<;>exact ⟨‹_›,‹_›⟩
theorem bH.ends {q:SS} (h:bH B st dx tx tdx er t u k q r q') (e:bo u q.c q.i=q.c.length):∃ b q₁,Reads B st dx tx tdx er t b q q₁∧
 ((b=false∧r=sl q.c (some q.i) none∧q₁=q')∨(b=true∧∃ k₁ r₁,k₁ < k∧r=sl q.c (some q.i) none++r₁∧bH B st dx tx tdx er t u k₁ q₁ r₁ q')):=by
 cases h with
 | stop _ _ he hlt=>rw [e] at he;exact absurd he (Nat.ne_of_gt hlt)
 | last _ _ _ hr=>exact ⟨_,_,hr,.inl ⟨rfl,rfl,rfl⟩⟩
 | more _ _ _ hr hu=>exact ⟨_,_,hr,.inr ⟨rfl,_,_,Nat.lt_succ_self _,rfl,hu⟩⟩
theorem bH.stops {q:SS} (h:bH B st dx tx tdx er t u k q r q') {j:Nat} (e:bo u q.c q.i=j) (hj:j < q.c.length):r=sl q.c (some q.i) (some j)∧q'={ q with i:=j }:=by
 cases h with
 | stop _ _ he hlt=>cases he.symm.trans e;exact ⟨rfl,rfl⟩
 | last _ _ he _=>exact absurd (he.symm.trans e) (Nat.ne_of_gt hj)
 | more _ _ he _ _=>exact absurd (he.symm.trans e) (Nat.ne_of_gt hj)
theorem b8.full3 {fd:FuncData} {p1 p2 p3:Str} {d1 d2 d3:AV} {T:Addr} {o:Obj} {w:Value} {m:Nat} {k:Value→Value→Value→Option (Array Value)→Sem (List (Str×Value))} (hd:fd.defaults=.ref T) (ho:B.K.lookup T=some o) (hs:o.data=.seq #[w] m)
 (h₁:∀ v1 v2 v3,bindArgs fd ⟨[v1,v2,v3],[]⟩=seqItems? fd.defaults >>= k v1 v2 v3) (h₂:∀ v1 v2 v3,k v1 v2 v3 (some #[w])=pure [(p1,v1),(p2,v2),(p3,v3)]):b8 B fd [p1,p2,p3] [d1,d2,d3] [d1,d2,d3]:=fun F s vs hv X core=>by
 obtain ⟨v1,v2,v3,rfl,q1,q2,q3⟩:=uX hv;exact ⟨_,.cons q1 (.cons q2 (.cons q3 .nil)),.of_defaults hd (X _ _ ho) hs (h₁ _ _ _) (h₂ _ _ _)⟩
noncomputable abbrev lD (st:Addr) (chs:AV) (opp:Bool) (a:Addr) (en:Option AV):LL:=[("self",some (.ref st)),("characters",some chs),("opposite",some (.bool opp)),("rv",some (.ref a)),("end",en),("r",none)]
theorem vC {chs:AV} {m:Nat→Bool} (hm:InJ B chs m) (c:Nat) (σ:St) (X:Cx) (e:X.B=B):bF X .In (.str [c]) chs (m c) σ:=by
 subst e
 exact ⟨fun _ _ _ _ ma mb h=>hm ma mb h⟩
noncomputable def dUs (dx tdx:Addr) (t:List Nat) (chs:AV) (opp:Bool) (en r:Option AV) (q:SS) (l:List AV) (ps:List DV) (rest:OL):DS:=
 ⟨[("self",some (.slot 0)),("characters",some (.av chs)),("opposite",some (.av (.bool opp))),("rv",some (.slot 3)),("end",en.map .av),("r",r.map .av)],(3,.list l ps)::dOS 0 dx tdx t q [],rest⟩
theorem rD (hB:IsB B) (hm:InJ B chs m) {opp:Bool} {args:List AV} (ha:args=[.ref st,chs]∧opp=false∨args=[.ref st,chs,.bool opp]) {k₀:Nat} {q₀:SS} {r₀:List Nat} (hu:bH B st dx tx tdx er t (fun x=>m x==opp) k₀ q₀ r₀ q') (hk:k₀≤1000) (hr:r₀.length≤16777216):
 a4 B 4 156 args (oS st dx tx tdx er t q₀ rest) fun d o=>d=.str r₀∧o=oS st dx tx tdx er t q' rest:=by
 refine a4.dropH ?_
 refine mN (ds:=[.ref st,chs,.bool opp]) ["self","characters","opposite"] ["rv","end","r"] (by rw [hB.K];rfl) (by rw [hB.K];kernel_rfl) (by rcases ha with ⟨rfl,rfl⟩ | rfl;exact .dflt3 rfl (by rw [hB.K];rfl) rfl (fun _ _=>rfl) (fun _ _=>rfl) mr;exact .full3 rfl (by rw [hB.K];rfl) rfl (fun _ _ _=>rfl) (fun _ _ _=>rfl)) fun L=>?_
 clear ha
 refine dI aq (by decide) fun a=>⟨_,.skip (.skip (.skip .hit)),?_⟩
 generalize hu₀:(fun x=>m x==opp)=u at hu
 refine gn (fun σ=>∃ l ms en,aD l=some ms∧ms.flatten=r₀∧σ=⟨lD st chs opp a (some en),(a,.list l)::oS st dx tx tdx er t q' rest⟩) (o5 (fun k σ=>∃ q l ms r en,bH B st dx tx tdx er t u k q r q'∧aD l=some ms∧ms.flatten++r=r₀∧l.length+k≤1000∧σ=⟨lD st chs opp a en,(a,.list l)::oS st dx tx tdx er t q rest⟩) (n:=k₀)
  ⟨q₀, [], [],r₀,none,hu,rfl,rfl,by simpa using hk,rfl⟩ ?_) ?_
 · rintro k σ ⟨q,l,ms,r,en,hu,hl,hms,hkl,rfl⟩
   obtain ⟨hi,hz⟩:=hu.here
   have hz':q.c.length≤16777216:=big hz
   have hll:l.length≤16777216:=by omega
   refine ⟨⟨lD st chs opp a en,(a,.list l)::oS st dx tx tdx er t q rest⟩,pU mc jH,?_⟩
   refine aL (σ₁:=⟨lD st chs opp a (some (.int q.i)),(a,.list l)::oS st dx tx tdx er t q rest⟩) ?_ ?_
   · cases en with
     | none=>exact dj (aE [st,tx,er,a] (dUs dx tdx t chs opp none none q l [] rest) (dUs dx tdx t chs opp (some (.int q.i)) none q l [] rest) [] .next (pxo hB) trivial)
     | some en=>exact dj (aE [st,tx,er,a] (dUs dx tdx t chs opp (some en) none q l [] rest) (dUs dx tdx t chs opp (some (.int q.i)) none q l [] rest) [] .next (pxo hB) trivial)
   have g1 :q.i≤bo u q.c q.i:=Nat.le_add_right _ _
   have g2 :=je u q.c hi
   have sin:=fun j (a:q.i≤j) (b:j < bo u q.c q.i)=>np a b hi
   have sout:∀ e,bo u q.c q.i=e→∀ h:e < q.c.length,u q.c[e]=false:=fun e he h=>by subst he;exact jL h
   obtain ⟨j,hs⟩:∃ j,bo u q.c q.i=j:=⟨_,rfl⟩
   have huS:=fun e=>hu.stops hs e
   have huE:=fun e:j=q.c.length=>hu.ends (hs.trans e)
   rw [hs] at g1 g2 sin
   have hm':q.i+(j - q.i)=j:=by omega
   refine aL (σ₁:=⟨lD st chs opp a (some (.int j)),(a,.list l)::oS st dx tx tdx er t q rest⟩) ?_ ?_
   · clear huS huE hms hu hl hr hk
     refine Ax (mS (e9.count (fun j=>⟨lD st chs opp a (some (.int j)),(a,.list l)::oS st dx tx tdx er t q rest⟩) (m:=j - q.i) (k:=q.i) ?_ ?_)) (by rw [hm'])
     · intro i p1 p2
       rw [hm'] at p2
       obtain ⟨hlt,hui⟩:=sin i p1 p2
       have hl:=f7 hlt
       have hui:(m q.c[i]==opp)=true:=by rw [←hu₀] at hui;exact hui
       generalize q.c[i]=z at hl hui
       exact ⟨dN [st,tx,er,a] (dUs dx tdx t chs opp (some (.int i)) none q l [] rest) (dUs dx tdx t chs opp (some (.int i)) none q l [] rest) [.br true,.ch z,.cmp (m z),.br true] (pxo hB) (qa (qa (qa (qa (qa trivial (show (!decide ((i:Int)=(q.c.length:Int)))=true by rw [decide_eq_false (by omega)];rfl)) hl) hz') (vC hm z ((dUs dx tdx t chs opp (some (.int i)) none q l [] rest).to [st,tx,er,a]))) hui),
        aE [st,tx,er,a] (dUs dx tdx t chs opp (some (.int i)) none q l [] rest) (dUs dx tdx t chs opp (some (.int (i+1:Nat))) none q l [] rest) [] .next (pxo hB) trivial⟩
     · rw [hm']
       by_cases hlt:j < q.c.length
       · have hl:=f7 hlt
         have hui:(m q.c[j]==opp)=false:=by
          have:=sout j hs hlt
          rw [←hu₀] at this
          exact this
         generalize q.c[j]=z at hl hui
         exact dN [st,tx,er,a] (dUs dx tdx t chs opp (some (.int j)) none q l [] rest) (dUs dx tdx t chs opp (some (.int j)) none q l [] rest) [.br true,.ch z,.cmp (m z),.br false] (pxo hB) (qa (qa (qa (qa (qa trivial (show (!decide ((j:Int)=(q.c.length:Int)))=true by rw [decide_eq_false (by omega)];rfl)) hl) hz') (vC hm z ((dUs dx tdx t chs opp (some (.int j)) none q l [] rest).to [st,tx,er,a]))) hui)
       · exact dN [st,tx,er,a] (dUs dx tdx t chs opp (some (.int j)) none q l [] rest) (dUs dx tdx t chs opp (some (.int j)) none q l [] rest) [.br false] (pxo hB) (qa trivial (show (!decide ((j:Int)=(q.c.length:Int)))=false by rw [decide_eq_true (by omega)];rfl))
   · clear sin sout
     by_cases hlt:j < q.c.length
     · obtain ⟨rfl,rfl⟩:=huS hlt
       have e2:decide ((j:Int)=(q.c.length:Int))=false:=decide_eq_false (by omega)
       clear huS huE
       by_cases hei:j=q.i
       · subst hei
         exact cE (aE [st,tx,er,a] (dUs dx tdx t chs opp (some (.int q.i)) none q l [] rest) (dUs dx tdx t chs opp (some (.int q.i)) none q l [] rest) [.br true,.br true] .brk (pxo hB) (qa (qa trivial (decide_eq_true (rfl:(q.i:Int)=q.i))) (show (!decide ((q.i:Int)=(q.c.length:Int)))=true by rw [e2];rfl))) (.inr ⟨rfl,rfl,l,ms,.int q.i,hl,by rw [←hms,tX hi,List.append_nil],rfl⟩)
       · exact cE (aE [st,tx,er,a] (dUs dx tdx t chs opp (some (.int j)) none q l [] rest) (dUs dx tdx t chs opp (some (.int j)) none { q with i:=j } l [.av (.str (sl q.c (some (q.i:Int)) (some (j:Int))))] rest) [.br false,.br true] .brk (pxo hB) (qa (qa (qa (qa trivial (decide_eq_false (show ¬ (j:Int)=(q.i:Int) by omega))) (show (!decide ((j:Int)=(q.c.length:Int)))=true by rw [e2];rfl)) hz') hll)) (.inr ⟨rfl,rfl,l++[.str (sl q.c (some (q.i:Int)) (some (j:Int)))],ms++[sl q.c (some (q.i:Int)) (some (j:Int))],.int j,dE hl,by rw [←hms];simp,rfl⟩)
     · obtain rfl:j=q.c.length:=by omega
       refine x22 (huE rfl) ?_;rintro b q₁ hrd hq
       clear huS huE hlt hs hm' hu
       have hrd':=a4.ahead (o:=oS st dx tx tdx er t q rest) (o':=oS st dx tx tdx er t q₁ rest) (a:=(a,.list (l++[.str (sl q.c (some (q.i:Int)) none)]))) (hrd (rest++[_]))
       refine aL (σ₁:=⟨lD st chs opp a (some (.int q.c.length)),(a,.list l)::oS st dx tx tdx er t q rest⟩) (dj ?_) ?_
       · by_cases hei:q.c.length=q.i
         · exact aE [st,tx,er,a] (dUs dx tdx t chs opp (some (.int q.c.length)) none q l [] rest) (dUs dx tdx t chs opp (some (.int q.c.length)) none q l [] rest) [.br true,.br false] .next (pxo hB) (qa (qa trivial (decide_eq_true (show (q.c.length:Int)=(q.i:Int) by omega))) (show (!decide ((q.i:Int)=(q.c.length:Int)))=false by rw [decide_eq_true (by omega)];rfl))
         · exact aE [st,tx,er,a] (dUs dx tdx t chs opp (some (.int q.c.length)) none q l [] rest) (dUs dx tdx t chs opp (some (.int q.c.length)) none q l [] rest) [.br false,.br false] .next (pxo hB) (qa (qa trivial (decide_eq_false (show ¬ (q.c.length:Int)=(q.i:Int) by omega))) (show (!decide ((q.c.length:Int)=(q.c.length:Int)))=false by rw [decide_eq_true rfl];rfl))
       rcases hq with ⟨rfl,rfl,rfl⟩ | ⟨rfl,k₁,r₁,hk₁,rfl,hu⟩
       · exact cE (aE [st,tx,er,a] (dUs dx tdx t chs opp (some (.int q.c.length)) none q l [] rest) (dUs dx tdx t chs opp (some (.int q.c.length)) none q₁ (l++[.str (sl q.c (some (q.i:Int)) none)]) [] rest) [.call 0 (.av (.bool false)) ((3,.list (l++[.str (sl q.c (some (q.i:Int)) none)]) [])::dOS 0 dx tdx t q₁ []) rest 3,.br false] .brk (pxo hB) (qa (qa (qa (qa trivial hz') hll) hrd') ff)) (.inr ⟨rfl,rfl,l++[.str (sl q.c (some (q.i:Int)) none)],ms++[sl q.c (some (q.i:Int)) none],.int q.c.length,dE hl,by rw [←hms];simp,rfl⟩)
       · exact cE (aE [st,tx,er,a] (dUs dx tdx t chs opp (some (.int q.c.length)) none q l [] rest) (dUs dx tdx t chs opp (some (.int q.c.length)) none q₁ (l++[.str (sl q.c (some (q.i:Int)) none)]) [] rest) [.call 0 (.av (.bool true)) ((3,.list (l++[.str (sl q.c (some (q.i:Int)) none)]) [])::dOS 0 dx tdx t q₁ []) rest 3,.br true] .next (pxo hB) (qa (qa (qa (qa trivial hz') hll) hrd') tt)) (.inl ⟨rfl,k₁,hk₁,q₁,l++[.str (sl q.c (some (q.i:Int)) none)],ms++[sl q.c (some (q.i:Int)) none],r₁,some (.int q.c.length),hu,dE hl,by rw [←hms];simp,by simp;omega,rfl⟩)
 · intro _ z9;refine x33 z9 ?_;clear z9;rintro l ms en hl hms rfl
   refine aL (g9 (iu (eS rfl) (qh PySem.F.slot_str_join PySem.F.type_str_join) c9 (ai (a6 (.tail _ (.tail _ (.tail _ (.head _))))) aq) (ql (.head _) hl (by rw [hms];exact hr))) (bk (.skip (.skip (.skip (.skip (.skip .hit))))))) ?_
   exact cE (fJ (fS (a6 (.tail _ (.tail _ (.tail _ (.tail _ (.tail _ (.head _))))))))) ⟨_,rfl,oS st dx tx tdx er t q' rest,[(a,.list l)],List.perm_append_comm (l₁:=[(a,AO.list l)]),by rw [←hms],rfl⟩
end
section
variable {e test:Expr} {pos:Pos} {body:List Stmt}
section
variable {X:Cx} {σ σ₁ σ₂:St} {Q:Bool→St→Prop} {QF:PF} {R:AV→St→Prop} {loc:LL} {objs objs':OL} {o d:AV} {m:Nat} {f a:Addr} {l:List AV}
theorem xH {name:Str} {apos:Pos} {args:List Expr} {ds:List AV} {pl:Sem Bool} {g self:Addr} {P:AV→OL→Prop} (h1:Ev X e σ o σ₁) (hm:qk X o name (.meth g self) σ₁) (hf:fnIn X.B.K g=true) (h2:EvL X args σ₁ ds ⟨loc,objs⟩)
 (c :a4 X.B m g (.ref self::ds) objs P) (hn:m≤X.n)
 (he:autoParam (eval (.Call (.Attribute e name apos) args [] pos) X.env=(do
  let ov ←eval e X.env
  standAt apos.atName
  let (f,first) ←holding [ov] (getMethod ov name pl)
  callWith pos f first (backTo pos (starEach args X.env)) [])) bR) (hp:autoParam ((backTo pos (starEach args X.env)).any (·.1)=false) bR):EvQ X (.Call (.Attribute e name apos) args [] pos) σ fun d σ'=>∃ q,P d q∧σ'=⟨loc,q⟩:=
 ⟨fun H Φ h=>by
 rw [he]
 refine af (h1.run _ _ fun vo=>ag ?_)
 refine bN (a8 (hm.run _ vo pl (fun p F σ₂=>p.2=[]∧σ₂=σ₁∧Is X.B.P F p.1 (.meth g self)) hd0 fun v F hv=>⟨rfl,rfl,hv⟩)) ?_
 rintro ⟨v,fs⟩ F σ₂ ⟨rfl,rfl,hv⟩
 refine ⟨(v,.meth g self)::(vo,o)::H,fun _ h=>.tail _ h,fun x hx=>?_,?_⟩
 · rcases mC0 hx with rfl | hx
   · exact .inr hv
   · exact .inl hx
 · exact mT hd0 hf (h2.run _ _ _ fun vs hl=>kL (List.mem_append_right _ hd0) c hn hl (fun _ hp=>List.mem_append_left _ hp) fun d' o' w v=>h _ _ _ ⟨o',w,rfl⟩) hp⟩
structure TeQ (X:Cx) (e:Expr) (σ:St) (Q:Bool→St→Prop):Prop where
 run:∀ (H:HL) (Φ:Bool→St→Prop),(∀ b σ',Q b σ'→Φ b σ')→WB X.B X.n X.L (isTrue e X.env (eval e X.env)) H σ Φ
theorem x3 (h1:EvQ X e σ R) (h2:∀ d σ',R d σ'→∃ c,gI X d c σ'∧Q c σ') (hs:∀ whole,isTrue e X.env whole=(do let v ←whole;standAt e.pos;holding [v] (truthy v)):=by with_unfolding_all exact fun _=>rfl):TeQ X e σ Q:=
 ⟨fun _ _ h=>jb (h1.run _ _ fun _ d σ' w=>by refine x12 (h2 d σ' w) ?_;rintro c w1 w2;exact w1.run _ _ _ hd0 (h _ _ w2)) hs⟩
theorem qQ {t:Expr} {attr:Str} {p:Pos} (h1:EvQ X e σ R) (h2:∀ d σ',R d σ'→∃ o σ₁ σ₂,Ev X t σ' o σ₁∧kX X o attr d σ₁ σ₂∧QF .next σ₂) (hs:autoParam (swapsWith e (some (.Attribute t attr p)) pos.line X.env=pure false) bR):ExQ X (.Assign [.Attribute t attr p] e pos) σ QF:=
 ⟨fun H Φ h=>cS (h1.run _ _ fun v d σ' w=>by
  refine x33 (h2 d σ' w) ?_;rintro o σ₁ σ₂ w1 w2 w3
  exact w1.run _ _ fun _=>w2.run _ _ _ _ hd0 hd1 (h _ _ w3)) hs⟩
end
section
variable {γ:Type} {B:a5} {n m:Nat} {L:Addr} {YJ:γ→AV→OL→Prop} {RJ:OL→Prop} {c:Code} {fs:List Frame} {tr:List γ} {σ σ':St} {K:Flow→Sem Fin} {Hh:Value→Sem Fin} {gd:Bool→Bool} {lv:List Value→List Value} {env:Env}
noncomputable def Rnd (B:a5) (m:Nat) (L:Addr) (YJ:γ→AV→OL→Prop) (RJ:OL→Prop) (test:Expr) (body:List Stmt) (env:Env) (fs:List Frame) (tr:List γ) (b:Bool) (σ':St):Prop:=
 (b=true→∀ Hh,GW B m L YJ RJ (.whileLoop test body [] env) fs ((execs body env).wrap (fun f=>match f with
  | .next | .cont=>.pure (.again (.whileLoop test body [] env))
  | .brk=>.pure (.done .next)
  | .ret v=>.pure (.done (.ret v))) Hh id id) tr σ')∧
 (b=false→GW B m L YJ RJ (.whileLoop test body [] env) fs (.pure (.done .next)) tr σ')
theorem GW.roundQ (hr:bD m n (.whileLoop test body [] env) fs) (h:TeQ ⟨B,n,L,env⟩ test σ (Rnd B m L YJ RJ test body env fs tr)):GW B m L YJ RJ (.whileLoop test body [] env) fs (B.M.den (.whileLoop test body [] env)) tr σ:=
 GW.round hr (h.run _ _ fun _ _ w=>w)
theorem GW.roundY (hr:bD m n (.whileLoop test body [] env) fs) (h:Te ⟨B,n,L,env⟩ test σ true σ') (k:∀ Hh,GW B m L YJ RJ (.whileLoop test body [] env) fs ((execs body env).wrap (fun f=>match f with
 | .next | .cont=>.pure (.again (.whileLoop test body [] env))
 | .brk=>.pure (.done .next)
 | .ret v=>.pure (.done (.ret v))) Hh id id) tr σ'):GW B m L YJ RJ (.whileLoop test body [] env) fs (B.M.den (.whileLoop test body [] env)) tr σ:=
 GW.round hr (h.run _ _ ⟨fun _=>k,fun e=>nomatch e⟩)
theorem GW.roundN (hr:bD m n (.whileLoop test body [] env) fs) (h:Te ⟨B,n,L,env⟩ test σ false σ') (k:GW B m L YJ RJ (.whileLoop test body [] env) fs (.pure (.done .next)) tr σ'):GW B m L YJ RJ (.whileLoop test body [] env) fs (B.M.den (.whileLoop test body [] env)) tr σ:=
 GW.round hr (h.run _ _ ⟨nofun,fun _=>k⟩)
theorem GW.yieldsE {x:γ} {d:AV} {yp:Pos} (hr:bD m n c fs) (hfs:splitAtGen fs=none) (hfg:fs.any Frame.guarded=false)
 (h:Ev ⟨B,n,L,env⟩ e σ d σ') (hy:YJ x d σ'.objs) (k:GW B m L YJ RJ c fs (K .next) tr σ') (hgd:autoParam (gd false=false) bR) (hco:autoParam (env.scope.isCoroutine=false) bR) (hi:autoParam (interactive env=false) bR):
 GW B m L YJ RJ c fs ((exec (.Expr (.Yield (some e) yp) pos) env).wrap K Hh gd lv) (x::tr) σ:=GW.yields hr hfs hgd hfg (h.run _ _ fun _=>⟨hy,k⟩) hco hi
end
section
variable {γ:Type} {B:a5} {st dx tx tdx er tk kdx lf:Addr} {t:List Nat} {g:AV→SS→γ} {P:SS→Prop}
noncomputable abbrev tS (st dx tx tdx er tk kdx lf qa:Addr) (t:List Nat) (q:SS) (f:Addr) (cur:AV) (ks:List AV) (rest:OL):OL:=
 oS st dx tx tdx er t q (tkO st f tk kdx lf qa cur::(qa,.list ks)::rest)
noncomputable def YJt (st dx tx tdx er tk kdx lf:Addr) (t:List Nat) (g:AV→SS→γ) (x:γ) (d:AV) (o:OL):Prop:=∃ qa q f cur ks rest,x=g d q∧o=tS st dx tx tdx er tk kdx lf qa t q f cur ks rest
noncomputable def RJt (st dx tx tdx er tk kdx lf:Addr) (t:List Nat) (P:SS→Prop) (o:OL):Prop:=∃ qa q f cur ks rest,P q∧o=tS st dx tx tdx er tk kdx lf qa t q f cur ks rest
noncomputable abbrev uc (e:AV):AV:=.dct [("type",.int 7),("data",e)]
noncomputable def rh (B:a5) (st dx tx tdx er tk kdx lf qa:Addr) (t:List Nat) (g:AV→SS→γ) (P:SS→Prop):Nat→SS→Addr→AV→OL→List γ→Prop
 | 0=>fun _ _ _ _ _=>False
 | k+1=>fun q f cur rest tr=>fnIn B.K f=true∧a4 B 5 f [.ref tk] (tS st dx tx tdx er tk kdx lf qa t q f cur [] rest) fun d o=>∃ q' f' cur' ks rest',o=tS st dx tx tdx er tk kdx lf qa t q' f' cur' ks rest'∧
  ((d=.bool false∧tr=[]∧P q')∨(d=.bool true∧q'.es.length≤16777216∧ks.length≤16777216∧∃ tr',tr=(q'.es.map fun e=>g (uc e) q')++((ks.map fun d=>g d q')++tr')∧rh B st dx tx tdx er tk kdx lf qa t g P k { q' with es:=[] } f' cur' rest' tr'))
noncomputable def AD (g:AV→SS→γ):Prop:=∀ d q es,g d { q with es:=es }=g d q
end
noncomputable def dTk (kdx lf:Addr) (f:Addr) (cur:DV):Nat×DO:=(0,.inst 762 kdx [("stream",.slot 1),("parser",.av .none),("escapeFlag",.av (.bool false)),("lastFourChars",.av (.ref lf)),("state",.meth f 0),("escape",.av (.bool false)),("currentToken",cur),("tokenQueue",.slot 4)])
noncomputable def dTS (dx tdx kdx lf:Addr) (t:List Nat) (q:SS) (f:Addr) (cur:DV) (ks:List AV) (ps:List DV) (r:List (Nat×DO)):List (Nat×DO):=
 dSO 1 dx tdx q.c q.c.length q.i q.pl q.pc q.buf t q.p q.es [] (dTk kdx lf f cur::(4,.list ks ps)::r)
theorem tE {γ:Type} {B:a5} {st dx tx tdx er tk kdx lf f:Addr} {cur:AV} {t:List Nat} {g:AV→SS→γ} {P:SS→Prop} {rest:OL} (hB:IsB B) (hg:AD g) {k:Nat} {q:SS} {tr:List γ} {n:Nat}
 (hT : ∀ qa,rh B st dx tx tdx er tk kdx lf qa t g P k q f cur rest tr):
 eH B n 6 tk (oS st dx tx tdx er t q ((tk,.inst 762 kdx (rO st f tk lf cur))::rest)) (YJt st dx tx tdx er tk kdx lf t g) (RJt st dx tx tdx er tk kdx lf t P) tr:=by
 refine eH.of (f:=268) (C:=762) (pself:="self") (by rw [hB.K];rfl) (.tail _ (.tail _ (.tail _ (.head _)))) (by rw [hB.K];kernel_rfl) (by rw [hB.K];kernel_rfl) (by rw [hB.K];kernel_rfl) (.one fun _=>rfl) fun L=>?_
 refine GW.body fun Hh=>GW.steps (GW.stmt (n:=5) c6 ((qQ (X:=⟨B,5,L,_⟩) (ti aq (by decide)) ?_).run _ _ fun f σ' q=>q))
 intro _ _ z9;refine x12 z9 ?_;clear z9;rintro qa rfl rfl
 refine' ⟨.ref tk,_,_,a6 (.head _),k7 (.tail _ (.tail _ (.tail _ (.tail _ (.head _))))) (.skip (by kernel_rfl) (.skip (by kernel_rfl) (.skip (by kernel_rfl) (.skip (by kernel_rfl) (.skip (by kernel_rfl) (.skip (by kernel_rfl) (.skip (by kernel_rfl) .new))))))) (.tail (.tail (.tail (.tail .head)))) (by rw [hB.K];kernel_rfl),rfl,?_⟩
 refine GW.perm (objs':=tS st dx tx tdx er tk kdx lf qa t q f cur [] rest) (rest:=[]) (by rw [List.append_nil];exact (List.perm_middle (l₁:=[_,_,_,_])).symm) ?_
 refine GW.steps (GW.whiles fun p kk hk=>?_)
 replace hT:=hT qa
 induction k generalizing q f cur rest tr with
 | zero=>exact hT.elim
 | succ k ih=>
  obtain ⟨hf,hc⟩:=hT
  refine GW.roundQ (n:=5) (aP c6) (x3 (xH (a6 (.head _)) (Aw (.tail _ (.tail _ (.tail _ (.head _)))) (.skip (by kernel_rfl) (.skip (by kernel_rfl) (.skip (by kernel_rfl) (.skip (by kernel_rfl) .hit)))) (by rw [hB.K];kernel_rfl) (by rw [hB.K];kernel_rfl) rfl) hf aq hc (lB0 rfl)) ?_)
  intro d _ z9;refine x12 z9 ?_;clear z9;rintro _ ⟨⟨c,i,pl,pc,buf,pp,es⟩,f',cur',ks,rest',rfl,hd⟩ rfl
  clear hc
  rcases hd with ⟨rfl,rfl,hp⟩ | ⟨rfl,he,hks,tr',htr,hT'⟩
  · refine ⟨false,jH,nofun,fun _=>?_⟩
    refine GW.back ?_
    rw [hk]
    exact GW.over ⟨qa,_,f',cur',ks,rest',hp,rfl⟩
  · refine ⟨true,jH,fun _ Hh'=>?_,nofun⟩
    refine GW.steps (GW.whiles fun p₁ kk₁ hk₁=>?_)
    dsimp only at he htr hT' ⊢
    have hge:∀ d es,g d ⟨c,i,pl,pc,buf,pp,es⟩=g d ⟨c,i,pl,pc,buf,pp,[]⟩:=fun d es=>hg d ⟨c,i,pl,pc,buf,pp,[]⟩ es
    simp only [hge] at htr
    subst htr
    induction es with
    | cons e es ihe=>
     have hez:es.length≤16777215:=by simpa using he
     have hez':(e::es).length≤16777216:=he
     refine GW.roundY (n:=5) (σ':=⟨[("self",some (.ref tk))],tS st dx tx tdx er tk kdx lf qa t ⟨c,i,pl,pc,buf,pp,e::es⟩ f' cur' ks rest'⟩) (aP (aP c6)) (kS (c:= !(e::es).isEmpty) ?_ rfl) fun Hh₂=>GW.steps ?_
     · exact dN [tk,st,tx,er,qa] ⟨[("self",some (.slot 0))],dTS dx tdx kdx lf t ⟨c,i,pl,pc,buf,pp,e::es⟩ f' (.av cur') ks [] [],rest'⟩ ⟨[("self",some (.slot 0))],dTS dx tdx kdx lf t ⟨c,i,pl,pc,buf,pp,e::es⟩ f' (.av cur') ks [] [],rest'⟩ [.br true] (pxo hB) (_root_.Mine.qa (_root_.Mine.qa trivial hez') tt)
     rw [List.map_cons,List.cons_append]
     refine GW.yieldsE (n:=5) (σ':=⟨[("self",some (.ref tk))],tS st dx tx tdx er tk kdx lf qa t ⟨c,i,pl,pc,buf,pp,es⟩ f' cur' ks rest'⟩) (d:=uc e) (aP (aP c6)) rfl rfl ?_ ⟨qa,⟨c,i,pl,pc,buf,pp,es⟩,f',cur',ks,rest',(hge _ _).symm,rfl⟩ (GW.turn rfl (ihe (by exact Nat.le_of_lt ‹_›)))
     exact jU [tk,st,tx,er,qa] ⟨[("self",some (.slot 0))],dTS dx tdx kdx lf t ⟨c,i,pl,pc,buf,pp,e::es⟩ f' (.av cur') ks [] [],rest'⟩ ⟨[("self",some (.slot 0))],dTS dx tdx kdx lf t ⟨c,i,pl,pc,buf,pp,es⟩ f' (.av cur') ks [] [],rest'⟩ [] (.av (uc e)) (pxo hB) (_root_.Mine.qa trivial hez)
    | nil=>
     refine GW.roundN (n:=5) (σ':=⟨[("self",some (.ref tk))],tS st dx tx tdx er tk kdx lf qa t ⟨c,i,pl,pc,buf,pp,[]⟩ f' cur' ks rest'⟩) (aP (aP c6)) (kS (c:= !([]:List AV).isEmpty) ?_ rfl) ?_
     · exact dN [tk,st,tx,er,qa] ⟨[("self",some (.slot 0))],dTS dx tdx kdx lf t ⟨c,i,pl,pc,buf,pp,[]⟩ f' (.av cur') ks [] [],rest'⟩ ⟨[("self",some (.slot 0))],dTS dx tdx kdx lf t ⟨c,i,pl,pc,buf,pp,[]⟩ f' (.av cur') ks [] [],rest'⟩ [.br false] (pxo hB) (_root_.Mine.qa (_root_.Mine.qa trivial (big (Nat.le_refl 0))) ff)
     refine GW.back ?_
     rw [hk₁]
     refine GW.steps (GW.whiles fun p₂ kk₂ hk₂=>?_)
     rw [List.map_nil,List.nil_append]
     clear he
     induction ks with
     | cons e ks ihk=>
      have hez:ks.length≤16777215:=by simpa using hks
      refine GW.roundY (n:=5) (σ':=⟨[("self",some (.ref tk))],tS st dx tx tdx er tk kdx lf qa t ⟨c,i,pl,pc,buf,pp,[]⟩ f' cur' (e::ks) rest'⟩) (aP (aP c6)) (kS (c:= !(e::ks).isEmpty) ?_ rfl) fun Hh₂=>GW.steps ?_
      · exact dN [tk,st,tx,er,qa] ⟨[("self",some (.slot 0))],dTS dx tdx kdx lf t ⟨c,i,pl,pc,buf,pp,[]⟩ f' (.av cur') (e::ks) [] [],rest'⟩ ⟨[("self",some (.slot 0))],dTS dx tdx kdx lf t ⟨c,i,pl,pc,buf,pp,[]⟩ f' (.av cur') (e::ks) [] [],rest'⟩ [.br true] (pxo hB) (_root_.Mine.qa (_root_.Mine.qa trivial (show (e::ks).length≤16777216 from hks)) tt)
      rw [List.map_cons,List.cons_append]
      refine GW.yieldsE (n:=5) (σ':=⟨[("self",some (.ref tk))],tS st dx tx tdx er tk kdx lf qa t ⟨c,i,pl,pc,buf,pp,[]⟩ f' cur' ks rest'⟩) (d:=e) (aP (aP c6)) rfl rfl ?_ ⟨qa,⟨c,i,pl,pc,buf,pp,[]⟩,f',cur',ks,rest',rfl,rfl⟩ (GW.turn rfl (ihk (by exact Nat.le_of_lt ‹_›)))
      exact jU [tk,st,tx,er,qa] ⟨[("self",some (.slot 0))],dTS dx tdx kdx lf t ⟨c,i,pl,pc,buf,pp,[]⟩ f' (.av cur') (e::ks) [] [],rest'⟩ ⟨[("self",some (.slot 0))],dTS dx tdx kdx lf t ⟨c,i,pl,pc,buf,pp,[]⟩ f' (.av cur') ks [] [],rest'⟩ [] (.av e) (pxo hB) (_root_.Mine.qa trivial hez)
     | nil=>
      refine GW.roundN (n:=5) (σ':=⟨[("self",some (.ref tk))],tS st dx tx tdx er tk kdx lf qa t ⟨c,i,pl,pc,buf,pp,[]⟩ f' cur' [] rest'⟩) (aP (aP c6)) (kS (c:= !([]:List AV).isEmpty) ?_ rfl) ?_
      · exact dN [tk,st,tx,er,qa] ⟨[("self",some (.slot 0))],dTS dx tdx kdx lf t ⟨c,i,pl,pc,buf,pp,[]⟩ f' (.av cur') [] [] [],rest'⟩ ⟨[("self",some (.slot 0))],dTS dx tdx kdx lf t ⟨c,i,pl,pc,buf,pp,[]⟩ f' (.av cur') [] [] [],rest'⟩ [.br false] (pxo hB) (_root_.Mine.qa (_root_.Mine.qa trivial (big (Nat.le_refl 0))) ff)
      refine GW.back ?_
      rw [hk₂]
      exact GW.turn rfl (ih hT')
end
section
set_option genInjectivity false
noncomputable def a3 (B:a5) (st dx tx tdx er:Addr) (t:List Nat) (m:Nat) (f:Addr) (args:List AV) (d:AV) (q q':SS):Prop:=∀ rest,a4 B m f (.ref st::args) (oS st dx tx tdx er t q rest) fun d' o=>d'=d∧o=oS st dx tx tdx er t q' rest
noncomputable def dCm (acc:List Nat):Nat×DO:=(5,.dict [("type",.av (.int 6)),("data",.av (.str acc))])
theorem kzj {n:Nat} (j:Nat) (h:n≤1000) (hj:autoParam (Nat.ble j 1000=true) bR):n+j≤16777216:=nT0 (Nat.add_le_add h (lB0 hj)) (by decide)
theorem lz1 {z:Nat} {r:List Nat} (h:r.length≤16777000):([z]:List Nat).length+r.length≤16777216:=nT0 (Nat.add_le_add (Nat.le_refl 1) h) (by decide)
theorem lz2 {acc:List Nat} {k:Nat} (h:acc.length≤16777000) (hk:autoParam (Nat.ble k 200=true) bR):acc.length+k≤16777216:=nT0 (Nat.add_le_add h (lB0 hk)) (by decide)
theorem lz3 (k:Nat) (h:autoParam (Nat.ble k 16777216=true) bR):k≤16777216:=lB0 h
theorem lz4 {acc r:List Nat} {z:Nat} (h:acc.length+r.length≤16777000):acc.length+([z]++r).length≤16777216:=by
 rw [List.singleton_append,List.length_cons,←Nat.add_assoc]
 exact nT0 (Nat.succ_le_succ h) (by decide)
noncomputable abbrev eE (x:String):AV:=.dct [("type",.int 7),("data",.str (sg x))]
noncomputable abbrev KJ (B:a5) (f tk:Addr) (o:OL) (b:Bool) (o':OL):Prop:=a4 B 5 f [.ref tk] o fun d z=>d=.bool b∧z=o'
section
variable {B:a5} {n:Nat} {name qual:Str} {params:Arguments} {body:List Stmt} {scope:Scope} {dV kV doc pm cdv ct oc:Value} {an od:Option Addr} {osl:Array (Option Value)} {f:Addr} {args:List AV} {objs:OL} {q:Prop}
theorem b9 {objs':OL} (xs:List Str) (ρ:List Addr) (os:List (Nat×DO)) (rest:OL) (hints:List c7) (b:Bool) (os':List (Nat×DO)) (hB:IsB B) (hq:q)
 (ho:autoParam ((dR B.P).lookup f=some ⟨oc,od,.func (fnOf name qual params body scope dV kV doc pm an cdv ct),osl⟩) bR) (hb:b8 B (fnOf name qual params body scope dV kV doc pm an cdv ct) ["self"] args (tos ρ [.slot 0]):=by exact .one fun _=>rfl)
 (eo:autoParam (a2 ρ rest os=objs) bK) (e2:autoParam (a2 ρ rest os'=objs') bK)
 (ck:autoParam ((codeIn (dR B.P) cdv qual&&fW scope&&cM ((["self"]:List Str)++xs)&&(["self"]:List Str).all (fun y=>scope.names.lookup y==some .local)&&Nat.beq 1 1)=true) bK) (fu:autoParam (ku scope=true) bK)
 (e:∀ L,(ob (exB (eX (P:=⟨⟨B,n,L,envOf qual scope L f cdv⟩,dR B.P,ρ,glT,[]⟩) ⟨hB.K,(d8 fu).1,rfl,rfl,rfl,d6 hB,nofun⟩ 60) body ⟨⟨o8 ["self"] [.slot 0] xs,os,rest⟩,0,hints,True⟩) fun p=>q5 p.1.1 p.1.2)=some ⟨q,0,.av (.bool b),os',rest⟩:=by intro L;kernel_rfl):
 a4 B (n+1) f args objs fun d o=>d=.bool b∧o=objs':=d9 ["self"] xs ρ [.slot 0] os rest hints (.av (.bool b)) os' rest hB ho hb hq eo rfl e2 ck fu e
end
section
variable {B:a5} {R:OL} {st dx tx w er g v u lf f da:Addr} {t:List Nat} {cur:AV} {q q₁ q₂:SS} {ks:List AV} {z:Nat} {r a:List Nat}
theorem se (hB:IsB B) (hc:a3 B st dx tx w er t 4 133 [] (.str [60]) q q₁) (hk:ks.length≤1000):
 KJ B 304 g (tS st dx tx w er g v lf u t q f cur ks R) true (tS st dx tx w er g v lf u t q₁ 353 cur ks R):=
 b9 ["data","chars"] [g,st,tx,er,u] (dTS dx w v lf t q f (.av cur) ks [] []) R [.call 0 (.av (.str [60])) (dTS dx w v lf t q₁ f (.av cur) ks [] []) R 4,.br false,.br true] true (dTS dx w v lf t q₁ 353 (.av cur) ks [] []) hB (qa (qa (qa trivial (hc (a2 [g,st,tx,er,u] R (dTk v lf f (.av cur)::(4,.list ks [])::[])))) ff) tt)
theorem o3 (hB:IsB B) (hc:a3 B st dx tx w er t 4 133 [] .none q q₁) (hk:ks.length≤1000):
 KJ B 304 g (tS st dx tx w er g v lf u t q f cur ks R) false (tS st dx tx w er g v lf u t q₁ f cur ks R):=
 b9 ["data","chars"] [g,st,tx,er,u] (dTS dx w v lf t q f (.av cur) ks [] []) R [.call 0 (.av .none) (dTS dx w v lf t q₁ f (.av cur) ks [] []) R 4] false (dTS dx w v lf t q₁ f (.av cur) ks [] []) hB (qa trivial (hc (a2 [g,st,tx,er,u] R (dTk v lf f (.av cur)::(4,.list ks [])::[]))))
theorem px (hB:IsB B) (hc:a3 B st dx tx w er t 4 133 [] (.str [z]) q q₁) (h1:z≠38) (h2:z≠60) (h3:z≠0) (h4:decide ([z]∈ar)=true) (hu:a3 B st dx tx w er t 4 156 [.tup (ar.map .str),.bool true] (.str r) q₁ q₂) (hr:r.length≤16777000) (hk:ks.length≤1000):
 KJ B 304 g (tS st dx tx w er g v lf u t q f cur ks R) true (tS st dx tx w er g v lf u t q₂ f cur (ks++[.dct [("type",.int 2),("data",.str (z::r))]]) R):=
 b9 ["data","chars"] [g,st,tx,er,u] (dTS dx w v lf t q f (.av cur) ks [] []) R [.call 0 (.av (.str [z])) (dTS dx w v lf t q₁ f (.av cur) ks [] []) R 4,.br false,.br false,.br false,.br true,.call 0 (.av (.str r)) (dTS dx w v lf t q₂ f (.av cur) ks [] []) R 4] true (dTS dx w v lf t q₂ f (.av cur) ks [.av (.dct [("type",.int 2),("data",.str (z::r))])] []) hB (qa (qa (qa (qa (qa (qa (qa (qa trivial (hc (a2 [g,st,tx,er,u] R (dTk v lf f (.av cur)::(4,.list ks [])::[])))) (ne1 h1)) (ne1 h2)) (ne1 h3)) h4) (hu (a2 [g,st,tx,er,u] R (dTk v lf f (.av cur)::(4,.list ks [])::[])))) (lz1 (z:=z) hr)) (kzj 0 hk))
theorem qC (hB:IsB B) (hc:a3 B st dx tx w er t 4 133 [] (.str [z]) q q₁) (h1:z≠38) (h2:z≠60) (h3:z≠0) (h4:decide ([z]∈ar)=false) (hu:a3 B st dx tx w er t 4 156 [.tup [.str [38],.str [60],.str [0]]] (.str r) q₁ q₂) (hr:r.length≤16777000) (hk:ks.length≤1000):
 KJ B 304 g (tS st dx tx w er g v lf u t q f cur ks R) true (tS st dx tx w er g v lf u t q₂ f cur (ks++[.dct [("type",.int 1),("data",.str (z::r))]]) R):=
 b9 ["data","chars"] [g,st,tx,er,u] (dTS dx w v lf t q f (.av cur) ks [] []) R [.call 0 (.av (.str [z])) (dTS dx w v lf t q₁ f (.av cur) ks [] []) R 4,.br false,.br false,.br false,.br false,.call 0 (.av (.str r)) (dTS dx w v lf t q₂ f (.av cur) ks [] []) R 4] true (dTS dx w v lf t q₂ f (.av cur) ks [.av (.dct [("type",.int 1),("data",.str (z::r))])] []) hB (qa (qa (qa (qa (qa (qa (qa (qa trivial (hc (a2 [g,st,tx,er,u] R (dTk v lf f (.av cur)::(4,.list ks [])::[])))) (ne1 h1)) (ne1 h2)) (ne1 h3)) h4) (hu (a2 [g,st,tx,er,u] R (dTk v lf f (.av cur)::(4,.list ks [])::[])))) (lz1 (z:=z) hr)) (kzj 0 hk))
theorem ol (hB:IsB B) (hc:a3 B st dx tx w er t 4 133 [] (.str [33]) q q₁) (hk:ks.length≤1000):
 KJ B 353 g (tS st dx tx w er g v lf u t q f cur ks R) true (tS st dx tx w er g v lf u t q₁ 605 cur ks R):=
 b9 ["data"] [g,st,tx,er,u] (dTS dx w v lf t q f (.av cur) ks [] []) R [.call 0 (.av (.str [33])) (dTS dx w v lf t q₁ f (.av cur) ks [] []) R 4,.br true] true (dTS dx w v lf t q₁ 605 (.av cur) ks [] []) hB (qa (qa trivial (hc (a2 [g,st,tx,er,u] R (dTk v lf f (.av cur)::(4,.list ks [])::[])))) tt)
theorem uH (hB:IsB B) (hc:a3 B st dx tx w er t 4 133 [] (.str [47]) q q₁) (hk:ks.length≤1000):
 KJ B 353 g (tS st dx tx w er g v lf u t q f cur ks R) true (tS st dx tx w er g v lf u t q₁ 360 cur ks R):=
 b9 ["data"] [g,st,tx,er,u] (dTS dx w v lf t q f (.av cur) ks [] []) R [.call 0 (.av (.str [47])) (dTS dx w v lf t q₁ f (.av cur) ks [] []) R 4,.br false,.br true] true (dTS dx w v lf t q₁ 360 (.av cur) ks [] []) hB (qa (qa (qa trivial (hc (a2 [g,st,tx,er,u] R (dTk v lf f (.av cur)::(4,.list ks [])::[])))) ff) tt)
theorem ta (hB:IsB B) (hc:a3 B st dx tx w er t 4 133 [] (.str [62]) q q₁) (hk:ks.length≤1000):
 KJ B 353 g (tS st dx tx w er g v lf u t q f cur ks R) true (tS st dx tx w er g v lf u t q₁ 304 cur (ks++[eE "expected-tag-name-but-got-right-bracket",.dct [("type",.int 1),("data",.str [60,62])]]) R):=
 b9 ["data"] [g,st,tx,er,u] (dTS dx w v lf t q f (.av cur) ks [] []) R [.call 0 (.av (.str [62])) (dTS dx w v lf t q₁ f (.av cur) ks [] []) R 4,.br false,.br false,.br false,.br true] true (dTS dx w v lf t q₁ 304 (.av cur) ks [.av (eE "expected-tag-name-but-got-right-bracket"),.av (.dct [("type",.int 1),("data",.str [60,62])])] []) hB (qa (qa (qa (qa (qa (qa (qa trivial (hc (a2 [g,st,tx,er,u] R (dTk v lf f (.av cur)::(4,.list ks [])::[])))) ff) ff) ff) tt) (kzj 0 hk)) (kzj 1 hk))
theorem xh (hB:IsB B) (hc:a3 B st dx tx w er t 4 133 [] (.str [63]) q q₁) (hu:a3 B st dx tx w er t 1 163 [.str [63]] .none q₁ q₂) (hk:ks.length≤1000):
 KJ B 353 g (tS st dx tx w er g v lf u t q f cur ks R) true (tS st dx tx w er g v lf u t q₂ 598 cur (ks++[eE "expected-tag-name-but-got-question-mark"]) R):=
 b9 ["data"] [g,st,tx,er,u] (dTS dx w v lf t q f (.av cur) ks [] []) R [.call 0 (.av (.str [63])) (dTS dx w v lf t q₁ f (.av cur) ks [] []) R 4,.br false,.br false,.br false,.br false,.br true,.call 0 (.av .none) (dTS dx w v lf t q₂ f (.av cur) ks [.av (eE "expected-tag-name-but-got-question-mark")] []) R 1] true (dTS dx w v lf t q₂ 598 (.av cur) ks [.av (eE "expected-tag-name-but-got-question-mark")] []) hB (qa (qa (qa (qa (qa (qa (qa (qa trivial (hc (a2 [g,st,tx,er,u] R (dTk v lf f (.av cur)::(4,.list ks [])::[])))) ff) ff) ff) ff) tt) (kzj 0 hk)) (hu (a2 [g,st,tx,er,u] R (dTk v lf f (.av cur)::(4,.list ks [.av (eE "expected-tag-name-but-got-question-mark")])::[]))))
theorem oo (hB:IsB B) (hc:a3 B st dx tx w er t 4 133 [] (.str [z]) q q₁) (h1:z≠33) (h2:z≠47) (h3:decide ([z]∈aX)=false) (h4:z≠62) (h5:z≠63) (hu:a3 B st dx tx w er t 1 163 [.str [z]] .none q₁ q₂) (hk:ks.length≤1000):
 KJ B 353 g (tS st dx tx w er g v lf u t q f cur ks R) true (tS st dx tx w er g v lf u t q₂ 304 cur (ks++[eE "expected-tag-name",.dct [("type",.int 1),("data",.str [60])]]) R):=
 b9 ["data"] [g,st,tx,er,u] (dTS dx w v lf t q f (.av cur) ks [] []) R [.call 0 (.av (.str [z])) (dTS dx w v lf t q₁ f (.av cur) ks [] []) R 4,.br false,.br false,.br false,.br false,.br false,.call 0 (.av .none) (dTS dx w v lf t q₂ f (.av cur) ks [.av (eE "expected-tag-name"),.av (.dct [("type",.int 1),("data",.str [60])])] []) R 1] true (dTS dx w v lf t q₂ 304 (.av cur) ks [.av (eE "expected-tag-name"),.av (.dct [("type",.int 1),("data",.str [60])])] []) hB (qa (qa (qa (qa (qa (qa (qa (qa (qa trivial (hc (a2 [g,st,tx,er,u] R (dTk v lf f (.av cur)::(4,.list ks [])::[])))) (ne1 h1)) (ne1 h2)) h3) (ne1 h4)) (ne1 h5)) (kzj 0 hk)) (kzj 1 hk)) (hu (a2 [g,st,tx,er,u] R (dTk v lf f (.av cur)::(4,.list ks [.av (eE "expected-tag-name"),.av (.dct [("type",.int 1),("data",.str [60])])])::[]))))
theorem Aa (hB:IsB B) (hc:a3 B st dx tx w er t 4 133 [] (.str [62]) q q₁) (hk:ks.length≤1000):
 KJ B 360 g (tS st dx tx w er g v lf u t q f cur ks R) true (tS st dx tx w er g v lf u t q₁ 304 cur (ks++[eE "expected-closing-tag-but-got-right-bracket"]) R):=
 b9 ["data"] [g,st,tx,er,u] (dTS dx w v lf t q f (.av cur) ks [] []) R [.call 0 (.av (.str [62])) (dTS dx w v lf t q₁ f (.av cur) ks [] []) R 4,.br false,.br true] true (dTS dx w v lf t q₁ 304 (.av cur) ks [.av (eE "expected-closing-tag-but-got-right-bracket")] []) hB (qa (qa (qa (qa trivial (hc (a2 [g,st,tx,er,u] R (dTk v lf f (.av cur)::(4,.list ks [])::[])))) ff) tt) (kzj 0 hk))
theorem pq (hB:IsB B) (hc:a3 B st dx tx w er t 4 133 [] (.str [z]) q q₁) (h3:decide ([z]∈aX)=false) (h4:z≠62) (hu:a3 B st dx tx w er t 1 163 [.str [z]] .none q₁ q₂) (hk:ks.length≤1000):
 KJ B 360 g (tS st dx tx w er g v lf u t q f cur ks R) true (tS st dx tx w er g v lf u t q₂ 598 cur (ks++[.dct [("type",.int 7),("data",.str (sg "expected-closing-tag-but-got-char")),("datavars",.dct [("data",.str [z])])]]) R):=
 b9 ["data"] [g,st,tx,er,u] (dTS dx w v lf t q f (.av cur) ks [] []) R [.call 0 (.av (.str [z])) (dTS dx w v lf t q₁ f (.av cur) ks [] []) R 4,.br false,.br false,.call 0 (.av .none) (dTS dx w v lf t q₂ f (.av cur) ks [.av (.dct [("type",.int 7),("data",.str (sg "expected-closing-tag-but-got-char")),("datavars",.dct [("data",.str [z])])])] []) R 1] true (dTS dx w v lf t q₂ 598 (.av cur) ks [.av (.dct [("type",.int 7),("data",.str (sg "expected-closing-tag-but-got-char")),("datavars",.dct [("data",.str [z])])])] []) hB (qa (qa (qa (qa (qa trivial (hc (a2 [g,st,tx,er,u] R (dTk v lf f (.av cur)::(4,.list ks [])::[])))) h3) (ne1 h4)) (kzj 0 hk)) (hu (a2 [g,st,tx,er,u] R (dTk v lf f (.av cur)::(4,.list ks [.av (.dct [("type",.int 7),("data",.str (sg "expected-closing-tag-but-got-char")),("datavars",.dct [("data",.str [z])])])])::[]))))
theorem yw (hB:IsB B) (hc:a3 B st dx tx w er t 4 133 [] (.str [62]) q q₁) (hk:ks.length≤1000):
 KJ B 612 g (tS st dx tx w er g v lf u t q f (.ref da) ks ((da,dc a)::R)) true (tS st dx tx w er g v lf u t q₁ 304 (.ref da) (ks++[eE "incorrect-comment",gH a]) R):=
 b9 ["data"] [g,st,tx,er,u,da] (dTS dx w v lf t q f (.slot 5) ks [] [dCm a]) R [.call 0 (.av (.str [62])) (dTS dx w v lf t q₁ f (.slot 5) ks [] [dCm a]) R 4,.br false,.br false,.br true] true (dTS dx w v lf t q₁ 304 (.slot 5) ks [.av (eE "incorrect-comment"),.av (gH a)] []) hB (qa (qa (qa (qa (qa (qa trivial (hc (a2 [g,st,tx,er,u,da] R (dTk v lf f (.slot 5)::(4,.list ks [])::[dCm a])))) ff) ff) tt) (kzj 0 hk)) (kzj 1 hk))
theorem qw (hB:IsB B) (hc:a3 B st dx tx w er t 4 133 [] (.str [z]) q q₁) (h1:z≠45) (h2:z≠0) (h3:z≠62) (ha:a.length≤16777000) (hk:ks.length≤1000):
 KJ B 612 g (tS st dx tx w er g v lf u t q f (.ref da) ks ((da,dc a)::R)) true (tS st dx tx w er g v lf u t q₁ 626 (.ref da) ks ((da,dc (a++[z]))::R)):=
 b9 ["data"] [g,st,tx,er,u,da] (dTS dx w v lf t q f (.slot 5) ks [] [dCm a]) R [.call 0 (.av (.str [z])) (dTS dx w v lf t q₁ f (.slot 5) ks [] [dCm a]) R 4,.br false,.br false,.br false] true (dTS dx w v lf t q₁ 626 (.slot 5) ks [] [dCm (a++[z])]) hB (qa (qa (qa (qa (qa trivial (hc (a2 [g,st,tx,er,u,da] R (dTk v lf f (.slot 5)::(4,.list ks [])::[dCm a])))) (ne1 h1)) (ne1 h2)) (ne1 h3)) (lz2 (k:=1) ha))
theorem q9 (hB:IsB B) (hc:a3 B st dx tx w er t 4 133 [] (.str [45]) q q₁) (hk:ks.length≤1000):
 KJ B 626 g (tS st dx tx w er g v lf u t q f (.ref da) ks ((da,dc a)::R)) true (tS st dx tx w er g v lf u t q₁ 633 (.ref da) ks ((da,dc a)::R)):=
 b9 ["data"] [g,st,tx,er,u,da] (dTS dx w v lf t q f (.slot 5) ks [] [dCm a]) R [.call 0 (.av (.str [45])) (dTS dx w v lf t q₁ f (.slot 5) ks [] [dCm a]) R 4,.br true] true (dTS dx w v lf t q₁ 633 (.slot 5) ks [] [dCm a]) hB (qa (qa trivial (hc (a2 [g,st,tx,er,u,da] R (dTk v lf f (.slot 5)::(4,.list ks [])::[dCm a])))) tt)
theorem sa (hB:IsB B) (hc:a3 B st dx tx w er t 4 133 [] (.str [z]) q q₁) (h1:z≠45) (h2:z≠0) (hu:a3 B st dx tx w er t 4 156 [.tup [.str [45],.str [0]]] (.str r) q₁ q₂) (hr:a.length+r.length≤16777000) (hk:ks.length≤1000):
 KJ B 626 g (tS st dx tx w er g v lf u t q f (.ref da) ks ((da,dc a)::R)) true (tS st dx tx w er g v lf u t q₂ f (.ref da) ks ((da,dc (a++([z]++r)))::R)):=
 b9 ["data"] [g,st,tx,er,u,da] (dTS dx w v lf t q f (.slot 5) ks [] [dCm a]) R [.call 0 (.av (.str [z])) (dTS dx w v lf t q₁ f (.slot 5) ks [] [dCm a]) R 4,.br false,.br false,.call 0 (.av (.str r)) (dTS dx w v lf t q₂ f (.slot 5) ks [] [dCm a]) R 4] true (dTS dx w v lf t q₂ f (.slot 5) ks [] [dCm (a++([z]++r))]) hB (qa (qa (qa (qa (qa (qa trivial (hc (a2 [g,st,tx,er,u,da] R (dTk v lf f (.slot 5)::(4,.list ks [])::[dCm a])))) (ne1 h1)) (ne1 h2)) (hu (a2 [g,st,tx,er,u,da] R (dTk v lf f (.slot 5)::(4,.list ks [])::[dCm a])))) (lz1 (z:=z) (nT0 (Nat.le_add_left _ _) hr))) (lz4 (z:=z) hr))
theorem rQ (hB:IsB B) (hc:a3 B st dx tx w er t 4 133 [] (.str [45]) q q₁) (hk:ks.length≤1000):
 KJ B 633 g (tS st dx tx w er g v lf u t q f (.ref da) ks ((da,dc a)::R)) true (tS st dx tx w er g v lf u t q₁ 640 (.ref da) ks ((da,dc a)::R)):=
 b9 ["data"] [g,st,tx,er,u,da] (dTS dx w v lf t q f (.slot 5) ks [] [dCm a]) R [.call 0 (.av (.str [45])) (dTS dx w v lf t q₁ f (.slot 5) ks [] [dCm a]) R 4,.br true] true (dTS dx w v lf t q₁ 640 (.slot 5) ks [] [dCm a]) hB (qa (qa trivial (hc (a2 [g,st,tx,er,u,da] R (dTk v lf f (.slot 5)::(4,.list ks [])::[dCm a])))) tt)
theorem ru (hB:IsB B) (hc:a3 B st dx tx w er t 4 133 [] (.str [z]) q q₁) (h1:z≠45) (h2:z≠0) (ha:a.length≤16777000) (hk:ks.length≤1000):
 KJ B 633 g (tS st dx tx w er g v lf u t q f (.ref da) ks ((da,dc a)::R)) true (tS st dx tx w er g v lf u t q₁ 626 (.ref da) ks ((da,dc (a++([45]++[z])))::R)):=
 b9 ["data"] [g,st,tx,er,u,da] (dTS dx w v lf t q f (.slot 5) ks [] [dCm a]) R [.call 0 (.av (.str [z])) (dTS dx w v lf t q₁ f (.slot 5) ks [] [dCm a]) R 4,.br false,.br false] true (dTS dx w v lf t q₁ 626 (.slot 5) ks [] [dCm (a++([45]++[z]))]) hB (qa (qa (qa (qa (qa trivial (hc (a2 [g,st,tx,er,u,da] R (dTk v lf f (.slot 5)::(4,.list ks [])::[dCm a])))) (ne1 h1)) (ne1 h2)) (lz3 2)) (lz2 (k:=2) ha))
theorem xt (hB:IsB B) (hc:a3 B st dx tx w er t 4 133 [] (.str [62]) q q₁) (hk:ks.length≤1000):
 KJ B 640 g (tS st dx tx w er g v lf u t q f (.ref da) ks ((da,dc a)::R)) true (tS st dx tx w er g v lf u t q₁ 304 (.ref da) (ks++[gH a]) R):=
 b9 ["data"] [g,st,tx,er,u,da] (dTS dx w v lf t q f (.slot 5) ks [] [dCm a]) R [.call 0 (.av (.str [62])) (dTS dx w v lf t q₁ f (.slot 5) ks [] [dCm a]) R 4,.br true] true (dTS dx w v lf t q₁ 304 (.slot 5) ks [.av (gH a)] []) hB (qa (qa (qa trivial (hc (a2 [g,st,tx,er,u,da] R (dTk v lf f (.slot 5)::(4,.list ks [])::[dCm a])))) tt) (kzj 0 hk))
theorem qD (hB:IsB B) (hc:a3 B st dx tx w er t 4 133 [] (.str [33]) q q₁) (hk:ks.length≤1000):
 KJ B 640 g (tS st dx tx w er g v lf u t q f (.ref da) ks ((da,dc a)::R)) true (tS st dx tx w er g v lf u t q₁ 647 (.ref da) (ks++[eE "unexpected-bang-after-double-dash-in-comment"]) ((da,dc a)::R)):=
 b9 ["data"] [g,st,tx,er,u,da] (dTS dx w v lf t q f (.slot 5) ks [] [dCm a]) R [.call 0 (.av (.str [33])) (dTS dx w v lf t q₁ f (.slot 5) ks [] [dCm a]) R 4,.br false,.br false,.br true] true (dTS dx w v lf t q₁ 647 (.slot 5) ks [.av (eE "unexpected-bang-after-double-dash-in-comment")] [dCm a]) hB (qa (qa (qa (qa (qa trivial (hc (a2 [g,st,tx,er,u,da] R (dTk v lf f (.slot 5)::(4,.list ks [])::[dCm a])))) ff) ff) tt) (kzj 0 hk))
theorem qM (hB:IsB B) (hc:a3 B st dx tx w er t 4 133 [] (.str [z]) q q₁) (h0:z≠62) (h1:z≠45) (h2:z≠0) (h3:z≠33) (ha:a.length≤16777000) (hk:ks.length≤1000):
 KJ B 640 g (tS st dx tx w er g v lf u t q f (.ref da) ks ((da,dc a)::R)) true (tS st dx tx w er g v lf u t q₁ 626 (.ref da) (ks++[eE "unexpected-char-in-comment"]) ((da,dc (a++([45,45]++[z])))::R)):=
 b9 ["data"] [g,st,tx,er,u,da] (dTS dx w v lf t q f (.slot 5) ks [] [dCm a]) R [.call 0 (.av (.str [z])) (dTS dx w v lf t q₁ f (.slot 5) ks [] [dCm a]) R 4,.br false,.br false,.br false,.br false] true (dTS dx w v lf t q₁ 626 (.slot 5) ks [.av (eE "unexpected-char-in-comment")] [dCm (a++([45,45]++[z]))]) hB (qa (qa (qa (qa (qa (qa (qa (qa trivial (hc (a2 [g,st,tx,er,u,da] R (dTk v lf f (.slot 5)::(4,.list ks [])::[dCm a])))) (ne1 h0)) (ne1 h2)) (ne1 h3)) (ne1 h1)) (kzj 0 hk)) (lz3 3)) (lz2 (k:=3) ha))
theorem yr (hB:IsB B) (hc:a3 B st dx tx w er t 4 133 [] (.str [62]) q q₁) (hk:ks.length≤1000):
 KJ B 647 g (tS st dx tx w er g v lf u t q f (.ref da) ks ((da,dc a)::R)) true (tS st dx tx w er g v lf u t q₁ 304 (.ref da) (ks++[gH a]) R):=
 b9 ["data"] [g,st,tx,er,u,da] (dTS dx w v lf t q f (.slot 5) ks [] [dCm a]) R [.call 0 (.av (.str [62])) (dTS dx w v lf t q₁ f (.slot 5) ks [] [dCm a]) R 4,.br true] true (dTS dx w v lf t q₁ 304 (.slot 5) ks [.av (gH a)] []) hB (qa (qa (qa trivial (hc (a2 [g,st,tx,er,u,da] R (dTk v lf f (.slot 5)::(4,.list ks [])::[dCm a])))) tt) (kzj 0 hk))
end
end
section
variable {l:List Nat} {c i:Nat}
open Builtin Builtin.Str PySem.StrLaws
noncomputable def cw (l y:List Nat) (i:Nat):Bool:=(l.drop i).take y.length==y
theorem gU (l y:List Nat) (i:Nat):subAt (S l) (S y) i=cw l y i:=by
 rw [subAt_eq];simp [cw,am]
theorem dB {y:List Nat} {hi limit:Nat} (nov:∀ i j,cw l y i=true→cw l y j=true→i < j→i+y.length≤j):∀ (n a:Nat) (acc:Array Nat) (free:Nat),acc.size+n≤limit→(∀ i,a≤i→cw l y i=true→free≤i)→
 (forIn (List.range' a n) (acc,free) (occBody (S l) (S y) hi limit)).run.fst.toList=acc.toList++(List.range' a n).filter (fun i=>decide (i+y.length≤hi)&&cw l y i)
 | 0, a,acc,free,_,_=>by simp
 | n +1,a,acc,free,hs,hf=>by
  rw [List.range'_succ,List.forIn_cons]
  by_cases h:(a+y.length≤hi)∧cw l y a=true
  · have hb:occBody (S l) (S y) hi limit a (acc,free)=pure (ForInStep.yield (acc.push a,a+y.length)):=by
     unfold occBody
     rw [if_pos (by rw [am,gU];exact ⟨⟨⟨by show acc.size < limit;omega,hf a (Nat.le_refl _) h.2⟩,h.1⟩,h.2⟩),am]
    refine hb▸?_
    have ih:=dB (hi:=hi) (limit:=limit) nov n (a+1) (acc.push a) (a+y.length) (by rw [Array.size_push];omega) fun i hi hh=>nov a i h.2 hh ‹_›
    show (forIn (List.range' (a+1) n) (acc.push a,a+y.length) (occBody (S l) (S y) hi limit)).run.fst.toList= _
    rw [ih,List.filter_cons,if_pos (by simp [h.1,h.2])]
    simp
  · have hb:occBody (S l) (S y) hi limit a (acc,free)=pure (ForInStep.yield (acc,free)):=by
     unfold occBody
     rw [if_neg (by rw [am,gU];exact fun q=>h ⟨q.1.2,q.2⟩)]
    refine hb▸?_
    have ih:=dB (hi:=hi) (limit:=limit) nov n (a+1) acc free (by exact Nat.le_of_lt ‹_›) fun i hi hh=>hf i (by exact Nat.le_of_lt ‹_›) hh
    show (forIn (List.range' (a+1) n) (acc,free) (occBody (S l) (S y) hi limit)).run.fst.toList= _
    rw [ih,List.filter_cons,if_neg (by simp;exact fun q=>by have:=fun z=>h ⟨q,z⟩;simpa using this)]
theorem gQ:cw l [c] i=true↔l[i]? =some c:=take1_drop
theorem vk:∀ i j,cw l [c] i=true→cw l [c] j=true→i < j→i+[c].length≤j:=fun i j _ _ h=>h
theorem gx (l:List Nat) (c:Nat):∀ n,n≤l.length→((List.range' 0 n).filter fun i=>cw l [c] i).length=(l.take n).count c
 | 0,_=>rfl
 | n+1,h=>by
  rw [List.range'_1_concat,List.filter_append,List.length_append,gx l c n (by exact Nat.le_of_lt ‹_›),List.take_add_one,List.count_append,Nat.zero_add]
  congr 1
  have hn:n < l.length:=h
  rw [List.getElem?_eq_getElem hn,List.filter_cons]
  by_cases e:l[n]=c
  · rw [if_pos (gQ.mpr (by rw [List.getElem?_eq_getElem hn,e]))];simp [e]
  · rw [if_neg (by rw [gQ,List.getElem?_eq_getElem hn];simpa using e)];simp [e]
theorem eI (h:i≤l.length):aY c l i=(l.take i).count c:=by
 unfold aY
 rw [aT h,Nat.min_eq_left h,occ_eq,Nat.sub_zero,dB vk (i+1) 0 #[] 0 (by show 0+(i+1)≤_;omega) fun _ _ _=>Nat.zero_le _]
 rw [List.range'_1_concat,List.filter_append,←gx l c i h]
 have:(List.range' 0 i).filter (fun j=>decide (j+[c].length≤i)&&cw l [c] j)=(List.range' 0 i).filter fun j=>cw l [c] j:=
  List.filter_congr fun j hj=>by
   have:j < i:=by simpa using (List.mem_range'.mp hj)
   simp;omega
 rw [this]
 simp
 simp+arith
theorem el {y:List Nat} {hi:Nat}:∀ (n a:Nat) (st:Option Nat),(forIn (List.range' a n) st (lastBody (S l) (S y) hi)).run=(((List.range' a n).filter fun i=>decide (i+y.length≤hi)&&cw l y i).getLast?).or st
 | 0, a,st=>by rfl
 | n +1,a,st=>by
  rw [List.range'_succ,List.forIn_cons]
  by_cases h:(a+y.length≤hi)∧cw l y a=true
  · have hb:lastBody (S l) (S y) hi a st=pure (ForInStep.yield (some a)):=by
     unfold lastBody
     rw [if_pos (by rw [am,gU];exact h)]
    rw [hb]
    show (forIn (List.range' (a+1) n) (some a) (lastBody (S l) (S y) hi)).run= _
    rw [el n (a+1),List.filter_cons,if_pos (by simp [h.1,h.2]),List.getLast?_cons]
    cases (List.filter (fun i=>decide (i+y.length≤hi)&&cw l y i) (List.range' (a+1) n)).getLast?<;>rfl
  · have hb:lastBody (S l) (S y) hi a st=pure (ForInStep.yield st):=by
     unfold lastBody
     rw [if_neg (by rw [am,gU];exact h)]
    rw [hb]
    show (forIn (List.range' (a+1) n) st (lastBody (S l) (S y) hi)).run= _
    rw [el n (a+1),List.filter_cons,if_neg (by simp;exact fun q=>by have:=fun z=>h ⟨q,z⟩;simpa using this)]
noncomputable def bq (a:Int) (l:List Nat):Int:=l.foldl (fun a c=>if c=10 then 0 else a+1) a
theorem iI (l:List Nat) (pc:Int):∀ n,n≤l.length→bq pc (l.take n)=match ((List.range' 0 n).filter fun i=>cw l [10] i).getLast? with | none=>pc+n | some j=>(n:Int) - (j+1)
 | 0,_=>by simp [bq]
 | n +1,h=>by
  have hn:n < l.length:=h
  have ih:=iI l pc n (by exact Nat.le_of_lt ‹_›)
  rw [List.take_add_one,List.getElem?_eq_getElem hn]
  rw [List.range'_1_concat,List.filter_append,Nat.zero_add]
  unfold bq at ih ⊢
  rw [List.foldl_append,ih]
  by_cases e:l[n]=10
  · have hh:cw l [10] n=true:=gQ.mpr (by rw [List.getElem?_eq_getElem hn,e])
    rw [List.filter_cons,if_pos hh]
    simp [e]
  · have hh:¬ cw l [10] n=true:=by rw [gQ,List.getElem?_eq_getElem hn];simpa using e
    rw [List.filter_cons,if_neg hh]
    simp only [List.filter_nil,List.append_nil,Option.toList_some,List.foldl_cons,List.foldl_nil,if_neg e]
    induction ((List.range' 0 n).filter fun i=>cw l [10] i).getLast? using Option.casesOn with
    | none=>simp;exact Int.add_assoc _ _ _
    | some j=>simp;simp+arith
theorem lH (h:i≤l.length):cY 10 l i=match ((List.range' 0 i).filter fun i=>cw l [10] i).getLast? with | none=> -1 | some j=>(j:Int):=by
 unfold cY
 rw [aT h,Nat.min_eq_left h,last_eq,Nat.sub_zero,el]
 have:(List.range' 0 (i+1)).filter (fun j=>decide (j+[10].length≤i)&&cw l [10] j)=(List.range' 0 i).filter fun j=>cw l [10] j:=by
  rw [List.range'_1_concat,List.filter_append]
  rw [List.filter_congr (q:=fun j=>cw l [10] j) fun j hj=>by
   have:j < i:=by simpa using (List.mem_range'.mp hj)
   simp;omega]
  simp
  simp+arith
 rw [this,Option.or_none]
 cases ((List.range' 0 i).filter fun j=>cw l [10] j).getLast?<;>rfl
end
section
variable {l:List Nat} {k:Nat} {q:SS}
open Builtin Builtin.Str PySem.StrLaws
theorem g0 {y z:List Nat} (hy:y≠[]) (h:∀ i,cw l y i=false):e8 l y z=l:=by
 have occ:occurrences (S l) (S y) 0 (S l).length ((S l).length+1)=[]:=by
  rw [am,occ_eq,Nat.sub_zero,dB (fun i j hi=>absurd hi (by rw [h];exact Bool.false_ne_true)) (l.length+1) 0 #[] 0 (by show 0+_≤_;simp+arith) fun _ _ _=>Nat.zero_le _]
  simp [h]
 unfold e8 Txt.replace
 have hyl:((S y).length==0)=false:=by
  rw [am];cases y with | nil=>exact absurd rfl hy | cons _ _=>rfl
 rw [hyl,Bool.false_and,Bool.or_false,occ]
 simp [S]
theorem lm {c:Nat} {r:List Nat} (h:c∉l) (i:Nat):cw l (c::r) i=false:=by
 unfold cw
 rw [beq_eq_false_iff_ne]
 intro q
 cases hd:l.drop i with
 | nil=>rw [hd] at q;simp at q
 | cons a t=>
  rw [hd,List.length_cons,List.take_succ_cons] at q
  exact h ((List.cons.inj q).1▸List.mem_of_mem_drop (hd▸List.mem_cons_self))
theorem lh (h:13∉l):bE l=l∧e8 l [13,10] [10]=l∧e8 l [13] [10]=l:=by
 have h1:=g0 (z:=[10]) (List.cons_ne_nil 13 [10]) (lm h)
 have h2:=g0 (z:=[10]) (List.cons_ne_nil 13 []) (lm h)
 exact ⟨by unfold bE;rw [h1,h2],h1,h2⟩
structure dr (T:List Nat):Prop where
 len:T.length≤1000
 no13:13∉T
 fine:∀ c∈T,inv (c:Int)=false∧c < 1114112∧¬ (55296≤c∧c≤56319)
theorem dr.bads {T:List Nat} (h:dr T):bads T=[]:=by
 unfold Mine.bads
 rw [List.filter_eq_nil_iff.mpr fun c hc=>by rw [(h.fine c hc).1];exact Bool.false_ne_true]
 rfl
theorem dr.size {T:List Nat} (h:dr T):T.length≤16777216:=nT0 h.len (by decide)
section
variable {B:a5} {st dx tx tdx er:Addr} {T:List Nat}
theorem uV {t:List Nat} {p:Int} (h:(t.length:Int)≤p):sl t (some p) (some (p+10240))=[]:=by
 have e:bx t.length p=t.length:=jK h
 rw [f6]
 rw [e,List.drop_eq_nil_of_le]
 rw [List.length_take];omega
theorem fB {pc:Int} {i:Nat} (h:i≤l.length):cB pc l i=bq pc (l.take i):=by
 unfold cB
 rw [lH h,iI l pc i h]
 cases ((List.range' 0 i).filter fun i=>cw l [10] i).getLast? with
 | none=>simp
 | some j=>
  dsimp only
  rw [if_neg (show ¬ ((j:Int)= -1) by simp+arith)]
end
end
section
set_option genInjectivity false
section
variable {B:a5} {u:OL} {st dx tx w er tk R qa lf f da:Addr} {t:List Nat} {cur d:AV} {q q₁ q₂ q₃ q₄:SS} {ks:List AV} {z:Nat} {r acc:List Nat}
theorem s5:("\x00":Str)=S [0]:=by kernel_rfl
theorem pS:("�":Str)=S [65533]:=by kernel_rfl
theorem nA (hB:IsB B) (hu:a3 B st dx tx w er t 4 156 [.str [62]] (.str r) q q₁) (hc:a3 B st dx tx w er t 4 133 [] d q₁ q₂) (hr:r.length≤1000000) (h0:0∉r) (hk:ks.length≤1000):
 a4 B 5 598 [.ref tk] (tS st dx tx w er tk R lf qa t q f cur ks u) fun d o=>d=.bool true∧o=tS st dx tx w er tk R lf qa t q₂ 304 cur (ks++[.dct [("type",.int 6),("data",.str r)]]) u:=by
 have e:e8 r [0] [65533]=r:=g0 (List.cons_ne_nil _ _) (lm h0)
 refine iG ["self"] ["data"] (by rw [hB.K];rfl) (by rw [hB.K];kernel_rfl) (.one fun _=>rfl) fun L=>?_
 refine ⟨.ret (.bool true),[("self",some (.ref tk)),("data",some (.str r))],tS st dx tx w er tk R lf qa t q₂ 304 cur (ks++[.dct [("type",.int 6),("data",.str r)]]) u,Ec (σ₁:=⟨[("self",some (.ref tk)),("data",some (.str r))],tS st dx tx w er tk R lf qa t q₁ f cur ks u⟩) (Mk.assignCall rfl rfl) (dj (aE [tk,st,tx,er,qa] ⟨[("self",some (.slot 0)),("data",none)],dTS dx w R lf t q f (.av cur) ks [] [],u⟩ ⟨[("self",some (.slot 0)),("data",some (.av (.str r)))],dTS dx w R lf t q₁ f (.av cur) ks [] [],u⟩ [.call 0 (.av (.str r)) (dTS dx w R lf t q₁ f (.av cur) ks [] []) u 4] .next (pxo hB) (_root_.Mine.qa trivial (hu (a2 [tk,st,tx,er,qa] u [dTk R lf f (.av cur),(4,.list ks [])]))))) ?_,rfl,rfl⟩
 refine hV s5 pS (.tail _ (.head _)) (.skip .hit) (nT0 hr (by decide)) ?_
 rw [e]
 exact zV (aE [tk,st,tx,er,qa] ⟨[("self",some (.slot 0)),("data",some (.av (.str r)))],dTS dx w R lf t q₁ f (.av cur) ks [] [],u⟩ ⟨[("self",some (.slot 0)),("data",some (.av (.str r)))],dTS dx w R lf t q₂ 304 (.av cur) ks [.av (gH r)] [],u⟩
  [.call 0 (.av d) (dTS dx w R lf t q₂ f (.av cur) ks [.av (gH r)] []) u 4] (.ret (.av (.bool true))) (pxo hB) (_root_.Mine.qa (_root_.Mine.qa trivial (kzj 0 hk)) (hc (a2 [tk,st,tx,er,qa] u [dTk R lf f (.av cur),(4,.list ks [.av (gH r)])]))))
theorem hJ {B:a5} {n:Nat} {f:Addr} {args:List AV} {o:OL} {Φ:AV→OL→Prop} (c:a4 B n f args o fun d q=>∃ q' g,q.Perm (q'++g)∧Φ d q'):a4 B n f args o Φ:=a4.drop c
theorem lz7 (k:Nat) (h:autoParam (Nat.ble k 16777000=true) bR):k≤16777000:=lB0 h
theorem qV (hB:IsB B) (hc1:a3 B st dx tx w er t 4 133 [] (.str [45]) q q₁) (hc2:a3 B st dx tx w er t 4 133 [] (.str [45]) q₁ q₂) (hk:ks.length≤1000):
 a4 B 5 605 [.ref tk] (tS st dx tx w er tk R lf qa t q f cur ks u) fun d o=>d=.bool true∧∃ a,o=tS st dx tx w er tk R lf qa t q₂ 612 (.ref a) ks ((a,dc [])::u):=
 hJ (il (k:=2) (v:=.av (.bool true)) (objs':=(dTS dx w R lf t q₂ 612 (.slot 6) ks [] [(5,.list [] [.av (.str [45]),.av (.str [45])]),(6,.dict [("type",.av (.int 6)),("data",.av (.str []))])])) (rest':=u) ["self"] ["charStack","matched","expected"] [tk,st,tx,er,qa] [.slot 0] (dTS dx w R lf t q f (.av cur) ks [] []) u [.call 0 (.av (.str [45])) (dTS dx w R lf t q₁ f (.av cur) ks [] []) u 4,.br true,.call 0 (.av (.str [45])) (dTS dx w R lf t q₂ f (.av cur) ks [] [(5,.list [] [.av (.str [45])])]) u 4,.br true] hB.K (d6 hB) rfl (.one fun _=>rfl) (hq:=_root_.Mine.qa (_root_.Mine.qa (_root_.Mine.qa (_root_.Mine.qa (_root_.Mine.qa (_root_.Mine.qa (_root_.Mine.qa trivial (hc1 (a2 [tk,st,tx,er,qa] u [dTk R lf f (.av cur),(4,.list ks [])]))) (lz7 1)) (tt)) (fun c:Addr=>hc2 (a2 [tk,st,tx,er,qa,c] u [dTk R lf f (.av cur),(4,.list ks []),(5,.list [] [.av (.str [45])])]))) (lz3 1)) (lz7 2)) (tt))
  (fun d o ⟨c,a,h1,h2⟩=>⟨tS st dx tx w er tk R lf qa t q₂ 612 (.ref a) ks ((a,dc [])::u),[(c,.list [.str [45],.str [45]])],h2▸(List.Perm.append_left [_,_,_,_,_] (List.perm_append_comm (l₁:=[_]))),h1,a,rfl⟩) (by kernel_rfl) (by kernel_rfl) (by kernel_rfl) (fun L=>by kernel_rfl))
theorem Do (hB:IsB B) (hc1:a3 B st dx tx w er t 4 133 [] (.str [45]) q q₁) (hc2:a3 B st dx tx w er t 4 133 [] (.str [z]) q₁ q₂) (h1:z≠45) (hu1:a3 B st dx tx w er t 1 163 [.str [z]] .none q₂ q₃) (hu2:a3 B st dx tx w er t 1 163 [.str [45]] .none q₃ q₄) (hk:ks.length≤1000):
 a4 B 5 605 [.ref tk] (tS st dx tx w er tk R lf qa t q f cur ks u) fun d o=>d=.bool true∧o=tS st dx tx w er tk R lf qa t q₄ 598 cur (ks++[.dct [("type",.int 7),("data",.str (sg "expected-dashes-or-doctype"))]]) u:=
 hJ (il (k:=1) (v:=.av (.bool true)) (objs':=(dTS dx w R lf t q₄ 598 (.av cur) ks [.av (.dct [("type",.int 7),("data",.str (sg "expected-dashes-or-doctype"))])] [(5,.list [] [])])) (rest':=u) ["self"] ["charStack","matched","expected"] [tk,st,tx,er,qa] [.slot 0] (dTS dx w R lf t q f (.av cur) ks [] []) u [.call 0 (.av (.str [45])) (dTS dx w R lf t q₁ f (.av cur) ks [] []) u 4,.br true,.call 0 (.av (.str [z])) (dTS dx w R lf t q₂ f (.av cur) ks [] [(5,.list [] [.av (.str [45])])]) u 4,.br false,.call 0 (.av .none) (dTS dx w R lf t q₃ f (.av cur) ks [.av (.dct [("type",.int 7),("data",.str (sg "expected-dashes-or-doctype"))])] [(5,.list [] [.av (.str [45])])]) u 1,.call 0 (.av .none) (dTS dx w R lf t q₄ f (.av cur) ks [.av (.dct [("type",.int 7),("data",.str (sg "expected-dashes-or-doctype"))])] [(5,.list [] [])]) u 1,.br false] hB.K (d6 hB) rfl (.one fun _=>rfl) (hq:=_root_.Mine.qa (_root_.Mine.qa (_root_.Mine.qa (_root_.Mine.qa (_root_.Mine.qa (_root_.Mine.qa (_root_.Mine.qa (_root_.Mine.qa (_root_.Mine.qa (_root_.Mine.qa (_root_.Mine.qa (_root_.Mine.qa (_root_.Mine.qa (_root_.Mine.qa (_root_.Mine.qa (_root_.Mine.qa trivial (hc1 (a2 [tk,st,tx,er,qa] u [dTk R lf f (.av cur),(4,.list ks [])]))) (lz7 1)) (tt)) (fun c:Addr=>hc2 (a2 [tk,st,tx,er,qa,c] u [dTk R lf f (.av cur),(4,.list ks []),(5,.list [] [.av (.str [45])])]))) (lz3 1)) (lz7 2)) (ne1 h1)) (kzj 0 hk)) (lz3 2)) (lz7 2)) (fun c:Addr=>hu1 (a2 [tk,st,tx,er,qa,c] u [dTk R lf f (.av cur),(4,.list ks [.av (.dct [("type",.int 7),("data",.str (sg "expected-dashes-or-doctype"))])]),(5,.list [] [.av (.str [45])])]))) (lz3 1)) (lz7 1)) (fun c:Addr=>hu2 (a2 [tk,st,tx,er,qa,c] u [dTk R lf f (.av cur),(4,.list ks [.av (.dct [("type",.int 7),("data",.str (sg "expected-dashes-or-doctype"))])]),(5,.list [] [])]))) (lz3 0)) (ff))
  (fun d o ⟨c,h1,h2⟩=>⟨tS st dx tx w er tk R lf qa t q₄ 598 cur (ks++[.dct [("type",.int 7),("data",.str (sg "expected-dashes-or-doctype"))]]) u,[(c,.list [])],h2▸(List.Perm.append_left [_,_,_,_,_] (List.perm_append_comm (l₁:=[_]))),h1,rfl⟩) (by kernel_rfl) (by kernel_rfl) (by kernel_rfl) (fun L=>by kernel_rfl))
theorem rI (hB:IsB B) (hc1:a3 B st dx tx w er t 4 133 [] (.str [z]) q q₁) (h1:z≠45) (h2:decide ([z]∈[[100],[68]])=false) (hu1:a3 B st dx tx w er t 1 163 [.str [z]] .none q₁ q₂) (hk:ks.length≤1000):
 a4 B 5 605 [.ref tk] (tS st dx tx w er tk R lf qa t q f cur ks u) fun d o=>d=.bool true∧o=tS st dx tx w er tk R lf qa t q₂ 598 cur (ks++[.dct [("type",.int 7),("data",.str (sg "expected-dashes-or-doctype"))]]) u:=
 hJ (il (k:=1) (v:=.av (.bool true)) (objs':=(dTS dx w R lf t q₂ 598 (.av cur) ks [.av (.dct [("type",.int 7),("data",.str (sg "expected-dashes-or-doctype"))])] [(5,.list [] [])])) (rest':=u) ["self"] ["charStack","matched","expected"] [tk,st,tx,er,qa] [.slot 0] (dTS dx w R lf t q f (.av cur) ks [] []) u [.call 0 (.av (.str [z])) (dTS dx w R lf t q₁ f (.av cur) ks [] []) u 4,.br false,.br false,.call 0 (.av .none) (dTS dx w R lf t q₂ f (.av cur) ks [.av (.dct [("type",.int 7),("data",.str (sg "expected-dashes-or-doctype"))])] [(5,.list [] [])]) u 1,.br false] hB.K (d6 hB) rfl (.one fun _=>rfl) (hq:=_root_.Mine.qa (_root_.Mine.qa (_root_.Mine.qa (_root_.Mine.qa (_root_.Mine.qa (_root_.Mine.qa (_root_.Mine.qa (_root_.Mine.qa (_root_.Mine.qa (_root_.Mine.qa (_root_.Mine.qa trivial (hc1 (a2 [tk,st,tx,er,qa] u [dTk R lf f (.av cur),(4,.list ks [])]))) (lz7 1)) (ne1 h1)) (lz7 1)) (h2)) (kzj 0 hk)) (lz3 1)) (lz7 1)) (fun c:Addr=>hu1 (a2 [tk,st,tx,er,qa,c] u [dTk R lf f (.av cur),(4,.list ks [.av (.dct [("type",.int 7),("data",.str (sg "expected-dashes-or-doctype"))])]),(5,.list [] [])]))) (lz3 0)) (ff))
  (fun d o ⟨c,h1,h2⟩=>⟨tS st dx tx w er tk R lf qa t q₂ 598 cur (ks++[.dct [("type",.int 7),("data",.str (sg "expected-dashes-or-doctype"))]]) u,[(c,.list [])],h2▸(List.Perm.append_left [_,_,_,_,_] (List.perm_append_comm (l₁:=[_]))),h1,rfl⟩) (by kernel_rfl) (by kernel_rfl) (by kernel_rfl) (fun L=>by kernel_rfl))
end
end
section
set_option genInjectivity false
noncomputable abbrev aR (ty:Int) (nm:List Nat) (la:Addr) (sc:Bool) (tl:FL):AO:=.dict (("type",.int ty)::("name",.str nm)::("data",.ref la)::("selfClosing",.bool sc)::tl)
noncomputable def dTg (ty:Int) (nm:List Nat) (sc:Bool) (tl:List (Str×DV)) (as:List AV) (ps:List DV) (r:List (Nat×DO)):List (Nat×DO):=
 (5,.dict (("type",.av (.int ty))::("name",.av (.str nm))::("data",.slot 6)::("selfClosing",.av (.bool sc))::tl))::(6,.list as ps)::r
noncomputable def dAt (k v:List Nat):Nat×DO:=(7,.list [] [.av (.str k),.av (.str v)])
section
variable {B:a5} {R:OL} {st dx tx w er g v u lf f da la lb:Addr} {t:List Nat} {q q₁ q₂:SS} {ks as:List AV} {z:Nat} {r ky vl nm:List Nat} {sc:Bool}
end
end
section
set_option genInjectivity false
noncomputable def gg (c:Nat):Nat:=if (decide (65≤c)&&decide (c≤90))=true then c+32 else c
noncomputable abbrev aC (x:List Nat):List Nat:=x.map gg
theorem nP (x:List Nat):aD (x.map fun c=>AV.str [gg c])=some (x.map fun c=>[gg c]):=by
 induction x with
 | nil=>rfl
 | cons a r ih=>show (aD (r.map fun c=>AV.str [gg c])).map _ = _;rw [ih];rfl
theorem jY (x:List Nat):(x.map fun c=>[gg c]).flatten=aC x:=by
 induction x with
 | nil=>rfl
 | cons a r ih=>exact congrArg (gg a::·) ih
theorem rK:("":Str)=S []:=by kernel_rfl
theorem l8 (x:List Nat):b3 (fun _=>true) (fun i=>AV.str [gg (x.getD i 0)]) x.length=x.map fun c=>AV.str [gg c]:=by
 have key:∀ n,n≤x.length→b3 (fun _=>true) (fun i=>AV.str [gg (x.getD i 0)]) n=(x.take n).map fun c=>AV.str [gg c]:=fun n=>by
  induction n with
  | zero=>exact fun _=>rfl
  | succ n ih=>
   intro h
   conv=>lhs;unfold b3
   rw [if_pos rfl,ih (Nat.le_of_succ_le h),List.take_add_one,List.getElem?_eq_getElem h,List.map_append,List.getD_eq_getElem?_getD,List.getElem?_eq_getElem h]
   rfl
 rw [key _ (Nat.le_refl _),List.take_length]
theorem xX {z:Nat} (h:(decide (65≤z)&&decide (z≤90))=true):0≤(z:Int)+32∧(z:Int)+32≤1114111:=by
 have:=of_decide_eq_true (au h)
 omega
theorem jd {B:a5} (hB:IsB B) {x:List Nat} (hz:x.length≤100000):bM B 2 42 [.str x] (.str (aC x)):=fun objs=>by
 refine iG ["text"] [] (by rw [hB.K];rfl) (by rw [hB.K];kernel_rfl) (.one fun _=>rfl) fun L=>?_
 refine ⟨.ret (.str (aC x)),[("text",some (.str x))],objs,fJ (fS (iu (eS rK) (qh PySem.F.slot_str_join PySem.F.type_str_join) c9 (ai
  (qj (N:=x.length) (d:=.str x) ["c"] (fun _=>true) (fun i=>.str [gg (x.getD i 0)]) (nT0 hz (by decide)) (a6 (.head _)) (fun xv=>m5) ?_ rfl) aq)
  (jY x▸tP (ms:=x.map fun c=>[gg c]) (by rw [l8];exact nP x) (by rw [jY,List.length_map];exact nT0 hz (by decide))))),rfl,rfl⟩
 intro i hi
 generalize x.getD i 0=z
 refine ⟨fun C p q=>⟨[("c",some (.str [z]))],[("c",some (.str [z]))],bU (bk .hit),jo,fun _=>?_⟩⟩
 unfold gg
 by_cases h:(decide (65≤z)&&decide (z≤90))=true
 · rw [if_pos h]
   exact jU [] ⟨[("c",some (.av (.str [z])))],[],p::q::objs⟩ ⟨[("c",some (.av (.str [z])))],[],p::q::objs⟩ [.br true] (.av (.str [z+32])) (pxo hB) (qa (qa trivial h) (xX h))
 · rw [if_neg h]
   have h:=Bool.eq_false_iff.mpr h
   exact jU [] ⟨[("c",some (.av (.str [z])))],[],p::q::objs⟩ ⟨[("c",some (.av (.str [z])))],[],p::q::objs⟩ [.br false] (.av (.str [z])) (pxo hB) (qa trivial h)
end
section
section
variable {P:Params} {G:Heap} {F F':Fz} {h:Heap} {la da:Addr} {as:List AV} {fs gs:FL} {x:Str} {R:OL}
theorem kK {P:Params} {F:Fz} {es:List DictEntry} {y:Str} {d:AV} {l:FL} (h:IsEnts P F es ((y,d)::l)):∃ t v es',es=⟨PyData.keyHash P y,.str y t,v⟩::es'∧Is P F v d∧IsEnts P F es' l:=by
 cases h with
 | cons a b=>exact ⟨_,_,_,rfl,a,b⟩
theorem IsEnts.retell {d d':AV} (le:F.le F') (k:∀ v,Is P F v d→Is P F' v d') (fs:FL):∀ {es:List DictEntry},IsEnts P F es (fs++(x,d)::gs)→IsEnts P F' es (fs++(x,d')::gs):=by
 induction fs with
 | nil=>
  intro es h
  refine x33 (kK h) ?_;rintro t v es' rfl q r
  exact .cons (k v q) (r.mono le)
 | cons a fs ih=>
  intro es h
  refine x33 (kK (y:=a.1) (d:=a.2) h) ?_;rintro t v es' rfl q r
  exact .cons (q.mono le) (ih r)
theorem c0.frzD (X:c0 P G F ((la,.list as)::(da,.dict (fs++(x,.ref la)::gs))::R) h):∃ F',F.le F'∧c0 P G F' ((da,.dict (fs++(x,.lst as)::gs))::R) h∧∀ b o,F' b=some o→F b=some o∨b=la:=by
 refine x22 (X.objs _ (.head _)) ?_;rintro vs m h1 h2
 have le:=Fz.le_put (o:=aA vs m) (X.apart la (.head _))
 have nd:=List.nodup_cons.mp X.nodup
 have here:Is P (F.put la (aA vs m)) (.ref la) (.lst as):=.lst (Fz.put_self ..) (h2.mono le)
 have back:∀ b o,F.put la (aA vs m) b=some o→F b=some o∨b=la:=fun b o e=>by
  unfold Fz.put at e
  by_cases q:b=la
  · exact .inr q
  · rw [if_neg q] at e;exact .inl e
 refine ⟨_,le,⟨fun b o e=>le _ _ (X.core b o e),fun b o e=>?_,fun p hp=>?_,nd.2,fun b hb=>?_,X.big⟩,back⟩
 · rcases back b o e with q | rfl
   · exact X.sub b o q
   · rw [Fz.put_self] at e;exact Option.some.inj e▸h1
 · rcases mC0 hp with rfl | hp
   · refine x03 (X.objs (da,.dict (fs++(x,.ref la)::gs)) (.tail _ (.head _))) ?_;rintro ⟨es,k,g1,g2⟩ g3 g4
     refine ⟨⟨es,k,g1,IsEnts.retell le (fun v q=>by obtain rfl:=al q;exact here) fs g2⟩,?_,g4⟩
     rw [List.map_append,List.map_cons] at g3 ⊢
     exact g3
   · exact (X.objs p (.tail _ (.tail _ hp))).move le fun _ _ _ e=>e
 · cases q:F.put la (aA vs m) b with
   | none=>rfl
   | some o=>
    rcases back b o q with e | rfl
    · have:=X.apart b (.tail _ hb);rw [e] at this;contradiction
    · exact absurd hb nd.1
end
theorem a4.preD {B:a5} {n:Nat} {f la da:Addr} {args as:List AV} {fs gs:FL} {x:Str} {R:OL} {Φ:AV→OL→Prop} (c:a4 B n f args ((da,.dict (fs++(x,.lst as)::gs))::R) Φ):a4 B n f args ((la,.list as)::(da,.dict (fs++(x,.ref la)::gs))::R) Φ:=
 fun A F s vs hA X hv=>by
  refine x13 X.frzD ?_;rintro F' le y back
  refine codeAny_mono (c A F' s vs hA y (hv.mono le)) fun r s' ⟨v,d,objs',F'',a,b,y',p,q⟩=>?_
  exact ⟨v,d,objs',F'',a,b,y',⟨fun b o hb=>p.keep b o fun h=>hb (.tail _ h),fun b hb=>(p.own b hb).imp_left (.tail _),
   fun b o e=>Or.elim (p.frz b o e) (fun w=>Or.imp_right (fun (z:b=la)=>Or.inl (List.mem_cons.mpr (.inl z))) (back b o w)) fun w=>.inr (Or.imp_left (.tail _) w),le.trans p.mono,p.gens,p.os⟩,q⟩
end
section
set_option genInjectivity false
noncomputable abbrev tlF (b:Bool):FL:=bif b then [("selfClosingAcknowledged",.bool false)] else []
noncomputable abbrev tlD (b:Bool):List (Str×DV):=bif b then [("selfClosingAcknowledged",.av (.bool false))] else []
noncomputable abbrev tyT (b:Bool):Int:=bif b then 3 else 4
section
variable {B:a5} {R:OL} {st dx tx w er g v u lf f da la lb:Addr} {t:List Nat} {q q₁ q₂:SS} {ks as:List AV} {z:Nat} {r ky vl nm:List Nat} {sc b:Bool} {ps:List DV}
theorem eT0 (ks:List AV) (f:Addr) (q:SS) (nm:List Nat):a2 [g,st,tx,er,u,da,la] R (dTS dx w v lf t q f (.slot 5) ks [] (dTg (tyT b) nm sc (tlD b) as [] []))=tS st dx tx w er g v lf u t q f (.ref da) ks ((da,aR (tyT b) nm la sc (tlF b))::(la,.list as)::R):=by
 rcases b with _ | _<;>rfl
theorem eT1 (e:AV) (ks:List AV) (f:Addr) (q:SS) (nm:List Nat):a2 [g,st,tx,er,u,da,la] R (dTS dx w v lf t q f (.slot 5) ks [.av e] (dTg (tyT b) nm sc (tlD b) as [] []))=tS st dx tx w er g v lf u t q f (.ref da) (ks++[e]) ((da,aR (tyT b) nm la sc (tlF b))::(la,.list as)::R):=by
 rcases b with _ | _<;>rfl
theorem eA0 (ks:List AV) (f:Addr) (q:SS) (ky vl:List Nat):a2 [g,st,tx,er,u,da,la,lb] R (dTS dx w v lf t q f (.slot 5) ks [] (dTg (tyT b) nm sc (tlD b) as [.slot 7] [dAt ky vl]))=tS st dx tx w er g v lf u t q f (.ref da) ks ((da,aR (tyT b) nm la sc (tlF b))::(la,.list (as++[.ref lb]))::(lb,.list [.str ky,.str vl])::R):=by
 rcases b with _ | _<;>rfl
theorem eA1 (e:AV) (ks:List AV) (f:Addr) (q:SS) (ky vl:List Nat):a2 [g,st,tx,er,u,da,la,lb] R (dTS dx w v lf t q f (.slot 5) ks [.av e] (dTg (tyT b) nm sc (tlD b) as [.slot 7] [dAt ky vl]))=tS st dx tx w er g v lf u t q f (.ref da) (ks++[e]) ((da,aR (tyT b) nm la sc (tlF b))::(la,.list (as++[.ref lb]))::(lb,.list [.str ky,.str vl])::R):=by
 rcases b with _ | _<;>rfl
end
end
section
set_option genInjectivity false
noncomputable abbrev wz (ty:Int) (nm:List Nat) (as:List AV) (sc:Bool) (tl:FL):AO:=.dict (("type",.int ty)::("name",.str nm)::("data",.lst as)::("selfClosing",.bool sc)::tl)
noncomputable def dTd (ty:Int) (nm:List Nat) (d:DV) (sc:Bool) (tl:List (Str×DV)):Nat×DO:=(5,.dict (("type",.av (.int ty))::("name",.av (.str nm))::("data",d)::("selfClosing",.av (.bool sc))::tl))
noncomputable abbrev wm (nm:List Nat) (ps:List (List Nat×AV)) (sc:Bool):AV:=.dct [("type",.int 3),("name",.str (aC nm)),("data",.dct (iy ps)),("selfClosing",.bool sc),("selfClosingAcknowledged",.bool false)]
noncomputable abbrev kQ (nm:List Nat) (ps:List (List Nat×AV)) (sc:Bool):AV:=.dct [("type",.int 4),("name",.str (aC nm)),("data",.lst (ps.map ad)),("selfClosing",.bool sc)]
noncomputable def aH (nm:List Nat) (ps:List (List Nat×AV)) (sc b:Bool):List AV:=
 if b=true then [wm nm ps sc] else (if ps.isEmpty=true then [] else [eE "attributes-in-end-tag"])++((if sc=true then [eE "self-closing-flag-on-end-tag"] else [])++[kQ nm ps sc])
section
variable {B:a5} {R:OL} {st dx tx w er g v u lf f da:Addr} {t:List Nat} {q:SS} {ks:List AV} {nm:List Nat} {ps:List (List Nat×AV)} {sc:Bool}
noncomputable abbrev EmJ (B:a5) (g:Addr) (o o':OL):Prop:=a4 B 3 297 [.ref g] o fun d z=>d=.none∧z=o'
theorem vv (hB:IsB B) (hn:nm.length≤100000) (hp:ps.length≤1000) (hk:ks.length≤1000):
 EmJ B g (tS st dx tx w er g v lf u t q f (.ref da) ks ((da,wz 4 nm (ps.map ad) sc [])::R)) (tS st dx tx w er g v lf u t q 304 (.ref da) (ks++aH nm ps sc false) R):=by
 have hl:=jd (x:=nm) hB hn
 have hz:(ps.map ad).length≤16777216:=by rw [List.length_map];exact nT0 hp (by decide)
 have he:(ps.map ad).isEmpty=ps.isEmpty:=by rcases ps with _ | _<;>rfl
 rcases hb:ps.isEmpty with _ | _
 · rcases sc with _ | _
   · exact d9 ["self"] ["token","raw","data"] [g,st,tx,er,u,da] [.slot 0] (dTS dx w v lf t q f (.slot 5) ks [] [dTd 4 nm (.av (.lst (ps.map ad))) false []]) R [.br true,.call 0 (.av (.str (aC nm))) (dTS dx w v lf t q f (.slot 5) ks [] [dTd 4 nm (.av (.lst (ps.map ad))) false []]) R 2,.br false,.br true,.br true,.br false] (.av .none) (dTS dx w v lf t q 304 (.slot 5) ks [.av (eE "attributes-in-end-tag"),.av (kQ nm ps false)] []) R hB rfl (.one fun _=>rfl) (qa (qa (qa (qa (qa (qa (qa (qa (qa trivial tt) (hl (a2 [g,st,tx,er,u,da] R (dTS dx w v lf t q f (.slot 5) ks [] [dTd 4 nm (.av (.lst (ps.map ad))) false []])))) ff) tt) hz) (show (!(ps.map ad).isEmpty)=true by rw [he,hb];rfl)) (kzj 0 hk)) ff) (kzj 1 hk)) (e2:=by unfold aH;rw [hb];rfl)
   · exact d9 ["self"] ["token","raw","data"] [g,st,tx,er,u,da] [.slot 0] (dTS dx w v lf t q f (.slot 5) ks [] [dTd 4 nm (.av (.lst (ps.map ad))) true []]) R [.br true,.call 0 (.av (.str (aC nm))) (dTS dx w v lf t q f (.slot 5) ks [] [dTd 4 nm (.av (.lst (ps.map ad))) true []]) R 2,.br false,.br true,.br true,.br true] (.av .none) (dTS dx w v lf t q 304 (.slot 5) ks [.av (eE "attributes-in-end-tag"),.av (eE "self-closing-flag-on-end-tag"),.av (kQ nm ps true)] []) R hB rfl (.one fun _=>rfl) (qa (qa (qa (qa (qa (qa (qa (qa (qa (qa trivial tt) (hl (a2 [g,st,tx,er,u,da] R (dTS dx w v lf t q f (.slot 5) ks [] [dTd 4 nm (.av (.lst (ps.map ad))) true []])))) ff) tt) hz) (show (!(ps.map ad).isEmpty)=true by rw [he,hb];rfl)) (kzj 0 hk)) tt) (kzj 1 hk)) (kzj 2 hk)) (e2:=by unfold aH;rw [hb];rfl)
 · rcases sc with _ | _
   · exact d9 ["self"] ["token","raw","data"] [g,st,tx,er,u,da] [.slot 0] (dTS dx w v lf t q f (.slot 5) ks [] [dTd 4 nm (.av (.lst (ps.map ad))) false []]) R [.br true,.call 0 (.av (.str (aC nm))) (dTS dx w v lf t q f (.slot 5) ks [] [dTd 4 nm (.av (.lst (ps.map ad))) false []]) R 2,.br false,.br true,.br false,.br false] (.av .none) (dTS dx w v lf t q 304 (.slot 5) ks [.av (kQ nm ps false)] []) R hB rfl (.one fun _=>rfl) (qa (qa (qa (qa (qa (qa (qa (qa trivial tt) (hl (a2 [g,st,tx,er,u,da] R (dTS dx w v lf t q f (.slot 5) ks [] [dTd 4 nm (.av (.lst (ps.map ad))) false []])))) ff) tt) hz) (show (!(ps.map ad).isEmpty)=false by rw [he,hb];rfl)) ff) (kzj 0 hk)) (e2:=by unfold aH;rw [hb];rfl)
   · exact d9 ["self"] ["token","raw","data"] [g,st,tx,er,u,da] [.slot 0] (dTS dx w v lf t q f (.slot 5) ks [] [dTd 4 nm (.av (.lst (ps.map ad))) true []]) R [.br true,.call 0 (.av (.str (aC nm))) (dTS dx w v lf t q f (.slot 5) ks [] [dTd 4 nm (.av (.lst (ps.map ad))) true []]) R 2,.br false,.br true,.br false,.br true] (.av .none) (dTS dx w v lf t q 304 (.slot 5) ks [.av (eE "self-closing-flag-on-end-tag"),.av (kQ nm ps true)] []) R hB rfl (.one fun _=>rfl) (qa (qa (qa (qa (qa (qa (qa (qa (qa trivial tt) (hl (a2 [g,st,tx,er,u,da] R (dTS dx w v lf t q f (.slot 5) ks [] [dTd 4 nm (.av (.lst (ps.map ad))) true []])))) ff) tt) hz) (show (!(ps.map ad).isEmpty)=false by rw [he,hb];rfl)) tt) (kzj 0 hk)) (kzj 1 hk)) (e2:=by unfold aH;rw [hb];rfl)
end
end
section
set_option genInjectivity false
section
variable {B:a5} {R:OL} {st dx tx w er g v u lf f da:Addr} {t:List Nat} {q:SS} {ks:List AV} {nm:List Nat} {ps:List (List Nat×AV)} {sc:Bool}
theorem DM {x:Str} {y:AV} {l r:LL}:∀ z d,(z,some d)∈l++(x,none)::r→(z,some d)∈l++(x,some y)::r:=fun z d h=>by
 rcases List.mem_append.mp h with h | h
 · exact List.mem_append_left _ h
 · rcases mC0 h with h | h
   · exact nomatch h
   · exact List.mem_append_right _ (.tail _ h)
noncomputable abbrev kN (g da:Addr) (raw data:Option AV):LL:=[("self",some (.ref g)),("token",some (.ref da)),("raw",raw),("data",data)]
noncomputable abbrev v7 (nm:List Nat) (d:AV) (sc:Bool):AO:=.dict [("type",.int 3),("name",.str nm),("data",d),("selfClosing",.bool sc),("selfClosingAcknowledged",.bool false)]
noncomputable def gK (nm:List Nat) (d:AV) (sc:Bool):Nat×DO:=(5,.dict [("type",.av (.int 3)),("name",.av (.str nm)),("data",.av d),("selfClosing",.av (.bool sc)),("selfClosingAcknowledged",.av (.bool false))])
noncomputable def dEm (raw:Option AV):List (Str×Option DV):=[("self",some (.slot 0)),("token",some (.slot 5)),("raw",raw.map .av),("data",none)]
theorem gz {X:Cx} {cl:List (Str×Nat)} {p:Prop} {ss:List Stmt} (ρ:List Addr) (D D':DS) (hints:List c7) (fd:DF) (O:cO ⟨X,dR X.B.P,ρ,glT,cl⟩) (hq:p) (e:autoParam (oi O ss D hints=some (fd,⟨D',0,[],p⟩)) bK):ExB X ss (D.to ρ) (fd.to ρ) (D'.to ρ):=iN O hq e
theorem l4 {X:Cx} {cl:List (Str×Nat)} {p:Prop} {e:Expr} {b:Bool} (ρ:List Addr) (D D':DS) (hints:List c7) (O:cO ⟨X,dR X.B.P,ρ,glT,cl⟩) (hq:p) (h:autoParam (uo O e D hints=some (b,⟨D',0,[],p⟩)) bK):Te X e (D.to ρ) b (D'.to ρ):=kU O hq h
theorem xc {X:Cx} {ss:List Stmt} {σ σ₁ σ':St} {f:Fl} (e:σ₁=σ) (h:ExB X ss σ₁ f σ'):ExB X ss σ f σ':=e▸h
noncomputable abbrev eD (dx w v lf:Addr) (t:List Nat) (q:SS) (sc:Bool) (R:OL) (f:Addr) (ks:List AV) (ps:List DV) (r:List (Nat×DO)) (raw:Option AV):DS:=⟨dEm raw,dTS dx w v lf t q f (.slot 5) ks ps r,R⟩
theorem nX (hB:IsB B) (hn:nm.length≤100000) (hp:ps.length≤1000) (hk:ks.length≤1000):
 EmJ B g (tS st dx tx w er g v lf u t q f (.ref da) ks ((da,v7 nm (.lst (ps.map ad)) sc)::R)) (tS st dx tx w er g v lf u t q 304 (.ref da) (ks++aH nm ps sc true) R):=by
 have hl:=jd (x:=nm) hB hn
 have hz:(ps.map ad).length≤16777216:=by rw [List.length_map];exact nT0 hp (by decide)
 refine iG ["self"] ["token","raw","data"] (by rw [hB.K];rfl) (by rw [hB.K];kernel_rfl) (.one fun _=>rfl) fun L=>?_
 refine ⟨.next,kN g da (some (.lst (ps.map ad))) none,_,?_,rfl,rfl⟩
 refine xc (σ₁:=DS.to [g,st,tx,er,u,da] ⟨[("self",some (.slot 0)),("token",none),("raw",none),("data",none)],dTS dx w v lf t q f (.slot 5) ks [] [gK nm (.lst (ps.map ad)) sc],R⟩) (by kernel_rfl) (bu (dj (gz [g,st,tx,er,u,da] _ (eD dx w v lf t q sc R f ks [] [gK nm (.lst (ps.map ad)) sc] none) [] .next (pxo hB) trivial))
  (bu (vh (l4 [g,st,tx,er,u,da] _ (eD dx w v lf t q sc R f ks [] [gK nm (.lst (ps.map ad)) sc] none) [.br true] (pxo hB) (_root_.Mine.qa trivial tt)) (σ₂:=DS.to [g,st,tx,er,u,da] (eD dx w v lf t q sc R f ks [] [gK (aC nm) (.dct (iy ps)) sc] (some (.lst (ps.map ad))))) ?_)
   (aE [g,st,tx,er,u,da] (eD dx w v lf t q sc R f ks [] [gK (aC nm) (.dct (iy ps)) sc] (some (.lst (ps.map ad)))) (eD dx w v lf t q sc R 304 ks [.av (wm nm ps sc)] [] (some (.lst (ps.map ad)))) [] .next (pxo hB) (_root_.Mine.qa trivial (kzj 0 hk)))))
 refine bu (dj (gz [g,st,tx,er,u,da] _ (eD dx w v lf t q sc R f ks [] [gK (aC nm) (.lst (ps.map ad)) sc] none) [.call 0 (.av (.str (aC nm))) (dTS dx w v lf t q f (.slot 5) ks [] [gK nm (.lst (ps.map ad)) sc]) R 2] .next (pxo hB) (_root_.Mine.qa trivial (hl (a2 [g,st,tx,er,u,da] R (dTS dx w v lf t q f (.slot 5) ks [] [gK nm (.lst (ps.map ad)) sc]))))))
  (bu (vh (l4 [g,st,tx,er,u,da] _ (eD dx w v lf t q sc R f ks [] [gK (aC nm) (.lst (ps.map ad)) sc] none) [.br true] (pxo hB) (_root_.Mine.qa trivial tt)) (σ₂:=DS.to [g,st,tx,er,u,da] (eD dx w v lf t q sc R f ks [] [gK (aC nm) (.dct (iy ps)) sc] (some (.lst (ps.map ad))))) ?_)
   (gz [g,st,tx,er,u,da] _ (eD dx w v lf t q sc R f ks [] [gK (aC nm) (.dct (iy ps)) sc] (some (.lst (ps.map ad)))) [.br false] .next (pxo hB) (_root_.Mine.qa trivial ff)))
 refine CG (aL (dj (gz [g,st,tx,er,u,da] _ (eD dx w v lf t q sc R f ks [] [gK (aC nm) (.lst (ps.map ad)) sc] (some (.lst (ps.map ad)))) [] .next (pxo hB) trivial)) ?_)
 show bg _ _ ⟨kN g da (some (.lst (ps.map ad))) none,tS st dx tx w er g v lf u t q f (.ref da) ks ((da,v7 (aC nm) (.lst (ps.map ad)) sc)::R)⟩ _
 refine gn (fun σ=>∃ c,σ=⟨kN g da (some (.lst (ps.map ad))) (some (.ref c)),(c,.dict (ps.foldl dZ []))::tS st dx tx w er g v lf u t q f (.ref da) ks ((da,v7 (aC nm) (.lst (ps.map ad)) sc)::R)⟩)
  (qy (nZ (ps:=ps) (aM PySem.Pv.boot_dict (by rw [hB.K];kernel_rfl)) (ai (a6 (.tail _ (.tail _ (.head _)))) aq) (nT0 hp (by decide)) rfl) ?_) ?_
 · intro d σ' z;refine x12 z ?_;clear z;rintro c rfl rfl
   exact ⟨_,bk (.skip (.skip (.skip .hit))),rfl,c,rfl⟩
 rintro _ ⟨c,rfl⟩
 have hlen:=oy ps []
 rw [List.length_nil,Nat.zero_add] at hlen
 refine aL (σ₁:=⟨kN g da (some (.lst (ps.map ad))) (some (.ref c)),(c,.dict (iy ps))::tS st dx tx w er g v lf u t q f (.ref da) ks ((da,v7 (aC nm) (.lst (ps.map ad)) sc)::R)⟩) ?_ ?_
 · have hm:(ps.map ad).length=ps.length:=List.length_map _
   unfold iy
   by_cases hlt:(ps.foldl dZ []).length < ps.length
   · rw [if_pos hlt]
     refine vh (kS (vL (bQ (aM PyProof.Rows.Boot.«len» (by rw [hB.K];kernel_rfl)) c9 (ai (a6 (.tail _ (.tail _ (.head _)))) aq) (pT hz)) (bQ (aM PyProof.Rows.Boot.«len» (by rw [hB.K];kernel_rfl)) c9 (ai (a6 (.tail _ (.tail _ (.tail _ (.head _))))) aq) (r0 (.head _) (nT0 hlen (nT0 hp (by decide))))) wu) (decide_eq_true (Int.ofNat_lt.mpr (hm▸hlt)))) (bu (hW (d:=.none) (iu (a6 (.tail _ (.tail _ (.tail _ (.head _))))) (xU (.head _) PySem.F.slot_dict_update PySem.F.type_dict_update) c9 (ai (AK (a6 (.tail _ (.tail _ (.head _)))) (vM dk) hz) aq) ?_)) dM)
     rw [←List.map_reverse]
     exact p6 (ps:=ps.reverse) (by rw [List.length_reverse];omega) rfl
   · rw [if_neg hlt]
     exact r7 (kS (vL (bQ (aM PyProof.Rows.Boot.«len» (by rw [hB.K];kernel_rfl)) c9 (ai (a6 (.tail _ (.tail _ (.head _)))) aq) (pT hz)) (bQ (aM PyProof.Rows.Boot.«len» (by rw [hB.K];kernel_rfl)) c9 (ai (a6 (.tail _ (.tail _ (.tail _ (.head _))))) aq) (r0 (.head _) (nT0 hlen (nT0 hp (by decide))))) wu) (decide_eq_false fun h=>hlt (hm▸Int.ofNat_lt.mp h))) dM
 refine aL (r9 (c:=c) (a6 (.tail _ (.tail _ (.tail _ (.head _))))) (a6 (.tail _ (.head _))) (eS (l:=sg "data") (k0 _)) .head (.skip (by kernel_rfl) (.skip (by kernel_rfl) .hit)) (.tail (.tail (.tail (.tail (.tail .head))))) (by simp)) ?_
 exact iB (loc':=kN g da (some (.lst (ps.map ad))) none) (lc ⟨rfl,rfl⟩) (DM (l:=[_,_,_])) (bf (by kernel_rfl))
end
end
section
set_option genInjectivity false
section
variable {B:a5} {R:OL} {st dx tx w er g v u lf f f' da la lb:Addr} {t:List Nat} {q:SS} {ks as:List AV} {nm ky vl:List Nat} {ps:List (List Nat×AV)} {sc b:Bool} {n:Nat} {args:List AV} {Φ:AV→OL→Prop} {cur:AV}
theorem Au {ty:Int} {tl:FL} (c:a4 B n f' args (tS st dx tx w er g v lf u t q f cur ks ((da,wz ty nm as sc tl)::R)) Φ):a4 B n f' args (tS st dx tx w er g v lf u t q f cur ks ((da,aR ty nm la sc tl)::(la,.list as)::R)) Φ:=by
 refine a4.perm (o₁:=(la,.list as)::(da,aR ty nm la sc tl)::tS st dx tx w er g v lf u t q f cur ks R) ?_ (a4.preD (fs:=[("type",.int ty),("name",.str nm)]) (gs:=("selfClosing",.bool sc)::tl) (a4.perm (o₁:=tS st dx tx w er g v lf u t q f cur ks ((da,wz ty nm as sc tl)::R)) ?_ c fun d q h=>⟨q,.refl _,h⟩)) fun d q h=>⟨q,.refl _,h⟩
 · exact List.Perm.trans (List.perm_append_comm_assoc [_,_,_,_,_] [_,_] R) (.swap _ _ _)
 · exact (List.perm_append_comm_assoc [_,_,_,_,_] [_] R).symm
theorem zl {ty:Int} {tl:FL} (c:a4 B n f' args (tS st dx tx w er g v lf u t q f cur ks ((da,aR ty nm la sc tl)::(la,.list (as++[.lst [.str ky,.str vl]]))::R)) Φ):
 a4 B n f' args (tS st dx tx w er g v lf u t q f cur ks ((da,aR ty nm la sc tl)::(la,.list (as++[.ref lb]))::(lb,.list [.str ky,.str vl])::R)) Φ:=by
 refine a4.perm (o₁:=(lb,.list [.str ky,.str vl])::(la,.list (as++[.ref lb]))::tS st dx tx w er g v lf u t q f cur ks ((da,aR ty nm la sc tl)::R)) ?_ (a4.pre (as:=as) (bs:=[]) (a4.perm (o₁:=tS st dx tx w er g v lf u t q f cur ks ((da,aR ty nm la sc tl)::(la,.list (as++[.lst [.str ky,.str vl]]))::R)) ?_ c fun d q h=>⟨q,.refl _,h⟩)) fun d q h=>⟨q,.refl _,h⟩
 · exact List.Perm.trans (List.perm_append_comm_assoc [_,_,_,_,_,_] [_,_] R) (.swap _ _ _)
 · exact (List.perm_append_comm_assoc [_,_,_,_,_,_] [_] R).symm
theorem em0 (hB:IsB B) (hn:nm.length≤100000) (hp:ps.length≤1000) (hk:ks.length≤1000):EmJ B g (tS st dx tx w er g v lf u t q f (.ref da) ks ((da,aR (tyT b) nm la sc (tlF b))::(la,.list (ps.map ad))::R)) (tS st dx tx w er g v lf u t q 304 (.ref da) (ks++aH nm ps sc b) R):=by
 rcases b with _ | _
 · exact Au (vv hB hn hp hk)
 · exact Au (nX hB hn hp hk)
theorem em1 (hB:IsB B) (hn:nm.length≤100000) (hp:ps.length≤999) (hk:ks.length≤1000):EmJ B g (tS st dx tx w er g v lf u t q f (.ref da) ks ((da,aR (tyT b) nm la sc (tlF b))::(la,.list (ps.map ad++[.ref lb]))::(lb,.list [.str ky,.str vl])::R)) (tS st dx tx w er g v lf u t q 304 (.ref da) (ks++aH nm (ps++[(ky,.str vl)]) sc b) R):=by
 have h:=em0 (st:=st) (dx:=dx) (tx:=tx) (w:=w) (er:=er) (g:=g) (v:=v) (lf:=lf) (u:=u) (t:=t) (q:=q) (f:=f) (da:=da) (la:=la) (R:=R) (sc:=sc) (b:=b) (ps:=ps++[(ky,.str vl)]) hB hn (by rw [List.length_append];exact Nat.succ_le_succ hp) hk
 rw [List.map_append] at h
 exact zl h
end
end
section
set_option genInjectivity false
section
variable {B:a5} {R:OL} {st dx tx w er g v u lf f f₁ da la lb:Addr} {t:List Nat} {q q₁:SS} {ks ks₁:List AV} {nm ky vl:List Nat} {ps:List (List Nat×AV)} {sc b:Bool} {c:AV}
noncomputable abbrev sT1 (st dx tx w er g v lf u da la lb:Addr) (t:List Nat) (R:OL) (nm:List Nat) (sc b:Bool) (as:List AV) (q:SS) (f:Addr) (ks:List AV) (ky vl:List Nat):OL:=
 tS st dx tx w er g v lf u t q f (.ref da) ks ((da,aR (tyT b) nm la sc (tlF b))::(la,.list (as++[.ref lb]))::(lb,.list [.str ky,.str vl])::R)
noncomputable abbrev eQ (g:Addr) (c:AV) (e:Bool) (n' w':Option AV):LL:=[("self",some (.ref g)),("data",some c),("leavingThisState",some (.bool true)),("emitToken",some (.bool e)),("name",n'),("_",w')]
noncomputable abbrev dAn (c:AV) (e:Bool) (n':Option AV) (w':Option AV):List (Str×Option DV):=[("self",some (.slot 0)),("data",some (.av c)),("leavingThisState",some (.av (.bool true))),("emitToken",some (.av (.bool e))),("name",n'.map .av),("_",w'.map .av)]
noncomputable abbrev eAn (dx w v lf:Addr) (t:List Nat) (R:OL) (nm:List Nat) (sc b:Bool) (as:List AV) (c:AV) (e:Bool) (n' w':Option AV) (q:SS) (f:Addr) (ks:List AV) (ps:List DV) (ky vl:List Nat):DS:=
 ⟨dAn c e n' w',dTS dx w v lf t q f (.slot 5) ks ps (dTg (tyT b) nm sc (tlD b) as [.slot 7] [dAt ky vl]),R⟩
noncomputable def de (ps:List (List Nat×AV)) (ky:List Nat):List AV:=if ps.any (fun p=>decide (p.1=ky))=true then [eE "duplicate-attribute"] else []
noncomputable abbrev DR (B:a5) (L:Addr):Cx:=⟨B,4,L,envOf "HTMLTokenizer.attributeNameState" (jw mq) L 542 (.ref 541)⟩
theorem C6 {X:Cx} {cl:List (Str×Nat)} {p:Prop} {e:Expr} (ρ:List Addr) (D D':DS) (hints:List c7) (v:DV) (O:cO ⟨X,dR X.B.P,ρ,glT,cl⟩) (hq:p) (h:autoParam (sU O e D hints=some (v,⟨D',0,[],p⟩)) bK):Ev X e (D.to ρ) (v.to ρ) (D'.to ρ):=ko O hq h
theorem oP {α:Type} (as:List α) (x:α):(as++[x]).take (bx (as++[x]).length (-1))=as:=by
 rw [List.length_append]
 show (as++[x]).take (as.length+1 - 1)=as
 rw [Nat.add_sub_cancel,List.take_append_of_le_length (Nat.le_refl _),List.take_length]
theorem yQ {i:Nat} {ky:List Nat} (h:∀ j (hj:j < ps.length),j < i→ps[j].1≠ky) (hi:ps.length≤i):de ps ky=[]:=by
 unfold de
 rw [if_neg]
 intro e
 obtain ⟨p,hp,hk⟩:=List.any_eq_true.mp e
 obtain ⟨j,hj,rfl⟩:=List.getElem_of_mem hp
 exact h j hj (nL0 hj hi) (of_decide_eq_true hk)
theorem sH {i:Nat} {ky:List Nat} (hi:i < ps.length) (h:ps[i].1=ky):de ps ky=[eE "duplicate-attribute"]:=
 if_pos (List.any_eq_true.mpr ⟨ps[i],List.getElem_mem hi,decide_eq_true h⟩)
noncomputable abbrev dLp (c:AV) (e:Bool) (n' w':AV) (dx w v lf:Addr) (t:List Nat) (R:OL) (nm:List Nat) (sc b:Bool) (as:List AV) (q:SS) (f:Addr) (ks:List AV) (pk:List DV) (ky vl:List Nat) (o:AO):DS:=
 ⟨dAn c e (some n') (some w'),(8,.ao o)::dTS dx w v lf t q f (.slot 5) ks pk (dTg (tyT b) nm sc (tlD b) as [.slot 7] [dAt ky vl]),R⟩
theorem Ah {as ks ks':List AV} (h:EmJ B g (sT1 st dx tx w er g v lf u da la lb t R nm sc b as q f ks ky vl) (tS st dx tx w er g v lf u t q 304 (.ref da) ks' R)):
 a4 B 3 297 [.ref g] (a2 [g,st,tx,er,u,da,la,lb] R (dTS dx w v lf t q f (.slot 5) ks [] (dTg (tyT b) nm sc (tlD b) as [.slot 7] [dAt ky vl]))) fun d o=>d=.none∧o=a2 [g,st,tx,er,u,da,la,lb] R (dTS dx w v lf t q 304 (.slot 5) ks' [] []):=by
 rw [eA0];exact h
theorem hY (e:Bool) (hB:IsB B) (hn:nm.length≤100000) (hky:ky.length≤100000) (hp:ps.length≤999) (hk:ks₁.length≤990)
 (h4 : ∀ L,ExB (DR B L) ((jD mq).take 4) ⟨[("self",some (.ref g)),("data",none),("leavingThisState",none),("emitToken",none),("name",none),("_",none)],sT1 st dx tx w er g v lf u da la lb t R nm sc b (ps.map ad) q f ks ky vl⟩ .next
  (DS.to [g,st,tx,er,u,da,la,lb] (eAn dx w v lf t R nm sc b (ps.map ad) c e none none q₁ f₁ ks₁ [] ky vl))):
 a4 B 5 542 [.ref g] (sT1 st dx tx w er g v lf u da la lb t R nm sc b (ps.map ad) q f ks ky vl) fun d o=>d=.bool true∧o=if e=true then tS st dx tx w er g v lf u t q₁ 304 (.ref da) (ks₁++de ps (aC ky)++aH nm (ps++[(aC ky,.str vl)]) sc b) R
  else sT1 st dx tx w er g v lf u da la lb t R nm sc b (ps.map ad) q₁ f₁ (ks₁++de ps (aC ky)) (aC ky) vl:=by
 have hl:=jd (x:=ky) hB hky
 have hz:(ps.map ad).length+1≤16777000:=by rw [List.length_map];exact nT0 (Nat.succ_le_succ hp) (by decide)
 refine mN ["self"] ["data","leavingThisState","emitToken","name","_"] (by rw [hB.K];rfl) (by rw [hB.K];kernel_rfl) (.one fun _=>rfl) fun L=>?_
 refine x0 4 (h4 L) ?_
 refine aL (vh (l4 [g,st,tx,er,u,da,la,lb] (eAn dx w v lf t R nm sc b (ps.map ad) c e none none q₁ f₁ ks₁ [] ky vl) (eAn dx w v lf t R nm sc b (ps.map ad) c e none none q₁ f₁ ks₁ [] ky vl) [.br true] (pxo hB) (_root_.Mine.qa trivial tt)) (σ₂:=⟨eQ g c e none none,if e=true then tS st dx tx w er g v lf u t q₁ 304 (.ref da) (ks₁++de ps (aC ky)++aH nm (ps++[(aC ky,.str vl)]) sc b) R
  else sT1 st dx tx w er g v lf u da la lb t R nm sc b (ps.map ad) q₁ f₁ (ks₁++de ps (aC ky)) (aC ky) vl⟩) (CG ?_)) (cE (fJ (fS mc)) ⟨_,rfl,rfl,rfl⟩)
 refine aL (dj (gz [g,st,tx,er,u,da,la,lb] (eAn dx w v lf t R nm sc b (ps.map ad) c e none none q₁ f₁ ks₁ [] ky vl) (eAn dx w v lf t R nm sc b (ps.map ad) c e none none q₁ f₁ ks₁ [] (aC ky) vl) [.call 0 (.av (.str (aC ky))) (dTS dx w v lf t q₁ f₁ (.slot 5) ks₁ [] (dTg (tyT b) nm sc (tlD b) (ps.map ad) [.slot 7] [dAt ky vl])) R 2] .next (pxo hB) (_root_.Mine.qa (_root_.Mine.qa (_root_.Mine.qa trivial hz) (hl (a2 [g,st,tx,er,u,da,la,lb] R (dTS dx w v lf t q₁ f₁ (.slot 5) ks₁ [] (dTg (tyT b) nm sc (tlD b) (ps.map ad) [.slot 7] [dAt ky vl]))))) hz))) ?_
 have e0:DS.to [g,st,tx,er,u,da,la,lb] (eAn dx w v lf t R nm sc b (ps.map ad) c e none none q₁ f₁ ks₁ [] (aC ky) vl)=⟨eQ g c e none none,sT1 st dx tx w er g v lf u da la lb t R nm sc b (ps.map ad) q₁ f₁ ks₁ (aC ky) vl⟩:=congrArg (St.mk _) (eA0 ..)
 refine gn (fun σ=>∃ n' w',σ=⟨eQ g c e n' w',sT1 st dx tx w er g v lf u da la lb t R nm sc b (ps.map ad) q₁ f₁ (ks₁++de ps (aC ky)) (aC ky) vl⟩) ?_ ?_
 · refine jj (N:=(ps.map ad).length) (item:=fun i=>(ps.map ad).getD i .any) (fun i σ=>(∀ j (hj:j < ps.length),j < i→ps[j].1≠aC ky)∧∃ n' w',σ=⟨eQ g c e n' w',sT1 st dx tx w er g v lf u da la lb t R nm sc b (ps.map ad) q₁ f₁ ks₁ (aC ky) vl⟩)
    (E9 (yJ (l:=ps.map ad++[.ref lb]) (C6 [g,st,tx,er,u,da,la,lb] (eAn dx w v lf t R nm sc b (ps.map ad) c e none none q₁ f₁ ks₁ [] (aC ky) vl) (eAn dx w v lf t R nm sc b (ps.map ad) c e none none q₁ f₁ ks₁ [] (aC ky) vl) [] (.slot 6) (pxo hB) trivial) (vM dk) (.trk (.tail _ (.tail _ (.tail _ (.tail _ (.tail _ (.tail _ (.head _)))))))) ?_) (congrArg AV.lst (oP _ _))) (fun xv=>f9) ⟨fun j hj h=>absurd h (Nat.not_lt_zero _),none,none,e0⟩ ?_ ?_
   · rw [List.length_append];exact nT0 hz (by decide)
   · rintro σ ⟨h1,n',w',rfl⟩
     rw [yQ h1 (by rw [List.length_map];exact Nat.le_refl _),List.append_nil]
     exact ⟨rfl,n',w',rfl⟩
   · rintro i loc objs a p hi ⟨h1,n',w',e1⟩
     obtain ⟨rfl,rfl⟩:=St.mk.inj e1
     have hi':i < ps.length:=by rw [List.length_map] at hi;exact hi
     have hit:(ps.map ad).getD i .any=.lst [.str ps[i].1,ps[i].2]:=by rw [List.getD_eq_getElem?_getD,List.getElem?_map,List.getElem?_eq_getElem hi'];rfl
     rw [hit]
     have eq0:DS.to [g,st,tx,er,u,da,la,lb,a] (dLp c e (.str ps[i].1) ps[i].2 dx w v lf t R nm sc b (ps.map ad) q₁ f₁ ks₁ [] (aC ky) vl (.is p))=⟨eQ g c e (some (.str ps[i].1)) (some ps[i].2),(a,.is p)::sT1 st dx tx w er g v lf u da la lb t R nm sc b (ps.map ad) q₁ f₁ ks₁ (aC ky) vl⟩:=by rcases b with _ | _<;>rfl
     refine ⟨⟨eQ g c e (some (.str ps[i].1)) (some ps[i].2),(a,.is p)::sT1 st dx tx w er g v lf u da la lb t R nm sc b (ps.map ad) q₁ f₁ ks₁ (aC ky) vl⟩,wU (bU (bk (.skip (.skip (.skip (.skip .hit)))))) (bU (bk (.skip (.skip (.skip (.skip (.skip .hit))))))),?_⟩
     have eq1:DS.to [g,st,tx,er,u,da,la,lb,a] (dLp c e (.str ps[i].1) ps[i].2 dx w v lf t R nm sc b (ps.map ad) q₁ f₁ ks₁ [.av (eE "duplicate-attribute")] (aC ky) vl (.is p))=⟨eQ g c e (some (.str ps[i].1)) (some ps[i].2),(a,.is p)::sT1 st dx tx w er g v lf u da la lb t R nm sc b (ps.map ad) q₁ f₁ (ks₁++[eE "duplicate-attribute"]) (aC ky) vl⟩:=by rcases b with _ | _<;>rfl
     rw [←eq0]
     by_cases hk':aC ky=ps[i].1
     · refine t6 (vR (l4 [g,st,tx,er,u,da,la,lb,a] (dLp c e (.str ps[i].1) ps[i].2 dx w v lf t R nm sc b (ps.map ad) q₁ f₁ ks₁ [] (aC ky) vl (.is p)) (dLp c e (.str ps[i].1) ps[i].2 dx w v lf t R nm sc b (ps.map ad) q₁ f₁ ks₁ [] (aC ky) vl (.is p)) [.br true] (pxo hB) (_root_.Mine.qa (_root_.Mine.qa trivial hz) (decide_eq_true hk'))) ?_)
       refine aL (dj (gz [g,st,tx,er,u,da,la,lb,a] (dLp c e (.str ps[i].1) ps[i].2 dx w v lf t R nm sc b (ps.map ad) q₁ f₁ ks₁ [] (aC ky) vl (.is p)) (dLp c e (.str ps[i].1) ps[i].2 dx w v lf t R nm sc b (ps.map ad) q₁ f₁ ks₁ [.av (eE "duplicate-attribute")] (aC ky) vl (.is p)) [] .next (pxo hB) (_root_.Mine.qa trivial (kzj 0 (nT0 hk (by decide)))))) ?_
       rw [eq1]
       refine mW (rest:=[(a,.is p)]) (List.perm_append_comm (l₁:=[(a,AO.is p)])) (cE (BU CU) ⟨nofun,.inr ⟨rfl,rfl,_,_,by rw [sH hi' hk'.symm]⟩⟩)
     · refine cE (bu (r7 (l4 [g,st,tx,er,u,da,la,lb,a] (dLp c e (.str ps[i].1) ps[i].2 dx w v lf t R nm sc b (ps.map ad) q₁ f₁ ks₁ [] (aC ky) vl (.is p)) (dLp c e (.str ps[i].1) ps[i].2 dx w v lf t R nm sc b (ps.map ad) q₁ f₁ ks₁ [] (aC ky) vl (.is p)) [.br false] (pxo hB) (_root_.Mine.qa (_root_.Mine.qa trivial hz) (decide_eq_false hk'))) dM) dM) (.inl ⟨rfl,_,_,eq0,fun j hj hji=>?_,_,_,rfl⟩)
       rcases Nat.lt_succ_iff_lt_or_eq.mp hji with h | rfl
       · exact h1 j hj h
       · exact fun h=>hk' h.symm
 rintro _ ⟨n',w',rfl⟩
 refine iB (loc':=eQ g c e none none) ?_ ?_ (bf (by kernel_rfl))
 · have hk2:(ks₁++de ps (aC ky)).length≤1000:=by
    rw [List.length_append]
    refine nT0 (Nat.add_le_add hk (show (de ps (aC ky)).length≤10 from ?_)) (by decide)
    unfold de
    split<;>decide
   have em:=em1 (st:=st) (dx:=dx) (tx:=tx) (w:=w) (er:=er) (g:=g) (v:=v) (lf:=lf) (u:=u) (t:=t) (q:=q₁) (f:=f₁) (da:=da) (la:=la) (lb:=lb) (R:=R) (sc:=sc) (b:=b) (ps:=ps) (ky:=aC ky) (vl:=vl) hB hn hp hk2
   clear e0 h4 hl hk
   generalize ks₁++de ps (aC ky)=kz at hk2 em ⊢
   generalize aC ky=kl at em ⊢
   generalize hem:aH nm (ps++[(kl,.str vl)]) sc b=ez at em ⊢
   have eq2:∀ e,DS.to [g,st,tx,er,u,da,la,lb] (eAn dx w v lf t R nm sc b (ps.map ad) c e none none q₁ f₁ kz [] kl vl)=⟨eQ g c e none none,sT1 st dx tx w er g v lf u da la lb t R nm sc b (ps.map ad) q₁ f₁ kz kl vl⟩:=fun e=>congrArg (St.mk _) (eA0 ..)
   rw [←eq2]
   rcases e with _ | _
   · rw [if_neg Bool.false_ne_true,←eq2]
     exact cE (gz [g,st,tx,er,u,da,la,lb] (eAn dx w v lf t R nm sc b (ps.map ad) c false none none q₁ f₁ kz [] kl vl) (eAn dx w v lf t R nm sc b (ps.map ad) c false none none q₁ f₁ kz [] kl vl) [.br false] .next (pxo hB) (_root_.Mine.qa trivial ff)) ⟨rfl,rfl⟩
   · rw [if_pos rfl]
     refine cE (gz [g,st,tx,er,u,da,la,lb] (eAn dx w v lf t R nm sc b (ps.map ad) c true none none q₁ f₁ kz [] kl vl) ⟨dAn c true none none,dTS dx w v lf t q₁ 304 (.slot 5) (kz++ez) [] [],R⟩ [.br true,.call 0 (.av .none) (dTS dx w v lf t q₁ 304 (.slot 5) (kz++ez) [] []) R 3] .next (pxo hB) (_root_.Mine.qa (_root_.Mine.qa trivial tt) (Ah em))) ⟨rfl,rfl⟩
 · intro x d h
   simp only [eQ,List.mem_cons,Prod.mk.injEq,reduceCtorEq,and_false,or_false,List.not_mem_nil] at h ⊢
   rcases h with h | h | h | h
   · exact .inl h
   · exact .inr (.inl h)
   · exact .inr (.inr (.inl h))
   · exact .inr (.inr (.inr (.inl h)))
end
end
section
set_option genInjectivity false
section
variable {B:a5} {R:OL} {st dx tx w er g v u lf f da la lb:Addr} {t:List Nat} {q q₁ q₂:SS} {ks as:List AV} {z:Nat} {nm ky vl:List Nat} {ps:List (List Nat×AV)} {sc b:Bool}
theorem mE (st dx tx w er g v lf u da la:Addr) (t:List Nat) (R:OL) (nm:List Nat) (ps:List (List Nat×AV)) (sc b:Bool) (q:SS) (f:Addr) (ks:List AV) (hB:IsB B) (hn:nm.length≤100000) (hp:ps.length≤1000) (hk:ks.length≤1000):
 a4 B 3 297 [.ref g] (a2 [g,st,tx,er,u,da,la] R (dTS dx w v lf t q f (.slot 5) ks [] (dTg (tyT b) nm sc (tlD b) (ps.map ad) [] []))) fun d o=>d=.none∧o=a2 [g,st,tx,er,u,da,la] R (dTS dx w v lf t q 304 (.slot 5) (ks++aH nm ps sc b) [] []):=by
 rw [eT0];exact em0 hB hn hp hk
theorem Cb (st dx tx w er g v lf u da la lb:Addr) (t:List Nat) (R:OL) (nm:List Nat) (ps:List (List Nat×AV)) (sc b:Bool) (q:SS) (f:Addr) (ks:List AV) (ky vl:List Nat) (hB:IsB B) (hn:nm.length≤100000) (hp:ps.length≤999) (hk:ks.length≤1000):
 a4 B 3 297 [.ref g] (a2 [g,st,tx,er,u,da,la,lb] R (dTS dx w v lf t q f (.slot 5) ks [] (dTg (tyT b) nm sc (tlD b) (ps.map ad) [.slot 7] [dAt ky vl]))) fun d o=>d=.none∧o=a2 [g,st,tx,er,u,da,la,lb] R (dTS dx w v lf t q 304 (.slot 5) (ks++aH nm (ps++[(ky,.str vl)]) sc b) [] []):=by
 rw [eA0];exact em1 hB hn hp hk
theorem AA (st dx tx w er g v lf u da la lb:Addr) (t:List Nat) (R:OL) (nm:List Nat) (ps:List (List Nat×AV)) (sc b:Bool) (q:SS) (f:Addr) (ks:List AV) (e:AV) (ky vl:List Nat) (hB:IsB B) (hn:nm.length≤100000) (hp:ps.length≤999) (hk:ks.length≤990):
 a4 B 3 297 [.ref g] (a2 [g,st,tx,er,u,da,la,lb] R (dTS dx w v lf t q f (.slot 5) ks [.av e] (dTg (tyT b) nm sc (tlD b) (ps.map ad) [.slot 7] [dAt ky vl]))) fun d o=>d=.none∧o=a2 [g,st,tx,er,u,da,la,lb] R (dTS dx w v lf t q 304 (.slot 5) (ks++[e]++aH nm (ps++[(ky,.str vl)]) sc b) [] []):=by
 rw [eA1];exact em1 hB hn hp (nT0 (Nat.le_of_eq List.length_append) (Nat.add_le_add hk (show 1≤10 by decide)))
theorem zL (hB:IsB B) (hc:a3 B st dx tx w er t 4 133 [] (.str [62]) q q₁) (hn:nm.length≤100000) (hp:ps.length≤999) (hk:ks.length≤990):
 KJ B 367 g (tS st dx tx w er g v lf u t q f (.ref da) ks ((da,aR (tyT b) nm la sc (tlF b))::(la,.list (ps.map ad))::R)) true (tS st dx tx w er g v lf u t q₁ 304 (.ref da) (ks++aH nm ps sc b) R):=
 b9 ["data"] [g,st,tx,er,u,da,la] (dTS dx w v lf t q f (.slot 5) ks [] (dTg (tyT b) nm sc (tlD b) (ps.map ad) [] [])) R [.call 0 (.av (.str [62])) (dTS dx w v lf t q₁ f (.slot 5) ks [] (dTg (tyT b) nm sc (tlD b) (ps.map ad) [] [])) R 4,.br false,.br true,.call 0 (.av .none) (dTS dx w v lf t q₁ 304 (.slot 5) (ks++aH nm ps sc b) [] []) R 3] true (dTS dx w v lf t q₁ 304 (.slot 5) (ks++aH nm ps sc b) [] []) hB (qa (qa (qa (qa trivial (hc (a2 [g,st,tx,er,u,da,la] R (dTk v lf f (.slot 5)::(4,.list ks [])::(dTg (tyT b) nm sc (tlD b) (ps.map ad) [] []))))) ff) tt) (mE st dx tx w er g v lf u da la t R nm ps sc b q₁ f ks hB hn (Nat.le_succ_of_le hp) (nT0 hk (by decide)))) (eo:=eT0 ..) (e2:=rfl)
theorem wL (hB:IsB B) (hc:a3 B st dx tx w er t 4 133 [] (.str [62]) q q₁) (hn:nm.length≤100000) (hp:ps.length≤999) (hk:ks.length≤990):
 KJ B 535 g (tS st dx tx w er g v lf u t q f (.ref da) ks ((da,aR (tyT b) nm la sc (tlF b))::(la,.list (ps.map ad))::R)) true (tS st dx tx w er g v lf u t q₁ 304 (.ref da) (ks++aH nm ps sc b) R):=
 b9 ["data"] [g,st,tx,er,u,da,la] (dTS dx w v lf t q f (.slot 5) ks [] (dTg (tyT b) nm sc (tlD b) (ps.map ad) [] [])) R [.call 0 (.av (.str [62])) (dTS dx w v lf t q₁ f (.slot 5) ks [] (dTg (tyT b) nm sc (tlD b) (ps.map ad) [] [])) R 4,.br false,.br false,.br true,.call 0 (.av .none) (dTS dx w v lf t q₁ 304 (.slot 5) (ks++aH nm ps sc b) [] []) R 3] true (dTS dx w v lf t q₁ 304 (.slot 5) (ks++aH nm ps sc b) [] []) hB (qa (qa (qa (qa (qa trivial (hc (a2 [g,st,tx,er,u,da,la] R (dTk v lf f (.slot 5)::(4,.list ks [])::(dTg (tyT b) nm sc (tlD b) (ps.map ad) [] []))))) ff) ff) tt) (mE st dx tx w er g v lf u da la t R nm ps sc b q₁ f ks hB hn (Nat.le_succ_of_le hp) (nT0 hk (by decide)))) (eo:=eT0 ..) (e2:=rfl)
theorem zw (hB:IsB B) (hc:a3 B st dx tx w er t 4 133 [] (.str [62]) q q₁) (hn:nm.length≤100000) (hp:ps.length≤999) (hk:ks.length≤990):
 KJ B 591 g (tS st dx tx w er g v lf u t q f (.ref da) ks ((da,aR (tyT b) nm la sc (tlF b))::(la,.list (ps.map ad))::R)) true (tS st dx tx w er g v lf u t q₁ 304 (.ref da) (ks++aH nm ps true b) R):=by
 rcases b with _ | _
 · exact b9 ["data"] [g,st,tx,er,u,da,la] (dTS dx w v lf t q f (.slot 5) ks [] (dTg 4 nm sc [] (ps.map ad) [] [])) R [.call 0 (.av (.str [62])) (dTS dx w v lf t q₁ f (.slot 5) ks [] (dTg 4 nm sc [] (ps.map ad) [] [])) R 4,.br true,.call 0 (.av .none) (dTS dx w v lf t q₁ 304 (.slot 5) (ks++aH nm ps true false) [] []) R 3] true (dTS dx w v lf t q₁ 304 (.slot 5) (ks++aH nm ps true false) [] []) hB (qa (qa (qa trivial (hc (a2 [g,st,tx,er,u,da,la] R (dTk v lf f (.slot 5)::(4,.list ks [])::(dTg 4 nm sc [] (ps.map ad) [] []))))) tt) (mE st dx tx w er g v lf u da la t R nm ps true false q₁ f ks hB hn (Nat.le_succ_of_le hp) (nT0 hk (by decide))))
 · exact b9 ["data"] [g,st,tx,er,u,da,la] (dTS dx w v lf t q f (.slot 5) ks [] (dTg 3 nm sc [("selfClosingAcknowledged",.av (.bool false))] (ps.map ad) [] [])) R [.call 0 (.av (.str [62])) (dTS dx w v lf t q₁ f (.slot 5) ks [] (dTg 3 nm sc [("selfClosingAcknowledged",.av (.bool false))] (ps.map ad) [] [])) R 4,.br true,.call 0 (.av .none) (dTS dx w v lf t q₁ 304 (.slot 5) (ks++aH nm ps true true) [] []) R 3] true (dTS dx w v lf t q₁ 304 (.slot 5) (ks++aH nm ps true true) [] []) hB (qa (qa (qa trivial (hc (a2 [g,st,tx,er,u,da,la] R (dTk v lf f (.slot 5)::(4,.list ks [])::(dTg 3 nm sc [("selfClosingAcknowledged",.av (.bool false))] (ps.map ad) [] []))))) tt) (mE st dx tx w er g v lf u da la t R nm ps true true q₁ f ks hB hn (Nat.le_succ_of_le hp) (nT0 hk (by decide))))
theorem xx (hB:IsB B) (hc:a3 B st dx tx w er t 4 133 [] (.str [62]) q q₁) (hn:nm.length≤100000) (hp:ps.length≤999) (hk:ks.length≤990):
 KJ B 556 g (sT1 st dx tx w er g v lf u da la lb t R nm sc b (ps.map ad) q f ks ky vl) true (tS st dx tx w er g v lf u t q₁ 304 (.ref da) ((ks++[eE "expected-attribute-value-but-got-right-bracket"])++aH nm (ps++[(ky,.str vl)]) sc b) R):=
 b9 ["data"] [g,st,tx,er,u,da,la,lb] (dTS dx w v lf t q f (.slot 5) ks [] (dTg (tyT b) nm sc (tlD b) (ps.map ad) [.slot 7] [dAt ky vl])) R [.call 0 (.av (.str [62])) (dTS dx w v lf t q₁ f (.slot 5) ks [] (dTg (tyT b) nm sc (tlD b) (ps.map ad) [.slot 7] [dAt ky vl])) R 4,.br false,.br false,.br false,.br false,.br true,.call 0 (.av .none) (dTS dx w v lf t q₁ 304 (.slot 5) ((ks++[eE "expected-attribute-value-but-got-right-bracket"])++aH nm (ps++[(ky,.str vl)]) sc b) [] []) R 3] true (dTS dx w v lf t q₁ 304 (.slot 5) ((ks++[eE "expected-attribute-value-but-got-right-bracket"])++aH nm (ps++[(ky,.str vl)]) sc b) [] []) hB (qa (qa (qa (qa (qa (qa (qa (qa trivial (hc (a2 [g,st,tx,er,u,da,la,lb] R (dTk v lf f (.slot 5)::(4,.list ks [])::(dTg (tyT b) nm sc (tlD b) (ps.map ad) [.slot 7] [dAt ky vl]))))) ff) ff) ff) ff) tt) (kzj 0 (nT0 hk (by decide)))) (AA st dx tx w er g v lf u da la lb t R nm ps sc b q₁ f ks (eE "expected-attribute-value-but-got-right-bracket") ky vl hB hn hp hk)) (eo:=eA0 ..) (e2:=rfl)
theorem wM (hB:IsB B) (hc:a3 B st dx tx w er t 4 133 [] (.str [62]) q q₁) (hn:nm.length≤100000) (hp:ps.length≤999) (hk:ks.length≤990):
 KJ B 577 g (sT1 st dx tx w er g v lf u da la lb t R nm sc b (ps.map ad) q f ks ky vl) true (tS st dx tx w er g v lf u t q₁ 304 (.ref da) (ks++aH nm (ps++[(ky,.str vl)]) sc b) R):=
 b9 ["data"] [g,st,tx,er,u,da,la,lb] (dTS dx w v lf t q f (.slot 5) ks [] (dTg (tyT b) nm sc (tlD b) (ps.map ad) [.slot 7] [dAt ky vl])) R [.call 0 (.av (.str [62])) (dTS dx w v lf t q₁ f (.slot 5) ks [] (dTg (tyT b) nm sc (tlD b) (ps.map ad) [.slot 7] [dAt ky vl])) R 4,.br false,.br false,.br true,.call 0 (.av .none) (dTS dx w v lf t q₁ 304 (.slot 5) (ks++aH nm (ps++[(ky,.str vl)]) sc b) [] []) R 3] true (dTS dx w v lf t q₁ 304 (.slot 5) (ks++aH nm (ps++[(ky,.str vl)]) sc b) [] []) hB (qa (qa (qa (qa (qa trivial (hc (a2 [g,st,tx,er,u,da,la,lb] R (dTk v lf f (.slot 5)::(4,.list ks [])::(dTg (tyT b) nm sc (tlD b) (ps.map ad) [.slot 7] [dAt ky vl]))))) ff) ff) tt) (Cb st dx tx w er g v lf u da la lb t R nm ps sc b q₁ f ks ky vl hB hn hp (nT0 hk (by decide)))) (eo:=eA0 ..) (e2:=rfl)
theorem sT (hB:IsB B) (hc:a3 B st dx tx w er t 4 133 [] (.str [z]) q q₁) (h1:decide ([z]∈ar)=false) (h2:decide ([z]∈aX)=true) (ha:as.length≤1000) (hk:ks.length≤990):
 a4 B 5 535 [.ref g] (tS st dx tx w er g v lf u t q f (.ref da) ks ((da,aR (tyT b) nm la sc (tlF b))::(la,.list as)::R)) fun d o=>d=.bool true∧∃ lb,o=(sT1 st dx tx w er g v lf u da la lb t R nm sc b as q₁ 542 ks [z] []):=by
 rcases b with _ | _
 · exact il (k:=1) (v:=.av (.bool true)) (objs':=(dTS dx w v lf t q₁ 542 (.slot 5) ks [] (dTg 4 nm sc [] as [.slot 7] [dAt [z] []]))) (rest':=R) ["self"] ["data"] [g,st,tx,er,u,da,la] [.slot 0] (dTS dx w v lf t q f (.slot 5) ks [] (dTg 4 nm sc [] as [] [])) R [.call 0 (.av (.str [z])) (dTS dx w v lf t q₁ f (.slot 5) ks [] (dTg 4 nm sc [] as [] [])) R 4,.br false,.br true] hB.K (d6 hB) rfl (.one fun _=>rfl) (hq:=qa (qa (qa (qa trivial (hc (a2 [g,st,tx,er,u,da,la] R (dTk v lf f (.slot 5)::(4,.list ks [])::(dTg 4 nm sc [] as [] []))))) h1) h2) (kzj 0 ha)) (fun d o ⟨a,h⟩=>⟨h.1,a,h.2⟩) (by kernel_rfl) (by kernel_rfl) (by kernel_rfl) (by intro L;kernel_rfl)
 · exact il (k:=1) (v:=.av (.bool true)) (objs':=(dTS dx w v lf t q₁ 542 (.slot 5) ks [] (dTg 3 nm sc [("selfClosingAcknowledged",.av (.bool false))] as [.slot 7] [dAt [z] []]))) (rest':=R) ["self"] ["data"] [g,st,tx,er,u,da,la] [.slot 0] (dTS dx w v lf t q f (.slot 5) ks [] (dTg 3 nm sc [("selfClosingAcknowledged",.av (.bool false))] as [] [])) R [.call 0 (.av (.str [z])) (dTS dx w v lf t q₁ f (.slot 5) ks [] (dTg 3 nm sc [("selfClosingAcknowledged",.av (.bool false))] as [] [])) R 4,.br false,.br true] hB.K (d6 hB) rfl (.one fun _=>rfl) (hq:=qa (qa (qa (qa trivial (hc (a2 [g,st,tx,er,u,da,la] R (dTk v lf f (.slot 5)::(4,.list ks [])::(dTg 3 nm sc [("selfClosingAcknowledged",.av (.bool false))] as [] []))))) h1) h2) (kzj 0 ha)) (fun d o ⟨a,h⟩=>⟨h.1,a,h.2⟩) (by kernel_rfl) (by kernel_rfl) (by kernel_rfl) (by intro L;kernel_rfl)
theorem tR (hB:IsB B) (hc:a3 B st dx tx w er t 4 133 [] (.str [z]) q q₁) (h1:decide ([z]∈ar)=false) (h3:z≠61) (h4:z≠62) (h2:decide ([z]∈aX)=true) (ha:as.length≤1000) (hk:ks.length≤990):
 a4 B 5 549 [.ref g] (tS st dx tx w er g v lf u t q f (.ref da) ks ((da,aR (tyT b) nm la sc (tlF b))::(la,.list as)::R)) fun d o=>d=.bool true∧∃ lb,o=(sT1 st dx tx w er g v lf u da la lb t R nm sc b as q₁ 542 ks [z] []):=by
 rcases b with _ | _
 · exact il (k:=1) (v:=.av (.bool true)) (objs':=(dTS dx w v lf t q₁ 542 (.slot 5) ks [] (dTg 4 nm sc [] as [.slot 7] [dAt [z] []]))) (rest':=R) ["self"] ["data"] [g,st,tx,er,u,da,la] [.slot 0] (dTS dx w v lf t q f (.slot 5) ks [] (dTg 4 nm sc [] as [] [])) R [.call 0 (.av (.str [z])) (dTS dx w v lf t q₁ f (.slot 5) ks [] (dTg 4 nm sc [] as [] [])) R 4,.br false,.br false,.br false,.br true] hB.K (d6 hB) rfl (.one fun _=>rfl) (hq:=qa (qa (qa (qa (qa (qa trivial (hc (a2 [g,st,tx,er,u,da,la] R (dTk v lf f (.slot 5)::(4,.list ks [])::(dTg 4 nm sc [] as [] []))))) h1) (ne1 h3)) (ne1 h4)) h2) (kzj 0 ha)) (fun d o ⟨a,h⟩=>⟨h.1,a,h.2⟩) (by kernel_rfl) (by kernel_rfl) (by kernel_rfl) (by intro L;kernel_rfl)
 · exact il (k:=1) (v:=.av (.bool true)) (objs':=(dTS dx w v lf t q₁ 542 (.slot 5) ks [] (dTg 3 nm sc [("selfClosingAcknowledged",.av (.bool false))] as [.slot 7] [dAt [z] []]))) (rest':=R) ["self"] ["data"] [g,st,tx,er,u,da,la] [.slot 0] (dTS dx w v lf t q f (.slot 5) ks [] (dTg 3 nm sc [("selfClosingAcknowledged",.av (.bool false))] as [] [])) R [.call 0 (.av (.str [z])) (dTS dx w v lf t q₁ f (.slot 5) ks [] (dTg 3 nm sc [("selfClosingAcknowledged",.av (.bool false))] as [] [])) R 4,.br false,.br false,.br false,.br true] hB.K (d6 hB) rfl (.one fun _=>rfl) (hq:=qa (qa (qa (qa (qa (qa trivial (hc (a2 [g,st,tx,er,u,da,la] R (dTk v lf f (.slot 5)::(4,.list ks [])::(dTg 3 nm sc [("selfClosingAcknowledged",.av (.bool false))] as [] []))))) h1) (ne1 h3)) (ne1 h4)) h2) (kzj 0 ha)) (fun d o ⟨a,h⟩=>⟨h.1,a,h.2⟩) (by kernel_rfl) (by kernel_rfl) (by kernel_rfl) (by intro L;kernel_rfl)
theorem xr (hB:IsB B) (hc:a3 B st dx tx w er t 4 133 [] (.str [61]) q q₁)  (hn:nm.length≤100000) (hky:ky.length≤100000) (hp:ps.length≤999) (hk:ks.length≤990):
 KJ B 542 g (sT1 st dx tx w er g v lf u da la lb t R nm sc b (ps.map ad) q f ks ky vl) true (sT1 st dx tx w er g v lf u da la lb t R nm sc b (ps.map ad) q₁ 556 (ks++de ps (aC ky)) (aC ky) vl):=
 hY (q₁:=q₁) (f₁:=556) (ks₁:=ks) (c:=(.str [61])) false hB hn hky hp hk fun L=>aE [g,st,tx,er,u,da,la,lb] ⟨[("self",some (.slot 0)),("data",none),("leavingThisState",none),("emitToken",none),("name",none),("_",none)],dTS dx w v lf t q f (.slot 5) ks [] (dTg (tyT b) nm sc (tlD b) (ps.map ad) [.slot 7] [dAt ky vl]),R⟩ (eAn dx w v lf t R nm sc b (ps.map ad) (.str [61]) false none none q₁ 556 ks [] ky vl) [.call 0 (.av (.str [61])) (dTS dx w v lf t q₁ f (.slot 5) ks [] (dTg (tyT b) nm sc (tlD b) (ps.map ad) [.slot 7] [dAt ky vl])) R 4,.br true] .next (pxo hB) (qa (qa trivial (hc (a2 [g,st,tx,er,u,da,la,lb] R (dTk v lf f (.slot 5)::(4,.list ks [])::(dTg (tyT b) nm sc (tlD b) (ps.map ad) [.slot 7] [dAt ky vl]))))) tt) (h1:=congrArg (St.mk _) (eA0 ..)) (h2:=congrArg (St.mk _) (rfl))
theorem xT (hB:IsB B) (hc:a3 B st dx tx w er t 4 133 [] (.str [62]) q q₁)  (hn:nm.length≤100000) (hky:ky.length≤100000) (hp:ps.length≤999) (hk:ks.length≤990):
 KJ B 542 g (sT1 st dx tx w er g v lf u da la lb t R nm sc b (ps.map ad) q f ks ky vl) true (tS st dx tx w er g v lf u t q₁ 304 (.ref da) (ks++de ps (aC ky)++aH nm (ps++[(aC ky,.str vl)]) sc b) R):=
 hY (q₁:=q₁) (f₁:=f) (ks₁:=ks) (c:=(.str [62])) true hB hn hky hp hk fun L=>aE [g,st,tx,er,u,da,la,lb] ⟨[("self",some (.slot 0)),("data",none),("leavingThisState",none),("emitToken",none),("name",none),("_",none)],dTS dx w v lf t q f (.slot 5) ks [] (dTg (tyT b) nm sc (tlD b) (ps.map ad) [.slot 7] [dAt ky vl]),R⟩ (eAn dx w v lf t R nm sc b (ps.map ad) (.str [62]) true none none q₁ f ks [] ky vl) [.call 0 (.av (.str [62])) (dTS dx w v lf t q₁ f (.slot 5) ks [] (dTg (tyT b) nm sc (tlD b) (ps.map ad) [.slot 7] [dAt ky vl])) R 4,.br false,.br false,.br true] .next (pxo hB) (qa (qa (qa (qa trivial (hc (a2 [g,st,tx,er,u,da,la,lb] R (dTk v lf f (.slot 5)::(4,.list ks [])::(dTg (tyT b) nm sc (tlD b) (ps.map ad) [.slot 7] [dAt ky vl]))))) ff) ff) tt) (h1:=congrArg (St.mk _) (eA0 ..)) (h2:=congrArg (St.mk _) (rfl))
theorem xS (hB:IsB B) (hc:a3 B st dx tx w er t 4 133 [] (.str [z]) q q₁) (h1:z≠61) (h2:decide ([z]∈aX)=false) (h3:z≠62) (h4:decide ([z]∈ar)=true) (hn:nm.length≤100000) (hky:ky.length≤100000) (hp:ps.length≤999) (hk:ks.length≤990):
 KJ B 542 g (sT1 st dx tx w er g v lf u da la lb t R nm sc b (ps.map ad) q f ks ky vl) true (sT1 st dx tx w er g v lf u da la lb t R nm sc b (ps.map ad) q₁ 549 (ks++de ps (aC ky)) (aC ky) vl):=
 hY (q₁:=q₁) (f₁:=549) (ks₁:=ks) (c:=(.str [z])) false hB hn hky hp hk fun L=>aE [g,st,tx,er,u,da,la,lb] ⟨[("self",some (.slot 0)),("data",none),("leavingThisState",none),("emitToken",none),("name",none),("_",none)],dTS dx w v lf t q f (.slot 5) ks [] (dTg (tyT b) nm sc (tlD b) (ps.map ad) [.slot 7] [dAt ky vl]),R⟩ (eAn dx w v lf t R nm sc b (ps.map ad) (.str [z]) false none none q₁ 549 ks [] ky vl) [.call 0 (.av (.str [z])) (dTS dx w v lf t q₁ f (.slot 5) ks [] (dTg (tyT b) nm sc (tlD b) (ps.map ad) [.slot 7] [dAt ky vl])) R 4,.br false,.br false,.br false,.br true] .next (pxo hB) (qa (qa (qa (qa (qa trivial (hc (a2 [g,st,tx,er,u,da,la,lb] R (dTk v lf f (.slot 5)::(4,.list ks [])::(dTg (tyT b) nm sc (tlD b) (ps.map ad) [.slot 7] [dAt ky vl]))))) (ne1 h1)) h2) (ne1 h3)) h4) (h1:=congrArg (St.mk _) (eA0 ..)) (h2:=congrArg (St.mk _) (rfl))
end
end
section
set_option genInjectivity false
section
variable {B:a5} {R:OL} {st dx tx w er g v u lf f da la lb:Addr} {t:List Nat} {q q₁ q₂:SS} {ks as:List AV} {z:Nat} {r ky vl nm:List Nat} {sc b:Bool} {ps:List DV}
theorem zM (hB:IsB B) (hc:a3 B st dx tx w er t 4 133 [] (.str [z]) q q₁) (h1:decide ([z]∈ar)=true) (hk:ks.length≤1000):
 KJ B 367 g (tS st dx tx w er g v lf u t q f (.ref da) ks ((da,aR (tyT b) nm la sc (tlF b))::(la,.list as)::R)) true (tS st dx tx w er g v lf u t q₁ 535 (.ref da) ks ((da,aR (tyT b) nm la sc (tlF b))::(la,.list as)::R)):=
 b9 ["data"] [g,st,tx,er,u,da,la] (dTS dx w v lf t q f (.slot 5) ks [] (dTg (tyT b) nm sc (tlD b) as [] [])) R [.call 0 (.av (.str [z])) (dTS dx w v lf t q₁ f (.slot 5) ks [] (dTg (tyT b) nm sc (tlD b) as [] [])) R 4,.br true] true (dTS dx w v lf t q₁ 535 (.slot 5) ks [] (dTg (tyT b) nm sc (tlD b) as [] [])) hB (qa (qa trivial (hc (a2 [g,st,tx,er,u,da,la] R (dTk v lf f (.slot 5)::(4,.list ks [])::(dTg (tyT b) nm sc (tlD b) as [] []))))) h1) (eo:=eT0 ..) (e2:=eT0 ..)
theorem zu (hB:IsB B) (hc:a3 B st dx tx w er t 4 133 [] (.str [47]) q q₁) (hk:ks.length≤1000):
 KJ B 367 g (tS st dx tx w er g v lf u t q f (.ref da) ks ((da,aR (tyT b) nm la sc (tlF b))::(la,.list as)::R)) true (tS st dx tx w er g v lf u t q₁ 591 (.ref da) ks ((da,aR (tyT b) nm la sc (tlF b))::(la,.list as)::R)):=
 b9 ["data"] [g,st,tx,er,u,da,la] (dTS dx w v lf t q f (.slot 5) ks [] (dTg (tyT b) nm sc (tlD b) as [] [])) R [.call 0 (.av (.str [47])) (dTS dx w v lf t q₁ f (.slot 5) ks [] (dTg (tyT b) nm sc (tlD b) as [] [])) R 4,.br false,.br false,.br true] true (dTS dx w v lf t q₁ 591 (.slot 5) ks [] (dTg (tyT b) nm sc (tlD b) as [] [])) hB (qa (qa (qa (qa trivial (hc (a2 [g,st,tx,er,u,da,la] R (dTk v lf f (.slot 5)::(4,.list ks [])::(dTg (tyT b) nm sc (tlD b) as [] []))))) ff) ff) tt) (eo:=eT0 ..) (e2:=eT0 ..)
theorem qu (hB:IsB B) (hc:a3 B st dx tx w er t 4 133 [] (.str [z]) q q₁) (h1:decide ([z]∈ar)=false) (h2:z≠62) (h3:z≠47) (h4:z≠0) (hn:nm.length≤16777000) (hk:ks.length≤1000):
 KJ B 367 g (tS st dx tx w er g v lf u t q f (.ref da) ks ((da,aR (tyT b) nm la sc (tlF b))::(la,.list as)::R)) true (tS st dx tx w er g v lf u t q₁ f (.ref da) ks ((da,aR (tyT b) (nm++[z]) la sc (tlF b))::(la,.list as)::R)):=by
 rcases b with _ | _
 · exact b9 ["data"] [g,st,tx,er,u,da,la] (dTS dx w v lf t q f (.slot 5) ks [] (dTg 4 (nm) sc [] as [] [])) R [.call 0 (.av (.str [z])) (dTS dx w v lf t q₁ f (.slot 5) ks [] (dTg 4 (nm) sc [] as [] [])) R 4,.br false,.br false,.br false,.br false] true (dTS dx w v lf t q₁ f (.slot 5) ks [] (dTg 4 (nm++[z]) sc [] as [] [])) hB (qa (qa (qa (qa (qa (qa trivial (hc (a2 [g,st,tx,er,u,da,la] R (dTk v lf f (.slot 5)::(4,.list ks [])::(dTg 4 (nm) sc [] as [] []))))) h1) (ne1 h2)) (ne1 h3)) (ne1 h4)) (lz2 (k:=1) hn))
 · exact b9 ["data"] [g,st,tx,er,u,da,la] (dTS dx w v lf t q f (.slot 5) ks [] (dTg 3 (nm) sc [("selfClosingAcknowledged",.av (.bool false))] as [] [])) R [.call 0 (.av (.str [z])) (dTS dx w v lf t q₁ f (.slot 5) ks [] (dTg 3 (nm) sc [("selfClosingAcknowledged",.av (.bool false))] as [] [])) R 4,.br false,.br false,.br false,.br false] true (dTS dx w v lf t q₁ f (.slot 5) ks [] (dTg 3 (nm++[z]) sc [("selfClosingAcknowledged",.av (.bool false))] as [] [])) hB (qa (qa (qa (qa (qa (qa trivial (hc (a2 [g,st,tx,er,u,da,la] R (dTk v lf f (.slot 5)::(4,.list ks [])::(dTg 3 (nm) sc [("selfClosingAcknowledged",.av (.bool false))] as [] []))))) h1) (ne1 h2)) (ne1 h3)) (ne1 h4)) (lz2 (k:=1) hn))
theorem x6 (hB:IsB B) (hc:a3 B st dx tx w er t 4 133 [] (.str [z]) q q₁) (h1:decide ([z]∈ar)=true) (hu:a3 B st dx tx w er t 4 156 [.tup (ar.map .str),.bool true] (.str r) q₁ q₂) (hk:ks.length≤1000):
 KJ B 535 g (tS st dx tx w er g v lf u t q f (.ref da) ks ((da,aR (tyT b) nm la sc (tlF b))::(la,.list as)::R)) true (tS st dx tx w er g v lf u t q₂ f (.ref da) ks ((da,aR (tyT b) nm la sc (tlF b))::(la,.list as)::R)):=
 b9 ["data"] [g,st,tx,er,u,da,la] (dTS dx w v lf t q f (.slot 5) ks [] (dTg (tyT b) nm sc (tlD b) as [] [])) R [.call 0 (.av (.str [z])) (dTS dx w v lf t q₁ f (.slot 5) ks [] (dTg (tyT b) nm sc (tlD b) as [] [])) R 4,.br true,.call 0 (.av (.str r)) (dTS dx w v lf t q₂ f (.slot 5) ks [] (dTg (tyT b) nm sc (tlD b) as [] [])) R 4] true (dTS dx w v lf t q₂ f (.slot 5) ks [] (dTg (tyT b) nm sc (tlD b) as [] [])) hB (qa (qa (qa trivial (hc (a2 [g,st,tx,er,u,da,la] R (dTk v lf f (.slot 5)::(4,.list ks [])::(dTg (tyT b) nm sc (tlD b) as [] []))))) h1) (hu (a2 [g,st,tx,er,u,da,la] R (dTk v lf f (.slot 5)::(4,.list ks [])::(dTg (tyT b) nm sc (tlD b) as [] []))))) (eo:=eT0 ..) (e2:=eT0 ..)
theorem xa (hB:IsB B) (hc:a3 B st dx tx w er t 4 133 [] (.str [47]) q q₁) (hk:ks.length≤1000):
 KJ B 535 g (tS st dx tx w er g v lf u t q f (.ref da) ks ((da,aR (tyT b) nm la sc (tlF b))::(la,.list as)::R)) true (tS st dx tx w er g v lf u t q₁ 591 (.ref da) ks ((da,aR (tyT b) nm la sc (tlF b))::(la,.list as)::R)):=
 b9 ["data"] [g,st,tx,er,u,da,la] (dTS dx w v lf t q f (.slot 5) ks [] (dTg (tyT b) nm sc (tlD b) as [] [])) R [.call 0 (.av (.str [47])) (dTS dx w v lf t q₁ f (.slot 5) ks [] (dTg (tyT b) nm sc (tlD b) as [] [])) R 4,.br false,.br false,.br false,.br true] true (dTS dx w v lf t q₁ 591 (.slot 5) ks [] (dTg (tyT b) nm sc (tlD b) as [] [])) hB (qa (qa (qa (qa (qa trivial (hc (a2 [g,st,tx,er,u,da,la] R (dTk v lf f (.slot 5)::(4,.list ks [])::(dTg (tyT b) nm sc (tlD b) as [] []))))) ff) ff) ff) tt) (eo:=eT0 ..) (e2:=eT0 ..)
theorem wy (hB:IsB B) (hc:a3 B st dx tx w er t 4 133 [] (.str [34]) q q₁) (hk:ks.length≤1000):
 KJ B 556 g (tS st dx tx w er g v lf u t q f (.ref da) ks ((da,aR (tyT b) nm la sc (tlF b))::(la,.list (as++[.ref lb]))::(lb,.list [.str ky,.str vl])::R)) true (tS st dx tx w er g v lf u t q₁ 563 (.ref da) ks ((da,aR (tyT b) nm la sc (tlF b))::(la,.list (as++[.ref lb]))::(lb,.list [.str ky,.str vl])::R)):=
 b9 ["data"] [g,st,tx,er,u,da,la,lb] (dTS dx w v lf t q f (.slot 5) ks [] (dTg (tyT b) nm sc (tlD b) as [.slot 7] [dAt ky vl])) R [.call 0 (.av (.str [34])) (dTS dx w v lf t q₁ f (.slot 5) ks [] (dTg (tyT b) nm sc (tlD b) as [.slot 7] [dAt ky vl])) R 4,.br false,.br true] true (dTS dx w v lf t q₁ 563 (.slot 5) ks [] (dTg (tyT b) nm sc (tlD b) as [.slot 7] [dAt ky vl])) hB (qa (qa (qa trivial (hc (a2 [g,st,tx,er,u,da,la,lb] R (dTk v lf f (.slot 5)::(4,.list ks [])::(dTg (tyT b) nm sc (tlD b) as [.slot 7] [dAt ky vl]))))) ff) tt) (eo:=eA0 ..) (e2:=eA0 ..)
theorem xi (hB:IsB B) (hc:a3 B st dx tx w er t 4 133 [] (.str [39]) q q₁) (hk:ks.length≤1000):
 KJ B 556 g (tS st dx tx w er g v lf u t q f (.ref da) ks ((da,aR (tyT b) nm la sc (tlF b))::(la,.list (as++[.ref lb]))::(lb,.list [.str ky,.str vl])::R)) true (tS st dx tx w er g v lf u t q₁ 570 (.ref da) ks ((da,aR (tyT b) nm la sc (tlF b))::(la,.list (as++[.ref lb]))::(lb,.list [.str ky,.str vl])::R)):=
 b9 ["data"] [g,st,tx,er,u,da,la,lb] (dTS dx w v lf t q f (.slot 5) ks [] (dTg (tyT b) nm sc (tlD b) as [.slot 7] [dAt ky vl])) R [.call 0 (.av (.str [39])) (dTS dx w v lf t q₁ f (.slot 5) ks [] (dTg (tyT b) nm sc (tlD b) as [.slot 7] [dAt ky vl])) R 4,.br false,.br false,.br false,.br true] true (dTS dx w v lf t q₁ 570 (.slot 5) ks [] (dTg (tyT b) nm sc (tlD b) as [.slot 7] [dAt ky vl])) hB (qa (qa (qa (qa (qa trivial (hc (a2 [g,st,tx,er,u,da,la,lb] R (dTk v lf f (.slot 5)::(4,.list ks [])::(dTg (tyT b) nm sc (tlD b) as [.slot 7] [dAt ky vl]))))) ff) ff) ff) tt) (eo:=eA0 ..) (e2:=eA0 ..)
theorem pi (hB:IsB B) (hc:a3 B st dx tx w er t 4 133 [] (.str [z]) q q₁) (h1:decide ([z]∈ar)=false) (h2:z≠34) (h3:z≠38) (h4:z≠39) (h5:z≠62) (h6:z≠0) (h7:decide ([z]∈[[61],[60],[96]])=false) (hv:vl.length≤16777000) (ha:as.length≤1000) (hk:ks.length≤1000):
 KJ B 556 g (tS st dx tx w er g v lf u t q f (.ref da) ks ((da,aR (tyT b) nm la sc (tlF b))::(la,.list (as++[.ref lb]))::(lb,.list [.str ky,.str vl])::R)) true (tS st dx tx w er g v lf u t q₁ 577 (.ref da) ks ((da,aR (tyT b) nm la sc (tlF b))::(la,.list (as++[.ref lb]))::(lb,.list [.str ky,.str (vl++[z])])::R)):=
 b9 ["data"] [g,st,tx,er,u,da,la,lb] (dTS dx w v lf t q f (.slot 5) ks [] (dTg (tyT b) nm sc (tlD b) as [.slot 7] [dAt ky vl])) R [.call 0 (.av (.str [z])) (dTS dx w v lf t q₁ f (.slot 5) ks [] (dTg (tyT b) nm sc (tlD b) as [.slot 7] [dAt ky vl])) R 4,.br false,.br false,.br false,.br false,.br false,.br false,.br false] true (dTS dx w v lf t q₁ 577 (.slot 5) ks [] (dTg (tyT b) nm sc (tlD b) as [.slot 7] [dAt ky (vl++[z])])) hB (qa (qa (qa (qa (qa (qa (qa (qa (qa (qa trivial (hc (a2 [g,st,tx,er,u,da,la,lb] R (dTk v lf f (.slot 5)::(4,.list ks [])::(dTg (tyT b) nm sc (tlD b) as [.slot 7] [dAt ky vl]))))) h1) (ne1 h2)) (ne1 h3)) (ne1 h4)) (ne1 h5)) (ne1 h6)) h7) (show as.length+1≤16777000 from nT0 (Nat.succ_le_succ ha) (by decide))) (lz2 (k:=1) hv)) (eo:=eA0 ..) (e2:=eA0 ..)
theorem C9 (hB:IsB B) (hc:a3 B st dx tx w er t 4 133 [] (.str [34]) q q₁) (hk:ks.length≤1000):
 KJ B 563 g (tS st dx tx w er g v lf u t q f (.ref da) ks ((da,aR (tyT b) nm la sc (tlF b))::(la,.list (as++[.ref lb]))::(lb,.list [.str ky,.str vl])::R)) true (tS st dx tx w er g v lf u t q₁ 584 (.ref da) ks ((da,aR (tyT b) nm la sc (tlF b))::(la,.list (as++[.ref lb]))::(lb,.list [.str ky,.str vl])::R)):=
 b9 ["data"] [g,st,tx,er,u,da,la,lb] (dTS dx w v lf t q f (.slot 5) ks [] (dTg (tyT b) nm sc (tlD b) as [.slot 7] [dAt ky vl])) R [.call 0 (.av (.str [34])) (dTS dx w v lf t q₁ f (.slot 5) ks [] (dTg (tyT b) nm sc (tlD b) as [.slot 7] [dAt ky vl])) R 4,.br true] true (dTS dx w v lf t q₁ 584 (.slot 5) ks [] (dTg (tyT b) nm sc (tlD b) as [.slot 7] [dAt ky vl])) hB (qa (qa trivial (hc (a2 [g,st,tx,er,u,da,la,lb] R (dTk v lf f (.slot 5)::(4,.list ks [])::(dTg (tyT b) nm sc (tlD b) as [.slot 7] [dAt ky vl]))))) tt) (eo:=eA0 ..) (e2:=eA0 ..)
theorem oZ (hB:IsB B) (hc:a3 B st dx tx w er t 4 133 [] (.str [z]) q q₁) (h1:z≠34) (h2:z≠38) (h3:z≠0) (hr:vl.length+r.length≤16777000) (hu:a3 B st dx tx w er t 4 156 [.tup [.str [34],.str [38],.str [0]]] (.str r) q₁ q₂) (ha:as.length≤1000) (hk:ks.length≤1000):
 KJ B 563 g (tS st dx tx w er g v lf u t q f (.ref da) ks ((da,aR (tyT b) nm la sc (tlF b))::(la,.list (as++[.ref lb]))::(lb,.list [.str ky,.str vl])::R)) true (tS st dx tx w er g v lf u t q₂ f (.ref da) ks ((da,aR (tyT b) nm la sc (tlF b))::(la,.list (as++[.ref lb]))::(lb,.list [.str ky,.str (vl++([z]++r))])::R)):=
 b9 ["data"] [g,st,tx,er,u,da,la,lb] (dTS dx w v lf t q f (.slot 5) ks [] (dTg (tyT b) nm sc (tlD b) as [.slot 7] [dAt ky vl])) R [.call 0 (.av (.str [z])) (dTS dx w v lf t q₁ f (.slot 5) ks [] (dTg (tyT b) nm sc (tlD b) as [.slot 7] [dAt ky vl])) R 4,.br false,.br false,.br false,.call 0 (.av (.str r)) (dTS dx w v lf t q₂ f (.slot 5) ks [] (dTg (tyT b) nm sc (tlD b) as [.slot 7] [dAt ky vl])) R 4] true (dTS dx w v lf t q₂ f (.slot 5) ks [] (dTg (tyT b) nm sc (tlD b) as [.slot 7] [dAt ky (vl++([z]++r))])) hB (qa (qa (qa (qa (qa (qa (qa (qa trivial (hc (a2 [g,st,tx,er,u,da,la,lb] R (dTk v lf f (.slot 5)::(4,.list ks [])::(dTg (tyT b) nm sc (tlD b) as [.slot 7] [dAt ky vl]))))) (ne1 h1)) (ne1 h2)) (ne1 h3)) (show as.length+1≤16777000 from nT0 (Nat.succ_le_succ ha) (by decide))) (hu (a2 [g,st,tx,er,u,da,la,lb] R (dTk v lf f (.slot 5)::(4,.list ks [])::(dTg (tyT b) nm sc (tlD b) as [.slot 7] [dAt ky vl]))))) (lz1 (z:=z) (nT0 (Nat.le_add_left _ _) hr))) (lz4 (z:=z) hr)) (eo:=eA0 ..) (e2:=eA0 ..)
theorem CM (hB:IsB B) (hc:a3 B st dx tx w er t 4 133 [] (.str [39]) q q₁) (hk:ks.length≤1000):
 KJ B 570 g (tS st dx tx w er g v lf u t q f (.ref da) ks ((da,aR (tyT b) nm la sc (tlF b))::(la,.list (as++[.ref lb]))::(lb,.list [.str ky,.str vl])::R)) true (tS st dx tx w er g v lf u t q₁ 584 (.ref da) ks ((da,aR (tyT b) nm la sc (tlF b))::(la,.list (as++[.ref lb]))::(lb,.list [.str ky,.str vl])::R)):=
 b9 ["data"] [g,st,tx,er,u,da,la,lb] (dTS dx w v lf t q f (.slot 5) ks [] (dTg (tyT b) nm sc (tlD b) as [.slot 7] [dAt ky vl])) R [.call 0 (.av (.str [39])) (dTS dx w v lf t q₁ f (.slot 5) ks [] (dTg (tyT b) nm sc (tlD b) as [.slot 7] [dAt ky vl])) R 4,.br true] true (dTS dx w v lf t q₁ 584 (.slot 5) ks [] (dTg (tyT b) nm sc (tlD b) as [.slot 7] [dAt ky vl])) hB (qa (qa trivial (hc (a2 [g,st,tx,er,u,da,la,lb] R (dTk v lf f (.slot 5)::(4,.list ks [])::(dTg (tyT b) nm sc (tlD b) as [.slot 7] [dAt ky vl]))))) tt) (eo:=eA0 ..) (e2:=eA0 ..)
theorem qp (hB:IsB B) (hc:a3 B st dx tx w er t 4 133 [] (.str [z]) q q₁) (h1:z≠39) (h2:z≠38) (h3:z≠0) (hr:vl.length+r.length≤16777000) (hu:a3 B st dx tx w er t 4 156 [.tup [.str [39],.str [38],.str [0]]] (.str r) q₁ q₂) (ha:as.length≤1000) (hk:ks.length≤1000):
 KJ B 570 g (tS st dx tx w er g v lf u t q f (.ref da) ks ((da,aR (tyT b) nm la sc (tlF b))::(la,.list (as++[.ref lb]))::(lb,.list [.str ky,.str vl])::R)) true (tS st dx tx w er g v lf u t q₂ f (.ref da) ks ((da,aR (tyT b) nm la sc (tlF b))::(la,.list (as++[.ref lb]))::(lb,.list [.str ky,.str (vl++([z]++r))])::R)):=
 b9 ["data"] [g,st,tx,er,u,da,la,lb] (dTS dx w v lf t q f (.slot 5) ks [] (dTg (tyT b) nm sc (tlD b) as [.slot 7] [dAt ky vl])) R [.call 0 (.av (.str [z])) (dTS dx w v lf t q₁ f (.slot 5) ks [] (dTg (tyT b) nm sc (tlD b) as [.slot 7] [dAt ky vl])) R 4,.br false,.br false,.br false,.call 0 (.av (.str r)) (dTS dx w v lf t q₂ f (.slot 5) ks [] (dTg (tyT b) nm sc (tlD b) as [.slot 7] [dAt ky vl])) R 4] true (dTS dx w v lf t q₂ f (.slot 5) ks [] (dTg (tyT b) nm sc (tlD b) as [.slot 7] [dAt ky (vl++([z]++r))])) hB (qa (qa (qa (qa (qa (qa (qa (qa trivial (hc (a2 [g,st,tx,er,u,da,la,lb] R (dTk v lf f (.slot 5)::(4,.list ks [])::(dTg (tyT b) nm sc (tlD b) as [.slot 7] [dAt ky vl]))))) (ne1 h1)) (ne1 h2)) (ne1 h3)) (show as.length+1≤16777000 from nT0 (Nat.succ_le_succ ha) (by decide))) (hu (a2 [g,st,tx,er,u,da,la,lb] R (dTk v lf f (.slot 5)::(4,.list ks [])::(dTg (tyT b) nm sc (tlD b) as [.slot 7] [dAt ky vl]))))) (lz1 (z:=z) (nT0 (Nat.le_add_left _ _) hr))) (lz4 (z:=z) hr)) (eo:=eA0 ..) (e2:=eA0 ..)
theorem zn (hB:IsB B) (hc:a3 B st dx tx w er t 4 133 [] (.str [z]) q q₁) (h1:decide ([z]∈ar)=true) (hk:ks.length≤1000):
 KJ B 584 g (tS st dx tx w er g v lf u t q f (.ref da) ks ((da,aR (tyT b) nm la sc (tlF b))::(la,.list as)::R)) true (tS st dx tx w er g v lf u t q₁ 535 (.ref da) ks ((da,aR (tyT b) nm la sc (tlF b))::(la,.list as)::R)):=
 b9 ["data"] [g,st,tx,er,u,da,la] (dTS dx w v lf t q f (.slot 5) ks [] (dTg (tyT b) nm sc (tlD b) as [] [])) R [.call 0 (.av (.str [z])) (dTS dx w v lf t q₁ f (.slot 5) ks [] (dTg (tyT b) nm sc (tlD b) as [] [])) R 4,.br true] true (dTS dx w v lf t q₁ 535 (.slot 5) ks [] (dTg (tyT b) nm sc (tlD b) as [] [])) hB (qa (qa trivial (hc (a2 [g,st,tx,er,u,da,la] R (dTk v lf f (.slot 5)::(4,.list ks [])::(dTg (tyT b) nm sc (tlD b) as [] []))))) h1) (eo:=eT0 ..) (e2:=eT0 ..)
theorem rf (hB:IsB B) (hc:a3 B st dx tx w er t 4 133 [] (.str [z]) q q₁) (h1:decide ([z]∈ar)=false) (h2:z≠62) (h3:z≠47) (hu:a3 B st dx tx w er t 1 163 [.str [z]] .none q₁ q₂) (hk:ks.length≤1000):
 KJ B 584 g (tS st dx tx w er g v lf u t q f (.ref da) ks ((da,aR (tyT b) nm la sc (tlF b))::(la,.list as)::R)) true (tS st dx tx w er g v lf u t q₂ 535 (.ref da) (ks++[(eE "unexpected-character-after-attribute-value")]) ((da,aR (tyT b) nm la sc (tlF b))::(la,.list as)::R)):=
 b9 ["data"] [g,st,tx,er,u,da,la] (dTS dx w v lf t q f (.slot 5) ks [] (dTg (tyT b) nm sc (tlD b) as [] [])) R [.call 0 (.av (.str [z])) (dTS dx w v lf t q₁ f (.slot 5) ks [] (dTg (tyT b) nm sc (tlD b) as [] [])) R 4,.br false,.br false,.br false,.call 0 (.av .none) (dTS dx w v lf t q₂ f (.slot 5) ks [.av (eE "unexpected-character-after-attribute-value")] (dTg (tyT b) nm sc (tlD b) as [] [])) R 1] true (dTS dx w v lf t q₂ 535 (.slot 5) ks [.av (eE "unexpected-character-after-attribute-value")] (dTg (tyT b) nm sc (tlD b) as [] [])) hB (qa (qa (qa (qa (qa (qa trivial (hc (a2 [g,st,tx,er,u,da,la] R (dTk v lf f (.slot 5)::(4,.list ks [])::(dTg (tyT b) nm sc (tlD b) as [] []))))) h1) (ne1 h2)) (ne1 h3)) (kzj 0 hk)) (hu (a2 [g,st,tx,er,u,da,la] R (dTk v lf f (.slot 5)::(4,.list ks [.av (eE "unexpected-character-after-attribute-value")])::(dTg (tyT b) nm sc (tlD b) as [] []))))) (eo:=eT0 ..) (e2:=eT1 ..)
theorem pv (hB:IsB B) (hc:a3 B st dx tx w er t 4 133 [] (.str [z]) q q₁) (h2:z≠62) (hu:a3 B st dx tx w er t 1 163 [.str [z]] .none q₁ q₂) (hk:ks.length≤1000):
 KJ B 591 g (tS st dx tx w er g v lf u t q f (.ref da) ks ((da,aR (tyT b) nm la sc (tlF b))::(la,.list as)::R)) true (tS st dx tx w er g v lf u t q₂ 535 (.ref da) (ks++[(eE "unexpected-character-after-solidus-in-tag")]) ((da,aR (tyT b) nm la sc (tlF b))::(la,.list as)::R)):=
 b9 ["data"] [g,st,tx,er,u,da,la] (dTS dx w v lf t q f (.slot 5) ks [] (dTg (tyT b) nm sc (tlD b) as [] [])) R [.call 0 (.av (.str [z])) (dTS dx w v lf t q₁ f (.slot 5) ks [] (dTg (tyT b) nm sc (tlD b) as [] [])) R 4,.br false,.call 0 (.av .none) (dTS dx w v lf t q₂ f (.slot 5) ks [.av (eE "unexpected-character-after-solidus-in-tag")] (dTg (tyT b) nm sc (tlD b) as [] [])) R 1] true (dTS dx w v lf t q₂ 535 (.slot 5) ks [.av (eE "unexpected-character-after-solidus-in-tag")] (dTg (tyT b) nm sc (tlD b) as [] [])) hB (qa (qa (qa (qa trivial (hc (a2 [g,st,tx,er,u,da,la] R (dTk v lf f (.slot 5)::(4,.list ks [])::(dTg (tyT b) nm sc (tlD b) as [] []))))) (ne1 h2)) (kzj 0 hk)) (hu (a2 [g,st,tx,er,u,da,la] R (dTk v lf f (.slot 5)::(4,.list ks [.av (eE "unexpected-character-after-solidus-in-tag")])::(dTg (tyT b) nm sc (tlD b) as [] []))))) (eo:=eT0 ..) (e2:=eT1 ..)
end
end
section
set_option genInjectivity false
section
variable {B:a5} {R:OL} {st dx tx w er g v u lf f:Addr} {t:List Nat} {q q₁ q₂:SS} {ks as:List AV} {z:Nat}
theorem qA (cur:AV) (hB:IsB B) (hc:a3 B st dx tx w er t 4 133 [] (.str [z]) q q₁) (h1:z≠33) (h2:z≠47) (h3:decide ([z]∈aX)=true):
 a4 B 5 353 [.ref g] (tS st dx tx w er g v lf u t q f cur ks R) fun d o=>d=.bool true∧∃ la da,o=tS st dx tx w er g v lf u t q₁ 367 (.ref da) ks ((la,.list [])::(da,aR 3 [z] la false (tlF true))::R):=
 il (k:=2) (v:=.av (.bool true)) (objs':=dTS dx w v lf t q₁ 367 (.slot 6) ks [] [(5,.list [] []),(6,.dict [("type",.av (.int 3)),("name",.av (.str [z])),("data",.slot 5),("selfClosing",.av (.bool false)),("selfClosingAcknowledged",.av (.bool false))])]) (rest':=R) ["self"] ["data"] [g,st,tx,er,u] [.slot 0] (dTS dx w v lf t q f (.av cur) ks [] []) R [.call 0 (.av (.str [z])) (dTS dx w v lf t q₁ f (.av cur) ks [] []) R 4,.br false,.br false,.br true] hB.K (d6 hB) rfl (.one fun _=>rfl) (hq:=qa (qa (qa (qa trivial (hc (a2 [g,st,tx,er,u] R [dTk v lf f (.av cur),(4,.list ks [])]))) (ne1 h1)) (ne1 h2)) h3)
  (fun d o ⟨a,b,h⟩=>⟨h.1,a,b,h.2⟩) (by kernel_rfl) (by kernel_rfl) (by kernel_rfl) (by intro L;kernel_rfl)
theorem so (cur:AV) (hB:IsB B) (hc:a3 B st dx tx w er t 4 133 [] (.str [z]) q q₁) (h3:decide ([z]∈aX)=true):
 a4 B 5 360 [.ref g] (tS st dx tx w er g v lf u t q f cur ks R) fun d o=>d=.bool true∧∃ la da,o=tS st dx tx w er g v lf u t q₁ 367 (.ref da) ks ((la,.list [])::(da,aR 4 [z] la false (tlF false))::R):=
 il (k:=2) (v:=.av (.bool true)) (objs':=dTS dx w v lf t q₁ 367 (.slot 6) ks [] [(5,.list [] []),(6,.dict [("type",.av (.int 4)),("name",.av (.str [z])),("data",.slot 5),("selfClosing",.av (.bool false))])]) (rest':=R) ["self"] ["data"] [g,st,tx,er,u] [.slot 0] (dTS dx w v lf t q f (.av cur) ks [] []) R [.call 0 (.av (.str [z])) (dTS dx w v lf t q₁ f (.av cur) ks [] []) R 4,.br true] hB.K (d6 hB) rfl (.one fun _=>rfl) (hq:=qa (qa trivial (hc (a2 [g,st,tx,er,u] R [dTk v lf f (.av cur),(4,.list ks [])]))) h3)
  (fun d o ⟨a,b,h⟩=>⟨h.1,a,b,h.2⟩) (by kernel_rfl) (by kernel_rfl) (by kernel_rfl) (by intro L;kernel_rfl)
end
end
section
set_option genInjectivity false
inductive Stt | data | tag | cl | tn | bn | an | nn | bv | dq | sq | uq | av | sc | bog | mk | cs | cd | co | ce | cn | cb
inductive fx where
 | none | cmt (acc:List Nat) | tag (b:Bool) (nm:List Nat) (ps:List (List Nat×List Nat)) (sc:Bool) (o:Option (List Nat×List Nat))
noncomputable abbrev Rows:=Option (List (Nat×AV))
noncomputable abbrev pA (ps:List (List Nat×List Nat)):List (List Nat×AV):=ps.map fun p=>(p.1,.str p.2)
noncomputable abbrev Stt.addr (s:Stt):Addr:=Stt.casesOn s 304 353 360 367 535 542 549 556 563 570 577 584 591 598 605 612 619 626 633 640 647
noncomputable def uSp (x:Nat):Bool:=decide ([x]∈ar)==true
noncomputable def uTx (x:Nat):Bool:=decide ([x]∈[[38],[60],[0]])==false
noncomputable def uDq (x:Nat):Bool:=decide ([x]∈[[34],[38],[0]])==false
noncomputable def uSq (x:Nat):Bool:=decide ([x]∈[[39],[38],[0]])==false
noncomputable def uDs (x:Nat):Bool:=decide ([x]∈[[45],[0]])==false
noncomputable def uGt (x:Nat):Bool:=decide (x∈[62])==false
noncomputable def out (l:List Nat) (ks:List AV) (k:Rows):Rows:=k.map fun r=>ks.map (fun d=>(l.length,d))++r
theorem aa {l:List Nat} {ks:List AV} {k:Rows} {rows:List (Nat×AV)} (h:out l ks k=some rows):∃ r,k=some r∧ks.map (fun d=>(l.length,d))++r=rows:=Option.map_eq_some_iff.mp h
noncomputable abbrev KK:=Stt→fx→List Nat→Rows
noncomputable def onC (tok:fx) (f:List Nat→Rows):Rows:=fx.casesOn tok none (fun acc=>if Nat.ble acc.length 5000=true then f acc else none) fun _ _ _ _ _=>none
noncomputable def i3 (nm:List Nat) (ps:List (List Nat×List Nat)) (ky vl:List Nat):Bool:=Nat.ble nm.length 5000&&(Nat.ble ps.length 900&&(Nat.ble ky.length 5000&&Nat.ble vl.length 5000))
noncomputable def onO (tok:fx) (f:Bool→List Nat→List (List Nat×List Nat)→Bool→List Nat→List Nat→Rows):Rows:=fx.casesOn tok none (fun _=>none) fun b nm ps sc o=>Option.casesOn o none fun p=>if i3 nm ps p.1 p.2=true then f b nm ps sc p.1 p.2 else none
noncomputable def onK (tok:fx) (f:Bool→List Nat→List (List Nat×List Nat)→Bool→Rows):Rows:=fx.casesOn tok none (fun _=>none) fun b nm ps sc o=>Option.casesOn o (if i3 nm ps [] []=true then f b nm ps sc else none) fun _=>none
noncomputable def onZ (l:List Nat) (e:Rows) (f:Nat→List Nat→Rows):Rows:=List.casesOn l e f
noncomputable def pG (K:KK) (l:List Nat):Rows:=onZ l (some []) fun z l=>if z=60 then out l ([]) (K .tag .none l) else if decide ([z]∈ar)=true then out (l.dropWhile uSp) ([.dct [("type",.int 2),("data",.str (z::(l.takeWhile uSp)))]]) (K .data .none (l.dropWhile uSp)) else out (l.dropWhile uTx) ([.dct [("type",.int 1),("data",.str (z::(l.takeWhile uTx)))]]) (K .data .none (l.dropWhile uTx))
noncomputable def vG (K:KK) (l:List Nat):Rows:=onZ l (none) fun z l=>if z=33 then out l ([]) (K .mk .none l) else if z=47 then out l ([]) (K .cl .none l) else if decide ([z]∈aX)=true then out l ([]) (K .tn (.tag true [z] [] false none) l) else if z=62 then out l ([eE "expected-tag-name-but-got-right-bracket",.dct [("type",.int 1),("data",.str [60,62])]]) (K .data .none l) else if z=63 then out (z::l) ([eE "expected-tag-name-but-got-question-mark"]) (K .bog .none (z::l)) else out (z::l) ([eE "expected-tag-name",.dct [("type",.int 1),("data",.str [60])]]) (K .data .none (z::l))
noncomputable def Bk (K:KK) (l:List Nat):Rows:=onZ l (none) fun z l=>if decide ([z]∈aX)=true then out l ([]) (K .tn (.tag false [z] [] false none) l) else if z=62 then out l ([eE "expected-closing-tag-but-got-right-bracket"]) (K .data .none l) else out (z::l) ([.dct [("type",.int 7),("data",.str (sg "expected-closing-tag-but-got-char")),("datavars",.dct [("data",.str [z])])]]) (K .bog .none (z::l))
noncomputable def AG (K:KK) (b:Bool) (nm:List Nat) (ps:List (List Nat×List Nat)) (sc:Bool) (l:List Nat):Rows:=onZ l (none) fun z l=>if decide ([z]∈ar)=true then out l ([]) (K .bn (.tag b nm ps sc none) l) else if z=62 then out l (aH nm (pA ps) sc b) (K .data .none l) else if z=47 then out l ([]) (K .sc (.tag b nm ps sc none) l) else out l ([]) (K .tn (.tag b (nm++[z]) ps sc none) l)
noncomputable def CB (K:KK) (b:Bool) (nm:List Nat) (ps:List (List Nat×List Nat)) (sc:Bool) (l:List Nat):Rows:=onZ l (none) fun z l=>if decide ([z]∈ar)=true then out (l.dropWhile uSp) ([]) (K .bn (.tag b nm ps sc none) (l.dropWhile uSp)) else if decide ([z]∈aX)=true then out l ([]) (K .an (.tag b nm ps sc (some ([z],[]))) l) else if z=62 then out l (aH nm (pA ps) sc b) (K .data .none l) else if z=47 then out l ([]) (K .sc (.tag b nm ps sc none) l) else none
noncomputable def CQ (K:KK) (b:Bool) (nm:List Nat) (ps:List (List Nat×List Nat)) (sc:Bool) (ky vl:List Nat) (l:List Nat):Rows:=onZ l (none) fun z l=>if z=61 then out l (de (pA ps) (aC ky)) (K .bv (.tag b nm ps sc (some ((aC ky),vl))) l) else if decide ([z]∈aX)=true then none else if z=62 then out l ((de (pA ps) (aC ky)++aH nm (pA ps++[(aC ky,.str vl)]) sc b)) (K .data .none l) else if decide ([z]∈ar)=true then out l (de (pA ps) (aC ky)) (K .nn (.tag b nm ps sc (some ((aC ky),vl))) l) else none
noncomputable def AX (K:KK) (b:Bool) (nm:List Nat) (ps:List (List Nat×List Nat)) (sc:Bool) (ky vl:List Nat) (l:List Nat):Rows:=onZ l (none) fun z l=>if decide ([z]∈ar)=true then none else if z=61 then none else if z=62 then none else if decide ([z]∈aX)=true then out l ([]) (K .an (.tag b nm (ps++[(ky,vl)]) sc (some ([z],[]))) l) else none
noncomputable def Bg (K:KK) (b:Bool) (nm:List Nat) (ps:List (List Nat×List Nat)) (sc:Bool) (ky vl:List Nat) (l:List Nat):Rows:=onZ l (none) fun z l=>if decide ([z]∈ar)=true then none else if z=34 then out l ([]) (K .dq (.tag b nm ps sc (some (ky,vl))) l) else if z=39 then out l ([]) (K .sq (.tag b nm ps sc (some (ky,vl))) l) else if z=62 then out l (([eE "expected-attribute-value-but-got-right-bracket"]++aH nm (pA ps++[(ky,.str vl)]) sc b)) (K .data .none l) else if decide ([z]∈[[61],[60],[96]])=true then none else out l ([]) (K .uq (.tag b nm ps sc (some (ky,(vl++[z])))) l)
noncomputable def B6 (K:KK) (b:Bool) (nm:List Nat) (ps:List (List Nat×List Nat)) (sc:Bool) (ky vl:List Nat) (l:List Nat):Rows:=onZ l (none) fun z l=>if z=34 then out l ([]) (K .av (.tag b nm (ps++[(ky,vl)]) sc none) l) else out (l.dropWhile uDq) ([]) (K .dq (.tag b nm ps sc (some (ky,(vl++([z]++(l.takeWhile uDq)))))) (l.dropWhile uDq))
noncomputable def AR (K:KK) (b:Bool) (nm:List Nat) (ps:List (List Nat×List Nat)) (sc:Bool) (ky vl:List Nat) (l:List Nat):Rows:=onZ l (none) fun z l=>if z=39 then out l ([]) (K .av (.tag b nm (ps++[(ky,vl)]) sc none) l) else out (l.dropWhile uSq) ([]) (K .sq (.tag b nm ps sc (some (ky,(vl++([z]++(l.takeWhile uSq)))))) (l.dropWhile uSq))
noncomputable def AJ (K:KK) (b:Bool) (nm:List Nat) (ps:List (List Nat×List Nat)) (sc:Bool) (ky vl:List Nat) (l:List Nat):Rows:=onZ l (none) fun z l=>if decide ([z]∈ar)=true then none else if z=62 then out l (aH nm (pA ps++[(ky,.str vl)]) sc b) (K .data .none l) else none
noncomputable def AS (K:KK) (b:Bool) (nm:List Nat) (ps:List (List Nat×List Nat)) (sc:Bool) (l:List Nat):Rows:=onZ l (none) fun z l=>if decide ([z]∈ar)=true then out l ([]) (K .bn (.tag b nm ps sc none) l) else if z=62 then none else if z=47 then none else out (z::l) ([eE "unexpected-character-after-attribute-value"]) (K .bn (.tag b nm ps sc none) (z::l))
noncomputable def CH (K:KK) (b:Bool) (nm:List Nat) (ps:List (List Nat×List Nat)) (sc:Bool) (l:List Nat):Rows:=onZ l (none) fun z l=>if z=62 then out l (aH nm (pA ps) true b) (K .data .none l) else out (z::l) ([eE "unexpected-character-after-solidus-in-tag"]) (K .bn (.tag b nm ps sc none) (z::l))
noncomputable def CJ (K:KK) (acc:List Nat) (l:List Nat):Rows:=onZ l (none) fun z l=>if z=45 then none else if z=62 then out l ([eE "incorrect-comment",gH acc]) (K .data .none l) else out l ([]) (K .co (.cmt (acc++[z])) l)
noncomputable def D5 (K:KK) (acc:List Nat) (l:List Nat):Rows:=onZ l (none) fun z l=>if z=45 then out l ([]) (K .ce (.cmt acc) l) else out (l.dropWhile uDs) ([]) (K .co (.cmt (acc++([z]++(l.takeWhile uDs)))) (l.dropWhile uDs))
noncomputable def Ar (K:KK) (acc:List Nat) (l:List Nat):Rows:=onZ l (none) fun z l=>if z=45 then out l ([]) (K .cn (.cmt acc) l) else out l ([]) (K .co (.cmt (acc++([45]++[z]))) l)
noncomputable def Ch (K:KK) (acc:List Nat) (l:List Nat):Rows:=onZ l (none) fun z l=>if z=62 then out l ([gH acc]) (K .data .none l) else if z=33 then out l ([eE "unexpected-bang-after-double-dash-in-comment"]) (K .cb (.cmt acc) l) else if z=45 then none else out l ([eE "unexpected-char-in-comment"]) (K .co (.cmt (acc++([45,45]++[z]))) l)
noncomputable def Bh (K:KK) (acc:List Nat) (l:List Nat):Rows:=onZ l (none) fun z l=>if z=62 then out l ([gH acc]) (K .data .none l) else none
noncomputable def vZ (K:KK) (l:List Nat):Rows:=out (l.dropWhile uGt).tail [.dct [("type",.int 6),("data",.str (l.takeWhile uGt))]] (K .data .none (l.dropWhile uGt).tail)
noncomputable def BJ (K:KK) (l:List Nat):Rows:=onZ l none fun z l=>if z=45 then onZ l none fun z l=>if z=45 then out l [] (K .cs (.cmt []) l) else none
 else if decide ([z]∈[[100],[68]])=true then none else out (z::l) [eE "expected-dashes-or-doctype"] (K .bog .none (z::l))
noncomputable def step (K:KK) (s:Stt) (tok:fx) (l:List Nat):Rows:=Stt.casesOn s (pG K l) (vG K l) (Bk K l) (onK tok fun b nm ps sc=>AG K b nm ps sc l) (onK tok fun b nm ps sc=>CB K b nm ps sc l) (onO tok fun b nm ps sc ky vl=>CQ K b nm ps sc ky vl l) (onO tok fun b nm ps sc ky vl=>AX K b nm ps sc ky vl l) (onO tok fun b nm ps sc ky vl=>Bg K b nm ps sc ky vl l) (onO tok fun b nm ps sc ky vl=>B6 K b nm ps sc ky vl l) (onO tok fun b nm ps sc ky vl=>AR K b nm ps sc ky vl l) (onO tok fun b nm ps sc ky vl=>AJ K b nm ps sc ky vl l) (onK tok fun b nm ps sc=>AS K b nm ps sc l) (onK tok fun b nm ps sc=>CH K b nm ps sc l) (vZ K l) (BJ K l) (onC tok fun acc=>CJ K acc l) none (onC tok fun acc=>D5 K acc l) (onC tok fun acc=>Ar K acc l) (onC tok fun acc=>Ch K acc l) (onC tok fun acc=>Bh K acc l)
noncomputable def run (n:Nat):KK:=Nat.rec (fun _ _ _=>none) (fun _ K=>step K) n
end
section
set_option genInjectivity false
theorem tt1:bB (S (sg "Characters")) nV=some (.int 1):=by kernel_rfl
theorem tt2:bB (S (sg "SpaceCharacters")) nV=some (.int 2):=by kernel_rfl
noncomputable abbrev ax (x:List Nat):AV:=.dct [("type",.int 7),("data",.str x)]
noncomputable abbrev bt (nm:List Nat) (fs:FL) (sc:Bool):AV:=.dct [("type",.int 3),("name",.str nm),("data",.dct fs),("selfClosing",.bool sc),("selfClosingAcknowledged",.bool false)]
noncomputable abbrev dF (nm:List Nat) (l:List AV):AV:=.dct [("type",.int 4),("name",.str nm),("data",.lst l),("selfClosing",.bool false)]
noncomputable abbrev bS (x:List Nat):AV:=.dct [("type",.int 6),("data",.str x)]
noncomputable abbrev b4 (i:Int) (x:List Nat):AV:=.dct [("type",.int i),("data",.str x)]
section
variable {B:a5} {i j:Int} {x kd nm:List Nat} {fs:FL} {sc:Bool} {l:List AV}
theorem bO (hB:IsB B):bM B 1 773 [.int i,.str x] (.tup [.int i,ax x]):=fun objs=>
 d9 ["step","name"] [] [] [.av (.int i),.av (.str x)] [] objs [] (.av (.tup [.int i,ax x])) [] objs hB rfl (.two fun _ _=>rfl) trivial
theorem eL (hB:IsB B):bM B 1 780 [.int i,.str nm,.dct fs,.bool sc] (.tup [.int i,bt nm fs sc]):=fun objs=>
 d9 ["step","name","data","shut"] [] [] [.av (.int i),.av (.str nm),.av (.dct fs),.av (.bool sc)] [] objs [] (.av (.tup [.int i,bt nm fs sc])) [] objs hB rfl (.four fun _ _ _ _=>rfl) trivial
theorem nc (hB:IsB B):bM B 1 787 [.int i,.str nm,.lst l] (.tup [.int i,dF nm l]):=fun objs=>
 d9 ["step","name","data"] [] [] [.av (.int i),.av (.str nm),.av (.lst l)] [] objs [] (.av (.tup [.int i,dF nm l])) [] objs hB rfl (.three fun _ _ _=>rfl) trivial
theorem fk (hB:IsB B):bM B 1 794 [.int i,.str x] (.tup [.int i,bS x]):=fun objs=>
 d9 ["step","data"] [] [] [.av (.int i),.av (.str x)] [] objs [] (.av (.tup [.int i,bS x])) [] objs hB rfl (.two fun _ _=>rfl) trivial
theorem ju (hB:IsB B) (hk:bB (S kd) nV=some (.int j)):bM B 1 801 [.int i,.str kd,.str x] (.tup [.int i,b4 j x]):=fun objs=>by
 refine iG ["step","kind","data"] [] (by rw [hB.K];rfl) (by rw [hB.K];kernel_rfl) (.three fun _ _ _=>rfl) fun L=>?_
 refine ⟨_,_,_,fJ (fS (fo (ai (a6 (.head _)) (ai (zQ (mZ (gv (l0 (by rw [hB.K];kernel_rfl) (nj hB)) (a6 (.tail _ (.head _))) (iW hk)) (mZ (a6 (.tail _ (.tail _ (.head _)))) wt)) (by kernel_rfl)) aq)) (lB0 rfl))),rfl,rfl⟩
end
theorem b8.nil {B:a5} {fd:FuncData} (h:bindArgs fd ⟨[],[]⟩=pure []):b8 B fd [] [] []:=fun F s vs hv _ _=>by
 obtain rfl:vs=[]:=(cq hv)
 exact ⟨_,.nil,.of_eq h⟩
noncomputable def bG:List (List Nat×List (Nat×AV)×List Nat):=[([97],[],[]),
 ([32],[],[]),
 ([10],[],[]),
 ([98,32,99,10],[],[]),
 ([10,9],[],[]),
 ([101,62],[],[]),
 ([60,112,62],[(3,bt [112] [] false)],[]),
 ([60,47,80,10,62],[(5,dF [112] [])],[]),
 ([60,66,114,47,62],[(5,bt [98,114] [] true)],[]),
 ([60,97,32,120,61,34,49,10,50,34,32,121,62],[(13,bt [97] [("x",.str [49,10,50]),("y",.str [])] false)],[]),
 ([60,33,45,45,110,32,45,32,111,45,45,62],[(12,bS [110,32,45,32,111])],[]),
 ([60,33,45,45,10,45,45,120,45,45,62],[(8,ax (sg "unexpected-char-in-comment")),(11,bS [10,45,45,120])],[]),
 ([60,63,113,10,62],[(1,ax (sg "expected-tag-name-but-got-question-mark")),(5,bS [63,113,10])],[]),
 ([60,33,122,62],[(2,ax (sg "expected-dashes-or-doctype")),(4,bS [122])],[]),
 ([60,47,32,62],[(2,.dct [("type",.int 7),("data",.str [101,120,112,101,99,116,101,100,45,99,108,111,115,105,110,103,45,116,97,103,45,98,117,116,45,103,111,116,45,99,104,97,114]),("datavars",.dct [("data",.str [32])])]),(4,bS [32])],[]),
 ([60,62],[(2,ax (sg "expected-tag-name-but-got-right-bracket")),(2,b4 1 [60,62])],[]),
 ([60],[(1,ax (sg "expected-tag-name")),(1,b4 1 [60])],[49]),
 ([60,47,62],[(3,ax (sg "expected-closing-tag-but-got-right-bracket"))],[]),
 ([60,97,32,98,61,39,62,39,32,98,32,99,61,100,62],[(11,ax (sg "duplicate-attribute")),(15,bt [97] [("b",.str [62]),("c",.str [100])] false)],[]),
 ([60,47,112,32,120,62],[(6,ax (sg "attributes-in-end-tag")),(6,dF [112] [.lst [.str [120],.str []]])],[]),
 ([60,105,10,47,10,107,61,62],[(4,ax (sg "unexpected-character-after-solidus-in-tag")),(8,ax (sg "expected-attribute-value-but-got-right-bracket")),(8,bt [105] [("k",.str [])] false)],[]),
 ([60,33,45,45,62],[(5,ax (sg "incorrect-comment")),(5,bS [])],[]),
 ([60,98,32,116,61,39,10,39,117,62],[(8,ax (sg "unexpected-character-after-attribute-value")),(10,bt [98] [("t",.str [10]),("u",.str [])] false)],[]),
 ([60,33,45,45,10,45,45,33,62],[(8,ax (sg "unexpected-bang-after-double-dash-in-comment")),(9,bS [10])],[])]
noncomputable def aK (r:Nat×AV):AV:=.tup [.int r.1,r.2]
noncomputable def iC (u:List Nat×List (Nat×AV)×List Nat):AV:=.tup [.str u.1,.lst (u.2.1.map aK),.str u.2.2]
theorem vu {B:a5} (hB:IsB B):bM B 2 808 [] (.lst (bG.map iC)):=fun objs=>
 d9 [] [] [] [] [] objs [.cmp true,
  .cmp true,
  .cmp true,
  .cmp true,
  .cmp true,
  .cmp true,
  .cmp true,
  .cmp true,
  .call 0 (.av (.tup [.int 3,bt [112] [] false])) [] objs 1,
  .cmp true,
  .cmp true,
  .call 0 (.av (.tup [.int 5,dF [112] []])) [] objs 1,
  .cmp true,
  .call 0 (.av (.tup [.int 5,bt [98,114] [] true])) [] objs 1,
  .cmp true,
  .call 0 (.av (.tup [.int 13,bt [97] [("x",.str [49,10,50]),("y",.str [])] false])) [] objs 1,
  .cmp true,
  .call 0 (.av (.tup [.int 12,bS [110,32,45,32,111]])) [] objs 1,
  .cmp true,
  .call 0 (.av (.tup [.int 8,ax (sg "unexpected-char-in-comment")])) [] objs 1,
  .call 0 (.av (.tup [.int 11,bS [10,45,45,120]])) [] objs 1,
  .cmp true,
  .call 0 (.av (.tup [.int 1,ax (sg "expected-tag-name-but-got-question-mark")])) [] objs 1,
  .call 0 (.av (.tup [.int 5,bS [63,113,10]])) [] objs 1,
  .cmp true,
  .call 0 (.av (.tup [.int 2,ax (sg "expected-dashes-or-doctype")])) [] objs 1,
  .call 0 (.av (.tup [.int 4,bS [122]])) [] objs 1,
  .cmp true,
  .call 0 (.av (.tup [.int 4,bS [32]])) [] objs 1,
  .cmp true,
  .call 0 (.av (.tup [.int 2,ax (sg "expected-tag-name-but-got-right-bracket")])) [] objs 1,
  .call 0 (.av (.tup [.int 2,b4 1 [60,62]])) [] objs 1,
  .cmp true,
  .call 0 (.av (.tup [.int 1,ax (sg "expected-tag-name")])) [] objs 1,
  .call 0 (.av (.tup [.int 1,b4 1 [60]])) [] objs 1,
  .cmp true,
  .call 0 (.av (.tup [.int 3,ax (sg "expected-closing-tag-but-got-right-bracket")])) [] objs 1,
  .cmp true,
  .call 0 (.av (.tup [.int 11,ax (sg "duplicate-attribute")])) [] objs 1,
  .call 0 (.av (.tup [.int 15,bt [97] [("b",.str [62]),("c",.str [100])] false])) [] objs 1,
  .cmp true,
  .call 0 (.av (.tup [.int 6,ax (sg "attributes-in-end-tag")])) [] objs 1,
  .cmp true,
  .cmp true,
  .call 0 (.av (.tup [.int 6,dF [112] [.lst [.str [120],.str []]]])) [] objs 1,
  .cmp true,
  .call 0 (.av (.tup [.int 4,ax (sg "unexpected-character-after-solidus-in-tag")])) [] objs 1,
  .call 0 (.av (.tup [.int 8,ax (sg "expected-attribute-value-but-got-right-bracket")])) [] objs 1,
  .call 0 (.av (.tup [.int 8,bt [105] [("k",.str [])] false])) [] objs 1,
  .cmp true,
  .call 0 (.av (.tup [.int 5,ax (sg "incorrect-comment")])) [] objs 1,
  .call 0 (.av (.tup [.int 5,bS []])) [] objs 1,
  .cmp true,
  .call 0 (.av (.tup [.int 8,ax (sg "unexpected-character-after-attribute-value")])) [] objs 1,
  .call 0 (.av (.tup [.int 10,bt [98] [("t",.str [10]),("u",.str [])] false])) [] objs 1,
  .cmp true,
  .call 0 (.av (.tup [.int 8,ax (sg "unexpected-bang-after-double-dash-in-comment")])) [] objs 1,
  .call 0 (.av (.tup [.int 9,bS [10]])) [] objs 1] (.av (.lst (bG.map iC))) [] objs hB rfl (.nil rfl) (qa (qa (qa (qa (qa (qa (qa (qa (qa (qa (qa (qa (qa (qa (qa (qa (qa (qa (qa (qa (qa (qa (qa (qa (qa (qa (qa (qa (qa (qa trivial (eL (i:=3) (nm:=[112]) (fs:=[]) (sc:=false) hB objs)) (nc (i:=5) (nm:=[112]) (l:=[]) hB objs)) (eL (i:=5) (nm:=[98,114]) (fs:=[]) (sc:=true) hB objs)) (eL (i:=13) (nm:=[97]) (fs:=[("x",.str [49,10,50]),("y",.str [])]) (sc:=false) hB objs)) (fk (i:=12) (x:=[110,32,45,32,111]) hB objs)) (bO (i:=8) (x:=sg "unexpected-char-in-comment") hB objs)) (fk (i:=11) (x:=[10,45,45,120]) hB objs)) (bO (i:=1) (x:=sg "expected-tag-name-but-got-question-mark") hB objs)) (fk (i:=5) (x:=[63,113,10]) hB objs)) (bO (i:=2) (x:=sg "expected-dashes-or-doctype") hB objs)) (fk (i:=4) (x:=[122]) hB objs)) (fk (i:=4) (x:=[32]) hB objs)) (bO (i:=2) (x:=sg "expected-tag-name-but-got-right-bracket") hB objs)) (ju (i:=2) (x:=[60,62]) hB tt1 objs)) (bO (i:=1) (x:=sg "expected-tag-name") hB objs)) (ju (i:=1) (x:=[60]) hB tt1 objs)) (bO (i:=3) (x:=sg "expected-closing-tag-but-got-right-bracket") hB objs)) (bO (i:=11) (x:=sg "duplicate-attribute") hB objs)) (eL (i:=15) (nm:=[97]) (fs:=[("b",.str [62]),("c",.str [100])]) (sc:=false) hB objs)) (bO (i:=6) (x:=sg "attributes-in-end-tag") hB objs)) (nc (i:=6) (nm:=[112]) (l:=[.lst [.str [120],.str []]]) hB objs)) (bO (i:=4) (x:=sg "unexpected-character-after-solidus-in-tag") hB objs)) (bO (i:=8) (x:=sg "expected-attribute-value-but-got-right-bracket") hB objs)) (eL (i:=8) (nm:=[105]) (fs:=[("k",.str [])]) (sc:=false) hB objs)) (bO (i:=5) (x:=sg "incorrect-comment") hB objs)) (fk (i:=5) (x:=[]) hB objs)) (bO (i:=8) (x:=sg "unexpected-character-after-attribute-value") hB objs)) (eL (i:=10) (nm:=[98]) (fs:=[("t",.str [10]),("u",.str [])]) (sc:=false) hB objs)) (bO (i:=8) (x:=sg "unexpected-bang-after-double-dash-in-comment") hB objs)) (fk (i:=9) (x:=[10]) hB objs))
end
section
set_option genInjectivity false
section
variable {B:a5} {T:List Nat} {s:Nat} {l:List AV} {rest:OL} {ra:Addr}
noncomputable def bl (c:Nat):Bool:=decide (c∈[32,10,9])
noncomputable def spR (T:List Nat) (s k:Nat):List (Nat×AV):=if s < k then [(k,b4 2 ((T.drop s).takeWhile bl))] else []
noncomputable def chR (T:List Nat) (k:Nat):List (Nat×AV):=if k < T.length then [(T.length,b4 1 (T.drop k))] else []
noncomputable def aW (T:List Nat) (s:Nat):List (Nat×AV):=spR T s (bo bl T s)++chR T (bo bl T s)
noncomputable abbrev dPl (T:List Nat) (s:Nat) (k:Option Nat) (l:List AV) (ps:List DV) (rest:OL):DS:=⟨[("text",some (.av (.str T))),("start",some (.av (.int s))),("rows",some (.slot 0)),("stop",k.map fun k=>.av (.int (k:Nat)))],[(0,.list l ps)],rest⟩
noncomputable abbrev CC (T:List Nat) (s:Nat) (ra:Addr) (k:Option Nat):LL:=[("text",some (.str T)),("start",some (.int s)),("rows",some (.ref ra)),("stop",k.map fun k=>.int (k:Nat))]
theorem lk {n:Nat} (j:Nat) (h:n≤100000) (hj:autoParam (Nat.ble j 1000=true) bR):n+j≤16777216:=nT0 (Nat.add_le_add h (lB0 hj)) (by decide)
theorem uT (h:s≤T.length):sl T (some (s:Int)) (some ((bo bl T s:Nat):Int))=(T.drop s).takeWhile bl:=by
 have hle:=je bl T h
 rw [f6,aT hle,aT h]
 have e:T.take (bo bl T s)=T.take s++(T.drop s).takeWhile bl:=by
  unfold bo
  conv=>lhs;arg 2;rw [←List.take_append_drop s T]
  have hs:(T.take s).length=s:=List.length_take_of_le h
  rw [show s+((T.drop s).takeWhile bl).length=(T.take s).length+((T.drop s).takeWhile bl).length by rw [hs],List.take_length_add_append]
  congr 1
  conv=>lhs;arg 2;rw [←List.takeWhile_append_dropWhile (p:=bl) (l:=T.drop s)]
  exact List.take_left
 rw [e,List.drop_left' (List.length_take_of_le h)]
theorem tH (k:Nat) (h:k≤T.length):sl T (some (k:Int)) none=T.drop k:=by
 rw [w0,aT h,List.take_length]
theorem mA (hB:IsB B) (hz:T.length≤16777216) (hs:s≤T.length) (hl:l.length≤100000):a4 B 2 822 [.str T,.int s,.ref ra] ((ra,.list l)::rest) fun d o=>d=.none∧o=(ra,.list (l++(aW T s).map aK))::rest:=by
 have hsc:s≤bo bl T s:=Nat.le_add_right _ _
 have hle:=je bl T hs
 have hsl:=uT hs
 have hsf:=tH (bo bl T s) hle
 have hm:s+(bo bl T s - s)=bo bl T s:=Nat.add_sub_of_le hsc
 have u1:=fun j (a:s≤j) (b:j < bo bl T s)=>np a b hs
 have u0:=fun h:bo bl T s < T.length=>jL (u:=bl) (k:=s) h
 unfold aW spR chR
 refine iG ["text","start","rows"] ["stop"] (by rw [hB.K];rfl) (by rw [hB.K];kernel_rfl) (.three fun _ _ _=>rfl) fun L=>?_
 refine ⟨.next,CC T s ra (some (bo bl T s)),_,bu (dj (aE [ra] (dPl T s none l [] rest) (dPl T s (some s) l [] rest) [] .next (pxo hB) trivial)) (bu (Ax (mS (e9.count (fun j=>⟨CC T s ra (some j),(ra,.list l)::rest⟩) (m:=bo bl T s - s) (k:=s) ?_ ?_)) (by rw [hm])) ?_),rfl,rfl⟩
 · intro j h1 h2
   rw [hm] at h2
   obtain ⟨hj,hu'⟩:=u1 j h1 h2
   have hl:=f7 hj
   generalize T[j]=z at hl hu'
   exact ⟨dN [ra] (dPl T s (some j) l [] rest) (dPl T s (some j) l [] rest) [.br true,.ch z,.br true] (pxo hB) (qa (qa (qa (qa (qa trivial hz) (decide_eq_true (show (j:Int) < (T.length:Int) by exact Int.ofNat_lt.mpr hj))) hl) hz) hu'),
    aE [ra] (dPl T s (some j) l [] rest) (dPl T s (some (j+1)) l [] rest) [] .next (pxo hB) trivial⟩
 · rw [hm]
   by_cases hj:bo bl T s < T.length
   · have hl:=f7 hj
     have he:=u0 hj
     generalize T[bo bl T s]=z at hl he
     generalize bo bl T s=k at hl hj ⊢
     exact dN [ra] (dPl T s (some k) l [] rest) (dPl T s (some k) l [] rest) [.br true,.ch z,.br false] (pxo hB) (qa (qa (qa (qa (qa trivial hz) (decide_eq_true (show (k:Int) < (T.length:Int) by exact Int.ofNat_lt.mpr hj))) hl) hz) he)
   · generalize bo bl T s=k at hj ⊢
     exact dN [ra] (dPl T s (some k) l [] rest) (dPl T s (some k) l [] rest) [.br false] (pxo hB) (qa (qa trivial hz) (decide_eq_false fun h=>hj (Int.ofNat_lt.mp h)))
 · clear u1 u0
   generalize (T.drop s).takeWhile bl=w at hsl ⊢
   generalize bo bl T s=k at hsl hsf hle hsc hm ⊢
   have cs:=ju (i:=k) (x:=sl T (some (s:Int)) (some ((k:Nat):Int))) hB tt2
   have cc:=ju (i:=T.length) (x:=sl T (some ((k:Nat):Int)) none) hB tt1
   rw [←hsl,←hsf]
   clear hsl hsf hle hsc hm
   by_cases h1:s < k
   · rw [if_pos h1]
     have h1:=decide_eq_true (show (s:Int) < (k:Int) from Int.ofNat_lt.mpr h1)
     by_cases h2:k < T.length
     · rw [if_pos h2]
       have h2:=decide_eq_true (show (k:Int) < (T.length:Int) from Int.ofNat_lt.mpr h2)
       exact aE [ra] (dPl T s (some k) l [] rest) (dPl T s (some k) l [.av (.tup [.int (k:Nat),b4 2 (sl T (some (s:Int)) (some ((k:Nat):Int)))]),.av (.tup [.int (T.length:Nat),b4 1 (sl T (some ((k:Nat):Int)) none)])] rest) [.br true,.call 0 (.av (.tup [.int (k:Nat),b4 2 (sl T (some (s:Int)) (some ((k:Nat):Int)))])) [(0,.list l [])] rest 1,.br true,.call 0 (.av (.tup [.int (T.length:Nat),b4 1 (sl T (some ((k:Nat):Int)) none)])) [(0,.list l [.av (.tup [.int (k:Nat),b4 2 (sl T (some (s:Int)) (some ((k:Nat):Int)))])])] rest 1] .next (pxo hB) (qa (qa (qa (qa (qa (qa (qa (qa (qa (qa trivial h1) hz) (cs (a2 [ra] rest [(0,.list l [])]))) (lk 0 hl)) hz) h2) hz) hz) (cc (a2 [ra] rest [(0,.list l [.av (.tup [.int (k:Nat),b4 2 (sl T (some (s:Int)) (some ((k:Nat):Int)))])])]))) (lk 1 hl)) (h2:=by rfl)
     · rw [if_neg h2]
       have h2:=decide_eq_false (show ¬ (k:Int) < (T.length:Int) from fun h=>h2 (Int.ofNat_lt.mp h))
       exact aE [ra] (dPl T s (some k) l [] rest) (dPl T s (some k) l [.av (.tup [.int (k:Nat),b4 2 (sl T (some (s:Int)) (some ((k:Nat):Int)))])] rest) [.br true,.call 0 (.av (.tup [.int (k:Nat),b4 2 (sl T (some (s:Int)) (some ((k:Nat):Int)))])) [(0,.list l [])] rest 1,.br false] .next (pxo hB) (qa (qa (qa (qa (qa (qa trivial h1) hz) (cs (a2 [ra] rest [(0,.list l [])]))) (lk 0 hl)) hz) h2) (h2:=by rfl)
   · rw [if_neg h1]
     have h1:=decide_eq_false (show ¬ (s:Int) < (k:Int) from fun h=>h1 (Int.ofNat_lt.mp h))
     by_cases h2:k < T.length
     · rw [if_pos h2]
       have h2:=decide_eq_true (show (k:Int) < (T.length:Int) from Int.ofNat_lt.mpr h2)
       exact aE [ra] (dPl T s (some k) l [] rest) (dPl T s (some k) l [.av (.tup [.int (T.length:Nat),b4 1 (sl T (some ((k:Nat):Int)) none)])] rest) [.br false,.br true,.call 0 (.av (.tup [.int (T.length:Nat),b4 1 (sl T (some ((k:Nat):Int)) none)])) [(0,.list l [])] rest 1] .next (pxo hB) (qa (qa (qa (qa (qa (qa (qa trivial h1) hz) h2) hz) hz) (cc (a2 [ra] rest [(0,.list l [])]))) (lk 0 hl)) (h2:=by rfl)
     · rw [if_neg h2]
       have h2:=decide_eq_false (show ¬ (k:Int) < (T.length:Int) from fun h=>h2 (Int.ofNat_lt.mp h))
       exact aE [ra] (dPl T s (some k) l [] rest) (dPl T s (some k) l [] rest) [.br false,.br false] .next (pxo hB) (qa (qa (qa trivial h1) hz) h2) (h2:=by show _ =(⟨_,(ra,AO.list (l++[]))::rest⟩:St);rw [List.append_nil];rfl)
end
end
section
set_option genInjectivity false
noncomputable abbrev fw:=List Nat×List (Nat×AV)×List Nat
noncomputable def c4 (us:List fw):List Nat:=(us.map fun u=>u.1++u.2.2).flatten
noncomputable def ew (w:List Nat):Bool:=w.all fun c=>decide (c∈[32,10,9,97,98,99,101,62,49])
noncomputable def yW:List Nat:=[0,0,0,0,0,0,3,5,5,11,11,10,3,4,4,2,2,3,15,6,9,4,11,8]
noncomputable def plS (b c tail:List Nat):List (Nat×AV):=(if b=[] then [] else [(c.length+tail.length,b4 2 b)])++if c=[] then [] else [(tail.length,b4 1 c)]
noncomputable def di (w tail:List Nat):List (Nat×AV):=plS (w.takeWhile bl) (w.dropWhile bl) tail
noncomputable def aU (u:fw) (tail:List Nat):List (Nat×AV):=u.2.1.map fun e=>(tail.length+(u.1.length - e.1),e.2)
theorem aG {u:fw} {k:Nat} {G:List Nat→Rows→Rows} (h:∀ K:KK,∀ tail:List Nat,(Nat.rec (motive:=fun _=>KK) K (fun _ K=>step K) k) .data .none (u.1++(u.2.2++tail))=G tail (K .data .none (u.2.2++tail)))
 (h3:∀ tail rows,G tail (some rows)=some (aU u (u.2.2++tail)++rows)) {n:Nat} {tail:List Nat} {rows:List (Nat×AV)} (hr:run n .data .none (u.2.2++tail)=some rows):
 run (n+k) .data .none (u.1++(u.2.2++tail))=some (aU u (u.2.2++tail)++rows):=by
 have e:run (n+k)=(Nat.rec (motive:=fun _=>KK) (run n) (fun _ K=>step K) k):=by
  clear h h3
  induction k with
  | zero=>rfl
  | succ k ih=>exact congrArg step ih
 rw [e,h,hr,h3]
noncomputable abbrev oA (l:List (Nat×AV)) (o:Rows):Rows:=Option.map (fun r=>l++r) o
noncomputable def a1 (i:Nat):fw:=bG.getD i ([],[],[])
noncomputable def dD (i:Nat):Prop:=∀ {n:Nat} {tail:List Nat} {rows:List (Nat×AV)},run n .data .none ((a1 i).2.2++tail)=some rows→run (n+yW.getD i 0) .data .none ((a1 i).1++((a1 i).2.2++tail))=some (aU (a1 i) ((a1 i).2.2++tail)++rows)
theorem E1:dD 6:=aG (G:=fun tail o=>(oA [] (oA [] (oA (((aU (a1 6) ((a1 6).2.2++tail)).drop 0).take 1) o)))) (fun K tail=>by kernel_rfl) (fun tail rows=>by kernel_rfl)
theorem DD:dD 7:=aG (G:=fun tail o=>(oA [] (oA [] (oA [] (oA [] (oA (((aU (a1 7) ((a1 7).2.2++tail)).drop 0).take 1) o)))))) (fun K tail=>by kernel_rfl) (fun tail rows=>by kernel_rfl)
theorem Ew:dD 8:=aG (G:=fun tail o=>(oA [] (oA [] (oA [] (oA [] (oA (((aU (a1 8) ((a1 8).2.2++tail)).drop 0).take 1) o)))))) (fun K tail=>by kernel_rfl) (fun tail rows=>by kernel_rfl)
theorem Ed:dD 9:=aG (G:=fun tail o=>(oA [] (oA [] (oA [] (oA [] (oA [] (oA [] (oA [] (oA [] (oA [] (oA [] (oA (((aU (a1 9) ((a1 9).2.2++tail)).drop 0).take 1) o)))))))))))) (fun K tail=>by kernel_rfl) (fun tail rows=>by kernel_rfl)
theorem Cp:dD 10:=aG (G:=fun tail o=>(oA [] (oA [] (oA [] (oA [] (oA [] (oA [] (oA [] (oA [] (oA [] (oA [] (oA (((aU (a1 10) ((a1 10).2.2++tail)).drop 0).take 1) o)))))))))))) (fun K tail=>by kernel_rfl) (fun tail rows=>by kernel_rfl)
theorem BS:dD 11:=aG (G:=fun tail o=>(oA [] (oA [] (oA [] (oA [] (oA [] (oA [] (oA (((aU (a1 11) ((a1 11).2.2++tail)).drop 0).take 1) (oA [] (oA [] (oA (((aU (a1 11) ((a1 11).2.2++tail)).drop 1).take 1) o))))))))))) (fun K tail=>by kernel_rfl) (fun tail rows=>by kernel_rfl)
theorem BV:dD 12:=aG (G:=fun tail o=>(oA [] (oA (((aU (a1 12) ((a1 12).2.2++tail)).drop 0).take 1) (oA (((aU (a1 12) ((a1 12).2.2++tail)).drop 1).take 1) o)))) (fun K tail=>by kernel_rfl) (fun tail rows=>by kernel_rfl)
theorem CV:dD 13:=aG (G:=fun tail o=>(oA [] (oA [] (oA (((aU (a1 13) ((a1 13).2.2++tail)).drop 0).take 1) (oA (((aU (a1 13) ((a1 13).2.2++tail)).drop 1).take 1) o))))) (fun K tail=>by kernel_rfl) (fun tail rows=>by kernel_rfl)
theorem AE:dD 14:=aG (G:=fun tail o=>(oA [] (oA [] (oA (((aU (a1 14) ((a1 14).2.2++tail)).drop 0).take 1) (oA (((aU (a1 14) ((a1 14).2.2++tail)).drop 1).take 1) o))))) (fun K tail=>by kernel_rfl) (fun tail rows=>by kernel_rfl)
theorem Bb:dD 15:=aG (G:=fun tail o=>(oA [] (oA (((aU (a1 15) ((a1 15).2.2++tail)).drop 0).take 2) o))) (fun K tail=>by kernel_rfl) (fun tail rows=>by kernel_rfl)
theorem BD:dD 16:=aG (G:=fun tail o=>(oA [] (oA (((aU (a1 16) ((a1 16).2.2++tail)).drop 0).take 2) o))) (fun K tail=>by kernel_rfl) (fun tail rows=>by kernel_rfl)
theorem Cm:dD 17:=aG (G:=fun tail o=>(oA [] (oA [] (oA (((aU (a1 17) ((a1 17).2.2++tail)).drop 0).take 1) o)))) (fun K tail=>by kernel_rfl) (fun tail rows=>by kernel_rfl)
theorem Cl:dD 18:=aG (G:=fun tail o=>(oA [] (oA [] (oA [] (oA [] (oA [] (oA [] (oA [] (oA [] (oA [] (oA [] (oA (((aU (a1 18) ((a1 18).2.2++tail)).drop 0).take 1) (oA [] (oA [] (oA [] (oA (((aU (a1 18) ((a1 18).2.2++tail)).drop 1).take 1) o)))))))))))))))) (fun K tail=>by kernel_rfl) (fun tail rows=>by kernel_rfl)
theorem Ad:dD 19:=aG (G:=fun tail o=>(oA [] (oA [] (oA [] (oA [] (oA [] (oA (((aU (a1 19) ((a1 19).2.2++tail)).drop 0).take 2) o))))))) (fun K tail=>by kernel_rfl) (fun tail rows=>by kernel_rfl)
theorem Cg:dD 20:=aG (G:=fun tail o=>(oA [] (oA [] (oA [] (oA [] (oA (((aU (a1 20) ((a1 20).2.2++tail)).drop 0).take 1) (oA [] (oA [] (oA [] (oA (((aU (a1 20) ((a1 20).2.2++tail)).drop 1).take 2) o)))))))))) (fun K tail=>by kernel_rfl) (fun tail rows=>by kernel_rfl)
theorem CD:dD 21:=aG (G:=fun tail o=>(oA [] (oA [] (oA [] (oA (((aU (a1 21) ((a1 21).2.2++tail)).drop 0).take 2) o))))) (fun K tail=>by kernel_rfl) (fun tail rows=>by kernel_rfl)
theorem BB:dD 22:=aG (G:=fun tail o=>(oA [] (oA [] (oA [] (oA [] (oA [] (oA [] (oA [] (oA [] (oA (((aU (a1 22) ((a1 22).2.2++tail)).drop 0).take 1) (oA [] (oA (((aU (a1 22) ((a1 22).2.2++tail)).drop 1).take 1) o)))))))))))) (fun K tail=>by kernel_rfl) (fun tail rows=>by kernel_rfl)
theorem Cd:dD 23:=aG (G:=fun tail o=>(oA [] (oA [] (oA [] (oA [] (oA [] (oA [] (oA (((aU (a1 23) ((a1 23).2.2++tail)).drop 0).take 1) (oA (((aU (a1 23) ((a1 23).2.2++tail)).drop 1).take 1) o))))))))) (fun K tail=>by kernel_rfl) (fun tail rows=>by kernel_rfl)
theorem rp {i:Nat} (hi:i < 24) (h:(a1 i).2.1≠[]):dD i:=by
 rcases i with _ | i
 · exact absurd rfl h
 rcases i with _ | i
 · exact absurd rfl h
 rcases i with _ | i
 · exact absurd rfl h
 rcases i with _ | i
 · exact absurd rfl h
 rcases i with _ | i
 · exact absurd rfl h
 rcases i with _ | i
 · exact absurd rfl h
 rcases i with _ | i
 · exact E1
 rcases i with _ | i
 · exact DD
 rcases i with _ | i
 · exact Ew
 rcases i with _ | i
 · exact Ed
 rcases i with _ | i
 · exact Cp
 rcases i with _ | i
 · exact BS
 rcases i with _ | i
 · exact BV
 rcases i with _ | i
 · exact CV
 rcases i with _ | i
 · exact AE
 rcases i with _ | i
 · exact Bb
 rcases i with _ | i
 · exact BD
 rcases i with _ | i
 · exact Cm
 rcases i with _ | i
 · exact Cl
 rcases i with _ | i
 · exact Ad
 rcases i with _ | i
 · exact Cg
 rcases i with _ | i
 · exact CD
 rcases i with _ | i
 · exact BB
 rcases i with _ | i
 · exact Cd
 exact absurd hi (Nat.not_lt.mpr (Nat.le_add_left 24 i))
theorem jP {u:Nat→Bool} {r:List Nat} (hr:r=[]∨∃ y r',r=y::r'∧u y=false):∀ {a:List Nat},(∀ x∈a,u x=true)→(a++r).takeWhile u=a∧(a++r).dropWhile u=r:=by
 intro a
 induction a with
 | nil=>
  intro _
  rcases hr with rfl | ⟨y,r',rfl,hy⟩
  · exact ⟨rfl,rfl⟩
  · rw [List.nil_append,List.takeWhile_cons,if_neg (Bool.eq_false_iff.mp hy),List.dropWhile_cons,if_neg (Bool.eq_false_iff.mp hy)]
    exact ⟨rfl,rfl⟩
 | cons x a ih=>
  intro h
  obtain ⟨e1,e2⟩:=ih fun y hy=>h y (.tail _ hy)
  have hx:=h x (.head _)
  rw [List.cons_append,List.takeWhile_cons,if_pos hx,List.dropWhile_cons,if_pos hx]
  exact ⟨congrArg (x::·) e1,e2⟩
theorem uU {w:List Nat} (h:ew w=true):∀ c∈w,c∈[32,10,9,97,98,99,101,62,49]:=fun c hc=>of_decide_eq_true (List.all_eq_true.mp h c hc)
theorem dm {c:Nat} (h:c∈[32,10,9,97,98,99,101,62,49]):c≠60∧uTx c=true∧decide ([c]∈ar)=bl c∧uSp c=bl c:=by
 have:∀ c∈[32,10,9,97,98,99,101,62,49],c≠60∧uTx c=true∧decide ([c]∈ar)=bl c∧uSp c=bl c:=by decide
 exact this c h
theorem zf {n z:Nat} {c tail:List Nat} {rows:List (Nat×AV)} (hz:z∈[32,10,9,97,98,99,101,62,49]) (hb:bl z=false) (hc:∀ x∈c,x∈[32,10,9,97,98,99,101,62,49]) (ht:tail=[]∨∃ r,tail=60::r) (h:run n .data .none tail=some rows):
 run (n+1) .data .none (z::(c++tail))=some ((tail.length,b4 1 (z::c))::rows):=by
 obtain ⟨f1,f2,f3,f4⟩:=dm hz
 obtain ⟨e1,e2⟩:=jP (u:=uTx) (r:=tail) (ht.imp_right fun ⟨r,e⟩=>⟨60,r,e,rfl⟩) fun x hx=>(dm (hc x hx)).2.1
 show (if z=60 then _ else if decide ([z]∈ar)=true then _ else out ((c++tail).dropWhile uTx) [.dct [("type",.int 1),("data",.str (z::(c++tail).takeWhile uTx))]] (run n .data .none ((c++tail).dropWhile uTx)))= _
 rw [if_neg f1,if_neg (by rw [f3,hb];exact Bool.false_ne_true),e1,e2,h]
 rfl
theorem zO {n z:Nat} {b r:List Nat} {rows:List (Nat×AV)} (hz:z∈[32,10,9,97,98,99,101,62,49]) (hb:bl z=true) (hc:∀ x∈b,uSp x=true) (hr:r=[]∨∃ y r',r=y::r'∧uSp y=false) (h:run n .data .none r=some rows):
 run (n+1) .data .none (z::(b++r))=some ((r.length,b4 2 (z::b))::rows):=by
 obtain ⟨f1,f2,f3,f4⟩:=dm hz
 obtain ⟨e1,e2⟩:=jP (u:=uSp) hr hc
 show (if z=60 then _ else if decide ([z]∈ar)=true then out ((b++r).dropWhile uSp) [.dct [("type",.int 2),("data",.str (z::(b++r).takeWhile uSp))]] (run n .data .none ((b++r).dropWhile uSp)) else _)= _
 rw [if_neg f1,if_pos (by rw [f3,hb]),e1,e2,h]
 rfl
theorem iM {n:Nat} {w tail:List Nat} {rows:List (Nat×AV)} (hw:ew w=true) (ht:tail=[]∨∃ r,tail=60::r) (h:run n .data .none tail=some rows):∃ m,run m .data .none (w++tail)=some (di w tail++rows):=by
 have hm:=uU hw
 have eb:w.takeWhile bl++w.dropWhile bl=w:=List.takeWhile_append_dropWhile
 have hbl:∀ x∈w.takeWhile bl,bl x=true:=fun x hx=>by
  have:=List.all_takeWhile (p:=bl) (l:=w)
  exact List.all_eq_true.mp this x hx
 have hcl:∀ z c,w.dropWhile bl=z::c→bl z=false:=fun z c e=>by
  have:=List.head?_dropWhile_not bl w
  rw [e] at this
  exact this
 have hmb:∀ x∈w.takeWhile bl,x∈w:=fun x hx=>eb▸List.mem_append_left _ hx
 have hmc:∀ x∈w.dropWhile bl,x∈w:=fun x hx=>eb▸List.mem_append_right _ hx
 unfold di
 generalize w.takeWhile bl=b at eb hbl hmb ⊢
 generalize w.dropWhile bl=c at eb hcl hmc ⊢
 subst eb
 have key:∃ m,run m .data .none (c++tail)=some ((if c=[] then [] else [(tail.length,b4 1 c)])++rows):=by
  rcases c with _ | ⟨z,c⟩
  · exact ⟨n,h⟩
  · exact ⟨n+1,zf (hm z (hmc z (.head _))) (hcl z c rfl) (fun x hx=>hm x (hmc x (.tail _ hx))) ht h⟩
 obtain ⟨m,hk⟩:=key
 rcases b with _ | ⟨z,b⟩
 · exact ⟨m,hk⟩
 · refine ⟨m+1,?_⟩
   have y:=zO (hm z (hmb z (.head _))) (hbl z (.head _)) (fun x hx=>by rw [(dm (hm x (hmb x (.tail _ hx)))).2.2.2];exact hbl x (.tail _ hx)) (r:=c++tail) ?_ hk
   · rw [List.length_append] at y
     unfold plS
     rw [List.append_assoc,if_neg (List.cons_ne_nil z b),List.append_assoc]
     exact y
   · rcases c with _ | ⟨y,c⟩
     · exact ht.imp_right fun ⟨r,e⟩=>⟨60,r,e,rfl⟩
     · exact .inr ⟨y,c++tail,rfl,by rw [(dm (hm y (hmc y (.head _)))).2.2.2];exact hcl y c rfl⟩
noncomputable def eA:List Nat→List Nat→List (Nat×AV)
 | w,[]=>di w []
 | w,i::is=>if (a1 i).2.1=[] then eA (w++(a1 i).1) is else di w ((a1 i).1++((a1 i).2.2++c4 (is.map a1)))++(aU (a1 i) ((a1 i).2.2++c4 (is.map a1))++eA (a1 i).2.2 is)
noncomputable def jE (u:fw):Bool:=if u.2.1.isEmpty=true then ew u.1&&u.2.2.isEmpty else (u.1.head? ==some 60)&&ew u.2.2
theorem pf:bG.all jE=true:=by kernel_rfl
theorem ni {i:Nat} (hi:i < 24):jE (a1 i)=true:=by
 have h:i < bG.length:=hi
 have e:a1 i=bG[i]:=by unfold a1;rw [List.getD_eq_getElem?_getD,List.getElem?_eq_getElem h];rfl
 rw [e]
 exact List.all_eq_true.mp pf _ (List.getElem_mem h)
theorem nb {i:Nat} (hi:i < 24) (h:(a1 i).2.1=[]):ew (a1 i).1=true∧(a1 i).2.2=[]:=by
 have:=ni hi
 unfold jE at this
 rw [if_pos (by rw [h];rfl)] at this
 exact ⟨aj this,List.isEmpty_iff.mp (au this)⟩
theorem re {i:Nat} (hi:i < 24) (h:(a1 i).2.1≠[]):(∃ r,(a1 i).1=60::r)∧ew (a1 i).2.2=true:=by
 have:=ni hi
 unfold jE at this
 rw [if_neg (fun e=>h (List.isEmpty_iff.mp e))] at this
 refine ⟨?_,au this⟩
 have h1:=eq_of_beq (aj this)
 rcases e:(a1 i).1 with _ | ⟨z,r⟩
 · rw [e] at h1;exact nomatch h1
 · rw [e] at h1;exact ⟨r,by rw [Option.some.inj h1]⟩
theorem iX (i:Nat) (is:List Nat):c4 ((i::is).map a1)=(a1 i).1++((a1 i).2.2++c4 (is.map a1)):=by
 unfold c4
 rw [List.map_cons,List.map_cons,List.flatten_cons,List.append_assoc]
theorem tC {a b:List Nat} (h1:ew a=true) (h2:ew b=true):ew (a++b)=true:=by
 unfold ew at*
 rw [List.all_append,h1,h2];rfl
theorem nH:∀ (is:List Nat) (w:List Nat),(∀ i∈is,i < 24)→ew w=true→∃ n,run n .data .none (w++c4 (is.map a1))=some (eA w is):=by
 intro is
 induction is with
 | nil=>
  intro w _ hw
  refine x12 (show ∃ m,run m .data .none (w++[])=some (di w []++[])∧True from (iM (n:=1) hw (.inl rfl) rfl).imp fun m h=>⟨h,trivial⟩) ?_
  intro m h _
  rw [List.append_nil (di w [])] at h
  exact ⟨m,h⟩
 | cons i is ih=>
  intro w hi hw
  have hi0:=hi i (.head _)
  have ih':=fun w hw=>ih w (fun j hj=>hi j (.tail _ hj)) hw
  rw [iX]
  unfold eA
  by_cases h:(a1 i).2.1=[]
  · obtain ⟨h1,h2⟩:=nb hi0 h
    rw [if_pos h,h2,List.nil_append,←List.append_assoc]
    exact ih' _ (tC hw h1)
  · obtain ⟨⟨r,h1⟩,h2⟩:=re hi0 h
    rw [if_neg h]
    obtain ⟨n,hn⟩:=ih' _ h2
    exact iM hw (.inr ⟨r++_,by rw [h1];rfl⟩) (rp hi0 h hn)
end
section
set_option genInjectivity false
noncomputable def gG (q:SS):AV:=.tup [.int (q.pl+aY 10 q.c q.i+1),.int (cB q.pc q.c q.i)]
noncomputable def ba (T:List Nat) (k:Nat):AV:=.tup [.int ((T.take k).count 10+1),.int (bq 0 (T.take k))]
noncomputable abbrev m6 (T:List Nat) (e:Nat×AV):AV:=.tup [ba T (T.length - e.1),e.2]
noncomputable abbrev ng (d:AV) (q:SS):AV:=.tup [gG q,d]
structure cH (B:a5) (st dx tx w er:Addr) (T:List Nat) (On:List Nat→SS→Prop):Prop where
 char:∀ {z l q},On (z::l) q→∃ q',On l q'∧a3 B st dx tx w er T 4 133 [] (.str [z]) q q'∧∃ q'',On (z::l) q''∧a3 B st dx tx w er T 1 163 [.str [z]] .none q' q''
 fin:∀ {q},On [] q→∃ q',On [] q'∧a3 B st dx tx w er T 4 133 [] .none q q'
 til:∀ {chs:AV} {m:Nat→Bool} {opp:Bool} {args:List AV} {l q},InJ B chs m→(args=[chs]∧opp=false∨args=[chs,.bool opp])→On l q→
  ∃ q',On (l.dropWhile fun x=>m x==opp) q'∧a3 B st dx tx w er T 4 156 args (.str (l.takeWhile fun x=>m x==opp)) q q'
 es:∀ {l q},On l q→q.es=[]∧{ q with es:=[] }=q
 pos:∀ {l q},On l q→gG q=ba T (T.length - l.length)
 len:∀ {l q},On l q→l.length≤1000
 no0:∀ {l q},On l q→∀ c∈l,c≠0∧c≠38
noncomputable abbrev o0 (d la:Addr) (b:Bool) (nm:List Nat) (ps:List (List Nat×List Nat)) (sc:Bool) (r:OL):OL:=(d,aR (tyT b) nm la sc (tlF b))::(la,.list ((pA ps).map ad))::r
noncomputable abbrev o1 (d la lb:Addr) (b:Bool) (nm:List Nat) (ps:List (List Nat×List Nat)) (sc:Bool) (ky vl:List Nat) (r:OL):OL:=(d,aR (tyT b) nm la sc (tlF b))::(la,.list ((pA ps).map ad++[.ref lb]))::(lb,.list [.str ky,.str vl])::r
noncomputable def ci (tok:fx) (cur:AV) (rest:OL):Prop:=fx.casesOn tok True (fun acc=>∃ d r,cur=.ref d∧rest=(d,dc acc)::r)
 fun b nm ps sc o=>Option.casesOn o (∃ d la,cur=.ref d∧((∃ r,rest=o0 d la b nm ps sc r)∨∃ lb qs ky vl r,ps=qs++[(ky,vl)]∧rest=o1 d la lb b nm qs sc ky vl r)) fun p=>∃ d la lb r,cur=.ref d∧rest=o1 d la lb b nm ps sc p.1 p.2 r
theorem thN {c:AV} {r:OL}:ci .none c r:=trivial
theorem thC {d:Addr} {a:List Nat} {r:OL}:ci (.cmt a) (.ref d) ((d,dc a)::r):=⟨d,r,rfl,rfl⟩
theorem th1 {d la lb:Addr} {b:Bool} {nm:List Nat} {ps:List (List Nat×List Nat)} {sc:Bool} {ky vl:List Nat} {r:OL}:ci (.tag b nm ps sc (some (ky,vl))) (.ref d) (o1 d la lb b nm ps sc ky vl r):=⟨d,la,lb,r,rfl,rfl⟩
theorem th0 {d la:Addr} {b:Bool} {nm:List Nat} {ps:List (List Nat×List Nat)} {sc:Bool} {r:OL}:ci (.tag b nm ps sc none) (.ref d) (o0 d la b nm ps sc r):=⟨d,la,rfl,.inl ⟨r,rfl⟩⟩
theorem thD {d la lb:Addr} {b:Bool} {nm:List Nat} {ps:List (List Nat×List Nat)} {sc:Bool} {ky vl:List Nat} {r:OL}:ci (.tag b nm (ps++[(ky,vl)]) sc none) (.ref d) (o1 d la lb b nm ps sc ky vl r):=⟨d,la,rfl,.inr ⟨lb,ps,ky,vl,r,rfl,rfl⟩⟩
section
variable {B:a5} {st dx tx w er g v lf u f f':Addr} {T:List Nat} {On:List Nat→SS→Prop} {n:Nat} {K:KK} {q q':SS} {cur cur':AV} {R rest rest':OL} {l l':List Nat} {ks:List AV} {rows rows':List (Nat×AV)} {tok:fx} {acc nm ky vl:List Nat} {ps:List (List Nat×List Nat)} {sc b:Bool}
noncomputable abbrev Tn (B:a5) (st dx tx w er g v lf u:Addr) (T:List Nat) (On:List Nat→SS→Prop) (n:Nat) (q:SS) (f:Addr) (cur:AV) (rest:OL) (rows:List (Nat×AV)):Prop:=rh B st dx tx w er g v lf u T ng (On []) n q f cur rest (rows.map (m6 T))
noncomputable abbrev bX (B:a5) (st dx tx w er g v lf u:Addr) (T:List Nat) (On:List Nat→SS→Prop) (n:Nat) (K:KK):Prop:=∀ s tok l q cur rest rows,K s tok l=some rows→On l q→ci tok cur rest→Tn B st dx tx w er g v lf u T On n q s.addr cur rest rows
theorem qg:(pA (ps++[(ky,vl)])).map ad=(pA ps).map ad++[.lst [.str ky,.str vl]]:=by rw [pA,List.map_append,List.map_append];rfl
theorem cK {m:Nat} {args:List AV} {Φ:AV→OL→Prop} (h:ci (.tag b nm ps sc none) cur rest) (k:∀ da la R,cur=.ref da→a4 B m f args (tS st dx tx w er g v lf u T q f' (.ref da) ks ((da,aR (tyT b) nm la sc (tlF b))::(la,.list ((pA ps).map ad))::R)) Φ):
 a4 B m f args (tS st dx tx w er g v lf u T q f' cur ks rest) Φ:=by
 obtain ⟨d,la,rfl,⟨r,rfl⟩ | ⟨lb,qs,ky,vl,r,rfl,rfl⟩⟩:=h
 · exact k _ _ _ rfl
 · have z:=k d la r rfl
   rw [qg] at z
   exact zl z
theorem rL (S:cH B st dx tx w er T On) (o:On l' q'):(ks.map (fun d=>(l'.length,d))++rows').map (m6 T)=(q'.es.map fun e=>ng (uc e) q')++((ks.map fun d=>ng d q')++rows'.map (m6 T)):=by
 rw [(S.es o).1,List.map_append,List.map_map,List.map_nil,List.nil_append]
 show _ =(ks.map fun d=>AV.tup [gG q',d])++_
 rw [S.pos o];rfl
theorem tgo (S:cH B st dx tx w er T On) (h:Tn B st dx tx w er g v lf u T On n q' f' cur' rest' rows') (o:On l' q') (c:a4 B 5 f [.ref g] (tS st dx tx w er g v lf u T q f cur [] rest) fun d o=>d=.bool true∧o=tS st dx tx w er g v lf u T q' f' cur' ks rest')
 (hf:fnIn B.K f=true) (hk:ks.length≤16777216):Tn B st dx tx w er g v lf u T On (n+1) q f cur rest (ks.map (fun d=>(l'.length,d))++rows'):=
 ⟨hf,c.mono fun d o' ⟨e1,e2⟩=>⟨q',f',cur',ks,rest',e2,.inr ⟨e1,by rw [(S.es o).1];exact Nat.zero_le _,hk,rows'.map (m6 T),rL S o,by rw [(S.es o).2];exact h⟩⟩⟩
theorem eO (S:cH B st dx tx w er T On) (o:On l' q') (c:a4 B 5 f [.ref g] (tS st dx tx w er g v lf u T q f cur [] rest) fun d o=>d=.bool true∧∃ x:AV×OL,Tn B st dx tx w er g v lf u T On n q' f' x.1 x.2 rows'∧o=tS st dx tx w er g v lf u T q' f' x.1 ks x.2)
 (hf:fnIn B.K f=true) (hk:ks.length≤16777216):Tn B st dx tx w er g v lf u T On (n+1) q f cur rest (ks.map (fun d=>(l'.length,d))++rows'):=
 ⟨hf,c.mono fun d o' ⟨e1,x,h,e2⟩=>⟨q',f',x.1,ks,x.2,e2,.inr ⟨e1,by rw [(S.es o).1];exact Nat.zero_le _,hk,rows'.map (m6 T),rL S o,by rw [(S.es o).2];exact h⟩⟩⟩
theorem bY (h:i3 nm ps ky vl=true):nm.length≤5000∧ps.length≤900∧ky.length≤5000∧vl.length≤5000:=⟨lB0 (aj h),lB0 (aj (au h)),lB0 (aj (au (au h))),lB0 (au (au (au h)))⟩
theorem gD {p:Nat→Bool} {l:List Nat} (h:l.length≤1000):(l.takeWhile p).length≤1000:=nT0 (List.takeWhile_sublist p).length_le h
theorem lX {a b m:Nat} (ha:a≤5000) (hb:b≤1000) (hm:autoParam (Nat.ble 6000 m=true) bR):a+b≤m:=nT0 (Nat.add_le_add ha hb) (lB0 hm)
theorem ej {f:List Nat→Rows} (e:onC tok f=some rows):∃ acc,tok=.cmt acc∧acc.length≤5000∧f acc=some rows:=by
 induction tok using fx.casesOn with
 | cmt acc=>
  by_cases h:Nat.ble acc.length 5000=true
  · exact ⟨acc,rfl,lB0 h,(if_pos h).symm.trans e⟩
  · exact nomatch (if_neg h).symm.trans e
 | _=>exact nomatch (show (none:Rows)=some rows from e)
theorem dn {f:Bool→List Nat→List (List Nat×List Nat)→Bool→List Nat→List Nat→Rows} (e:onO tok f=some rows):∃ b nm ps sc ky vl,tok=.tag b nm ps sc (some (ky,vl))∧i3 nm ps ky vl=true∧f b nm ps sc ky vl=some rows:=by
 induction tok using fx.casesOn with
 | tag b nm ps sc o=>
  induction o using Option.casesOn with
  | none=>exact nomatch (show (none:Rows)=some rows from e)
  | some p=>
   by_cases h:i3 nm ps p.1 p.2=true
   · exact ⟨b,nm,ps,sc,p.1,p.2,rfl,h,(if_pos h).symm.trans e⟩
   · exact nomatch (if_neg h).symm.trans e
 | _=>exact nomatch (show (none:Rows)=some rows from e)
theorem fR {f:Bool→List Nat→List (List Nat×List Nat)→Bool→Rows} (e:onK tok f=some rows):∃ b nm ps sc,tok=.tag b nm ps sc none∧i3 nm ps [] []=true∧f b nm ps sc=some rows:=by
 induction tok using fx.casesOn with
 | tag b nm ps sc o=>
  induction o using Option.casesOn with
  | none=>
   by_cases h:i3 nm ps [] []=true
   · exact ⟨b,nm,ps,sc,rfl,h,(if_pos h).symm.trans e⟩
   · exact nomatch (if_neg h).symm.trans e
  | some p=>exact nomatch (show (none:Rows)=some rows from e)
 | _=>exact nomatch (show (none:Rows)=some rows from e)
theorem gk {M:AV→OL→Prop} (h:ci (.tag b nm ps sc (some (ky,vl))) cur rest) (k:∀ da la lb R,M (.ref da) (o1 da la lb b nm ps sc ky vl R)):M cur rest:=by
 obtain ⟨d,la,lb,r,rfl,rfl⟩:=h
 exact k _ _ _ _
theorem ij {M:AV→OL→Prop} (h:ci (.cmt acc) cur rest) (k:∀ da R,M (.ref da) ((da,dc acc)::R)):M cur rest:=by
 obtain ⟨d,r,rfl,rfl⟩:=h
 exact k _ _
theorem nh {L:AO} {D:Addr→AO} {c:AV} {fs:Addr} (h:a4 B 5 f [.ref g] (tS st dx tx w er g v lf u T q fs cur [] rest) fun d o=>d=c∧∃ la da,o=tS st dx tx w er g v lf u T q' f'  (.ref da) [] ((la,L)::(da,D la)::rest)) {Φ:AV→OL→Prop}
 (k:∀ la da,Φ c (tS st dx tx w er g v lf u T q' f' (.ref da) [] ((da,D la)::(la,L)::rest))):a4 B 5 f [.ref g] (tS st dx tx w er g v lf u T q fs cur [] rest) Φ:=
 h.perm (.refl _) fun d o ⟨e1,la,da,e2⟩=>⟨_,e2▸List.Perm.append_left [_,_,_,_,_] (.swap _ _ _),e1▸k la da⟩
theorem ja {ps:List (List Nat×AV)}:(aH nm ps sc b).length≤3:=by
 unfold aH
 split
 · exact lB0 rfl
 · rw [List.length_append,List.length_append]
   refine Nat.add_le_add (b:=1) (d:=2) (by split<;>exact lB0 rfl) (Nat.add_le_add (b:=1) (d:=1) (by split<;>exact lB0 rfl) (Nat.le_refl 1))
theorem pD {ps:List (List Nat×AV)}:(de ps ky).length≤1:=by unfold de;split<;>exact lB0 rfl
theorem sN {ps:List (List Nat×AV)}:(aH nm ps sc b).length≤16777216:=nT0 ja (by decide)
theorem Dl {ps:List (List Nat×AV)}:(de ps ky).length≤16777216:=nT0 pD (by decide)
theorem DP {ps ps':List (List Nat×AV)}:(de ps ky++aH nm ps' sc b).length≤16777216:=nT0 (Nat.le_of_eq List.length_append) (nT0 (Nat.add_le_add pD ja) (by decide))
theorem DI {ps:List (List Nat×AV)} {x:AV}:(x::aH nm ps sc b).length≤16777216:=nT0 (Nat.succ_le_succ ja) (by decide)
theorem jl (h:ps.length≤900) (m:Nat) (hm:autoParam (Nat.ble 900 m=true) bR):(pA ps).length≤m:=by rw [List.length_map];exact nT0 h (lB0 hm)
theorem u8 (h:ps.length≤900):((pA ps).map ad).length≤1000:=by rw [List.length_map];exact jl h 1000
theorem DK {x:AV} (h:ps.length≤900):((pA ps).map ad++[x]).length≤1000:=by rw [List.length_append,List.length_map,List.length_map];exact nT0 (Nat.succ_le_succ h) (by decide)
theorem up {a m:Nat} (h:a≤5000) (hm:autoParam (Nat.ble 5000 m=true) bR):a≤m:=nT0 h (lB0 hm)
theorem vy (hB:IsB B) (S:cH B st dx tx w er T On) (ih:bX B st dx tx w er g v lf u T On n K) (o:On l q) (hT:ci tok cur rest) (e:pG K l=some rows):Tn B st dx tx w er g v lf u T On (n+1) q 304 cur rest rows:=by
 have hf:fnIn B.K 304=true:=by rw [hB.K];kernel_rfl
 rcases l with _ | ⟨z,l⟩
 · refine x12 (S.fin o) ?_;rintro q₁ o1 hc
   obtain rfl:=Option.some.inj (show some []=some rows from e)
   exact ⟨hf,(o3 hB hc (Nat.zero_le _)).mono fun d o' ⟨e1,e2⟩=>⟨q₁,_,_,_,_,e2,.inl ⟨e1,rfl,o1⟩⟩⟩
 have hnz:=S.no0 o z (.head _)
 have n0:=hnz.1;have n38:=hnz.2;clear hnz
 have hl:l.length≤1000:=Nat.le_of_succ_le (S.len o)
 refine x13 (S.char o) ?_;clear o;rintro q₁ o1 hc hun
 by_cases e60:z=60
 · replace e:=(if_pos e60).symm.trans e
   subst e60
   have o2:=o1
   refine x12 (aa e) ?_;clear e;rintro r hK rfl
   exact tgo S (ih _ _ _ _ _ _ _ hK o2 thN) o2 (se hB hc (Nat.zero_le _)) hf (lB0 rfl)
 replace e:=(if_neg e60).symm.trans e
 by_cases eM0:decide ([z]∈ar)=true
 · replace e:=(if_pos eM0).symm.trans e
   refine x12 (S.til (m:=fun c=>decide ([c]∈ar)) (opp:=true) (eK (l:=(ar.map .str)) rfl) (.inr rfl) o1) ?_;rintro q₂ o2 hu
   have hr:(l.takeWhile uSp).length≤1000:=gD hl
   refine x12 (aa e) ?_;clear e;rintro r hK rfl
   exact tgo S (ih _ _ _ _ _ _ _ hK o2 thN) o2 (px hB hc n38 e60 n0 eM0 hu (nT0 hr (by decide)) (Nat.zero_le _)) hf (lB0 rfl)
 replace e:=(if_neg eM0).symm.trans e
 refine x12 (S.til (m:=fun c=>decide ([c]∈[[38],[60],[0]])) (opp:=false) (eK (l:=[.str [38],.str [60],.str [0]]) rfl) (.inl ⟨rfl,rfl⟩) o1) ?_;rintro q₂ o2 hu
 have hr:(l.takeWhile uTx).length≤1000:=gD hl
 refine x12 (aa e) ?_;clear e;rintro r hK rfl
 exact tgo S (ih _ _ _ _ _ _ _ hK o2 thN) o2 (qC hB hc n38 e60 n0 (Bool.eq_false_iff.mpr eM0) hu (nT0 hr (by decide)) (Nat.zero_le _)) hf (lB0 rfl)
theorem xP (hB:IsB B) (S:cH B st dx tx w er T On) (ih:bX B st dx tx w er g v lf u T On n K) (o:On l q) (hT:ci tok cur rest) (e:vG K l=some rows):Tn B st dx tx w er g v lf u T On (n+1) q 353 cur rest rows:=by
 have hf:fnIn B.K 353=true:=by rw [hB.K];kernel_rfl
 rcases l with _ | ⟨z,l⟩
 · exact nomatch (show (none:Rows)=some rows from e)
 have hnz:=S.no0 o z (.head _)
 have n0:=hnz.1;have n38:=hnz.2;clear hnz
 have hl:l.length≤1000:=Nat.le_of_succ_le (S.len o)
 refine x13 (S.char o) ?_;clear o;rintro q₁ o1 hc hun
 by_cases e33:z=33
 · replace e:=(if_pos e33).symm.trans e
   subst e33
   have o2:=o1
   refine x12 (aa e) ?_;clear e;rintro r hK rfl
   exact tgo S (ih _ _ _ _ _ _ _ hK o2 thN) o2 (ol hB hc (Nat.zero_le _)) hf (lB0 rfl)
 replace e:=(if_neg e33).symm.trans e
 by_cases e47:z=47
 · replace e:=(if_pos e47).symm.trans e
   subst e47
   have o2:=o1
   refine x12 (aa e) ?_;clear e;rintro r hK rfl
   exact tgo S (ih _ _ _ _ _ _ _ hK o2 thN) o2 (uH hB hc (Nat.zero_le _)) hf (lB0 rfl)
 replace e:=(if_neg e47).symm.trans e
 by_cases eM0:decide ([z]∈aX)=true
 · replace e:=(if_pos eM0).symm.trans e
   have o2:=o1
   refine x12 (aa e) ?_;clear e;rintro r hK rfl
   exact eO S o2 (nh (qA cur hB hc e33 e47 eM0) fun la da=>⟨rfl,(.ref da,_),ih _ _ _ _ _ _ _ hK o2 (th0 (ps:=[])),rfl⟩) hf (lB0 rfl)
 replace e:=(if_neg eM0).symm.trans e
 by_cases e62:z=62
 · replace e:=(if_pos e62).symm.trans e
   subst e62
   have o2:=o1
   refine x12 (aa e) ?_;clear e;rintro r hK rfl
   exact tgo S (ih _ _ _ _ _ _ _ hK o2 thN) o2 (ta hB hc (Nat.zero_le _)) hf (lB0 rfl)
 replace e:=(if_neg e62).symm.trans e
 by_cases e63:z=63
 · replace e:=(if_pos e63).symm.trans e
   subst e63
   refine x12 hun ?_;rintro q₂ o2 hu
   refine x12 (aa e) ?_;clear e;rintro r hK rfl
   exact tgo S (ih _ _ _ _ _ _ _ hK o2 thN) o2 (xh hB hc hu (Nat.zero_le _)) hf (lB0 rfl)
 replace e:=(if_neg e63).symm.trans e
 refine x12 hun ?_;rintro q₂ o2 hu
 refine x12 (aa e) ?_;clear e;rintro r hK rfl
 exact tgo S (ih _ _ _ _ _ _ _ hK o2 thN) o2 (oo hB hc e33 e47 (Bool.eq_false_iff.mpr eM0) e62 e63 hu (Nat.zero_le _)) hf (lB0 rfl)
theorem B1 (hB:IsB B) (S:cH B st dx tx w er T On) (ih:bX B st dx tx w er g v lf u T On n K) (o:On l q) (hT:ci tok cur rest) (e:Bk K l=some rows):Tn B st dx tx w er g v lf u T On (n+1) q 360 cur rest rows:=by
 have hf:fnIn B.K 360=true:=by rw [hB.K];kernel_rfl
 rcases l with _ | ⟨z,l⟩
 · exact nomatch (show (none:Rows)=some rows from e)
 have hnz:=S.no0 o z (.head _)
 have n0:=hnz.1;have n38:=hnz.2;clear hnz
 have hl:l.length≤1000:=Nat.le_of_succ_le (S.len o)
 refine x13 (S.char o) ?_;clear o;rintro q₁ o1 hc hun
 by_cases eM0:decide ([z]∈aX)=true
 · replace e:=(if_pos eM0).symm.trans e
   have o2:=o1
   refine x12 (aa e) ?_;clear e;rintro r hK rfl
   exact eO S o2 (nh (so cur hB hc eM0) fun la da=>⟨rfl,(.ref da,_),ih _ _ _ _ _ _ _ hK o2 (th0 (ps:=[])),rfl⟩) hf (lB0 rfl)
 replace e:=(if_neg eM0).symm.trans e
 by_cases e62:z=62
 · replace e:=(if_pos e62).symm.trans e
   subst e62
   have o2:=o1
   refine x12 (aa e) ?_;clear e;rintro r hK rfl
   exact tgo S (ih _ _ _ _ _ _ _ hK o2 thN) o2 (Aa hB hc (Nat.zero_le _)) hf (lB0 rfl)
 replace e:=(if_neg e62).symm.trans e
 refine x12 hun ?_;rintro q₂ o2 hu
 refine x12 (aa e) ?_;clear e;rintro r hK rfl
 exact tgo S (ih _ _ _ _ _ _ _ hK o2 thN) o2 (pq hB hc (Bool.eq_false_iff.mpr eM0) e62 hu (Nat.zero_le _)) hf (lB0 rfl)
theorem De (hB:IsB B) (S:cH B st dx tx w er T On) (ih:bX B st dx tx w er g v lf u T On n K) (o:On l q) (hT:ci tok cur rest) (e:onK tok (fun b nm ps sc=>AG K b nm ps sc l)=some rows):Tn B st dx tx w er g v lf u T On (n+1) q 367 cur rest rows:=by
 have hf:fnIn B.K 367=true:=by rw [hB.K];kernel_rfl
 refine x43 (fR e) ?_;clear e;rintro b nm ps sc rfl ok e
 refine x04 (bY ok) ?_;clear ok;intro hn hp hky hvl
 rcases l with _ | ⟨z,l⟩
 · exact nomatch (show (none:Rows)=some rows from e)
 have hnz:=S.no0 o z (.head _)
 have n0:=hnz.1;have n38:=hnz.2;clear hnz
 have hl:l.length≤1000:=Nat.le_of_succ_le (S.len o)
 refine x13 (S.char o) ?_;clear o;rintro q₁ o1 hc hun
 by_cases eM0:decide ([z]∈ar)=true
 · replace e:=(if_pos eM0).symm.trans e
   have o2:=o1
   refine x12 (aa e) ?_;clear e;rintro r hK rfl
   exact eO S o2 (cK hT fun da la R _=>(zM hB hc eM0 (Nat.zero_le _)).mono fun d o' ⟨e1,e2⟩=>⟨e1,(.ref da,_),ih _ _ _ _ _ _ _ hK o2 th0,e2⟩) hf (lB0 rfl)
 replace e:=(if_neg eM0).symm.trans e
 by_cases e62:z=62
 · replace e:=(if_pos e62).symm.trans e
   subst e62
   have o2:=o1
   refine x12 (aa e) ?_;clear e;rintro r hK rfl
   exact eO S o2 (cK hT fun da la R _=>(zL hB hc (up hn) (jl hp 999) (Nat.zero_le _)).mono fun d o' ⟨e1,e2⟩=>⟨e1,(.ref da,_),ih _ _ _ _ _ _ _ hK o2 thN,e2⟩) hf sN
 replace e:=(if_neg e62).symm.trans e
 by_cases e47:z=47
 · replace e:=(if_pos e47).symm.trans e
   subst e47
   have o2:=o1
   refine x12 (aa e) ?_;clear e;rintro r hK rfl
   exact eO S o2 (cK hT fun da la R _=>(zu hB hc (Nat.zero_le _)).mono fun d o' ⟨e1,e2⟩=>⟨e1,(.ref da,_),ih _ _ _ _ _ _ _ hK o2 th0,e2⟩) hf (lB0 rfl)
 replace e:=(if_neg e47).symm.trans e
 have o2:=o1
 refine x12 (aa e) ?_;clear e;rintro r hK rfl
 exact eO S o2 (cK hT fun da la R _=>(qu hB hc (Bool.eq_false_iff.mpr eM0) e62 e47 n0 (up hn) (Nat.zero_le _)).mono fun d o' ⟨e1,e2⟩=>⟨e1,(.ref da,_),ih _ _ _ _ _ _ _ hK o2 th0,e2⟩) hf (lB0 rfl)
theorem AU (hB:IsB B) (S:cH B st dx tx w er T On) (ih:bX B st dx tx w er g v lf u T On n K) (o:On l q) (hT:ci tok cur rest) (e:onK tok (fun b nm ps sc=>CB K b nm ps sc l)=some rows):Tn B st dx tx w er g v lf u T On (n+1) q 535 cur rest rows:=by
 have hf:fnIn B.K 535=true:=by rw [hB.K];kernel_rfl
 refine x43 (fR e) ?_;clear e;rintro b nm ps sc rfl ok e
 refine x04 (bY ok) ?_;clear ok;intro hn hp hky hvl
 rcases l with _ | ⟨z,l⟩
 · exact nomatch (show (none:Rows)=some rows from e)
 have hnz:=S.no0 o z (.head _)
 have n0:=hnz.1;have n38:=hnz.2;clear hnz
 have hl:l.length≤1000:=Nat.le_of_succ_le (S.len o)
 refine x13 (S.char o) ?_;clear o;rintro q₁ o1 hc hun
 by_cases eM0:decide ([z]∈ar)=true
 · replace e:=(if_pos eM0).symm.trans e
   refine x12 (S.til (m:=fun c=>decide ([c]∈ar)) (opp:=true) (eK (l:=(ar.map .str)) rfl) (.inr rfl) o1) ?_;rintro q₂ o2 hu
   have hr:(l.takeWhile uSp).length≤1000:=gD hl
   refine x12 (aa e) ?_;clear e;rintro r hK rfl
   exact eO S o2 (cK hT fun da la R _=>(x6 hB hc eM0 hu (Nat.zero_le _)).mono fun d o' ⟨e1,e2⟩=>⟨e1,(.ref da,_),ih _ _ _ _ _ _ _ hK o2 th0,e2⟩) hf (lB0 rfl)
 replace e:=(if_neg eM0).symm.trans e
 by_cases eM1:decide ([z]∈aX)=true
 · replace e:=(if_pos eM1).symm.trans e
   have o2:=o1
   refine x12 (aa e) ?_;clear e;rintro r hK rfl
   exact eO S o2 (cK hT fun da la R _=>(sT hB hc (Bool.eq_false_iff.mpr eM0) eM1 (u8 hp) (Nat.zero_le _)).mono fun d o' ⟨e1,lb,e2⟩=>⟨e1,(.ref da,_),ih _ _ _ _ _ _ _ hK o2 th1,e2⟩) hf (lB0 rfl)
 replace e:=(if_neg eM1).symm.trans e
 by_cases e62:z=62
 · replace e:=(if_pos e62).symm.trans e
   subst e62
   have o2:=o1
   refine x12 (aa e) ?_;clear e;rintro r hK rfl
   exact eO S o2 (cK hT fun da la R _=>(wL hB hc (up hn) (jl hp 999) (Nat.zero_le _)).mono fun d o' ⟨e1,e2⟩=>⟨e1,(.ref da,_),ih _ _ _ _ _ _ _ hK o2 thN,e2⟩) hf sN
 replace e:=(if_neg e62).symm.trans e
 by_cases e47:z=47
 · replace e:=(if_pos e47).symm.trans e
   subst e47
   have o2:=o1
   refine x12 (aa e) ?_;clear e;rintro r hK rfl
   exact eO S o2 (cK hT fun da la R _=>(xa hB hc (Nat.zero_le _)).mono fun d o' ⟨e1,e2⟩=>⟨e1,(.ref da,_),ih _ _ _ _ _ _ _ hK o2 th0,e2⟩) hf (lB0 rfl)
 replace e:=(if_neg e47).symm.trans e
 exact nomatch (show (none:Rows)=some rows from e)
theorem B8 (hB:IsB B) (S:cH B st dx tx w er T On) (ih:bX B st dx tx w er g v lf u T On n K) (o:On l q) (hT:ci tok cur rest) (e:onO tok (fun b nm ps sc ky vl=>CQ K b nm ps sc ky vl l)=some rows):Tn B st dx tx w er g v lf u T On (n+1) q 542 cur rest rows:=by
 have hf:fnIn B.K 542=true:=by rw [hB.K];kernel_rfl
 refine x63 (dn e) ?_;clear e;rintro b nm ps sc ky vl rfl ok e
 refine x04 (bY ok) ?_;clear ok;intro hn hp hky hvl
 refine gk (M:=fun cur rest=>Tn B st dx tx w er g v lf u T On (n+1) q 542 cur rest rows) hT ?_;intro da la lb R
 rcases l with _ | ⟨z,l⟩
 · exact nomatch (show (none:Rows)=some rows from e)
 have hnz:=S.no0 o z (.head _)
 have n0:=hnz.1;have n38:=hnz.2;clear hnz
 have hl:l.length≤1000:=Nat.le_of_succ_le (S.len o)
 refine x13 (S.char o) ?_;clear o;rintro q₁ o1 hc hun
 by_cases e61:z=61
 · replace e:=(if_pos e61).symm.trans e
   subst e61
   have o2:=o1
   refine x12 (aa e) ?_;clear e;rintro r hK rfl
   exact tgo S (ih _ _ _ _ _ _ _ hK o2 th1) o2 (xr hB hc (up hn) (up hky) (jl hp 999) (Nat.zero_le _)) hf Dl
 replace e:=(if_neg e61).symm.trans e
 by_cases eM0:decide ([z]∈aX)=true
 · replace e:=(if_pos eM0).symm.trans e
   exact nomatch (show (none:Rows)=some rows from e)
 replace e:=(if_neg eM0).symm.trans e
 by_cases e62:z=62
 · replace e:=(if_pos e62).symm.trans e
   subst e62
   have o2:=o1
   refine x12 (aa e) ?_;clear e;rintro r hK rfl
   exact tgo S (ih _ _ _ _ _ _ _ hK o2 thN) o2 (xT hB hc (up hn) (up hky) (jl hp 999) (Nat.zero_le _)) hf DP
 replace e:=(if_neg e62).symm.trans e
 by_cases eM1:decide ([z]∈ar)=true
 · replace e:=(if_pos eM1).symm.trans e
   have o2:=o1
   refine x12 (aa e) ?_;clear e;rintro r hK rfl
   exact tgo S (ih _ _ _ _ _ _ _ hK o2 th1) o2 (xS hB hc e61 (Bool.eq_false_iff.mpr eM0) e62 eM1 (up hn) (up hky) (jl hp 999) (Nat.zero_le _)) hf Dl
 replace e:=(if_neg eM1).symm.trans e
 exact nomatch (show (none:Rows)=some rows from e)
theorem Ci (hB:IsB B) (S:cH B st dx tx w er T On) (ih:bX B st dx tx w er g v lf u T On n K) (o:On l q) (hT:ci tok cur rest) (e:onO tok (fun b nm ps sc ky vl=>AX K b nm ps sc ky vl l)=some rows):Tn B st dx tx w er g v lf u T On (n+1) q 549 cur rest rows:=by
 have hf:fnIn B.K 549=true:=by rw [hB.K];kernel_rfl
 refine x63 (dn e) ?_;clear e;rintro b nm ps sc ky vl rfl ok e
 refine x04 (bY ok) ?_;clear ok;intro hn hp hky hvl
 refine gk (M:=fun cur rest=>Tn B st dx tx w er g v lf u T On (n+1) q 549 cur rest rows) hT ?_;intro da la lb R
 rcases l with _ | ⟨z,l⟩
 · exact nomatch (show (none:Rows)=some rows from e)
 have hnz:=S.no0 o z (.head _)
 have n0:=hnz.1;have n38:=hnz.2;clear hnz
 have hl:l.length≤1000:=Nat.le_of_succ_le (S.len o)
 refine x13 (S.char o) ?_;clear o;rintro q₁ o1 hc hun
 by_cases eM0:decide ([z]∈ar)=true
 · replace e:=(if_pos eM0).symm.trans e
   exact nomatch (show (none:Rows)=some rows from e)
 replace e:=(if_neg eM0).symm.trans e
 by_cases e61:z=61
 · replace e:=(if_pos e61).symm.trans e
   exact nomatch (show (none:Rows)=some rows from e)
 replace e:=(if_neg e61).symm.trans e
 by_cases e62:z=62
 · replace e:=(if_pos e62).symm.trans e
   exact nomatch (show (none:Rows)=some rows from e)
 replace e:=(if_neg e62).symm.trans e
 by_cases eM1:decide ([z]∈aX)=true
 · replace e:=(if_pos eM1).symm.trans e
   have o2:=o1
   refine x12 (aa e) ?_;clear e;rintro r hK rfl
   refine eO S o2 (zl ((tR hB hc (Bool.eq_false_iff.mpr eM0) e61 e62 eM1 (DK hp) (Nat.zero_le _)).mono fun d o' ⟨e1,lb,e2⟩=>⟨e1,(.ref da,_),?_,e2⟩)) hf (lB0 rfl)
   have y:=th1 (d:=da) (la:=la) (lb:=lb) (b:=b) (nm:=nm) (ps:=ps++[(ky,vl)]) (sc:=sc) (ky:=[z]) (vl:=[]) (r:=R)
   unfold Mine.o1 at y;rw [qg] at y
   exact ih _ _ _ _ _ _ _ hK o2 y
 replace e:=(if_neg eM1).symm.trans e
 exact nomatch (show (none:Rows)=some rows from e)
theorem C2 (hB:IsB B) (S:cH B st dx tx w er T On) (ih:bX B st dx tx w er g v lf u T On n K) (o:On l q) (hT:ci tok cur rest) (e:onO tok (fun b nm ps sc ky vl=>Bg K b nm ps sc ky vl l)=some rows):Tn B st dx tx w er g v lf u T On (n+1) q 556 cur rest rows:=by
 have hf:fnIn B.K 556=true:=by rw [hB.K];kernel_rfl
 refine x63 (dn e) ?_;clear e;rintro b nm ps sc ky vl rfl ok e
 refine x04 (bY ok) ?_;clear ok;intro hn hp hky hvl
 refine gk (M:=fun cur rest=>Tn B st dx tx w er g v lf u T On (n+1) q 556 cur rest rows) hT ?_;intro da la lb R
 rcases l with _ | ⟨z,l⟩
 · exact nomatch (show (none:Rows)=some rows from e)
 have hnz:=S.no0 o z (.head _)
 have n0:=hnz.1;have n38:=hnz.2;clear hnz
 have hl:l.length≤1000:=Nat.le_of_succ_le (S.len o)
 refine x13 (S.char o) ?_;clear o;rintro q₁ o1 hc hun
 by_cases eM0:decide ([z]∈ar)=true
 · replace e:=(if_pos eM0).symm.trans e
   exact nomatch (show (none:Rows)=some rows from e)
 replace e:=(if_neg eM0).symm.trans e
 by_cases e34:z=34
 · replace e:=(if_pos e34).symm.trans e
   subst e34
   have o2:=o1
   refine x12 (aa e) ?_;clear e;rintro r hK rfl
   exact tgo S (ih _ _ _ _ _ _ _ hK o2 th1) o2 (wy hB hc (Nat.zero_le _)) hf (lB0 rfl)
 replace e:=(if_neg e34).symm.trans e
 by_cases e39:z=39
 · replace e:=(if_pos e39).symm.trans e
   subst e39
   have o2:=o1
   refine x12 (aa e) ?_;clear e;rintro r hK rfl
   exact tgo S (ih _ _ _ _ _ _ _ hK o2 th1) o2 (xi hB hc (Nat.zero_le _)) hf (lB0 rfl)
 replace e:=(if_neg e39).symm.trans e
 by_cases e62:z=62
 · replace e:=(if_pos e62).symm.trans e
   subst e62
   have o2:=o1
   refine x12 (aa e) ?_;clear e;rintro r hK rfl
   exact tgo S (ih _ _ _ _ _ _ _ hK o2 thN) o2 (xx hB hc (up hn) (jl hp 999) (Nat.zero_le _)) hf DI
 replace e:=(if_neg e62).symm.trans e
 by_cases eM1:decide ([z]∈[[61],[60],[96]])=true
 · replace e:=(if_pos eM1).symm.trans e
   exact nomatch (show (none:Rows)=some rows from e)
 replace e:=(if_neg eM1).symm.trans e
 have o2:=o1
 refine x12 (aa e) ?_;clear e;rintro r hK rfl
 exact tgo S (ih _ _ _ _ _ _ _ hK o2 th1) o2 (pi hB hc (Bool.eq_false_iff.mpr eM0) e34 n38 e39 e62 n0 (Bool.eq_false_iff.mpr eM1) (up hvl) (u8 hp) (Nat.zero_le _)) hf (lB0 rfl)
theorem CN (hB:IsB B) (S:cH B st dx tx w er T On) (ih:bX B st dx tx w er g v lf u T On n K) (o:On l q) (hT:ci tok cur rest) (e:onO tok (fun b nm ps sc ky vl=>B6 K b nm ps sc ky vl l)=some rows):Tn B st dx tx w er g v lf u T On (n+1) q 563 cur rest rows:=by
 have hf:fnIn B.K 563=true:=by rw [hB.K];kernel_rfl
 refine x63 (dn e) ?_;clear e;rintro b nm ps sc ky vl rfl ok e
 refine x04 (bY ok) ?_;clear ok;intro hn hp hky hvl
 refine gk (M:=fun cur rest=>Tn B st dx tx w er g v lf u T On (n+1) q 563 cur rest rows) hT ?_;intro da la lb R
 rcases l with _ | ⟨z,l⟩
 · exact nomatch (show (none:Rows)=some rows from e)
 have hnz:=S.no0 o z (.head _)
 have n0:=hnz.1;have n38:=hnz.2;clear hnz
 have hl:l.length≤1000:=Nat.le_of_succ_le (S.len o)
 refine x13 (S.char o) ?_;clear o;rintro q₁ o1 hc hun
 by_cases e34:z=34
 · replace e:=(if_pos e34).symm.trans e
   subst e34
   have o2:=o1
   refine x12 (aa e) ?_;clear e;rintro r hK rfl
   exact tgo S (ih _ _ _ _ _ _ _ hK o2 thD) o2 (C9 hB hc (Nat.zero_le _)) hf (lB0 rfl)
 replace e:=(if_neg e34).symm.trans e
 refine x12 (S.til (m:=fun c=>decide ([c]∈[[34],[38],[0]])) (opp:=false) (eK (l:=[.str [34],.str [38],.str [0]]) rfl) (.inl ⟨rfl,rfl⟩) o1) ?_;rintro q₂ o2 hu
 have hr:(l.takeWhile uDq).length≤1000:=gD hl
 refine x12 (aa e) ?_;clear e;rintro r hK rfl
 exact tgo S (ih _ _ _ _ _ _ _ hK o2 th1) o2 (oZ hB hc e34 n38 n0 (lX hvl hr) hu (u8 hp) (Nat.zero_le _)) hf (lB0 rfl)
theorem D1 (hB:IsB B) (S:cH B st dx tx w er T On) (ih:bX B st dx tx w er g v lf u T On n K) (o:On l q) (hT:ci tok cur rest) (e:onO tok (fun b nm ps sc ky vl=>AR K b nm ps sc ky vl l)=some rows):Tn B st dx tx w er g v lf u T On (n+1) q 570 cur rest rows:=by
 have hf:fnIn B.K 570=true:=by rw [hB.K];kernel_rfl
 refine x63 (dn e) ?_;clear e;rintro b nm ps sc ky vl rfl ok e
 refine x04 (bY ok) ?_;clear ok;intro hn hp hky hvl
 refine gk (M:=fun cur rest=>Tn B st dx tx w er g v lf u T On (n+1) q 570 cur rest rows) hT ?_;intro da la lb R
 rcases l with _ | ⟨z,l⟩
 · exact nomatch (show (none:Rows)=some rows from e)
 have hnz:=S.no0 o z (.head _)
 have n0:=hnz.1;have n38:=hnz.2;clear hnz
 have hl:l.length≤1000:=Nat.le_of_succ_le (S.len o)
 refine x13 (S.char o) ?_;clear o;rintro q₁ o1 hc hun
 by_cases e39:z=39
 · replace e:=(if_pos e39).symm.trans e
   subst e39
   have o2:=o1
   refine x12 (aa e) ?_;clear e;rintro r hK rfl
   exact tgo S (ih _ _ _ _ _ _ _ hK o2 thD) o2 (CM hB hc (Nat.zero_le _)) hf (lB0 rfl)
 replace e:=(if_neg e39).symm.trans e
 refine x12 (S.til (m:=fun c=>decide ([c]∈[[39],[38],[0]])) (opp:=false) (eK (l:=[.str [39],.str [38],.str [0]]) rfl) (.inl ⟨rfl,rfl⟩) o1) ?_;rintro q₂ o2 hu
 have hr:(l.takeWhile uSq).length≤1000:=gD hl
 refine x12 (aa e) ?_;clear e;rintro r hK rfl
 exact tgo S (ih _ _ _ _ _ _ _ hK o2 th1) o2 (qp hB hc e39 n38 n0 (lX hvl hr) hu (u8 hp) (Nat.zero_le _)) hf (lB0 rfl)
theorem Am (hB:IsB B) (S:cH B st dx tx w er T On) (ih:bX B st dx tx w er g v lf u T On n K) (o:On l q) (hT:ci tok cur rest) (e:onO tok (fun b nm ps sc ky vl=>AJ K b nm ps sc ky vl l)=some rows):Tn B st dx tx w er g v lf u T On (n+1) q 577 cur rest rows:=by
 have hf:fnIn B.K 577=true:=by rw [hB.K];kernel_rfl
 refine x63 (dn e) ?_;clear e;rintro b nm ps sc ky vl rfl ok e
 refine x04 (bY ok) ?_;clear ok;intro hn hp hky hvl
 refine gk (M:=fun cur rest=>Tn B st dx tx w er g v lf u T On (n+1) q 577 cur rest rows) hT ?_;intro da la lb R
 rcases l with _ | ⟨z,l⟩
 · exact nomatch (show (none:Rows)=some rows from e)
 have hnz:=S.no0 o z (.head _)
 have n0:=hnz.1;have n38:=hnz.2;clear hnz
 have hl:l.length≤1000:=Nat.le_of_succ_le (S.len o)
 refine x13 (S.char o) ?_;clear o;rintro q₁ o1 hc hun
 by_cases eM0:decide ([z]∈ar)=true
 · replace e:=(if_pos eM0).symm.trans e
   exact nomatch (show (none:Rows)=some rows from e)
 replace e:=(if_neg eM0).symm.trans e
 by_cases e62:z=62
 · replace e:=(if_pos e62).symm.trans e
   subst e62
   have o2:=o1
   refine x12 (aa e) ?_;clear e;rintro r hK rfl
   exact tgo S (ih _ _ _ _ _ _ _ hK o2 thN) o2 (wM hB hc (up hn) (jl hp 999) (Nat.zero_le _)) hf sN
 replace e:=(if_neg e62).symm.trans e
 exact nomatch (show (none:Rows)=some rows from e)
theorem Bj (hB:IsB B) (S:cH B st dx tx w er T On) (ih:bX B st dx tx w er g v lf u T On n K) (o:On l q) (hT:ci tok cur rest) (e:onK tok (fun b nm ps sc=>AS K b nm ps sc l)=some rows):Tn B st dx tx w er g v lf u T On (n+1) q 584 cur rest rows:=by
 have hf:fnIn B.K 584=true:=by rw [hB.K];kernel_rfl
 refine x43 (fR e) ?_;clear e;rintro b nm ps sc rfl ok e
 refine x04 (bY ok) ?_;clear ok;intro hn hp hky hvl
 rcases l with _ | ⟨z,l⟩
 · exact nomatch (show (none:Rows)=some rows from e)
 have hnz:=S.no0 o z (.head _)
 have n0:=hnz.1;have n38:=hnz.2;clear hnz
 have hl:l.length≤1000:=Nat.le_of_succ_le (S.len o)
 refine x13 (S.char o) ?_;clear o;rintro q₁ o1 hc hun
 by_cases eM0:decide ([z]∈ar)=true
 · replace e:=(if_pos eM0).symm.trans e
   have o2:=o1
   refine x12 (aa e) ?_;clear e;rintro r hK rfl
   exact eO S o2 (cK hT fun da la R _=>(zn hB hc eM0 (Nat.zero_le _)).mono fun d o' ⟨e1,e2⟩=>⟨e1,(.ref da,_),ih _ _ _ _ _ _ _ hK o2 th0,e2⟩) hf (lB0 rfl)
 replace e:=(if_neg eM0).symm.trans e
 by_cases e62:z=62
 · replace e:=(if_pos e62).symm.trans e
   exact nomatch (show (none:Rows)=some rows from e)
 replace e:=(if_neg e62).symm.trans e
 by_cases e47:z=47
 · replace e:=(if_pos e47).symm.trans e
   exact nomatch (show (none:Rows)=some rows from e)
 replace e:=(if_neg e47).symm.trans e
 refine x12 hun ?_;rintro q₂ o2 hu
 refine x12 (aa e) ?_;clear e;rintro r hK rfl
 exact eO S o2 (cK hT fun da la R _=>(rf hB hc (Bool.eq_false_iff.mpr eM0) e62 e47 hu (Nat.zero_le _)).mono fun d o' ⟨e1,e2⟩=>⟨e1,(.ref da,_),ih _ _ _ _ _ _ _ hK o2 th0,e2⟩) hf (lB0 rfl)
theorem D6 (hB:IsB B) (S:cH B st dx tx w er T On) (ih:bX B st dx tx w er g v lf u T On n K) (o:On l q) (hT:ci tok cur rest) (e:onK tok (fun b nm ps sc=>CH K b nm ps sc l)=some rows):Tn B st dx tx w er g v lf u T On (n+1) q 591 cur rest rows:=by
 have hf:fnIn B.K 591=true:=by rw [hB.K];kernel_rfl
 refine x43 (fR e) ?_;clear e;rintro b nm ps sc rfl ok e
 refine x04 (bY ok) ?_;clear ok;intro hn hp hky hvl
 rcases l with _ | ⟨z,l⟩
 · exact nomatch (show (none:Rows)=some rows from e)
 have hnz:=S.no0 o z (.head _)
 have n0:=hnz.1;have n38:=hnz.2;clear hnz
 have hl:l.length≤1000:=Nat.le_of_succ_le (S.len o)
 refine x13 (S.char o) ?_;clear o;rintro q₁ o1 hc hun
 by_cases e62:z=62
 · replace e:=(if_pos e62).symm.trans e
   subst e62
   have o2:=o1
   refine x12 (aa e) ?_;clear e;rintro r hK rfl
   exact eO S o2 (cK hT fun da la R _=>(zw hB hc (up hn) (jl hp 999) (Nat.zero_le _)).mono fun d o' ⟨e1,e2⟩=>⟨e1,(.ref da,_),ih _ _ _ _ _ _ _ hK o2 thN,e2⟩) hf sN
 replace e:=(if_neg e62).symm.trans e
 refine x12 hun ?_;rintro q₂ o2 hu
 refine x12 (aa e) ?_;clear e;rintro r hK rfl
 exact eO S o2 (cK hT fun da la R _=>(pv hB hc e62 hu (Nat.zero_le _)).mono fun d o' ⟨e1,e2⟩=>⟨e1,(.ref da,_),ih _ _ _ _ _ _ _ hK o2 th0,e2⟩) hf (lB0 rfl)
theorem BL (hB:IsB B) (S:cH B st dx tx w er T On) (ih:bX B st dx tx w er g v lf u T On n K) (o:On l q) (hT:ci tok cur rest) (e:onC tok (fun acc=>CJ K acc l)=some rows):Tn B st dx tx w er g v lf u T On (n+1) q 612 cur rest rows:=by
 have hf:fnIn B.K 612=true:=by rw [hB.K];kernel_rfl
 refine x13 (ej e) ?_;clear e;rintro acc rfl ha e
 refine ij (M:=fun cur rest=>Tn B st dx tx w er g v lf u T On (n+1) q 612 cur rest rows) hT ?_;intro da R
 rcases l with _ | ⟨z,l⟩
 · exact nomatch (show (none:Rows)=some rows from e)
 have hnz:=S.no0 o z (.head _)
 have n0:=hnz.1;have n38:=hnz.2;clear hnz
 have hl:l.length≤1000:=Nat.le_of_succ_le (S.len o)
 refine x13 (S.char o) ?_;clear o;rintro q₁ o1 hc hun
 by_cases e45:z=45
 · replace e:=(if_pos e45).symm.trans e
   exact nomatch (show (none:Rows)=some rows from e)
 replace e:=(if_neg e45).symm.trans e
 by_cases e62:z=62
 · replace e:=(if_pos e62).symm.trans e
   subst e62
   have o2:=o1
   refine x12 (aa e) ?_;clear e;rintro r hK rfl
   exact tgo S (ih _ _ _ _ _ _ _ hK o2 thN) o2 (yw hB hc (Nat.zero_le _)) hf (lB0 rfl)
 replace e:=(if_neg e62).symm.trans e
 have o2:=o1
 refine x12 (aa e) ?_;clear e;rintro r hK rfl
 exact tgo S (ih _ _ _ _ _ _ _ hK o2 thC) o2 (qw hB hc e45 n0 e62 (up ha) (Nat.zero_le _)) hf (lB0 rfl)
theorem Di (hB:IsB B) (S:cH B st dx tx w er T On) (ih:bX B st dx tx w er g v lf u T On n K) (o:On l q) (hT:ci tok cur rest) (e:onC tok (fun acc=>D5 K acc l)=some rows):Tn B st dx tx w er g v lf u T On (n+1) q 626 cur rest rows:=by
 have hf:fnIn B.K 626=true:=by rw [hB.K];kernel_rfl
 refine x13 (ej e) ?_;clear e;rintro acc rfl ha e
 refine ij (M:=fun cur rest=>Tn B st dx tx w er g v lf u T On (n+1) q 626 cur rest rows) hT ?_;intro da R
 rcases l with _ | ⟨z,l⟩
 · exact nomatch (show (none:Rows)=some rows from e)
 have hnz:=S.no0 o z (.head _)
 have n0:=hnz.1;have n38:=hnz.2;clear hnz
 have hl:l.length≤1000:=Nat.le_of_succ_le (S.len o)
 refine x13 (S.char o) ?_;clear o;rintro q₁ o1 hc hun
 by_cases e45:z=45
 · replace e:=(if_pos e45).symm.trans e
   subst e45
   have o2:=o1
   refine x12 (aa e) ?_;clear e;rintro r hK rfl
   exact tgo S (ih _ _ _ _ _ _ _ hK o2 thC) o2 (q9 hB hc (Nat.zero_le _)) hf (lB0 rfl)
 replace e:=(if_neg e45).symm.trans e
 refine x12 (S.til (m:=fun c=>decide ([c]∈[[45],[0]])) (opp:=false) (eK (l:=[.str [45],.str [0]]) rfl) (.inl ⟨rfl,rfl⟩) o1) ?_;rintro q₂ o2 hu
 have hr:(l.takeWhile uDs).length≤1000:=gD hl
 refine x12 (aa e) ?_;clear e;rintro r hK rfl
 exact tgo S (ih _ _ _ _ _ _ _ hK o2 thC) o2 (sa hB hc e45 n0 hu (lX ha hr) (Nat.zero_le _)) hf (lB0 rfl)
theorem Ae (hB:IsB B) (S:cH B st dx tx w er T On) (ih:bX B st dx tx w er g v lf u T On n K) (o:On l q) (hT:ci tok cur rest) (e:onC tok (fun acc=>Ar K acc l)=some rows):Tn B st dx tx w er g v lf u T On (n+1) q 633 cur rest rows:=by
 have hf:fnIn B.K 633=true:=by rw [hB.K];kernel_rfl
 refine x13 (ej e) ?_;clear e;rintro acc rfl ha e
 refine ij (M:=fun cur rest=>Tn B st dx tx w er g v lf u T On (n+1) q 633 cur rest rows) hT ?_;intro da R
 rcases l with _ | ⟨z,l⟩
 · exact nomatch (show (none:Rows)=some rows from e)
 have hnz:=S.no0 o z (.head _)
 have n0:=hnz.1;have n38:=hnz.2;clear hnz
 have hl:l.length≤1000:=Nat.le_of_succ_le (S.len o)
 refine x13 (S.char o) ?_;clear o;rintro q₁ o1 hc hun
 by_cases e45:z=45
 · replace e:=(if_pos e45).symm.trans e
   subst e45
   have o2:=o1
   refine x12 (aa e) ?_;clear e;rintro r hK rfl
   exact tgo S (ih _ _ _ _ _ _ _ hK o2 thC) o2 (rQ hB hc (Nat.zero_le _)) hf (lB0 rfl)
 replace e:=(if_neg e45).symm.trans e
 have o2:=o1
 refine x12 (aa e) ?_;clear e;rintro r hK rfl
 exact tgo S (ih _ _ _ _ _ _ _ hK o2 thC) o2 (ru hB hc e45 n0 (up ha) (Nat.zero_le _)) hf (lB0 rfl)
theorem CY (hB:IsB B) (S:cH B st dx tx w er T On) (ih:bX B st dx tx w er g v lf u T On n K) (o:On l q) (hT:ci tok cur rest) (e:onC tok (fun acc=>Ch K acc l)=some rows):Tn B st dx tx w er g v lf u T On (n+1) q 640 cur rest rows:=by
 have hf:fnIn B.K 640=true:=by rw [hB.K];kernel_rfl
 refine x13 (ej e) ?_;clear e;rintro acc rfl ha e
 refine ij (M:=fun cur rest=>Tn B st dx tx w er g v lf u T On (n+1) q 640 cur rest rows) hT ?_;intro da R
 rcases l with _ | ⟨z,l⟩
 · exact nomatch (show (none:Rows)=some rows from e)
 have hnz:=S.no0 o z (.head _)
 have n0:=hnz.1;have n38:=hnz.2;clear hnz
 have hl:l.length≤1000:=Nat.le_of_succ_le (S.len o)
 refine x13 (S.char o) ?_;clear o;rintro q₁ o1 hc hun
 by_cases e62:z=62
 · replace e:=(if_pos e62).symm.trans e
   subst e62
   have o2:=o1
   refine x12 (aa e) ?_;clear e;rintro r hK rfl
   exact tgo S (ih _ _ _ _ _ _ _ hK o2 thN) o2 (xt hB hc (Nat.zero_le _)) hf (lB0 rfl)
 replace e:=(if_neg e62).symm.trans e
 by_cases e33:z=33
 · replace e:=(if_pos e33).symm.trans e
   subst e33
   have o2:=o1
   refine x12 (aa e) ?_;clear e;rintro r hK rfl
   exact tgo S (ih _ _ _ _ _ _ _ hK o2 thC) o2 (qD hB hc (Nat.zero_le _)) hf (lB0 rfl)
 replace e:=(if_neg e33).symm.trans e
 by_cases e45:z=45
 · replace e:=(if_pos e45).symm.trans e
   exact nomatch (show (none:Rows)=some rows from e)
 replace e:=(if_neg e45).symm.trans e
 have o2:=o1
 refine x12 (aa e) ?_;clear e;rintro r hK rfl
 exact tgo S (ih _ _ _ _ _ _ _ hK o2 thC) o2 (qM hB hc e62 e45 n0 e33 (up ha) (Nat.zero_le _)) hf (lB0 rfl)
theorem AW (hB:IsB B) (S:cH B st dx tx w er T On) (ih:bX B st dx tx w er g v lf u T On n K) (o:On l q) (hT:ci tok cur rest) (e:onC tok (fun acc=>Bh K acc l)=some rows):Tn B st dx tx w er g v lf u T On (n+1) q 647 cur rest rows:=by
 have hf:fnIn B.K 647=true:=by rw [hB.K];kernel_rfl
 refine x13 (ej e) ?_;clear e;rintro acc rfl ha e
 refine ij (M:=fun cur rest=>Tn B st dx tx w er g v lf u T On (n+1) q 647 cur rest rows) hT ?_;intro da R
 rcases l with _ | ⟨z,l⟩
 · exact nomatch (show (none:Rows)=some rows from e)
 have hnz:=S.no0 o z (.head _)
 have n0:=hnz.1;have n38:=hnz.2;clear hnz
 have hl:l.length≤1000:=Nat.le_of_succ_le (S.len o)
 refine x13 (S.char o) ?_;clear o;rintro q₁ o1 hc hun
 by_cases e62:z=62
 · replace e:=(if_pos e62).symm.trans e
   subst e62
   have o2:=o1
   refine x12 (aa e) ?_;clear e;rintro r hK rfl
   exact tgo S (ih _ _ _ _ _ _ _ hK o2 thN) o2 (yr hB hc (Nat.zero_le _)) hf (lB0 rfl)
 replace e:=(if_neg e62).symm.trans e
 exact nomatch (show (none:Rows)=some rows from e)
theorem tz (S:cH B st dx tx w er T On) (o:On l q) {p:Nat→Bool}:0∉l.takeWhile p:=fun h=>(S.no0 o 0 ((List.takeWhile_sublist p).subset h)).1 rfl
theorem zS (hB:IsB B) (S:cH B st dx tx w er T On) (ih:bX B st dx tx w er g v lf u T On n K) (o:On l q) (hT:ci tok cur rest) (e:vZ K l=some rows):Tn B st dx tx w er g v lf u T On (n+1) q 598 cur rest rows:=by
 have hf:fnIn B.K 598=true:=by rw [hB.K];kernel_rfl
 refine x12 (S.til (m:=fun c=>decide (c∈[62])) (opp:=false) sn (.inl ⟨rfl,rfl⟩) o) ?_;rintro q₁ o1 hu
 have hr:(l.takeWhile uGt).length≤1000000:=nT0 (gD (S.len o)) (by decide)
 refine x12 (aa e) ?_;clear e;rintro r hK rfl
 change On (l.dropWhile uGt) q₁ at o1
 have h0:=tz S o (p:=uGt)
 have hK':=hK
 generalize l.dropWhile uGt=l' at o1 hK
 rcases l' with _ | ⟨z,l'⟩
 · refine x12 (S.fin o1) ?_;rintro q₂ o2 hc
   exact tgo S (ih _ _ _ _ _ _ _ hK o2 thN) o2 (nA hB hu hc hr h0 (Nat.zero_le _)) hf (lB0 rfl)
 · refine x13 (S.char o1) ?_;rintro q₂ o2 hc _
   exact tgo S (ih _ _ _ _ _ _ _ hK o2 thN) o2 (nA hB hu hc hr h0 (Nat.zero_le _)) hf (lB0 rfl)
theorem Bs (hB:IsB B) (S:cH B st dx tx w er T On) (ih:bX B st dx tx w er g v lf u T On n K) (o:On l q) (hT:ci tok cur rest) (e:BJ K l=some rows):Tn B st dx tx w er g v lf u T On (n+1) q 605 cur rest rows:=by
 have hf:fnIn B.K 605=true:=by rw [hB.K];kernel_rfl
 rcases l with _ | ⟨z,l⟩
 · exact nomatch (show (none:Rows)=some rows from e)
 refine x13 (S.char o) ?_;rintro q₁ o1 hc hun
 by_cases e45:z=45
 · replace e:=(if_pos e45).symm.trans e
   subst e45
   rcases l with _ | ⟨z,l⟩
   · exact nomatch (show (none:Rows)=some rows from e)
   refine x13 (S.char o1) ?_;rintro q₂ o2 hc2 _
   by_cases e45:z=45
   · replace e:=(if_pos e45).symm.trans e
     subst e45
     refine x12 (aa e) ?_;clear e;rintro r hK rfl
     exact eO S o2 ((qV hB hc hc2 (Nat.zero_le _)).mono fun d o' ⟨e1,a,e2⟩=>⟨e1,(.ref a,_),ih _ _ _ _ _ _ _ hK o2 thC,e2⟩) hf (Nat.zero_le _)
   · exact nomatch (if_neg e45).symm.trans e
 replace e:=(if_neg e45).symm.trans e
 by_cases eM0:decide ([z]∈[[100],[68]])=true
 · exact nomatch (if_pos eM0).symm.trans e
 replace e:=(if_neg eM0).symm.trans e
 refine x12 hun ?_;rintro q₂ o2 hu
 refine x12 (aa e) ?_;clear e;rintro r hK rfl
 exact tgo S (ih _ _ _ _ _ _ _ hK o2 thN) o2 (rI hB hc e45 (Bool.eq_false_iff.mpr eM0) hu (Nat.zero_le _)) hf (lB0 rfl)
theorem zo (hB:IsB B) (S:cH B st dx tx w er T On) (n:Nat):bX B st dx tx w er g v lf u T On n (run n):=by
 induction n with
 | zero=>exact fun s tok l q cur rest rows e=>nomatch (show (none:Rows)=some rows from e)
 | succ n ih=>
  intro s tok l q cur rest rows e o hT
  induction s using Stt.casesOn with
  | data=>exact vy hB S ih o hT e
  | tag=>exact xP hB S ih o hT e
  | cl=>exact B1 hB S ih o hT e
  | tn=>exact De hB S ih o hT e
  | bn=>exact AU hB S ih o hT e
  | an=>exact B8 hB S ih o hT e
  | nn=>exact Ci hB S ih o hT e
  | bv=>exact C2 hB S ih o hT e
  | dq=>exact CN hB S ih o hT e
  | sq=>exact D1 hB S ih o hT e
  | uq=>exact Am hB S ih o hT e
  | av=>exact Bj hB S ih o hT e
  | sc=>exact D6 hB S ih o hT e
  | bog=>exact zS hB S ih o hT e
  | mk=>exact Bs hB S ih o hT e
  | cs=>exact BL hB S ih o hT e
  | cd=>exact nomatch (show (none:Rows)=some rows from e)
  | co=>exact Di hB S ih o hT e
  | ce=>exact Ae hB S ih o hT e
  | cn=>exact CY hB S ih o hT e
  | cb=>exact AW hB S ih o hT e
end
end
section
set_option genInjectivity false
variable {B:a5} {st dx tx tdx er:Addr} {T D c p0 pre w rest l:List Nat} {i:Nat} {q:SS} {pl pc:Int} {R:OL}
structure zv (T:List Nat):Prop where
 plain:dr T
 no0:∀ c∈T,c≠0∧c≠38
noncomputable abbrev sq (p0 pre w:List Nat):SS:=⟨pre++w,pre.length,(p0.count 10:Nat),bq 0 p0,.none,(p0++(pre++w)).length,[]⟩
noncomputable def OnB (T l:List Nat) (q:SS):Prop:=∃ p0 pre w rest,T=p0++(pre++w)++rest∧(p0=[]∨rest=[])∧l=w++rest∧q=sq p0 pre w
theorem k8 (a:Int) (x y:List Nat):bq a (x++y)=bq (bq a x) y:=List.foldl_append
theorem Cy:aY 10 [] (0:Int)=0:=eI (l:=[]) (i:=0) (Nat.le_refl _)
theorem AY (pc:Int):cB pc [] (0:Int)=pc:=fB (l:=[]) (i:=0) (Nat.le_refl _)
theorem kF (hB:IsB B) (h:dr T) {N:Int} {args:List AV} (ha:args=[.ref st]∧N=10240∨args=[.ref st,.int N]) {p:Int} (hD:sl T (some p) (some (p+N))=D) (h0:D≠[]) (hs:∀ c∈D,c∈T) (hl:D.length≤T.length):
 a4 B 3 141 args (oS st dx tx tdx er T ⟨c,i,pl,pc,.none,p,[]⟩ R) fun d o=>d=.bool true∧o=oS st dx tx tdx er T ⟨D,0,pl+aY 10 c c.length,cB pc c c.length,.none,p+D.length,[]⟩ R:=by
 have hz:D.length≤1000:=nT0 hl h.len
 refine x03 (lh (l:=D) fun e=>h.no13 (hs _ e)) ?_;rintro n1 n2 n3
 have hb:bads D=[]:=by
  unfold bads
  rw [List.filter_eq_nil_iff.mpr fun c hc=>by rw [(h.fine c (hs c hc)).1];exact Bool.false_ne_true]
  rfl
 obtain ⟨z,hz'⟩:∃ z,at? D (-1)=some z:=by
  unfold at?
  have hp:0 < D.length:=List.length_pos_iff.mpr h0
  rw [StrLaws.seqIndex_neg (by exact Int.natCast_nonneg _) (by omega)]
  exact ⟨_,List.getElem?_eq_getElem (by omega)⟩
 have hzm:z∈T:=by
  unfold at? at hz'
  refine x12 (Option.bind_eq_some_iff.mp hz') ?_;rintro i _ e
  exact hs _ (List.mem_of_getElem? e)
 refine a4.mono (sB (c:=c) (sz:=c.length) (off:=i) (pl:=pl) (pc:=pc) (p:=p) (es:=[]) (D:=D) (D₁:=D) (D₂:=D) (buf₂:=.none) (lv:=if D.length≤1 then none else some (.int z)) hB ha h.size hD (.inl ⟨rfl,h0,rfl⟩) ?_ (nT0 hz (by decide)) (nT0 hz (by decide)) (nT0 (by rw [List.length_nil,Nat.zero_add];exact hz) (by decide:1000≤16777216)) (by rw [n2];exact nT0 hz (by decide)) (by rw [n2,n3];exact nT0 hz (by decide))) fun d o e=>⟨e.1,e.2.trans ?_⟩
 · by_cases q:D.length≤1
   · exact .inl ⟨q,if_pos q,rfl,rfl⟩
   · exact .inr ⟨Nat.lt_of_not_le q,z,hz',if_neg q,.inl ⟨fun e=>h.no13 (e▸hzm),(h.fine z hzm).2.2,rfl,rfl⟩⟩
 · rw [n1,hb];rfl
theorem ve (hT:T=p0++D) (hl:D.length≤10240):sl T (some (p0.length:Int)) (some ((p0.length:Int)+10240))=D:=by
 subst hT
 rw [f6,jK (show (((p0++D).length:Nat):Int)≤(p0.length:Int)+10240 by rw [List.length_append];omega),aT (by rw [List.length_append];exact Nat.le_add_right _ _),List.take_length,List.drop_left]
theorem qL (hB:IsB B) (h:dr (pre++rest)) (h0:rest≠[]) (i:Nat):Reads B st dx tx tdx er (pre++rest) true ⟨pre,i,(([]:List Nat).count 10:Nat),bq 0 [],.none,(pre.length:Nat),[]⟩ (sq pre [] rest):=fun R=>by
 have hl:rest.length≤10240:=nT0 (nT0 (by rw [List.length_append];exact Nat.le_add_left _ _) h.len) (by decide)
 refine (kF (c:=pre) (i:=i) hB h (.inl ⟨rfl,rfl⟩) (ve rfl hl) h0 (fun c hc=>List.mem_append_right _ hc) (by rw [List.length_append];exact Nat.le_add_left _ _)).mono fun d o e=>⟨e.1,e.2.trans ?_⟩
 rw [eI (Nat.le_refl _),fB (Nat.le_refl _),List.take_length]
 have e1:(((([]:List Nat).count 10:Nat):Int)+(pre.count 10:Nat))=(pre.count 10:Nat):=Int.zero_add _
 have e2:(pre.length:Int)+rest.length=((pre++([]++rest)).length:Nat):=by rw [List.nil_append,List.length_append];rfl
 rw [e1,e2];rfl
theorem mu (hB:IsB B) (h:dr (p0++c)) (i:Nat):Reads B st dx tx tdx er (p0++c) false ⟨c,i,(p0.count 10:Nat),bq 0 p0,.none,((p0++c).length:Nat),[]⟩ (sq (p0++c) [] []):=fun R=>by
 refine a4.mono (sv (c:=c) (sz:=c.length) (off:=i) (pl:=(p0.count 10:Nat)) (pc:=bq 0 p0) (p:=((p0++c).length:Nat)) (es:=[]) hB h.size (uV (Int.le_refl _))) fun d o e=>⟨e.1,e.2.trans ?_⟩
 rw [eI (Nat.le_refl _),fB (Nat.le_refl _),List.take_length]
 have e1:((p0.count 10:Nat):Int)+(c.count 10:Nat)=((p0++c).count 10:Nat):=by rw [List.count_append];rfl
 have e2:bq (bq 0 p0) c=bq 0 (p0++c):=(k8 _ _ _).symm
 have e3:((p0++c++([]++[])).length:Nat)=(p0++c).length:=by rw [List.append_nil,List.append_nil]
 show _ =oS st dx tx tdx er (p0++c) ⟨[],0,_,_,.none,_,[]⟩ R
 rw [e1,e2,e3];rfl
end
section
set_option genInjectivity false
variable {B:a5} {st dx tx tdx er:Addr} {T D c p0 pre w rest l:List Nat} {i:Nat} {q:SS} {pl pc:Int} {R:OL}
theorem lg {z:Nat}:sq p0 (pre++[z]) w=⟨pre++z::w,pre.length+1,(p0.count 10:Nat),bq 0 p0,.none,(p0++(pre++z::w)).length,[]⟩:=by
 unfold sq
 rw [List.append_assoc,List.length_append]
 rfl
theorem nq (o:OnB T l q):l.length≤T.length∧∀ c∈l,c∈T:=by
 obtain ⟨p0,pre,w,rest,rfl,_,rfl,_⟩:=o
 refine ⟨?_,fun c hc=>?_⟩
 · simp only [List.length_append];omega
 · simp only [List.mem_append] at hc ⊢
   exact hc.imp_left fun h=>.inr (.inr h)
theorem sh (hB:IsB B) (h:dr T) {z:Nat} (o:OnB T (z::l) q):∃ q',OnB T l q'∧a3 B st dx tx tdx er T 4 133 [] (.str [z]) q q'∧∃ q'',OnB T (z::l) q''∧a3 B st dx tx tdx er T 1 163 [.str [z]] .none q' q'':=by
 obtain ⟨p0,pre,w,rest,hT,hp,hl,rfl⟩:=o
 have key:∀ q p0 pre w rest,T=p0++(pre++z::w)++rest→(p0=[]∨rest=[])→l=w++rest→(∀ R,a4 B 4 133 [.ref st] (oS st dx tx tdx er T q R) fun d o=>d=.str [z]∧o=oS st dx tx tdx er T (sq p0 (pre++[z]) w) R)→
  ∃ q',OnB T l q'∧a3 B st dx tx tdx er T 4 133 [] (.str [z]) q q'∧∃ q'',OnB T (z::l) q''∧a3 B st dx tx tdx er T 1 163 [.str [z]] .none q' q'':=by
  intro q p0 pre w rest hT hp hl hc
  refine ⟨sq p0 (pre++[z]) w,⟨p0,pre++[z],w,rest,by rw [hT,List.append_assoc pre];rfl,hp,hl,rfl⟩,hc,sq p0 pre (z::w),⟨p0,pre,z::w,rest,hT,hp,by rw [hl];rfl,rfl⟩,fun R=>?_⟩
  have hz:(pre++z::w).length≤16777216:=nT0 (by rw [hT];simp only [List.length_append];omega) h.size
  have hi:pre.length < (pre++z::w).length:=by rw [List.length_append];exact Nat.lt_add_of_pos_right (Nat.succ_pos _)
  have y:=sF (st:=st) (dx:=dx) (tx:=tx) (tdx:=tdx) (er:=er) (t:=T) (rest:=R) (pl:=(p0.count 10:Nat)) (pc:=bq 0 p0) (buf:=.none) (p:=(p0++(pre++z::w)).length) (es:=[]) hB hi hz
  rw [show (pre++z::w)[pre.length]=z by simp] at y
  rw [lg]
  exact y
 rcases w with _ | ⟨z',w⟩
 · have hr:rest=z::l:=hl.symm
   obtain rfl:p0=[]:=hp.elim id fun e=>nomatch e.symm.trans hr
   subst hr
   refine key _ pre [] l [] (by rw [hT];simp) (.inr rfl) (List.append_nil _).symm fun R=>?_
   rw [List.append_nil,List.nil_append] at hT
   subst hT
   have hz:(z::l).length≤16777216:=nT0 (by rw [List.length_append];exact Nat.le_add_left _ _) h.size
   have y:=lZ (c:=pre) (sz:=pre.length) (off:=pre.length) (c':=z::l) hB (Int.le_refl _) hz (Nat.succ_pos _) (qL (st:=st) (dx:=dx) (tx:=tx) (tdx:=tdx) (er:=er) hB h (List.cons_ne_nil z l) pre.length R)
   rw [lg]
   have e:sq [] pre []=⟨pre,pre.length,(([]:List Nat).count 10:Nat),bq 0 [],.none,(pre.length:Nat),[]⟩:=by unfold sq;rw [List.append_nil];rfl
   rw [e]
   exact y
 · obtain ⟨rfl,hl'⟩:=List.cons.inj hl
   refine key _ p0 pre w rest hT hp hl' fun R=>?_
   have hz:(pre++z::w).length≤16777216:=nT0 (by rw [hT];simp only [List.length_append];omega) h.size
   have hi:pre.length < (pre++z::w).length:=by rw [List.length_append];exact Nat.lt_add_of_pos_right (Nat.succ_pos _)
   have y:=lC (st:=st) (dx:=dx) (tx:=tx) (tdx:=tdx) (er:=er) (t:=T) (rest:=R) (pl:=(p0.count 10:Nat)) (pc:=bq 0 p0) (buf:=.none) (p:=(p0++(pre++z::w)).length) (es:=[]) hB hi hz
   rw [show (pre++z::w)[pre.length]=z by simp] at y
   rw [lg]
   exact y
theorem vw (hB:IsB B) (h:dr T) (o:OnB T [] q):∃ q',OnB T [] q'∧a3 B st dx tx tdx er T 4 133 [] .none q q':=by
 obtain ⟨p0,pre,w,rest,hT,hp,hl,rfl⟩:=o
 obtain ⟨rfl,rfl⟩:=List.append_eq_nil_iff.mp hl.symm
 rw [List.append_nil,List.append_nil] at hT
 subst hT
 refine ⟨sq (p0++pre) [] [],⟨p0++pre,[],[],[],by simp,.inr rfl,rfl,rfl⟩,fun R=>?_⟩
 have e:sq p0 pre []=⟨pre,pre.length,(p0.count 10:Nat),bq 0 p0,.none,((p0++pre).length:Nat),[]⟩:=by unfold sq;rw [List.append_nil]
 rw [e]
 exact o6 hB (Int.le_refl _) (mu hB h pre.length R)
theorem pK (u:Nat→Bool) (a b:List Nat) (h:(a.takeWhile u).length=a.length):(a++b).takeWhile u=a++b.takeWhile u∧(a++b).dropWhile u=b.dropWhile u:=by
 induction a with
 | nil=>exact ⟨rfl,rfl⟩
 | cons x a ih=>
  by_cases e:u x=true
  · rw [List.takeWhile_cons,if_pos e] at h
    obtain ⟨h1,h2⟩:=ih (Nat.succ.inj h)
    rw [List.cons_append,List.takeWhile_cons,if_pos e,List.dropWhile_cons,if_pos e]
    exact ⟨congrArg (x::·) h1,h2⟩
  · rw [List.takeWhile_cons,if_neg e] at h;exact nomatch h
theorem Dk (u:Nat→Bool) (a b:List Nat) (h:(a.takeWhile u).length < a.length):(a++b).takeWhile u=a.takeWhile u∧(a++b).dropWhile u=a.dropWhile u++b:=by
 induction a with
 | nil=>exact absurd h (Nat.lt_irrefl _)
 | cons x a ih=>
  by_cases e:u x=true
  · rw [List.takeWhile_cons,if_pos e] at h
    obtain ⟨h1,h2⟩:=ih (Nat.lt_of_succ_lt_succ h)
    rw [List.cons_append,List.takeWhile_cons,if_pos e,List.dropWhile_cons,if_pos e,List.takeWhile_cons,if_pos e,List.dropWhile_cons,if_pos e]
    exact ⟨congrArg (x::·) h1,h2⟩
  · rw [List.cons_append,List.takeWhile_cons,if_neg e,List.dropWhile_cons,if_neg e,List.takeWhile_cons,if_neg e,List.dropWhile_cons,if_neg e]
    exact ⟨rfl,rfl⟩
theorem mY (u:Nat→Bool) (a:List Nat):a.takeWhile u++a.dropWhile u=a:=List.takeWhile_append_dropWhile
theorem ir (u:Nat→Bool) (a b:List Nat):bo u (a++b) a.length=a.length+(b.takeWhile u).length:=by unfold bo;rw [List.drop_left]
theorem yS (a b r:List Nat):sl (a++b++r) (some ((a.length:Nat):Int)) (some (((a.length+b.length:Nat)):Int))=b:=by
 rw [f6,aT (by simp only [List.length_append];omega),aT (by simp only [List.length_append];omega),←List.length_append,List.take_left,List.drop_left]
theorem lA (a b:List Nat):sl (a++b) (some ((a.length:Nat):Int)) none=b:=by
 rw [w0,aT (by rw [List.length_append];exact Nat.le_add_right _ _),List.take_length,List.drop_left]
theorem i8 {u:Nat→Bool} (h:(pre++w).length≤1048576) (hw:(w.takeWhile u).length < w.length):bH B st dx tx tdx er T u 0 (sq p0 pre w) (w.takeWhile u) (sq p0 (pre++w.takeWhile u) (w.dropWhile u)):=by
 have y:=bH.stop (B:=B) (st:=st) (dx:=dx) (tx:=tx) (tdx:=tdx) (er:=er) (t:=T) (u:=u) (q:=sq p0 pre w) (e:=pre.length+(w.takeWhile u).length) (by rw [List.length_append];exact Nat.le_add_right _ _) h (ir u pre w) (by rw [List.length_append];exact Nat.add_lt_add_left hw _)
 have e1:sl (pre++w) (some ((pre.length:Nat):Int)) (some (((pre.length+(w.takeWhile u).length:Nat)):Int))=w.takeWhile u:=by
  have:=yS pre (w.takeWhile u) (w.dropWhile u)
  rw [List.append_assoc,mY] at this
  exact this
 have e2:sq p0 (pre++w.takeWhile u) (w.dropWhile u)={ sq p0 pre w with i:=pre.length+(w.takeWhile u).length }:=by
  unfold sq
  rw [List.append_assoc,mY,List.length_append]
 rw [e2]
 rw [show (sq p0 pre w).c=pre++w from rfl,show (((sq p0 pre w).i:Nat):Int)=((pre.length:Nat):Int) from rfl,e1] at y
 exact y
theorem tw (hB:IsB B) (h:dr T) {chs:AV} {m:Nat→Bool} {opp:Bool} {args:List AV} (hm:InJ B chs m) (ha:args=[chs]∧opp=false∨args=[chs,.bool opp]) (o:OnB T l q):
 ∃ q', OnB T (l.dropWhile fun x=>m x==opp) q'∧a3 B st dx tx tdx er T 4 156 args (.str (l.takeWhile fun x=>m x==opp)) q q':=by
 obtain ⟨p0,pre,w,rest,hT,hp,hl,rfl⟩:=o
 have ha':∀ st:Addr,(AV.ref st::args=[.ref st,chs]∧opp=false∨AV.ref st::args=[.ref st,chs,.bool opp]):=fun st=>ha.imp (fun z=>⟨by rw [z.1],z.2⟩) fun z=>by rw [z]
 have hz:(pre++w).length≤1000:=nT0 (by rw [hT];simp only [List.length_append];omega) h.len
 have hlz:l.length≤1000:=nT0 (by rw [hl,hT];simp only [List.length_append];omega) h.len
 have key:∀ {k q'},bH B st dx tx tdx er T (fun x=>m x==opp) k (sq p0 pre w) (l.takeWhile fun x=>m x==opp) q'→k≤1000→a3 B st dx tx tdx er T 4 156 args (.str (l.takeWhile fun x=>m x==opp)) (sq p0 pre w) q':=fun hu hk R=>
  rD (rest:=R) hB hm (ha' st) hu hk (nT0 (gD hlz) (by decide))
 generalize hu:(fun x=>m x==opp)=u at key ⊢
 subst hl
 by_cases hw:(w.takeWhile u).length < w.length
 · obtain ⟨e1,e2⟩:=Dk u w rest hw
   rw [e1] at key ⊢
   rw [e2]
   refine ⟨sq p0 (pre++w.takeWhile u) (w.dropWhile u),⟨p0,pre++w.takeWhile u,w.dropWhile u,rest,by rw [hT,List.append_assoc pre,mY],hp,rfl,rfl⟩,key (i8 (nT0 hz (by decide)) hw) (Nat.zero_le _)⟩
 · have hw':(w.takeWhile u).length=w.length:=Nat.le_antisymm (List.takeWhile_sublist u).length_le (Nat.le_of_not_lt hw)
   obtain ⟨e1,e2⟩:=pK u w rest hw'
   rw [e1] at key ⊢
   rw [e2]
   have hsc:bo u (pre++w) pre.length=(pre++w).length:=by rw [ir,hw',List.length_append]
   have hle:pre.length≤(pre++w).length:=by rw [List.length_append];exact Nat.le_add_right _ _
   by_cases hr:rest=[]
   · subst hr
     rw [List.append_nil] at hT
     subst hT
     have y:=bH.last (B:=B) (st:=st) (dx:=dx) (tx:=tx) (tdx:=tdx) (er:=er) (t:=p0++(pre++w)) (u:=u) (q:=sq p0 pre w) hle (nT0 hz (by decide)) hsc (mu hB h pre.length)
     rw [show sl (sq p0 pre w).c (some (((sq p0 pre w).i:Nat):Int)) none=w from lA pre w] at y
     refine ⟨sq (p0++(pre++w)) [] [],⟨p0++(pre++w),[],[],[],by simp,.inr rfl,rfl,rfl⟩,key ?_ (Nat.zero_le _)⟩
     show bH _ _ _ _ _ _ _ _ _ _ (w++[]) _
     rw [List.append_nil]
     exact y
   · obtain rfl:p0=[]:=hp.resolve_right hr
     rw [List.nil_append] at hT
     subst hT
     have rd:=qL (st:=st) (dx:=dx) (tx:=tx) (tdx:=tdx) (er:=er) hB h hr pre.length
     have hrz:rest.length≤1000:=nT0 (by rw [List.length_append];exact Nat.le_add_left _ _) h.len
     have hz2:([]++rest:List Nat).length≤1048576:=nT0 hrz (by decide)
     have more:∀ {r q'},bH B st dx tx tdx er (pre++w++rest) u 0 (sq (pre++w) [] rest) r q'→bH B st dx tx tdx er (pre++w++rest) u 1 (sq [] pre w) (w++r) q':=fun hu2=>by
      have y:=bH.more (B:=B) (st:=st) (dx:=dx) (tx:=tx) (tdx:=tdx) (er:=er) (t:=pre++w++rest) (u:=u) (q:=sq [] pre w) hle (nT0 hz (by decide)) hsc rd hu2
      rw [show sl (sq [] pre w).c (some (((sq [] pre w).i:Nat):Int)) none=w from lA pre w] at y
      exact y
     by_cases hs:(rest.takeWhile u).length < rest.length
     · refine ⟨sq (pre++w) (rest.takeWhile u) (rest.dropWhile u),⟨pre++w,rest.takeWhile u,rest.dropWhile u,[],by rw [mY,List.append_nil],.inr rfl,(List.append_nil _).symm,rfl⟩,key (more (i8 (pre:=[]) hz2 hs)) (by decide)⟩
     · have hs':(rest.takeWhile u).length=rest.length:=Nat.le_antisymm (List.takeWhile_sublist u).length_le (Nat.le_of_not_lt hs)
       obtain ⟨e3,e4⟩:=pK u rest [] hs'
       rw [List.append_nil] at e3 e4
       rw [e3] at key ⊢
       rw [e4]
       have y:=bH.last (B:=B) (st:=st) (dx:=dx) (tx:=tx) (tdx:=tdx) (er:=er) (t:=pre++w++rest) (u:=u) (q:=sq (pre++w) [] rest) (Nat.zero_le _) hz2 (show bo u ([]++rest) ([]:List Nat).length=([]++rest:List Nat).length from by rw [ir,hs'];exact Nat.zero_add _) (mu hB h 0)
       rw [show sl (sq (pre++w) [] rest).c (some (((sq (pre++w) [] rest).i:Nat):Int)) none=rest from lA [] rest] at y
       refine ⟨sq (pre++w++rest) [] [],⟨pre++w++rest,[],[],[],by simp,.inr rfl,rfl,rfl⟩,key (more ?_) (by decide)⟩
       show bH _ _ _ _ _ _ _ _ _ _ (rest++[]) _
       rw [List.append_nil]
       exact y
theorem mR (o:OnB T l q):gG q=ba T (T.length - l.length):=by
 obtain ⟨p0,pre,w,rest,rfl,hp,rfl,rfl⟩:=o
 have e:(p0++(pre++w)++rest).length - (w++rest).length=(p0++pre).length:=by simp only [List.length_append];omega
 have e2:(p0++(pre++w)++rest).take (p0++pre).length=p0++pre:=by
  rw [show p0++(pre++w)++rest=(p0++pre)++(w++rest) by simp];exact List.take_left
 have hle:pre.length≤(pre++w).length:=by rw [List.length_append];exact Nat.le_add_right _ _
 unfold gG ba
 rw [e,e2]
 show AV.tup [.int (((p0.count 10:Nat):Int)+aY 10 (pre++w) ((pre.length:Nat):Int)+1),.int (cB (bq 0 p0) (pre++w) ((pre.length:Nat):Int))]= _
 rw [eI hle,fB hle,List.take_left,List.count_append,k8]
 rfl
theorem Aq (hB:IsB B) (h:zv T):cH B st dx tx tdx er T (OnB T) where
 char:=sh hB h.plain
 fin:=vw hB h.plain
 til:=tw hB h.plain
 es:=fun o=>by obtain ⟨_,_,_,_,_,_,_,rfl⟩:=o;exact ⟨rfl,rfl⟩
 pos:=mR
 len:=fun o=>nT0 (nq o).1 h.plain.len
 no0:=fun o c hc=>h.no0 c ((nq o).2 c hc)
end
section
set_option genInjectivity false
variable {k:Nat} {e1 e2:Expr}
variable {B:a5} {T:List Nat} {objs:OL}
theorem nF {i:Nat} (h:i < T.length):ba T (i+1)=if T[i]=10 then .tup [.int ((T.take i).count 10+1+1),.int 0] else .tup [.int ((T.take i).count 10+1),.int (bq 0 (T.take i)+1)]:=by
 have e:T.take (i+1)=T.take i++[T[i]]:=by rw [List.take_add_one,List.getElem?_eq_getElem h];rfl
 unfold ba
 rw [e,List.count_append]
 by_cases q:T[i]=10
 · rw [if_pos q,q]
   unfold bq
   rw [List.foldl_append]
   simp
 · rw [if_neg q]
   unfold bq
   rw [List.foldl_append]
   simp [q]
noncomputable def aN (T:List Nat) (i:Nat):List AV:=(List.range i).map (ba T)++[ba T i]
theorem kT (i:Nat):aN T (i+1)=aN T i++[ba T (i+1)]:=by unfold aN;refine List.range_succ▸List.map_append▸?_;rfl
theorem hG {n:Nat} (h:k≤n):(aN T n)[k]? =some (ba T k):=by
 unfold aN
 rw [show (List.range n).map (ba T)++[ba T n]=(List.range (n+1)).map (ba T) from by rw [List.range_succ,List.map_append];rfl,List.getElem?_map,List.getElem?_range (by omega)]
 rfl
theorem uD {X:Cx} {loc:LL} {a:Addr} {i:Nat} (m:(a,AO.list (aN T i))∈objs) (hi:i≤100000) (hs:bm e2=true):
 cF X e1 e2 (.ref a) (.int (-1)) (.tup [.int ((T.take i).count 10+1),.int (bq 0 (T.take i))]) ⟨loc,objs⟩:=pR (l:=(List.range i).map (ba T)) (d:=ba T i) m (by rw [List.length_map,List.length_range];omega) (g5 hs)
noncomputable def rG (T:List Nat) (a:Addr) (i:Nat):LL:=[("text",some (.str T)),("marks",some (.ref a)),("sign",if i=0 then none else some (.str [T.getD (i - 1) 0])),("line",if i=0 then none else some (.int ((T.take (i - 1)).count 10+1))),("column",if i=0 then none else some (.int (bq 0 (T.take (i - 1)))))]
noncomputable def dMk (T:List Nat) (z:Option Nat) (l c:Option Int) (o:AO) (ls:List AV) (ps:List DV) (rest:OL):DS:=⟨[("text",some (.av (.str T))),("marks",some (.slot 1)),("sign",z.map fun z=>.av (.str [z])),("line",l.map fun i=>.av (.int i)),("column",c.map fun i=>.av (.int i))],[(0,.ao o),(1,.list ls ps)],rest⟩
theorem sI (hB:IsB B) (h:dr T):a4 B 1 815 [.str T] objs fun d o=>∃ a,d=.ref a∧o=(a,.list (aN T T.length))::objs:=by
 have hz:=h.size
 have hlen:=h.len
 refine mN ["text"] ["marks","sign","line","column"] (by rw [hB.K];rfl) (by rw [hB.K];kernel_rfl) (.one fun _=>rfl) fun L=>?_
 refine dI (ai (fo (ai dk (ai dk aq)) (by decide)) aq) (by decide) fun a=>⟨_,.skip .hit,?_⟩
 refine aL (pJ (N:=T.length) (item:=fun i=>.str [T.getD i 0]) (d:=.str T) (fun i=>rG T a i) (fun i=>(a,AO.list (aN T i))::objs) (a6 (.head _)) (fun xv=>m5) ?_) ?_
 · intro i hi c p
   have hg:T.getD i 0=T[i]:=by simp [hi]
   have hm:=nF hi
   have hml:(aN T i).length≤16777216:=by unfold aN;rw [List.length_append,List.length_map,List.length_range,List.length_singleton];omega
   have ei:T.getD (i+1 - 1) 0=T[i]:=by rw [Nat.add_sub_cancel];exact hg
   refine ⟨⟨[("text",some (.str T)),("marks",some (.ref a)),("sign",some (.str [T[i]])),("line",if i=0 then none else some (.int ((T.take (i - 1)).count 10+1))),("column",if i=0 then none else some (.int (bq 0 (T.take (i - 1)))))],(c,.is p)::(a,.list (aN T i))::objs⟩,bU (bk (by refine hg▸?_;exact .skip (.skip .hit))),?_⟩
   have fin:(⟨rG T a (i+1),(c,.is p)::(a,.list (aN T (i+1)))::objs⟩:St)=(⟨[("text",some (.str T)),("marks",some (.ref a)),("sign",some (.str [T[i]])),("line",some (.int ((T.take i).count 10+1))),("column",some (.int (bq 0 (T.take i))))],(c,.is p)::(a,.list (aN T i++[if T[i]=10 then AV.tup [.int ((T.take i).count 10+1+1),.int 0] else .tup [.int ((T.take i).count 10+1),.int (bq 0 (T.take i)+1)]]))::objs⟩:St):=by
    rw [kT,hm]
    unfold rG
    rw [if_neg (Nat.succ_ne_zero i),if_neg (Nat.succ_ne_zero i),if_neg (Nat.succ_ne_zero i),ei,Nat.add_sub_cancel]
   refine fin▸?_
   clear fin hm ei hg
   have um:=fun (l c':Option AV) (X:Cx) (_:X.B=B) e1 e2 hs=>uD (X:=X) (e1:=e1) (e2:=e2) (loc:=[("text",some (.str T)),("marks",some (.ref a)),("sign",some (.str [T[i]])),("line",l),("column",c')]) (objs:=(c,.is p)::(a,.list (aN T i))::objs) (a:=a) (i:=i) (T:=T) (.tail _ (.head _)) (by omega) hs
   generalize hA:((T.take i).count 10:Int)+1=A at um ⊢
   generalize hC:bq 0 (T.take i)=C at um ⊢
   generalize aN T i=ml at hml um ⊢
   generalize T[i]=z
   by_cases e10:z=10
   · refine (if_pos e10)▸?_
     by_cases i0:i=0
     · refine (if_pos i0)▸(if_pos i0)▸?_
       exact aE [c,a] (dMk T (some z) none none (.is p) ml [] objs) (dMk T (some z) (some A) (some C) (.is p) ml [.av (.tup [.int (A+1),.int 0])] objs) [.itm (.tup [.int A,.int C]),.br true] .next (pxo hB) (qa (qa (qa trivial (um none none)) (decide_eq_true (congrArg (fun z=>[z]) e10))) hml)
     · refine (if_neg i0)▸(if_neg i0)▸?_
       exact aE [c,a] (dMk T (some z) (some ((T.take (i - 1)).count 10+1)) (some (bq 0 (T.take (i - 1)))) (.is p) ml [] objs) (dMk T (some z) (some A) (some C) (.is p) ml [.av (.tup [.int (A+1),.int 0])] objs) [.itm (.tup [.int A,.int C]),.br true] .next (pxo hB) (qa (qa (qa trivial (um (some (.int ((T.take (i - 1)).count 10+1))) (some (.int (bq 0 (T.take (i - 1))))))) (decide_eq_true (congrArg (fun z=>[z]) e10))) hml)
   · refine (if_neg e10)▸?_
     by_cases i0:i=0
     · refine (if_pos i0)▸(if_pos i0)▸?_
       exact aE [c,a] (dMk T (some z) none none (.is p) ml [] objs) (dMk T (some z) (some A) (some C) (.is p) ml [.av (.tup [.int A,.int (C+1)])] objs) [.itm (.tup [.int A,.int C]),.br false] .next (pxo hB) (qa (qa (qa trivial (um none none)) (ne1 e10)) hml)
     · refine (if_neg i0)▸(if_neg i0)▸?_
       exact aE [c,a] (dMk T (some z) (some ((T.take (i - 1)).count 10+1)) (some (bq 0 (T.take (i - 1)))) (.is p) ml [] objs) (dMk T (some z) (some A) (some C) (.is p) ml [.av (.tup [.int A,.int (C+1)])] objs) [.itm (.tup [.int A,.int C]),.br false] .next (pxo hB) (qa (qa (qa trivial (um (some (.int ((T.take (i - 1)).count 10+1))) (some (.int (bq 0 (T.take (i - 1))))))) (ne1 e10)) hml)
 · exact cE (fJ (fS (a6 (.tail _ (.head _))))) ⟨_,rfl,a,rfl,rfl⟩
theorem gA (l:List AV):∀ n,n≤l.length→b3 (fun _=>true) (fun i=>l.getD i .any) n=l.take n
 | 0,_=>by rw [List.take_zero];rfl
 | n+1,h=>by
  unfold b3
  rw [if_pos rfl,gA l n (Nat.le_of_succ_le h),List.take_add_one,List.getD_eq_getElem?_getD,List.getElem?_eq_getElem h]
  rfl
theorem cW (l:List AV):b3 (fun _=>true) (fun i=>l.getD i .any) l.length=l:=by rw [gA l _ (Nat.le_refl _),List.take_length]
theorem v_x {X:Cx} {e:Expr} {σ:St} {v:Value} (h:EvX X e σ v (.lit v)):Ev X e σ (.lit v) σ:=⟨fun H Φ k=>h.run H Φ (k v)⟩
section
variable {i:Int} {r fs:FL} {nm:AV} {l:List AV} {sc:Bool}
theorem mF (hB:IsB B) (h3:(!decide (i=3))=true) (h4:(!decide (i=4))=true):bM B 2 827 [.dct (("type",.int i)::r)] (.lst []):=fun objs=>
 d9 ["token"] [] [] [.av (.dct (("type",.int i)::r))] [] objs [.br true,.br true,.cmp true] (.av (.lst [])) [] objs hB rfl (.one fun _=>rfl) (qa (qa trivial h3) h4)
noncomputable abbrev dT (i:Int) (nm d:AV) (sc:Bool) (r:FL):AV:=.dct (("type",.int i)::("name",nm)::("data",d)::("selfClosing",.bool sc)::r)
theorem lz (hB:IsB B) (hz:fs.length≤1000):bM B 2 827 [dT 3 nm (.dct fs) sc r] (.lst (.bool true::fs.map fun p=>.str (fb p.1))):=fun objs=>by
 refine iG ["token"] [] (by rw [hB.K];rfl) (by rw [hB.K];kernel_rfl) (.one fun _=>rfl) fun L=>?_
 refine ⟨_,[("token",some (dT 3 nm (.dct fs) sc r))],objs,bu (r7 (dN [] ⟨[("token",some (.av (dT 3 nm (.dct fs) sc r)))],[],objs⟩ ⟨[("token",some (.av (dT 3 nm (.dct fs) sc r)))],[],objs⟩ [.br false] (pxo hB) (qa trivial ff)) dM)
  (fJ (fS (fD (jp (ai (bQ (aM PyProof.Rows.Boot.«isinstance» (by rw [hB.K];kernel_rfl)) c9 (ai (gv (a6 (.head _)) (eS (l:=sg "selfClosing") (k0 _)) (iW rfl)) (ai (v_x (aM PySem.Pv.boot_bool (by rw [hB.K];kernel_rfl))) aq)) jM) aq) (lB0 rfl))
   (tA ["key"] (fun _=>true) (fun i=>(fs.map fun p=>AV.str (fb p.1)).getD i .any) (nT0 hz (by decide)) (gv (a6 (.head _)) (eS (l:=sg "data") (k0 _)) (iW rfl)) (fun i hi=>?_) rfl) (q8 ?_)))),?_,rfl⟩
 · exact ⟨fun C p q=>⟨[("key",some ((fs.map fun p=>AV.str (fb p.1)).getD i .any))],[("key",some ((fs.map fun p=>AV.str (fb p.1)).getD i .any))],bU (bk .hit),jo,fun _=>a6 (.head _)⟩⟩
 · rw [List.length_singleton,show b3 (fun _=>true) (fun i=>(fs.map fun p=>AV.str (fb p.1)).getD i .any) fs.length=fs.map fun p=>AV.str (fb p.1) from by rw [show fs.length=(fs.map fun p=>AV.str (fb p.1)).length from (List.length_map _).symm];exact cW _,List.length_map]
   exact nT0 (Nat.add_le_add_left hz 1) (by decide)
 · show AV.lst ([.bool true]++_)= _
   rw [show b3 (fun _=>true) (fun i=>(fs.map fun p=>AV.str (fb p.1)).getD i .any) fs.length=fs.map fun p=>AV.str (fb p.1) from by rw [show fs.length=(fs.map fun p=>AV.str (fb p.1)).length from (List.length_map _).symm];exact cW _]
   rfl
theorem rr (hB:IsB B) (hz:l.length≤1000):bM B 2 827 [dT 4 nm (.lst l) sc r] (.lst (.bool true::l)):=fun objs=>by
 refine iG ["token"] [] (by rw [hB.K];rfl) (by rw [hB.K];kernel_rfl) (.one fun _=>rfl) fun L=>?_
 refine ⟨_,[("token",some (dT 4 nm (.lst l) sc r))],objs,bu (r7 (dN [] ⟨[("token",some (.av (dT 4 nm (.lst l) sc r)))],[],objs⟩ ⟨[("token",some (.av (dT 4 nm (.lst l) sc r)))],[],objs⟩ [.br true,.br false] (pxo hB) (qa (qa trivial tt) ff)) dM)
  (fJ (fS (fD (jp (ai (bQ (aM PyProof.Rows.Boot.«isinstance» (by rw [hB.K];kernel_rfl)) c9 (ai (gv (a6 (.head _)) (eS (l:=sg "selfClosing") (k0 _)) (iW rfl)) (ai (v_x (aM PySem.Pv.boot_bool (by rw [hB.K];kernel_rfl))) aq)) jM) aq) (lB0 rfl))
   (qj (N:=l.length) (d:=.lst l) ["key"] (fun _=>true) (fun i=>l.getD i .any) (nT0 hz (by decide)) (gv (a6 (.head _)) (eS (l:=sg "data") (k0 _)) (iW rfl)) (fun xv=>f9) (fun i hi=>?_) rfl) (q8 ?_)))),?_,rfl⟩
 · exact ⟨fun C p q=>⟨[("key",some (l.getD i .any))],[("key",some (l.getD i .any))],bU (bk .hit),jo,fun _=>a6 (.head _)⟩⟩
 · rw [List.length_singleton,cW]
   exact nT0 (Nat.add_le_add_left hz 1) (by decide)
 · show AV.lst ([.bool true]++_)= _
   rw [cW]
   rfl
end
end
section
set_option genInjectivity false
structure St4 where
 t:List Nat
 s:Nat
 rs:List (Nat×AV)
noncomputable def fP (q:St4) (u:fw):St4:=if u.2.1=[] then ⟨q.t++u.1,q.s,q.rs⟩ else ⟨q.t++u.1++u.2.2,(q.t++u.1).length,q.rs++aW q.t q.s++u.2.1.map fun e=>(q.t.length+e.1,e.2)⟩
noncomputable def dg (is:List Nat) (q:St4):St4:=is.foldl (fun q i=>fP q (a1 i)) q
noncomputable def rA (q:St4):List (Nat×AV):=q.rs++aW q.t q.s
noncomputable abbrev dK (L:Nat) (e:Nat×AV):Nat×AV:=(L - e.1,e.2)
theorem gr (t w tail:List Nat):aW (t++w) t.length=(di w tail).map (dK (t++w++tail).length):=by
 have hd:(t++w).drop t.length=w:=List.drop_left
 unfold aW spR chR di plS bo
 rw [hd]
 have eb:w.takeWhile bl++w.dropWhile bl=w:=List.takeWhile_append_dropWhile
 generalize w.takeWhile bl=b at eb ⊢
 generalize w.dropWhile bl=c at eb ⊢
 subst eb
 have hc:(t++(b++c)).drop (t.length+b.length)=c:=by rw [←List.append_assoc,←List.length_append];exact List.drop_left
 rw [List.map_append,hc]
 congr 1
 · rcases b with _ | ⟨z,b⟩
   · rw [if_neg (show ¬ t.length < t.length+([]:List Nat).length from Nat.lt_irrefl _),if_pos rfl];rfl
   · rw [if_pos (show t.length < t.length+(z::b).length from Nat.lt_add_of_pos_right (Nat.succ_pos _)),if_neg (List.cons_ne_nil _ _)]
     show _ =[(_ - _,_)]
     rw [show (t++(z::b++c)++tail).length - (c.length+tail.length)=t.length+(z::b).length by simp only [List.length_append];omega]
 · rcases c with _ | ⟨z,c⟩
   · rw [if_neg (by simp),if_pos rfl];rfl
   · rw [if_pos (by simp only [List.length_append,List.length_cons];omega),if_neg (List.cons_ne_nil _ _)]
     show _ =[(_ - _,_)]
     rw [show (t++(b++z::c)++tail).length - tail.length=(t++(b++z::c)).length by simp only [List.length_append];omega]
noncomputable def tJ (u:fw):Bool:=u.2.1.all fun e=>Nat.ble e.1 u.1.length
theorem qP:bG.all tJ=true:=by kernel_rfl
theorem fK {i:Nat} (hi:i < 24):a1 i∈bG:=by
 have h:i < bG.length:=hi
 have e:a1 i=bG[i]:=by unfold a1;rw [List.getD_eq_getElem?_getD,List.getElem?_eq_getElem h];rfl
 rw [e];exact List.getElem_mem h
theorem lB {i:Nat} (hi:i < 24) (t tail:List Nat):((a1 i).2.1.map fun e=>(t.length+e.1,e.2))=(aU (a1 i) tail).map (dK (t++(a1 i).1++tail).length):=by
 unfold aU
 rw [List.map_map]
 refine List.map_congr_left fun e he=>?_
 have:=lB0 (List.all_eq_true.mp (List.all_eq_true.mp qP _ (fK hi)) e he)
 show _ =(_ - _,_)
 rw [show (t++(a1 i).1++tail).length - (tail.length+((a1 i).1.length - e.1))=t.length+e.1 by simp only [List.length_append];omega]
theorem o4:∀ (is:List Nat) (t w:List Nat) (rs:List (Nat×AV)),(∀ i∈is,i < 24)→(dg is ⟨t++w,t.length,rs⟩).t=t++w++c4 (is.map a1)∧rA (dg is ⟨t++w,t.length,rs⟩)=rs++(eA w is).map (dK (t++w++c4 (is.map a1)).length):=by
 intro is
 induction is with
 | nil=>
  intro t w rs _
  refine ⟨(List.append_nil _).symm,?_⟩
  show rs++aW (t++w) t.length= _
  rw [gr t w []]
  rfl
 | cons i is ih=>
  intro t w rs hi
  have hi0:=hi i (.head _)
  have ih':=fun t w rs=>ih t w rs fun j hj=>hi j (.tail _ hj)
  rw [iX]
  unfold eA
  show (dg is (fP ⟨t++w,t.length,rs⟩ (a1 i))).t= _∧rA (dg is (fP ⟨t++w,t.length,rs⟩ (a1 i)))= _
  unfold fP
  by_cases h:(a1 i).2.1=[]
  · obtain ⟨h1,h2⟩:=nb hi0 h
    rw [if_pos h,if_pos h,h2,List.nil_append]
    have y:=ih' t (w++(a1 i).1) rs
    rw [←List.append_assoc,List.append_assoc (t++w)] at y
    exact y
  · rw [if_neg h,if_neg h]
    have y:=ih' (t++w++(a1 i).1) (a1 i).2.2 (rs++aW (t++w) t.length++(a1 i).2.1.map fun e=>((t++w).length+e.1,e.2))
    have e:t++w++(a1 i).1++(a1 i).2.2++c4 (is.map a1)=t++w++((a1 i).1++((a1 i).2.2++c4 (is.map a1))):=by simp only [List.append_assoc]
    rw [e] at y
    refine ⟨y.1,y.2.trans ?_⟩
    rw [gr t w ((a1 i).1++((a1 i).2.2++c4 (is.map a1))),lB hi0 (t++w) ((a1 i).2.2++c4 (is.map a1))]
    rw [show (t++w++(a1 i).1++((a1 i).2.2++c4 (is.map a1))).length=(t++w++((a1 i).1++((a1 i).2.2++c4 (is.map a1)))).length by rw [List.append_assoc (t++w)]]
    rw [List.map_append,List.map_append]
    simp only [List.append_assoc]
end
section
theorem rF {P:Params} {F:Fz} {ns:List Int}:∀ {vs:List Value},IsAll P F vs (ns.map .int)→IntsAre vs ns:=by
 induction ns with
 | nil=>intro vs h;obtain rfl:vs=[]:=cq h;exact .nil
 | cons n ns ih=>
  intro vs h
  refine x23 (cq h) ?_;rintro v ws rfl q r
  obtain ⟨t,rfl⟩:=ah q
  exact .cons _ _ (ih r)
section
variable {B:a5} {n:Nat} {L:Addr} {H:HL} {σ:St} {env:Env} {Φ':PF}
theorem Ai {v:Value} {ns:List Int} {Φ:PV} (mv:(v,.lst (ns.map .int))∈H) (h:∀ v,Φ v (.int ns.sum) σ):WV B n L (call (.builtin "sum") [v]) H σ Φ:=a7 fun A F s hA X=>by
 refine x33 (bd (X.hold mv)) ?_;rintro a vs m rfl e1 e2
 have hi:=rF e2
 have hl:=bP X.sub e1
 have hn:=hi.numsOf
 obtain ⟨xs,hx⟩:=hi.allInts.items
 rw [hx] at hl
 rw [show vs=(vs.toArray).toList from rfl,hx,nums_intItems] at hn
 refine sum_intListG hA.handled hl fun h' tk t' k=>ae.more X k rfl rfl ⟨.int ns.sum,?_,h _⟩
 rw [←hn,preSum_eq,List.take_of_length_le (by simp)]
 exact .int _ _
theorem zb {t1 t2 t3 e:Expr} {k:Nat} {p pos:Pos}
 (h:WV B n L (eval e env) H σ fun v d σ₁=>∃ d1 d2 d3,d=.tup [d1,d2,d3]∧∀ v1 v2 v3,WU B n L (assign t1 env v1) ((v1,d1)::(v2,d2)::(v3,d3)::H) σ₁ fun σ₂=>WU B n L (assign t2 env v2) ((v1,d1)::(v2,d2)::(v3,d3)::H) σ₂ fun σ₃=>WU B n L (assign t3 env v3) ((v1,d1)::(v2,d2)::(v3,d3)::H) σ₃ fun σ₄=>Φ' .next σ₄)
 (hs:autoParam (swapsWithSole [.Tuple [t1,t2,t3] k p] e pos.line env=pure false) bR) (hw:autoParam (swappedStores [.Tuple [t1,t2,t3] k p] e env=pure none) bR)
 (he:autoParam (assignEach [t1,t2,t3] env=[(false,assign t1 env),(false,assign t2 env),(false,assign t3 env)]) bR):WF B n L (exec (.Assign [.Tuple [t1,t2,t3] k p] e pos) env) H σ Φ':=a7 fun A F s hA X=>by
 refine PyProof.Rows.Assign_Tuple (wpAny_mono (h.run A F s hA X) (fun v s₁ z=>?_) fun _ _ z=>z) hs hw
 obtain ⟨F₁,σ₁,x₁,p₁,d,hd,d1,d2,d3,rfl,w⟩:=z
 refine x33 (cx hd) ?_;rintro a vs m rfl e1 e2
 refine x34 (uX e2) ?_;rintro v1 v2 v3 rfl q1 q2 q3
 refine assign_Tuple_tuple hA.handled (cG x₁.sub e1) (by rw [he];rfl) (by rw [he];rfl) fun h' hk=>?_
 rw [he]
 have keep:∀ b o,s₁.heap.get? b=some o→h'.get? b=some o:=fun b o e=>hk b o (Nat.ne_of_lt (Heap.lt_size e)) e
 have x₂:=(((x₁.grow keep).push q3).push q2).push q1
 refine assignInOrder_cons ?_
 refine wpAny_mono ((w v1 v2 v3).run A F₁ { s₁ with heap:=h' } hA x₂) (fun _ s₃ z=>?_) fun _ _ z=>z
 obtain ⟨F₃,σ₃,x₃,p₃,w₃⟩:=z
 refine assignInOrder_cons (wpAny_mono (w₃.run A F₃ s₃ hA x₃) (fun _ s₄ z=>?_) fun _ _ z=>z)
 obtain ⟨F₄,σ₄,x₄,p₄,w₄⟩:=z
 refine assignInOrder_cons (wpAny_mono (w₄.run A F₄ s₄ hA x₄) (fun _ s₅ z=>?_) fun _ _ z=>z)
 obtain ⟨F₅,σ₅,x₅,p₅,q⟩:=z
 refine assignInOrder_nil ⟨F₅,σ₅,x₅.weaken fun _ hp=>.tail _ (.tail _ (.tail _ hp)),p₁.trans (aJ.trans (s':={ s₁ with heap:=h' }) ⟨fun b o _ e=>keep b o e,fun _ h=>.inl h,fun _ _ e=>.inl e,.refl F₁,.refl _,rfl⟩ (p₃.trans (p₄.trans p₅))),.next,trivial,q⟩
end
section
variable {X:Cx} {σ σ₁ σ₂ σ₃ σ₄:St} {e:Expr}
theorem CS {ns:List Int}:aQ X (.builtin "sum") [.lst (ns.map .int)] σ (.int ns.sum) σ:=gu fun _ _ _ mv h=>Ai mv h
theorem uB {t1 t2 t3:Expr} {k:Nat} {p pos:Pos} {d1 d2 d3:AV} (h0:Ev X e σ (.tup [d1,d2,d3]) σ₁) (h1:AsR X t1 d1 σ₁ σ₂) (h2:AsR X t2 d2 σ₂ σ₃) (h3:AsR X t3 d3 σ₃ σ₄)
 (hs:autoParam (swapsWithSole [.Tuple [t1,t2,t3] k p] e pos.line X.env=pure false) bR) (hw:autoParam (swappedStores [.Tuple [t1,t2,t3] k p] e X.env=pure none) bR)
 (he:autoParam (assignEach [t1,t2,t3] X.env=[(false,assign t1 X.env),(false,assign t2 X.env),(false,assign t3 X.env)]) bR):Ex X (.Assign [.Tuple [t1,t2,t3] k p] e pos) σ .next σ₄:=
 ⟨fun _ _ h=>zb (h0.run _ _ fun _=>⟨d1,d2,d3,rfl,fun _ _ _=>h1.run _ _ _ (.head _) (h2.run _ _ _ (.tail _ (.head _)) (h3.run _ _ _ (.tail _ (.tail _ (.head _))) h))⟩) hs hw he⟩
end
end
section
set_option genInjectivity false
section
variable {X:Cx} {loc loc':LL} {objs:OL} {ss:List Stmt} {QF:PF} {ra:Addr} {l:List AV}
theorem uu (h:bg X ss ⟨loc',objs⟩ QF) (e:∀ y d,(y,some d)∈loc'→(y,some d)∈loc∨(d=.lst l∧(y,some (.ref ra))∈loc)) (nd:(loc'.map (·.1)).Nodup):bg X ss ⟨loc,(ra,.list l)::objs⟩ QF:=
 ⟨fun H Φ k=>a7 fun A F s hA Y=>by
  refine x14 Y.freeze ?_;rintro F' le Y' hl back
  have Y2:Holds X.B.P X.B.G X.L F' H ⟨loc',objs⟩ s.heap:=⟨Y'.core,Y'.sub,let ⟨m,hm,r⟩:=Y'.loc;⟨m,hm,fun y d hy=>(e y d hy).elim (r y d) fun ⟨e1,e2⟩=>by
   refine x12 (r y _ e2) ?_;rintro v h1 h2
   obtain rfl:=al h2
   exact ⟨_,h1,e1▸hl⟩⟩,nd,Y'.objs,Y'.nodup,Y'.apart,Y'.held,Y'.low⟩
  refine wpAny_mono ((h.run H Φ k).run A F' s hA Y2) (fun v s' z=>?_) fun _ _ z=>z
  obtain ⟨F₂,σ₂,x₂,p₂,q⟩:=z
  exact ⟨F₂,σ₂,x₂,aJ.trans (s':=s) (O':=X.L::a9 objs) (F':=F') ⟨fun _ _ _ e=>e,fun b hb=>.inl ((mC0 hb).elim (fun e=>e▸.head _) fun hb=>.tail _ (.tail _ hb)),fun b o e=>(back b o e).elim .inl fun z=>.inr (.inl (z▸.tail _ (.head _))),le,.refl _,rfl⟩ p₂,q⟩⟩
end
section
variable {n:Nat}
theorem qc {B:a5} {objs:OL} {name qual:Str} {params:Arguments} {body body':List Stmt} {scope scope':Scope} {dV kV doc pm cdv ct oc:Value} {an od:Option Addr} {osl:Array (Option Value)} {f:Addr} {args ds:List AV} {P:AV→OL→Prop} (ps:List Str) (loc:LL) (cn:LL)
 (ho:B.K.lookup f=some ⟨oc,od,.func (fnOf name qual params body scope dV kV doc pm an cdv ct),osl⟩) (hcd:codeIn B.K cdv qual=true)
 (hbind:∀ vs,vs.length=args.length→bindArgs (fnOf name qual params body scope dV kV doc pm an cdv ct) ⟨vs,[]⟩=pure (ps.zip vs)) (hlen:ps.length=args.length) (hds:ds=args)
 (h:∀ L,bg ⟨B,n,L,envOfC qual scope' L f cdv⟩ body' ⟨loc,b5 (L+1) cn++objs⟩ fun f σ'=>∃ d,f=.ret d∧P d σ'.objs)
 (eb:body=body':=by (conv=>lhs;whnf)) (es:scope=scope':=by (conv=>lhs;whnf))
 (hloc:∀ x d,(x,some d)∈loc→scope'.names.lookup x=some .local∧(x,d)∈ps.zip ds) (hln:(loc.map (·.1)).Nodup)
 (hcs:∀ L,(bw (L+1) cn).reverse=cellsFrom (L+1) scope'.names []) (hcn:(cn.map (·.1)).Nodup)
 (hck:∀ x d,(x,d)∈cn→scope'.names.lookup x=some .cell∧(match d with | some d=>(x,d)∈ps.zip ds | none=>x∉ps)) (hpn:ps.Nodup)
 (hpk:∀ x∈ps,scope'.names.lookup x=some .local∨(scope'.names.lookup x=some .cell∧x∈cn.map (·.1)))
 (hco:autoParam (scope'.isCoroutine=false) bR) (hgen:autoParam (scope'.isGenerator=false) bR) (hk:autoParam (scope'.kind=.function) bR):a4 B (n+1) f args objs P:=
 ux ps loc cn ho hcd hbind hlen hds (fun L=>(h L).run _ _ fun f σ' ⟨d,e,q⟩=>by subst e;exact q) hloc hln hcs hcn hck hpn hpk hco hgen hk eb es
end
noncomputable abbrev lW (ns:List Int) (u t s r w1 w2 w3 w4 w5 w6 d k g:Option AV):LL:=[("script",some (.obj (ia ns))),("units",u),("text",t),("start",s),("rows",r),("n",w1),("piece",w2),("told",w3),("behind",w4),("step",w5),("token",w6),("due",d),("tokenizer",k),("got",g)]
noncomputable abbrev lU:AV:=.lst (bG.map iC)
noncomputable abbrev dW (ns:List Int) (u t s r w1 w2 w3 w4 w5 w6 d k g:Option DV):List (Str×Option DV):=[("script",some (.av (.obj (ia ns)))),("units",u),("text",t),("start",s),("rows",r),("n",w1),("piece",w2),("told",w3),("behind",w4),("step",w5),("token",w6),("due",d),("tokenizer",k),("got",g)]
section
variable {B:a5} {L:Addr} {ns:List Int} {ra:Addr} {t pc bh:List Nat} {s:Nat} {l:List AV} {w1 w2 w3 w4 w5 w6:Option AV} {p:Obj→Prop}
noncomputable abbrev lS (ns:List Int) (L ra:Addr) (q:St4) (w1 w2 w3 w4 w5 w6:Option AV):St:=⟨lW ns (some lU) (some (.str q.t)) (some (.int q.s)) (some (.ref ra)) w1 w2 w3 w4 w5 w6 none none none,[(ra,.list (q.rs.map aK)),(L+1,.cell none)]⟩
theorem wj {cells:List (Str×Addr)} {ρ:List Addr} {a:Str} {i:Nat} (h1:cells.lookup a=some (aB ρ i)) (hi:Nat.blt i ρ.length=true):∀ x k,cy x [(a,i)]=some k→cells.lookup x=some (aB ρ k)∧k < ρ.length:=fun x k e=>by
 refine x12 (Option.map_eq_some_iff.mp e) ?_;rintro p h q
 obtain rfl:=List.mem_singleton.mp (List.mem_of_find?_eq_some h)
 have e1:=eq_of_beq (List.find?_some (p:=fun p:Str×Nat=>p.1==x) h)
 subst q e1
 exact ⟨h1,g7 hi⟩
noncomputable def iOf (n:Int):Nat:=(n.fmod 24).toNat
theorem jz (n:Int):iOf n < 24:=by
 have h0:0≤n.fmod 24:=Int.fmod_nonneg_of_pos n (by decide)
 have h1:n.fmod 24 < 24:=Int.fmod_lt_of_pos n (by decide)
 unfold iOf;omega
theorem qF (n:Int):(bG.map iC)[iOf n]? =some (iC (a1 (iOf n))):=by
 have h:iOf n < bG.length:=jz n
 rw [List.getElem?_map,List.getElem?_eq_getElem h]
 unfold a1
 rw [List.getD_eq_getElem?_getD,List.getElem?_eq_getElem h]
 rfl
noncomputable def wD (u:fw):Bool:=Nat.ble u.1.length 16&&(Nat.ble u.2.2.length 1&&Nat.ble u.2.1.length 3)
theorem tK:bG.all wD=true:=by kernel_rfl
theorem n8 {i:Nat} (hi:i < 24):(a1 i).1.length≤16∧(a1 i).2.2.length≤1∧(a1 i).2.1.length≤3:=by
 have:=List.all_eq_true.mp tK _ (fK hi)
 exact ⟨lB0 (aj this),lB0 (aj (au this)),lB0 (au (au this))⟩
theorem f0 (T:List Nat) (s:Nat):(aW T s).length≤2:=by
 unfold aW spR chR
 rw [List.length_append]
 exact Nat.add_le_add (b:=1) (d:=1) (by split<;>exact lB0 rfl) (by split<;>exact lB0 rfl)
structure OkL (q:St4) (k:Nat):Prop where
 t:q.t.length≤17*k
 r:q.rs.length≤5*k
 s:q.s≤q.t.length
theorem ub {q:St4} {k i:Nat} (h:OkL q k) (hi:i < 24):OkL (fP q (a1 i)) (k+1):=by
 obtain ⟨h1,h2,h3⟩:=n8 hi
 obtain ⟨g1,g2,g3⟩:=h
 have:=f0 q.t q.s
 unfold fP
 split
 · exact ⟨by show (q.t++_).length≤_;rw [List.length_append];omega,by show q.rs.length≤_;omega,by show q.s≤(q.t++_).length;rw [List.length_append];omega⟩
 · exact ⟨by show (q.t++_++_).length≤_;simp only [List.length_append];omega,by show (q.rs++_++_).length≤_;simp only [List.length_append,List.length_map];omega,by show (q.t++_).length≤(q.t++_++_).length;simp only [List.length_append];omega⟩
theorem n7 {q:St4} {k:Nat} (h:OkL q k):∀ (is:List Nat),(∀ i∈is,i < 24)→OkL (dg is q) (k+is.length):=by
 intro is
 induction is generalizing q k with
 | nil=>exact fun _=>h
 | cons i is ih=>
  intro hi
  have y:=ih (ub h (hi i (.head _))) fun j hj=>hi j (.tail _ hj)
  rw [List.length_cons,Nat.add_comm is.length 1,←Nat.add_assoc]
  exact y
theorem oM (is:List Nat) (i:Nat) (q:St4):dg (is++[i]) q=fP (dg is q) (a1 i):=by unfold dg;rw [List.foldl_append];rfl
end
end
section
set_option genInjectivity false
noncomputable def eT (d:AV):Prop:=∃ m,(∀ B,IsB B→bM B 2 827 [d] (.lst m))∧d7 10 d∧d7 10 (.lst m)
open Classical in
noncomputable def mOf (d:AV):List AV:=if h:eT d then Classical.choose h else []
theorem sL {d:AV} (h:eT d):(∀ B,IsB B→bM B 2 827 [d] (.lst (mOf d)))∧d7 10 d∧d7 10 (.lst (mOf d)):=by
 unfold mOf
 rw [dif_pos h]
 exact Classical.choose_spec h
theorem cL {α:Type} {P:α→Prop}:∀ x∈([]:List α),P x:=fun _ h=>nomatch h
theorem aI {α:Type} {P:α→Prop} {a:α} {l:List α} (h1:P a) (h2:∀ x∈l,P x):∀ x∈a::l,P x:=fun x hx=>by
 rcases mC0 hx with rfl | hx
 · exact h1
 · exact h2 x hx
section
variable {i:Int} {x y c nm:List Nat} {fs:FL} {sc:Bool} {l:List AV}
theorem mz (h3:(!decide (i=3))=true) (h4:(!decide (i=4))=true):eT (.dct [("type",.int i),("data",.str x)]):=
 ⟨[],fun B hB=>mF hB h3 h4,.dct (aI .int (aI .str cL)),.lst cL⟩
theorem wT:eT (.dct [("type",.int 7),("data",.str x),("datavars",.dct [("data",.str c)])]):=
 ⟨[],fun B hB=>mF hB (by decide) (by decide),.dct (aI .int (aI .str (aI (.dct (aI .str cL)) cL))),.lst cL⟩
theorem rY (hz:fs.length≤1000) (h:∀ p∈fs,d7 8 p.2):eT (bt nm fs sc):=
 ⟨.bool true::fs.map fun p=>.str (fb p.1),fun B hB=>lz hB hz,.dct (aI .int (aI .str (aI (.dct h) (aI .bool (aI .bool cL))))),.lst (aI .bool fun d hd=>by
  obtain ⟨p,_,rfl⟩:=List.mem_map.mp hd
  exact .str)⟩
theorem gY {n m:Nat} (h:n≤m) {d:AV} (f:d7 n d):d7 m d:=by
 induction f generalizing m with
 | none=>exact .none
 | bool=>exact .bool
 | int=>exact .int
 | str=>exact .str
 | tup _ ih=>obtain ⟨k,rfl⟩:∃ k,m=k+1:=⟨m - 1,by omega⟩;exact .tup fun d hd=>ih d hd (Nat.le_of_succ_le_succ h)
 | lst _ ih=>obtain ⟨k,rfl⟩:∃ k,m=k+1:=⟨m - 1,by omega⟩;exact .lst fun d hd=>ih d hd (Nat.le_of_succ_le_succ h)
 | dct _ ih=>obtain ⟨k,rfl⟩:∃ k,m=k+1:=⟨m - 1,by omega⟩;exact .dct fun d hd=>ih d hd (Nat.le_of_succ_le_succ h)
theorem qU (hz:l.length≤1000) (h:∀ d∈l,d7 8 d):eT (dF nm l):=
 ⟨.bool true::l,fun B hB=>rr hB hz,.dct (aI .int (aI .str (aI (.lst fun d hd=>gY (by decide) (h d hd)) (aI .bool cL)))),.lst (aI .bool fun d hd=>gY (by decide) (h d hd))⟩
end
theorem l6:∀ u∈bG,∀ e∈u.2.1,eT e.2:=by
 unfold bG
 repeat' first | exact cL | refine aI ?_ ?_
 all_goals first
  | exact mz (by decide) (by decide)
  | exact wT
  | exact rY (by decide) (by repeat' first | exact cL | exact .str | refine aI ?_ ?_)
  | exact qU (by decide) (by repeat' first | exact cL | exact .str | refine aI ?_ ?_ | refine .lst ?_)
theorem ip {w tail:List Nat}:∀ e∈di w tail,eT e.2:=fun e he=>by
 unfold di plS at he
 rcases List.mem_append.mp he with he | he
 · split at he
   · exact nomatch he
   · obtain rfl:=List.mem_singleton.mp he
     exact mz (by decide) (by decide)
 · split at he
   · exact nomatch he
   · obtain rfl:=List.mem_singleton.mp he
     exact mz (by decide) (by decide)
theorem uM:∀ (is:List Nat) (w:List Nat),(∀ i∈is,i < 24)→∀ e∈eA w is,eT e.2:=by
 intro is
 induction is with
 | nil => intro w _ e he;exact ip e he
 | cons i is ih=>
  intro w hi e he
  unfold eA at he
  have ih':=fun w=>ih w fun j hj=>hi j (.tail _ hj)
  split at he
  · exact ih' _ e he
  · rcases List.mem_append.mp he with he | he
    · exact ip e he
    · rcases List.mem_append.mp he with he | he
      · unfold aU at he
        obtain ⟨p,hp,rfl⟩:=List.mem_map.mp he
        exact l6 _ (fK (hi i (.head _))) p hp
      · exact ih' _ e he
noncomputable def jx:List Nat:=[32,10,9,97,98,99,101,62,49,60,112,47,80,66,114,120,61,34,50,121,33,45,110,111,63,113,122,39,100,105,107,116,117]
noncomputable def EO (u:fw):Bool:=(u.1++u.2.2).all fun c=>decide (c∈jx)
theorem Bp:bG.all EO=true:=by kernel_rfl
theorem pM {is:List Nat} (hi:∀ i∈is,i < 24):∀ c∈c4 (is.map a1),c∈jx:=fun c hc=>by
 unfold c4 at hc
 refine x12 (List.mem_flatten.mp hc) ?_;rintro x hx hc
 refine x12 (List.mem_map.mp hx) ?_;rintro u hu rfl
 refine x12 (List.mem_map.mp hu) ?_;rintro i hj rfl
 exact of_decide_eq_true (List.all_eq_true.mp (List.all_eq_true.mp Bp _ (fK (hi i hj))) c hc)
theorem xb {T:List Nat} (hl:T.length≤1000) (hm:∀ c∈T,c∈jx):zv T:=by
 have k1:∀ c∈jx,c≠13∧c≠0∧c≠38∧inv (c:Int)=false∧c < 1114112∧¬ (55296≤c∧c≤56319):=by decide+kernel
 exact ⟨⟨hl,fun h=>(k1 _ (hm _ h)).1 rfl,fun c hc=>(k1 c (hm c hc)).2.2.2⟩,fun c hc=>⟨(k1 c (hm c hc)).2.1,(k1 c (hm c hc)).2.2.1⟩⟩
section
variable {B:a5} {st dx tx tdx er:Addr} {T:List Nat} {N:Int}
theorem rP (hB:IsB B):∀ R,a4 B 3 141 [.ref st,.int N] (oS st dx tx tdx er [] SS0 R) fun d o=>d=.bool false∧o=oS st dx tx tdx er [] (sq [] [] []) R:=fun R=>by
 have hr:=(jy (t:=[]) (p:=0) (size:=N) (D:=[]) (x:=tx) (dx:=tdx) (rest:=stO st dx tx er [] 0 0 (0+aY 10 [] 0) (cB 0 [] 0) .none::(er,.list [])::R) hB (Nat.zero_le _) (by rw [f6];simp)).second
 have y:a4 B 3 141 [.ref st,.int N] (sO st dx tx tdx er [] 0 0 0 0 .none [] 0 [] R) fun d objs=>d=.bool false∧objs=sO st dx tx tdx er [] 0 0 (0+aY 10 [] 0) (cB 0 [] 0) .none [] 0 [] R:=
  d9 ["self","chunkSize"] ["data","lastv"] [st,tx,er] [.slot 0,.av (.int N)] (dSO 0 dx tdx [] 0 0 0 0 .none [] 0 [] [] []) R
  [.call 0 (.av (.tup [.int (0+aY 10 [] 0),.int (cB 0 [] 0)])) (dSO 0 dx tdx [] 0 0 0 0 .none [] 0 [] [] []) R 1,.call 0 (.av (.str [])) (dSO 0 dx tdx [] 0 0 (0+aY 10 [] 0) (cB 0 [] 0) .none [] (0+((0:Nat):Int)) [] [] []) R 1,.br false]
  (.av (.bool false)) (dSO 0 dx tdx [] 0 0 (0+aY 10 [] 0) (cB 0 [] 0) .none [] (0+((0:Nat):Int)) [] [] []) R hB rfl (.full2 rfl (by rw [hB.K];rfl) rfl (fun _ _=>rfl) (fun _ _=>rfl))
  (qa (qa (qa (qa trivial (nv (rest:=txO tx tdx [] 0::(er,.list [])::R) (dx:=dx) (st:=st) (tx:=tx) (er:=er) (c:=[]) (sz:=0) (off:=0) (pl:=0) (pc:=0) (buf:=.none) hB (o:=0))) hr) (big (m:=0) (Nat.le_refl _))) ff)
 have e:oS st dx tx tdx er [] (sq [] [] []) R=sO st dx tx tdx er [] 0 0 (0+aY 10 [] 0) (cB 0 [] 0) .none [] 0 [] R:=by
  rw [show aY 10 [] (0:Int)=0 from Cy,show cB 0 [] (0:Int)=0 from AY 0]
  rfl
 rw [e]
 exact y
theorem pC (hB:IsB B) (h:dr T) (h1:1≤N) (h2:N≤max 1 (T.length:Int)):∃ b q,OnB T T q∧∀ R,a4 B 3 141 [.ref st,.int N] (oS st dx tx tdx er T SS0 R) fun d o=>d=.bool b∧o=oS st dx tx tdx er T q R:=by
 by_cases hT:T=[]
 · subst hT
   exact ⟨false,sq [] [] [],⟨[],[],[],[],rfl,.inl rfl,rfl,rfl⟩,rP hB⟩
 · have hp:0 < T.length:=List.length_pos_iff.mpr hT
   obtain ⟨k,rfl⟩:∃ k:Nat,N=k:=⟨N.toNat,by omega⟩
   have hk:k≤T.length:=by omega
   have hk1:1≤k:=by omega
   refine ⟨true,sq [] [] (T.take k),⟨[],[],T.take k,T.drop k,(List.take_append_drop k T).symm,.inl rfl,(List.take_append_drop k T).symm,rfl⟩,fun R=>?_⟩
   have y:=kF (st:=st) (dx:=dx) (tx:=tx) (tdx:=tdx) (er:=er) (c:=[]) (i:=0) (pl:=0) (pc:=0) (R:=R) (D:=T.take k) hB h (.inr rfl) (p:=0) (N:=k) (args:=[.ref st,.int k]) (by
    rw [f6,show (0:Int)+(k:Int)=((k:Nat):Int) from Int.zero_add _,aT hk,show bx T.length (0:Int)=0 from aT (Nat.zero_le _)];rfl)
    (fun e=>by have:=congrArg List.length e;rw [List.length_take] at this;simp at this;omega) (fun c hc=>List.mem_of_mem_take hc) (List.length_take_le' _ _)
   have e:sq [] [] (T.take k)=⟨T.take k,0,0+aY 10 [] ([]:List Nat).length,cB 0 [] ([]:List Nat).length,.none,0+(T.take k).length,[]⟩:=by
    unfold sq
    rw [show aY 10 [] ((([]:List Nat).length:Nat):Int)=0 from Cy,show cB 0 [] ((([]:List Nat).length:Nat):Int)=0 from AY 0]
    simp
    rfl
   rw [e]
   exact y
end
end
section
set_option genInjectivity false
theorem wh {X:Cx} {σ:St} {l:List AV} {d:AV} {e1 e2:Expr} {k:Nat} (hd:l[k]? =some d) (hz:l.length≤16777000) (hs:∀ o i,∃ ops,subscripted e2 false o i=operate ops (getItem o i):=by exact fun _ _=>⟨_,rfl⟩):cF X e1 e2 (.lst l) (.int k) d σ:=rZ (Int.natCast_nonneg _) rfl hd (nT0 hz (by decide)) hs
theorem DU {n:Nat} (h:n≤16777000):n+0≤16777216:=nT0 h (by decide)
theorem wq {B:a5} (hB:IsB B) {st dx tx tdx er:Addr} {t:List Nat} {q:SS} {d₀:AV} (e:gG q=d₀) (pre rest:OL):a4 B 2 126 [.ref st] (pre++oS st dx tx tdx er t q rest) fun d o=>d=d₀∧o=pre++oS st dx tx tdx er t q rest:=by
 refine a4.perm (o₁:=oS st dx tx tdx er t q (rest++pre)) (List.perm_append_comm (l₂:=oS st dx tx tdx er t q rest)) (li hB) fun d o ⟨e1,e2⟩=>⟨pre++oS st dx tx tdx er t q rest,?_,e1.trans e,rfl⟩
 rw [e2]
 exact List.perm_append_comm (l₁:=oS st dx tx tdx er t q rest)
theorem nu {ns:List Int} {u t s r w1 w2 w3 w4 w5 w6 d k g:Option AV}:((lW ns u t s r w1 w2 w3 w4 w5 w6 d k g).map (·.1)).Nodup:=bf (by kernel_rfl)
theorem vI {ns:List Int} {u t s r w1 w2 w3 w4 w5 w6 d k g:Option AV}:∀ x a,(x,some a)∈lW ns none t s r none none none none none none d k g→(x,some a)∈lW ns u t s r w1 w2 w3 w4 w5 w6 d k g:=fun x a h=>by
 simp only [lW,List.mem_cons,Prod.mk.injEq,reduceCtorEq,and_false,or_false,false_or,List.not_mem_nil] at h ⊢
 rcases h with h | h | h | h | h | h | h<;>simp only [h,true_and,true_or,or_true]
theorem y9 {ns:List Int} {t r w6 d k g:Option AV}:∀ x a,(x,some a)∈lW ns none t none none none none none none none none d k g→(x,some a)∈lW ns none t none r none none none none none w6 d k g:=fun x a h=>by
 simp only [lW,List.mem_cons,Prod.mk.injEq,reduceCtorEq,and_false,or_false,false_or,List.not_mem_nil] at h ⊢
 rcases h with h | h | h | h | h<;>simp only [h,true_and,true_or,or_true]
theorem z6 {ns:List Int} {t d k g:Option AV} {s:Option AV} {ra:Addr} {l:List AV}:∀ y b,(y,some b)∈lW ns none t none (some (.lst l)) none none none none none none d k g→(y,some b)∈lW ns none t s (some (.ref ra)) none none none none none none d k g∨(b=.lst l∧(y,some (.ref ra))∈lW ns none t s (some (.ref ra)) none none none none none none d k g):=fun y b h=>by
 simp only [lW,List.mem_cons,Prod.mk.injEq,reduceCtorEq,and_false,or_false,false_or,List.not_mem_nil] at h ⊢
 rcases h with h | h | ⟨rfl,h⟩ | h | h | h
 · exact .inl (.inl h)
 · exact .inl (.inr (.inl h))
 · exact .inr ⟨by injection h,by simp⟩
 · exact .inl (.inr (.inr (.inr (.inr (.inl h)))))
 · exact .inl (.inr (.inr (.inr (.inr (.inr (.inl h))))))
 · exact .inl (.inr (.inr (.inr (.inr (.inr (.inr h))))))
noncomputable abbrev cN (T:List Nat) (e:Nat×AV):AV:=.tup [ba T (T.length - e.1),e.2,.lst (mOf e.2)]
theorem oK {T:List Nat} {e:Nat×AV} (h:eT e.2):d7 50 (cN T e):=.tup (n:=49) (aI (.tup (n:=48) (aI .int (aI .int cL))) (aI (gY (by decide) (sL h).2.1) (aI (gY (by decide) (sL h).2.2) cL)))
noncomputable abbrev p5 (rs:List (Nat×AV)) (i:Nat):Option AV:=if i=0 then none else some (rs.getD (i - 1) (0,.none)).2
section
variable {B:a5} {L:Addr} {ns:List Int} {ra:Addr}
theorem xw (hB:IsB B) (ns:List Int) (hns:ns.length≤63):a4 B 12 832 [.obj (ia ns)] [] fun d _=>d=.bool true:=by
 refine qc (ds:=[.obj (ia ns)]) ["script"] (lW ns none none none none none none none none none none none none none) [("marks",none)] (by rw [hB.K];rfl) (by rw [hB.K];kernel_rfl) (EB fun _=>rfl) rfl rfl (fun L=>?_) (hloc:=?_) (hln:=?_) (hcs:=?_) (hcn:=?_) (hck:=?_) (hpn:=?_) (hpk:=?_)
 · dsimp only [b5,List.cons_append,List.nil_append]
   refine aL (σ₁:=⟨lW ns (some lU) none none none none none none none none none none none none,[(L+1,.cell none)]⟩) (g9 (bQ (cg (v:=.ref 808) (by rw [hB.K];kernel_rfl)) (cA (by rw [hB.K];kernel_rfl)) aq (r_J (vu hB _) (lB0 rfl))) (bk (.skip .hit))) ?_
   refine aL (σ₁:=⟨lW ns (some lU) (some (.str [])) none none none none none none none none none none none,[(L+1,.cell none)]⟩) (g9 (eS rfl) (bk (.skip (.skip .hit)))) ?_
   refine aL (σ₁:=⟨lW ns (some lU) (some (.str [])) (some (.int 0)) none none none none none none none none none none,[(L+1,.cell none)]⟩) (g9 dk (bk (.skip (.skip (.skip .hit))))) ?_
   refine dI aq (by decide) fun ra=>⟨_,.skip (.skip (.skip (.skip .hit))),?_⟩
   show bg _ _ (lS ns L ra ⟨[],0,[]⟩ none none none none none none) _
   refine gn (fun σ=>∃ w1 w2 w3 w4 w5 w6,σ=lS ns L ra (dg ((ns.take 10).map iOf) ⟨[],0,[]⟩) w1 w2 w3 w4 w5 w6) ?_ ?_
   · have hN :((ns.take 10).map AV.int).length=((ns.take 10).map iOf).length:=by rw [List.length_map,List.length_map]
     have hall:∀ i∈(ns.take 10).map iOf,i < 24:=fun i hi=>by obtain ⟨n,_,rfl⟩:=List.mem_map.mp hi;exact jz n
     have h10:(ns.take 10).length≤10:=List.length_take_le _ _
     refine jj (N:=((ns.take 10).map AV.int).length) (item:=fun i=>((ns.take 10).map AV.int).getD i .any) (fun i σ=>∃ w1 w2 w3 w4 w5 w6,σ=lS ns L ra (dg (((ns.take 10).map iOf).take i) ⟨[],0,[]⟩) w1 w2 w3 w4 w5 w6)
      (gq (j :=10) (a6 (.head _)) dk (by decide) (nT0 hns (by decide))) (fun xv=>f9) ⟨none,none,none,none,none,none,rfl⟩ (fun σ h=>by rw [hN,List.take_length] at h;exact ⟨rfl,h⟩) ?_
     rintro i loc objs a p hi ⟨w1,w2,w3,w4,w5,w6,e0⟩
     obtain ⟨rfl,rfl⟩:=St.mk.inj e0
     have hi':i < (ns.take 10).length:=by rw [List.length_map] at hi;exact hi
     have hit:((ns.take 10).map AV.int).getD i .any=.int (ns.take 10)[i]:=by rw [List.getD_eq_getElem?_getD,List.getElem?_map,List.getElem?_eq_getElem hi'];rfl
     have hnx:((ns.take 10).map iOf).take (i+1)=((ns.take 10).map iOf).take i++[iOf (ns.take 10)[i]]:=by rw [List.take_add_one,List.getElem?_map,List.getElem?_eq_getElem hi'];rfl
     have hok:=n7 (q:=⟨[],0,[]⟩) (k:=0) ⟨Nat.le_refl _,Nat.le_refl _,Nat.le_refl _⟩ (((ns.take 10).map iOf).take i) fun j hj=>hall j (List.mem_of_mem_take hj)
     have hlen:0+(((ns.take 10).map iOf).take i).length≤10:=by rw [Nat.zero_add];exact nT0 (List.length_take_le' _ _) (by rw [List.length_map];exact h10)
     rw [hit]
     rw [hnx,oM]
     generalize dg (((ns.take 10).map iOf).take i) ⟨[],0,[]⟩=q at hok ⊢
     generalize 0+(((ns.take 10).map iOf).take i).length=kk at hok hlen
     generalize (ns.take 10)[i]=m
     have hu :=qF m
     have hln:=n8 (jz m)
     have hfl:0≤m.fmod 24:=Int.fmod_nonneg_of_pos m (by decide)
     generalize hv:a1 (iOf m)=v at hu hln ⊢
     obtain ⟨pc,td,bh⟩:=v
     refine ⟨⟨lW ns (some lU) (some (.str q.t)) (some (.int q.s)) (some (.ref ra)) (some (.int m)) w2 w3 w4 w5 w6 none none none,(a,.is p)::(ra,.list (q.rs.map aK))::[(L+1,.cell none)]⟩,bU (bk (.skip (.skip (.skip (.skip (.skip .hit)))))),?_⟩
     refine aL (σ₁:=⟨lW ns (some lU) (some (.str q.t)) (some (.int q.s)) (some (.ref ra)) (some (.int m)) (some (.str pc)) (some (.lst (td.map aK))) (some (.str bh)) w5 w6 none none none,(a,.is p)::(ra,.list (q.rs.map aK))::[(L+1,.cell none)]⟩)
      (uB (gv (a6 (.tail _ (.head _))) (fD (a6 (.tail _ (.tail _ (.tail _ (.tail _ (.tail _ (.head _))))))) dk (qN (by decide))) (rZ hfl rfl hu (lB0 rfl))) (bU (bk (.skip (.skip (.skip (.skip (.skip (.skip .hit)))))))) (bU (bk (.skip (.skip (.skip (.skip (.skip (.skip (.skip .hit))))))))) (bU (bk (.skip (.skip (.skip (.skip (.skip (.skip (.skip (.skip .hit)))))))))))  ?_
     obtain ⟨qt,qs,qr⟩:=q
     obtain ⟨ok1,ok2,ok3⟩:=hok
     dsimp only at ok1 ok2 ok3 ⊢
     have hzt:qt.length≤1000:=by omega
     have hzr:(qr.map aK).length≤1000:=by rw [List.length_map];omega
     have hpc:pc.length≤16:=hln.1
     have hbh:bh.length≤1:=hln.2.1
     have htz:(td.map aK).length≤16777216:=by rw [List.length_map];exact nT0 hln.2.2 (by decide)
     have z1 :qt.length+pc.length≤16777216:=nT0 (Nat.add_le_add hzt hpc) (by decide)
     by_cases htd:td=[]
     · subst htd
       refine cE (bu (r7 (kS (pU (a6 (d:=.lst (([]:List (Nat×AV)).map aK)) (.tail _ (.tail _ (.tail _ (.tail _ (.tail _ (.tail _ (.tail _ (.head _))))))))) (lT htz)) rfl) (σ₂:=⟨lW ns (some lU) (some (.str (qt++pc))) (some (.int qs)) (some (.ref ra)) (some (.int m)) (some (.str pc)) (some (.lst (([]:List (Nat×AV)).map aK))) (some (.str bh)) w5 w6 none none none,(a,.is p)::(ra,.list (qr.map aK))::[(L+1,.cell none)]⟩) (bu (oU (a:=.str qt) (.tail _ (.tail _ (.head _))) (a6 (d:=.str pc) (.tail _ (.tail _ (.tail _ (.tail _ (.tail _ (.tail _ (.head _)))))))) (jv z1) (bk (.skip (.skip .hit)))) dM)) dM) (.inl ⟨rfl,_,_,rfl,some (.int m),some (.str pc),some (.lst []),some (.str bh),w5,w6,?_⟩)
       unfold fP
       rw [if_pos rfl]
       rfl
     · have htt:td.map aK≠[]:=fun e=>htd (List.map_eq_nil_iff.mp e)
       have z2:(qt++pc).length+bh.length≤16777216:=by rw [List.length_append];exact nT0 (Nat.add_le_add (Nat.add_le_add hzt hpc) hbh) (by decide)
       have z3:(qt++pc).length≤16777216:=by rw [List.length_append];exact z1
       have hqt:qt.length≤16777216:=nT0 hzt (by decide)
       have hpl:(aW qt qs).length≤2:=f0 qt qs
       have htl:td.length≤3:=hln.2.2
       refine gn (fun σ=>∃ w5 w6,σ=⟨lW ns (some lU) (some (.str (qt++pc++bh))) (some (.int (qt++pc).length)) (some (.ref ra)) (some (.int m)) (some (.str pc)) (some (.lst (td.map aK))) (some (.str bh)) w5 w6 none none none,(a,.is p)::(ra,.list ((qr++aW qt qs++td.map fun e=>(qt.length+e.1,e.2)).map aK))::[(L+1,.cell none)]⟩) (vR (kS (pU (a6 (.tail _ (.tail _ (.tail _ (.tail _ (.tail _ (.tail _ (.tail _ (.head _))))))))) (lT htz)) (by rw [Bool.not_eq_true',List.isEmpty_eq_false_iff];exact htt)) ?_) ?_
       · refine aL (σ₁:=⟨lW ns (some lU) (some (.str qt)) (some (.int qs)) (some (.ref ra)) (some (.int m)) (some (.str pc)) (some (.lst (td.map aK))) (some (.str bh)) w5 w6 none none none,(a,.is p)::(ra,.list ((qr++aW qt qs).map aK))::[(L+1,.cell none)]⟩)
          (hW (bQ (cg (v:=.ref 822) (by rw [hB.K];kernel_rfl)) (cA (by rw [hB.K];kernel_rfl)) (ai (a6 (.tail _ (.tail _ (.head _)))) (ai (a6 (.tail _ (.tail _ (.tail _ (.head _))))) (ai (a6 (.tail _ (.tail _ (.tail _ (.tail _ (.head _)))))) aq)))
           (r_J (a4.ahead (o':=(ra,.list ((qr++aW qt qs).map aK))::[(L+1,.cell none)]) (by rw [List.map_append];exact mA hB hqt ok3 (nT0 hzr (by decide)))) (lB0 rfl)))) ?_
         refine gn (fun σ=>∃ w5 w6,σ=⟨lW ns (some lU) (some (.str qt)) (some (.int qs)) (some (.ref ra)) (some (.int m)) (some (.str pc)) (some (.lst (td.map aK))) (some (.str bh)) w5 w6 none none none,(a,.is p)::(ra,.list ((qr++aW qt qs++td.map fun e=>(qt.length+e.1,e.2)).map aK))::[(L+1,.cell none)]⟩) ?_ ?_
         · refine jj (N:=(td.map aK).length) (item:=fun i=>(td.map aK).getD i .any) (fun i σ=>∃ w5 w6,σ=⟨lW ns (some lU) (some (.str qt)) (some (.int qs)) (some (.ref ra)) (some (.int m)) (some (.str pc)) (some (.lst (td.map aK))) (some (.str bh)) w5 w6 none none none,(a,.is p)::(ra,.list ((qr++aW qt qs++(td.take i).map fun e=>(qt.length+e.1,e.2)).map aK))::[(L+1,.cell none)]⟩)
            (a6 (.tail _ (.tail _ (.tail _ (.tail _ (.tail _ (.tail _ (.tail _ (.head _))))))))) (fun xv=>f9) ⟨w5,w6,by rw [List.take_zero,List.map_nil,List.append_nil]⟩ (fun σ h=>by rw [List.length_map,List.take_length] at h;exact ⟨rfl,h⟩) ?_
           rintro i loc objs b p' hi2 ⟨w5,w6,e0⟩
           obtain ⟨rfl,rfl⟩:=St.mk.inj e0
           have hi3:i < td.length:=by rw [List.length_map] at hi2;exact hi2
           have hit:(td.map aK).getD i .any=.tup [.int (td[i].1:Int),td[i].2]:=by rw [List.getD_eq_getElem?_getD,List.getElem?_map,List.getElem?_eq_getElem hi3];rfl
           have hnx:(td.take (i+1)).map (fun e=>(qt.length+e.1,e.2))=(td.take i).map (fun e=>(qt.length+e.1,e.2))++[(qt.length+td[i].1,td[i].2)]:=by rw [List.take_add_one,List.getElem?_eq_getElem hi3,Option.toList_some,List.map_append];rfl
           have htk:((td.take i).map fun e=>(qt.length+e.1,e.2)).length≤3:=by rw [List.length_map,List.length_take];omega
           rw [hit,hnx]
           generalize (td.take i).map (fun e=>(qt.length+e.1,e.2))=tk at htk ⊢
           generalize td[i].1=stp
           generalize td[i].2=tkn
           have hz4:((qr++aW qt qs++tk).map aK).length≤16777216:=by
            rw [List.length_map] at hzr
            simp only [List.length_map,List.length_append]
            omega
           refine ⟨⟨lW ns (some lU) (some (.str qt)) (some (.int qs)) (some (.ref ra)) (some (.int m)) (some (.str pc)) (some (.lst (td.map aK))) (some (.str bh)) (some (.int stp)) (some tkn) none none none,(b,.is p')::(a,.is p)::(ra,.list ((qr++aW qt qs++tk).map aK))::[(L+1,.cell none)]⟩,
            vT (bU (bk (.skip (.skip (.skip (.skip (.skip (.skip (.skip (.skip (.skip .hit))))))))))) (bU (bk (.skip (.skip (.skip (.skip (.skip (.skip (.skip (.skip (.skip (.skip .hit)))))))))))),?_⟩
           refine cE (bu (hW (iu (a6 (.tail _ (.tail _ (.tail _ (.tail _ (.head _)))))) (qd (.tail _ (.tail _ (.head _))) PySem.F.slot_list_append PySem.F.type_list_append) c9
            (ai (fo (ai (fD (bQ (aM PyProof.Rows.Boot.«len» (by rw [hB.K];kernel_rfl)) c9 (ai (a6 (.tail _ (.tail _ (.head _)))) aq) (hX hqt)) (a6 (d:=.int stp) (.tail _ (.tail _ (.tail _ (.tail _ (.tail _ (.tail _ (.tail _ (.tail _ (.tail _ (.head _))))))))))) na) (ai (a6 (d:=tkn) (.tail _ (.tail _ (.tail _ (.tail _ (.tail _ (.tail _ (.tail _ (.tail _ (.tail _ (.tail _ (.head _))))))))))))  aq)) (lB0 rfl)) aq)
            (kP (l:=(qr++aW qt qs++tk).map aK) (.tail (.tail .head)) hz4))) dM) (.inl ⟨rfl,_,_,rfl,some (.int stp),some tkn,?_⟩)
           have e5:((qr++aW qt qs++(tk++[(qt.length+stp,tkn)])).map aK)=(qr++aW qt qs++tk).map aK++[.tup [.int ((qt.length:Int)+(stp:Int)),tkn]]:=by
            rw [←List.append_assoc,List.map_append];rfl
           rw [e5]
         · rintro σ ⟨w5,w6,rfl⟩
           refine aL (σ₁:=⟨lW ns (some lU) (some (.str (qt++pc))) (some (.int qs)) (some (.ref ra)) (some (.int m)) (some (.str pc)) (some (.lst (td.map aK))) (some (.str bh)) w5 w6 none none none,(a,.is p)::(ra,.list ((qr++aW qt qs++td.map fun e=>(qt.length+e.1,e.2)).map aK))::[(L+1,.cell none)]⟩)
            (oU (a:=.str qt) (.tail _ (.tail _ (.head _))) (a6 (d:=.str pc) (.tail _ (.tail _ (.tail _ (.tail _ (.tail _ (.tail _ (.head _)))))))) (jv z1) (bk (.skip (.skip .hit)))) ?_
           refine aL (σ₁:=⟨lW ns (some lU) (some (.str (qt++pc))) (some (.int (qt++pc).length)) (some (.ref ra)) (some (.int m)) (some (.str pc)) (some (.lst (td.map aK))) (some (.str bh)) w5 w6 none none none,(a,.is p)::(ra,.list ((qr++aW qt qs++td.map fun e=>(qt.length+e.1,e.2)).map aK))::[(L+1,.cell none)]⟩)
            (g9 (bQ (aM PyProof.Rows.Boot.«len» (by rw [hB.K];kernel_rfl)) c9 (ai (a6 (.tail _ (.tail _ (.head _)))) aq) (hX z3)) (bk (.skip (.skip (.skip .hit))))) ?_
           refine cE (bu (oU (a:=.str (qt++pc)) (.tail _ (.tail _ (.head _))) (a6 (d:=.str bh) (.tail _ (.tail _ (.tail _ (.tail _ (.tail _ (.tail _ (.tail _ (.tail _ (.head _)))))))))) (jv z2) (bk (.skip (.skip .hit)))) dM) ⟨rfl,w5,w6,rfl⟩
       · rintro σ ⟨w5,w6,rfl⟩
         refine lc (.inl ⟨rfl,_,_,rfl,some (.int m),some (.str pc),some (.lst (td.map aK)),some (.str bh),w5,w6,?_⟩)
         unfold fP
         rw [if_neg htd]
   · rintro σ ⟨w1,w2,w3,w4,w5,w6,rfl⟩
     have hall:∀ i∈(ns.take 10).map iOf,i < 24:=fun i hi=>by obtain ⟨n,_,rfl⟩:=List.mem_map.mp hi;exact jz n
     have hok:=n7 (q:=⟨[],0,[]⟩) (k:=0) ⟨Nat.le_refl _,Nat.le_refl _,Nat.le_refl _⟩ _ hall
     have h10:0+((ns.take 10).map iOf).length≤10:=by rw [Nat.zero_add,List.length_map];exact List.length_take_le _ _
     have hfr:=o4 _ [] [] [] hall
     have hro:=uM _ [] hall
     have hrun:=nH _ [] hall rfl
     have hmem:=pM hall
     generalize (ns.take 10).map iOf=is at hok h10 hfr hro hrun hmem ⊢
     change (dg is ⟨[],0,[]⟩).t=c4 (is.map a1)∧rA (dg is ⟨[],0,[]⟩)=(eA [] is).map (dK (c4 (is.map a1)).length) at hfr
     change ∃ n,run n .data .none (c4 (is.map a1))=some (eA [] is) at hrun
     generalize dg is ⟨[],0,[]⟩=q at hok hfr ⊢
     obtain ⟨T,s,rs⟩:=q
     obtain ⟨hT0,hrw⟩:=hfr
     obtain ⟨n,hrun⟩:=hrun
     obtain ⟨ok1,ok2,ok3⟩:=hok
     dsimp only at hT0 ok1 ok2 ok3 ⊢
     generalize c4 (is.map a1)=T' at hT0 hrw hrun hmem
     subst hT0
     generalize eA [] is=R at hro hrun hrw
     have hTl:T.length≤1000:=by omega
     have hTx:zv T:=xb hTl hmem
     have hPl:=hTx.plain
     have hpl2:(aW T s).length≤2:=f0 T s
     have hRl:R.length≤1000:=by
      have :=congrArg List.length hrw
      unfold rA at this
      rw [List.length_append,List.length_map] at this
      dsimp only at this
      omega
     have hrz:(rs.map aK).length≤100000:=by rw [List.length_map];omega
     have hTz:T.length≤16777216:=nT0 hTl (by decide)
     clear hall hmem ok1 ok2 h10
     refine aL (σ₁:=⟨lW ns (some lU) (some (.str T)) (some (.int s)) (some (.ref ra)) w1 w2 w3 w4 w5 w6 none none none,[(ra,.list ((R.map (dK T.length)).map aK)),(L+1,.cell none)]⟩)
      (hW (bQ (cg (v:=.ref 822) (by rw [hB.K];kernel_rfl)) (cA (by rw [hB.K];kernel_rfl)) (ai (a6 (.tail _ (.tail _ (.head _)))) (ai (a6 (.tail _ (.tail _ (.tail _ (.head _))))) (ai (a6 (.tail _ (.tail _ (.tail _ (.tail _ (.head _)))))) aq)))
       (r_J (by rw [←hrw];unfold rA;rw [List.map_append];exact mA hB hTz ok3 hrz) (lB0 rfl)))) ?_
     refine iB (loc':=lW ns none (some (.str T)) (some (.int s)) (some (.ref ra)) none none none none none none none none none) ?_ vI nu
     refine uu (loc':=lW ns none (some (.str T)) none (some (.lst ((R.map (dK T.length)).map aK))) none none none none none none none none none) ?_ z6 nu
     clear hrw hrz hpl2 ok3
     have hrl:((R.map (dK T.length)).map aK).length=R.length:=by simp
     have hri:∀ i (hi:i < R.length),((R.map (dK T.length)).map aK).getD i .any=.tup [.int ((T.length - R[i].1:Nat):Int),R[i].2]:=fun i hi=>by rw [List.getD_eq_getElem?_getD,List.getElem?_map,List.getElem?_map,List.getElem?_eq_getElem hi];rfl
     generalize (R.map (dK T.length)).map aK=rl at hrl hri ⊢
     have hml:∀ k,(aN T k).length=k+1:=fun k=>by unfold aN;simp
     refine aL (σ₁:=⟨lW ns none (some (.str T)) none (some (.lst rl)) none none none none none none none none none,[(L+1,.cell (some (.lst (aN T T.length))))]⟩) (g9 (uy (cg (v:=.ref 815) (by rw [hB.K];kernel_rfl)) (cA (by rw [hB.K];kernel_rfl)) (ai (a6 (.tail _ (.tail _ (.head _)))) aq) (sI hB hPl) (lB0 rfl)) (ym rfl Chg.head)) ?_
     have hN:rl.length=(R.map (cN T)).length:=by rw [hrl,List.length_map]
     refine uh (N:=rl.length) (d:=.lst rl) ["place","token"] (fun _=>true) (fun i=>(R.map (cN T)).getD i .any) (by rw [hrl];exact nT0 hRl (by decide)) (a6 (.tail _ (.tail _ (.tail _ (.tail _ (.head _)))))) (fun xv=>f9) ?_ ?_ rfl rfl
     · intro i hi
       rw [hrl] at hi
       have e2:(R.map (cN T)).getD i .any=cN T R[i]:=by rw [List.getD_eq_getElem?_getD,List.getElem?_map,List.getElem?_eq_getElem hi];rfl
       have hr:=hro _ (List.getElem_mem hi)
       rw [hri i hi,e2]
       generalize R[i]=e at hr ⊢
       have hp:T.length - e.1≤T.length:=Nat.sub_le _ _
       have hmo:=(sL hr).1 B hB
       exact ⟨fun C p q=>⟨[("place",some (.int ((T.length - e.1:Nat):Int))),("token",some e.2)],[("place",some (.int ((T.length - e.1:Nat):Int))),("token",some e.2)],vT (bU (bk .hit)) (bU (bk (.skip .hit))),jo,fun _=>
        fo (ai (gv (qv rfl (.tail _ (.tail _ (.head _)))) (a6 (.head _)) (wh (k:=T.length - e.1) (hG hp) (by rw [hml];exact Nat.lt_of_le_of_lt hTl (lB0 rfl)))) (ai (a6 (.tail _ (.head _))) (ai (bQ (cg (v:=.ref 827) (by rw [hB.K];kernel_rfl)) (cA (by rw [hB.K];kernel_rfl)) (ai (a6 (.tail _ (.head _))) aq) (r_J (hmo _) (lB0 rfl))) aq))) (lB0 rfl)⟩⟩
     · intro D
       rw [hN,cW]
       refine ⟨_,bk (.skip (.skip (.skip (.skip (.skip (.skip (.skip (.skip (.skip (.skip (.skip (.hit)))))))))))),?_⟩
       refine iB (loc':=lW ns none (some (.str T)) none none none none none none none none (some (.ref D)) none none) ?_ y9 nu
       refine pE (m:=6) (n':=10) (cg (v:=.ref 762) (by rw [hB.K];kernel_rfl)) (cA (by rw [hB.K];kernel_rfl)) (ai (a6 (.tail _ (.tail _ (.head _)))) aq) (by rw [hB.K];kernel_rfl) (by rw [hB.K];kernel_rfl) (by rw [hB.K];kernel_rfl) (fun x dx=>uk hB) rfl (by decide) ?_
       rintro tk kdx _ _ ⟨rfl,st,dx,tx',tdx,er',lf,rfl⟩
       refine ⟨rfl,_,(.skip (.skip (.skip (.skip (.skip (.skip (.skip (.skip (.skip (.skip (.skip (.skip (.hit))))))))))))),?_⟩
       have hm1:(max 1 (T.length:Int))≠0:=by omega
       have hf0:0≤((ns.take 10).sum).fmod (max 1 (T.length:Int)):=Int.fmod_nonneg_of_pos _ (by omega)
       have hf1:((ns.take 10).sum).fmod (max 1 (T.length:Int)) < max 1 (T.length:Int):=Int.fmod_lt_of_pos _ (by omega)
       obtain ⟨b,q,hOn,hrd⟩:=pC (st:=st) (dx:=dx) (tx:=tx') (tdx:=tdx) (er:=er') (N:=1+((ns.take 10).sum).fmod (max 1 (T.length:Int))) hB hPl (by omega) (by omega)
       refine aL (σ₁:=⟨lW ns none (some (.str T)) none none none none none none none none (some (.ref D)) (some (.ref tk)) none,oS st dx tx' tdx er' T q ((tk,.inst 762 kdx (rO st 304 tk lf .none))::[(D,.list (R.map (cN T))),(L+1,.cell (some (.lst (aN T T.length))))])⟩)
        (hW (iu (zJ (a6 (.tail _ (.tail _ (.tail _ (.tail _ (.tail _ (.tail _ (.tail _ (.tail _ (.tail _ (.tail _ (.tail _ (.tail _ (.head _)))))))))))))) (xk (d:=.ref st) (.tail _ (.tail _ (.tail _ (.head _)))) .hit (by rw [hB.K];kernel_rfl) rfl)) (jr (g:=141) (.head _) rfl (by rw [hB.K];kernel_rfl)) (cA (by rw [hB.K];kernel_rfl))
         (ai (fD (dk (i:=1)) (fD (bQ (aM PyProof.Rows.Boot.«sum» (by rw [hB.K];kernel_rfl)) c9 (ai (gq (j:=10) (a6 (.head _)) dk (by decide) (nT0 hns (by decide))) aq) CS) (bQ (aM PyProof.Rows.Boot.«max» (by rw [hB.K];kernel_rfl)) c9 (ai (dk (i:=1)) (ai (bQ (aM PyProof.Rows.Boot.«len» (by rw [hB.K];kernel_rfl)) c9 (ai (a6 (.tail _ (.tail _ (.head _)))) aq) (hX hTz)) aq)) rR) (qN hm1)) na) aq)
         (r_J (hrd _) (lB0 rfl)))) ?_
       refine dI aq (by decide) fun G=>⟨_,(.skip (.skip (.skip (.skip (.skip (.skip (.skip (.skip (.skip (.skip (.skip (.skip (.skip (.hit)))))))))))))),?_⟩
       refine mW (objs':=oS st dx tx' tdx er' T q [(tk,.inst 762 kdx (rO st 304 tk lf .none))]++[(G,.list []),(D,.list (R.map (cN T))),(L+1,.cell (some (.lst (aN T T.length))))]) (rest:=[]) (by rw [List.append_nil];exact (List.perm_middle (l₁:=[_,_,_,_])).symm) ?_
       refine oN (m:=6) (YJt st dx tx' tdx er' tk kdx lf T ng) (RJt st dx tx' tdx er' tk kdx lf T (OnB T [])) (R.map (m6 T)) (fun i=>lW ns none (some (.str T)) none none none none none none none (p5 R i) (some (.ref D)) (some (.ref tk)) (some (.ref G)))
        (fun i=>[(G,.list ((R.map (cN T)).take i)),(D,.list (R.map (cN T))),(L+1,.cell (some (.lst (aN T T.length))))]) (lB0 rfl) (a6 (.tail _ (.tail _ (.tail _ (.tail _ (.tail _ (.tail _ (.tail _ (.tail _ (.tail _ (.tail _ (.tail _ (.tail _ (.head _)))))))))))))) (tE hB (fun _ _ _=>rfl) (fun qa=>zo hB (Aq hB hTx) n .data .none T q .none _ R hrun hOn thN)) ?_ ?_
       · intro i x d gobjs a p hx z9;refine x62 z9 ?_;clear z9;rintro qa q f cur ks rest' hg rfl
         obtain ⟨e,he,rfl⟩:∃ e,R[i]? =some e∧x=m6 T e:=by
          rw [List.getElem?_map] at hx
          cases h:R[i]? with
          | none=>rw [h] at hx;contradiction
          | some e=>rw [h] at hx;exact ⟨e,rfl,(Option.some.inj hx).symm⟩
         have hg':AV.tup [ba T (T.length - e.1),e.2]=.tup [gG q,d]:=hg
         injection hg' with h1
         injection h1 with h1 h2
         injection h2 with h2 _
         subst h2
         have hr:=hro _ (List.mem_of_getElem? he)
         have hp:=wq (B:=B) hB (dx:=dx) (tx:=tx') (tdx:=tdx) (er:=er') (st:=st) (t:=T) h1.symm [(a,.is p),(G,.list ((R.map (cN T)).take i)),(D,.list (R.map (cN T))),(L+1,.cell (some (.lst (aN T T.length))))] (tkO st f tk kdx lf qa cur::(qa,.list ks)::rest')
         have hmo:=(sL hr).1 B hB ([(a,.is p),(G,.list ((R.map (cN T)).take i)),(D,.list (R.map (cN T))),(L+1,.cell (some (.lst (aN T T.length))))]++tS st dx tx' tdx er' tk kdx lf qa T q f cur ks rest')
         have htk:((R.map (cN T)).take (i+1))=(R.map (cN T)).take i++[.tup [ba T (T.length - e.1),e.2,.lst (mOf e.2)]]:=by
          rw [List.take_add_one,List.getElem?_map,he];rfl
         have hte:p5 R (i+1)=some e.2:=by unfold p5;rw [if_neg (Nat.succ_ne_zero i),Nat.add_sub_cancel,List.getD_eq_getElem?_getD,he];rfl
         have hsz:((R.map (cN T)).take i).length≤16777000:=by rw [List.length_take,List.length_map];omega
         refine ⟨⟨lW ns none (some (.str T)) none none none none none none none (some e.2) (some (.ref D)) (some (.ref tk)) (some (.ref G)),(a,.is p)::(G,.list ((R.map (cN T)).take i))::(D,.list (R.map (cN T)))::(L+1,.cell (some (.lst (aN T T.length))))::tS st dx tx' tdx er' tk kdx lf qa T q f cur ks rest'⟩,bU (bk (.skip (.skip (.skip (.skip (.skip (.skip (.skip (.skip (.skip (.skip (.hit)))))))))))),?_⟩
         rw [htk,hte]
         clear hx he hg htk hte h1 hTx hPl hTl hri hml hN hns hro hr hrun hOn hrd
         generalize (R.map (cN T)).take i=gl at hp hmo hsz ⊢
         generalize R.map (cN T)=dl at hp hmo ⊢
         generalize ba T (T.length - e.1)=mk at hp ⊢
         generalize mOf e.2=mo at hmo ⊢
         generalize e.2=tk' at hp hmo ⊢
         generalize aN T T.length=ml at hp hmo ⊢
         exact aE [tk,st,tx',er',qa,G,D,L+1,a] ⟨dW ns none (some (.av (.str T))) none none none none none none none (some (.av tk')) (some (.slot 6)) (some (.slot 0)) (some (.slot 5)),(8,.ao (.is p))::(5,.list gl [])::(6,.list dl [])::(7,.cell (some (.av (.lst ml))))::dTS dx tdx kdx lf T q f (.av cur) ks [] [],rest'⟩ ⟨dW ns none (some (.av (.str T))) none none none none none none none (some (.av tk')) (some (.slot 6)) (some (.slot 0)) (some (.slot 5)),(8,.ao (.is p))::(5,.list gl [.av (.tup [mk,tk',.lst mo])])::(6,.list dl [])::(7,.cell (some (.av (.lst ml))))::dTS dx tdx kdx lf T q f (.av cur) ks [] [],rest'⟩ [.call 0 (.av mk) ((8,.ao (.is p))::(5,.list gl [])::(6,.list dl [])::(7,.cell (some (.av (.lst ml))))::dTS dx tdx kdx lf T q f (.av cur) ks [] []) rest' 2,.call 0 (.av (.lst mo)) ((8,.ao (.is p))::(5,.list gl [])::(6,.list dl [])::(7,.cell (some (.av (.lst ml))))::dTS dx tdx kdx lf T q f (.av cur) ks [] []) rest' 2] .next (pxc (cl:=[("marks",7)]) hB (wj (by kernel_rfl) rfl)) (_root_.Mine.qa (_root_.Mine.qa (_root_.Mine.qa trivial hp) hmo) (DU hsz))
       · intro _ z9;refine x62 z9 ?_;clear z9;rintro qa q f cur ks rest' hq rfl
         rw [List.length_map,←show (R.map (cN T)).length=R.length from List.length_map _,List.take_length]
         have hp:=wq (B:=B) hB (dx:=dx) (tx:=tx') (tdx:=tdx) (er:=er') (st:=st) (t:=T) (show gG q=ba T T.length from mR hq) [(G,.list (R.map (cN T))),(D,.list (R.map (cN T))),(L+1,.cell (some (.lst (aN T T.length))))] (tkO st f tk kdx lf qa cur::(qa,.list ks)::rest')
         have hf:∀ d∈R.map (cN T),d7 50 d:=fun d hd=>by
          refine x12 (List.mem_map.mp hd) ?_;rintro e he rfl
          exact oK (hro e he)
         have hmg:=hG (T:=T) (Nat.le_refl T.length)
         have hmz:(aN T T.length).length≤16777000:=by rw [hml];exact Nat.lt_of_le_of_lt hTl (lB0 rfl)
         clear hTx hPl hTl hri hml hN hns hro hrun hOn hrd hq
         refine iB (loc':=lW ns none (some (.str T)) none none none none none none none none (some (.ref D)) (some (.ref tk)) (some (.ref G))) ?_ vI nu
         generalize R.map (cN T)=dl at hp hf ⊢
         generalize aN T T.length=ml at hp hmg hmz ⊢
         unfold ba at hp hmg
         refine cE (fJ (fS (vX (mU (ri (a6 (.tail _ (.tail _ (.tail _ (.tail _ (.tail _ (.tail _ (.tail _ (.tail _ (.tail _ (.tail _ (.tail _ (.tail _ (.tail _ (.head _))))))))))))))) (a6 (.tail _ (.tail _ (.tail _ (.tail _ (.tail _ (.tail _ (.tail _ (.tail _ (.tail _ (.tail _ (.tail _ (.head _))))))))))))) (pP (l:=dl) (.head _) (.tail _ (.head _)) hf)) (mV (ri (jU (d:=(.tup [.int ((T.take T.length).count 10+1),.int (bq 0 (T.take T.length))])) [tk,st,tx',er',qa,G,D,L+1] ⟨dW ns none (some (.av (.str T))) none none none none none none none none (some (.slot 6)) (some (.slot 0)) (some (.slot 5)),(5,.list dl [])::(6,.list dl [])::(7,.cell (some (.av (.lst ml))))::dTS dx tdx kdx lf T q f (.av cur) ks [] [],rest'⟩ ⟨dW ns none (some (.av (.str T))) none none none none none none none none (some (.slot 6)) (some (.slot 0)) (some (.slot 5)),(5,.list dl [])::(6,.list dl [])::(7,.cell (some (.av (.lst ml))))::dTS dx tdx kdx lf T q f (.av cur) ks [] [],rest'⟩ [.call 0 (.av (.tup [.int ((T.take T.length).count 10+1),.int (bq 0 (T.take T.length))])) ((5,.list dl [])::(6,.list dl [])::(7,.cell (some (.av (.lst ml))))::dTS dx tdx kdx lf T q f (.av cur) ks [] []) rest' 2] (.av (.tup [.int ((T.take T.length).count 10+1),.int (bq 0 (T.take T.length))])) (pxc (cl:=[("marks",7)]) hB (wj (by kernel_rfl) rfl)) (_root_.Mine.qa trivial hp)) (gv (qv rfl (.tail _ (.tail _ (.head _)))) (bQ (aM PyProof.Rows.Boot.«len» (by rw [hB.K];kernel_rfl)) c9 (ai (a6 (.tail _ (.tail _ (.head _)))) aq) (hX hTz)) (wh (k:=T.length) hmg hmz)) (pW (i:=(T.take T.length).count 10+1) (j:=bq 0 (T.take T.length)) (k:=(T.take T.length).count 10+1) (m:=bq 0 (T.take T.length))))))))) ⟨_,rfl,?_⟩
         simp
 · intro x d hm
   simp at hm
   obtain ⟨rfl,rfl⟩:=hm
   exact ⟨by kernel_rfl,by simp⟩
 · exact bf (by kernel_rfl)
 · intro L;rfl
 · exact bf (by kernel_rfl)
 · intro x d hm
   simp at hm
   obtain ⟨rfl,rfl⟩:=hm
   exact ⟨by kernel_rfl,by show ¬ (("marks":Str)∈(["script"]:List Str));decide⟩
 · decide
 · intro x hx
   simp at hx
   subst hx
   exact .inl (by kernel_rfl)
end
end
section
theorem EY:PySem.Challenge.rw_te0034_04.Holds:=sK fun d kwd hdn=>(by
 intro w s₀ s₁ mg mb G Y fa o pm cd doc dV kV ho hdd hcd hD hmg hg args vals as hpre hlay hrd hwl hlo
 have KX:=kIn_of Y
 refine Ground.open G ?_
 intro T B D TE TW
 wrow_args hpre hlay hrd hwl hlo
 refine enter_call ?_
 refine vg (n:=12) (fl:=832) KX hmg T.g T.b T.builtins T.nolimit (by refine hdn▸?_;kernel_rfl) ‹_› ‹_› hg (by decide) (fun B e1 e2 e3=>?_) fun s' hk hos hb=>?_
 · refine xw (B:=B) ⟨by rw [e3,←e2]⟩ _ ?_
   omega
 · refine ⟨.inl ⟨_,_,[],rfl,fun _=>rfl,ReadsW.bool true,?_,fun _=>⟨List.nodup_nil,fun _ hm=>(nomatch hm)⟩⟩,.of_keep hk,hos,hb⟩
   first | rfl | wrow_post)
end
end Mine

theorem PySem.Challenge.cw_te0034_04_holds : PySem.Challenge.rw_te0034_04.Holds := by
 exact Mine.EY
