import PyProof.Rows.All
import Wide.All
import OpenK.AllK
import Wide.FinOn
import KE.KEqDict
import Lean
import PySem.Challenge.RW_te0034_02
open PySem PySem.W PySem.Calls PyProof.Rows
set_option Elab.async false
set_option maxRecDepth 100000
set_option maxHeartbeats 8000000
set_option linter.all false
set_option compiler.extract_closed false
set_option genSizeOf false
namespace Mine
set_option genInjectivity false
abbrev bm:=@Option.eq_none_iff_forall_ne_some
abbrev bo:=@List.eq_nil_of_length_eq_zero
abbrev bp:=@List.getD_eq_getElem?_getD
abbrev bq:=@List.getElem?_eq_getElem
abbrev bt:=@List.takeWhile_sublist
abbrev bu:=@Option.map_eq_some_iff
abbrev bw:=@Heap.get?_push_of_some
abbrev bx:=@List.length_singleton
abbrev bz:=@List.mem_append_right
abbrev bA:=@List.perm_append_comm
abbrev bB:=@List.mem_append_left
abbrev bE:=@Heap.get?_push_size
abbrev bF:=@List.takeWhile_cons
abbrev bG:=@Nat.add_le_add_left
abbrev bH:=@List.dropWhile_cons
abbrev bL:=@List.mem_singleton
abbrev bM:=@List.length_append
abbrev bN:=@Bool.false_ne_true
abbrev bO:=@List.nodup_append
abbrev bP:=@List.getElem?_map
abbrev bQ:=@Bool.eq_false_iff
abbrev bS:=@List.append_assoc
abbrev bT:=@List.getElem_mem
abbrev bU:=@Nat.le_add_right
abbrev bV:=@List.prefix_refl
abbrev bX:=@Nat.succ_le_succ
abbrev bY:=@List.length_cons
abbrev bZ:=@beq_self_eq_true
abbrev c7:=@List.cons_append
abbrev c8:=@List.length_drop
abbrev c9:=@List.drop_length
abbrev cc:=@decide_eq_false
abbrev cf:=@List.mem_append
abbrev cg:=@List.nodup_cons
abbrev ci:=@List.map_append
abbrev cm:=@List.append_nil
abbrev cq:=@List.length_map
abbrev cr:=@decide_eq_true
abbrev cu:=@wpAny_holding
abbrev cv:=@List.map_cons
abbrev cw:=@List.mem_map
abbrev cx:=@Int.ofNat_lt
abbrev cy:=@Nat.le_of_lt
abbrev cz:=@Heap.lt_size
abbrev cA:=@Nat.zero_le
abbrev cB:=@Nat.le_refl
abbrev cC:=@wpAny_bind
abbrev cD:=@wpAny_mono
abbrev cE:=@wpAny_pure
abbrev cF:=@eq_of_beq
abbrev cG:=@congrArg
abbrev cH:=@if_neg
abbrev cI:=@absurd
abbrev cJ:=@if_pos
abbrev cK:=List Nat
abbrev cM:=List Stmt
abbrev cN:=List Expr
abbrev cO:=List Value
abbrev cP:=List Addr
abbrev cQ:=List Str
abbrev cT:=Option Value
abbrev cU:=List (cK×cK)
abbrev cX:=List (Str×Value)
abbrev cY:=Array (cT)
abbrev d8:=List (cK)
theorem dP {α:Type u} {b:α} {l:List α}:b∈b::l:=.head _
theorem iV {α:Type u} {a0 b:α} {l:List α}:b∈a0::b::l:=.tail _ (.head _)
theorem qf {α:Type u} {a0 a1 b:α} {l:List α}:b∈a0::a1::b::l:=.tail _ (.tail _ (.head _))
theorem Bu {α:Type u} {a0 a1 a2 b:α} {l:List α}:b∈a0::a1::a2::b::l:=.tail _ (.tail _ (.tail _ (.head _)))
theorem Bz {α:Type u} {a0 a1 a2 a3 b:α} {l:List α}:b∈a0::a1::a2::a3::b::l:=.tail _ (.tail _ (.tail _ (.tail _ (.head _))))
theorem QO {α:Type u} {a0 a1 a2 a3 a4 b:α} {l:List α}:b∈a0::a1::a2::a3::a4::b::l:=.tail _ (.tail _ (.tail _ (.tail _ (.tail _ (.head _)))))
theorem NX {α:Type u} {a0 a1 a2 a3 a4 a5 b:α} {l:List α}:b∈a0::a1::a2::a3::a4::a5::b::l:=.tail _ (.tail _ (.tail _ (.tail _ (.tail _ (.tail _ (.head _))))))
theorem Qw {α:Type u} {a0 a1 a2 a3 a4 a5 a6 a7 a8 a9 b:α} {l:List α}:b∈a0::a1::a2::a3::a4::a5::a6::a7::a8::a9::b::l:=.tail _ (.tail _ (.tail _ (.tail _ (.tail _ (.tail _ (.tail _ (.tail _ (.tail _ (.tail _ (.head _))))))))))
theorem No {α:Type u} {a0 a1 a2 a3 a4 a5 a6 a7 a8 a9 a10 a11 b:α} {l:List α}:b∈a0::a1::a2::a3::a4::a5::a6::a7::a8::a9::a10::a11::b::l:=.tail _ (.tail _ (.tail _ (.tail _ (.tail _ (.tail _ (.tail _ (.tail _ (.tail _ (.tail _ (.tail _ (.tail _ (.head _))))))))))))
theorem Oc {α:Type u} {a0 a1 a2 a3 a4 a5 a6 a7 a8 a9 a10 a11 a12 a13 b:α} {l:List α}:b∈a0::a1::a2::a3::a4::a5::a6::a7::a8::a9::a10::a11::a12::a13::b::l:=.tail _ (.tail _ (.tail _ (.tail _ (.tail _ (.tail _ (.tail _ (.tail _ (.tail _ (.tail _ (.tail _ (.tail _ (.tail _ (.tail _ (.head _))))))))))))))
theorem eP {a b:Nat} (h:Nat.ble a b=true):a<=b:=Nat.le_of_ble_eq_true h
theorem dN {a b c:Nat} (h:a<=b) (k:b<=c):a<=c:=Nat.le_trans h k
theorem fG {α:Type u} {a b:α} {l:List α} (h:a∈b::l):a=b\/a∈l:=List.mem_cons.mp h
theorem sv {a b c:Nat} (h:a < b) (k:b<=c):a < c:=Nat.lt_of_lt_of_le h k
noncomputable section
set_option genCtorIdx false
def pE (l:Array Lean.Syntax):Lean.Syntax:=.node .none `Lean.Parser.Tactic.tacticSeq #[.node .none `Lean.Parser.Tactic.tacticSeq1Indented #[.node .none `null l]]
def HZ:Lean.Syntax:=.node .none `Lean.Parser.Tactic.tacticRfl #[.atom .none "rfl"]
def B8:Lean.Syntax:=.node .none `Lean.Parser.Term.hole #[.atom .none "_"]
def QS (l:Array Lean.Syntax):Lean.Syntax:=.node .none `Lean.Parser.Tactic.intro #[.atom .none "intro",.node .none `null l]
def bR:Lean.Syntax:=pE #[HZ]
def bK:Lean.Syntax:=pE #[.node .none `tacticKernel_rfl #[.atom .none "kernel_rfl"]]
def bW:Lean.Syntax:=pE #[.node .none `Lean.Parser.Tactic.withUnfoldingAll #[.atom .none "with_unfolding_all",bR]]
def bI:Lean.Syntax:=pE #[QS #[B8],.atom .none ";",HZ]
def bJ:Lean.Syntax:=pE #[QS #[B8,B8],.atom .none ";",HZ]
def bD:Lean.Syntax:=pE #[.node .none `Lean.Parser.Tactic.decide #[.atom .none "decide",.node .none `Lean.Parser.Tactic.optConfig #[.node .none `null #[]]]]
def bC:Lean.Syntax:=pE #[.node .none `Lean.Parser.Tactic.Conv.conv #[.atom .none "conv",.node .none `null #[],.node .none `null #[],.atom .none "=>",.node .none `Lean.Parser.Tactic.Conv.convSeq #[.node .none `Lean.Parser.Tactic.Conv.convSeq1Indented #[.node .none `null #[.node .none `Lean.Parser.Tactic.Conv.lhs #[.atom .none "lhs"],.atom .none ";",.node .none `Lean.Parser.Tactic.Conv.whnf #[.atom .none "whnf"]]]]]]
section
variable {α:Type} {p:Program}
section
theorem sk (t:Thread):through t=(endAt 0 t).isSome:=by
 cases t with
 | mk c1 code pi st=>
  induction st using List.casesOn with
  | cons fr st=>rfl
  | nil=>
   cases c1 with
   | pure x=>rcases x with _ | _<;>rfl
   | _=>rfl
abbrev xT:=Flow×Shared×PySem.Code×PySem.Pos
noncomputable abbrev Cj (X:Option xT) (o:Option Flow) (t:Thread) (s:Shared):Option xT:=Option.casesOn o X λf=>some (f,s,t.code,t.pos)
noncomputable abbrev Cq (Y:Option Shared) (b:Bool) (s:Shared):Option Shared:=Bool.casesOn b Y (some s)
noncomputable abbrev FD (k:Bool) (X:Option α):Option α:=Bool.casesOn k none X
noncomputable abbrev FM (x:Step) (S:Shared->Thread->Option α):Option α:=Step.casesOn x S λy y=>none
theorem Aj {o:Option Flow} {b k:Bool} {x:Step} {S:Shared->Thread->Option xT} {T:Shared->Thread->Option Shared} {t:Thread} {s:Shared} {r:xT} (e:b=o.isSome) (ih:∀ s t,S s t=some r->T s t=some r.2.1):
 Cj (FD k (FM x S)) o t s=some r->Cq (FD k (FM x T)) b s=some r.2.1:=by
 subst e
 induction o using Option.casesOn with
 | some g=>exact λh=>cG (λz:xT=>some z.2.1) (Option.some.inj h)
 | none=>
  induction k using Bool.casesOn with
  | false=>exact nofun
  | true=>
   induction x using Step.casesOn with
   | halt=>exact nofun
   | go s t=>exact ih s t
theorem vw {tb:String->Option Builtin} {w:World} {n4:Nat} {ann:cT} {r:xT} (n:Nat):∀ (s:Shared) (t:Thread),segRun tb p w n4 ann 0 n s t=some r->topRun tb p w n4 ann n s t=some r.2.1:=by
 induction n with
 | zero=>exact λy y h=>nomatch h
 | succ n ih=>
  intro s t;exact Eq.mp (by kernel_rfl) (Aj (o:=endAt 0 t) (b:=through t) (k:=stepOk n4 ann t) (x:=step (denote tb) p w s t) (s:=s) (t:=t) (sk t) ih)
def tE (P:Params):BT:=
 .node (boot_o_0 P) (.node (boot_o_1 P) (.node (boot_o_3 P) (.node (boot_o_7 P) .nil .nil) .nil) (.node (boot_o_5 P) (.node (boot_o_9 P) .nil .nil) .nil))
  (.node (boot_o_2 P) (.node (boot_o_4 P) (.node (boot_o_8 P) .nil .nil) .nil) (.node (boot_o_6 P) (.node (boot_o_10 P) .nil .nil) .nil))
theorem AP (P:Params):absHeap (tE P) 11 {}=boot_heap P:=by kernel_rfl
abbrev tJ (w:World) (os:OsState):SharedT:=⟨tE w.params,11,{},#[],boot_drawn,boot_toks,os⟩
def mG (p q:Program) (loose:cQ) (Xt:Shared->Bool) (Yf:Shared->α) (P:Params) (s:Shared):=
 ((staticsOk (importedModules p.main.body) (boot_heap P) s.heap&&namesBound p s.heap&&gensDone s&&laidKept (boot_heap P) s.heap),openSeen q loose (importedModules p.main.body) Xt true s,Yf s)
noncomputable abbrev AZ (p:Program) (s s':Shared):Bool:=staticsOk (importedModules p.main.body) s.heap s'.heap&&namesBound p s'.heap&&gensDone s'&&laidKept s.heap s'.heap
noncomputable abbrev N4 (s':Shared) (b:Bool):Option Shared:=Bool.casesOn b none (some s')
noncomputable abbrev Ez (p:Program) (s:Shared) (o:Option Shared):Option Shared:=o.bind λs'=>N4 s' (AZ p s s')
noncomputable abbrev LS (p:Program) (w:World) (N:Nat) (s:Shared) (z:Bool×Nat×cT):Option Shared:=Bool.casesOn z.1 none (Ez p s (topRun treeTable p w z.2.1 z.2.2 N s (topStub p)))
theorem Dr {w:World} {N:Nat} {s s':Shared} {z:Nat×cT} (e:(s.heap.isNs mainGlobals&&s.gens.size==0,s.heap.objs.size,s.heap.nsMap mainGlobals "__annotations__")=(true,z)) (r:topRun treeTable p w z.1 z.2 N s (topStub p)=some s') (l:AZ p s s'=true):topFrom treeTable p w N s=some s':=
 Eq.trans (by kernel_rfl) ((cG (LS p w N s) e).trans ((cG (Ez p s) r).trans (cG (N4 s') l)))
theorem C4 {q:Program} {loose:cQ} {Xt:Shared->Bool} {Yf:Shared->α} {Ya:World->α} {N M:Nat} {ann:cT}
 (e:opening p=plainProg p.main.scope.names) (hN:Nat.ble 600 N=true) (f:∀ s,fenceModules? p s=some s)
 (size:∀ w:World,((boot_heap w.params).isNs mainGlobals&&(#[]:Array GenState).size==0,(boot_heap w.params).objs.size,(boot_heap w.params).nsMap mainGlobals "__annotations__")=(true,11,ann))
 (run:∀ w:World,(λos=>(segRunT treeTable p w 11 ann 0 M (tJ w os) (topStub p)).map λr=>mG p q loose Xt Yf w.params r.2.1.abs)=λy=>some (true,openGood q loose,Ya w))
 (le:Nat.ble M N=true):LeftO p q loose Xt Yf Ya N:=λw=>by
 obtain⟨s,e,e'⟩:=bu.mp (boot_open e hN f w);have es:s=⟨boot_heap w.params,#[],boot_drawn,boot_toks,s.os⟩:=cG (λz=>Shared.mk z.1 z.2.1 z.2.2.1 z.2.2.2 s.os) e'
 obtain⟨r,hr,hl⟩:=bu.mp (congrFun (run w) s.os);have r1:=topRun_mono (N - M) _ _ _ _ (vw _ _ _ (segRun_of hr))
 have r2:=(congr (cG (λn s=>topRun treeTable p w 11 ann n s (topStub p)) (Nat.add_sub_of_le (eP le)).symm) (es.trans (cG (λh=>Shared.mk h #[] boot_drawn boot_toks s.os) (AP w.params).symm))).trans r1
 have t:=Dr (p:=p) (z:=(11,ann)) ((cG (λs:Shared=>(s.heap.isNs mainGlobals&&s.gens.size==0,s.heap.objs.size,s.heap.nsMap mainGlobals "__annotations__")) es).trans (size w)) r2 ((cG (λs':Shared=>AZ p s' r.2.1.abs) es).trans (cG Prod.fst hl))
 exact(cG (Option.map _) ((cG (λz:Option Shared=>z.bind (topFrom treeTable p w N)) e).trans t)).trans (cG (λz=>some z.2) hl:some (mG p q loose Xt Yf w.params r.2.1.abs).2= _)
end
end
section
section
noncomputable abbrev pw:Program:=PySem.Challenge.pw_te0034_02
noncomputable abbrev Ne:OpenLaw:=PySem.Challenge.rw_te0034_02
noncomputable def n9 (i:Nat):Stmt:=pw.main.body.getD i (.Pass default)
noncomputable def fQ (s:Stmt):cM:=by
 cases s with
 | FunctionDef _ _ b=>exact b
 | ClassDef _ _ _ b=>exact b
 | _=>exact[]
noncomputable def IT (s:Stmt):Arguments:=by
 cases s with
 | FunctionDef _ a=>exact a
 | _=>exact⟨[],[],none,[],[],none,[]⟩
noncomputable def jo (s:Stmt):Scope:=by
 cases s with
 | FunctionDef _ _ _ _ _ _ c=>exact c
 | _=>exact default
noncomputable def gI (i j:Nat):Stmt:=(fQ (n9 i)).getD j (.Pass default)
noncomputable def M9:Stmt:=n9 7
noncomputable def NI:Stmt:=gI 13 0
noncomputable def MW:Stmt:=gI 13 1
noncomputable def Le:Stmt:=n9 14
noncomputable def NG:Stmt:=gI 15 1
noncomputable def Gs:Stmt:=gI 15 2
noncomputable def IW:Stmt:=gI 15 3
noncomputable def G3:Stmt:=gI 15 4
noncomputable def H5:Stmt:=gI 15 5
noncomputable def HC:Stmt:=gI 15 6
noncomputable def ug:Stmt:=gI 15 7
noncomputable def Ga:Stmt:=gI 15 8
noncomputable def Iv:Stmt:=gI 15 9
noncomputable def Hn:Stmt:=gI 15 10
noncomputable def FV:Stmt:=gI 21 0
noncomputable def IG:Stmt:=gI 21 1
noncomputable def JG:Stmt:=gI 21 5
noncomputable def JX:Stmt:=gI 21 6
noncomputable def IH:Stmt:=gI 21 13
noncomputable def Ia:Stmt:=gI 21 14
noncomputable def Gb:Stmt:=gI 21 15
noncomputable def IR:Stmt:=gI 21 39
noncomputable def rK:Stmt:=gI 21 40
noncomputable def Hf:Stmt:=gI 21 41
noncomputable def Hp:Stmt:=gI 21 42
noncomputable def JK:Stmt:=gI 21 43
noncomputable def Hi:Stmt:=gI 21 44
noncomputable def HD:Stmt:=gI 21 45
noncomputable def G1:Stmt:=gI 21 46
noncomputable def FW:Stmt:=gI 21 47
noncomputable def G8:Stmt:=gI 21 48
noncomputable def GI:Stmt:=n9 27
noncomputable def Ib:Stmt:=n9 28
noncomputable def J0:Stmt:=n9 29
noncomputable def JL:Stmt:=n9 30
noncomputable def I3:Stmt:=n9 31
noncomputable def HI:Stmt:=n9 32
noncomputable def gJ:Stmt:=n9 33
noncomputable def pY:Stmt:=n9 34
noncomputable def JJ:Stmt:=n9 35
noncomputable def IY:Stmt:=n9 36
noncomputable def f6 (s:String) (t:Nat):Value:=.str (Str.ofString s) t
noncomputable def dX (P:Params) (s:String) (t:Nat) (v:Value):DictEntry:=⟨PyData.keyHash P (Str.ofString s),.str (Str.ofString s) t,v⟩
noncomputable abbrev ML (l:List DictEntry) (n:Nat):Obj:={ cls:=.type "dict",dict:=none,data:=.dict l.toArray n,slots:=#[] }
noncomputable abbrev Gj (k:String) (l:cO):Obj:={ cls:=.type k,dict:=none,data:=.seq l.toArray 0,slots:=#[] }
noncomputable def EQ (n:Nat):Value:=.int n 0
noncomputable def MQ (nm qn:String) (t ln ac fl:Nat) (r1 r2 r3 r4 r5 r6:Value) (x:Nat):Obj:={ cls:=.type "code",dict:=none,data:=.fields #[f6 nm t,f6 qn (t+1),f6 "/claim/cut.py" (t+2),EQ ln,EQ ac,EQ 0,EQ 0,EQ fl,r1,.bool true,EQ 181,r2,r3,r4,r5,r6,EQ x,EQ ln,f6 "/claim/cut.py" (x+1)],slots:=#[] }
noncomputable def LT (st:Stmt) (nm qn:String) (df md:Value) (c:Addr):Obj:={ cls:=.type "function",dict:=none,data:=.func { name:=Str.ofString nm,qualname:=Str.ofString qn,params:=IT st,body:=.stmts (fQ st),scope:=jo st,globals:=3,closure:=[],defaults:=df,kwdefaults:=.none,doc:=.none,pyModule:=md,annotations:=none,code:=.ref c,closureTuple:=.none,builtins:=0 },slots:=#[] }
noncomputable def jG (a:Addr) (st:Stmt) (nm qn:String) (t ln ac fl x:Nat) (df md:Value) (r:Frag):Frag:=(a,MQ nm qn t ln ac fl (.ref (a - 5)) (.ref (a - 4)) .none (.ref (a - 3)) (.ref (a - 2)) (.ref (a - 1)) x)::(a+1,LT st nm qn df md a)::r
noncomputable def Pk (a ns m t1 t2:Addr) (nm:String):Obj:={ cls:=.type "type",dict:=none,data:=.cls { name:=Str.ofString nm,bases:=[.type "object"],mro:=[.ref a,.type "object"],ns:=ns,qualname:=Str.ofString nm,hasDict:=true,slotNames:=[],subclasses:=[],abstract:=false,collection:=none,hasDel:=false },slots:=#[some (.ref m),none,some (f6 nm t1),some (f6 nm t2),some (.builtin "object.__new__"),some (.bool true)] }
noncomputable def Ri:Value:=f6 "html5lib.constants" 194
noncomputable def xd:Value:=f6 "html5lib._inputstream" 564
noncomputable def sZ:Value:=f6 "html5lib._tokenizer" 827
noncomputable def Bw:Value:=f6 "law_te0034_02" 1444
noncomputable def fT (P:Params):Frag:=
 (3,ML [dX P "__name__" 165 (f6 "law_te0034_02" 1444),dX P "__doc__" 166 .none,dX P "__package__" 167 .none,dX P "__loader__" 168 (.builtin "__main__.__loader__#opaque"),dX P "__spec__" 169 .none,dX P "__annotations__" 170 (.ref 6),dX P "__builtins__" 171 (.ref 4),dX P "__file__" 173 (f6 "/claim/cut.py" 172),dX P "__cached__" 174 .none,dX P "_wall" 193 (.ref 21),dX P "EOF" 196 .none,dX P "spaceCharacters" 202 (.ref 22),dX P "asciiLetters" 256 (.ref 27),dX P "digits" 268 (.ref 32),dX P "hexDigits" 292 (.ref 37),dX P "asciiLower" 298 (.ref 42),dX P "entities" 428 (.ref 43),dX P "replacementCharacters" 531 (.ref 46),dX P "tokenTypes" 556 (.ref 48),dX P "tagTokenTypes" 563 (.ref 49),dX P "Text" 604 (.ref 73),dX P "_is_invalid" 611 (.ref 84),dX P "HTMLUnicodeInputStream" 737 (.ref 166),dX P "bisect_left" 751 (.ref 178),dX P "Trie" 826 (.ref 230),dX P "entitiesTrie" 843 (.ref 236),dX P "HTMLTokenizer" 1443 (.ref 762),dX P "_law_PIECES" 1470 (.ref 767),dX P "_law_BLANK" 1472 (f6 "\t\n\x0c " 1471),dX P "_law_IN_KEY" 1474 (f6 "invalid-character-in-attribute-name" 1473),dX P "_law_BEHIND_KEY" 1476 (f6 "invalid-character-after-attribute-name" 1475),dX P "_law_letter" 1484 (.ref 774),dX P "_law_small" 1491 (.ref 781),dX P "_law_until" 1500 (.ref 788),dX P "_law_past" 1509 (.ref 795),dX P "_law_marks" 1520 (.ref 802),dX P "_law_fault" 1527 (.ref 809),dX P "_law_tag" 1533 (.ref 814),dX P "_law_read" 1547 (.ref 821),dX P "_law_more" 1553 (.ref 826),dX P "law" 1559 (.ref 831)] 41)::
 (22,Gj "tuple" [f6 "\t" 197,f6 "\n" 198,f6 "\x0c" 199,f6 " " 200,f6 "\r" 201])::
 (27,Gj "tuple" [f6 "a" 204,f6 "b" 205,f6 "c" 206,f6 "d" 207,f6 "e" 208,f6 "f" 209,f6 "g" 210,f6 "h" 211,f6 "i" 212,f6 "j" 213,f6 "k" 214,f6 "l" 215,f6 "m" 216,f6 "n" 217,f6 "o" 218,f6 "p" 219,f6 "q" 220,f6 "r" 221,f6 "s" 222,f6 "t" 223,f6 "u" 224,f6 "v" 225,f6 "w" 226,f6 "x" 227,f6 "y" 228,f6 "z" 229,f6 "A" 230,f6 "B" 231,f6 "C" 232,f6 "D" 233,f6 "E" 234,f6 "F" 235,f6 "G" 236,f6 "H" 237,f6 "I" 238,f6 "J" 239,f6 "K" 240,f6 "L" 241,f6 "M" 242,f6 "N" 243,f6 "O" 244,f6 "P" 245,f6 "Q" 246,f6 "R" 247,f6 "S" 248,f6 "T" 249,f6 "U" 250,f6 "V" 251,f6 "W" 252,f6 "X" 253,f6 "Y" 254,f6 "Z" 255])::
 (41,MQ "asciiLower" "asciiLower" 293 10 1 3 (.ref 38) (.ref 39) .none .none .none (.ref 40) 296)::
 (42,LT M9 "asciiLower" "asciiLower" .none Ri 41)::
 (48,ML [dX P "Doctype" 532 (.int 0 533),dX P "Characters" 534 (.int 1 535),dX P "SpaceCharacters" 536 (.int 2 537),dX P "StartTag" 538 (.int 3 539),dX P "EndTag" 540 (.int 4 541),dX P "EmptyTag" 542 (.int 5 543),dX P "Comment" 544 (.int 6 545),dX P "ParseError" 546 (.int 7 547)] 8)::
 (49,Gj "tuple" [.int 3 539,.int 4 541,.int 5 543])::
 jG 62 NI "__init__" "Text.__init__" 578 19 2 3 583 .none xd (
 jG 69 MW "read" "Text.read" 586 23 2 3 592 .none xd (
 (72,ML [dX P "__module__" 573 (f6 "html5lib._inputstream" 564),dX P "__firstlineno__" 577 (.int 17 576),dX P "__init__" 585 (.ref 63),dX P "read" 594 (.ref 70),dX P "__static_attributes__" 597 (.ref 71),dX P "__dict__" 599 (.ref 74),dX P "__weakref__" 601 (.ref 75),dX P "__doc__" 602 .none] 4)::
 (73,Pk 73 72 50 566 574 "Text")::
 jG 83 Le "_is_invalid" "_is_invalid" 605 27 1 3 609 .none xd (
 jG 97 NG "__init__" "HTMLUnicodeInputStream.__init__" 626 32 2 3 631 .none xd (
 jG 104 Gs "reset" "HTMLUnicodeInputStream.reset" 634 38 1 3 638 .none xd (
 jG 111 IW "openStream" "HTMLUnicodeInputStream.openStream" 641 47 2 3 647 .none xd (
 jG 118 G3 "_position" "HTMLUnicodeInputStream._position" 650 51 2 3 660 .none xd (
 jG 125 H5 "position" "HTMLUnicodeInputStream.position" 663 62 1 3 669 .none xd (
 jG 132 HC "char" "HTMLUnicodeInputStream.char" 672 66 1 3 678 .none xd (
 (134,Gj "tuple" [.none])::
 jG 140 ug "readChunk" "HTMLUnicodeInputStream.readChunk" 681 75 2 3 688 (.ref 134) xd (
 jG 147 Ga "characterErrorsUCS4" "HTMLUnicodeInputStream.characterErrorsUCS4" 691 101 2 3 697 .none xd (
 (149,Gj "tuple" [.bool false])::
 jG 155 Iv "charsUntil" "HTMLUnicodeInputStream.charsUntil" 700 106 3 3 709 (.ref 149) xd (
 jG 162 Hn "unget" "HTMLUnicodeInputStream.unget" 712 125 2 3 717 .none xd (
 (165,ML [dX P "__module__" 619 (f6 "html5lib._inputstream" 564),dX P "__firstlineno__" 623 (.int 29 622),dX P "_defaultChunkSize" 625 (.int 10240 624),dX P "__init__" 633 (.ref 98),dX P "reset" 640 (.ref 105),dX P "openStream" 649 (.ref 112),dX P "_position" 662 (.ref 119),dX P "position" 671 (.ref 126),dX P "char" 680 (.ref 133),dX P "readChunk" 690 (.ref 141),dX P "characterErrorsUCS4" 699 (.ref 148),dX P "charsUntil" 711 (.ref 156),dX P "unget" 719 (.ref 163),dX P "__static_attributes__" 730 (.ref 164),dX P "__dict__" 732 (.ref 167),dX P "__weakref__" 734 (.ref 168),dX P "__doc__" 735 .none] 4)::
 (166,Pk 166 165 85 612 620 "HTMLUnicodeInputStream")::
 (254,Gj "tuple" [.none])::
 jG 260 FV "__init__" "HTMLTokenizer.__init__" 856 184 3 3 862 (.ref 254) sZ (
 jG 267 IG "__iter__" "HTMLTokenizer.__iter__" 865 193 1 35 869 .none sZ (
 jG 296 JG "emitCurrentToken" "HTMLTokenizer.emitCurrentToken" 910 286 1 3 917 .none sZ (
 jG 303 JX "dataState" "HTMLTokenizer.dataState" 920 304 1 3 926 .none sZ (
 jG 352 IH "tagOpenState" "HTMLTokenizer.tagOpenState" 971 342 1 3 976 .none sZ (
 jG 359 Ia "closeTagOpenState" "HTMLTokenizer.closeTagOpenState" 979 366 1 3 984 .none sZ (
 jG 366 Gb "tagNameState" "HTMLTokenizer.tagNameState" 987 384 1 3 992 .none sZ (
 jG 534 IR "beforeAttributeNameState" "HTMLTokenizer.beforeAttributeNameState" 1156 471 1 3 1161 .none sZ (
 jG 541 rK "attributeNameState" "HTMLTokenizer.attributeNameState" 1164 498 1 3 1173 .none sZ (
 jG 548 Hf "afterAttributeNameState" "HTMLTokenizer.afterAttributeNameState" 1176 537 1 3 1181 .none sZ (
 jG 555 Hp "beforeAttributeValueState" "HTMLTokenizer.beforeAttributeValueState" 1184 566 1 3 1189 .none sZ (
 jG 562 JK "attributeValueDoubleQuotedState" "HTMLTokenizer.attributeValueDoubleQuotedState" 1192 596 1 3 1197 .none sZ (
 jG 569 Hi "attributeValueSingleQuotedState" "HTMLTokenizer.attributeValueSingleQuotedState" 1200 612 1 3 1205 .none sZ (
 jG 576 HD "attributeValueUnQuotedState" "HTMLTokenizer.attributeValueUnQuotedState" 1208 628 1 3 1213 .none sZ (
 jG 583 G1 "afterAttributeValueState" "HTMLTokenizer.afterAttributeValueState" 1216 649 1 3 1221 .none sZ (
 jG 590 FW "selfClosingStartTagState" "HTMLTokenizer.selfClosingStartTagState" 1224 667 1 3 1229 .none sZ (
 jG 597 G8 "bogusCommentState" "HTMLTokenizer.bogusCommentState" 1232 682 1 3 1237 .none sZ (
 (761,ML [dX P "__module__" 851 (f6 "html5lib._tokenizer" 827),dX P "__firstlineno__" 855 (.int 182 854),dX P "__init__" 864 (.ref 261),dX P "__iter__" 871 (.ref 268),dX P "consumeNumberEntity" 886 (.ref 275),dX P "consumeEntity" 901 (.ref 283),dX P "processEntityInAttribute" 909 (.ref 290),dX P "emitCurrentToken" 919 (.ref 297),dX P "dataState" 928 (.ref 304),dX P "entityDataState" 935 (.ref 311),dX P "rcdataState" 942 (.ref 318),dX P "characterReferenceInRcdata" 949 (.ref 325),dX P "rawtextState" 956 (.ref 332),dX P "scriptDataState" 963 (.ref 339),dX P "plaintextState" 970 (.ref 346),dX P "tagOpenState" 978 (.ref 353),dX P "closeTagOpenState" 986 (.ref 360),dX P "tagNameState" 994 (.ref 367),dX P "rcdataLessThanSignState" 1001 (.ref 374),dX P "rcdataEndTagOpenState" 1008 (.ref 381),dX P "rcdataEndTagNameState" 1015 (.ref 388),dX P "rawtextLessThanSignState" 1022 (.ref 395),dX P "rawtextEndTagOpenState" 1029 (.ref 402),dX P "rawtextEndTagNameState" 1036 (.ref 409),dX P "scriptDataLessThanSignState" 1043 (.ref 416),dX P "scriptDataEndTagOpenState" 1050 (.ref 423),dX P "scriptDataEndTagNameState" 1057 (.ref 430),dX P "scriptDataEscapeStartState" 1064 (.ref 437),dX P "scriptDataEscapeStartDashState" 1071 (.ref 444),dX P "scriptDataEscapedState" 1078 (.ref 451),dX P "scriptDataEscapedDashState" 1085 (.ref 458),dX P "scriptDataEscapedDashDashState" 1092 (.ref 465),dX P "scriptDataEscapedLessThanSignState" 1099 (.ref 472),dX P "scriptDataEscapedEndTagOpenState" 1106 (.ref 479),dX P "scriptDataEscapedEndTagNameState" 1113 (.ref 486),dX P "scriptDataDoubleEscapeStartState" 1120 (.ref 493),dX P "scriptDataDoubleEscapedState" 1127 (.ref 500),dX P "scriptDataDoubleEscapedDashState" 1134 (.ref 507),dX P "scriptDataDoubleEscapedDashDashState" 1141 (.ref 514),dX P "scriptDataDoubleEscapedLessThanSignState" 1148 (.ref 521),dX P "scriptDataDoubleEscapeEndState" 1155 (.ref 528),dX P "beforeAttributeNameState" 1163 (.ref 535),dX P "attributeNameState" 1175 (.ref 542),dX P "afterAttributeNameState" 1183 (.ref 549),dX P "beforeAttributeValueState" 1191 (.ref 556),dX P "attributeValueDoubleQuotedState" 1199 (.ref 563),dX P "attributeValueSingleQuotedState" 1207 (.ref 570),dX P "attributeValueUnQuotedState" 1215 (.ref 577),dX P "afterAttributeValueState" 1223 (.ref 584),dX P "selfClosingStartTagState" 1231 (.ref 591),dX P "bogusCommentState" 1239 (.ref 598),dX P "markupDeclarationOpenState" 1249 (.ref 605),dX P "commentStartState" 1257 (.ref 612),dX P "commentStartDashState" 1265 (.ref 619),dX P "commentState" 1273 (.ref 626),dX P "commentEndDashState" 1281 (.ref 633),dX P "commentEndState" 1289 (.ref 640),dX P "commentEndBangState" 1297 (.ref 647),dX P "doctypeState" 1305 (.ref 654),dX P "beforeDoctypeNameState" 1313 (.ref 661),dX P "doctypeNameState" 1321 (.ref 668),dX P "afterDoctypeNameState" 1331 (.ref 675),dX P "afterDoctypePublicKeywordState" 1339 (.ref 682),dX P "beforeDoctypePublicIdentifierState" 1347 (.ref 689),dX P "doctypePublicIdentifierDoubleQuotedState" 1355 (.ref 696),dX P "doctypePublicIdentifierSingleQuotedState" 1363 (.ref 703),dX P "afterDoctypePublicIdentifierState" 1371 (.ref 710),dX P "betweenDoctypePublicAndSystemIdentifiersState" 1379 (.ref 717),dX P "afterDoctypeSystemKeywordState" 1387 (.ref 724),dX P "beforeDoctypeSystemIdentifierState" 1395 (.ref 731),dX P "doctypeSystemIdentifierDoubleQuotedState" 1403 (.ref 738),dX P "doctypeSystemIdentifierSingleQuotedState" 1411 (.ref 745),dX P "afterDoctypeSystemIdentifierState" 1419 (.ref 752),dX P "bogusDoctypeState" 1427 (.ref 759),dX P "__static_attributes__" 1436 (.ref 760),dX P "__dict__" 1438 (.ref 763),dX P "__weakref__" 1440 (.ref 764),dX P "__doc__" 1441 .none] 4)::
 (762,Pk 762 761 247 844 852 "HTMLTokenizer")::
 (767,Gj "list" [f6 "<a" 1446,f6 "</b" 1447,f6 ">" 1448,f6 " " 1449,f6 "x" 1450,f6 "=" 1451,f6 "\"" 1452,f6 "'" 1453,f6 "/" 1454,f6 "<" 1455,f6 "\n" 1456,f6 "B" 1457,f6 "-" 1458,f6 "`" 1459,f6 "=\"" 1460,f6 "='" 1461,f6 " x=" 1462,f6 "</" 1463,f6 "<X " 1464,f6 "É" 1465,f6 " b" 1466,f6 "\x0c" 1467,f6 "1" 1468,f6 " x" 1469])::
 jG 773 GI "_law_letter" "_law_letter" 1477 1190 2 3 1482 .none Bw (
 jG 780 Ib "_law_small" "_law_small" 1485 1192 1 3 1489 .none Bw (
 jG 787 J0 "_law_until" "_law_until" 1492 1194 3 3 1498 .none Bw (
 jG 794 JL "_law_past" "_law_past" 1501 1198 3 3 1507 .none Bw (
 jG 801 I3 "_law_marks" "_law_marks" 1510 1202 1 3 1518 .none Bw (
 jG 808 HI "_law_fault" "_law_fault" 1521 1208 1 3 1525 .none Bw (
 (813,MQ "_law_tag" "_law_tag" 1528 1210 4 3 (.ref 810) (.ref 811) .none .none .none (.ref 812) 1531)::
 (814,LT gJ "_law_tag" "_law_tag" .none Bw 813)::
 jG 820 pY "_law_read" "_law_read" 1534 1292 1 3 1545 .none Bw (
 (825,MQ "_law_more" "_law_more" 1548 1332 1 3 (.ref 822) (.ref 823) .none .none .none (.ref 824) 1551)::
 (826,LT JJ "_law_more" "_law_more" .none Bw 825)::
 (830,MQ "law" "law" 1554 1336 1 3 (.ref 827) (.ref 828) .none .none .none (.ref 829) 1557)::
 (831,LT IY "law" "law" .none Bw 830)::
 [])))))))))))))))))))))))))))))))))))))
noncomputable def Fc:cP:=[3,22,27,41,42,48,49,62,63,69,70,72,73,83,84,97,98,104,105,111,112,118,119,125,126,132,133,134,140,141,147,148,149,155,156,162,163,165,166,254,260,261,267,268,296,297,303,304,352,353,359,360,366,367,534,535,541,542,548,549,555,556,562,563,569,570,576,577,583,584,590,591,597,598,761,762,767,773,774,780,781,787,788,794,795,801,802,808,809,813,814,820,821,825,826,830,831]
noncomputable def iH:cQ:=[Str.ofString "_wall",Str.ofString "EOF",Str.ofString "spaceCharacters",Str.ofString "asciiLetters",Str.ofString "digits",Str.ofString "hexDigits",Str.ofString "asciiLower",Str.ofString "entities",Str.ofString "replacementCharacters",Str.ofString "tokenTypes",Str.ofString "tagTokenTypes",Str.ofString "Text",Str.ofString "_is_invalid",Str.ofString "HTMLUnicodeInputStream",Str.ofString "bisect_left",Str.ofString "Trie",Str.ofString "entitiesTrie",Str.ofString "HTMLTokenizer",Str.ofString "_law_PIECES",Str.ofString "_law_BLANK",Str.ofString "_law_IN_KEY",Str.ofString "_law_BEHIND_KEY",Str.ofString "_law_letter",Str.ofString "_law_small",Str.ofString "_law_until",Str.ofString "_law_past",Str.ofString "_law_marks",Str.ofString "_law_fault",Str.ofString "_law_tag",Str.ofString "_law_read",Str.ofString "_law_more"]
noncomputable def fK:Program:=PySem.W.view pw [36]
theorem Ln (P:Params):Fc=(fT P).map (·.1):=by kernel_rfl
noncomputable def fA:Hook:=kHook fT Fc Ln
noncomputable abbrev qu (s:Shared):Bool:=xlAt fK [] s&&recOk (RowW.records (OpenRow.toRowW Ne.row)) s
end
end
section
theorem MZ (w:World):(λos=>(PySem.W.Fast.tw10110043849684766642 PySem.W.Fast.tw14364793385576792824 pw (w.withFollow "special-get-raises" false) 11 (some (.ref 6)) 0 8591 (tJ (w.withFollow "special-get-raises" false) os) (topStub pw)).map λr=>mG pw fK iH qu fA.obs (w.withFollow "special-get-raises" false).params r.2.1.abs)=λy=>some (true,openGood fK iH,fA.val (w.withFollow "special-get-raises" false)):=by kernel_rfl
theorem Km (w:World):(λos=>(PySem.W.Fast.tw10110043849684766642 PySem.W.Fast.tw14364793385576792824 pw (w.withFollow "special-get-raises" true) 11 (some (.ref 6)) 0 8591 (tJ (w.withFollow "special-get-raises" true) os) (topStub pw)).map λr=>mG pw fK iH qu fA.obs (w.withFollow "special-get-raises" true).params r.2.1.abs)=λy=>some (true,openGood fK iH,fA.val (w.withFollow "special-get-raises" true)):=by kernel_rfl
end
section
theorem H9:namesResolve pw=true:=by
 rw[PySem.W.Fast.te8377067652309620493];kernel_rfl
theorem IZ:noRoadLSs { strict:= !(importedModules pw.main.body).all cThrough.contains,foot:=none,bare:=(["vars","dir","locals"]:cQ).filter (readsOut pw pw.main.body) } pw.main.body=true:=by
 rw[PySem.W.Fast.te8326940854005059898];kernel_rfl
theorem HJ:(namesMeet pw pw.main.body λy n=>attrL n)=true:=by
 rw[PySem.W.Fast.te17119622794617984870];kernel_rfl
theorem Lp:looksOpen Ne.row.prog=true:=by
 unfold looksOpen
 repeat' (with_reducible refine look_both ?_ ?_)
 . rw[PySem.W.Fast.te11788848310118352699];kernel_rfl
 . kernel_rfl
 . exact H9
 . rw[PySem.W.Fast.te18344453789297297638];kernel_rfl
 . exact IZ
 . exact HJ
theorem L9:Ne.wellSaid=true:=by
 unfold OpenLaw.wellSaid OpenRow.wellSaid OpenRow.partSaid
 repeat' (with_reducible first | exact Lp | refine look_both ?_ ?_)
 all_goals first
  | (rw[PySem.W.Fast.te17119622794617984870];kernel_rfl)
  | (rw[PySem.W.Fast.te8326940854005059898];kernel_rfl)
  | (rw[PySem.W.Fast.te8179353310426384613];kernel_rfl)
  | (rw[PySem.W.Fast.te9558739934217749035];kernel_rfl)
  | (rw[PySem.W.Fast.te16286561074155671207];kernel_rfl)
  | (rw[PySem.W.Fast.te5318747976498570220];kernel_rfl)
  | (rw[PySem.W.Fast.te18344453789297297638];kernel_rfl)
  | (rw[PySem.W.Fast.te797321630700447069];kernel_rfl)
  | (rw[PySem.W.Fast.te10501279942588096481];kernel_rfl)
  | kernel_rfl
end
section
theorem Ch (w:World):(λos=>(segRunT treeTable pw w 11 (some (.ref 6)) 0 8591 (tJ w os) (topStub pw)).map λr=>mG pw fK iH qu fA.obs w.params r.2.1.abs)=λy=>some (true,openGood fK iH,fA.val w):=by
 rw[PySem.W.Fast.te10110043849684766642,PySem.W.Fast.te14364793385576792824];exact byRow2 "special-get-raises" (P:=λw=>(λos=>(PySem.W.Fast.tw10110043849684766642 PySem.W.Fast.tw14364793385576792824 pw w 11 (some (.ref 6)) 0 8591 (tJ w os) (topStub pw)).map λr=>mG pw fK iH qu fA.obs w.params r.2.1.abs)=λy=>some (true,openGood fK iH,fA.val w)) MZ Km w
theorem Ld:opening pw=plainProg pw.main.scope.names:=by kernel_rfl
theorem K1 (s:Shared):fenceModules? pw s=some s:=by kernel_rfl
theorem M4 (w:World):((boot_heap w.params).isNs mainGlobals&&(#[]:Array GenState).size==0,(boot_heap w.params).objs.size,(boot_heap w.params).nsMap mainGlobals "__annotations__")=(true,11,some (.ref 6)):=by kernel_rfl
theorem MV:LeftO pw fK iH qu fA.obs fA.val 8591:=C4 Ld (by decide) K1 M4 Ch (by decide)
theorem E5 (h:∀ d kwd,d.name=Ne.row.name->WalkO fK iH (XL fK []) fA.says Ne.row.toRowW d kwd λf vs=>PySem.call f vs):PySem.Challenge.rw_te0034_02.Holds:=by
 refine holds_law L9 λsaid=>?_
 refine holds_open (q:=fK) (loose:=iH) (Xt:=qu) (XP:=XL fK []) (Yf:=fA.obs) (Ya:=fA.val) (YP:=fA.says) (N:=8591) MV fA.of fA.keeps (λs e=>xl_of s (Bool.and_eq_true_iff.mp e).1) XL.keeps (by rfl) (by rfl) (by rfl) (λs e=>recFacts_of (Bool.and_eq_true_iff.mp e).2) ?d said ?e ?f ?hw (h _ _ (defOf_name (p:=fK) (by rfl)))
 case d=>rfl
 case e=>decide+kernel
 case f=>exact⟨rfl,rfl,rfl,rfl,rfl,by decide+kernel⟩
 case hw=>w_witness2
end
section
section
universe u0 u1 u2 u3 u4 u5
variable {α:Sort u0} {β:Sort u1} {γ:Sort u2} {δ:Sort u3} {ε:Sort u4} {ζ:Sort u5} {G:Prop}
theorem ud {p q r:Prop} (h:p/\q/\r) (k:p->q->r->G):G:=k h.1 h.2.1 h.2.2
theorem Qj {p q r s:Prop} (h:p/\q/\r/\s) (k:p->q->r->s->G):G:=k h.1 h.2.1 h.2.2.1 h.2.2.2
theorem QW {p q r s t:Prop} (h:p/\q/\r/\s/\t) (k:p->q->r->s->t->G):G:=k h.1 h.2.1 h.2.2.1 h.2.2.2.1 h.2.2.2.2
theorem dW {p q:α->Prop} (h:∃ a,p a/\q a) (k:∀ a,p a->q a->G):G:=h.elim λa y0=>k a y0.1 y0.2
theorem jM {p q r:α->Prop} (h:∃ a,p a/\q a/\r a) (k:∀ a,p a->q a->r a->G):G:=h.elim λa y0=>k a y0.1 y0.2.1 y0.2.2
theorem FN {p q r s:α->Prop} (h:∃ a,p a/\q a/\r a/\s a) (k:∀ a,p a->q a->r a->s a->G):G:=h.elim λa y0=>k a y0.1 y0.2.1 y0.2.2.1 y0.2.2.2
theorem OT {p:α->β->Prop} (h:∃ a b,p a b) (k:∀ a b,p a b->G):G:=h.elim λa y0=>y0.elim λb y1=>k a b y1
theorem im {p q:α->β->Prop} (h:∃ a b,p a b/\q a b) (k:∀ a b,p a b->q a b->G):G:=h.elim λa y0=>y0.elim λb y1=>k a b y1.1 y1.2
theorem jk {p q r:α->β->Prop} (h:∃ a b,p a b/\q a b/\r a b) (k:∀ a b,p a b->q a b->r a b->G):G:=h.elim λa y0=>y0.elim λb y1=>k a b y1.1 y1.2.1 y1.2.2
theorem FF {p q r s:α->β->Prop} (h:∃ a b,p a b/\q a b/\r a b/\s a b) (k:∀ a b,p a b->q a b->r a b->s a b->G):G:=h.elim λa y0=>y0.elim λb y1=>k a b y1.1 y1.2.1 y1.2.2.1 y1.2.2.2
theorem R7 {p q r s t:α->β->Prop} (h:∃ a b,p a b/\q a b/\r a b/\s a b/\t a b) (k:∀ a b,p a b->q a b->r a b->s a b->t a b->G):G:=h.elim λa y0=>y0.elim λb y1=>k a b y1.1 y1.2.1 y1.2.2.1 y1.2.2.2.1 y1.2.2.2.2
theorem R1 {p:α->β->γ->Prop} (h:∃ a b c,p a b c) (k:∀ a b c,p a b c->G):G:=h.elim λa y0=>y0.elim λb y1=>y1.elim λc y2=>k a b c y2
theorem QE {p q:α->β->γ->Prop} (h:∃ a b c,p a b c/\q a b c) (k:∀ a b c,p a b c->q a b c->G):G:=h.elim λa y0=>y0.elim λb y1=>y1.elim λc y2=>k a b c y2.1 y2.2
theorem kI {p q r:α->β->γ->Prop} (h:∃ a b c,p a b c/\q a b c/\r a b c) (k:∀ a b c,p a b c->q a b c->r a b c->G):G:=h.elim λa y0=>y0.elim λb y1=>y1.elim λc y2=>k a b c y2.1 y2.2.1 y2.2.2
theorem Ok {p q r s:α->β->γ->Prop} (h:∃ a b c,p a b c/\q a b c/\r a b c/\s a b c) (k:∀ a b c,p a b c->q a b c->r a b c->s a b c->G):G:=h.elim λa y0=>y0.elim λb y1=>y1.elim λc y2=>k a b c y2.1 y2.2.1 y2.2.2.1 y2.2.2.2
theorem Qy {p q r s t:α->β->γ->Prop} (h:∃ a b c,p a b c/\q a b c/\r a b c/\s a b c/\t a b c) (k:∀ a b c,p a b c->q a b c->r a b c->s a b c->t a b c->G):G:=h.elim λa y0=>y0.elim λb y1=>y1.elim λc y2=>k a b c y2.1 y2.2.1 y2.2.2.1 y2.2.2.2.1 y2.2.2.2.2
theorem Q6 {p q r s t u:α->β->γ->Prop} (h:∃ a b c,p a b c/\q a b c/\r a b c/\s a b c/\t a b c/\u a b c) (k:∀ a b c,p a b c->q a b c->r a b c->s a b c->t a b c->u a b c->G):G:=h.elim λa y0=>y0.elim λb y1=>y1.elim λc y2=>k a b c y2.1 y2.2.1 y2.2.2.1 y2.2.2.2.1 y2.2.2.2.2.1 y2.2.2.2.2.2
theorem QX {p q r s:α->β->γ->δ->Prop} (h:∃ a b c d,p a b c d/\q a b c d/\r a b c d/\s a b c d) (k:∀ a b c d,p a b c d->q a b c d->r a b c d->s a b c d->G):G:=h.elim λa y0=>y0.elim λb y1=>y1.elim λc y2=>y2.elim λd y3=>k a b c d y3.1 y3.2.1 y3.2.2.1 y3.2.2.2
theorem Qx {p q r:α->β->γ->δ->ε->Prop} (h:∃ a b c d e,p a b c d e/\q a b c d e/\r a b c d e) (k:∀ a b c d e,p a b c d e->q a b c d e->r a b c d e->G):G:=h.elim λa y0=>y0.elim λb y1=>y1.elim λc y2=>y2.elim λd y3=>y3.elim λe y4=>k a b c d e y4.1 y4.2.1 y4.2.2
theorem R8 {p q r s:α->β->γ->δ->ε->Prop} (h:∃ a b c d e,p a b c d e/\q a b c d e/\r a b c d e/\s a b c d e) (k:∀ a b c d e,p a b c d e->q a b c d e->r a b c d e->s a b c d e->G):G:=h.elim λa y0=>y0.elim λb y1=>y1.elim λc y2=>y2.elim λd y3=>y3.elim λe y4=>k a b c d e y4.1 y4.2.1 y4.2.2.1 y4.2.2.2
theorem QB {p:α->β->γ->δ->ε->ζ->Prop} (h:∃ a b c d e f,p a b c d e f) (k:∀ a b c d e f,p a b c d e f->G):G:=h.elim λa y0=>y0.elim λb y1=>y1.elim λc y2=>y2.elim λd y3=>y3.elim λe y4=>y4.elim λf y5=>k a b c d e f y5
theorem Qs {p q:α->β->γ->δ->ε->ζ->Prop} (h:∃ a b c d e f,p a b c d e f/\q a b c d e f) (k:∀ a b c d e f,p a b c d e f->q a b c d e f->G):G:=h.elim λa y0=>y0.elim λb y1=>y1.elim λc y2=>y2.elim λd y3=>y3.elim λe y4=>y4.elim λf y5=>k a b c d e f y5.1 y5.2
theorem Qo {p q r:α->β->γ->δ->ε->ζ->Prop} (h:∃ a b c d e f,p a b c d e f/\q a b c d e f/\r a b c d e f) (k:∀ a b c d e f,p a b c d e f->q a b c d e f->r a b c d e f->G):G:=h.elim λa y0=>y0.elim λb y1=>y1.elim λc y2=>y2.elim λd y3=>y3.elim λe y4=>y4.elim λf y5=>k a b c d e f y5.1 y5.2.1 y5.2.2
end
theorem Pc {α:Type} {P:List α->Prop} (h:P []) (vs:List α) (e:vs.length=0):P vs:=bo e▸h
theorem PI {α:Type} {n:Nat} {P:List α->Prop} (h:∀ a vs,vs.length=n->P (a::vs)) (vs:List α):vs.length=n+1->P vs:=List.casesOn vs (λe=>nomatch e) λa vs e=>h a vs (Nat.succ.inj e)
theorem OR {α:Type} {P:List α->Prop} (h:∀ a,P [a]):∀ vs:List α,vs.length=1->P vs:=PI λa=>Pc (P:=λl=>P (a::l)) (h a)
end
local macro_rules | `(tactic| omega)=> `(tactic| first | assumption | exact eP rfl | exact dN ‹_› (eP rfl) | lia)
set_option bootstrap.genMatcherCode false
section
noncomputable abbrev S (l:cK):Str:=⟨l.toArray⟩
set_option genCtorIdx true in
set_option genInjectivity true in
inductive AV where
 | none | bool (b:Bool) | int (i:Int) | str (l:cK) | lit (v:Value) | ref (a:Addr)
 | tup (l:List AV) | lst (l:List AV) | dct (l:List (Str×AV)) | meth (f self:Addr) | obj (p:Obj->Prop) | any
abbrev cW:=List (Nat×AV)
abbrev cS:=Option AV
abbrev cL:=List AV
abbrev HL:=List (Value×AV)
abbrev FL:=List (Str×AV)
abbrev LL:=List (Str×cS)
abbrev Fz:=Addr->Option Obj
noncomputable abbrev ly (vs:cO) (n:Nat):Obj:={ cls:=.type "tuple",data:=.seq vs.toArray n }
noncomputable abbrev dZ (vs:cO) (n:Nat):Obj:={ cls:=.type "list",data:=.seq vs.toArray n }
mutual
inductive Is (P:Params) (F:Fz):Value->AV->Prop
 | none:Is P F .none .none
 | bool (b):Is P F (.bool b) (.bool b)
 | int (i t):Is P F (.int i t) (.int i)
 | str (l t):Is P F (.str (S l) t) (.str l)
 | lit (v):Is P F v (.lit v)
 | ref (a):Is P F (.ref a) (.ref a)
 | tup {a vs n l}:F a=some (ly vs n)->IsAll P F vs l->Is P F (.ref a) (.tup l)
 | lst {a vs n l}:F a=some (dZ vs n)->IsAll P F vs l->Is P F (.ref a) (.lst l)
 | dct {a es n l}:F a=some (dictOf es n)->IsEnts P F es l->(l.map (·.1)).Nodup->(a==sysModules)=false->Is P F (.ref a) (.dct l)
 | meth {a f self}:F a=some (methodObj (.ref f) (.ref self))->Is P F (.ref a) (.meth f self)
 | obj {a o p}:F a=some o->p o->Is P F (.ref a) (.obj p)
 | any (v):Is P F v .any
inductive IsAll (P:Params) (F:Fz):cO->cL->Prop
 | nil:IsAll P F [] []
 | cons {v d vs l}:Is P F v d->IsAll P F vs l->IsAll P F (v::vs) (d::l)
inductive IsEnts (P:Params) (F:Fz):List DictEntry->FL->Prop
 | nil:IsEnts P F [] []
 | cons {x t v d es l}:Is P F v d->IsEnts P F es l->IsEnts P F (⟨PyData.keyHash P x,.str x t,v⟩::es) ((x,d)::l)
end
def Fz.le (F F':Fz):Prop:=∀ b o,F b=some o->F' b=some o
theorem Fz.le.refl (F:Fz):F.le F:=λy y e=>e
theorem Fz.le.trans {F G H:Fz} (a:F.le G) (b:G.le H):F.le H:=λx o e=>b x o (a x o e)
section
variable {P:Params} {F F':Fz}
theorem Is.mono (k:F.le F') {v:Value} {d:AV} (h:Is P F v d):Is P F' v d:=
 Is.rec (motive_1:=λv d y=>Is P F' v d) (motive_2:=λvs l y=>IsAll P F' vs l) (motive_3:=λes l y=>IsEnts P F' es l) .none .bool .int .str .lit .ref (λh y r=>.tup (k _ _ h) r) (λh y r=>.lst (k _ _ h) r) (λh y n q r=>.dct (k _ _ h) r n q) (λh=>.meth (k _ _ h)) (λh q=>.obj (k _ _ h) q) .any .nil (λy y a b=>.cons a b) .nil (λy y a b=>.cons a b) h
theorem IsAll.ind {C:cO->cL->Prop} (nil:C [] []) (cons:∀ v d vs l,Is P F v d->IsAll P F vs l->C vs l->C (v::vs) (d::l)) {vs:cO} {l:cL} (h:IsAll P F vs l):C vs l:=
 IsAll.rec (motive_1:=λy y y=>True) (motive_2:=λvs l y=>C vs l) (motive_3:=λy y y=>True) trivial (λy=>trivial) (λy y=>trivial) (λy y=>trivial) (λy=>trivial) (λy=>trivial) (λy y y=>trivial) (λy y y=>trivial) (λy y y y y=>trivial) (λy=>trivial) (λy y=>trivial) (λy=>trivial) nil (λh r y c=>cons _ _ _ _ h r c) trivial (λy y y y=>trivial) h
theorem IsEnts.ind {C:List DictEntry->FL->Prop} (nil:C [] []) (cons:∀ x t v d es l,Is P F v d->IsEnts P F es l->C es l->C (⟨PyData.keyHash P x,.str x t,v⟩::es) ((x,d)::l)) {es:List DictEntry} {l:FL} (h:IsEnts P F es l):C es l:=
 IsEnts.rec (motive_1:=λy y y=>True) (motive_2:=λy y y=>True) (motive_3:=λes l y=>C es l) trivial (λy=>trivial) (λy y=>trivial) (λy y=>trivial) (λy=>trivial) (λy=>trivial) (λy y y=>trivial) (λy y y=>trivial) (λy y y y y=>trivial) (λy=>trivial) (λy y=>trivial) (λy=>trivial) trivial (λy y y y=>trivial) nil (λh r y c=>cons _ _ _ _ _ _ h r c) h
theorem IsAll.mono (k:F.le F') {vs:cO} {l:cL} (h:IsAll P F vs l):IsAll P F' vs l:=h.ind .nil λy y y y q y c=>.cons (q.mono k) c
theorem IsEnts.mono (k:F.le F') {es:List DictEntry} {l:FL} (h:IsEnts P F es l):IsEnts P F' es l:=h.ind .nil λy y y y y y q y c=>.cons (q.mono k) c
end
inductive AO where
 | inst (C dx:Addr) (fs:FL)
 | list (l:cL)
 | dict (l:FL)
 | cell (v:cS)
 | is (p:Obj->Prop)
noncomputable def AO.ctorIdx (x:AO):Nat:=AO.casesOn x (λy y y=>0) (λy=>1) (λy=>2) (λy=>3) (λy=>4)
abbrev OL:=List (Addr×AO)
noncomputable def AO.more:AO->cP
 | .inst _ dx _=>[dx]
 | _=>[]
noncomputable def dj:OL->cP
 | []=>[]
 | p::r=>p.1::(p.2.more++dj r)
def yx (P:Params) (F:Fz) (h:Heap) (a:Addr):AO->Prop
 | .inst C dx fs=>h.get? a=some (instObj C dx)/\∃ es n,h.get? dx=some (dictOf es n)/\IsEnts P F es fs
 | .list l=>∃ vs n,h.get? a=some (dZ vs n)/\IsAll P F vs l
 | .dict l=>(∃ es n,h.get? a=some (dictOf es n)/\IsEnts P F es l)/\(l.map (·.1)).Nodup/\(a==sysModules)=false
 | .cell none=>h.IsCell a none
 | .cell (some d)=>∃ v,h.IsCell a (some v)/\Is P F v d
 | .is p=>∃ o,h.get? a=some o/\p o
set_option genInjectivity true in
structure St where
 loc:LL
 objs:OL
structure Holds (P:Params) (G:Heap) (L:Addr) (F:Fz) (H:HL) (σ:St) (h:Heap):Prop where
 core:∀ b o,G.get? b=some o->F b=some o
 sub:∀ b o,F b=some o->h.get? b=some o
 loc:∃ m,h.Ns L m/\∀ x d,(x,some d)∈σ.loc->∃ v,m x=some v/\Is P F v d
 names:(σ.loc.map (·.1)).Nodup
 objs:∀ p∈σ.objs,yx P F h p.1 p.2
 nodup:(L::dj σ.objs).Nodup
 apart:∀ b∈L::dj σ.objs,F b=none
 held:∀ p∈H,Is P F p.1 p.2
 low:G.objs.size<=L
structure gr (a b:Array GenState):Prop where
 keep:∀ (g:Nat) (x:GenState),a[g]? =some x->b[g]? =some x
 bare:∀ (g:Nat) (x:GenState),b[g]? =some x->a[g]? =some x\/x.bare=true
theorem gr.refl (a:Array GenState):gr a a:=⟨λy y e=>e,λy y e=>.inl e⟩
theorem gr.of {a b:Array GenState} (h:b=a):gr a b:=h▸.refl a
theorem gr.trans {a b c:Array GenState} (x:gr a b) (y:gr b c):gr a c:=⟨λg z e=>y.keep g z (x.keep g z e),λg z e=>(y.bare g z e).elim (x.bare g z) .inr⟩
structure eC (O:cP) (F:Fz) (s:Shared) (O':cP) (F':Fz) (s':Shared):Prop where
 keep:∀ b o,b∉O->s.heap.get? b=some o->s'.heap.get? b=some o
 own:∀ b∈O',b∈O\/s.heap.get? b=none
 frz:∀ b o,F' b=some o->F b=some o\/b∈O\/s.heap.get? b=none
 mono:F.le F'
 gens:gr s.gens s'.gens
 os:s'.os=s.os
theorem eC.refl (O:cP) (F:Fz) (s:Shared):eC O F s O F s:=
 ⟨λy y y e=>e,λy h=>.inl h,λy y e=>.inl e,.refl F,.refl _,rfl⟩
theorem wA {h h':Heap} (k:∀ b o,h.get? b=some o->h'.get? b=some o) {b:Addr} (e:h'.get? b=none):h.get? b=none:=
 bm.mpr λo w=>nomatch (k b o w).symm.trans e
theorem eC.trans {O F s O' F' s' O'' F'' s''} (a:eC O F s O' F' s') (b:eC O' F' s' O'' F'' s''):eC O F s O'' F'' s'':=
 have ke:∀ x,s'.heap.get? x=none->x∈O\/s.heap.get? x=none:=λx hx=>
  (Classical.em (x∈O)).imp_right λhm=>bm.mpr λo w=>nomatch (a.keep x o hm w).symm.trans hx
 ⟨λx o hx e=>b.keep x o (λhm=>(a.own x hm).elim hx λh=>nomatch h.symm.trans e) (a.keep x o hx e),λx hx=>(b.own x hx).elim (a.own x) (ke x),
  λx o e=>(b.frz x o e).elim (a.frz x o) λh=>.inr (h.elim (a.own x) (ke x)),a.mono.trans b.mono,a.gens.trans b.gens,b.os.trans a.os⟩
theorem eC.over {O O0 O':cP} {F F':Fz} {s s5 s':Shared} (p:eC O0 F s5 O' F' s') (low:∀ b∈O0,b∈O\/s.heap.get? b=none) (k:∀ b o,s.heap.get? b=some o->s5.heap.get? b=some o) (g:gr s.gens s5.gens) (os:s5.os=s.os):eC O F s O' F' s':=
 ⟨λb o hb e=>p.keep b o (λhm=>(low b hm).elim hb λz=>nomatch z.symm.trans e) (k _ _ e),λb hb=>(p.own b hb).elim (low b) λz=>.inr (wA k z),
  λb o e=>(p.frz b o e).imp_right λz=>z.elim (low b) λz=>.inr (wA k z),p.mono,g.trans p.gens,p.os.trans os⟩
theorem eC.fewer {O O' O'':cP} {F F':Fz} {s s':Shared} (p:eC O F s O' F' s') (h:∀ b∈O'',b∈O'):eC O F s O'' F' s':=⟨p.keep,λb hb=>p.own b (h b hb),p.frz,p.mono,p.gens,p.os⟩
theorem ee {o8:OL} {b:Addr}:b∈dj o8↔∃ p∈o8,b=p.1\/b∈p.2.more:=by
 induction o8 with
 | nil =>simp[dj]
 | cons p r ih=>
  simp only[dj,List.mem_cons,cf,ih]
  constructor
  . rintro (h | h | ⟨q,hq,h⟩)
    . exact⟨p,.inl rfl,.inl h⟩
    . exact⟨p,.inl rfl,.inr h⟩
    . exact⟨q,.inr hq,h⟩
  . intro z9;refine dW z9 ?_;clear z9;rintro q (rfl | hq) h
    . rcases h with h | h
      . exact .inl h
      . exact .inr (.inl h)
    . exact .inr (.inr ⟨q,hq,h⟩)
theorem fk (a b:OL):dj (a++b)=dj a++dj b:=by
 induction a with
 | nil=>rfl
 | cons p r ih=>simp[dj,ih]
theorem yx.there {P:Params} {F:Fz} {h:Heap} {a:Addr} {o:AO} (H:yx P F h a o):∀ b,b=a\/b∈o.more->∃ x,h.get? b=some x:=by
 intro b hb
 cases o with
 | inst C dx fs=>
  obtain⟨h1,es,n,h2,_⟩:=H
  rcases hb with rfl | hb
  . exact⟨_,h1⟩
  . exact(bL.mp hb)▸(⟨_,h2⟩)
 | list l=>refine im (H) ?_;clear H;rintro vs n h1 y;rcases hb with rfl | hb;exact⟨_,h1⟩;contradiction
 | dict l=>obtain⟨⟨vs,n,h1,_⟩,_⟩:=H;rcases hb with rfl | hb;exact⟨_,h1⟩;contradiction
 | cell v=>
  induction v using Option.casesOn with
  | none=>refine dW (H) ?_;clear H;rintro o h1 y;rcases hb with rfl | hb;exact⟨_,h1⟩;contradiction
  | some d=>refine dW (H) ?_;clear H;rintro v ⟨o,h1,_⟩ _;rcases hb with rfl | hb;exact⟨_,h1⟩;contradiction
 | is p=>refine dW (H) ?_;clear H;rintro o h1 y;rcases hb with rfl | hb;exact⟨_,h1⟩;contradiction
theorem yx.move {P:Params} {F F':Fz} {h h':Heap} {a:Addr} {o:AO} (H:yx P F h a o) (k:F.le F') (e:∀ b x,b=a\/b∈o.more->h.get? b=some x->h'.get? b=some x):yx P F' h' a o:=by
 cases o with
 | inst C dx fs=>
  obtain⟨h1,es,n,h2,h3⟩:=H;exact⟨e _ _ (.inl rfl) h1,es,n,e _ _ (.inr (bL.mpr rfl)) h2,h3.mono k⟩
 | list l=>refine im (H) ?_;clear H;rintro vs n h1 h2;exact⟨vs,n,e _ _ (.inl rfl) h1,h2.mono k⟩
 | dict l=>obtain⟨⟨vs,n,h1,h2⟩,h3⟩:=H;exact⟨⟨vs,n,e _ _ (.inl rfl) h1,h2.mono k⟩,h3⟩
 | cell v=>
  induction v using Option.casesOn with
  | none=>refine dW (H) ?_;clear H;rintro o h1 h2;exact⟨o,e _ _ (.inl rfl) h1,h2⟩
  | some d=>refine dW (H) ?_;clear H;rintro v ⟨o,h1,h3⟩ h2;exact⟨v,⟨o,e _ _ (.inl rfl) h1,h3⟩,h2.mono k⟩
 | is p=>refine dW (H) ?_;clear H;rintro o h1 h2;exact⟨o,e _ _ (.inl rfl) h1,h2⟩
section
variable {P:Params} {G:Heap} {L:Addr} {F F':Fz} {H:HL} {σ:St} {h h':Heap}
theorem Holds.there (x:Holds P G L F H σ h):∀ b∈L::dj σ.objs,∃ o,h.get? b=some o:=by
 intro b hb
 rcases fG hb with rfl | hb
 . obtain⟨m,⟨o,_,_,ho,_⟩,_⟩:=x.loc;exact⟨o,ho⟩
 . obtain⟨p,hp,hb⟩:=ee.mp hb
   exact(x.objs p hp).there b hb
theorem Holds.grow (x:Holds P G L F H σ h) (k:∀ b o,h.get? b=some o->h'.get? b=some o):Holds P G L F H σ h':=
 ⟨x.core,λb o e=>k _ _ (x.sub b o e),let ⟨m,hm,r⟩:=x.loc;⟨m,hm.keeps k,r⟩,x.names,λp hp=>(x.objs p hp).move (.refl F) λb o y e=>k _ _ e,x.nodup,x.apart,x.held,x.low⟩
noncomputable def Fz.put (F:Fz) (a:Addr) (o:Obj):Fz:=λb=>if b=a then some o else F b
theorem Fz.put_self (F:Fz) (a:Addr) (o:Obj):F.put a o a=some o:=by simp[Fz.put]
theorem Fz.le_put {F:Fz} {a:Addr} {o:Obj} (n:F a=none):F.le (F.put a o):=λb o' e=>by
 unfold Fz.put
 split
 . rename_i q;rw[q,n]at e;contradiction
 . exact e
theorem Holds.frozen (x:Holds P G L F H σ h) (k:∀ b o,h.get? b=some o->h'.get? b=some o) {a:Addr} {o:Obj} (hn:h.get? a=none) (ha:h'.get? a=some o):
 Holds P G L (F.put a o) H σ h'/\F.le (F.put a o):=by
 have hF:F a=none:=by
  induction q:F a using Option.casesOn with
  | none=>rfl
  | some o'=>rw[x.sub _ _ q]at hn;contradiction
 have le:=Fz.le_put (o:=o) hF
 refine⟨⟨λb o' e=>le _ _ (x.core b o' e),λb o' e=>?_,?_,x.names,λp hp=>(x.objs p hp).move le λb o' _ e=>k _ _ e,x.nodup,λb hb=>?_,λp hp=>(x.held p hp).mono le,x.low⟩,le⟩
 . unfold Fz.put at e
   split at e
   . rename_i q;subst q;obtain rfl:=Option.some.inj e;exact ha
   . exact k _ _ (x.sub _ _ e)
 . refine dW (x.loc) ?_;rintro m hm r
   exact⟨m,hm.keeps k,λy d hy=>let ⟨v,e,q⟩:=r y d hy;⟨v,e,q.mono le⟩⟩
 . unfold Fz.put
   split
   . rename_i q
     obtain⟨o',ho'⟩:=x.there b hb;rw[q,hn]at ho';contradiction
   . exact x.apart b hb
theorem Holds.weaken (x:Holds P G L F H σ h) {H':HL} (e:∀ p∈H',p∈H):Holds P G L F H' σ h:=
 ⟨x.core,x.sub,x.loc,x.names,x.objs,x.nodup,x.apart,λp hp=>x.held p (e p hp),x.low⟩
theorem Holds.push (x:Holds P G L F H σ h) {v:Value} {d:AV} (q:Is P F v d):Holds P G L F ((v,d)::H) σ h:=
 ⟨x.core,x.sub,x.loc,x.names,x.objs,x.nodup,x.apart,λp hp=>by rcases fG hp with rfl | hp;exact q;exact x.held p hp,x.low⟩
theorem Holds.hold (x:Holds P G L F H σ h) {v:Value} {d:AV} (q:(v,d)∈H):Is P F v d:=x.held _ q
end
section
variable {P:Params} {F:Fz} {v:Value} {d:AV} {l:cL} {vs:cO}
def EP (P:Params) (F:Fz) (v:Value) (d:AV):Prop:=AV.casesOn d (v=.none) (λb=>v=.bool b) (λi=>∃ t,v=.int i t) (λx=>∃ t,v=.str (S x) t) (λw=>v=w) (λa=>v=.ref a) (λl=>∃ a vs n,v=.ref a/\F a=some (ly vs n)/\IsAll P F vs l) (λl=>∃ a vs n,v=.ref a/\F a=some (dZ vs n)/\IsAll P F vs l)
 (λl=>∃ a es n,v=.ref a/\F a=some (dictOf es n)/\IsEnts P F es l/\(l.map (·.1)).Nodup/\(a==sysModules)=false) (λf self=>∃ a,v=.ref a/\F a=some (methodObj (.ref f) (.ref self))) (λp=>∃ a o,v=.ref a/\F a=some o/\p o) True
theorem gX (h:Is P F v d):EP P F v d:=
 @Is.casesOn P F (λv d y=>EP P F v d) v d h rfl (λy=>rfl) (λy t=>⟨t,rfl⟩) (λy t=>⟨t,rfl⟩) (λy=>rfl) (λy=>rfl) (λe k=>⟨_,_,_,rfl,e,k⟩) (λe k=>⟨_,_,_,rfl,e,k⟩) (λe k n q=>⟨_,_,_,rfl,e,k,n,q⟩) (λe=>⟨_,rfl,e⟩) (λe k=>⟨_,_,rfl,e,k⟩) λy=>trivial
theorem dw {i:Int} (h:Is P F v (.int i)):∃ t,v=.int i t:=gX h
theorem dD {x:cK} (h:Is P F v (.str x)):∃ t,v=.str (S x) t:=gX h
theorem m8 {x:Bool} (h:Is P F v (.bool x)):v=.bool x:=gX h
theorem gC (h:Is P F v .none):v=.none:=gX h
theorem dF {a:Addr} (h:Is P F v (.ref a)):v=.ref a:=gX h
theorem wJ {w:Value} (h:Is P F v (.lit w)):v=w:=gX h
theorem iy (h:Is P F v (.tup l)):∃ a vs n,v=.ref a/\F a=some (ly vs n)/\IsAll P F vs l:=gX h
theorem fz (h:Is P F v (.lst l)):∃ a vs n,v=.ref a/\F a=some (dZ vs n)/\IsAll P F vs l:=gX h
theorem oo {l:FL} (h:Is P F v (.dct l)):∃ a es n,v=.ref a/\F a=some (dictOf es n)/\IsEnts P F es l/\(l.map (·.1)).Nodup:=Qy (gX h) λa es n e k q d y=>⟨a,es,n,e,k,q,d⟩
theorem Bs {l:FL} (h:Is P F v (.dct l)):∃ a es n,v=.ref a/\F a=some (dictOf es n)/\IsEnts P F es l/\(l.map (·.1)).Nodup/\(a==sysModules)=false:=gX h
theorem lJ {f self:Addr} (h:Is P F v (.meth f self)):∃ a,v=.ref a/\F a=some (methodObj (.ref f) (.ref self)):=gX h
theorem jq {p:Obj->Prop} (h:Is P F v (.obj p)):∃ a o,v=.ref a/\F a=some o/\p o:=gX h
def A6 (P:Params) (F:Fz) (vs:cO) (l:cL):Prop:=List.casesOn l (vs=[]) λd l=>∃ v ws,vs=v::ws/\Is P F v d/\IsAll P F ws l
theorem iX (h:IsAll P F vs l):A6 P F vs l:=h.ind (C:=λvs l=>A6 P F vs l) rfl λv y ws y q r y=>⟨v,ws,rfl,q,r⟩
theorem BZ {d1:AV} (h:IsAll P F vs [d1]):∃ v1,vs=[v1]/\Is P F v1 d1:=jk (iX h) λv y e q r=>⟨v,e.trans (cG (v::·) (iX r)),q⟩
theorem xO {d1 d2:AV} (h:IsAll P F vs [d1,d2]):∃ v1 v2,vs=[v1,v2]/\Is P F v1 d1/\Is P F v2 d2:=jk (iX h) λv y e q r=>dW (BZ r) λw e2 q2=>⟨v,w,e.trans (cG (v::·) e2),q,q2⟩
theorem JO {d1 d2 d3:AV} (h:IsAll P F vs [d1,d2,d3]):∃ v1 v2 v3,vs=[v1,v2,v3]/\Is P F v1 d1/\Is P F v2 d2/\Is P F v3 d3:=jk (iX h) λv y e q r=>jk (xO r) λw u e2 q2 q3=>⟨v,w,u,e.trans (cG (v::·) e2),q,q2,q3⟩
theorem Ou {d1 d2 d3 d4:AV} (h:IsAll P F vs [d1,d2,d3,d4]):∃ v1 v2 v3 v4,vs=[v1,v2,v3,v4]/\Is P F v1 d1/\Is P F v2 d2/\Is P F v3 d3/\Is P F v4 d4:=jk (iX h) λv y e q r=>Ok (JO r) λw u z e2 q2 q3 q4=>⟨v,w,u,z,e.trans (cG (v::·) e2),q,q2,q3,q4⟩
end
end
section
variable {A:Around} {F:Fz} {s s':Shared} {Ψ:Fz->St->Prop} {vs:cO} {v:Value} {d:AV}
structure dc where
 prog:Program
 w:World
 G:Heap
 K:Frag
 X:K.In G
 g:∃ mg,G.Ns mainGlobals mg
 b:∃ mb,G.Ns builtinsNs mb/\∀ x,x≠("__name__":Str)->mb x=bootBuiltins x
 nolimit:G.NoLimit
noncomputable abbrev dc.M (B:dc):Model:=model B.prog B.w
noncomputable abbrev dc.P (B:dc):Params:=B.w.params
structure gn (n:Nat) (A:Around):Prop where
 handled:A.handled=none
 depth:A.depth+n<=900
 units:A.units+8*n<=9000
theorem gn.le {n m:Nat} (h:gn n A) (e:m<=n):gn m A:=⟨h.1,by have:=h.2;omega,by have:=h.3;omega⟩
abbrev PV:=Value->AV->St->Prop
inductive dm (B:dc) (L:Addr) (H:HL) (σ:St) (F:Fz) (s s':Shared) (Ψ:Fz->St->Prop):Prop
 | mk (F':Fz) (σ':St) (x:Holds B.P B.G L F' H σ' s'.heap) (p:eC (L::dj σ.objs) F s (L::dj σ'.objs) F' s') (q:Ψ F' σ')
structure W {α:Type} (B:dc) (n:Nat) (L:Addr) (t:Sem α) (H:HL) (σ:St) (Ψ:α->Fz->St->Prop):Prop where
 run:∀ A F s,gn n A->Holds B.P B.G L F H σ s.heap->wpAny B.M A t (λa s'=>dm B L H σ F s s' (Ψ a)) (λy y=>False) s
theorem dg {α:Type} {B:dc} {n:Nat} {L:Addr} {t:Sem α} {H:HL} {σ:St} {Ψ:α->Fz->St->Prop}
 (h:∀ A F s,gn n A->Holds B.P B.G L F H σ s.heap->wpAny B.M A t (λa s'=>dm B L H σ F s s' (Ψ a)) (λy y=>False) s):W B n L t H σ Ψ:=⟨h⟩
abbrev WV (B:dc) (n:Nat) (L:Addr) (t:Sem Value) (H:HL) (σ:St) (Φ:PV):Prop:=
 W B n L t H σ (λv F' σ'=>∃ d,Is B.P F' v d/\Φ v d σ')
abbrev WB (B:dc) (n:Nat) (L:Addr) (t:Sem Bool) (H:HL) (σ:St) (Φ:Bool->St->Prop):Prop:=
 W B n L t H σ (λb y σ'=>Φ b σ')
abbrev WU (B:dc) (n:Nat) (L:Addr) (t:Sem Unit) (H:HL) (σ:St) (Φ:St->Prop):Prop:=
 W B n L t H σ (λy y σ'=>Φ σ')
inductive Fl where
 | next | brk | cont | ret (d:AV)
noncomputable def Fl.ctorIdx (x:Fl):Nat:=Fl.casesOn x 0 1 2 (λy=>3)
def pJ (P:Params) (F:Fz):Flow->Fl->Prop
 | .next,.next=>True
 | .brk,.brk=>True
 | .cont,.cont=>True
 | .ret v,.ret d=>Is P F v d
 | _,_=>False
abbrev WF (B:dc) (n:Nat) (L:Addr) (t:Sem Flow) (H:HL) (σ:St) (Φ:Fl->St->Prop):Prop:=
 W B n L t H σ (λf F' σ'=>∃ e,pJ B.P F' f e/\Φ e σ')
abbrev PF:=Fl->St->Prop
section
variable {B:dc} {n:Nat} {L:Addr} {H:HL} {σ:St} {α β:Type}
theorem dm.here (h:Holds B.P B.G L F H σ s.heap) (q:Ψ F σ):dm B L H σ F s s Ψ:=⟨F,σ,h,.refl _ _ _,q⟩
theorem dm.mono {Ψ':Fz->St->Prop} (h:dm B L H σ F s s' Ψ) (k:∀ F' σ',Ψ F' σ'->Ψ' F' σ'):dm B L H σ F s s' Ψ':=
 let ⟨F',σ',a,b,c⟩:=h;⟨F',σ',a,b,k _ _ c⟩
theorem kK {t:Sem α} {Ψ:α->Fz->St->Prop} (h:∀ A F s (Q:α->Shared->Prop),gn n A->Holds B.P B.G L F H σ s.heap->(∀ a s',dm B L H σ F s s' (Ψ a)->Q a s')->wpAny B.M A t Q (λy y=>False) s):W B n L t H σ Ψ:=
 ⟨λA F s hA X=>h A F s _ hA X λy y z=>z⟩
theorem W.then {t:Sem α} {Ψ:α->Fz->St->Prop} (w:W B n L t H σ Ψ) {Q:α->Shared->Prop} {E:Value->Shared->Prop} (hA:gn n A) (X:Holds B.P B.G L F H σ s.heap)
 (k:∀ a s' F' σ',Holds B.P B.G L F' H σ' s'.heap->eC (L::dj σ.objs) F s (L::dj σ'.objs) F' s'->Ψ a F' σ'->Q a s'):wpAny B.M A t Q E s:=
 cD (w.run A F s hA X) (λa s' z=>by cases z with | mk F' σ' x p q=>exact k a s' F' σ' x p q) λy y z=>z.elim
theorem oz {t:Sem α} {Ψ Ψ':α->Fz->St->Prop} (h:W B n L t H σ Ψ) (k:∀ a F σ,Ψ a F σ->Ψ' a F σ):W B n L t H σ Ψ':=
 dg λA F s hA x=>cD (h.run A F s hA x) (λw w y=>y.mono λw w z=>k _ _ _ z) λw w y=>y
theorem AF {t:Sem α} {m:Nat} {Ψ:α->Fz->St->Prop} (h:W B m L t H σ Ψ) (e:m<=n):W B n L t H σ Ψ:=
 dg λA F s hA x=>h.run A F s (hA.le e) x
theorem gg {t:Sem α} {k:α->Sem β} {af:α->Fz->St->Prop} {Ψ:β->Fz->St->Prop} (h:W B n L t H σ af)
 (hk:∀ a F a6,af a F a6->∃ H',(∀ p∈H,p∈H')/\(∀ p∈H',p∈H\/Is B.P F p.1 p.2)/\W B n L (k a) H' a6 Ψ):W B n L (t >>= k) H σ Ψ:=by
 refine dg λA F s hA x=>?_
 refine cC (cD (h.run A F s hA x) (λa s5 y=>?_) λz z y=>y)
 obtain⟨F0,a6,x0,p0,q⟩:=y;refine jM (hk a F0 a6 q) ?_;rintro H' e1 e2 w
 have x9:Holds B.P B.G L F0 H' a6 s5.heap:=⟨x0.core,x0.sub,x0.loc,x0.names,x0.objs,x0.nodup,x0.apart,λp hp=>(e2 p hp).elim (x0.held p) id,x0.low⟩
 refine cD (w.run A F0 s5 hA x9) (λb s7 y=>?_) λz z y=>y
 obtain⟨F1,a9,x1,p5,q6⟩:=y;exact⟨F1,a9,x1.weaken e1,p0.trans p5,q6⟩
theorem dr {t:Sem Value} {k:Value->Sem β} {Ψ:β->Fz->St->Prop} (h:WV B n L t H σ (λv d a6=>W B n L (k v) ((v,d)::H) a6 Ψ)):W B n L (t >>= k) H σ Ψ:=
 gg h λa F a6 q=>by
  refine dW (q) ?_;clear q;rintro d hd w
  exact⟨(a,d)::H,λp hp=>.tail _ hp,λp hp=>by rcases fG hp with rfl | hp;exact .inr hd;exact .inl hp,w⟩
theorem gE {t:Sem Bool} {k:Bool->Sem β} {Ψ:β->Fz->St->Prop} (h:WB B n L t H σ (λb a6=>W B n L (k b) H a6 Ψ)):W B n L (t >>= k) H σ Ψ:=
 gg h λa F a6 q=>⟨H,λy h=>h,λy h=>.inl h,q⟩
theorem fS {t:Sem Unit} {k:Unit->Sem β} {Ψ:β->Fz->St->Prop} (h:WU B n L t H σ (λa6=>W B n L (k ()) H a6 Ψ)):W B n L (t >>= k) H σ Ψ:=
 gg h λa F a6 q=>⟨H,λy h=>h,λy h=>.inl h,q⟩
theorem di {t:Sem α} {Ψ:α->Fz->St->Prop} (h:W B n L t H σ Ψ):W B n L (holding vs t) H σ Ψ:=dg λA F s hA x=>cu (h.run A F s hA x)
theorem dt {p:Pos} {k:Unit->Sem β} {Ψ:β->Fz->St->Prop} (h:W B n L (k ()) H σ Ψ):W B n L (standAt p >>= k) H σ Ψ:=dg λA F s hA x=>cC (wpAny_standAt (h.run A F s hA x))
theorem dm.toks {tk:Nat} (h:Holds B.P B.G L F H σ s.heap) (q:Ψ F σ):dm B L H σ F s { s with toks:=tk } Ψ:=
 ⟨F,σ,h,⟨λy y y e=>e,λy h=>.inl h,λy y e=>.inl e,.refl F,.refl _,rfl⟩,q⟩
theorem dm.more (h:Holds B.P B.G L F H σ s.heap) (k:∀ b o,s.heap.get? b=some o->s'.heap.get? b=some o) (g:s'.gens=s.gens) (o:s'.os=s.os) (q:Ψ F σ):dm B L H σ F s s' Ψ:=
 ⟨F,σ,h.grow k,⟨λb o y e=>k b o e,λy h=>.inl h,λy y e=>.inl e,.refl F,.of g,o⟩,q⟩
theorem dm.fresh (h:Holds B.P B.G L F H σ s.heap) {a:Addr} {o:Obj} (k:∀ b o,s.heap.get? b=some o->s'.heap.get? b=some o)
 (hn:s.heap.get? a=none) (ha:s'.heap.get? a=some o) (g:s'.gens=s.gens) (os:s'.os=s.os) (q:F.le (F.put a o)->Ψ (F.put a o) σ):dm B L H σ F s s' Ψ:=by
 obtain⟨x,le⟩:=h.frozen k hn ha;refine⟨_,σ,x,⟨λb o _ e=>k b o e,λ_ h=>.inl h,λb o' e=>?_,le,.of g,os⟩,q le⟩
 unfold Fz.put at e
 split at e
 . rename_i z;subst z;exact .inr (.inr hn)
 . exact .inl e
end
variable {A:Around} {F:Fz} {s s':Shared} {Ψ:Fz->St->Prop} {vs:cO} {v:Value} {d:AV}
section
variable {B:dc} {n:Nat} {L:Addr} {H:HL} {σ:St} {α β:Type}
theorem dm.weaken {H':HL} (y:dm B L H' σ F s s' Ψ) (e:∀ p∈H,p∈H'):dm B L H σ F s s' Ψ:=
 let ⟨F',σ',a,b,c⟩:=y;⟨F',σ',a.weaken e,b,c⟩
theorem dm.then {t:Sem β} {s5:Shared} {af:Fz->St->Prop} {Ψ:β->Fz->St->Prop} (y:dm B L H σ F s s5 af)
 (k:∀ F0 a6,Holds B.P B.G L F0 H a6 s5.heap->af F0 a6->wpAny B.M A t (λb s7=>dm B L H a6 F0 s5 s7 (Ψ b)) (λx x=>False) s5):
 wpAny B.M A t (λb s7=>dm B L H σ F s s7 (Ψ b)) (λx x=>False) s5:=by
 obtain⟨F0,a6,x0,p0,q⟩:=y;refine cD (k F0 a6 x0 q) (λb s7 y=>?_) λx x z=>z
 obtain⟨F1,a9,x1,p5,q6⟩:=y;exact⟨F1,a9,x1,p0.trans p5,q6⟩
theorem dm.fin {s5 s7:Shared} {af:Fz->St->Prop} (y:dm B L H σ F s s5 af)
 (k:∀ F0 a6,Holds B.P B.G L F0 H a6 s5.heap->af F0 a6->dm B L H a6 F0 s5 s7 Ψ):dm B L H σ F s s7 Ψ:=by
 obtain⟨F0,a6,x0,p0,q⟩:=y;obtain⟨F1,a9,x1,p5,q6⟩:=k F0 a6 x0 q;exact⟨F1,a9,x1,p0.trans p5,q6⟩
theorem nP {t:Sem β} {Ψ:β->Fz->St->Prop} (w:W B n L t H σ Ψ):W B n L t ((v,d)::H) σ Ψ:=
 dg λA F s hA x=>by
  have y:=w.run A F s hA (x.weaken λu hp=>.tail _ hp)
  refine cD y (λb s' z=>?_) λu u z=>z
  obtain⟨F',σ',a,b',c⟩:=z;exact⟨F',σ',⟨a.core,a.sub,a.loc,a.names,a.objs,a.nodup,a.apart,λp hp=>(x.held p hp).mono b'.mono,x.low⟩,b',c⟩
end
variable {A:Around} {F:Fz} {s s':Shared} {Ψ:Fz->St->Prop} {vs:cO} {v:Value} {d:AV}
section
variable {B:dc} {n:Nat} {L:Addr} {H:HL} {σ:St} {α β:Type}
theorem dk {t:Sem Value} {Φ Φ':PV} (h:WV B n L t H σ Φ) (k:∀ v d σ,Φ v d σ->Φ' v d σ):WV B n L t H σ Φ':=
 oz h λ_ _ _ ⟨d,hd,q⟩=>⟨d,hd,k _ _ _ q⟩
theorem gN {t:Sem Bool} {Φ Φ':Bool->St->Prop} (h:WB B n L t H σ Φ) (k:∀ b σ,Φ b σ->Φ' b σ):WB B n L t H σ Φ':=oz h λy y y q=>k _ _ q
theorem i9 {t:Sem Unit} {Φ Φ':St->Prop} (h:WU B n L t H σ Φ) (k:∀ σ,Φ σ->Φ' σ):WU B n L t H σ Φ':=oz h λy y y q=>k _ q
theorem qZ {t:Sem Flow} {Φ Φ':PF} (h:WF B n L t H σ Φ) (k:∀ f σ,Φ f σ->Φ' f σ):WF B n L t H σ Φ':=oz h λ_ _ _ ⟨d,hd,q⟩=>⟨d,hd,k _ _ q⟩
theorem gx {m:Sem Value} {Ψ:Value->Fz->St->Prop} (h:W B n L m H σ Ψ):W B n L (operate vs m) H σ Ψ:=dg λA F s hA x=>wpAny_operateT (h.run A F s hA x)
theorem qF {ks:cO} {k:Unit->Sem β} {Ψ:β->Fz->St->Prop} (h:W B n L (k ()) H σ Ψ):W B n L (release vs ks >>= k) H σ Ψ:=dg λA F s hA x=>cC (wpAny_release (h.run A F s hA x))
theorem jg {ks:cO} {Φ:St->Prop} (h:Φ σ):WU B n L (release vs ks) H σ Φ:=dg λA F s hA x=>wpAny_release (.here x h)
theorem uS {Φ:PV} (m:(v,d)∈H) (h:Φ v d σ):WV B n L (pure v) H σ Φ:=dg λy y y y x=>cE (.here x ⟨d,x.hold m,h⟩)
theorem oZ {a:α} {Φ:α->St->Prop} (h:Φ a σ):W B n L (pure a) H σ (λa y σ=>Φ a σ):=dg λy y y y x=>cE (.here x h)
theorem lm {Φ:PF} (h:Φ .next σ):WF B n L (pure .next) H σ Φ:=dg λy y y y x=>cE (.here x ⟨.next,trivial,h⟩)
theorem wZ {H':HL} {t:Sem α} {Ψ:α->Fz->St->Prop} (h:W B n L t H' σ Ψ) (e:∀ p∈H',p∈H):W B n L t H σ Ψ:=dg λA F s hA x=>by
 refine cD (h.run A F s hA (x.weaken e)) (λb s' z=>?_) λy y z=>z
 obtain⟨F',σ',a,b',c⟩:=z;exact⟨F',σ',⟨a.core,a.sub,a.loc,a.names,a.objs,a.nodup,a.apart,λp hp=>(x.held p hp).mono b'.mono,x.low⟩,b',c⟩
end
end
section
variable {Φ:PV} {x l r e t:Expr} {v:Value} {r8:cN}
def eS (B:dc) (v:Value) (d:AV):Prop:=∀ F:Fz,(∀ b o,B.G.get? b=some o->F b=some o)->Is B.P F v d
theorem eS.lit (B:dc) (v:Value):eS B v (.lit v):=λy y=>.lit v
section
variable {B:dc} {n:Nat} {L:Addr} {H:HL} {σ:St} {e5:Env}
theorem HW {k pi} (h:Φ .none .none σ):WV B n L (eval (.Constant .none k pi) e5) H σ Φ:=
 dg λy y y y x=>wpAny_Constant_none (.here x ⟨_,.none,h⟩)
theorem FU {b k pi} (h:Φ (.bool b) (.bool b) σ):WV B n L (eval (.Constant (.bool b) k pi) e5) H σ Φ:=
 dg λy y y y x=>wpAny_Constant_bool (.here x ⟨_,.bool b,h⟩)
theorem LC {i k pi} (h:∀ v,Φ v (.int i) σ):WV B n L (eval (.Constant (.int i) k pi) e5) H σ Φ:=
 dg λy y y y x=>wpAny_Constant_int (.toks x ⟨_,.int i _,h _⟩)
theorem Mc {x:Str} {l:cK} {k pi} (e:x=S l) (h:∀ v,Φ v (.str l) σ):WV B n L (eval (.Constant (.str x) k pi) e5) H σ Φ:=
 dg λz z z z y=>wpAny_Constant_str (.toks y ⟨_,e▸.str l _,h _⟩)
theorem Di {x:Str} {pi d} (hm:(x,some d)∈σ.loc) (h:∀ v,Φ v d σ) (hk:autoParam (e5.scope.kind=.function) bR) (hl:autoParam (e5.kindOf x=some .local) bR)
 (hL:autoParam (e5.locals=L) bR) (hd:autoParam ((x==("__debug__":Str))=false) bD):WV B n L (eval (.Name x pi) e5) H σ Φ:=by
 refine dg λA F s hA X=>?_
 refine dW (X.loc) ?_;rintro m aV r
 refine dW (r x d hm) ?_;rintro v e q
 exact wpAny_Name (wpAny_loadName_local hk hl (hL.symm▸aV) e (.here X ⟨d,q,h v⟩)) hd
theorem sU {x:Str} {pi} {d:AV} (e:nsIn B.K mainGlobals x=some (some v)) (c:eS B v d) (h:Φ v d σ) (hk:autoParam (e5.scope.kind=.function) bR)
 (hl:autoParam (e5.kindOf x=some .globalImplicit) bR) (hg:autoParam (e5.globals=mainGlobals) bR) (hd:autoParam ((x==("__debug__":Str))=false) bD):WV B n L (eval (.Name x pi) e5) H σ Φ:=by
 refine dg λA F s hA X=>?_
 obtain⟨mg,g⟩:=B.g;refine Calls.Name_function_global hk hl (Calls.loadGlobal_global (hg.symm▸(g.keeps λb o e=>X.sub _ _ (X.core b o e))) (mg_of B.X g e) ?_) hd
 exact .here X ⟨d,c F X.core,h⟩
theorem xQ {x:Str} {pi} (e:nsIn B.K mainGlobals x=some none) (hb:bootBuiltins x=some v) (h:Φ v (.lit v) σ) (hk:autoParam (e5.scope.kind=.function) bR)
 (hl:autoParam (e5.kindOf x=some .globalImplicit) bR) (hg:autoParam (e5.globals=mainGlobals) bR) (aM:autoParam (e5.builtins=builtinsNs) bR) (hn:autoParam (x≠("__name__":Str)) bD)
 (hd:autoParam ((x==("__debug__":Str))=false) bD):WV B n L (eval (.Name x pi) e5) H σ Φ:=by
 refine dg λA F s hA X=>?_
 obtain⟨mg,g⟩:=B.g;refine dW (B.b) ?_;rintro mb b hmb
 have up:∀ b o,B.G.get? b=some o->s.heap.get? b=some o:=λb o e=>X.sub _ _ (X.core b o e)
 refine Calls.Name_function_global hk hl (Calls.loadGlobal_builtin (hg.symm▸(g.keeps up)) (mg_none_of B.X g e) (aM.symm▸(b.keeps up)) ((hmb x hn).trans hb) ?_) hd
 exact .here X ⟨_,.lit v,h⟩
theorem wU {op pi}
 (h:WV B n L (eval l e5) H σ λa x a6=>WV B n L (eval r e5) ((a,x)::H) a6 λb y a9=>WV B n L (binaryOp op a b) ((b,y)::(a,x)::H) a9 Φ):
 WV B n L (eval (.BinOp l op r pi) e5) H σ Φ:=by
 rw[eval_BinOp];exact dr (dk h λa x a6 w=>dr (di (dk w λb y a9 w0=>dt (gx w0))))
theorem qI {op pi}
 (h:WV B n L (eval l e5) H σ λa x a6=>WV B n L (eval r e5) ((a,x)::H) a6 λb y a9=>WV B n L (compareOp op a b) ((b,y)::(a,x)::H) a9 Φ)
 (hm:autoParam (behindInMarks op r=false) bW):WV B n L (eval (.Compare l [op] [r] pi) e5) H σ Φ:=by
 rw[eval_Compare1,markedBehindIn_of_false hm];exact dr (dk h λa x a6 w=>dr (di (dk w λb y a9 w0=>dt (gx w0))))
theorem lw {b:Bool} {Φ:Bool->St->Prop} (m:(v,.bool b)∈H) (h:Φ b σ):WB B n L (truthy v) H σ Φ:=dg λA F s hA x=>by
 obtain rfl:=m8 (x.hold m)
 exact wpAny_truthy_bool (.here x h)
theorem qW {op pi wd} {Φ:Bool->St->Prop}
 (h:WV B n L (eval l e5) H σ λa x a6=>WV B n L (eval r e5) ((a,x)::H) a6 λb y a9=>WV B n L (compareOp op a b) ((b,y)::(a,x)::H) a9 λv z aa=>∃ c,z=.bool c/\Φ c aa)
 (hm:autoParam (behindInMarks op r=false) bW):WB B n L (isTrue (.Compare l [op] [r] pi) e5 wd) H σ Φ:=by
 rw[isTrue_Compare1,markedBehindIn_of_false hm];exact dr (dk h λa x a6 w=>dr (di (dk w λb y a9 w0=>dt (dr (gx (dk w0 λc z aa ⟨k,e,q⟩=>by
  subst e;exact di (lw dP q)))))))
theorem ro {Φ:Bool->St->Prop} (h:WV B n L (eval e e5) H σ λv d a6=>WB B n L (truthy v) ((v,d)::H) a6 Φ)
 (hs:∀ wd,isTrue e e5 wd=(do let v <-wd;standAt e.pos;holding [v] (truthy v)):=by with_unfolding_all exact λy=>rfl):
 WB B n L (isTrue e e5 (eval e e5)) H σ Φ:=by
 rw[hs];exact dr (dk h λv d a6 w=>dt (di w))
theorem Lr {pi wd} {Φ:Bool->St->Prop} (h:WB B n L (isTrue x e5 (eval x e5)) H σ λb a6=>Φ (!b) a6):WB B n L (isTrue (.UnaryOp .Not x pi) e5 wd) H σ Φ:=
 gE (k:=λb=>pure !b) (gN h λy y q=>oZ q)
theorem NE {pi wd} {Φ:Bool->St->Prop} (h:WB B n L (allTrue .And (x::r8) e5) H σ Φ):WB B n L (isTrue (.BoolOp .And (x::r8) pi) e5 wd) H σ Φ:=h
theorem PY {pi wd} {Φ:Bool->St->Prop} (h:WB B n L (allTrue .Or (x::r8) e5) H σ Φ):WB B n L (isTrue (.BoolOp .Or (x::r8) pi) e5 wd) H σ Φ:=h
theorem zO {Φ:Bool->St->Prop} (h:Φ true σ):WB B n L (allTrue .And [] e5) H σ Φ:=oZ h
theorem Db {Φ:Bool->St->Prop} (h:Φ false σ):WB B n L (allTrue .Or [] e5) H σ Φ:=oZ h
theorem qQ {Φ:Bool->St->Prop} (h:WB B n L (isTrue x e5 (eval x e5)) H σ λb a6=>(b=true->WB B n L (allTrue .And r8 e5) H a6 Φ)/\(b=false->Φ false a6)):
 WB B n L (allTrue .And (x::r8) e5) H σ Φ:=by
 rw[arm_allTrue_cons];refine gE (gN h λb a6 q=>?_)
 induction b using Bool.casesOn with
 | true=>exact q.1 rfl
 | false=>exact oZ (q.2 rfl)
theorem sM {Φ:Bool->St->Prop} (h:WB B n L (isTrue x e5 (eval x e5)) H σ λb a6=>(b=true->Φ true a6)/\(b=false->WB B n L (allTrue .Or r8 e5) H a6 Φ)):
 WB B n L (allTrue .Or (x::r8) e5) H σ Φ:=by
 rw[arm_allTrue_cons];refine gE (gN h λb a6 q=>?_)
 induction b using Bool.casesOn with
 | false=>exact q.2 rfl
 | true=>exact oZ (q.1 rfl)
theorem vH {b o:Expr} {pi} (h:WB B n L (isTrue t e5 (eval t e5)) H σ λc a6=>(c=true->WV B n L (eval b e5) H a6 Φ)/\(c=false->WV B n L (eval o e5) H a6 Φ)):
 WV B n L (eval (.IfExp t b o pi) e5) H σ Φ:=by
 rw[arm_eval_IfExp];refine gE (gN h λb a6 q=>?_)
 induction b using Bool.casesOn with
 | true=>exact q.1 rfl
 | false=>exact q.2 rfl
theorem KG {pi} (h:WV B n L (eval x e5) H σ λv d a6=>WB B n L (truthy v) ((v,d)::H) a6 λb a9=>Φ (.bool (!b)) (.bool (!b)) a9):
 WV B n L (eval (.UnaryOp .Not x pi) e5) H σ Φ:=by
 rw[arm_eval_UnaryOp];refine dr (dk h λv d a6 w=>dt (di<|dg λA F s hA x=>?_))
 exact not_value (cD (w.run A F s hA x) (λb s7 z=>z.fin λF1 a9 x1 q=>.here x1 ⟨_,.bool _,q⟩) λy y z=>z)
theorem EL {pi} (h:WV B n L (eval x e5) H σ λy d a6=>∃ i,d=.int i/\∀ v,Φ v (.int (-i)) a6):
 WV B n L (eval (.UnaryOp .USub x pi) e5) H σ Φ:=by
 rw[arm_eval_UnaryOp];refine dr (dk h λv d a6 ⟨i,e,q⟩=>dt (di<|dg λA F s hA x=>?_))
 subst e;obtain⟨t,rfl⟩:=dw (x.hold dP);exact neg_int (.toks x ⟨_,.int _ _,q _⟩)
theorem Fv {Φ:PF} (h:Φ .next σ):WF B n L (execs [] e5) H σ Φ:=dg λy y y y x=>wpAny_execs_nil (.here x ⟨.next,trivial,h⟩)
theorem H7 {st:Stmt} {r8:cM} {Φ:PF} (h:WF B n L (exec st e5) H σ λf a6=>match f with | .next=>WF B n L (execs r8 e5) H a6 Φ | f=>Φ f a6):
 WF B n L (execs (st::r8) e5) H σ Φ:=dg λA F s hA x=>by
 rw[execs_cons];refine cC (cD (h.run A F s hA x) (λf s5 z=>z.then λF0 a6 x0 ⟨e,he,q⟩=>?_) λy y z=>z)
 cases f with
 | next=>rcases e with _ | _<;>first | exact he.elim | exact q.run A F0 s5 hA x0
 | brk=>rcases e with _ | _<;>first | exact he.elim | exact cE (.here x0 ⟨.brk,trivial,q⟩)
 | cont=>rcases e with _ | _<;>first | exact he.elim | exact cE (.here x0 ⟨.cont,trivial,q⟩)
 | ret v=>rcases e with _ | _<;>first | exact he.elim | exact cE (.here x0 ⟨.ret _,he,q⟩)
theorem GL {pi} {Φ:PF} (h:Φ .next σ):WF B n L (exec (.Pass pi) e5) H σ Φ:=dg λy y y y x=>wpAny_Pass (.here x ⟨.next,trivial,h⟩)
theorem wQ {pi} {Φ:PF} (h:Φ .brk σ):WF B n L (exec (.Break pi) e5) H σ Φ:=dg λy y y y x=>wpAny_Break (.here x ⟨.brk,trivial,h⟩)
theorem ui {pi} {Φ:PF} (h:Φ .cont σ):WF B n L (exec (.Continue pi) e5) H σ Φ:=dg λy y y y x=>wpAny_Continue (.here x ⟨.cont,trivial,h⟩)
theorem pM {pi} {Φ:PF} (h:WV B n L (eval e e5) H σ λy d a6=>Φ (.ret d) a6):WF B n L (exec (.Return (some e) pi) e5) H σ Φ:=dg λA F s hA x=>
 wpAny_Return_some (cD (h.run A F s hA x) (λv s5 z=>z.fin λF0 a6 x0 ⟨d,hd,q⟩=>.here x0 ⟨.ret d,hd,q⟩) λy y z=>z)
theorem rQ {pi} {Φ:PF} (h:Φ (.ret .none) σ):WF B n L (exec (.Return none pi) e5) H σ Φ:=dg λy y y y x=>wpAny_Return_none (.here x ⟨.ret .none,.none,h⟩)
theorem CC {b3 oj:cM} {pi} {Φ:PF}
 (h:WB B n L (isTrue t e5 (eval t e5)) H σ λb a6=>(b=true->WF B n L (execs b3 e5) H a6 Φ)/\(b=false->WF B n L (execs oj e5) H a6 Φ)):WF B n L (exec (.If t b3 oj pi) e5) H σ Φ:=by
 rw[arm_exec_If];refine dt (gE (gN h λb a6 q=>?_))
 induction b using Bool.casesOn with
 | true=>exact q.1 rfl
 | false=>exact q.2 rfl
theorem ut {pi} {Φ:PF} (h:WV B n L (eval e e5) H σ λy y a6=>Φ .next a6) (hi:autoParam (interactive e5=false) bR) (hs:autoParam (swapsWith e none pi.line e5=pure false) bR):
 WF B n L (exec (.Expr e pi) e5) H σ Φ:=by
 rw[exec_Expr e5 e pi hi hs];refine dt (dr (dk h λv d a6 q=>dg λA F s hA x=>?_))
 exact wpAny_dropValue (.here x ⟨.next,trivial,q⟩)
theorem B1 {msg pi} {Φ:PF} (h:WB B n L (isTrue t e5 (eval t e5)) H σ λb a6=>b=true/\Φ .next a6):WF B n L (exec (.Assert t msg pi) e5) H σ Φ:=by
 rw[arm_exec_Assert];refine dt (gE (gN h λb a6 q=>?_))
 obtain⟨rfl,q⟩:=q;exact lm q
theorem lu {x:Str} {Φ:St->Prop} (h:WU B n L (storeName e5 x v) H σ Φ):WU B n L (bindName e5 x v) H σ Φ:=dg λA F s hA x=>wpAny_bindName (h.run A F s hA x)
theorem gv {x:Str} {p pi} {Φ:PF} (h:WV B n L (eval e e5) H σ λv d a6=>WU B n L (storeName e5 x v) ((v,d)::H) a6 λa9=>Φ .next a9)
 (hs:autoParam (swapsWith e (some (.Name x p)) pi.line e5=pure false) bR):WF B n L (exec (.Assign [.Name x p] e pi) e5) H σ Φ:=by
 rw[exec_Assign_Name e5 x p e pi hs];exact dt (dr (dk h λv d a6 w=>dt (fS (lu (i9 w λa9 q=>lm q)))))
theorem J1 {x:Str} {p pi op} {Φ:PF}
 (h:WV B n L (loadName e5 x) H σ λa d a6=>WV B n L (eval e e5) ((a,d)::H) a6 λb y a9=>WV B n L (inplaceOp op a b) ((b,y)::(a,d)::H) a9 λc z aa=>WU B n L (storeName e5 x c) ((c,z)::H) aa λab=>Φ .next ab):
 WF B n L (exec (.AugAssign (.Name x p) op e pi) e5) H σ Φ:=by
 rw[exec_AugAssign_Name];refine dt (dr (dk h λa d a6 w=>?_))
 refine dr (di (dk w λb y a9 w0=>?_))
 refine dt (dr (gx (dk w0 λc z aa w7=>?_)))
 refine dt (fS (lu (wZ (i9 w7 λab q=>lm q) λq hq=>?_)))
 rcases fG hq with rfl | hq
 . exact .head _
 . exact .tail _ (.tail _ (.tail _ hq))
end
end
section
variable {d:AV} {l:cL} {ms:d8} {P:Params} {F:Fz} {vs:cO} {h:Heap} {v:Value} {p:PyData} {Ψ:Bool->St->Prop}
theorem dY:sizeLine=16777216:=by decide
theorem sI (a b:cK):S a++S b=S (a++b):=by
 show Str.append (S a) (S b)= _
 simp[Str.append,S]
theorem dI (a:cK):(S a).length=a.length:=by simp[Str.length,S]
theorem NZ {a b:cK}:S a=S b↔a=b:=by
 constructor
 . intro e;injection e with e;simpa using e
 . rintro rfl;rfl
theorem zc (a b:cK):(S a==S b)=decide (a=b):=by
 rw[Bool.eq_iff_iff];simp[NZ]
noncomputable def dT:cL->Option (d8)
 | []=>some []
 | .str x::r=>(dT r).map (x::·)
 | _=>none
theorem oQ (e:dT (d::l)=some ms):∃ x m,d=.str x/\dT l=some m/\ms=x::m:=by
 rcases d with _ | _<;>try contradiction
 refine dW (bu.mp e) ?_;rintro m e1 e2
 exact⟨_,m,rfl,e1,e2.symm⟩
theorem iK (h:IsAll P F vs l) (e:dT l=some ms):StrsAre vs (ms.map S):=
 h.ind (C:=λvs l=>∀ ms,dT l=some ms->StrsAre vs (ms.map S)) (λms e=>Option.some.inj e▸.nil) (λv d vs l q r ih ms e=>by
  refine jk (oQ e) ?_;rintro x m rfl e1 rfl
  obtain⟨t,rfl⟩:=dD q;exact .cons (S x) _ (ih m e1)) ms e
theorem zb (ms:d8) (x:cK):((ms.map S).any λy=>y==S x)=decide (x∈ms):=by
 induction ms with
 | nil=>exact(cc (nomatch ·)).symm
 | cons m r ih=>
  rw[cv,List.any_cons,ih,zc,Bool.eq_iff_iff,Bool.or_eq_true,decide_eq_true_iff,decide_eq_true_iff,decide_eq_true_iff];constructor
  . rintro (h | h)
    . exact h▸.head _
    . exact .tail _ h
  . intro h
    cases h with
    | head=>exact .inl rfl
    | tail _ h=>exact .inr h
mutual
noncomputable def jQ:AV->Option PyData
 | .none=>some .none
 | .bool b=>some (.bool b)
 | .int i=>some (.int i)
 | .str x=>some (.str (S x))
 | .tup l=>(dataAll l).map .tuple
 | .lst l=>(dataAll l).map .list
 | _=>none
noncomputable def dataAll:cL->Option (List PyData)
 | []=>some []
 | d::r=>(jQ d).bind λa=>(dataAll r).map (a::·)
end
theorem xK {ps:List PyData} (e:dataAll (d::l)=some ps):∃ a b,jQ d=some a/\dataAll l=some b/\ps=a::b:=by
 refine dW (Option.bind_eq_some_iff.mp (show(jQ d).bind (λa=>(dataAll l).map (a::·))=some ps from e)) ?_;rintro a e1 e2
 refine dW (bu.mp e2) ?_;rintro b e3 e4
 exact⟨a,b,e1,e3,e4.symm⟩
theorem lR (k:∀ b o,F b=some o->h.get? b=some o) (i:Is P F v d) (e:jQ d=some p):∃ as,Reads h v p as:=
 Is.rec (motive_1:=λv d y=>∀ p,jQ d=some p->∃ as,Reads h v p as) (motive_2:=λvs l y=>∀ ps,dataAll l=some ps->∃ as,ReadsAll h vs ps as) (motive_3:=λy y y=>True)
  (λy e=>Option.some.inj e▸⟨_,.none⟩) (λb y e=>Option.some.inj e▸⟨_,.bool b⟩) (λi t y e=>Option.some.inj e▸⟨_,.int i t⟩) (λx t y e=>Option.some.inj e▸⟨_,.str _ t⟩) (λy y e=>nomatch e) (λy y e=>nomatch e)
  (λh y ih p e=>by
   refine dW (bu.mp (show(dataAll _).map PyData.tuple=some p from e)) ?_;rintro qs e1 rfl
   obtain⟨as,q⟩:=ih qs e1;exact⟨as,.tuple (k _ _ h) rfl rfl q⟩)
  (λh y ih p e=>by
   refine dW (bu.mp (show(dataAll _).map PyData.list=some p from e)) ?_;rintro qs e1 rfl
   obtain⟨as,q⟩:=ih qs e1;exact⟨_,.list (k _ _ h) rfl rfl q⟩)
  (λy y y y y y e=>nomatch e) (λy y e=>nomatch e) (λy y y e=>nomatch e) (λy y e=>nomatch e)
  (λy e=>Option.some.inj e▸⟨_,.nil⟩)
  (λy y i1 i2 ps e=>by
   refine jk (xK e) ?_;rintro a b ea eb rfl
   obtain⟨as,q⟩:=i1 a ea;obtain⟨bs,q'⟩:=i2 b eb;exact⟨_,.cons q q'⟩)
  trivial (λy y y y=>trivial) i p e
theorem IsAll.length (h:IsAll P F vs l):vs.length=l.length:=h.ind (C:=λvs l=>vs.length=l.length) rfl λy y y y y y c=>cG (·+1) c
section
variable {B:dc} {n:Nat} {L:Addr} {H:HL} {σ:St} {a b:Value} {i j:Int} {x y:cK} {Φ:PV}
theorem Nr (ma:(a,.int i)∈H) (mb:(b,.int j)∈H) (h:∀ v,Φ v (.int (i+j)) σ):WV B n L (binaryOp .Add a b) H σ Φ:=dg λA F s hA X=>by
 obtain⟨t1,rfl⟩:=dw (X.hold ma);obtain⟨t2,rfl⟩:=dw (X.hold mb)
 with_reducible exact P.add_int (.toks X ⟨_,.int _ _,h _⟩)
theorem N5 (ma:(a,.int i)∈H) (mb:(b,.int j)∈H) (h:∀ v,Φ v (.int (i - j)) σ):WV B n L (binaryOp .Sub a b) H σ Φ:=dg λA F s hA X=>by
 obtain⟨t1,rfl⟩:=dw (X.hold ma);obtain⟨t2,rfl⟩:=dw (X.hold mb)
 with_reducible exact P.sub_int (.toks X ⟨_,.int _ _,h _⟩)
theorem KW (ma:(a,.int i)∈H) (mb:(b,.int j)∈H) (hb:j≠0) (h:∀ v,Φ v (.int (i.fmod j)) σ):WV B n L (binaryOp .Mod a b) H σ Φ:=dg λA F s hA X=>by
 obtain⟨t1,rfl⟩:=dw (X.hold ma);obtain⟨t2,rfl⟩:=dw (X.hold mb)
 with_reducible exact mod_int' hb (.toks X ⟨_,.int _ _,h _⟩)
theorem GK (ma:(a,.int i)∈H) (mb:(b,.int j)∈H) (h:∀ v,Φ v (.int (i+j)) σ):WV B n L (inplaceOp .Add a b) H σ Φ:=dg λA F s hA X=>by
 obtain⟨t1,rfl⟩:=dw (X.hold ma);obtain⟨t2,rfl⟩:=dw (X.hold mb)
 with_reducible exact P.iadd_int (.toks X ⟨_,.int _ _,h _⟩)
theorem G5 (ma:(a,.int i)∈H) (mb:(b,.int j)∈H) (h:∀ v,Φ v (.int (i - j)) σ):WV B n L (inplaceOp .Sub a b) H σ Φ:=dg λA F s hA X=>by
 obtain⟨t1,rfl⟩:=dw (X.hold ma);obtain⟨t2,rfl⟩:=dw (X.hold mb)
 with_reducible exact P.isub_int (.toks X ⟨_,.int _ _,h _⟩)
theorem Ps (ma:(a,.int i)∈H) (mb:(b,.int j)∈H) (h:∀ v,Φ v (.bool (decide (i < j))) σ):WV B n L (compareOp .Lt a b) H σ Φ:=dg λA F s hA X=>by
 obtain⟨t1,rfl⟩:=dw (X.hold ma);obtain⟨t2,rfl⟩:=dw (X.hold mb)
 with_reducible exact P.lt_int (.here X ⟨_,.bool _,h _⟩)
theorem Po (ma:(a,.int i)∈H) (mb:(b,.int j)∈H) (h:∀ v,Φ v (.bool (decide (i<=j))) σ):WV B n L (compareOp .LtE a b) H σ Φ:=dg λA F s hA X=>by
 obtain⟨t1,rfl⟩:=dw (X.hold ma);obtain⟨t2,rfl⟩:=dw (X.hold mb)
 with_reducible exact P.le_int (.here X ⟨_,.bool _,h _⟩)
theorem Ow (ma:(a,.int i)∈H) (mb:(b,.int j)∈H) (h:∀ v,Φ v (.bool (decide (j < i))) σ):WV B n L (compareOp .Gt a b) H σ Φ:=dg λA F s hA X=>by
 obtain⟨t1,rfl⟩:=dw (X.hold ma);obtain⟨t2,rfl⟩:=dw (X.hold mb)
 with_reducible exact P.gt_int (.here X ⟨_,.bool _,h _⟩)
theorem Pu (ma:(a,.int i)∈H) (mb:(b,.int j)∈H) (h:∀ v,Φ v (.bool (decide (j<=i))) σ):WV B n L (compareOp .GtE a b) H σ Φ:=dg λA F s hA X=>by
 obtain⟨t1,rfl⟩:=dw (X.hold ma);obtain⟨t2,rfl⟩:=dw (X.hold mb)
 with_reducible exact P.ge_int (.here X ⟨_,.bool _,h _⟩)
theorem Py (ma:(a,.int i)∈H) (mb:(b,.int j)∈H) (h:∀ v,Φ v (.bool (decide (i=j))) σ):WV B n L (compareOp .Eq a b) H σ Φ:=dg λA F s hA X=>by
 obtain⟨t1,rfl⟩:=dw (X.hold ma);obtain⟨t2,rfl⟩:=dw (X.hold mb);have e:(i==j)=decide (i=j):=by rw[Bool.eq_iff_iff];simp
 with_reducible exact P.eq_int (.here X ⟨_,.bool _,e▸h _⟩)
theorem Q4 (ma:(a,.int i)∈H) (mb:(b,.int j)∈H) (h:∀ v,Φ v (.bool (!decide (i=j))) σ):WV B n L (compareOp .NotEq a b) H σ Φ:=dg λA F s hA X=>by
 obtain⟨t1,rfl⟩:=dw (X.hold ma);obtain⟨t2,rfl⟩:=dw (X.hold mb);have e:(i !=j)= !decide (i=j):=by rw[Bool.eq_iff_iff];simp
 with_reducible exact P.ne_int (.here X ⟨_,.bool _,e▸h _⟩)
theorem LB (ma:(a,.int i)∈H) (h:Ψ (!decide (i=0)) σ):WB B n L (truthy a) H σ Ψ:=dg λA F s hA X=>by
 obtain⟨t1,rfl⟩:=dw (X.hold ma);have e:(i !=0)= !decide (i=0):=by rw[Bool.eq_iff_iff];simp
 with_reducible exact P.truthy_int (.here X (e▸h))
theorem GV (ma:(a,.none)∈H) (h:Ψ false σ):WB B n L (truthy a) H σ Ψ:=dg λA F s hA X=>by
 obtain rfl:=gC (X.hold ma)
 with_reducible exact truthy_none (.here X h)
theorem Jg (ma:(a,.str x)∈H) (mb:(b,.str y)∈H) (hz:x.length+y.length<=16777216) (h:∀ v,Φ v (.str (x++y)) σ):WV B n L (binaryOp .Add a b) H σ Φ:=dg λA F s hA X=>by
 obtain⟨t1,rfl⟩:=dD (X.hold ma);obtain⟨t2,rfl⟩:=dD (X.hold mb)
 with_reducible exact add_str (λz z=>.toks X ⟨_,sI x y▸.str _ _,h _⟩) (by rw[dI,dI,dY];exact hz)
theorem Dz (ma:(a,.str x)∈H) (mb:(b,.str y)∈H) (hz:x.length+y.length<=16777216) (h:∀ v,Φ v (.str (x++y)) σ):WV B n L (inplaceOp .Add a b) H σ Φ:=dg λA F s hA X=>by
 obtain⟨t1,rfl⟩:=dD (X.hold ma);obtain⟨t2,rfl⟩:=dD (X.hold mb)
 with_reducible exact iadd_str (λz z=>.toks X ⟨_,sI x y▸.str _ _,h _⟩) (by rw[dI,dI,dY];exact hz)
theorem N2 (ma:(a,.str x)∈H) (mb:(b,.str y)∈H) (h:∀ v,Φ v (.bool (decide (x=y))) σ):WV B n L (compareOp .Eq a b) H σ Φ:=dg λA F s hA X=>by
 obtain⟨t1,rfl⟩:=dD (X.hold ma);obtain⟨t2,rfl⟩:=dD (X.hold mb)
 with_reducible exact eq_str (.here X ⟨_,.bool _,zc x y▸h _⟩)
theorem KC (ma:(a,.str x)∈H) (mb:(b,.str y)∈H) (h:∀ v,Φ v (.bool (!decide (x=y))) σ):WV B n L (compareOp .NotEq a b) H σ Φ:=dg λA F s hA X=>by
 obtain⟨t1,rfl⟩:=dD (X.hold ma);obtain⟨t2,rfl⟩:=dD (X.hold mb);have e:(S x !=S y)= !decide (x=y):=by rw[bne,zc]
 with_reducible exact ne_str (.here X ⟨_,.bool _,e▸h _⟩)
theorem Nb (ma:(a,.str x)∈H) (hz:x.length<=16777216) (h:Ψ (!decide (x=[])) σ):WB B n L (truthy a) H σ Ψ:=dg λA F s hA X=>by
 obtain⟨t1,rfl⟩:=dD (X.hold ma);have e:(((S x).length:Int) !=0)= !decide (x=[]):=by rw[dI,Bool.eq_iff_iff];simp
 with_reducible exact P.truthy_str (by rw[dI];omega) (.toks X (e▸h))
theorem zF (ma:(a,d)∈H) (mb:(b,.none)∈H) (hd:∀ P F v,Is P F v d->(v==Value.none)=c) (h:∀ v,Φ v (.bool c) σ):WV B n L (compareOp .Is a b) H σ Φ:=dg λA F s hA X=>by
 have p:=X.hold ma;obtain rfl:=gC (X.hold mb)
 with_reducible exact is_none (.here X ⟨_,.bool _,hd _ _ _ p▸h _⟩)
theorem tv (ma:(a,d)∈H) (mb:(b,.none)∈H) (hd:∀ P F v,Is P F v d->(v==Value.none)=c) (h:∀ v,Φ v (.bool (!c)) σ):WV B n L (compareOp .IsNot a b) H σ Φ:=dg λA F s hA X=>by
 have p:=X.hold ma;obtain rfl:=gC (X.hold mb)
 with_reducible exact isNot_none (.here X ⟨_,.bool _,hd _ _ _ p▸h _⟩)
theorem DE (P:Params) (F:Fz) (v:Value) (h:Is P F v .none):(v==Value.none)=true:=(gC h).symm▸rfl
theorem zL {x:cK} (P:Params) (F:Fz) (v:Value) (h:Is P F v (.str x)):(v==Value.none)=false:=(dD h).elim λy e=>e.symm▸rfl
theorem AM {x:Int} (P:Params) (F:Fz) (v:Value) (h:Is P F v (.int x)):(v==Value.none)=false:=(dw h).elim λy e=>e.symm▸rfl
theorem B6 {x:Addr} (P:Params) (F:Fz) (v:Value) (h:Is P F v (.ref x)):(v==Value.none)=false:=(dF h).symm▸rfl
theorem AE {x} (P:Params) (F:Fz) (v:Value) (h:Is P F v (.dct x)):(v==Value.none)=false:=(oo h).elim λy e=>e.elim λy e=>e.elim λy e=>e.1.symm▸rfl
theorem m6 (k:∀ b o,F b=some o->h.get? b=some o) {t:Addr} {m:Nat} (e:F t=some (ly vs m)):IsTup h t vs.toArray:=⟨_,k _ _ e,rfl,m,rfl⟩
theorem gh (k:∀ b o,F b=some o->h.get? b=some o) {t:Addr} {m:Nat} (e:F t=some (dZ vs m)):h.IsList t vs.toArray:=⟨_,k _ _ e,rfl,m,rfl⟩
theorem EK (ma:(a,.str x)∈H) (mb:(b,.tup l)∈H) (e:dT l=some ms) (h:∀ v,Φ v (.bool (decide (x∈ms))) σ):WV B n L (compareOp .In a b) H σ Φ:=dg λA F s hA X=>by
 obtain⟨t1,rfl⟩:=dD (X.hold ma);refine kI (iy (X.hold mb)) ?_;rintro r2 vs n1 rfl h1 h2
 with_reducible exact in_tuple_strs (m6 X.sub h1) (by simpa using iK h2 e) (.here X ⟨_,.bool _,zb ms x▸h _⟩)
theorem Ah (ma:(a,.str x)∈H) (mb:(b,.tup l)∈H) (e:dT l=some ms) (h:∀ v,Φ v (.bool (!decide (x∈ms))) σ):WV B n L (compareOp .NotIn a b) H σ Φ:=dg λA F s hA X=>by
 obtain⟨t1,rfl⟩:=dD (X.hold ma);refine kI (iy (X.hold mb)) ?_;rintro r2 vs n1 rfl h1 h2
 with_reducible exact notin_tuple_strs (m6 X.sub h1) (by simpa using iK h2 e) (.here X ⟨_,.bool _,zb ms x▸h _⟩)
theorem Mp (ma:(a,.str x)∈H) (mb:(b,.lst l)∈H) (e:dT l=some ms) (h:∀ v,Φ v (.bool (decide (x∈ms))) σ):WV B n L (compareOp .In a b) H σ Φ:=dg λA F s hA X=>by
 obtain⟨t1,rfl⟩:=dD (X.hold ma);refine kI (fz (X.hold mb)) ?_;rintro r2 vs n1 rfl h1 h2
 with_reducible exact in_list_strs (gh X.sub h1) (by simpa using iK h2 e) (.here X ⟨_,.bool _,zb ms x▸h _⟩)
theorem zm {e:AV} {q:PyData} {c:Bool} (ma:(a,d)∈H) (mb:(b,e)∈H) (hd:jQ d=some p) (he:jQ e=some q) (sp:SeqAt.shaped p=true) (sq:SeqAt.shaped q=true) (hc:PyData.eqv p q=c)
 (h:∀ v,Φ v (.bool c) σ):WV B n L (compareOp .Eq a b) H σ Φ:=dg λA F s hA X=>by
 obtain⟨as,ra⟩:=lR X.sub (X.hold ma) hd;obtain⟨bs,rb⟩:=lR X.sub (X.hold mb) he;refine eq_dataH ra rb sp sq ?_ (.here X ⟨_,.bool _,hc▸h _⟩)
 have:=hA.units
 show A.units+64 < 9900
 omega
theorem AW {ps:List PyData} {c:Bool} (ma:(a,d)∈H) (mb:(b,.tup l)∈H) (hd:jQ d=some p) (he:dataAll l=some ps) (sp:p.canLay0=true) (sq:PyData.canLayAll0 ps=true)
 (dp:p.depth<=64) (hc:(ps.any λy=>PyData.eqv y p)=c) (h:∀ v,Φ v (.bool c) σ):WV B n L (compareOp .In a b) H σ Φ:=dg λA F s hA X=>by
 obtain⟨as,ra⟩:=lR X.sub (X.hold ma) hd;obtain⟨bs,rb⟩:=lR (p:=.tuple ps) X.sub (X.hold mb) (show(dataAll l).map PyData.tuple=some (.tuple ps)by refine he▸?_;rfl)
 refine SeqAt.in_tuple_reads rb ra sq sp ?_ (.here X ⟨_,.bool _,hc▸h _⟩)
 have:=hA.units
 show A.units+1+min (PyData.depthAll ps) p.depth < 9900
 omega
end
end
section
variable {x:Str} {v:Value} {es:List DictEntry} {fs:FL} {d:AV} {ex:cP}
noncomputable def eF (x:Str) (fs:FL):cS:=(fs.find? (λp=>p.1==x)).map (·.2)
noncomputable def f7 (x:Str) (d:AV):FL->FL
 | []=>[(x,d)]
 | p::r=>if p.1==x then (x,d)::r else p::f7 x d r
section
variable {P:Params} {F:Fz}
theorem i8 (x:Str) (d:AV) (r:FL):eF x ((x,d)::r)=some d:=by unfold eF;rw[List.find?_cons,bZ];rfl
theorem fM {y:Str} (d:AV) (r:FL) (q:¬(y==x)=true):eF x ((y,d)::r)=eF x r:=by unfold eF;rw[List.find?_cons];simp only[q]
theorem An {y:Str} {t:Tok} {w:Value} (q:¬(y==x)=true) (e:getL x es=some (some w)):getL x (⟨PyData.keyHash P y,.str y t,v⟩::es)=some (some w):=by
 simp only[getL,List.find?_cons,Value.isStr,q]at e |-
 split at e
 . rename_i h;cases e;rw[h]
 . split at e<;>cases e
theorem sP (h:IsEnts P F es fs) (e:eF x fs=some d):∃ v,getL x es=some (some v)/\Is P F v d:=
 h.ind (C:=λes fs=>eF x fs=some d->∃ v,getL x es=some (some v)/\Is P F v d) nofun (λy t v c es l h r ih e=>by
  by_cases q:(y==x)=true
  . have z:=cF q
    subst z;exact⟨v,by simp[getL,Value.isStr],Option.some.inj ((i8 _ c l).symm.trans e)▸h⟩
  . refine dW (ih ((fM c l q).symm.trans e)) ?_;rintro w e1 e2
    exact⟨w,An q e1,e2⟩) e
theorem uw (h:IsEnts P F es fs):es.any (·.refKey)=false:=h.ind (C:=λes y=>es.any (·.refKey)=false) rfl λy y y y y y y y c=>c
theorem y8 (h:IsEnts P F es fs) (e:eF x fs=none):es.find? (·.key.isStr x)=none:=
 h.ind (C:=λes fs=>eF x fs=none->es.find? (·.key.isStr x)=none) (λw=>rfl) (λy t v d es l w w ih e=>by
  by_cases q:(y==x)=true
  . have z:=cF q
    subst z;exact nomatch (i8 _ d l).symm.trans e
  . rw[List.find?_cons]
    simp only[Value.isStr,q]
    exact ih ((fM d l q).symm.trans e)) e
theorem kH (h:IsEnts P F es fs) (e:eF x fs=none):getL x es=some none:=by
 unfold getL;rw[y8 h e];dsimp only;rw[uw h];rfl
theorem xA (h:IsEnts P F es fs):(getL x es).isSome=true:=by
 induction e:eF x fs using Option.casesOn with
 | none=>rw[kH h e];rfl
 | some d=>refine dW (sP h e) ?_;rintro v e1 y;rw[e1];rfl
theorem sG {t:Tok} (q:Is P F v d):∀ {es:List DictEntry} {fs:FL},IsEnts P F es fs->IsEnts P F (putL x (PyData.keyHash P x) (.str x t) v es) (f7 x d fs):=λ{_} {_} h=>
 h.ind (C:=λes fs=>IsEnts P F (putL x (PyData.keyHash P x) (.str x t) v es) (f7 x d fs)) (.cons q .nil) λy u w e es fs h r ih=>by
  unfold putL f7
  by_cases c:(y==x)=true
  . rw[cJ c]
    have c2:(⟨PyData.keyHash P y,.str y u,w⟩:DictEntry).key==.str x t->True:=λ_=>trivial
    clear c2
    split
    . obtain rfl:=beq_iff_eq.mp c
      exact .cons q r
    . rename_i n;exact cI c n
  . rw[cH c]
    split
    . rename_i n;exact cI n c
    . exact .cons h ih
theorem jN:∀ {es:List DictEntry} {fs:FL},IsEnts P F es fs->es.length=fs.length
 | _,_,.nil=>rfl
 | _,_,.cons _ r=>by simp[jN r]
end
noncomputable def iw (K:Frag) (C:Addr) (x:Str):Bool:=plainGet K C x&&hasDictIn K C&&(match findIn K (.ref C) x with | some a=>noGet K a | none=>false)
noncomputable def ja (K:Frag) (C:Addr) (x:Str):Bool:=(findIn K (.ref C) "__setattr__"==some (some (.builtin "object.__setattr__")))&&plainOver K C&&(takerIn K C x==some none)&&hasDictIn K C
noncomputable def gm (K:Frag) (C:Addr) (x:Str) (f:Addr):Bool:=
 plainGet K C x&&hasDictIn K C&&(findIn K (.ref C) x==some (some (.ref f)))&&isFn K (.ref f)&&(specialIn K (.ref f) "__get__"==some (some (.builtin "function.__get__")))&&(takesIn K (.ref f)==some false)&& !(copiedNames.contains x)
noncomputable def je:AV->Bool
 | .lit v=>handedIn v
 | .any=>false
 | _=>true
theorem wW {P:Params} {F:Fz} (h:Is P F v d) (e:je d=true):handedIn v=true:=by
 induction d using AV.casesOn with
 | none=>exact(gC h).symm▸rfl
 | bool=>exact(m8 h).symm▸rfl
 | int=>exact(dw h).elim λy q=>q.symm▸rfl
 | str=>exact(dD h).elim λy q=>q.symm▸rfl
 | lit=>exact(wJ h).symm▸e
 | ref=>exact(dF h).symm▸rfl
 | tup=>exact kI (iy h) λy y y q y y=>q.symm▸rfl
 | lst=>exact kI (fz h) λy y y q y y=>q.symm▸rfl
 | dct=>exact Ok (oo h) λy y y q y y y=>q.symm▸rfl
 | meth=>exact dW (lJ h) λy q y=>q.symm▸rfl
 | obj=>exact jk (jq h) λy y q y y=>q.symm▸rfl
 | any=>exact Bool.noConfusion e
noncomputable def oO (G h:Heap) (L:Addr) (ex:cP):List (Addr×Obj):=
 (List.range h.objs.size).filterMap λa=>if a=L\/a∈ex\/(G.get? a).isSome=true then none else (h.get? a).map (a,·)
theorem lk {a:Addr} {o:Obj}:(a,o)∈oO G h L ex↔h.get? a=some o/\a≠L/\a∉ex/\G.get? a=none:=by
 unfold oO;rw[List.mem_filterMap];constructor
 . intro z9;refine dW z9 ?_;clear z9;rintro b hb e
   split at e
   . contradiction
   . rename_i q
     refine dW (bu.mp e) ?_;rintro o' h1 h2
     cases h2
     simp only[not_or,Bool.not_eq_true,Option.isSome_eq_false_iff,Option.isNone_iff_eq_none]at q
     exact⟨h1,q.1,q.2.1,q.2.2⟩
 . intro z9;refine Qj z9 ?_;clear z9;rintro h1 h2 h3 h4
   refine⟨a,List.mem_range.mpr (cz h1),?_⟩
   rw[cH (by simp only[not_or,Bool.not_eq_true,Option.isSome_eq_false_iff,Option.isNone_iff_eq_none];exact⟨h2,h3,h4⟩),h1];rfl
theorem sX:News G L h (oO G h L ex):=λp hp=>by
 obtain⟨a,o⟩:=p;refine Qj (lk.mp hp) ?_;rintro h1 h2 y h4
 exact⟨h1,h2,h4⟩
theorem Ef {h':Heap} {m:Str->cT} {news:List (Addr×Obj)} (low:∀ b o,G.get? b=some o->h.get? b=some o) (F':Fr G L h' m) (N':News G L h' news) (sub:∀ p∈oO G h L ex,p∈news):
 ∀ b o,b≠L->b∉ex->h.get? b=some o->h'.get? b=some o:=by
 intro b o h1 h2 h3
 induction q:G.get? b using Option.casesOn with
 | none=>exact(N' _ (sub (b,o) (lk.mpr ⟨h3,h1,h2,q⟩))).1
 | some o'=>
  have:=low _ _ q
  rw[h3]at this
  obtain rfl:=Option.some.inj this
  exact F'.keep _ _ q
section
variable {P:Params} {G:Heap} {L:Addr} {F:Fz} {H:HL} {h:Heap} {l9:LL} {o8 pz pv:OL} {a:Addr} {o o':AO}
theorem Holds.frame (x:Holds P G L F H ⟨l9,o8⟩ h):∃ m,Fr G L h m/\∀ y d,(y,some d)∈l9->∃ v,m y=some v/\Is P F v d:=by
 refine dW (x.loc) ?_;rintro m hm r
 exact⟨m,⟨hm,λb o e=>x.sub _ _ (x.core _ _ e),x.low⟩,r⟩
theorem Holds.outG (x:Holds P G L F H ⟨l9,o8⟩ h) {b:Addr} (hb:b∈L::dj o8):G.get? b=none:=by
 induction q:G.get? b using Option.casesOn with
 | none=>rfl
 | some o=>have:=x.apart b hb;rw[x.core _ _ q]at this;contradiction
theorem Holds.obj (x:Holds P G L F H ⟨l9,o8⟩ h) (m:(a,o)∈o8):yx P F h a o:=x.objs _ m
theorem gW:dj (pz++(a,o)::pv)=dj pz++(a::(o.more++dj pv)):=by rw[fk];rfl
theorem Holds.change (x:Holds P G L F H ⟨l9,pz++(a,o)::pv⟩ h) {h':Heap} {c:Addr} (hc:c=a\/c∈o.more) (em:o'.more=o.more)
 (k : ∀ b y,b≠L->b≠c->h.get? b=some y->h'.get? b=some y) (hl:∃ m,h'.Ns L m/\∀ x d,(x,some d)∈l9->∃ v,m x=some v/\Is P F v d) (q:yx P F h' a o'):Holds P G L F H ⟨l9,pz++(a,o')::pv⟩ h':=by
 have hcm:c∈a::o.more:=by rcases hc with rfl | hc;exact .head _;exact .tail _ hc
 have hnd:=x.nodup
 have eo:dj (pz++(a,o')::pv)=dj (pz++(a,o)::pv):=by rw[gW,gW,em]
 have aT:c∈dj (pz++(a,o)::pv):=ee.mpr ⟨(a,o),by simp,by rcases hc with h | h;exact .inl h;exact .inr h⟩
 have other:∀ p:Addr×AO,p∈pz\/p∈pv->∀ b,b=p.1\/b∈p.2.more->b≠c:=by
  intro p hp b hb e;rw[cg]at hnd
  have nd:=hnd.2
  rw[show(⟨l9,pz++(a,o)::pv⟩:St).objs=pz++(a,o)::pv from rfl,gW]at nd
  have nd2:=(bO.mp nd)
  rcases hp with hp | hp
  . exact nd2.2.2 b (ee.mpr ⟨p,hp,hb⟩) c (by
     rw[show a::(o.more++dj pv)=(a::o.more)++dj pv from rfl];exact bB _ hcm) e
  . have nd3:=nd2.2.1
    rw[show a::(o.more++dj pv)=(a::o.more)++dj pv from rfl,bO]at nd3
    exact nd3.2.2 c hcm b (ee.mpr ⟨p,hp,hb⟩) e.symm
 have neO:∀ p:Addr×AO,p∈pz\/p∈pv->∀ b,b=p.1\/b∈p.2.more->b≠L:=by
  intro p hp b hb e;rw[cg]at hnd
  exact hnd.1 (e▸ee.mpr ⟨p,by rcases hp with hp | hp;exact bB _ hp;exact bz _ (.tail _ hp),hb⟩)
 refine⟨x.core,λb y e=>k b y (λz=>?_) (λz=>?_) (x.sub _ _ e),hl,x.names,λp hp=>?_,by rw[eo];exact x.nodup,by rw[eo];exact x.apart,x.held,x.low⟩
 . subst z
   have:=x.apart b dP
   rw[e]at this;contradiction
 . subst z
   have:=x.apart b (.tail _ aT)
   rw[e]at this;contradiction
 . rcases cf.mp hp with hp | hp
   . exact(x.objs p (bB _ hp)).move (.refl F) λb y hb e=>k _ _ (neO p (.inl hp) b hb) (other p (.inl hp) b hb) e
   . rcases fG hp with rfl | hp
     . exact q
     . exact(x.objs p (bz _ (.tail _ hp))).move (.refl F) λb y hb e=>k _ _ (neO p (.inr hp) b hb) (other p (.inr hp) b hb) e
end
section
variable {B:dc} {n:Nat} {L:Addr} {H:HL} {l9:LL} {o8 pz pv:OL} {a:Addr} {o o':AO}
theorem dm.change {F:Fz} {s s':Shared} {Ψ:Fz->St->Prop} (x:Holds B.P B.G L F H ⟨l9,pz++(a,o)::pv⟩ s.heap) {c:Addr} (hc:c=a\/c∈o.more) (em:o'.more=o.more)
 (k:∀ b y,b≠L->b≠c->s.heap.get? b=some y->s'.heap.get? b=some y) (hl:∃ m,s'.heap.Ns L m/\∀ x d,(x,some d)∈l9->∃ v,m x=some v/\Is B.P F v d) (q:yx B.P F s'.heap a o') (g:s'.gens=s.gens) (os:s'.os=s.os) (z:Ψ F ⟨l9,pz++(a,o')::pv⟩):
 dm B L H ⟨l9,pz++(a,o)::pv⟩ F s s' Ψ:=by
 have aT:c∈L::dj (pz++(a,o)::pv):=.tail _ (ee.mpr ⟨(a,o),by simp,by rcases hc with h | h;exact .inl h;exact .inr h⟩)
 refine⟨F,_,x.change hc em k hl q,⟨λb y hb e=>k b y (λz=>hb (z▸.head _)) (λz=>hb (z▸aT)) e,λb hb=>.inl ?_,λb y e=>.inl e,.refl F,.of g,os⟩,z⟩
 rw[show dj (pz++(a,o')::pv)=dj (pz++(a,o)::pv)from by rw[gW,gW,em]]at hb
 exact hb
end
end
section
variable {f:Addr} {ay:cL} {Φ:AV->OL->Prop}
structure gp (P:Params) (G:Heap) (F:Fz) (os:OL) (h:Heap):Prop where
 core:∀ b o,G.get? b=some o->F b=some o
 sub:∀ b o,F b=some o->h.get? b=some o
 objs:∀ p∈os,yx P F h p.1 p.2
 nodup:(dj os).Nodup
 apart:∀ b∈dj os,F b=none
 big:G.objs.size<=h.objs.size
inductive Cb (B:dc) (o8:OL) (F:Fz) (s:Shared) (Φ:AV->OL->Prop) (r:Result) (s':Shared):Prop
 | mk (v:Value) (d:AV) (o3:OL) (F':Fz) (e:r=.ok (.ret v)) (i:Is B.P F' v d) (y:gp B.P B.G F' o3 s'.heap) (p:eC (dj o8) F s (dj o3) F' s') (q:Φ d o3)
def de (B:dc) (n:Nat) (f:Addr) (ay:cL) (o8:OL) (Φ:AV->OL->Prop):Prop:=
 ∀ A F s vs,gn n A->gp B.P B.G F o8 s.heap->IsAll B.P F vs ay->
  codeAny B.M A (.call (.ref f) ⟨vs,[]⟩) (Cb B o8 F s Φ) s
theorem de.mono {n:Nat} {o8:OL} {Φ':AV->OL->Prop} (h:de B n f ay o8 Φ) (k:∀ d o,Φ d o->Φ' d o):de B n f ay o8 Φ':=
 λA F s vs hA x hv=>codeAny_mono (h A F s vs hA x hv) λ_ _ ⟨v,d,o,F',a,b,c,e,q⟩=>⟨v,d,o,F',a,b,c,e,k _ _ q⟩
theorem de.room {n m:Nat} {o8:OL} (h:de B m f ay o8 Φ) (e:m<=n):de B n f ay o8 Φ:=
 λA F s vs hA x hv=>h A F s vs (hA.le e) x hv
section
variable {P:Params} {G:Heap} {L:Addr} {F:Fz} {H:HL} {h:Heap} {σ:St}
theorem Holds.big (x:Holds P G L F H σ h):G.objs.size<=h.objs.size:=by
 obtain⟨m,⟨o,_,_,ho,_⟩,_⟩:=x.loc;exact cy (Nat.lt_of_le_of_lt x.low (cz ho))
theorem Holds.call (x:Holds P G L F H σ h):gp P G F σ.objs h:=
 ⟨x.core,x.sub,x.objs,(cg.mp x.nodup).2,λb hb=>x.apart b (.tail _ hb),x.big⟩
theorem Holds.back {B:dc} {s s':Shared} {F':Fz} {o3:OL} (x:Holds B.P B.G L F H σ s.heap) (y:gp B.P B.G F' o3 s'.heap) (p:eC (dj σ.objs) F s (dj o3) F' s'):
 Holds B.P B.G L F' H ⟨σ.loc,o3⟩ s'.heap/\eC (L::dj σ.objs) F s (L::dj o3) F' s':=by
 have hL:L∉dj σ.objs:=(cg.mp x.nodup).1
 obtain⟨oL,hoL⟩:=x.there L dP;have hL':L∉dj o3:=λhm=>by
  rcases p.own L hm with q | q
  . exact hL q
  . rw[hoL]at q;contradiction
 refine⟨⟨y.core,y.sub,?_,x.names,y.objs,cg.mpr ⟨hL',y.nodup⟩,λb hb=>?_,λq hq=>(x.held q hq).mono p.mono,x.low⟩,⟨λb o hb e=>p.keep b o (λhm=>hb (.tail _ hm)) e,λb hb=>?_,λb o e=>?_,p.mono,p.gens,p.os⟩⟩
 . obtain⟨m,⟨o,es,ep,e1,r1⟩,r⟩:=x.loc
   exact⟨m,⟨o,es,ep,p.keep _ _ hL e1,r1⟩,λz d hz=>let ⟨v,e,q⟩:=r z d hz;⟨v,e,q.mono p.mono⟩⟩
 . rcases fG hb with rfl | hb
   . induction q:F' b using Option.casesOn with
     | none=>rfl
     | some o=>
      rcases p.frz b o q with z | z | z
      . rw[x.apart b dP]at z;contradiction
      . exact cI z hL
      . rw[hoL]at z;contradiction
   . exact y.apart b hb
 . rcases fG hb with rfl | hb
   . exact .inl dP
   . exact(p.own b hb).imp_left (.tail _)
 . rcases p.frz b o e with z | z | z
   . exact .inl z
   . exact .inr (.inl (.tail _ z))
   . exact .inr (.inr z)
end
section
variable {B:dc} {n:Nat} {L:Addr} {H:HL} {σ:St} {e5:Env}
theorem lF {P:Params} {F:Fz} {G:Heap} {h:Heap} (x:Holds P G L F H σ h):∀ {vs:cO} {ds:cL},vs.length=ds.length->(∀ p∈vs.zip ds,p∈H)->IsAll P F vs ds
 | [],[],_,_=>.nil
 | v::vs,d::ds,e,k=>.cons (x.held _ (k _ dP)) (lF x (Nat.succ.inj e) λp hp=>k p (.tail _ hp))
theorem Em {f:Addr} {vs:cO} {ds:cL} {Φ:PV} (e:vs.length=ds.length) (k:∀ p∈vs.zip ds,p∈H)
 (c:de B n f ds σ.objs λd o3=>∀ v,Φ v d ⟨σ.loc,o3⟩):WV B n L (call (.ref f) vs) H σ Φ:=dg λA F s hA x=>by
 refine wpAny_call (codeAny_mono (c A F s vs hA x.call (lF x e k)) λr s' z=>?_)
 obtain⟨v,d,o3,F',rfl,hd,y,p,q⟩:=z;obtain⟨x',p'⟩:=x.back y p;exact⟨F',_,x',p',d,hd,q v⟩
abbrev WL (B:dc) (n:Nat) (L:Addr) (t:Sem (cO)) (H:HL) (σ:St) (Φ:cO->cL->St->Prop):Prop:=
 W B n L t H σ (λvs F' σ'=>∃ ds,IsAll B.P F' vs ds/\Φ vs ds σ')
theorem wF {pi} {Φ:cO->cL->St->Prop} (h:Φ [] [] σ):WL B n L (spliced (backTo pi (starEach [] e5))) H σ Φ:=dg λy y y y x=>spliced_nil (.here x ⟨[],.nil,h⟩)
theorem vD {e:Expr} {r8:cN} {pi} {Φ:cO->cL->St->Prop}
 (h:WV B n L (eval e e5) H σ λv d a6=>WL B n L (spliced (backTo pi (starEach r8 e5))) ((v,d)::H) a6 λvs ds a9=>Φ (v::vs) (d::ds) a9)
 (he:autoParam (starEach (e::r8) e5=(false,eval e e5)::starEach r8 e5) bR):WL B n L (spliced (backTo pi (starEach (e::r8) e5))) H σ Φ:=dg λA F s hA x=>by
 refine he▸?_
 refine spliced_cons (cD (h.run A F s hA x) (λv s5 z=>z.then λF0 a6 x0 ⟨d,hd,w⟩=>?_) λy y z=>z)
 refine cD (w.run A F0 s5 hA (x0.push hd)) (λvs s7 z=>?_) λy y z=>z
 exact(z.fin λF1 a9 x1 ⟨ds,aY,q⟩=>.here x1 ⟨d::ds,.cons (x1.hold dP) aY,q⟩).weaken λy hp=>.tail _ hp
theorem gf {M:Model} {A:Around} {E:Value->Shared->Prop} {s:Shared} {f:Value} {ay:List (Bool×Sem Value)} {Q:Args->Shared->Prop} (hp:ay.any (·.1)=false)
 (h:wpAny M A (spliced ay) (λvs s'=>Q ⟨vs,[]⟩ s') E s):wpAny M A (evalArgs f true ay []) Q E s:=by
 induction ay using List.casesOn with
 | nil=>
  unfold evalArgs;exact cC (cD h (λvs s' z=>cC (cE (cu (cC (cE (cC (cE (cE z)))))))) λy y z=>z)
 | cons a r=>
  obtain⟨b,x⟩:=a
  induction b using Bool.casesOn with
  | true=>simp at hp
  | false=>exact evalArgs_plain h
theorem nI {first:cO} {ay:cN} {pi} {Φ:PV} (hk:keepIn B.K (.ref f)=true)
 (h :WL B n L (spliced (backTo pi (starEach ay e5))) H σ λvs ds a6=>WV B n L (call (.ref f) (first++vs)) (vs.zip ds++H) a6 Φ)
 (hp :autoParam ((backTo pi (starEach ay e5)).any (·.1)=false) bR):WV B n L (callWith pi (.ref f) first (backTo pi (starEach ay e5)) []) H σ Φ:=dg λA F s hA x=>by
 refine callWith_of (by rw[hp];rfl) (keeps_K hk) (gf hp (cD (h.run A F s hA x) (λvs s5 z=>⟨?_,?_⟩) λv v z=>z))
 . obtain⟨_,_,x0,_⟩:=z
   exact B.X.keeps λb o e=>x0.sub _ _ (x0.core _ _ e)
 . refine z.then λF0 a6 x0 ⟨ds,aY,w⟩=>?_
   have x1:Holds B.P B.G L F0 (vs.zip ds++H) a6 s5.heap:=⟨x0.core,x0.sub,x0.loc,x0.names,x0.objs,x0.nodup,x0.apart,λp hp=>by
    rcases cf.mp hp with hp | hp
    . exact zip_is aY p hp
    . exact x0.held p hp,x0.low⟩
   exact cD (w.run A F0 s5 hA x1) (λv v y=>y.weaken λv hp=>bz _ hp) λv v z=>z
where
 zip_is {P:Params} {F:Fz} {vs:cO} {ds:cL} (h:IsAll P F vs ds):∀ p∈vs.zip ds,Is P F p.1 p.2:=h.ind (C:=λvs ds=>∀ p∈vs.zip ds,Is P F p.1 p.2) (λy hp=>nomatch hp) λy y y y h y c=>List.forall_mem_cons.mpr ⟨h,c⟩
end
section
variable {B:dc} {n:Nat} {o8:OL}
def qV (Φ:AV->OL->Prop):PF
 | .ret d,σ=>Φ d σ.objs
 | .next,σ=>Φ .none σ.objs
 | _,_=>False
theorem pD {P:Params} {F:Fz} {fl:Flow} {e:Fl} {σ':St} (he:pJ P F fl e) (q:qV Φ e σ'):∃ d,Is P F (match fl with | .ret v=>v | _=>.none) d/\Φ d σ'.objs:=by
 rcases fl with _ | _<;>rcases e with _ | _<;>first | exact he.elim | exact q.elim | exact⟨_,he,q⟩ | exact⟨_,.none,q⟩
theorem wf (h:Heap):h.get? h.objs.size=none:=bm.mpr λy q=>cI (cz q) (Nat.lt_irrefl _)
theorem La {n5 qb:Str} {pj:Arguments} {b3:cM} {sf:Scope} {dV kV d7 pm c3 ct oc:Value} {an od:Option Addr} {ol:cY} {l9:LL}
 (ho:B.K.lookup f=some ⟨oc,od,.func (fnOf n5 qb pj b3 sf dV kV d7 pm an c3 ct),ol⟩) (ba:codeIn B.K c3 qb=true)
 (hb:∀ (F:Fz) (s:Shared) (vs:cO),IsAll B.P F vs ay->B.K.In s.heap->(∀ b o,B.G.get? b=some o->F b=some o)->∃ b7,BindsTo s (fnOf n5 qb pj b3 sf dV kV d7 pm an c3 ct) ⟨vs,[]⟩ b7/\(∀ y∈b7,sf.names.lookup y.1=some .local)/\
  ∀ x d,(x,some d)∈l9->∃ v,b7.reverse.lookup x=some v/\Is B.P F v d)
 (hn:(l9.map (·.1)).Nodup) (h:∀ L,WF B n L (execs b3 (envOf qb sf L f c3)) [] ⟨l9,o8⟩ (qV Φ))
 (aT:autoParam (sf.isCoroutine=false) bR) (aQ:autoParam (sf.isGenerator=false) bR) (hk:autoParam (sf.kind=.function) bR) (aB:autoParam (∀ x∈sf.names,x.2≠.cell) bD):de B (n+1) f ay o8 Φ:=by
 intro A F s vs hA x hvs;have up:∀ b o,B.G.get? b=some o->s.heap.get? b=some o:=λb o e=>x.sub _ _ (x.core _ _ e)
 refine jM (hb F s vs hvs (B.X.keeps up) x.core) ?_;rintro b7 aS aR hl
 refine codeAny_call_def (fd:=fnOf n5 qb pj b3 sf dV kV d7 pm an c3 ct) (body:=b3) (binds:=b7) (by have:=hA.depth;show A.depth < 1000;omega) ((B.X.keeps up) _ _ ho) rfl (B.nolimit.keeps up)
  (codeRec_of (B.X.keeps up) ba) rfl aS aB aR (λh6 aV h7=>?_) aT aQ hk
 have hL:=wf s.heap
 have there:∀ b∈dj o8,∃ o,s.heap.get? b=some o:=λb hb=>by
  refine dW (ee.mp hb) ?_;rintro p hp hb
  exact(x.objs p hp).there b hb
 have hLo:s.heap.objs.size∉dj o8:=λhm=>by obtain⟨o,ho⟩:=there _ hm;rw[hL]at ho;contradiction
 have hLF:F s.heap.objs.size=none:=bm.mpr λo q=>nomatch (x.sub _ _ q).symm.trans hL
 have X:Holds B.P B.G s.heap.objs.size F [] ⟨l9,o8⟩ h6:=
  ⟨x.core,λb o e=>h7 _ _ (x.sub _ _ e),⟨_,aV,hl⟩,hn,λp hp=>(x.objs p hp).move (.refl F) λb o w e=>h7 _ _ e,cg.mpr ⟨hLo,x.nodup⟩,
   λb hb=>by rcases fG hb with rfl | hb;exact hLF;exact x.apart b hb,λw hp=>(nomatch hp),x.big⟩
 have hA':gn n (A.deeper (callEnv (fnOf n5 qb pj b3 sf dV kV d7 pm an c3 ct) s.heap.objs.size f)):=
  ⟨hA.handled,by have:=hA.depth;show A.depth+1+n<=900;omega,by have:=hA.units;show A.units+3+8*n<=9000;omega⟩
 refine cD ((h s.heap.objs.size).run _ F { s with heap:=h6,toks:=s.toks+b7.length } hA' X) (λfl s' z=>?_) λw w z=>z.elim
 obtain⟨F',σ',x',p,e,he,q⟩:=z;refine dW (pD he q) ?_;rintro d hd q
 exact .mk _ d σ'.objs F' rfl hd x'.call ((p.over (λb hb=>(fG hb).elim (λe=>.inr (e▸hL)) .inl) h7 (.refl _) rfl).fewer λw=>.tail _) q
end
end
section
variable {x C dx:Addr} {fs:FL} {n5:Str} {v5:Value} {d:AV}
inductive nk (a:Addr) (o o':AO):OL->OL->Prop
 | head {r}:nk a o o' ((a,o)::r) ((a,o')::r)
 | tail {p r r'}:nk a o o' r r'->nk a o o' (p::r) (p::r')
theorem nk.split {a:Addr} {o o':AO} {l l':OL} (h:nk a o o' l l'):∃ pz pv,l=pz++(a,o)::pv/\l'=pz++(a,o')::pv:=by
 induction h with
 | head=>exact⟨[],_,rfl,rfl⟩
 | @tail p _ _ _ ih=>
  refine im (ih) ?_;clear ih;rintro pz pv e e'
  exact⟨p::pz,pv,cG (List.cons p) e,cG (List.cons p) e'⟩
section
variable {B:dc} {n:Nat} {L:Addr} {H:HL} {σ:St} {e5:Env}
theorem Holds.K {F:Fz} {h:Heap} (x:Holds B.P B.G L F H σ h):B.K.In h:=B.X.keeps λb o e=>x.sub _ _ (x.core _ _ e)
theorem EJ {expr:Bool} {Φ:PV} (mv:(v5,.ref x)∈H) (m:(x,AO.inst C dx fs)∈σ.objs) (ho:iw B.K C n5=true)
 (hf:eF n5 fs=some d) (hd:je d=true) (h:∀ v,Φ v d σ):WV B n L (getAttr v5 n5 expr) H σ Φ:=by
 refine dg λA F s hA X=>?_
 obtain rfl:=dF (X.hold mv)
 obtain⟨h1,es,k,h2,h3⟩:=X.objs _ m;refine dW (sP h3 hf) ?_;rintro v e1 e2
 simp only[iw,Bool.and_eq_true]at ho
 obtain⟨⟨hg,hh⟩,hn⟩:=ho
 induction ha:findIn B.K (.ref C) n5 using Option.casesOn with
 | none=>rw[ha]at hn;exact Bool.noConfusion hn
 | some aD=>
  rw[ha]at hn
  exact get_value X.K (⟨h1,rfl,rfl,h2⟩:InstAt s.heap x (instObj C dx) C (some (dictOf es k))) (plainGet_of hg).1 (findObj_own hh ha hn (by rw[lookIn_dict];exact e1)) (wW e2 hd) (.toks X ⟨d,e2,h v⟩)
theorem DN {f:Addr} {expr:Bool} {Φ:PV} (mv:(v5,.ref x)∈H) (m:(x,AO.inst C dx fs)∈σ.objs) (ho:gm B.K C n5 f=true)
 (hf:eF n5 fs=none) (h:∀ v,Φ v (.meth f x) σ):WV B n L (getAttr v5 n5 expr) H σ Φ:=by
 refine dg λA F s hA X=>?_
 obtain rfl:=dF (X.hold mv)
 obtain⟨h1,es,k,h2,h3⟩:=X.objs _ m;simp only[gm,Bool.and_eq_true,beq_iff_eq,Bool.not_eq_true']at ho
 obtain⟨⟨⟨⟨⟨⟨hg,hh⟩,ha⟩,hfn⟩,hgf⟩,ht⟩,hc⟩:=ho;refine get_bind X.K (⟨h1,rfl,rfl,h2⟩:InstAt s.heap x (instObj C dx) C (some (dictOf es k))) (plainGet_of hg).1 (findObj_fn hh ha hgf ht hc (by rw[lookIn_dict];exact kH h3 hf)) (plainGet_of hg).2
  (wpAny_call (fn_get (s:={ s with toks:=s.toks+1 }) X.K (beq_iff_eq.mp hfn) (handed_on rfl ?_)))
 exact dm.fresh X (λb o e=>bw _ e) (by
  induction q:s.heap.get? s.heap.objs.size using Option.casesOn with
  | none=>rfl
  | some o=>exact cI (cz q) (Nat.lt_irrefl _)) (bE _ rfl) rfl rfl λle=>⟨_,.meth (Fz.put_self ..),h _⟩
theorem zW {f:Addr} {pl:Sem Bool} {Ψ:Value×cO->Fz->St->Prop} (mv:(v5,.ref x)∈H) (m:(x,AO.inst C dx fs)∈σ.objs) (ho:gm B.K C n5 f=true)
 (hf:eF n5 fs=none) (h:∀ F,Ψ (.ref f,[v5]) F σ):W B n L (getMethod v5 n5 pl) H σ Ψ:=by
 refine dg λA F s hA X=>?_
 obtain rfl:=dF (X.hold mv)
 obtain⟨h1,es,k,h2,h3⟩:=X.objs _ m;simp only[gm,Bool.and_eq_true,beq_iff_eq,Bool.not_eq_true']at ho
 obtain⟨⟨⟨⟨⟨⟨hg,hh⟩,ha⟩,hfn⟩,hgf⟩,ht⟩,hc⟩:=ho;exact method_fn X.K (⟨h1,rfl,rfl,h2⟩:InstAt s.heap x (instObj C dx) C (some (dictOf es k))) (plainGet_of hg).1 (plainGet_of hg).2 ha (beq_iff_eq.mp hfn) (by
  show(lookIn n5 (dictOf es k)).map _ = _
  rw[lookIn_dict,kH h3 hf];rfl) (.here X (h F))
theorem nj {pl:Sem Bool} {Ψ:Value×cO->Fz->St->Prop} (mv:(v5,.ref x)∈H) (m:(x,AO.inst C dx fs)∈σ.objs)
 (ho:iw B.K C n5=true) (hn:findIn B.K (.ref C) n5=some none) (hf:eF n5 fs=some d) (hd:je d=true) (h:∀ v F,Is B.P F v d->Ψ (v,[]) F σ):W B n L (getMethod v5 n5 pl) H σ Ψ:=by
 refine dg λA F s hA X=>?_
 have mv':=mv
 obtain rfl:=dF (X.hold mv)
 obtain⟨h1,es,k,h2,h3⟩:=X.objs _ m;have hg:plainGet B.K C n5=true:=by
  simp only[iw,Bool.and_eq_true]at ho
  exact ho.1.1
 refine method_usual X.K (⟨h1,rfl,rfl,h2⟩:InstAt s.heap x (instObj C dx) C (some (dictOf es k))) (plainGet_of hg).1 (plainGet_of hg).2 hn rfl ?_
 refine cD ((EJ (n:=n) (Φ:=λy e σ'=>e=d/\σ'=σ) mv m ho hf hd (λy=>⟨rfl,rfl⟩)).run A F s hA X) (λv s' z=>?_) λy y z=>z
 obtain⟨F',σ',X',p,e,he,rfl,rfl⟩:=z;exact⟨F',_,X',p,h v F' he⟩
theorem Fx {v:Value} {o3:OL} {Φ:St->Prop} (mv:(v5,.ref x)∈H) (md:(v,d)∈H) (m:nk x (.inst C dx fs) (.inst C dx (f7 n5 d fs)) σ.objs o3)
 (ho :ja B.K C n5=true) (hz:fs.length<=900) (h:Φ ⟨σ.loc,o3⟩):WU B n L (setAttr v5 n5 v) H σ Φ:=by
 refine dg λA F s hA X=>?_
 obtain⟨l9,o8⟩:=σ;refine im (m.split) ?_;rintro pz pv rfl rfl
 obtain rfl:=dF (X.hold mv)
 have hd:=X.hold md
 obtain⟨h1,es,k,h2,h3⟩:=X.objs (x,.inst C dx fs) (by simp)
 simp only[ja,Bool.and_eq_true,beq_iff_eq]at ho
 obtain⟨⟨⟨hs,hp⟩,ht⟩,hh⟩:=ho;refine dW (X.frame) ?_;rintro m5 FR hl
 have hdo:dx∈dj (pz++(x,AO.inst C dx fs)::pv):=ee.mpr ⟨(x,.inst C dx fs),by simp,.inr dP⟩
 have hdx:dx∈L::dj (pz++(x,AO.inst C dx fs)::pv):=.tail _ hdo
 have neL:dx≠L:=λe=>(cg.mp X.nodup).1 (e▸hdo)
 have nex:x≠dx:=λe=>by
  have:=(cg.mp X.nodup).2
  rw[show(⟨l9,pz++(x,AO.inst C dx fs)::pv⟩:St).objs= _ from rfl,gW]at this
  have:=(bO.mp this).2.1
  exact(cg.mp this).1 (by exact(e)▸dP)
 have nxL:x≠L:=λe=>(cg.mp X.nodup).1 (e▸ee.mpr ⟨(x,.inst C dx fs),by simp,.inl rfl⟩)
 have N:News B.G L s.heap ((dx,dictOf es k)::oO B.G s.heap L [dx]):=λp hp=>by
  rcases fG hp with rfl | hp
  . exact⟨h2,neL,X.outG hdx⟩
  . exact sX _ hp
 refine set_dict FR B.X N (⟨h1,rfl,rfl,h2⟩:InstAt s.heap x (instObj C dx) C (some (dictOf es k))) rfl hs hp ht hh (xA h3) (es':=_) (n':=_) rfl
  (Upd.head λp hp=>by
   obtain⟨a,o⟩:=p;exact λe=>(lk.mp hp).2.2.1 (e▸.head _)) ?_ λh' F' N'=>?_
 . have e1:=jN h3
   have e2:(putL n5 (PyData.keyHash B.w.params n5) (.str n5 (s.toks+1)) v es).length= _:=jN (sG (x:=n5) (t:=s.toks+1) hd h3)
   have:∀ fs:FL,(f7 n5 d fs).length<=fs.length+1:=by
    intro fs
    induction fs with
    | nil=>simp[f7]
    | cons p r ih=>
     unfold f7
     split
     . simp
     . simp only[bY];exact Nat.lt_succ_of_le ‹_›
   have:=this fs
   omega
 . have keep:∀ b o,b≠L->b≠dx->s.heap.get? b=some o->h'.get? b=some o:=λb o q1 q2 e=>
    Ef (λb o e=>X.sub _ _ (X.core _ _ e)) F' N' (ex:=[dx]) (h:=s.heap) (λp hp=>.tail _ hp) b o q1 (λhm=>q2 (bL.mp hm)) e
   exact dm.change (o':=.inst C dx (f7 n5 d fs)) X (c:=dx) (.inr dP) rfl (λb o q1 q2 e=>keep b o q1 q2 e) ⟨m5,F'.ns,hl⟩ ⟨keep _ _ nxL nex h1,_,_,(N' _ dP).1,sG hd h3⟩ rfl rfl h
end
end
section
variable {x aD:Str} {d:AV} {l l':LL} {Φ:PV} {e o:Expr}
inductive js (x:Str) (d:AV):LL->LL->Prop
 | hit {o r}:js x d ((x,o)::r) ((x,some d)::r)
 | skip {p r r'}:js x d r r'->js x d (p::r) (p::r')
theorem js.keys (h:js x d l l'):l'.map (·.1)=l.map (·.1):=by
 induction h with
 | hit=>rfl
 | skip _ ih=>exact cG (List.cons _) ih
theorem js.isKey (h:js x d l l'):x∈l.map (·.1):=by
 induction h with
 | hit=>exact .head _
 | skip _ ih=>exact .tail _ ih
theorem js.mem {y:Str} {e:AV} (s:js x d l l') (n:(l.map (·.1)).Nodup) (h:(y,some e)∈l'):(y=x/\e=d)\/(y≠x/\(y,some e)∈l):=by
 induction s with
 | hit=>
  rcases fG h with h | h
  . cases h;exact .inl ⟨rfl,rfl⟩
  . exact .inr ⟨λz=>(cg.mp n).1 (cw.mpr ⟨(y,some e),h,z⟩),.tail _ h⟩
 | skip s ih=>
  rcases fG h with h | h
  . subst h;exact .inr ⟨λz=>(cg.mp n).1 (z▸s.isKey),.head _⟩
  . exact(ih (cg.mp n).2 h).imp_right λq=>⟨q.1,.tail _ q.2⟩
section
variable {B:dc} {n:Nat} {L:Addr} {H:HL} {σ:St} {e5:Env}
theorem DJ {v:Value} {lg:LL} {Φ:St->Prop} (md:(v,d)∈H) (m:js x d σ.loc lg) (h:Φ ⟨lg,σ.objs⟩) (hl:autoParam (e5.kindOf x=some .local) bR)
 (hL :autoParam (e5.locals=L) bR) (hp:autoParam ((e5.scope.kind==.class||(e5.scope.kind==.module&&e5.locals !=e5.globals))=false) bR):WU B n L (storeName e5 x v) H σ Φ:=by
 refine dg λA F s hA X=>?_
 subst hL;refine dW (X.loc) ?_;rintro m5 aV r
 refine wpAny_storeName_local hl aV (λh' hn hs=>?_) hp
 have keep:∀ b o,b≠e5.locals->s.heap.get? b=some o->h'.get? b=some o:=λb o q e=>(hs.2 b q).trans e
 refine⟨F,⟨lg,σ.objs⟩,⟨X.core,λb o e=>keep b o (λz=>?_) (X.sub _ _ e),⟨_,hn,λy e hy=>?_⟩,by refine m.keys▸?_;exact X.names,λp hp=>(X.objs p hp).move (.refl F) λb o hb e=>keep b o (λz=>?_) e,
  X.nodup,X.apart,X.held,X.low⟩,⟨λb o hb e=>keep b o (λz=>hb (z▸.head _)) e,λb hb=>.inl hb,λb o e=>.inl e,.refl F,.refl _,rfl⟩,h⟩
 . have:=X.apart b (z▸.head _)
   rw[e]at this;contradiction
 . rcases m.mem X.names hy with⟨rfl,rfl⟩ | ⟨q,hy⟩
   . exact⟨v,cJ rfl,X.hold md⟩
   . refine dW (r y e hy) ?_;rintro w e1 e2
     exact⟨w,by refine(cH q)▸?_;exact e1,e2⟩
 . exact(cg.mp X.nodup).1 (z▸ee.mpr ⟨p,hp,hb⟩)
theorem H1 {d} (hm:(x,some d)∈σ.loc) (h:∀ v,Φ v d σ) (hk:autoParam (e5.scope.kind=.function) bR) (hl:autoParam (e5.kindOf x=some .local) bR)
 (hL:autoParam (e5.locals=L) bR):WV B n L (loadName e5 x) H σ Φ:=by
 refine dg λA F s hA X=>?_
 refine dW (X.loc) ?_;rintro m aV r
 refine dW (r x d hm) ?_;rintro v e q
 exact wpAny_loadName_local hk hl (hL.symm▸aV) e (.here X ⟨d,q,h v⟩)
theorem Gi {pi} (h:WV B n L (eval e e5) H σ λo d a6=>WV B n L (getAttr o aD true) ((o,d)::H) a6 Φ)
 (he:autoParam (eval (.Attribute e aD pi) e5=(do
  let o <-eval e e5
  standAt pi.atName
  let r <-holding [o] (getAttr o aD true)
  letTemporaryGo e o r
  pure r)) bW):WV B n L (eval (.Attribute e aD pi) e5) H σ Φ:=by
 rw[he];refine dr (dk h λo d a6 w=>dt (dr (di (dk w λr d6 a9 q=>?_))))
 exact dg λA F s hA x=>cC (wpAny_letTemporaryGo (cE (.here x ⟨_,x.hold dP,q⟩)))
theorem uJ {n5:Str} {aJ pi} {ay:cN} {pl:Sem Bool}
 (h:WV B n L (eval o e5) H σ λov d a6=>W B n L (getMethod ov n5 pl) ((ov,d)::H) a6 λp y a9=>WV B n L (callWith pi p.1 p.2 (backTo pi (starEach ay e5)) []) ((ov,d)::H) a9 Φ)
 (he:autoParam (eval (.Call (.Attribute o n5 aJ) ay [] pi) e5=(do
  let ov <-eval o e5
  standAt aJ.atName
  let (f,first) <-holding [ov] (getMethod ov n5 pl)
  callWith pi f first (backTo pi (starEach ay e5)) [])) bR):WV B n L (eval (.Call (.Attribute o n5 aJ) ay [] pi) e5) H σ Φ:=by
 rw[he];refine dr (dk h λov d a6 w=>dt ?_)
 exact gg (di w) λp F a9 q=>⟨(ov,d)::H,λy h=>h,λy h=>.inl h,q⟩
theorem jJ {f:Expr} {ay:cN} {pi}
 (h:WV B n L (eval f e5) H σ λfv d a6=>WV B n L (callWith pi fv [] (backTo pi (starEach ay e5)) []) ((fv,d)::H) a6 Φ)
 (he:autoParam (eval (.Call f ay [] pi) e5=(do callWith pi (<-eval f e5) [] (backTo pi (starEach ay e5)) [])) bR):WV B n L (eval (.Call f ay [] pi) e5) H σ Φ:=by
 rw[he];exact dr h
theorem ir {p pi} {Φ:PF}
 (h:WV B n L (eval e e5) H σ λv d a6=>WV B n L (eval o e5) ((v,d)::H) a6 λov od a9=>WU B n L (setAttr ov aD v) ((ov,od)::(v,d)::H) a9 λaa=>Φ .next aa)
 (hs:autoParam (swapsWith e (some (.Attribute o aD p)) pi.line e5=pure false) bR):WF B n L (exec (.Assign [.Attribute o aD p] e pi) e5) H σ Φ:=by
 rw[plainObj_exec_Assign_Attribute o aD p e pi hs];refine dt (dr (dk h λv d a6 w=>?_))
 rw[arm_assign_Attribute];refine fS (dr (di (dk w λov od a9 w0=>dt (fS (di (i9 w0 λaa q=>?_))))))
 exact jg (lm q)
theorem xJ {p pi op} {Φ:PF}
 (h:WV B n L (eval o e5) H σ λov od a6=>WV B n L (getAttr ov aD true) ((ov,od)::H) a6 λa d a9=>WV B n L (eval e e5) ((a,d)::(ov,od)::H) a9 λb y aa=>
  WV B n L (inplaceOp op a b) ((b,y)::(a,d)::(ov,od)::H) aa λc z ab=>WU B n L (setAttr ov aD c) ((c,z)::(ov,od)::H) ab λad=>Φ .next ad):
 WF B n L (exec (.AugAssign (.Attribute o aD p) op e pi) e5) H σ Φ:=by
 rw[arm_exec_AugAssign_2];refine dt (dr (dk h λov od a6 w=>dr (di ?_)))
 refine dt (dr (dk w λa d a9 w0=>dr (di (dk w0 λb y aa w7=>dt (gx (dk w7 λc z ab w9=>?_))))))
 refine dt (fS (di (i9 w9 λad q=>?_)))
 exact dg λA F s hA x=>cC (wpAny_release (cE (.here x ⟨.next,trivial,q⟩)))
end
end
section
variable {M:Model} {p pi:Pos} {s s':Shared} {α:Type} {elts:cN} {Φ:PV} {l9:LL} {o8:OL}
theorem jW (s:Shared) (g:Nat) (x:GenState):(s.setGen g x).toks=s.toks:=rfl
theorem n8 {Γ:Ctx} {t:Sem Fin} {fs:List Frame} {e:End} (h:Runs M Γ p t fs s e s'):s.toks<=s'.toks:=by
 induction h<;>(try simp only[jW]at*)<;>(try dsimp only at*)<;>omega
theorem uI {Γ:Ctx} {g:Nat} {r:Resume} {res:GenResult} (h:Wakes M Γ p g r s res s'):s.toks<=s'.toks:=by
 unfold Wakes at h
 split at h
 . exact h.elim
 . split at h
   . refine FF (h) ?_;clear h;rintro e s5 h1 y y rfl
     have:=n8 h1
     simpa only[jW]using this
   . obtain⟨_,rfl⟩:=h;exact cB _
   . obtain⟨_,rfl⟩:=h;exact cB _
 . refine FF (h) ?_;clear h;rintro e s5 h1 y y rfl
   have:=n8 h1
   simpa only[jW]using this
 . obtain⟨_,rfl⟩:=h;exact cB _
 . obtain⟨_,rfl⟩:=h;exact cB _
theorem vO (M:Model) (Γ:Ctx) (t:Sem α) {Q:α->Pos->Shared->Prop} {E:Value->Pos->Shared->Prop} (n:Nat) (hn:n<=s.toks) (h:Sem.wp M Γ t Q E p s):Sem.wp M Γ t (λa p' s'=>n<=s'.toks/\Q a p' s') E p s:=by
 induction t generalizing p s with
 | pure a=>exact⟨hn,h⟩
 | raise e=>exact h
 | call c hd g l k ih=>
  refine im (h) ?_;clear h;rintro r s5 h1 h2
  exact⟨r,s5,h1,ih r (dN hn (n8 h1)) h2⟩
 | resume g r l k ih=>
  refine im (h) ?_;clear h;rintro r s5 h1 h2
  exact⟨r,s5,h1,ih r (dN hn (uI h1)) h2⟩
 | fresh k ih=>exact ih _ (Nat.le_succ_of_le hn) h
 | load a part k ih=>refine dW (h) ?_;clear h;rintro o h1 h2;exact⟨o,h1,ih _ hn h2⟩
 | genState g k ih=>refine dW (h) ?_;clear h;rintro o h1 h2;exact⟨o,h1,ih _ hn h2⟩
 | update a part f k ih=>exact⟨h.1,ih _ hn h.2⟩
 | choose src m k ih=>exact⟨h.1,ih _ hn h.2⟩
 | rule _ k ih=>exact ih _ hn h
 | «at» _ k ih=>exact ih _ hn h
 | loadIfAlive _ k ih=>exact ih _ hn h
 | point _ k ih=>exact ih _ hn h
 | alloc _ k ih=>exact ih _ hn h
 | ask k ih=>exact ih _ hn h
 | os _ _ k ih=>exact ih _ hn h
 | handled _ k ih=>exact ih _ hn h
 | newGen _ k ih=>exact ih _ hn h
 | stack k ih=>exact ih _ hn h
 | thread k ih=>exact ih _ hn h
 | _=>exact h.elim
theorem iJ {A:Around} {t:Sem α} {Q:α->Shared->Prop} {E:Value->Shared->Prop} (h:wpAny M A t Q E s):wpAny M A t (λa s'=>s.toks<=s'.toks/\Q a s') E s:=
 λΓ p hΓ=>vO M Γ t s.toks (cB _) (h Γ p hΓ)
theorem eJ (h:Heap):h.get? h.objs.size=none:=by
 induction q:h.get? h.objs.size using Option.casesOn with
 | none=>rfl
 | some o=>exact cI (cz q) (Nat.lt_irrefl _)
section
variable {B:dc} {n:Nat} {L:Addr} {H:HL} {σ:St} {e5:Env}
theorem dm.track {F:Fz} {Ψ:Fz->St->Prop} (x:Holds B.P B.G L F H σ s.heap) {a:Addr} {o:AO} (k:∀ b y,s.heap.get? b=some y->s'.heap.get? b=some y)
 (hn :∀ b∈a::o.more,s.heap.get? b=none) (nd:(a::o.more).Nodup) (q:yx B.P F s'.heap a o) (g:s'.gens=s.gens) (os:s'.os=s.os) (z:Ψ F ⟨σ.loc,(a,o)::σ.objs⟩):dm B L H σ F s s' Ψ:=by
 have old:∀ b∈L::dj σ.objs,b∉a::o.more:=λb hb hm=>by obtain⟨y,hy⟩:=x.there b hb;rw[hn b hm]at hy;contradiction
 have x':=x.grow k
 have eo:dj ((a,o)::σ.objs)=(a::o.more)++dj σ.objs:=rfl
 refine⟨F,⟨σ.loc,(a,o)::σ.objs⟩,⟨x.core,x'.sub,x'.loc,x.names,λp hp=>?_,?_,λb hb=>?_,x.held,x.low⟩,⟨λb o v e=>k b o e,λb hb=>?_,λb o e=>.inl e,.refl F,.of g,os⟩,z⟩
 . rcases fG hp with rfl | hp
   . exact q
   . exact x'.objs p hp
 . have xn:=cg.mp x.nodup
   rw[eo,cg,bO];refine⟨λhm=>?_,nd,xn.2,λb hb c hc e=>old c (.tail _ hc) (e▸hb)⟩
   rcases cf.mp hm with hm | hm
   . exact old L dP hm
   . exact xn.1 hm
 . rw[eo]at hb
   rcases fG hb with rfl | hb
   . exact x.apart b dP
   rcases cf.mp hb with hb | hb
   . induction w:F b using Option.casesOn with
     | none=>rfl
     | some y=>have:=x.sub _ _ w;rw[hn b hb]at this;contradiction
   . exact x.apart b (.tail _ hb)
 . rw[eo]at hb
   rcases fG hb with rfl | hb
   . exact .inl dP
   rcases cf.mp hb with hb | hb
   . exact .inr (hn b hb)
   . exact .inl (.tail _ hb)
theorem wI {k:Nat} (h:WL B n L (spliced (backTo pi (starEach elts e5))) H σ λy ds a6=>ds.length<=16777216/\∀ v,Φ v (.tup ds) a6):
 WV B n L (eval (.Tuple elts k pi) e5) H σ Φ:=dg λA F s hA x=>by
 refine wpAny_Tuple (cD (h.run A F s hA x) (λvs s5 z=>⟨?_,?_⟩) λy y z=>z)
 . obtain⟨_,_,_,_,ds,aY,hz,_⟩:=z
   refine aY.length▸dY▸?_;exact hz
 . refine z.fin λF0 a6 x0 ⟨ds,aY,_,q⟩=>?_
   exact dm.fresh x0 (λb o e=>bw _ e) (eJ _) (bE _ rfl) rfl rfl λle=>⟨.tup ds,.tup (Fz.put_self ..) (aY.mono le),q _⟩
theorem vJ (h:WL B n L (spliced (backTo pi (starEach elts e5))) H σ λy ds a6=>ds.length<=16777216/\∀ v,Φ v (.lst ds) a6):
 WV B n L (eval (.List elts pi) e5) H σ Φ:=dg λA F s hA x=>by
 refine wpAny_List (cD (h.run A F s hA x) (λvs s5 z=>⟨?_,?_⟩) λy y z=>z)
 . obtain⟨_,_,_,_,ds,aY,hz,_⟩:=z
   refine aY.length▸dY▸?_;exact hz
 . refine z.fin λF0 a6 x0 ⟨ds,aY,_,q⟩=>?_
   exact dm.fresh x0 (λb o e=>bw _ e) (eJ _) (bE _ rfl) rfl rfl λle=>⟨.lst ds,.lst (Fz.put_self ..) (aY.mono le),q _⟩
theorem uX (h:WL B n L (spliced (backTo pi (starEach elts e5))) H σ λy ds a6=>ds.length<=16777216/\∀ a,Φ (.ref a) (.ref a) ⟨a6.loc,(a,.list ds)::a6.objs⟩):
 WV B n L (eval (.List elts pi) e5) H σ Φ:=dg λA F s hA x=>by
 refine wpAny_List (cD (h.run A F s hA x) (λvs s5 z=>⟨?_,?_⟩) λy y z=>z)
 . obtain⟨_,_,_,_,ds,aY,hz,_⟩:=z
   refine aY.length▸dY▸?_;exact hz
 . refine z.fin λF0 a6 x0 ⟨ds,aY,_,q⟩=>?_
   exact dm.track (a:=s5.heap.objs.size) (o:=.list ds) x0 (λb o e=>bw _ e) (λb hb=>by refine(bL.mp hb)▸?_;exact eJ _) (by simp[AO.more]) ⟨_,_,bE _ rfl,aY⟩ rfl rfl ⟨_,.ref _,q _⟩
theorem fE {a b:OL} (h:a.Perm b):(dj a).Perm (dj b):=by
 induction h with
 | nil=>exact .refl _
 | cons p _ ih=>exact(List.Perm.append_left (p.1::p.2.more) ih)
 | swap p q r=>
  show((q.1::q.2.more)++((p.1::p.2.more)++dj r)).Perm ((p.1::p.2.more)++((q.1::q.2.more)++dj r))
  rw[<-bS,<-bS];exact List.Perm.append_right _ bA
 | trans _ _ ih1 ih2=>exact ih1.trans ih2
theorem Holds.drop {P:Params} {G:Heap} {F:Fz} {h:Heap} {o3 r8:OL} (x:Holds P G L F H ⟨l9,o8⟩ h) (e:o8.Perm (o3++r8)):Holds P G L F H ⟨l9,o3⟩ h:=by
 have pe:=fE e
 rw[fk]at pe
 have sub:∀ b∈dj o3,b∈dj o8:=λb hb=>pe.mem_iff.mpr (bB _ hb)
 have nd:=cg.mp x.nodup
 refine⟨x.core,x.sub,x.loc,x.names,λp hp=>x.objs p (e.mem_iff.mpr (bB _ hp)),cg.mpr ⟨λhm=>nd.1 (sub _ hm),?_⟩,λb hb=>?_,x.held,x.low⟩
 . exact(bO.mp (pe.nodup_iff.mp nd.2)).1
 . rcases fG hb with rfl | hb
   . exact x.apart b dP
   . exact x.apart b (.tail _ (sub b hb))
theorem uN {t:Sem α} {Ψ:α->Fz->St->Prop} {o3 r8:OL} (e:o8.Perm (o3++r8)) (h:W B n L t H ⟨l9,o3⟩ Ψ):W B n L t H ⟨l9,o8⟩ Ψ:=dg λA F s hA x=>by
 have pe:=fE e
 rw[fk]at pe
 have sub:∀ b∈L::dj o3,b∈L::dj o8:=λb hb=>by
  rcases fG hb with rfl | hb
  . exact .head _
  . exact .tail _ (pe.mem_iff.mpr (bB _ hb))
 refine cD (h.run A F s hA (x.drop e)) (λa s' z=>?_) λy y z=>z
 obtain⟨F',σ',x',p,q⟩:=z;refine⟨F',σ',x',⟨λb o hb=>p.keep b o λhm=>hb (sub b hm),λb hb=>(p.own b hb).imp_left (sub b),λb o e=>?_,p.mono,p.gens,p.os⟩,q⟩
 rcases p.frz b o e with z | z | z
 . exact .inl z
 . exact .inr (.inl (sub b z))
 . exact .inr (.inr z)
end
end
section
variable {id:String} {v5:Value}
noncomputable def fJ (n:Nat) (i:Int):Nat:=Int.casesOn i (λk=>min k n) λk=>n - (k+1)
noncomputable def sl (l:cK) (lo hi:Option Int):cK:=(l.take ((hi.map (fJ l.length)).getD l.length)).drop ((lo.map (fJ l.length)).getD 0)
theorem tW {n m:Int} (h0:0<=m) (h1:m<=n):max 0 (min m n)=m:=by rw[Int.min_eq_left h1,Int.max_eq_right h0]
theorem xW {n m:Int} (h:m < 0):max 0 (min m n)=0:=Int.max_eq_left (Int.le_trans (Int.min_le_left _ _) (Int.le_of_lt h))
theorem wY (k n:Nat):max 0 (min (k:Int) (n:Int))=((min k n:Nat):Int):=
 (Nat.le_total k n).elim (λh=>(tW (Int.natCast_nonneg k) (Int.ofNat_le.mpr h)).trans (cG Int.ofNat (Nat.min_eq_left h).symm)) λh=>(cG (max 0) (Int.min_eq_right (Int.ofNat_le.mpr h))).trans ((Int.max_eq_right (Int.natCast_nonneg n)).trans (cG Int.ofNat (Nat.min_eq_right h).symm))
theorem xf (k n:Nat):max 0 (min (Int.subNatNat n (k+1)) (n:Int))=((n - (k+1):Nat):Int):=
 (Nat.lt_or_ge n (k+1)).elim (λh=>(cG (λz:Int=>max 0 (min z (n:Int))) (Int.subNatNat_of_lt h)).trans ((xW (Int.negSucc_lt_zero _)).trans (cG Int.ofNat (Nat.sub_eq_zero_of_le (cy h)).symm))) λh=>(cG (λz:Int=>max 0 (min z (n:Int))) (Int.subNatNat_of_le h)).trans (tW (Int.natCast_nonneg _) (Int.ofNat_le.mpr (Nat.sub_le _ _)))
theorem jO (l:cK) (i j:Int):sl l (some i) (some j)=(l.take (fJ l.length j)).drop (fJ l.length i):=rfl
theorem NV (l:cK) (i:Int):sl l (some i) none=(l.take l.length).drop (fJ l.length i):=rfl
theorem jr (n:Nat) (i:Int):max 0 (min (if i < 0 then i+n else i) (n:Int))=((fJ n i:Nat):Int):=by
 induction i using Int.casesOn with
 | ofNat k=>exact(cG (λz:Int=>max 0 (min z (n:Int))) (cH (Int.not_lt.mpr (Int.natCast_nonneg k)))).trans (wY k n)
 | negSucc k=>exact(cG (λz:Int=>max 0 (min z (n:Int))) (cJ (Int.negSucc_lt_zero k))).trans (xf k n)
theorem nY (n:Nat) (i:Int):fJ n i<=n:=by
 induction i using Int.casesOn with
 | ofNat k=>exact Nat.min_le_right _ _
 | negSucc k=>exact Nat.sub_le _ _
theorem eX {n i:Nat} (h:i<=n):fJ n (i:Int)=i:=Nat.min_eq_left h
theorem pS {n:Nat} {i:Int} (h:(n:Int)<=i):fJ n i=n:=by
 induction i using Int.casesOn with
 | ofNat k=>exact Nat.min_eq_right (Int.ofNat_le.mp h)
 | negSucc k=>exact cI h (Int.not_le.mpr (Int.lt_of_lt_of_le (Int.negSucc_lt_zero k) (Int.natCast_nonneg n)))
theorem qL (v:Option Int) (d n:Nat):(Option.casesOn v (d:Int) λi=>max 0 (min (if i < 0 then i+n else i) (n:Int)):Int)=((v.map (fJ n)).getD d:Nat):=by
 induction v using Option.casesOn with
 | none=>rfl
 | some i=>exact jr n i
theorem kP (lo hi:Option Int) (n:Nat):Builtin.Str.strSliceIndices lo hi 1 n=sliceRange ((lo.map (fJ n)).getD 0:Nat) ((hi.map (fJ n)).getD n:Nat) 1:=
 Eq.trans (by kernel_rfl) ((cG (λx=>sliceRange x (Option.casesOn hi (n:Int) λi=>max 0 (min (if i < 0 then i+n else i) (n:Int))) 1) (qL lo 0 n)).trans (cG (λy=>sliceRange ((lo.map (fJ n)).getD 0:Nat) y 1) (qL hi n n)))
theorem Cl (l:cK) (lo hi:Option Int):Txt.slice (S l) lo hi=S (sl l lo hi):=by
 have e:=kP lo hi (S l).length
 have hb:(hi.map (fJ l.length)).getD l.length<=l.length:=by rcases hi with _ | _;exact cB _;exact nY _ _
 unfold Txt.slice sl;rw[e,dI]
 generalize(lo.map (fJ l.length)).getD 0=a
 generalize(hi.map (fJ l.length)).getD l.length=b at hb |-
 by_cases hab:a<=b
 . have e2:=kP (some a) (some b) (S l).length
   have:=StrLaws.sliceText_nat (S l) hab (by rw[dI];exact hb)
   unfold StrLaws.sliceText at this;rw[e2,dI]at this
   have e3:((some (a:Int)).map (fJ l.length)).getD 0=a:=eX (dN hab hb)
   have e4:((some (b:Int)).map (fJ l.length)).getD l.length=b:=eX hb
   rw[e3,e4]at this
   rw[List.drop_take];exact this
 . have h1:(l.take b).drop a=[]:=List.drop_eq_nil_of_le (dN (List.length_take_le ..) (Nat.le_of_not_le hab))
   have h2:sliceRange (a:Int) (b:Int) 1=[]:=by
    unfold sliceRange;rw[cJ (by decide),cH (Int.not_lt.mpr (Int.ofNat_le.mpr (Nat.le_of_not_le hab)))];rfl
   rw[h1,h2]
   rcases l with _ | _<;>rfl
noncomputable def qh (l:cK) (i:Int):Option Nat:=(seqIndex? i l.length).bind (l[·]?)
theorem f9 {l:cK} {k:Nat} (h:k < l.length):qh l k=some l[k]:=by
 unfold qh seqIndex?
 rw[cH (show ¬ ((k:Nat):Int) < 0 by simp+arith)];simp[h]
section
variable {B:dc} {n:Nat} {L:Addr} {H:HL} {σ:St} {e5:Env}
theorem D2 {first:cO} {ay:cN} {pi} {Φ:PV}
 (h:WL B n L (spliced (backTo pi (starEach ay e5))) H σ λvs ds a6=>WV B n L (call (.builtin id) (first++vs)) (vs.zip ds++H) a6 Φ)
 (hp:autoParam ((backTo pi (starEach ay e5)).any (·.1)=false) bR):WV B n L (callWith pi (.builtin id) first (backTo pi (starEach ay e5)) []) H σ Φ:=dg λA F s hA x=>by
 refine Calls.callWith_builtin hp (gf hp (cD (h.run A F s hA x) (λvs s5 z=>?_) λv v z=>z))
 refine z.then λF0 a6 x0 ⟨ds,aY,w⟩=>?_
 have x1:Holds B.P B.G L F0 (vs.zip ds++H) a6 s5.heap:=⟨x0.core,x0.sub,x0.loc,x0.names,x0.objs,x0.nodup,x0.apart,λp hp=>by
  rcases cf.mp hp with hp | hp
  . exact nI.zip_is aY p hp
  . exact x0.held p hp,x0.low⟩
 exact cD (w.run A F0 s5 hA x1) (λv v y=>y.weaken λv hp=>bz _ hp) λv v z=>z
theorem LD {n5:Str} {x:cK} {pl:Sem Bool} {Ψ:Value×cO->Fz->St->Prop} (mv:(v5,.str x)∈H) (slot:Slot "str" n5 id) (ty:typeOf (.builtin id)=pure (.type "method_descriptor"))
 (h:∀ F,Ψ (.builtin id,[v5]) F σ):W B n L (getMethod v5 n5 pl) H σ Ψ:=dg λA F s hA X=>by
 obtain⟨t,rfl⟩:=dD (X.hold mv);exact getMethod_builtin (typeIs_str _ _ _) PySem.F.plainAttrs_str slot ty (λy e=>nomatch e) (.here X (h _))
theorem Hv {n5:Str} {a:Addr} {l:cL} {pl:Sem Bool} {Ψ:Value×cO->Fz->St->Prop} (mv:(v5,.ref a)∈H) (m:(a,AO.list l)∈σ.objs) (slot:Slot "list" n5 id) (ty:typeOf (.builtin id)=pure (.type "method_descriptor"))
 (h:∀ F,Ψ (.builtin id,[v5]) F σ):W B n L (getMethod v5 n5 pl) H σ Ψ:=dg λA F s hA X=>by
 obtain rfl:=dF (X.hold mv)
 refine im (X.objs _ m) ?_;rintro vs k h1 y
 exact getMethod_builtin (T:="list") ⟨_,h1,rfl⟩ PySem.F.plainAttrs_list slot ty (λb e=>by cases e;exact⟨_,h1,rfl⟩) (.here X (h _))
theorem lL {a:Addr} {l:cL} {v:Value} {d:AV} {o3:OL} {Φ:PV} (mv:(v5,.ref a)∈H) (md:(v,d)∈H) (m:nk a (.list l) (.list (l++[d])) σ.objs o3) (hz:l.length<=16777216)
 (h:Φ .none .none ⟨σ.loc,o3⟩):WV B n L (call (.builtin "list.append") [v5,v]) H σ Φ:=dg λA F s hA X=>by
 obtain⟨l9,o8⟩:=σ;refine im (m.split) ?_;rintro pz pv rfl rfl
 obtain rfl:=dF (X.hold mv)
 have hd:=X.hold md
 refine im (X.objs (a,.list l) (by simp)) ?_;rintro vs k h1 h2
 refine append_at h1 (λh' hs ho=>?_) (by rw[dY];simpa [h2.length]using hz)
 refine dm.change (o':=.list (l++[d])) X (c:=a) (.inl rfl) rfl (λb y x q e=>(hs.2 b q).trans e) ?_ ⟨vs++[v],k+1,by rw[ho];simp[dZ],snoc h2 hd⟩ rfl rfl ⟨_,.none,h⟩
 refine dW (X.frame) ?_;rintro m5 FR hl
 exact⟨m5,FR.ns.sameBut hs (λe=>(cg.mp X.nodup).1 (by rw[e];exact ee.mpr ⟨_,bz _ dP,.inl rfl⟩)),hl⟩
where
 snoc {P:Params} {F:Fz} {v:Value} {d:AV} {vs:cO} {l:cL} (h:IsAll P F vs l) (q:Is P F v d):IsAll P F (vs++[v]) (l++[d]):=h.ind (C:=λvs l=>IsAll P F (vs++[v]) (l++[d])) (.cons q .nil) λy y y y h y c=>.cons h c
end
end
section
variable {a:Addr} {l:cL} {v5 v:Value} {Φ:PV} {x:cK} {c:Nat}
noncomputable def fN (c:Nat) (l:cK) (hi:Int):Nat:=(Builtin.Str.occurrences (S l) (S [c]) 0 (min (fJ l.length hi) l.length) (l.length+1)).length
noncomputable def iN (c:Nat) (l:cK) (hi:Int):Int:=match Builtin.Str.lastOccurrence (S l) (S [c]) 0 (min (fJ l.length hi) l.length)with | some i=>(i:Int) | none=> -1
section
variable {B:dc} {n:Nat} {L:Addr} {H:HL} {σ:St} {e5:Env}
theorem mh {l':cL} {d:AV} {k:Nat} {i:Int} {o3:OL} (mv:(v5,.ref a)∈H) (md:(v,.int i)∈H) (hi:Builtin.List.listFitsIndex i=true) (hk:seqIndex? i l.length=some k) (hd:l[k]? =some d)
 (hl :l.eraseIdx k=l') (m:nk a (.list l) (.list l') σ.objs o3) (hz:l.length<=16777216)
 (h : ∀ v,Φ v d ⟨σ.loc,o3⟩):WV B n L (call (.builtin "list.pop") [v5,v]) H σ Φ:=dg λA F s hA X=>by
 obtain⟨l9,o8⟩:=σ;refine im (m.split) ?_;rintro pz pv rfl rfl
 obtain rfl:=dF (X.hold mv)
 obtain⟨t,rfl⟩:=dw (X.hold md);refine im (X.objs (a,.list l) (by simp)) ?_;rintro vs q h1 h2
 have aE:=h2.length
 refine dW (nth h2 hd) ?_;rintro y hy hyd
 have hkl:k < l.length:=(List.getElem?_eq_some_iff.mp hd).1
 refine call_meets PySem.F.slot_list_pop ⟨_,h1,rfl⟩ PySem.F.entry_list_pop (PySem.F.args_list_pop_2 _ _) (MeetsSeq.list_pop_at a vs.toArray q i t k y hi (by simpa [aE]using hk) (by simpa using hy) (by rw[dY];simpa [aE]using hz)) ⟨h1,?_⟩
 have er:vs.toArray.eraseIdxIfInBounds k=(vs.eraseIdx k).toArray:=by
  unfold Array.eraseIdxIfInBounds;rw[dif_pos (by simpa [aE]using hkl)]
  simp
 refine dm.change (o':=.list l') X (c:=a) (.inl rfl) rfl (λb y x q e=>((Heap.SameBut.update (h:=s.heap) (a:=a) (f:=Obj.mapSeq λxs=>xs.eraseIdxIfInBounds k)).2 b q).trans e) ?_ ⟨vs.eraseIdx k,q+1,?_,hl▸era h2 k⟩ rfl rfl ⟨d,hyd,h _⟩
 . refine dW (X.frame) ?_;rintro m5 FR hl
   exact⟨m5,FR.ns.sameBut (Heap.SameBut.update ..) (λe=>(cg.mp X.nodup).1 (by rw[e];exact ee.mpr ⟨_,bz _ dP,.inl rfl⟩)),hl⟩
 . have e:Obj.mapSeq (λxs=>xs.eraseIdxIfInBounds k) (dZ vs q)=dZ (vs.eraseIdx k) (q+1):=by
    show(⟨_,_,.seq (vs.toArray.eraseIdxIfInBounds k) (if (vs.toArray.eraseIdxIfInBounds k).size==vs.toArray.size then q else q+1),_⟩:Obj)= _
    rw[er];have:((vs.eraseIdx k).toArray.size==vs.toArray.size)=false:=by
     simp only[List.size_toArray,List.length_eraseIdx]
     rw[cJ (by omega)];exact beq_eq_false_iff_ne.mpr (by omega)
    rw[this];rfl
   rw[Heap.get?_update_self _ h1 (by rw[e];rfl),e]
where
 nth {P:Params} {F:Fz} {vs:cO} {l:cL} {k:Nat} {d:AV} (h:IsAll P F vs l) (e:l[k]? =some d):∃ y,vs[k]? =some y/\Is P F y d:=
  h.ind (C:=λvs l=>∀ k,l[k]? =some d->∃ y,vs[k]? =some y/\Is P F y d) (λk e=>by contradiction) (λv d vs l h r ih k e=>by
   induction k using Nat.casesOn with
   | zero=>exact⟨v,rfl,Option.some.inj e▸h⟩
   | succ k=>exact ih k e) k e
 era {P:Params} {F:Fz} {vs:cO} {l:cL} (h:IsAll P F vs l) (k:Nat):IsAll P F (vs.eraseIdx k) (l.eraseIdx k):=
  h.ind (C:=λvs l=>∀ k,IsAll P F (vs.eraseIdx k) (l.eraseIdx k)) (λx=>.nil) (λv d vs l h r ih k=>Nat.casesOn (motive:=λk=>IsAll P F ((v::vs).eraseIdx k) ((d::l).eraseIdx k)) k r λk=>.cons h (ih k)) k
theorem uH {ms:d8} (mv:(v5,.str x)∈H) (md:(v,.ref a)∈H) (m:(a,AO.list l)∈σ.objs) (e:dT l=some ms)
 (hz:(ms.map (·.length)).sum+ms.length*x.length<=16777216) (h:∀ v,Φ v (.str (List.intercalate x ms)) σ):WV B n L (call (.builtin "str.join") [v5,v]) H σ Φ:=dg λA F s hA X=>by
 obtain⟨t,rfl⟩:=dD (X.hold mv);obtain rfl:=dF (X.hold md)
 refine im (X.objs _ m) ?_;rintro vs k h1 h2
 exact join_list (s:=s) (D:=a) (items:=vs.toArray) ⟨_,h1,rfl,_,rfl⟩ (by simpa using iK h2 e) (by rw[lens,dI,cq];exact hz) λt' k=>.toks X ⟨_,by rw[joined];exact .str _ _,h _⟩
where
 lens {ms:d8}:(ms.map S).map (·.length)=ms.map (·.length):=by rw[List.map_map];exact List.map_congr_left λa y=>dI a
 inter {x a b:cK} {r:d8}:List.intercalate x ((a++x++b)::r)=List.intercalate x (a::b::r):=by
  rcases r with _ | _<;>simp[List.intercalate,List.intersperse]
 joined {x:cK} {ms:d8}:Txt.join (S x) (ms.map S)=S (List.intercalate x ms):=by
  show Builtin.Str.glued _ _ = _
  rw[StrLaws.glued_eq_join]
  induction ms using List.casesOn with
  | nil=>rfl
  | cons a r=>
   rw[cv,<-StrLaws.glued_cons]
   induction r generalizing a with
   | nil=>simp[List.intercalate]
   | cons b r ih=>
    rw[cv,List.foldl_cons];have:=ih (a++x++b)
    simp only[S,List.append_toArray]at this |-
    rw[this,inter]
theorem Dq {ms:d8} (mv:(v5,.str x)∈H) (md:(v,.lst l)∈H) (e:dT l=some ms)
 (hz:(ms.map (·.length)).sum+ms.length*x.length<=16777216) (h:∀ v,Φ v (.str (List.intercalate x ms)) σ):WV B n L (call (.builtin "str.join") [v5,v]) H σ Φ:=dg λA F s hA X=>by
 obtain⟨t,rfl⟩:=dD (X.hold mv);refine kI (fz (X.hold md)) ?_;rintro a vs k rfl h1 h2
 exact join_list (s:=s) (D:=a) (items:=vs.toArray) (gh X.sub h1) (by simpa using iK h2 e) (by rw[uH.lens,dI,cq];exact hz) λt' k=>.toks X ⟨_,by rw[uH.joined];exact .str _ _,h _⟩
theorem IB (mv:(v,.str x)∈H) (hz:x.length<=16777216) (h:∀ v,Φ v (.int x.length) σ):WV B n L (call (.builtin "len") [v]) H σ Φ:=dg λA F s hA X=>by
 obtain⟨t,rfl⟩:=dD (X.hold mv);exact PyProof.Rows.len_str (by rw[dI];omega) (.toks X ⟨_,by rw[dI];exact .int _ _,h _⟩)
theorem I5 (mv:(v,.ref a)∈H) (m:(a,AO.list l)∈σ.objs) (hz:l.length<=16777216) (h:∀ v,Φ v (.int l.length) σ):WV B n L (call (.builtin "len") [v]) H σ Φ:=dg λA F s hA X=>by
 obtain rfl:=dF (X.hold mv)
 refine im (X.objs _ m) ?_;rintro vs k h1 h2
 have aE:=h2.length
 exact Calls.call_len_list (l:=a) (items:=vs.toArray) ⟨_,h1,rfl,_,rfl⟩ (by simp[aE];omega) (.toks X ⟨.int l.length,by simp only[List.size_toArray,aE];exact .int _ _,h _⟩)
theorem KN (mv:(v,.str [c])∈H) (h:∀ v,Φ v (.int c) σ):WV B n L (call (.builtin "ord") [v]) H σ Φ:=dg λA F s hA X=>by
 obtain⟨t,rfl⟩:=dD (X.hold mv);exact PySem.P.ord_of_char (c:=c) (.toks X ⟨_,.int _ _,h _⟩)
theorem Gw {Ψ:Bool->St->Prop} (mv:(v,.ref a)∈H) (m:(a,AO.list l)∈σ.objs) (hz:l.length<=16777216) (h:Ψ (!l.isEmpty) σ):WB B n L (truthy v) H σ Ψ:=dg λA F s hA X=>by
 obtain rfl:=dF (X.hold mv)
 refine im (X.objs _ m) ?_;rintro vs k h1 h2
 have aE:=h2.length
 have e:vs.toArray.isEmpty=l.isEmpty:=by
  induction vs using List.casesOn with
  | nil=>induction l using List.casesOn with
   | nil=>rfl
   | cons _ _=>cases aE
  | cons _ _=>induction l using List.casesOn with
   | nil=>cases aE
   | cons _ _=>simp[Array.isEmpty]
 exact wpAny_truthy_list (l:=a) (items:=vs.toArray) ⟨_,h1,rfl,_,rfl⟩ (by simp[aE];omega) (.toks X (e▸h))
theorem xI (y:Int) (n:Nat):min (max 0 y).toNat n=(max 0 (min y n)).toNat:=by
 rcases Int.le_total y 0 with h | h
 . rw[Int.max_eq_left h,Int.max_eq_left (Int.le_trans (Int.min_le_left _ _) h)];exact Nat.zero_min n
 . obtain⟨m,rfl⟩:=Int.eq_ofNat_of_zero_le h
   rw[Int.max_eq_right h]
   rcases Nat.le_total m n with q | q
   . rw[Int.min_eq_left (Int.ofNat_le.mpr q),Int.max_eq_right h];exact Nat.min_eq_left q
   . rw[Int.min_eq_right (Int.ofNat_le.mpr q),Int.max_eq_right (Int.natCast_nonneg n)];exact Nat.min_eq_right q
theorem qP (n:Nat) (hi:Int):min (fromIndex n hi) n=min (fJ n hi) n:=(xI _ n).trans ((cG Int.toNat (jr n hi)).trans (Nat.min_eq_left (nY n hi)).symm)
theorem yQ {hi:Int} {v1 v2 v3:Value} (m0:(v5,.str x)∈H) (m1:(v1,.str [c])∈H) (m2:(v2,.int 0)∈H) (m3:(v3,.int hi)∈H) (h:∀ v,Φ v (.int (fN c x hi)) σ):
 WV B n L (call (.builtin "str.count") [v5,v1,v2,v3]) H σ Φ:=dg λA F s hA X=>by
 obtain⟨t0,rfl⟩:=dD (X.hold m0);obtain⟨t1,rfl⟩:=dD (X.hold m1);obtain⟨t2,rfl⟩:=dw (X.hold m2);obtain⟨t3,rfl⟩:=dw (X.hold m3);refine call_gives (m:=.int (fN c x hi)) PySem.F.slot_str_count (typeIs_str _ _ _) PySem.F.entry_str_count (PySem.F.args_str_count_4 _ _ _ _) ?_ (.toks X ⟨_,.int _ _,h _⟩)
 have e:fromIndex (S x).length 0=0:=by simp[fromIndex]
 have e2:min (fromIndex (S x).length hi) (S x).length=min (fJ x.length hi) x.length:=by rw[dI];exact qP _ _
 show Gives (retInt (Builtin.Str.occurrences (S x) (S [c]) (fromIndex (S x).length 0) (min (fromIndex (S x).length hi) (S x).length) ((S x).length+1)).length) _
 rw[e,e2,dI];exact .of_eq rfl
theorem zJ {hi:Int} {v1 v2 v3:Value} (m0:(v5,.str x)∈H) (m1:(v1,.str [c])∈H) (m2:(v2,.int 0)∈H) (m3:(v3,.int hi)∈H) (h:∀ v,Φ v (.int (iN c x hi)) σ):
 WV B n L (call (.builtin "str.rfind") [v5,v1,v2,v3]) H σ Φ:=dg λA F s hA X=>by
 obtain⟨t0,rfl⟩:=dD (X.hold m0);obtain⟨t1,rfl⟩:=dD (X.hold m1);obtain⟨t2,rfl⟩:=dw (X.hold m2);obtain⟨t3,rfl⟩:=dw (X.hold m3);refine call_gives (m:=.int (iN c x hi)) PySem.F.slot_str_rfind (typeIs_str _ _ _) PySem.F.entry_str_rfind (PySem.F.args_str_rfind_4 _ _ _ _) ?_ (.toks X ⟨_,.int _ _,h _⟩)
 have e:fromIndex (S x).length 0=0:=by simp[fromIndex]
 have e2:min (fromIndex (S x).length hi) (S x).length=min (fJ x.length hi) x.length:=by rw[dI];exact qP _ _
 show Gives (match Builtin.Str.lastOccurrence (S x) (S [c]) (fromIndex (S x).length 0) (min (fromIndex (S x).length hi) (S x).length)with | some i=>retInt i | none=>(do rule "str.rfind.not-found";retInt (-1))) _
 rw[e,e2];unfold iN
 induction Builtin.Str.lastOccurrence (S x) (S [c]) 0 (min (fJ x.length hi) x.length)using Option.casesOn with
 | none=>exact .rule (.of_eq rfl)
 | some i=>exact .of_eq rfl
end
end
section
variable {k:Int} {j:Nat} {v6 slice:Expr} {o i:Value} {Φ:PV} {d:AV}
theorem oU {n:Nat} (h:seqIndex? k n=some j): -(n:Int)<=k/\k < n:=by
 unfold seqIndex? at h
 by_cases hk:k < 0
 . simp only[hk,if_true]at h
   split at h
   . rename_i q
     simp only[Bool.and_eq_true,decide_eq_true_eq]at q
     omega
   . contradiction
 . simp only[hk,if_false]at h
   split at h
   . rename_i q
     simp only[Bool.and_eq_true,decide_eq_true_eq]at q
     omega
   . contradiction
section
variable {B:dc} {n:Nat} {L:Addr} {H:HL} {σ:St} {e5:Env}
theorem iD {T id:String} (hT:∀ F (s:Shared),Holds B.P B.G L F H σ s.heap->s.TypeIs o T) (hl:typeLookup (.type T) "__getitem__"=pure (some (.builtin id)))
 (h:WV B n L (getItem o i) H σ Φ) (hs:∃ ops,subscripted slice false o i=operate ops (getItem o i):=by exact⟨_,rfl⟩):WV B n L (subscriptTail v6 slice o i) H σ Φ:=dg λA F s hA X=>by
 obtain⟨ops,hs⟩:=hs;unfold subscriptTail;refine cC ?_
 rw[getitemInPython_of_ne (hT F s X).not_modules];refine cC (wpAny_specialOf (hT F s X) hl ?_)
 have fin:wpAny B.M A (subscripted slice false o i) (λr s6=>wpAny B.M A (letTemporaryGo v6 o r >>= λy=>pure r) (λa s'=>dm B L H σ F s s' ((λv F' σ'=>∃ d,Is B.P F' v d/\Φ v d σ') a)) (λy y=>False) s6) (λy y=>False) s:=by
  rw[hs];exact wpAny_operateT (cD (h.run A F s hA X) (λr s6 hS=>cC (wpAny_letTemporaryGo (cE hS))) λy y x=>x)
 first
  | exact cE (cC fin)
  | exact cC (cE (cC fin))
  | exact cC fin
theorem Fh {pi} (h:WV B n L (eval v6 e5) H σ λo d a6=>WV B n L (eval slice e5) ((o,d)::H) a6 λi e a9=>WV B n L (subscriptTail v6 slice o i) ((i,e)::(o,d)::H) a9 Φ):
 WV B n L (eval (.Subscript v6 slice pi) e5) H σ Φ:=by
 rw[eval_Subscript];exact dr (dk h λo d a6 w=>dr (di (dk w λi e a9 w0=>dt w0)))
theorem Nj {x:cK} {c:Nat} (mo:(o,.str x)∈H) (mi:(i,.int k)∈H) (hc:qh x k=some c) (hz:x.length<=16777216) (h:∀ v,Φ v (.str [c]) σ)
 (hs : ∃ ops,subscripted slice false o i=operate ops (getItem o i):=by exact⟨_,rfl⟩):WV B n L (subscriptTail v6 slice o i) H σ Φ:=by
 refine iD (T:="str") (λF s X=>?_) PySem.F.slot_str_getitem.lookup (dg λA F s hA X=>?_) hs
 . obtain⟨t,rfl⟩:=dD (X.hold mo);exact typeIs_str _ _ _
 . obtain⟨t,rfl⟩:=dD (X.hold mo)
   obtain⟨u,rfl⟩:=dw (X.hold mi);refine PyProof.Rows.getItem_str (c:=c) ?_ ?_ (.toks X ⟨_,.str [c] _,h _⟩)
   . have:∃ j,seqIndex? k x.length=some j:=by
      unfold qh at hc
      induction q:seqIndex? k x.length using Option.casesOn with
      | none=>rw[q]at hc;contradiction
      | some j=>exact⟨j,rfl⟩
     obtain⟨j,hj⟩:=this;have:=oU hj
     simp only[Bool.or_eq_false_iff,decide_eq_false_iff_not]
     omega
   . rw[dI]
     unfold qh at hc
     simpa [S]using hc
theorem MK {l:cL} (mo:(o,.lst l)∈H) (mi:(i,.int k)∈H) (hk:0<=k) (hj:k.toNat=j) (hd:l[j]? =some d) (hz:l.length<=16777216) (h:∀ v,Φ v d σ)
 (hs:∃ ops,subscripted slice false o i=operate ops (getItem o i):=by exact⟨_,rfl⟩):WV B n L (subscriptTail v6 slice o i) H σ Φ:=by
 refine iD (T:="list") (λF s X=>?_) slot_list_getitem.lookup (dg λA F s hA X=>?_) hs
 . refine kI (fz (X.hold mo)) ?_;rintro a vs m rfl h1 h2;exact(gh X.sub h1).typeIs
 . refine kI (fz (X.hold mo)) ?_;rintro a vs m rfl h1 h2
   obtain⟨u,rfl⟩:=dw (X.hold mi);refine dW (mh.nth h2 hd) ?_;rintro y hy hyd
   have aE:=h2.length
   have hjl:j < l.length:=(List.getElem?_eq_some_iff.mp hd).1
   exact wpAny_getItem_list (l:=a) (items:=vs.toArray) (gh X.sub h1) (by omega) (by omega) (by simpa [hj]using hy) (.here X ⟨d,hyd,h _⟩)
noncomputable def pT:AV->Option (Option Int)
 | .none=>some none
 | .int i=>some (some i)
 | _=>none
theorem qy {P:Params} {F:Fz} {v:Value} {i:Option Int} (h:Is P F v d) (e:pT d=some i):∃ p:Option (Int×Tok),v=partValue p/\p.map (·.1)=i:=by
 induction d using AV.casesOn with
 | none=>obtain rfl:=gC h;obtain rfl:=Option.some.inj e;exact⟨none,rfl,rfl⟩
 | int k=>obtain⟨t,rfl⟩:=dw h;obtain rfl:=Option.some.inj e;exact⟨some (k,t),rfl,rfl⟩
 | _=>contradiction
theorem qp (l:cK) (i j:Option Int):(sl l i j).length<=l.length:=by
 unfold sl;rw[c8,List.length_take];omega
theorem uM {x:Str} {t:Tok} {pl pu:Option (Int×Tok)} {s:Shared} {Q:Value->Shared->Prop} (hl:(Txt.slice x (pl.map (·.1)) (pu.map (·.1))).length<=sizeLine)
 (h:∀ t' k,Q (.str (Txt.slice x (pl.map (·.1)) (pu.map (·.1))) t') { s with toks:=k }):(sliceMade x t pl pu none).post Q s:=by
 unfold sliceMade;unfold Txt.slice at hl h;exact post_val_or_str ⟨hl,h⟩
theorem D8 (h:Φ .none .none σ):WV B n L (evalPart none e5) H σ Φ:=dg λy y y y x=>cE (.here x ⟨_,.none,h⟩)
theorem BA {e:Expr} (h:WV B n L (eval e e5) H σ Φ):WV B n L (evalPart (some e) e5) H σ Φ:=h
theorem DQ {lo hi:Option Expr} {p pi}
 (h :WV B n L (eval v6 e5) H σ λo d a6=>WV B n L (evalPart lo e5) ((o,d)::H) a6 λl dl a9=>WV B n L (evalPart hi e5) ((l,dl)::(o,d)::H) a9 λy du aa=>
  ∃ x i j,d=.str x/\pT dl=some i/\pT du=some j/\x.length<=16777216/\∀ v,Φ v (.str (sl x i j)) aa):
 WV B n L (eval (.Subscript v6 (.Slice lo hi none p) pi) e5) H σ Φ:=kK λA F s Q hA X fq=>by
 rw[eval_Subscript];refine cC (h.then hA X λo s5 F0 a6 x0 p0 z=>dW z λd hd w8=>?_)
 refine cC (cu (wpAny_Slice (w8.then hA (x0.push hd) λl s7 F1 a9 x1 p5 z=>dW z λdl hdl w0=>?_)))
 refine w0.then hA (x1.push hdl) λu s6 F2 aa x4 p6 z=>?_
 refine dW z ?_;clear z;rintro du hdu z;refine Qy z ?_;clear z;rintro x i j rfl bi bj hz q
 refine cE (cC (wpAny_standAt ?_))
 obtain⟨t,rfl⟩:=dD (x4.hold iV);refine dW (qy (x4.hold dP) bi) ?_;rintro pl rfl e1
 refine dW (qy hdu bj) ?_;rintro pu rfl e2
 have x7:=x4.weaken (H':=H) λp hp=>.tail _ (.tail _ hp)
 have fin:wpAny B.M A (operate [.ref s6.heap.objs.size,.str (S x) t] (getItem (.str (S x) t) (.ref s6.heap.objs.size))) (λr s9=>wpAny B.M A (letTemporaryGo v6 (.str (S x) t) r >>= λy=>pure r) Q (λy y=>False) s9) (λy y=>False)
  { s6 with heap:=s6.heap.push { cls:=.type "slice",data:=.fields #[partValue pl,partValue pu,.none] } }:=by
  refine wpAny_operateT (wpAny_getItem_str_slice (l:=pl) (u:=pu) (st:=none) ⟨_,bE _ rfl,rfl,rfl⟩ rfl ?_)
  have e:Txt.slice (S x) (pl.map (·.1)) (pu.map (·.1))=S (sl x i j):=by rw[Cl,e1,e2]
  refine uM (Q:=λr s9=>wpAny B.M A (letTemporaryGo v6 (.str (S x) t) r >>= λy=>pure r) Q (λy y=>False) s9) ?_ λt' k=>?_
  . rw[e,dI,dY]
    exact dN (qp x i j) hz
  . refine cC (wpAny_letTemporaryGo (cE ?_))
    refine e▸?_
    exact fq _ _ ⟨F2,aa,x7.grow λb o e=>bw _ e,p0.trans (p5.trans (p6.trans ⟨λb o y e=>bw _ e,λy h=>.inl h,λy y e=>.inl e,.refl _,.refl _,rfl⟩)),.str (sl x i j),.str _ _,q _⟩
 refine cC ?_
 refine(getitemInPython_of_ne (typeIs_str s6 (S x) t).not_modules)▸?_
 refine cC (wpAny_specialOf (typeIs_str _ (S x) t) PySem.F.slot_str_getitem.lookup ?_)
 first
  | exact cE (cC fin)
  | exact cC (cE (cC fin))
  | exact cC fin
end
end
section
variable {P:Params} {F:Fz} {vs:List (Value×Value)} {l:FL} {pn:Program} {w:World} {es:List DictEntry}
noncomputable def dO (e5:Env) (pi:Pos):List (Option Expr)->cN->List (Sem Value×Sem Value)
 | some k::ks,v::vs=>(eval k e5,do let x <-eval v e5;standAt pi;pure x)::dO e5 pi ks vs
 | _,_=>[]
inductive KV (P:Params) (F:Fz):List (Value×Value)->FL->Prop
 | nil:KV P F [] []
 | cons {x t v d vs l}:Is P F v d->KV P F vs l->KV P F ((.str x t,v)::vs) ((x,d)::l)
theorem KV.mono {F':Fz} (k:F.le F') (h:KV P F vs l):KV P F' vs l:=by
 induction h with
 | nil=>exact .nil
 | cons h _ ih=>exact .cons (h.mono k) ih
noncomputable def KV.vals:List (Value×Value)->FL->cX
 | (_,v)::vs,(x,_)::l=>(x,v)::KV.vals vs l
 | _,_=>[]
theorem KV.carries (h:KV P F vs l):Carries (strKind pn w) vs (KV.vals vs l):=by
 induction h with
 | nil=>exact trivial
 | cons _ _ ih=>exact⟨bZ _,rfl,ih⟩
theorem KV.keys (h:KV P F vs l):(KV.vals vs l).map (·.1)=l.map (·.1):=by
 induction h with
 | nil=>rfl
 | cons _ _ ih=>exact cG (List.cons _) ih
inductive KM (P:Params) (F:Fz):cX->FL->Prop
 | nil:KM P F [] []
 | cons {x v d r l}:Is P F v d->KM P F r l->KM P F ((x,v)::r) ((x,d)::l)
theorem CO {x:Str} {v:Value} {d:AV} {e:DictEntry} (h1:(strKind pn w).is x e.key=true) (h2:e.val=v) (hk:∃ k,(strKind pn w).is k e.key=true/\e.hash=(strKind pn w).hash k) (h:Is w.params F v d) (r:IsEnts w.params F es l):IsEnts w.params F (e::es) ((x,d)::l):=by
 obtain⟨hh,ke,val⟩:=e;obtain⟨t,ht⟩:=Value.isStrOf_shape h1;refine dW (hk) ?_;clear hk;rintro k k1 k2
 have ek:k=x:=(strKind pn w).inj _ _ _ k1 h1
 subst ek;dsimp only at ht k2 h2
 subst ht k2 h2
 exact .cons h r
theorem KM.ents {kvs:cX} (h:KM w.params F kvs l) (p:Pairs (strKind pn w) es kvs)
 (hk:∀ e∈es,∃ k,(strKind pn w).is k e.key=true/\e.hash=(strKind pn w).hash k):IsEnts w.params F es l:=by
 induction h generalizing es with
 | nil=>cases p;exact .nil
 | cons h r ih=>cases p with | cons h1 h2 r8=>exact CO h1 h2 (hk _ dP) h (ih r8 λe he=>hk e (.tail _ he))
theorem KV.km (h:KV P F vs l):KM P F (KV.vals vs l) l:=by
 induction h with
 | nil=>exact .nil
 | cons h _ ih=>exact .cons h ih
theorem KV.ents (h:KV w.params F vs l) (p:Pairs (strKind pn w) es (KV.vals vs l))
 (hk:∀ e∈es,∃ k,(strKind pn w).is k e.key=true/\e.hash=(strKind pn w).hash k):IsEnts w.params F es l:=h.km.ents p hk
section
variable {B:dc} {n:Nat} {L:Addr} {H:HL} {σ:St} {e5:Env}
abbrev WD (B:dc) (n:Nat) (L:Addr) (t:Sem (List (Value×Value))) (H:HL) (σ:St) (Φ:FL->St->Prop):Prop:=
 W B n L t H σ (λvs F' σ'=>∃ l,KV B.P F' vs l/\Φ l σ')
theorem EC {pi} {Φ:FL->St->Prop} (h:Φ [] σ):WD B n L (evalPairs (dO e5 pi [] [])) H σ Φ:=dg λy y y y x=>evalPairs_nil (.here x ⟨[],.nil,h⟩)
theorem yJ {x:Str} {kk kp pi} {ks:List (Option Expr)} {v:Expr} {vs:cN} {Φ:FL->St->Prop}
 (h:WV B n L (eval v e5) H σ λa d a6=>WD B n L (evalPairs (dO e5 pi ks vs)) ((a,d)::H) a6 λl a9=>Φ ((x,d)::l) a9):
 WD B n L (evalPairs (dO e5 pi (some (.Constant (.str x) kk kp)::ks) (v::vs))) H σ Φ:=dg λA F s hA X=>by
 refine evalPairs_cons (wpAny_Constant_str (cC ?_))
 refine cD (h.run A F { s with toks:=s.toks+1 } hA X) (λa s5 z=>cC (wpAny_standAt (cE ?_))) λy y z=>z
 obtain⟨F0,a6,x0,p0,d,hd,w⟩:=z;refine cD (w.run A F0 s5 hA (x0.push hd)) (λb s7 z=>?_) λy y z=>z
 obtain⟨F1,a9,x1,p5,l,hl,q⟩:=z;have pr:=p0.trans p5
 exact⟨F1,a9,x1.weaken λy hp=>.tail _ hp,⟨pr.keep,pr.own,pr.frz,pr.mono,pr.gens,pr.os⟩,(x,d)::l,.cons (x1.hold dP) hl,q⟩
theorem kr {kvs:cX} {h:Heap} {a:Addr} (x:h.DictOf (strKind B.prog B.w) a kvs):∃ es m,h.get? a=some (dictOf es m)/\Pairs (strKind B.prog B.w) es kvs/\
 ∀ e∈es,∃ k,(strKind B.prog B.w).is k e.key=true/\e.hash=(strKind B.prog B.w).hash k:=by
 refine Q6 (x) ?_;clear x;rintro ⟨cls,dict,data,slots⟩ es ep ho ⟨h1,h2,h3⟩ hd hk hp _
 dsimp only at h1 h2 h3 hd
 subst h1 h2 h3 hd
 exact⟨es.toList,ep,ho,hp,λe he=>hk e (Array.mem_toList_iff.mp he)⟩
theorem Holds.frozenAt {G:Heap} {h h':Heap} {a:Addr} {o:Obj} (x:Holds P G L F H σ h) (hF:F a=none) (hO:a∉L::dj σ.objs) (k:∀ b o,b≠a->h.get? b=some o->h'.get? b=some o) (ha:h'.get? a=some o):
 Holds P G L (F.put a o) H σ h'/\F.le (F.put a o):=by
 have le:=Fz.le_put (o:=o) hF
 have sub:∀ b o,F b=some o->h'.get? b=some o:=λb o e=>k b o (λz=>by rw[z,hF]at e;contradiction) (x.sub _ _ e)
 refine⟨⟨λb o' e=>le _ _ (x.core b o' e),λb o' e=>?_,?_,x.names,λp hp=>(x.objs p hp).move le λb o' hb e=>k _ _ (λz=>hO (z▸.tail _ (ee.mpr ⟨p,hp,hb⟩))) e,x.nodup,λb hb=>?_,λp hp=>(x.held p hp).mono le,x.low⟩,le⟩
 . unfold Fz.put at e
   split at e
   . rename_i q;subst q;obtain rfl:=Option.some.inj e;exact ha
   . exact sub _ _ e
 . obtain⟨m,⟨o',es,ep,e1,e2⟩,r⟩:=x.loc
   exact⟨m,⟨o',es,ep,k _ _ (λz=>hO (z▸.head _)) e1,e2⟩,λy d hy=>let ⟨v,e,q⟩:=r y d hy;⟨v,e,q.mono le⟩⟩
 . unfold Fz.put
   split
   . rename_i q;exact cI (q▸hb) hO
   . exact x.apart b hb
theorem lW {n:Nat} (h:B.G.objs.size<=n):(n==sysModules)=false:=by
 obtain⟨mg,g⟩:=B.g;have:=g.lt
 have h2:mainGlobals=3:=rfl
 rw[h2]at this
 refine beq_eq_false_iff_ne.mpr λe=>?_
 have h3:sysModules=1:=rfl
 rw[h3]at e
 have h':3 < B.G.objs.size:=this
 omega
theorem Bg {keys:List (Option Expr)} {v8:cN} {pi:Pos} {Φ:PV}
 (h : WD B n L (evalPairs (dO e5 pi keys v8)) H σ λl a6=>(l.map (·.1)).Nodup/\∀ v,Φ v (.dct l) a6)
 (hs :autoParam ((evalEachOpt keys e5).zip ((evalEach v8 e5).map λv=>do let x <-v;standAt pi;pure x)=(dO e5 pi keys v8).map λp=>(some p.1,p.2)) bR)
 (h0 :dO e5 pi keys v8≠[]:=by exact List.cons_ne_nil _ _) (hl:autoParam ((dO e5 pi keys v8).length<=15) bD):WV B n L (eval (.Dict keys v8 pi) e5) H σ Φ:=dg λA F s hA X=>by
 refine wpAny_Dict_pairs (knd:=strKind B.prog B.w) hs h0 hl ?_
 have hn:=eJ s.heap
 have up:∀ b o,s.heap.get? b=some o->(s.heap.push { cls:=.type "dict",data:=.dict #[] }).get? b=some o:=λb o e=>bw _ e
 have aO:s.heap.objs.size∉L::dj σ.objs:=λhm=>by obtain⟨o,ho⟩:=X.there _ hm;rw[hn]at ho;contradiction
 refine cD (h.run A F _ hA (X.grow up)) (λvs s5 z=>?_) λ_ _ z=>z
 obtain⟨F0,a6,x0,p0,l,hl,hnd,q⟩:=z;have a0:s5.heap.get? s.heap.objs.size=some { cls:=.type "dict",data:=.dict #[] }:=p0.keep _ _ aO (bE _ rfl)
 refine⟨KV.vals vs l,KV.carries hl,⟨_,#[],_,a0,⟨rfl,rfl,rfl⟩,rfl,(λe he=>by simp at he),.nil,List.nodup_nil⟩,λh' hd aW=>?_⟩
 rw[merged_nil_of_nodup _ (by rw[KV.keys hl];exact hnd)]at hd
 refine jk (kr hd) ?_;rintro es m e1 e2 e3
 have aF:F0 s.heap.objs.size=none:=by
  induction w:F0 s.heap.objs.size using Option.casesOn with
  | none=>rfl
  | some o=>
   rcases p0.frz _ _ w with z | z | z
   . have:=X.sub _ _ z;rw[hn]at this;contradiction
   . exact cI z aO
   . rw[bE _ rfl]at z;contradiction
 have aO':s.heap.objs.size∉L::dj a6.objs:=λhm=>by
  rcases p0.own _ hm with z | z
  . exact aO z
  . rw[bE _ rfl]at z;contradiction
 obtain⟨x1,le⟩:=x0.frozenAt (h':=h') (o:=dictOf es m) aF aO' (λb o hb e=>(aW.2 b hb).trans e) e1
 refine⟨_,a6,x1,⟨λb o hb e=>(aW.2 b (λz=>by rw[z,hn]at e;contradiction)).trans (p0.keep _ _ hb (up _ _ e)),λb hb=>(p0.own b hb).imp_right λe=>?_,λb o e=>?_,p0.mono.trans le,p0.gens,p0.os⟩,.dct l,.dct (Fz.put_self ..) ((KV.ents hl e2 e3).mono le) hnd (lW X.big),q _⟩
 . induction w:s.heap.get? b using Option.casesOn with
   | none=>rfl
   | some o=>rw[up _ _ w]at e;contradiction
 . unfold Fz.put at e
   split at e
   . rename_i z;exact .inr (.inr (by rw[z];exact hn))
   . refine(p0.frz _ _ e).imp_right (Or.imp_right λe=>?_)
     induction w:s.heap.get? b using Option.casesOn with
     | none=>rfl
     | some o=>rw[up _ _ w]at e;contradiction
end
end
section
variable {t4:Expr} {a:Addr} {v:Value} {Φ:PF} {b3:cM}
def zV (o:Obj):Prop:=∃ n,o.cls=.type n/\["enumerate","zip","dict_itemiterator","dict_reverseitemiterator","odict_iterator","itertools.zip_longest","itertools.pairwise"].contains n=false
section
variable {pn:Program} {w:World} {A:Around} {E:Value->Shared->Prop} {s:Shared}
theorem np {o:Obj} {Q:Unit->Shared->Prop} (h:s.heap.get? a=some o) (q:zV o) (hQ:Q () s):wpAny (model pn w) A (letOwnedTupleGo t4 (.ref a) v) Q E s:=by
 refine dW (q) ?_;clear q;rintro n hc hn
 unfold letOwnedTupleGo;have ke:∀ r:Addr,wpAny (model pn w) A (load a >>= λo=>match o.cls,o.data with
  | .type n,.fields vs=>if (["enumerate","zip","dict_itemiterator","dict_reverseitemiterator","odict_iterator","itertools.zip_longest","itertools.pairwise"].contains n&&vs[0]? ==some (rawInt r))=true then (do rule "for.unpacks-the-owned-tuple";updateField a 0 .none) else pure ()
  | _,_=>pure ()) Q E s:=λr=>by
  refine cC (wpAny_load h ?_)
  rw[hc]
  cases o.data<;>first | exact cE hQ | (dsimp only;rw[hn,Bool.false_and,cH bN];exact cE hQ)
 split
 . rcases v with _ | _<;>first | exact cE hQ | exact ke _
 . rcases v with _ | _<;>first | exact cE hQ | exact ke _
 . exact cE hQ
end
section
variable {B:dc} {n:Nat} {L:Addr} {H:HL} {σ:St} {e5:Env}
theorem rl {x:Str} {p} {Φ:St->Prop} (h:WU B n L (storeName e5 x v) H σ Φ):WU B n L (assign (.Name x p) e5 v) H σ Φ:=dg λA F s hA X=>wpAny_assign_Name (h.run A F s hA X)
theorem IK {o:Expr} {aD:Str} {p} {Φ:St->Prop} (h:WV B n L (eval o e5) H σ λov d a6=>WU B n L (setAttr ov aD v) ((ov,d)::H) a6 Φ):WU B n L (assign (.Attribute o aD p) e5 v) H σ Φ:=by
 rw[arm_assign_Attribute];refine dr (di (dk h λov od a9 w=>dt (fS (di (W_dropU w λaa q=>?_)))))
 exact jg q
where
 W_dropU {t:Sem Unit} {H':HL} {Φ:St->Prop} {Ψ:St->Prop} {σ:St} (h:WU B n L t H' σ Φ) (k:∀ σ,Φ σ->Ψ σ):WU B n L t H' σ Ψ:=i9 h k
theorem qx {t1 t2 e:Expr} {k p pi}
 (h:WV B n L (eval e e5) H σ λv d a6=>∃ d1 d2,d=.tup [d1,d2]/\∀ v1 v2,WU B n L (assign t1 e5 v1) ((v1,d1)::(v2,d2)::H) a6 λa9=>WU B n L (assign t2 e5 v2) ((v1,d1)::(v2,d2)::H) a9 λaa=>Φ .next aa)
 (hs:autoParam (swapsWithSole [.Tuple [t1,t2] k p] e pi.line e5=pure false) bR) (hw:autoParam (swappedStores [.Tuple [t1,t2] k p] e e5=pure none) bR)
 (he:autoParam (assignEach [t1,t2] e5=[(false,assign t1 e5),(false,assign t2 e5)]) bR):WF B n L (exec (.Assign [.Tuple [t1,t2] k p] e pi) e5) H σ Φ:=dg λA F s hA X=>by
 refine PyProof.Rows.Assign_Tuple (cD (h.run A F s hA X) (λv s5 z=>?_) λy y z=>z) hs hw
 obtain⟨F0,a6,x0,p0,d,hd,d1,d2,rfl,w⟩:=z;refine kI (iy hd) ?_;rintro a vs m rfl e1 e2
 refine jk (two e2) ?_;rintro v1 v2 rfl q1 q2
 refine assign_Tuple_tuple hA.handled (m6 x0.sub e1) (by rw[he];rfl) (by rw[he];rfl) λh' hk=>?_
 rw[he];have keep:∀ b o,s5.heap.get? b=some o->h'.get? b=some o:=λb o e=>hk b o (Nat.ne_of_lt (cz e)) e
 have x1:=((x0.grow keep).push q2).push q1
 refine assignInOrder_cons ?_
 refine cD ((w v1 v2).run A F0 { s5 with heap:=h' } hA x1) (λy s6 z=>?_) λy y z=>z
 obtain⟨F2,aa,x4,p6,w7⟩:=z;refine assignInOrder_cons (cD (w7.run A F2 s6 hA x4) (λy s9 z=>?_) λy y z=>z)
 obtain⟨F3,ab,x5,p7,q⟩:=z;refine assignInOrder_nil ⟨F3,ab,x5.weaken λy hp=>.tail _ (.tail _ hp),p0.trans (eC.trans (s':={ s5 with heap:=h' }) ⟨λb o y e=>keep b o e,λy h=>.inl h,λy y e=>.inl e,.refl F0,.refl _,rfl⟩ (p6.trans p7)),.next,trivial,q⟩
where
 two {P:Params} {F:Fz} {vs:cO} {d1 d2:AV} (h:IsAll P F vs [d1,d2]):∃ v1 v2,vs=[v1,v2]/\Is P F v1 d1/\Is P F v2 d2:=by
  exact xO h
def lN (J:St->Prop) (Φ:PF):PF
 | .next,σ=>J σ
 | .cont,σ=>J σ
 | .brk,σ=>Φ .next σ
 | .ret d,σ=>Φ (.ret d) σ
theorem mz {t6:Expr} {pi} (J:Nat->St->Prop) (k:Nat) (h0:J k σ)
 (h:∀ k σ,J k σ->WB B n L (isTrue t6 e5 (eval t6 e5)) H σ λb a6=>(b=true->WF B n L (execs b3 e5) H a6 (lN (λa9=>∃ m,m < k/\J m a9) Φ))/\(b=false->Φ .next a6)):
 WF B n L (exec (.While t6 b3 [] pi) e5) H σ Φ:=dg λA F s hA X=>by
 refine wpAny_While ?_
 refine codeAny_whileLoop (λk s'=>∃ F' σ',Holds B.P B.G L F' H σ' s'.heap/\eC (L::dj σ.objs) F s (L::dj σ'.objs) F' s'/\J k σ') (λk s5 hI=>?_) k ⟨F,σ,X,.refl _ _ _,h0⟩
 refine jk (hI) ?_;clear hI;rintro F0 a6 x0 p0 j3
 refine cD ((h k a6 j3).run A F0 s5 hA x0) (λb s7 z=>?_) λy y z=>z.elim
 obtain⟨F1,a9,x1,p5,q⟩:=z
 induction b using Bool.casesOn with
 | false=>exact wpAny_execs_nil ⟨F1,a9,x1,p0.trans p5,.next,trivial,q.2 rfl⟩
 | true=>
  refine cD ((q.1 rfl).run A F1 s7 hA x1) (λf s6 z=>?_) λy y z=>z.elim
  obtain⟨F2,aa,x4,p6,e,he,q⟩:=z;have pp:=p0.trans (p5.trans p6)
  cases f with
  | next=>rcases e with _ | _<;>first | exact he.elim | (refine dW (q) ?_;clear q;rintro m hm j;exact⟨m,hm,F2,aa,x4,pp,j⟩)
  | cont=>rcases e with _ | _<;>first | exact he.elim | (refine dW (q) ?_;clear q;rintro m hm j;exact⟨m,hm,F2,aa,x4,pp,j⟩)
  | brk=>rcases e with _ | _<;>first | exact he.elim | exact⟨F2,aa,x4,pp,.next,trivial,q⟩
  | ret v=>rcases e with _ | _<;>first | exact he.elim | exact⟨F2,aa,x4,pp,.ret _,he,q⟩
inductive oE (B:dc) (n:Nat) (xv:Value) (d:AV) (N:Nat) (i3:Nat->AV) (a:Addr) (K:Nat->Obj->Prop):Prop
 | mk (next:∀ L' i l9 o8 H,i < N->(xv,d)∈H->W B n L' (pyNext (.ref a)) H ⟨l9,(a,.is (K i))::o8⟩ λr F σ'=>∃ v,r=some v/\Is B.P F v (i3 i)/\σ'=⟨l9,(a,.is (K (i+1)))::o8⟩)
  (stop:∀ L' l9 o8 H,(xv,d)∈H->W B n L' (pyNext (.ref a)) H ⟨l9,(a,.is (K N))::o8⟩ λr y σ'=>r=none/\σ'=⟨l9,o8⟩)
  (self:∀ L' l9 o8 H,W B n L' (pyIter (.ref a)) H ⟨l9,(a,.is (K 0))::o8⟩ λr y σ'=>r=.ref a/\σ'=⟨l9,(a,.is (K 0))::o8⟩) (quiet:∀ i o,K i o->zV o)
def fF (B:dc) (n:Nat) (L:Addr) (xv:Value) (d:AV) (N:Nat) (i3:Nat->AV):Prop:=
 ∀ H σ,(xv,d)∈H->W B n L (pyIter xv) H σ λr y σ'=>∃ (a:Addr) (K:Nat->Obj->Prop),r=.ref a/\σ'=⟨σ.loc,(a,.is (K 0))::σ.objs⟩/\oE B n xv d N i3 a K
def lr (a:Addr) (p:Obj->Prop) (J:St->Prop) (Φ:PF):PF
 | .next,σ=>∃ l9 o8,σ=⟨l9,(a,.is p)::o8⟩/\J ⟨l9,o8⟩
 | .cont,σ=>∃ l9 o8,σ=⟨l9,(a,.is p)::o8⟩/\J ⟨l9,o8⟩
 | .brk,σ=>Φ .next σ
 | .ret d,σ=>Φ (.ret d) σ
theorem oK {p:Obj->Prop} {J:St->Prop} {H':HL} (st:WU B n L (assign t4 e5 v) H' σ λa9=>WF B n L (execs b3 e5) H a9 (lr a p J Φ))
 {A:Around} {F:Fz} {s:Shared} {C:Flow->Shared->Prop} {E E':Value->Shared->Prop} (hA:gn n A) (X:Holds B.P B.G L F H' σ s.heap) (hH:∀ q∈H,q∈H')
 (k:∀ f s' F' σ' e,Holds B.P B.G L F' H σ' s'.heap->eC (L::dj σ.objs) F s (L::dj σ'.objs) F' s'->pJ B.P F' f e->lr a p J Φ e σ'->C f s'):wpAny B.M A (assign t4 e5 v) (λy s7=>wpAny B.M A (execs b3 e5) C E s7) E' s:=
 st.then hA X λy y y y x0 p0 w=>w.then hA (x0.weaken hH) λy y y y x1 p5 q=>Exists.elim q λy q=>k _ _ _ _ _ x1 (p0.trans p5) q.1 q.2
def OQ (G:Prop) (Q:Flow->Prop):Flow->Prop
 | .next | .cont=>G
 | .brk=>Q .next
 | .ret v=>Q (.ret v)
theorem rn {P:Params} {F:Fz} {f:Flow} {e:Fl} {σ':St} {p:Obj->Prop} {J:St->Prop} {G:Prop} {Q:Flow->Prop} (he:pJ P F f e) (q:lr a p J Φ e σ')
 (go:∀ l9 o8,σ'=⟨l9,(a,.is p)::o8⟩->J ⟨l9,o8⟩->G) (out:∀ f e,pJ P F f e->Φ e σ'->Q f):OQ G Q f:=by
 have g:(∃ l9 o8,σ'=⟨l9,(a,.is p)::o8⟩/\J ⟨l9,o8⟩)->G:=λ⟨l9,o8,e,j⟩=>go l9 o8 e j
 rcases f with _ | _<;>rcases e with _ | _<;>first | exact he.elim | exact g q | exact out .next .next trivial q | exact out (.ret _) (.ret _) he q
inductive D7 (B:dc) (L:Addr) (H:HL) (σ:St) (F:Fz) (s:Shared) (a:Addr) (K:Nat->Obj->Prop) (N:Nat) (J:Nat->St->Prop) (k:Nat) (s':Shared):Prop
 | mk (i:Nat) (F':Fz) (l9:LL) (o8:OL) (e:k=N - i) (hi:i<=N) (j:J i ⟨l9,o8⟩) (x:Holds B.P B.G L F' H ⟨l9,(a,.is (K i))::o8⟩ s'.heap) (p:eC (L::dj σ.objs) F s (L::dj ((a,AO.is (K i))::o8)) F' s')
inductive tB (B:dc) (n:Nat) (L:Addr) (H:HL) (e5:Env) (t4:Expr) (b3:cM) (J:Nat->St->Prop) (Φ:PF) (xv:Value) (d:AV) (a6:St):Prop
 | mk (N:Nat) (i3:Nat->AV) (it:fF B n L xv d N i3) (j0:J 0 a6) (fin:∀ σ,J N σ->Φ .next σ) (step:∀ i l9 o8 a p v,i < N->J i ⟨l9,o8⟩->WU B n L (assign t4 e5 v) ((v,i3 i)::(xv,d)::H) ⟨l9,(a,.is p)::o8⟩ λa9=>WF B n L (execs b3 e5) H a9 (lr a p (J (i+1)) Φ))
theorem LO {i5:Expr} {pi} (J:Nat->St->Prop) (h:WV B n L (eval i5 e5) H σ (tB B n L H e5 t4 b3 J Φ))
 (hs:autoParam (∀ x,foldedSetIterable i5 e5 x=pure x) bI) (ht:autoParam (∀ it v,letOwnedTupleGo t4 it v=pure ()) bJ):WF B n L (exec (.For t4 i5 b3 [] pi) e5) H σ Φ:=kK λA F s Q hA X fq=>by
 refine wpAny_For (h.then hA X λxv s5 F0 a6 x0 p0 q=>?_) hs
 refine dW (q) ?_;clear q;rintro d hd ⟨N,i3,it,j0,fin,step⟩
 refine(it _ a6 dP).then hA (x0.push hd) λr s7 F1 a9 x1 p5 q=>?_
 refine jk (q) ?_;clear q;rintro a K rfl rfl ⟨next,stop,_⟩
 refine codeAny_forLoop (D7 B L ((xv,d)::H) σ F s a K N J) (λk s6 hI=>?_) N ⟨0,F1,a6.loc,a6.objs,rfl,cA _,j0,x1,p0.trans p5⟩ (ht _)
 obtain⟨i,F2,l9,o8,e,hi,j,x4,p6⟩:=hI
 by_cases hN:i=N
 . subst hN
   refine(stop L l9 o8 _ dP).then hA x4 λr s9 F3 ab x5 p7 q=>?_
   obtain⟨rfl,rfl⟩:=q;exact wpAny_execs_nil (fq _ _ ⟨F3,_,x5.weaken λy hp=>.tail _ hp,p6.trans p7,.next,trivial,fin _ j⟩)
 . have aG:i < N:=Nat.lt_of_le_of_ne hi hN
   refine(next L i l9 o8 _ aG dP).then hA x4 λr s9 F3 ab x5 p7 q=>?_
   refine jM (q) ?_;clear q;rintro v rfl hv rfl
   refine oK (step i l9 o8 a (K (i+1)) v aG j) hA (x5.push hv) (λy hp=>.tail _ (.tail _ hp)) λf s8 F4 ad fe x6 p8 he q=>?_
   have pp:=p6.trans (p7.trans p8)
   refine rn (G:=∃ m,m < k/\D7 B L ((xv,d)::H) σ F s a K N J m s8) (Q:=λf=>Q f s8) he q (λlg o3 e' j'=>?_) λf e he q=>fq _ _ ⟨F4,ad,x6,pp,e,he,q⟩
   subst e';exact⟨N - (i+1),e▸Nat.sub_succ_lt_self _ _ aG,i+1,F4,lg,o3,rfl,aG,j',x6.push ((x5.hold dP).mono p8.mono),pp⟩
end
end
section
variable {F:Fz} {o8:OL} {l9:LL} {s s':Shared} {Ψ:Fz->St->Prop} {xv:Value}
section
variable {B:dc} {n:Nat} {L:Addr} {H:HL} {σ:St} {e5:Env}
theorem Holds.add {P:Params} {G:Heap} {h:Heap} {H':HL} (x:Holds P G L F H σ h) (k:∀ p∈H',Is P F p.1 p.2):Holds P G L F (H'++H) σ h:=
 ⟨x.core,x.sub,x.loc,x.names,x.objs,x.nodup,x.apart,λp hp=>(cf.mp hp).elim (k p) (x.held p),x.low⟩
theorem gp.enter {P:Params} {G:Heap} {h h6:Heap} {C:Addr} (x:gp P G F o8 h) (hC:h.get? C=none) (big:G.objs.size<=C)
 (k : ∀ b o,h.get? b=some o->h6.get? b=some o) (hl:∃ m,h6.Ns C m/\∀ y d,(y,some d)∈l9->∃ v,m y=some v/\Is P F v d) (hn:(l9.map (·.1)).Nodup) (hH:∀ p∈H,Is P F p.1 p.2):Holds P G C F H ⟨l9,o8⟩ h6:=by
 have there:∀ b∈dj o8,∃ o,h.get? b=some o:=λb hb=>by
  refine dW (ee.mp hb) ?_;rintro p hp hb
  exact(x.objs p hp).there b hb
 refine⟨x.core,λb o e=>k _ _ (x.sub _ _ e),hl,hn,λp hp=>(x.objs p hp).move (.refl F) λb o z e=>k _ _ e,cg.mpr ⟨λhm=>?_,x.nodup⟩,λb hb=>?_,hH,big⟩
 . obtain⟨o,ho⟩:=there _ hm;rw[hC]at ho;contradiction
 . rcases fG hb with rfl | hb
   . induction q:F b using Option.casesOn with
     | none=>rfl
     | some o=>have:=x.sub _ _ q;rw[hC]at this;contradiction
   . exact x.apart b hb
theorem eC.leave {F':Fz} {s5:Shared} {O O':cP} {C:Addr} (p:eC (C::O) F s5 (C::O') F' s') (hC:s.heap.get? C=none) (k:∀ b o,s.heap.get? b=some o->s5.heap.get? b=some o) (g:gr s.gens s5.gens) (os:s5.os=s.os) (nC:C∉O'):eC O F s O' F' s':=
 (p.over (λb hb=>(fG hb).elim (λe=>.inr (e▸hC)) .inl) k g os).fewer λy=>.tail _
theorem dm.remove {a:Addr} {o:AO} (x:Holds B.P B.G L F H ⟨l9,(a,o)::o8⟩ s.heap)
 (k :∀ b y,b≠a->s.heap.get? b=some y->s'.heap.get? b=some y) (g:s'.gens=s.gens) (os:s'.os=s.os) (z:Ψ F ⟨l9,o8⟩):dm B L H ⟨l9,(a,o)::o8⟩ F s s' Ψ:=by
 have x':=x.drop (o3:=o8) (r8:=[(a,o)]) (bA (l₁:=[(a,o)]))
 have aO:a∈L::dj ((a,o)::o8):=.tail _ dP
 have nd:=x.nodup
 have nL:a≠L:=λe=>(cg.mp nd).1 (e▸.head _)
 have nO:a∉dj o8:=λhm=>(cg.mp (cg.mp nd).2).1 (bz _ hm)
 have keep:∀ b y,b≠a->s.heap.get? b=some y->s'.heap.get? b=some y:=k
 refine⟨F,⟨l9,o8⟩,⟨x.core,λb y e=>keep b y (λq=>?_) (x.sub _ _ e),?_,x'.names,λp hp=>(x'.objs p hp).move (.refl F) λb y hb e=>keep b y (λq=>nO (q▸ee.mpr ⟨p,hp,hb⟩)) e,x'.nodup,x'.apart,x'.held,x.low⟩,
  ⟨λb y hb e=>keep b y (λq=>hb (q▸aO)) e,λb hb=>.inl ?_,λw w e=>.inl e,.refl F,.of g,os⟩,z⟩
 . have:=x.apart a aO;rw[<-q,e]at this;contradiction
 . obtain⟨m,⟨o',es,ep,e1,e2⟩,r⟩:=x.loc
   exact⟨m,⟨o',es,ep,keep _ _ (λq=>nL q.symm) e1,e2⟩,r⟩
 . rcases fG hb with rfl | hb
   . exact .head _
   . exact .tail _ (.tail _ (bz _ hb))
theorem dm.turn {a:Addr} {p p':Obj->Prop} (x:Holds B.P B.G L F H ⟨l9,(a,.is p)::o8⟩ s.heap)
 (k:Heap.SameBut a s.heap s'.heap) (q:∃ o,s'.heap.get? a=some o/\p' o) (g:s'.gens=s.gens) (os:s'.os=s.os) (z:Ψ F ⟨l9,(a,.is p')::o8⟩):dm B L H ⟨l9,(a,.is p)::o8⟩ F s s' Ψ:=by
 have nL:L≠a:=λe=>(cg.mp x.nodup).1 (e▸.head _)
 refine dm.change (pz:=[]) (o':=.is p') x (c:=a) (.inl rfl) rfl (λb y w h e=>(k.2 b h).trans e) ?_ q g os z
 refine dW (x.loc) ?_;rintro m hm r
 exact⟨m,hm.sameBut k nL,r⟩
theorem dm.begin (x:Holds B.P B.G L F H σ s.heap) {o:Obj} {p:Obj->Prop} {tk:Nat} (hp:p o) (z:Ψ F ⟨σ.loc,(s.heap.objs.size,.is p)::σ.objs⟩)
 (hf:(s.heap.push o).get? s.heap.objs.size=some o:=by exact bE _ rfl):dm B L H σ F s { s with heap:=s.heap.push o,toks:=tk } Ψ:=
 dm.track (o:=.is p) x (λb y e=>bw _ e) (λb hb=>by rw[bL.mp hb];exact eJ _) (by simp[AO.more]) ⟨o,hf,hp⟩ rfl rfl z
def wR (T:String) (l:cK) (t:Tok) (i:Nat) (o:Obj):Prop:=o.cls=.type T/\o.data=.fields #[.str (S l) t,.int i 0]
theorem vg {l:cK}:fF B n L xv (.str l) l.length (λi=>.str [l.getD i 0]):=by
 intro H σ m;refine dg λA F s hA X=>?_
 obtain⟨t,rfl⟩:=dD (X.hold m);have cps:∀ i:Nat,(S l).cps[i]? =l[i]?:=λi=>by simp
 induction ha:(S l).cps.all (· < 128)using Bool.casesOn with
 | true=>
  refine wpAny_pyIter_ascii ha (dm.begin (p:=wR "str_ascii_iterator" l t 0) X ⟨rfl,rfl⟩ ⟨_,λi=>wR "str_ascii_iterator" l t i,rfl,rfl,λL' i l9 o8 H hi z=>dg λA F s hA X=>?_,λL' l9 o8 H z=>dg λA F s hA X=>?_,(λL' l9 o8 H=>dg λA F s hA X=>?_),λi o ho=>⟨_,(by first | exact ho.1 | exact cG Obj.cls ho),rfl⟩⟩)
  . refine jM (X.objs _ dP) ?_;rintro o ho hc hd
    refine wpAny_pyNext_ascii_item (x:=S l) (t:=t) (i:=i) (c:=l[i]) ⟨o,ho,hc,hd⟩ (by rw[cps];simp[hi]) λh' hit hs=>?_
    exact dm.turn X hs hit rfl rfl ⟨_,rfl,(by have e:l.getD i 0=l[i]:=(by simp[hi]);show Is B.P F _ (.str [l.getD i 0]);rw[e];exact .str _ _),rfl⟩
  . refine jM (X.objs _ dP) ?_;rintro o ho hc hd
    refine wpAny_pyNext_ascii_end (x:=S l) (t:=t) (i:=l.length) hA.handled ⟨o,ho,hc,hd⟩ (by rw[cps];simp) λh' hs=>?_
    exact dm.remove X (λb y hb e=>hs b y hb e) rfl rfl ⟨rfl,rfl⟩
  . refine jM (X.objs _ dP) ?_;rintro o ho hc hd
    exact wpAny_pyIter_striter_ascii (i:=0) ⟨o,ho,hc,hd⟩ (.here X ⟨rfl,rfl⟩)
 | false=>
  refine wpAny_pyIter_wide ha (dm.begin (p:=wR "str_iterator" l t 0) X ⟨rfl,rfl⟩ ⟨_,λi=>wR "str_iterator" l t i,rfl,rfl,λL' i l9 o8 H hi z=>dg λA F s hA X=>?_,λL' l9 o8 H z=>dg λA F s hA X=>?_,(λL' l9 o8 H=>dg λA F s hA X=>?_),λi o ho=>⟨_,(by first | exact ho.1 | exact cG Obj.cls ho),rfl⟩⟩)
  . refine jM (X.objs _ dP) ?_;rintro o ho hc hd
    refine wpAny_pyNext_wide_item (x:=S l) (t:=t) (i:=i) (c:=l[i]) ⟨o,ho,hc,hd⟩ (by rw[cps];simp[hi]) λh' hit hs=>?_
    exact dm.turn X hs hit rfl rfl ⟨_,rfl,(by have e:l.getD i 0=l[i]:=(by simp[hi]);show Is B.P F _ (.str [l.getD i 0]);rw[e];exact .str _ _),rfl⟩
  . refine jM (X.objs _ dP) ?_;rintro o ho hc hd
    refine wpAny_pyNext_wide_end (x:=S l) (t:=t) (i:=l.length) hA.handled ⟨o,ho,hc,hd⟩ (by rw[cps];simp) λh' hs=>?_
    exact dm.remove X (λb y hb e=>hs b y hb e) rfl rfl ⟨rfl,rfl⟩
  . refine jM (X.objs _ dP) ?_;rintro o ho hc hd
    exact wpAny_pyIter_striter_wide (i:=0) ⟨o,ho,hc,hd⟩ (.here X ⟨rfl,rfl⟩)
def jP (a b:Int) (o:Obj):Prop:=∃ t u v,o={ cls:=.type "range",dict:=none,data:=.fields #[.int a t,.int b u,.int 1 v],slots:=#[] }
theorem tc {a:Int} {N:Nat} (ha: -1099511627776<=a) (ha':a<=1099511627776) (hN:N<=1099511627776):fF B n L xv (.obj (jP a (a+N))) N (λi=>.int (a+i)):=by
 intro H σ m;refine dg λA F s hA X=>?_
 have hh:=X.hold m
 refine jk (jq hh) ?_;clear hh;rintro r o rfl e1 e2
 refine R1 (e2) ?_;clear e2;rintro t u v rfl
 have hr:IsRange s.heap r a (a+N) 1 t u v:=X.sub _ _ e1
 have size:Builtin.Range.rangeSize a (a+N) 1=N:=by rw[rangeSize_one];split<;>omega
 let K:Nat->Obj->Prop:=λi o=>o={ cls:=.type "range_iterator",dict:=none,data:=.fields #[rawInt (a+i),rawInt (N - i),rawInt 1],slots:=#[] }
 refine wpAny_pyIter_range hr (small_one (by omega) (by omega) (by omega) (by omega)) (dm.begin (p:=K 0) X (by rw[size];simp[K]) ⟨_,K,rfl,rfl,λL' i l9 o8 H hi z=>dg λA F s hA X=>?_,λL' l9 o8 H z=>dg λA F s hA X=>?_,(λL' l9 o8 H=>dg λA F s hA X=>?_),λi o ho=>⟨_,(by first | exact ho.1 | exact cG Obj.cls ho),rfl⟩⟩)
 . refine dW (X.objs _ dP) ?_;rintro o ho rfl
   refine wpAny_pyNext_range_item (x:=a+i) (left:=N - i) (step:=1) ho (by omega) λh' hit hs=>?_
   exact dm.turn X hs ⟨_,hit,by show _ = _;rw[show a+(i:Int)+1=a+((i+1:Nat):Int)from by omega,show(N:Int) - i - 1=N - ((i+1:Nat):Int)from by omega]⟩ rfl rfl ⟨_,rfl,.int _ _,rfl⟩
 . refine dW (X.objs _ dP) ?_;rintro o ho rfl
   refine wpAny_pyNext_range_end (x:=a+N) (left:=N - N) (step:=1) hA.handled ho (by omega) λh' hs=>?_
   exact dm.remove X (λb y hb e=>hs b y hb e) rfl rfl ⟨rfl,rfl⟩
 . refine dW (X.objs _ dP) ?_;rintro o ho rfl
   exact wpAny_pyIter_rangeiter (x:=a+(0:Nat)) (left:=N - (0:Nat)) (step:=1) ho (.here X ⟨rfl,rfl⟩)
theorem lq {l:cL}:fF B n L xv (.lst l) l.length (λi=>l.getD i .any):=by
 intro H σ m;refine dg λA F s hA X=>?_
 refine kI (fz (X.hold m)) ?_;rintro t vs q rfl e1 e2
 have aE:=e2.length
 refine wpAny_pyIter_list (gh X.sub e1) (dm.begin (p:=λo=>o.cls=.type "list_iterator"/\o.data=.fields #[.ref t,.int (0:Nat) 0]) X ⟨rfl,rfl⟩ ⟨_,λi o=>o.cls=.type "list_iterator"/\o.data=.fields #[.ref t,.int (i:Nat) 0],rfl,rfl,λL' i l9 o8 H hi mm=>dg λA F s hA X=>?_,λL' l9 o8 H mm=>dg λA F s hA X=>?_,(λL' l9 o8 H=>dg λA F s hA X=>?_),λi o ho=>⟨_,(by first | exact ho.1 | exact cG Obj.cls ho),rfl⟩⟩)
 . refine jM (X.objs _ dP) ?_;rintro o ho hc hd
   refine kI (fz (X.hold mm)) ?_;rintro t' vs' q' et e1 e2
   cases et
   refine dW (mh.nth e2 (k:=i) (d:=l[i]) (by simp[hi])) ?_;rintro y hy hyd
   refine wpAny_pyNext_list_item (i:=i) ⟨o,ho,hc,hd⟩ (gh X.sub e1) (x:=y) (by simpa using hy) λh' hit hs=>?_
   exact dm.turn X hs hit rfl rfl ⟨_,rfl,(by have e:l.getD i .any=l[i]:=(by simp[hi]);show Is B.P F _ (l.getD i .any);rw[e];exact hyd),rfl⟩
 . refine jM (X.objs _ dP) ?_;rintro o ho hc hd
   refine kI (fz (X.hold mm)) ?_;rintro t' vs' q' et e1 e2
   cases et
   refine wpAny_pyNext_list_end (i:=l.length) hA.handled ⟨o,ho,hc,hd⟩ (gh X.sub e1) (by have:=e2.length;simp;omega) λh' hs=>?_
   exact dm.remove X (λb y hb e=>hs b y hb e) rfl rfl ⟨rfl,rfl⟩
 . refine jM (X.objs _ dP) ?_;rintro o ho hc hd
   exact wpAny_pyIter_listiter (l:=t) (i:=0) ⟨o,ho,hc,hd⟩ (.here X ⟨rfl,rfl⟩)
end
end
section
variable {Φ:PV}
section
variable {B:dc} {n:Nat} {L:Addr} {H:HL} {σ:St} {e5:Env}
theorem t9 (C:Value) (vs:cO) (kw:cX) (C':Addr) (e:C=.ref C'):(Code.builtin "type.__call__" ⟨C::vs,kw⟩).weight=1:=by subst e;kernel_rfl
theorem Jf {C fI:Addr} {vs:cO} {ds:cL} (hm:makesIn B.K C=true) (hi:findIn B.K (.ref C) "__init__"=some (some (.ref fI))) (hf:isFn B.K (.ref fI)=true)
 (e :vs.length=ds.length) (k:∀ p∈vs.zip ds,p∈H) (c:∀ x dx,de B n fI (.ref x::ds) ((x,.inst C dx [])::σ.objs) λd o3=>d=.none/\Φ (.ref x) (.ref x) ⟨σ.loc,o3⟩):
 WV B (n+1) L (call (.ref C) vs) H σ Φ:=dg λA F s hA X=>by
 obtain⟨hh,g,d,t,os⟩:=s;refine wpAny_call (make_core (makes_of X.K hm) (looks_findIn X.K hi) (λself=>bind_fn X.K self (beq_iff_eq.mp hf)) (.inl rfl) ?_)
 have T:dm B L H σ F ⟨hh,g,d,t,os⟩ ⟨(hh.push emptyDict).push (instObj C hh.objs.size),g,d,t,os⟩ (λF' σ'=>F'=F/\σ'=⟨σ.loc,(hh.objs.size+1,.inst C hh.objs.size [])::σ.objs⟩):=by
  have h1:((hh.push emptyDict).push (instObj C hh.objs.size)).get? (hh.objs.size+1)=some (instObj C hh.objs.size):=by heap_get
  have h2:((hh.push emptyDict).push (instObj C hh.objs.size)).get? hh.objs.size=some (dictOf [] 0):=bw _ (bE _ rfl)
  refine dm.track (o:=.inst C hh.objs.size []) X (λb y e=>bw _ (bw _ e)) (λb hb=>?_) (by simp[AO.more]) ⟨h1,[],0,h2,.nil⟩ rfl rfl ⟨rfl,rfl⟩
  induction q:hh.get? b using Option.casesOn with
  | none=>rfl
  | some o=>
   have:b < hh.objs.size:=cz q
   rcases fG hb with rfl | hb
   . exact cI this (Nat.not_lt.mpr (Nat.le_succ _))
   . rw[bL.mp hb]at this;exact cI this (Nat.lt_irrefl _)
 obtain⟨F0,a6,X0,p0,rfl,rfl⟩:=T;have hA':gn n (A.under (.builtin "type.__call__" ⟨.ref C::vs,[]⟩)):=by
  refine⟨hA.handled,?_,?_⟩
  . have:=hA.depth
    show A.depth+(Code.builtin "type.__call__" ⟨.ref C::vs,[]⟩).weight+n<=900
    rw[t9 (.ref C) vs [] C rfl];omega
  . have:=hA.units
    show A.units+(Code.builtin "type.__call__" ⟨.ref C::vs,[]⟩).cUnits+8*n<=9000
    have:(Code.builtin "type.__call__" ⟨.ref C::vs,[]⟩).cUnits=1:=by kernel_rfl
    omega
 refine codeAny_mono (c _ _ _ F0 _ _ hA' X0.call (.cons (.ref _) (lF X e k))) λr s' z=>?_
 obtain⟨v,d',o3,F',rfl,hd,y,p,rfl,q⟩:=z;obtain⟨x',p'⟩:=X0.back y p;exact⟨gC hd,F',_,x',p0.trans p',_,.ref _,q⟩
theorem Ck {T:String} {first:cO} {ay:cN} {pi}
 (h:WL B n L (spliced (backTo pi (starEach ay e5))) H σ λvs ds a6=>WV B n L (call (.type T) (first++vs)) (vs.zip ds++H) a6 Φ)
 (hp:autoParam ((backTo pi (starEach ay e5)).any (·.1)=false) bR):WV B n L (callWith pi (.type T) first (backTo pi (starEach ay e5)) []) H σ Φ:=dg λA F s hA x=>by
 refine PyProof.Rows.callWith_type hp (gf hp (cD (h.run A F s hA x) (λvs s5 z=>?_) λv v z=>z))
 refine z.then λF0 a6 x0 ⟨ds,aY,w⟩=>?_
 exact cD (w.run A F0 s5 hA (x0.add (nI.zip_is aY))) (λv v y=>y.weaken λv hp=>bz _ hp) λv v z=>z
theorem AX {v u:Value} {a b:Int} (mv:(v,.int a)∈H) (mu:(u,.int b)∈H) (h:∀ v,Φ v (.obj (jP a b)) σ):WV B n L (call (.type "range") [v,u]) H σ Φ:=dg λA F s hA X=>by
 obtain⟨t,rfl⟩:=dw (X.hold mv);obtain⟨t',rfl⟩:=dw (X.hold mu);refine call_range_2 (dm.fresh X (λb o e=>bw _ e) (eJ _) (bE _ rfl) rfl rfl λle=>⟨_,.obj (Fz.put_self ..) ⟨_,_,_,rfl⟩,h _⟩)
theorem Holds.freeze {P:Params} {G:Heap} {F:Fz} {h:Heap} {l9:LL} {o8:OL} {a:Addr} {l:cL} (x:Holds P G L F H ⟨l9,(a,.list l)::o8⟩ h):
 ∃ F',F.le F'/\Holds P G L F' H ⟨l9,o8⟩ h/\Is P F' (.ref a) (.lst l)/\∀ b o,F' b=some o->F b=some o\/b=a:=by
 refine im (x.objs _ dP) ?_;rintro vs m h1 h2
 have aF:F a=none:=x.apart a iV
 have le:=Fz.le_put (o:=dZ vs m) aF
 have x':=x.drop (o3:=o8) (r8:=[(a,AO.list l)]) (bA (l₁:=[(a,AO.list l)]))
 have nd:=x.nodup
 have nL:a≠L:=λe=>(cg.mp nd).1 (e▸.head _)
 have nO:a∉dj o8:=λhm=>(cg.mp (cg.mp nd).2).1 (bz _ hm)
 refine⟨F.put a (dZ vs m),le,⟨λb o' e=>le _ _ (x.core b o' e),λb o' e=>?_,let ⟨m,hm,r⟩:=x.loc;⟨m,hm,λy d hy=>let ⟨v,e,q⟩:=r y d hy;⟨v,e,q.mono le⟩⟩,x'.names,
  λp hp=>(x'.objs p hp).move le λ_ _ _ e=>e,x'.nodup,λb hb=>?_,λp hp=>(x.held p hp).mono le,x.low⟩,.lst (Fz.put_self ..) (h2.mono le),λb o e=>?_⟩
 . unfold Fz.put at e
   split at e
   . rename_i q;subst q;obtain rfl:=Option.some.inj e;exact h1
   . exact x.sub _ _ e
 . unfold Fz.put
   split
   . rename_i q
     subst q
     rcases fG hb with h | hb
     . exact cI h nL
     . exact cI hb nO
   . exact x'.apart b hb
 . unfold Fz.put at e
   split at e
   . exact .inr ‹_›
   . exact .inl e
theorem jT {t:Sem Value} (h:WV B n L t H σ λv d a6=>∃ a l l9 o8,d=.ref a/\a6=⟨l9,(a,.list l)::o8⟩/\Φ v (.lst l) ⟨l9,o8⟩):WV B n L t H σ Φ:=dg λA F s hA X=>by
 refine cD (h.run A F s hA X) (λv s5 z=>?_) λy y z=>z
 obtain⟨F0,a6,x0,p0,d,hd,a,l,l9,o8,rfl,rfl,q⟩:=z;refine FN (x0.freeze) ?_;rintro F1 le x1 hl back
 obtain rfl:=dF hd
 have aO:a∈L::dj σ.objs\/s.heap.get? a=none:=p0.own a iV
 refine⟨F1,_,x1,⟨p0.keep,λb hb=>p0.own b ?_,λb o e=>?_,p0.mono.trans le,p0.gens,p0.os⟩,_,hl,q⟩
 . rcases fG hb with rfl | hb
   . exact .head _
   . exact .tail _ (.tail _ hb)
 . rcases back b o e with z | rfl
   . exact p0.frz b o z
   . rcases aO with z | z
     . exact .inr (.inl z)
     . exact .inr (.inr z)
end
end
section
variable {xs:cQ} {F:Fz} {C a D:Addr} {o8:OL}
noncomputable def bare (xs:cQ):LL:=xs.map (·,none)
theorem kn (xs:cQ):(bare xs).map (·.1)=xs:=by
 unfold bare;rw[List.map_map];exact(List.map_congr_left λy y=>rfl).trans (List.map_id _)
theorem ku {y:Str} {d:AV} (h:(y,some d)∈bare xs):False:=by
 unfold bare at h;refine dW (cw.mp h) ?_;rintro x x e
 cases e
noncomputable abbrev nK (i6:cN) (e5:Env):Sem Bool:=forIn i6 true λc r=>if r=true then do let ok <-isTrue c e5 (eval c e5);pure (ForInStep.yield ok) else pure (ForInStep.yield r)
section
variable {B:dc} {n:Nat} {L:Addr} {H:HL} {σ:St} {e5:Env}
theorem GN {Φ:Bool->St->Prop} (h:Φ true σ):WB B n L (nK [] e5) H σ Φ:=dg λy y y y x=>by
 exact cE (.here x h)
theorem Holds.besides {P:Params} {G:Heap} {h h':Heap} (x:Holds P G L F H σ h) (hF:F C=none) (hO:C∉L::dj σ.objs) (k:∀ b o,b≠C->h.get? b=some o->h'.get? b=some o):Holds P G L F H σ h':=by
 refine⟨x.core,λb o e=>k b o (λz=>by rw[z,hF]at e;contradiction) (x.sub _ _ e),?_,x.names,λp hp=>(x.objs p hp).move (.refl F) λb o' hb e=>k _ _ (λz=>hO (z▸.tail _ (ee.mpr ⟨p,hp,hb⟩))) e,x.nodup,x.apart,x.held,x.low⟩
 refine dW (x.loc) ?_;rintro m ⟨o',es,ep,e1,e2⟩ r
 exact⟨m,⟨o',es,ep,k _ _ (λz=>hO (z▸.head _)) e1,e2⟩,r⟩
end
section
variable {pn:Program} {w:World} {A:Around} {E:Value->Shared->Prop} {s:Shared}
variable {R:Result->Shared->Prop}
theorem Nn {e6 t4 i5:Expr} {i6:cN} {sf:Scope} {pi:Pos} {it az:Value} {e5:Env} (I:Nat->Shared->Prop)
 (turn:∀ n s,I n s->wpAny (model pn w) A (pyNext it) (λr s5=>match r with
  | none=>R (.ok .next) s5
  | some v=>wpAny (model pn w) A (letOwnedTupleGo t4 it v) (λy sa=>wpAny (model pn w) A (assign t4 e5 v) (λy s7=>
   wpAny (model pn w) A (nK i6 e5) (λok s6=>
    if ok=true then wpAny (model pn w) A (eval e6 e5) (λx s9=>
     wpAny (model pn w) A (call (.builtin "list.append") [az,x]) (λy s8=>∃ m,m < n/\I m s8) (notedBy (model pn w) A e5 λe s'=>R (.error e) s') s9) (notedBy (model pn w) A e5 λe s'=>R (.error e) s') s6
    else ∃ m,m < n/\I m s6) (notedBy (model pn w) A e5 λe s'=>R (.error e) s') s7) (notedBy (model pn w) A e5 λe s'=>R (.error e) s') sa) (notedBy (model pn w) A e5 λe s'=>R (.error e) s') s5) (notedBy (model pn w) A e5 λe s'=>R (.error e) s') s)
 (n:Nat) (h:I n s):codeAny (model pn w) A (.compLoop (.ListComp e6 [⟨t4,i5,i6,0⟩] sf pi) 0 it az e5) R s:=by
 refine codeAny_loop rfl I (λn s hI=>?_) n h
 show wpAny _ A ((compTurn (.ListComp e6 [⟨t4,i5,i6,0⟩] sf pi) 0 it az e5).onRaise (λx=>do noteFrame x e5;theTreesLotGoes x)) _ _ s
 refine wpAny_noted ?_
 rw[compTurn_list];refine cC (wpAny_standAt (cC (cD (turn n s hI) (λr s5 h6=>?_) λy y h'=>h')))
 induction r using Option.casesOn with
 | none=>exact cE h6
 | some v=>
  refine cC (cD h6 (λy sa ar=>?_) λy y h'=>h')
  refine cC (cD ar (λy s7 h9=>cC (cD h9 (λok s6 hS=>?_) λy y h'=>h')) λy y h'=>h')
  induction ok using Bool.casesOn with
  | false=>exact cE ⟨rfl,hS⟩
  | true=>exact cC (cC (cD hS (λx s9 au=>cC (cD au (λy s8 aw=>cE (cE ⟨rfl,aw⟩)) λy y h'=>h')) λy y h'=>h'))
end
section
variable {B:dc} {n:Nat} {L:Addr} {H:HL} {σ:St} {e5:Env}
def lV (B:dc) (n:Nat) (t4 e6:Expr) (i6:cN) (c6:Addr->Env) (H:HL) (xs:cQ) (i3:AV) (J J':cL->OL->Prop):Prop:=
 ∀ C ys o8 D a p v,J ys o8->WU B n C (assign t4 (c6 C) v) ((v,i3)::H) ⟨bare xs,(D,.list ys)::(a,.is p)::o8⟩ λa9=>WB B n C (nK i6 (c6 C)) H a9 λok aa=>
  (ok=true->WV B n C (eval e6 (c6 C)) H aa λy e ab=>∃ l9 o3,ab=⟨l9,(D,.list ys)::(a,.is p)::o3⟩/\ys.length<=16777215/\J' (ys++[e]) o3)/\
  (ok=false->∃ l9 o3,aa=⟨l9,(D,.list ys)::(a,.is p)::o3⟩/\J' ys o3)
theorem eC.less {o o' r8:OL} (h:o.Perm (o'++r8)):eC (C::dj o) F s (C::dj o') F s:=by
 have pe:=fE h
 rw[fk]at pe
 refine⟨λy y y e=>e,λb hb=>.inl ?_,λy y e=>.inl e,.refl F,.refl _,rfl⟩
 rcases fG hb with rfl | hb
 . exact .head _
 . exact .tail _ (pe.mem_iff.mpr (bB _ hb))
theorem eC.rest {O O':cP} {F':Fz} {s':Shared} {h':Heap} (p:eC O F s O' F' s') (hC:s.heap.get? C=none) (k:∀ b,b≠C->h'.get? b=s'.heap.get? b):eC O F s O' F' { s' with heap:=h' }:=
 ⟨λb o hb e=>(k b (λz=>nomatch (z▸e).symm.trans hC)).trans (p.keep b o hb e),p.own,p.frz,p.mono,p.gens,p.os⟩
inductive Fd (B:dc) (C:Addr) (H:HL) (O:cP) (F:Fz) (s:Shared) (xs:cQ) (a D:Addr) (K:Nat->Obj->Prop) (N:Nat) (J:Nat->cL->OL->Prop) (k:Nat) (s':Shared):Prop
 | mk (i:Nat) (F':Fz) (ys:cL) (o3:OL) (e:k=N - i) (hi:i<=N) (j:J i ys o3) (x:Holds B.P B.G C F' H ⟨bare xs,(a,.is (K i))::(D,.list ys)::o3⟩ s'.heap) (p:eC O F s (C::dj ((a,AO.is (K i))::(D,.list ys)::o3)) F' s')
inductive Dc (B:dc) (L:Addr) (H:HL) (O:cP) (F:Fz) (s:Shared) (l9:LL) (D:Addr) (J:cL->OL->Prop) (C:Addr) (s8:Shared):Prop
 | mk (ys:cL) (o3:OL) (F':Fz) (m:Str->cT) (aV:s8.heap.Ns C m) (j:J ys o3) (x:Holds B.P B.G L F' H ⟨l9,(D,.list ys)::o3⟩ s8.heap) (p:eC O F s (L::dj ((D,AO.list ys)::o3)) F' s8) (hC:C∉L::dj ((D,AO.list ys)::o3)) (hF:F' C=none)
theorem gq {p:Obj->Prop} {ys:cL}:((D,AO.list ys)::(a,AO.is p)::o8).Perm (((a,AO.is p)::(D,AO.list ys)::o8)++[]):=by rw[cm];exact .swap _ _ _
theorem uW {p:Obj->Prop} {ys:cL}:((a,AO.is p)::(D,AO.list ys)::o8).Perm (((D,AO.list ys)::(a,AO.is p)::o8)++[]):=by rw[cm];exact .swap _ _ _
theorem Holds.forget {P:Params} {G:Heap} {l9:LL} {h:Heap} (hx:xs.Nodup) (x:Holds P G C F H ⟨l9,o8⟩ h):Holds P G C F H ⟨bare xs,o8⟩ h:=
 ⟨x.core,x.sub,x.loc.imp λm q=>⟨q.1,λy d h=>(ku h).elim⟩,by rw[kn];exact hx,x.objs,x.nodup,x.apart,x.held,x.low⟩
inductive qY (B:dc) (n:Nat) (xv:Value) (d:AV) (M:OL->Prop) (N:Nat) (i3:Nat->AV) (a:Addr) (K:Nat->Obj->Prop):Prop
 | mk (next:∀ L' i l9 o8 H,i < N->(xv,d)∈H->M o8->W B n L' (pyNext (.ref a)) H ⟨l9,(a,.is (K i))::o8⟩ λr F σ'=>∃ v,r=some v/\Is B.P F v (i3 i)/\σ'=⟨l9,(a,.is (K (i+1)))::o8⟩)
  (stop:∀ L' l9 o8 H,(xv,d)∈H->M o8->W B n L' (pyNext (.ref a)) H ⟨l9,(a,.is (K N))::o8⟩ λr y σ'=>r=none/\σ'=⟨l9,o8⟩)
  (self:∀ L' l9 o8 H,W B n L' (pyIter (.ref a)) H ⟨l9,(a,.is (K 0))::o8⟩ λr y σ'=>r=.ref a/\σ'=⟨l9,(a,.is (K 0))::o8⟩) (quiet:∀ i o,K i o->zV o)
def kE (B:dc) (n:Nat) (L:Addr) (xv:Value) (d:AV) (M:OL->Prop) (N:Nat) (i3:Nat->AV):Prop:=
 ∀ H σ,(xv,d)∈H->M σ.objs->W B n L (pyIter xv) H σ λr y σ'=>∃ (a:Addr) (K:Nat->Obj->Prop),r=.ref a/\σ'=⟨σ.loc,(a,.is (K 0))::σ.objs⟩/\qY B n xv d M N i3 a K
theorem oE.toM {B:dc} {n:Nat} {xv:Value} {d:AV} {N:Nat} {i3:Nat->AV} {a:Addr} {K:Nat->Obj->Prop} (h:oE B n xv d N i3 a K):qY B n xv d (λy=>True) N i3 a K:=by
 obtain⟨next,stop,self,hq⟩:=h;exact⟨λL i l9 o8 H hi hm y=>next L i l9 o8 H hi hm,λL l9 o8 H hm y=>stop L l9 o8 H hm,self,hq⟩
theorem fF.toM {B:dc} {n:Nat} {L:Addr} {xv:Value} {d:AV} {N:Nat} {i3:Nat->AV} (h:fF B n L xv d N i3):kE B n L xv d (λy=>True) N i3:=λH σ hm y=>oz (h H σ hm) λ_ _ _ ⟨a,K,e1,e2,it⟩=>⟨a,K,e1,e2,it.toM⟩
theorem xt {M:OL->Prop} {e6 t4 i5:Expr} {i6:cN} {sf:Scope} {pi:Pos} {cl:List (Str×Addr)} {N:Nat} {i3:Nat->AV} {K:Nat->Obj->Prop} {xv:Value} {d:AV} {J:Nat->cL->OL->Prop}
 {l9 :LL} {A:Around} {R:Addr->Result->Shared->Prop} {E:Value->Shared->Prop} (hA:gn n A) (hx:xs.Nodup) (hm:(xv,d)∈H)
 (X : Holds B.P B.G L F H ⟨l9,(D,.list [])::(a,.is (K 0))::o8⟩ s.heap) (it:qY B n xv d M N i3 a K) (hM:∀ i ys o D,J i ys o->M ((D,AO.list ys)::o))
 (h0 :J 0 [] o8) (step:∀ i,i < N->lV B n t4 e6 i6 (λC=>compEnvC sf cl C e5) H xs (i3 i) (J i) (J (i+1)))
 (aB :∀ y∈sf.names,y.2≠.cell) (aL:sf.kind=.function)
 (hR :∀ C s8,s.heap.get? C=none->Dc B L H (L::dj ((D,AO.list [])::(a,AO.is (K 0))::o8)) F s l9 D (J N) C s8->R C (.ok .next) s8):
 wpAny B.M A (newFunctionEnv sf e5.globals cl [] e5.qual none .none (some e5)) (λc6 s9=>
  codeAny B.M A (.compStart (.ListComp e6 [⟨t4,i5,i6,0⟩] sf pi) 0 (.ref a) (.ref D) { c6 with scope:=relabel sf e5 }) (R c6.locals) s9) E s:=by
 obtain⟨next,stop,self,hq⟩:=it;refine wpAny_newFunctionEnv aB (λx hy=>nomatch hy) (λh6 hG hJ=>?_) aL
 have hC:=eJ s.heap
 generalize hCe:s.heap.objs.size=C at*
 have up:∀ b o,s.heap.get? b=some o->h6.get? b=some o:=λb o e=>hJ.extBut b o (λz=>by rw[z,hC]at e;contradiction) (bw _ e)
 have big:B.G.objs.size<=C:=hCe▸X.big
 have X0:Holds B.P B.G C F H ⟨bare xs,(D,.list [])::(a,.is (K 0))::o8⟩ h6:=X.call.enter hC big up ⟨_,hG,λy d h=>(ku h).elim⟩ (by rw[kn];exact hx) X.held
 show codeAny B.M A (.compStart (.ListComp e6 [⟨t4,i5,i6,0⟩] sf pi) 0 (.ref a) (.ref D) (compEnvC sf cl C e5)) (R C) { s with heap:=h6,toks:=s.toks+([]:cX).length }
 have hR:=hR C
 generalize R C=R at*
 obtain⟨s5,es⟩:∃ s5:Shared,s5={ s with heap:=h6,toks:=s.toks+([]:cX).length }:=⟨_,rfl⟩
 have eh:s5.heap=h6:=cG Shared.heap es
 have eg:s5.gens=s.gens:=by rw[es]
 have eo:s5.os=s.os:=by rw[es]
 refine es▸?_
 clear es;subst eh;have loop:∀ k s',Fd B C H (C::dj ((D,AO.list [])::(a,AO.is (K 0))::o8)) F s5 xs a D K N J k s'->codeAny B.M A (.compLoop (.ListComp e6 [⟨t4,i5,i6,0⟩] sf pi) 0 (.ref a) (.ref D) (compEnvC sf cl C e5)) R s':=λk s' hI=>by
  refine Nn _ (λk s7 hI=>?_) k hI
  obtain⟨i,F1,ys,o4,e,hi,j,x1,p5⟩:=hI
  by_cases hN:i=N
  . subst hN
    refine(stop C _ _ _ hm (hM _ _ _ _ j)).then hA x1 λr s6 F2 aa x4 p6 z=>?_
    obtain⟨rfl,rfl⟩:=z;have nC:C∉dj ((D,AO.list ys)::o4):=(cg.mp x4.nodup).1
    obtain⟨y,py⟩:=X.back x4.call (eC.leave (s:=s) (p5.trans p6) hC up (.of eg) eo nC)
    refine dW (x4.loc) ?_;rintro m bk x
    exact hR _ hC ⟨ys,o4,F2,m,bk,j,y,py,λhm=>(fG hm).elim (λz=>by obtain⟨o,ho⟩:=X.there C (z▸.head _);rw[hC]at ho;contradiction) nC,x4.apart _ dP⟩
  . have aG:i < N:=Nat.lt_of_le_of_ne hi hN
    refine(next C i _ _ _ aG hm (hM _ _ _ _ j)).then hA x1 λr s6 F2 aa x4 p6 z=>?_
    refine jM (z) ?_;clear z;rintro v rfl hv rfl
    refine dW (x4.objs _ dP) ?_;rintro o7 ai aj
    refine np ai (hq _ _ aj) ?_
    refine(uN uW (step i aG C ys o4 D a (K (i+1)) v j)).then hA (x4.push hv) λx s9 F3 ab x5 p7 w=>?_
    refine w.then hA (x5.weaken λx hp=>.tail _ hp) λok s8 F4 ad x6 p8 z=>?_
    have pp:=p5.trans (p6.trans (p7.trans p8))
    induction ok using Bool.casesOn with
    | false=>
     refine im (z.2 rfl) ?_;rintro lg o3 rfl j'
     exact⟨N - (i+1),e▸Nat.sub_succ_lt_self _ _ aG,i+1,F4,ys,o3,rfl,aG,j',(x6.forget hx).drop gq,pp.trans (eC.less gq)⟩
    | true=>
     refine(z.1 rfl).then hA x6 λy sd F6 ag x8 p9 z=>?_
     refine dW (z) ?_;clear z;intro e' he z9;refine jk z9 ?_;clear z9;rintro lg o3 rfl hz j'
     refine(lL (v5:=.ref D) (v:=y) (d:=e') (H:=(y,e')::(.ref D,.ref D)::H) (Φ:=λx x σ'=>σ'=⟨lg,(D,.list (ys++[e']))::(a,.is (K (i+1)))::o3⟩) iV dP .head (Nat.le_succ_of_le hz) rfl).then hA ((x8.push (.ref D)).push he) λx se F7 ax xc ph z=>?_
     refine dW (z) ?_;clear z;rintro x x rfl
     exact⟨N - (i+1),e▸Nat.sub_succ_lt_self _ _ aG,i+1,F7,ys++[e'],o3,rfl,aG,j',((xc.weaken λx hp=>.tail _ (.tail _ hp)).forget hx).drop gq,pp.trans (p9.trans (ph.trans (eC.less gq)))⟩
 have begin_:Fd B C H (C::dj ((D,AO.list [])::(a,AO.is (K 0))::o8)) F s5 xs a D K N J N s5:=⟨0,F,[],o8,rfl,cA _,h0,X0.drop gq,eC.less gq⟩
 refine codeAny_compStart_list (loop _ _ begin_) ?_
 refine(uN gq (self C (bare xs) ((D,.list [])::o8) H)).then hA X0 λr s' F1 a9 x1 p5 z=>?_
 obtain⟨rfl,rfl⟩:=z;exact loop N s' ⟨0,F1,[],o8,rfl,cA _,h0,x1,p5⟩
end
end
section
variable {e6 t4 i5:Expr} {i6:cN} {sf:Scope} {pi:Pos} {cl:List (Str×Addr)}
section
variable {B:dc} {n:Nat} {L:Addr} {H:HL} {σ:St} {e5:Env}
inductive kF (B:dc) (n:Nat) (L:Addr) (H:HL) (t4 e6:Expr) (i6:cN) (c6:Addr->Env) (xs:cQ) (J:Nat->cL->OL->Prop) (Q:Addr->St->Prop) (xv:Value) (d:AV) (a6:St):Prop
 | mk (N:Nat) (i3:Nat->AV) (it:fF B n L xv d N i3) (j0:J 0 [] a6.objs) (step:∀ i,i < N->lV B n t4 e6 i6 c6 ((xv,d)::H) xs (i3 i) (J i) (J (i+1))) (fin:∀ ys o8 D,J N ys o8->Q D ⟨a6.loc,(D,.list ys)::o8⟩)
inductive lx (M:OL->Prop) (B:dc) (n:Nat) (L:Addr) (H:HL) (t4 e6:Expr) (i6:cN) (c6:Addr->Env) (xs:cQ) (J:Nat->cL->OL->Prop) (Q:Addr->St->Prop) (xv:Value) (d:AV) (a6:St):Prop
 | mk (N:Nat) (i3:Nat->AV) (it:kE B n L xv d M N i3) (hM:∀ i ys o D,J i ys o->M ((D,AO.list ys)::o)) (hM0:M a6.objs) (j0:J 0 [] a6.objs) (step:∀ i,i < N->lV B n t4 e6 i6 c6 ((xv,d)::H) xs (i3 i) (J i) (J (i+1))) (fin:∀ ys o8 D,J N ys o8->Q D ⟨a6.loc,(D,.list ys)::o8⟩)
theorem pN {ps:Pos} {use:Option (Value->Sem Unit)} {P:Addr->St->Prop} {A:Around} {F:Fz} {s:Shared} {E:Value->Shared->Prop} {Q:Value->Shared->Prop} (xs:cQ)
 (h:WV B n L (eval i5 e5) H σ λv d a6=>∃ J M,lx M B n L H t4 e6 i6 (λC=>compEnvC sf cl C e5) xs J P v d a6) (hA:gn n A) (X:Holds B.P B.G L F H σ s.heap)
 (k:∀ D C s8 F' ys o8 l9 m O1 F2 s6,eC (L::dj σ.objs) F s O1 F2 s6->s6.heap.get? C=none->Holds B.P B.G L F' H ⟨l9,(D,.list ys)::o8⟩ s8.heap->eC O1 F2 s6 (L::dj ((D,AO.list ys)::o8)) F' s8->s8.heap.Ns C m->C∉L::dj ((D,AO.list ys)::o8)->F' C=none->P D ⟨l9,(D,.list ys)::o8⟩->compPost B.M A E use Q (.ref D) C (.ok .next) s8)
 (aP:closureFor sf e5=pure cl) (hx:xs.Nodup) (aB:∀ y∈sf.names,y.2≠.cell) (aL:sf.kind=.function) (aI:∀ y∈sf.names,y.2=.local->sf.names.lookup y.1=some .local)
 (hs:∀ x,foldedSetIterable i5 e5 x=pure x):wpAny B.M A (comprehension (.ListComp e6 [⟨t4,i5,i6,0⟩] sf pi) sf e5 ps (newList []) false (eval i5 e5) use) Q E s:=by
 refine wpAny_comprehension_free rfl hs aP aL aI (h.then hA X λxv s5 F0 a6 x0 p0 z=>?_)
 refine dW (z) ?_;clear z;rintro d hd ⟨J,M,N,i3,it,hM,hM0,j0,step,fin⟩
 refine(it _ a6 dP hM0).then hA (x0.push hd) λr s7 F1 a9 x1 p5 z=>?_
 refine jk (z) ?_;clear z;rintro a K rfl rfl it
 refine wpAny_newObj_type ?_
 have T:dm B L ((xv,d)::H) ⟨a6.loc,(a,.is (K 0))::a6.objs⟩ F1 s7 { s7 with heap:=s7.heap.push (dZ [] 0) } (λF' σ'=>F'=F1/\σ'=⟨a6.loc,(s7.heap.objs.size,.list [])::(a,.is (K 0))::a6.objs⟩):=
  dm.track (o:=.list []) x1 (λb y e=>bw _ e) (λb hb=>by refine(bL.mp hb)▸?_;exact eJ _) (by simp[AO.more]) ⟨[],0,bE _ rfl,.nil⟩ rfl rfl ⟨rfl,rfl⟩
 obtain⟨F2,aa,x4,p6,rfl,rfl⟩:=T;have up:=p0.trans (p5.trans p6)
 refine xt (R:=λC=>compPost B.M A E use Q (.ref s7.heap.objs.size) C) hA hx dP x4 it hM j0 step aB aL λC s8 hC z=>?_
 obtain⟨ys,o3,F4,m,aV,j,x6,p8,nC,hF⟩:=z;exact k _ C s8 F4 ys o3 _ m _ _ _ up hC (x6.weaken λw hp=>.tail _ hp) p8 aV nC hF (fin ys o3 _ j)
theorem kF.toM {c6:Addr->Env} {xs:cQ} {J:Nat->cL->OL->Prop} {Q:Addr->St->Prop} {xv:Value} {d:AV} {a6:St} (h:kF B n L H t4 e6 i6 c6 xs J Q xv d a6):∃ J M,lx M B n L H t4 e6 i6 c6 xs J Q xv d a6:=by
 obtain⟨N,i3,it,j0,step,fin⟩:=h;exact⟨J,_,N,i3,it.toM,λy y y y y=>trivial,trivial,j0,step,fin⟩
theorem A2 {Φ:PV} (xs:cQ) (J:Nat->cL->OL->Prop)
 (h:WV B n L (eval i5 e5) H σ (kF B n L H t4 e6 i6 (λC=>compEnvC sf cl C e5) xs J λD=>Φ (.ref D) (.ref D)))
 (aP:closureFor sf e5=pure cl) (hx:autoParam (xs.Nodup) bD)
 (aB:autoParam (∀ y∈sf.names,y.2≠.cell) bD) (aL:autoParam (sf.kind=.function) bR) (aI:autoParam (∀ y∈sf.names,y.2=.local->sf.names.lookup y.1=some .local) bD)
 (hs:autoParam (∀ x,foldedSetIterable i5 e5 x=pure x) bI):
 WV B n L (eval (.ListComp e6 [⟨t4,i5,i6,0⟩] sf pi) e5) H σ Φ:=kK λA F s Q hA X fq=>by
 rw[eval_ListComp];exact pN (use:=none) xs (dk h λw w w z=>z.toM) hA X (λD C s8 F' ys o8 l9 m O1 F2 s6 p hC x p8 aV nC hF q=>⟨m,aV,λh' aW=>fq _ _ ⟨F',_,x.besides hF nC λb o hb e=>(aW.2 b hb).trans e,p.trans (p8.rest hC aW.2),_,.ref _,q⟩⟩) aP hx aB aL aI hs
theorem qi {p px:Pos} {x:Str} {Φ:PF} (xs:cQ)
 (h:WV B n L (eval i5 e5) H σ λv d σ'=>∃ J,kF B n L H t4 e6 i6 (λC=>compEnvC sf cl C e5) xs J (λD a6=>WU B n L (storeName e5 x (.ref D)) ((.ref D,.ref D)::H) a6 λa9=>Φ .next a9) v d σ')
 (hsw:swapsWith (.ListComp e6 [⟨t4,i5,i6,0⟩] sf pi) (some (.Name x p)) px.line e5=pure true)
 (aP:closureFor sf e5=pure cl) (hx:autoParam (xs.Nodup) bD)
 (aB:autoParam (∀ y∈sf.names,y.2≠.cell) bD) (aL:autoParam (sf.kind=.function) bR) (aI:autoParam (∀ y∈sf.names,y.2=.local->sf.names.lookup y.1=some .local) bD)
 (hs:autoParam (∀ x,foldedSetIterable i5 e5 x=pure x) bI):
 WF B n L (exec (.Assign [.Name x p] (.ListComp e6 [⟨t4,i5,i6,0⟩] sf pi) px) e5) H σ Φ:=kK λA F s Q hA X fq=>by
 rw[exec_Assign_Name_used _ _ _ _ hsw];refine cC (wpAny_standAt (cC (cC (pN (ps:=firstIterPos [⟨t4,i5,i6,0⟩] pi) (use:=some (assign (.Name x p) e5)) xs (dk h λ_ _ _ ⟨_,z⟩=>z.toM) hA X (λD C s8 F' ys o8 l9 m O1 F2 s6 pf hC x p8 aV nC hF q=>?_) aP hx aB aL aI hs))))
 refine(rl (p:=p) q).then hA (x.push (.ref D)) λu sd F6 ag x8 p9 q=>?_
 refine QE (aV) ?_;clear aV;rintro oC es ep e1 r
 refine⟨m,⟨oC,es,ep,p9.keep C _ nC e1,r⟩,λh' aW=>cE (cE (fq _ _ ⟨F6,ag,(x8.weaken λu hp=>.tail _ hp).besides ?_ (λhm=>(p9.own _ hm).elim nC λz=>nomatch z.symm.trans e1) λb o hb e=>(aW.2 b hb).trans e,pf.trans ((p8.trans p9).rest hC aW.2),.next,trivial,q⟩))⟩
 exact bm.mpr λo w=>(p9.frz _ _ w).elim (λz=>nomatch z.symm.trans hF) λz=>z.elim nC λz=>nomatch z.symm.trans e1
end
end
section
variable {ps:cQ} {fd:FuncData} {p1 p2:Str} {d1 d2:AV}
noncomputable def fh:cQ->cL->LL
 | x::xs,d::ds=>(x,some d)::fh xs ds
 | _,_=>[]
theorem nr:∀ {ds:cL},ps.length=ds.length->(fh ps ds).map (·.1)=ps:=by
 induction ps with
 | nil=>intro ds h;cases ds with | nil=>rfl | cons=>contradiction
 | cons p ps ih=>intro ds h;cases ds with | nil=>cases h | cons d ds=>exact cG (p::·) (ih (Nat.succ.inj h))
theorem kY {x:Str} {v:Value}:∀ {l:cX},(l.map (·.1)).Nodup->(x,v)∈l->l.reverse.lookup x=some v
 | (y,w)::r,n,h=>by
  rw[cv,cg]at n
  rw[List.reverse_cons,List.lookup_append]
  cases h with
  | head=>
   have:r.reverse.lookup x=none:=by
    rw[List.lookup_eq_none_iff];intro p hp;refine bne_iff_ne.mpr λe=>n.1 ?_
    exact cw.mpr ⟨p,List.mem_reverse.mp hp,e.symm⟩
   rw[this];simp
  | tail _ h=>rw[kY n.2 h];rfl
theorem qv {P:Params} {F:Fz} {x:Str} {d:AV}:∀ {v7:cO} {ds:cL},IsAll P F v7 ds->(x,some d)∈fh ps ds->∃ v,(x,v)∈ps.zip v7/\Is P F v d:=by
 induction ps with
 | nil=>intro v7 ds y m;rcases ds with _ | _<;>contradiction
 | cons p ps ih=>
  intro v7 ds h m
  induction ds using List.casesOn with
  | nil=>contradiction
  | cons d0 ds0=>
   refine jk (iX h) ?_;clear h;rintro v0 vs0 rfl h r
   have m:(x,some d)∈(p,some d0)::fh ps ds0:=m
   rcases fG m with e | m
   . rw[(Prod.mk.inj e).1,Option.some.inj (Prod.mk.inj e).2];exact⟨_,.head _,h⟩
   . refine dW (ih r m) ?_;rintro v a b;exact⟨v,.tail _ a,b⟩
theorem lQ:∀ {v7:cO},((ps.zip v7).map (·.1)).Sublist ps:=by
 induction ps with
 | nil=>intro v7;rcases v7 with _ | _<;>exact .slnil
 | cons p r ih=>
  intro v7
  induction v7 using List.casesOn with
  | nil=>exact List.nil_sublist _
  | cons v vs=>exact(ih (v7:=vs)).cons_cons p
section
variable {B:dc} {n:Nat} {o8:OL}
def fw (B:dc) (fd:FuncData) (ps:cQ) (ay ds:cL):Prop:=
 ∀ (F:Fz) (s:Shared) (vs:cO),IsAll B.P F vs ay->B.K.In s.heap->(∀ b o,B.G.get? b=some o->F b=some o)->∃ v7,IsAll B.P F v7 ds/\BindsTo s fd ⟨vs,[]⟩ (ps.zip v7)
theorem fw.one (h:∀ v1,bindArgs fd ⟨[v1],[]⟩=pure [(p1,v1)]):fw B fd [p1] [d1] [d1]:=λF s vs hv y y=>by
 obtain⟨v1,rfl,q1⟩:=BZ hv;exact⟨_,.cons q1 .nil,.of_eq (h _)⟩
theorem fw.two (h:∀ v1 v2,bindArgs fd ⟨[v1,v2],[]⟩=pure [(p1,v1),(p2,v2)]):fw B fd [p1,p2] [d1,d2] [d1,d2]:=λF s vs hv y y=>by
 obtain⟨v1,v2,rfl,q1,q2⟩:=xO hv;exact⟨_,.cons q1 (.cons q2 .nil),.of_eq (h _ _)⟩
theorem fw.three {p3:Str} {d3:AV} (h:∀ v1 v2 v3,bindArgs fd ⟨[v1,v2,v3],[]⟩=pure [(p1,v1),(p2,v2),(p3,v3)]):fw B fd [p1,p2,p3] [d1,d2,d3] [d1,d2,d3]:=λF s vs hv y y=>by
 obtain⟨v1,v2,v3,rfl,q1,q2,q3⟩:=JO hv;exact⟨_,.cons q1 (.cons q2 (.cons q3 .nil)),.of_eq (h _ _ _)⟩
theorem fw.dflt {T:Addr} {o:Obj} {w:Value} {m:Nat} {k:Value->Option (Array Value)->Sem (cX)} (hd:fd.defaults=.ref T) (ho:B.K.lookup T=some o) (hs:o.data=.seq #[w] m)
 (h6:∀ v1,bindArgs fd ⟨[v1],[]⟩=seqItems? fd.defaults >>= k v1) (h9:∀ v1,k v1 (some #[w])=pure [(p1,v1),(p2,w)]) (c:eS B w d2):fw B fd [p1,p2] [d1] [d1,d2]:=λF s vs hv X core=>by
 obtain⟨v1,rfl,q1⟩:=BZ hv;exact⟨_,.cons q1 (.cons (c F core) .nil),.of_defaults hd (X _ _ ho) hs (h6 _) (h9 _)⟩
theorem fw.dflt3 {p3:Str} {d3:AV} {T:Addr} {o:Obj} {w:Value} {m:Nat} {k:Value->Value->Option (Array Value)->Sem (cX)} (hd:fd.defaults=.ref T) (ho:B.K.lookup T=some o) (hs:o.data=.seq #[w] m)
 (h6:∀ v1 v2,bindArgs fd ⟨[v1,v2],[]⟩=seqItems? fd.defaults >>= k v1 v2) (h9:∀ v1 v2,k v1 v2 (some #[w])=pure [(p1,v1),(p2,v2),(p3,w)]) (c:eS B w d3):fw B fd [p1,p2,p3] [d1,d2] [d1,d2,d3]:=λF s vs hv X core=>by
 obtain⟨v1,v2,rfl,q1,q2⟩:=xO hv;exact⟨_,.cons q1 (.cons q2 (.cons (c F core) .nil)),.of_defaults hd (X _ _ ho) hs (h6 _ _) (h9 _ _)⟩
theorem OH {n5 qb:Str} {pj:Arguments} {b3:cM} {sf:Scope} {dV kV d7 pm c3 ct oc:Value} {an od:Option Addr} {ol:cY} {f:Addr} {ay ds:cL} {Φ:AV->OL->Prop} {l9:LL} (ps xs:cQ)
 (ho :B.K.lookup f=some ⟨oc,od,.func (fnOf n5 qb pj b3 sf dV kV d7 pm an c3 ct),ol⟩) (ba:codeIn B.K c3 qb=true)
 (hb :fw B (fnOf n5 qb pj b3 sf dV kV d7 pm an c3 ct) ps ay ds) (h:∀ L,WF B n L (execs b3 (envOf qb sf L f c3)) [] ⟨l9,o8⟩ (qV Φ))
 (aR :fh ps ds++bare xs=l9:=by simp only[fh,bare,cv,List.map_nil,c7,List.nil_append];rfl) (hl:autoParam (ps.length=ds.length) bR) (hn:autoParam ((ps++xs).Nodup) bD) (b8:autoParam (ps.all (λy=>sf.names.lookup y==some .local)=true) bR)
 (aT :autoParam (sf.isCoroutine=false) bR) (aQ:autoParam (sf.isGenerator=false) bR) (hk:autoParam (sf.kind=.function) bR) (aB:autoParam (∀ x∈sf.names,x.2≠.cell) bD):de B (n+1) f ay o8 Φ:=by
 subst aR;refine La (l9:=fh ps ds++bare xs) ho ba (λF s vs hvs X core=>?_) (by rw[ci,nr hl,kn];exact hn) h aT aQ hk aB
 refine dW (hb F s vs hvs X core) ?_;rintro v7 hv aS
 have sub:((ps.zip v7).map (·.1)).Nodup:=(lQ).nodup (bO.mp hn).1
 refine⟨_,aS,λy hy=>?_,λy d hy=>?_⟩
 . exact beq_iff_eq.mp (List.all_eq_true.mp b8 y.1 (lQ.subset (List.mem_map_of_mem hy)))
 . rcases cf.mp hy with hy | hy
   . refine dW (qv hv hy) ?_;rintro v hv q
     exact⟨v,kY sub hv,q⟩
   . exact(ku hy).elim
end
end
section
variable {Φ:PV} {x y:Expr} {r8:cN}
theorem DX (a b:Int):PyData.eqv (.int a) (.int b)=decide (a=b):=by
 first | rfl | (simp[PyData.eqv];done) | (unfold PyData.eqv;simp)
section
variable {B:dc} {n:Nat} {L:Addr} {H:HL} {σ:St} {e5:Env}
noncomputable def pW:cL->Option (List Int)
 | []=>some []
 | .int i::r=>(pW r).map (i::·)
 | _=>none
theorem rV {l:cL}:∀ {ks:List Int},pW l=some ks->dataAll l=some (ks.map .int):=by
 induction l with
 | nil=>intro ks e;obtain rfl:=Option.some.inj e;rfl
 | cons d r ih=>
  intro ks e
  rcases d with _ | _<;>try contradiction
  refine dW (bu.mp e) ?_;rintro m e1 rfl
  show(dataAll r).map (PyData.int _::·)= _
  refine(ih e1)▸?_;rfl
theorem tZ:∀ ks:List Int,PyData.canLayAll0 (ks.map .int)=true
 | []=>rfl
 | k::r=>by simp only[cv,PyData.canLayAll0,PyData.canLay0,tZ r,Bool.and_true]
theorem tT (i:Int):∀ ks:List Int,((ks.map PyData.int).any λy=>PyData.eqv y (.int i))=decide (i∈ks)
 | []=>(cc (nomatch ·)).symm
 | k::r=>by
  rw[cv,List.any_cons,tT i r,DX,Bool.eq_iff_iff,Bool.or_eq_true,decide_eq_true_iff,decide_eq_true_iff,decide_eq_true_iff,List.mem_cons];exact⟨λh=>h.imp_left Eq.symm,λh=>h.imp_left Eq.symm⟩
theorem MB {a b:Value} {i:Int} {l:cL} {ks:List Int} (ma:(a,.int i)∈H) (mb:(b,.tup l)∈H) (e:pW l=some ks) (h:∀ v,Φ v (.bool (decide (i∈ks))) σ):WV B n L (compareOp .In a b) H σ Φ:=
 AW ma mb rfl (rV e) rfl (tZ ks) (by simp[PyData.depth]) (tT i ks) h
theorem uK {l m r:Expr} {op oi pi}
 (h :WV B n L (eval l e5) H σ λa x a6=>WV B n L (eval m e5) ((a,x)::H) a6 λb y a9=>WV B n L (compareOp op a b) ((b,y)::(a,x)::H) a9 λu z aa=>∃ c,z=.bool c/\(c=false->∀ v,Φ v (.bool false) aa)/\
  (c=true->WV B n L (eval r e5) ((b,y)::(a,x)::H) aa λd w ab=>WV B n L (compareOp oi b d) ((d,w)::(b,y)::(a,x)::H) ab Φ))
 (hm:autoParam (markedEach [op,oi] [m,r] (evalEach [m,r] e5)=[eval m e5,eval r e5]) bW):WV B n L (eval (.Compare l [op,oi] [m,r] pi) e5) H σ Φ:=by
 rw[arm_eval_Compare,hm];refine dr (dk h λa x a6 w=>?_)
 show W B n L (do
  let rv <-holding [a] (eval m e5)
  standAt pi
  let c <-holding [a,rv] (compareOp op a rv)
  release [a,rv] [c]
  if <-holding [c,rv] (truthy c) then compareChain pi rv [oi] [eval r e5] else pure c) ((a,x)::H) a6 _
 refine dr (di (dk w λb y a9 w=>dt (dr (di (dk w λc z aa ⟨k,e,q0,q1⟩=>?_)))))
 subst e;refine qF (gE (di (lw dP ?_)))
 induction k using Bool.casesOn with
 | false=>exact uS dP (q0 rfl _)
 | true=>
  refine nP ?_
  show W B n L (do
   let rv <-holding [b] (eval r e5)
   standAt pi
   operate [b,rv] (compareOp oi b rv)) _ _ _
  exact dr (di (dk (q1 rfl) λd w ab w=>dt (gx w)))
theorem xe {l m r:Expr} {op oi pi}
 (h:WV B n L (eval l e5) H σ λa x a6=>WV B n L (eval m e5) ((a,x)::H) a6 λb y a9=>WV B n L (compareOp op a b) ((b,y)::(a,x)::H) a9 λu z aa=>∃ c c',z=.bool c/\
  WV B n L (eval r e5) ((b,y)::(a,x)::H) aa (λd w ab=>WV B n L (compareOp oi b d) ((d,w)::(b,y)::(a,x)::H) ab λu z ad=>z=.bool c'/\ad=aa)/\∀ v,Φ v (.bool (c&&c')) aa)
 (hm:autoParam (markedEach [op,oi] [m,r] (evalEach [m,r] e5)=[eval m e5,eval r e5]) bW):WV B n L (eval (.Compare l [op,oi] [m,r] pi) e5) H σ Φ:=
 uK (dk h λa x a6 w=>dk w λb y a9 w=>dk w λ_ z aa ⟨c,c',e,w,q⟩=>⟨c,e,λhc v=>by subst hc;exact q v,λhc=>by
  subst hc;exact dk w λd w ab q8=>dk q8 λv z ad ⟨e,e'⟩=>by subst e e';exact q v⟩) hm
theorem rI {op:BoolOp} {v8:cN} {pi} (h:WV B n L (boolOp pi op (evalEach v8 e5)) H σ Φ):WV B n L (eval (.BoolOp op v8 pi) e5) H σ Φ:=h
theorem rr {op:BoolOp} {pi} (h:WV B n L (eval x e5) H σ Φ):WV B n L (boolOp pi op (evalEach [x] e5)) H σ Φ:=h
theorem yZ {pi}
 (h:WV B n L (eval x e5) H σ λv d a6=>WB B n L (truthy v) ((v,d)::H) a6 λc a9=>(c=true->Φ v d a9)/\(c=false->WV B n L (boolOp pi .Or (evalEach (y::r8) e5)) H a9 Φ)):
 WV B n L (boolOp pi .Or (evalEach (x::y::r8) e5)) H σ Φ:=by
 show W B n L (do
  let v <-eval x e5
  standAt pi
  let t <-holding [v] (truthy v)
  match BoolOp.Or,t with
  | .And,false | .Or,true=>pure v
  | _,_=>boolOp pi .Or (evalEach (y::r8) e5)) H σ _
 refine dr (dk h λv d a6 w=>dt (gE (di (gN w λc a9 q=>?_))))
 induction c using Bool.casesOn with
 | false=>exact nP (q.2 rfl)
 | true=>exact uS dP (q.1 rfl)
theorem vq {pi}
 (h:WV B n L (eval x e5) H σ λv d a6=>WB B n L (truthy v) ((v,d)::H) a6 λc a9=>(c=false->Φ v d a9)/\(c=true->WV B n L (boolOp pi .And (evalEach (y::r8) e5)) H a9 Φ)):
 WV B n L (boolOp pi .And (evalEach (x::y::r8) e5)) H σ Φ:=by
 show W B n L (do
  let v <-eval x e5
  standAt pi
  let t <-holding [v] (truthy v)
  match BoolOp.And,t with
  | .And,false | .Or,true=>pure v
  | _,_=>boolOp pi .And (evalEach (y::r8) e5)) H σ _
 refine dr (dk h λv d a6 w=>dt (gE (di (gN w λc a9 q=>?_))))
 induction c using Bool.casesOn with
 | true=>exact nP (q.2 rfl)
 | false=>exact uS dP (q.1 rfl)
theorem KI {pi}
 (h:WV B n L (eval x e5) H σ λz d a6=>∃ c,d=.bool c/\(c=true->∀ v,Φ v (.bool true) a6)/\(c=false->WV B n L (boolOp pi .Or (evalEach (y::r8) e5)) H a6 Φ)):
 WV B n L (boolOp pi .Or (evalEach (x::y::r8) e5)) H σ Φ:=
 yZ (dk h λv d a6 ⟨c,e,q1,q2⟩=>by
  subst e;exact lw dP ⟨λhc=>by subst hc;exact q1 rfl v,q2⟩)
theorem zY {pi}
 (h:WV B n L (eval x e5) H σ λz d a6=>∃ c,d=.bool c/\(c=false->∀ v,Φ v (.bool false) a6)/\(c=true->WV B n L (boolOp pi .And (evalEach (y::r8) e5)) H a6 Φ)):
 WV B n L (boolOp pi .And (evalEach (x::y::r8) e5)) H σ Φ:=
 vq (dk h λv d a6 ⟨c,e,q1,q2⟩=>by
  subst e;exact lw dP ⟨λhc=>by subst hc;exact q1 rfl v,q2⟩)
end
end
section
inductive mf (x:Str) (d:AV):FL->FL->Prop
 | hit {e r}:mf x d ((x,e)::r) ((x,d)::r)
 | skip {y e r r'}:(y==x)=false->mf x d r r'->mf x d ((y,e)::r) ((y,e)::r')
 | new:mf x d [] [(x,d)]
theorem mf.eq {x:Str} {d:AV} {l l':FL} (h:mf x d l l'):f7 x d l=l':=by
 induction h with
 | hit=>unfold f7;rw[cJ (bZ _)]
 | skip h _ ih=>unfold f7;rw[cH (by rw[h];exact bN),ih]
 | new=>rfl
inductive xZ (x:Str) (d:AV):FL->Prop
 | hit {r}:xZ x d ((x,d)::r)
 | skip {y e r}:(y==x)=false->xZ x d r->xZ x d ((y,e)::r)
theorem xZ.eq {x:Str} {d:AV} {l:FL} (h:xZ x d l):eF x l=some d:=by
 induction h with
 | hit=>exact i8 _ _ _
 | skip h _ ih=>exact(fM _ _ (by refine h▸?_;exact bN)).trans ih
section
variable {B:dc} {n:Nat} {L:Addr} {H:HL} {σ:St} {e5:Env}
def iU (B:dc) (n:Nat) (L:Addr) (r8:cM) (e5:Env) (H:HL) (Φ:PF):PF
 | .next,σ=>WF B n L (execs r8 e5) H σ Φ
 | .brk,σ=>Φ .brk σ
 | .cont,σ=>Φ .cont σ
 | .ret d,σ=>Φ (.ret d) σ
theorem gu {st:Stmt} {r8:cM} {Φ:PF} (h:WF B n L (exec st e5) H σ (iU B n L r8 e5 H Φ)):WF B n L (execs (st::r8) e5) H σ Φ:=
 H7 (qZ h λf σ q=>by rcases f with _ | _<;>exact q)
theorem lT {x:Str} {v:Value} {d:AV} {l9 lg:LL} {o8:OL} {Φ:St->Prop} (md:(v,d)∈H) (m:js x d l9 lg) (h:Φ ⟨lg,o8⟩) (hl:autoParam (e5.kindOf x=some .local) bK)
 (hL:autoParam (e5.locals=L) bR) (hp:autoParam ((e5.scope.kind==.class||(e5.scope.kind==.module&&e5.locals !=e5.globals))=false) bR):WU B n L (storeName e5 x v) H ⟨l9,o8⟩ Φ:=DJ (σ:=⟨l9,o8⟩) md m h hl hL hp
theorem L4 {x:Addr} {C dx:Addr} {fs fs':FL} {n5:Str} {v5 v:Value} {d:AV} {l9:LL} {o8 o3:OL} {Φ:St->Prop} (mv:(v5,.ref x)∈H) (md:(v,d)∈H) (mx:(x,AO.inst C dx fs)∈o8) (hp:mf n5 d fs fs')
 (m:nk x (.inst C dx fs) (.inst C dx fs') o8 o3) (ho:ja B.K C n5=true) (hz:fs.length<=900:=by simp) (h:Φ ⟨l9,o3⟩):WU B n L (setAttr v5 n5 v) H ⟨l9,o8⟩ Φ:=by
 obtain rfl:=hp.eq
 exact Fx (σ:=⟨l9,o8⟩) mv md m ho hz h
theorem ki {m:Nat} {f:Addr} {vs:cO} {ds:cL} {l9:LL} {o8:OL} {Φ:PV} {ae:AV->OL->Prop} (c:de B m f ds o8 ae) (hm:m<=n) (e:vs.length=ds.length) (k:∀ p∈vs.zip ds,p∈H)
 (h:∀ d o3,ae d o3->∀ v,Φ v d ⟨l9,o3⟩):WV B n L (call (.ref f) vs) H ⟨l9,o8⟩ Φ:=Em (σ:=⟨l9,o8⟩) e k ((c.room hm).mono λd o q v=>h d o q v)
end
noncomputable def sg (s:String):cK:=(Str.ofString s).cps.toList
theorem mq (s:String):Str.ofString s=S (sg s):=by unfold sg S;cases Str.ofString s;rfl
theorem CR:Str.ofString ""=S []:=by kernel_rfl
def Go {α:Type} (_:α) (p:Prop):Prop:=p
def Re {α:Type} (_:α) (p:Prop):Prop:=p
def Qm {α:Type} (_:α) (p:Prop):Prop:=p
noncomputable def ij:cQ->Bool
 | []=>true
 | x::r=>r.all (λy=> !(y==x))&&ij r
theorem eT:∀ {l:cQ},ij l=true->l.Nodup
 | [],_=>List.nodup_nil
 | x::r,h=>by
  simp only[ij,Bool.and_eq_true,List.all_eq_true,Bool.not_eq_true',beq_eq_false_iff_ne]at h
  exact cg.mpr ⟨λm=>h.1 x m rfl,eT h.2⟩
def Br (b:Bool) (p q:Prop):Prop:=(b=true->p)/\(b=false->q)
section
variable {B:dc} {n:Nat} {L:Addr} {H:HL} {σ:St} {e5:Env}
theorem DL {o8:OL} {n5 qb:Str} {pj:Arguments} {b3 b5:cM} {sf sh:Scope} {dV kV d7 pm c3 ct oc:Value} {an od:Option Addr} {ol:cY} {f:Addr} {ay ds:cL} {Φ:AV->OL->Prop} {l9:LL} (ps xs:cQ)
 (ho:B.K.lookup f=some ⟨oc,od,.func (fnOf n5 qb pj b3 sf dV kV d7 pm an c3 ct),ol⟩) (ba:codeIn B.K c3 qb=true)
 (hb:fw B (fnOf n5 qb pj b3 sf dV kV d7 pm an c3 ct) ps ay ds) (h:∀ L,Qm b5 (WF B n L (execs b5 (envOf qb sh L f c3)) [] ⟨l9,o8⟩ (qV Φ)))
 (eb:autoParam (b3=b5) bC) (es:autoParam (sf=sh) bC)
 (aR:fh ps ds++bare xs=l9:=by simp only[fh,bare,cv,List.map_nil,c7,List.nil_append]<;>rfl) (hl:autoParam (ps.length=ds.length) bR) (hn:autoParam ((ps++xs).Nodup) bD) (b8:autoParam (ps.all (λy=>sh.names.lookup y==some .local)=true) bR)
 (aT:autoParam (sh.isCoroutine=false) bR) (aQ:autoParam (sh.isGenerator=false) bR) (hk:autoParam (sh.kind=.function) bR) (aB:autoParam (∀ x∈sh.names,x.2≠.cell) bD):de B (n+1) f ay o8 Φ:=by
 subst eb es
 exact OH ps xs ho ba hb h aR hl hn b8 aT aQ hk aB
end
end
section
variable {i:Int} {Φ:PF} {v:Value} {f self:Addr} {l9:LL} {o8:OL} {r8:cM}
noncomputable def oB (K:Frag) (C:Addr) (x:Str):Option Int:=match findIn K (.ref C) x with
 | some (some (.int i t))=>if plainGet K C x&&hasDictIn K C&&(specialIn K (.int i t) "__get__"==some none)&& !(copiedNames.contains x) then some i else none
 | _=>none
noncomputable def gQ (x y z:cK):cK:=(Txt.replace (S x) (S y) (S z)).cps.toList
theorem zD (x y z:cK):Txt.replace (S x) (S y) (S z)=S (gQ x y z):=by unfold gQ S;cases Txt.replace _ _ _;rfl
section
variable {B:dc} {n:Nat} {L:Addr} {H:HL} {σ:St} {e5:Env}
theorem zn {x:Addr} {C dx:Addr} {fs:FL} {n5:Str} {expr:Bool} {v5:Value} {Φ:PV} (mv:(v5,.ref x)∈H) (m:(x,AO.inst C dx fs)∈σ.objs) (ho:oB B.K C n5=some i)
 (hf :eF n5 fs=none) (h:∀ v,Φ v (.int i) σ):WV B n L (getAttr v5 n5 expr) H σ Φ:=by
 refine dg λA F s hA X=>?_
 obtain rfl:=dF (X.hold mv)
 obtain⟨h1,es,k,h2,h3⟩:=X.objs _ m;unfold oB at ho
 split at ho
 . rename_i j t e
   split at ho
   . rename_i hc
     obtain rfl:=Option.some.inj ho
     simp only[Bool.and_eq_true,beq_iff_eq,Bool.not_eq_true']at hc
     obtain⟨⟨⟨hg,hh⟩,hs⟩,hcp⟩:=hc;exact get_value X.K (⟨h1,rfl,rfl,h2⟩:InstAt s.heap x (instObj C dx) C (some (dictOf es k))) (plainGet_of hg).1 (findObj_cls hh e hs rfl hcp (by rw[lookIn_dict];exact kH h3 hf)) rfl (.toks X ⟨_,.int _ _,h _⟩)
   . contradiction
 . contradiction
theorem kS:typeLookup (.type "method") "__bool__"=pure none:=by rw[typeLookup_type,builtinLookup_eq_fast];kernel_rfl
theorem lO:typeLookup (.type "method") "__len__"=pure none:=by rw[typeLookup_type,builtinLookup_eq_fast];kernel_rfl
theorem Jr {Ψ:Bool->St->Prop} (mv:(v,.meth f self)∈H) (h:Ψ true σ):WB B n L (truthy v) H σ Ψ:=dg λA F s hA X=>by
 refine dW (lJ (X.hold mv)) ?_;rintro a rfl ha
 have hT:s.TypeIs (.ref a) "method":=⟨_,X.sub _ _ ha,rfl⟩
 unfold truthy
 first
  | refine cC (wpAny_callSpecial?_none (name:=Str.ofString "__bool__") hT kS ?_)
  | refine cC (cE (cC (wpAny_callSpecial?_none (name:=Str.ofString "__bool__") hT kS ?_)))
 first
  | refine cC (wpAny_specialOf (name:=Str.ofString "__len__") hT lO ?_)
  | refine cC (cE (cC (wpAny_specialOf (name:=Str.ofString "__len__") hT lO ?_)))
 exact cE (.here X h)
theorem wH {ay:cN} {pi} {Φ:PV} (mv:(v,.meth f self)∈H) (hf:fnIn B.K f=true)
 (h :WL B n L (spliced (backTo pi (starEach ay e5))) H σ λvs ds a6=>WV B n L (call v ([]++vs)) (vs.zip ds++H) a6 Φ)
 (hp:autoParam ((backTo pi (starEach ay e5)).any (·.1)=false) bR):WV B n L (callWith pi v [] (backTo pi (starEach ay e5)) []) H σ Φ:=dg λA F s hA x=>by
 refine dW (lJ (x.hold mv)) ?_;rintro q rfl hq
 refine callWith_of (P:=MethP B.K q f (.ref self)) (by rw[hp];rfl) (keeps_M hf) (gf hp (cD (h.run A F s hA x) (λvs s5 z=>⟨?_,?_⟩) λu u z=>z))
 . obtain⟨F0,_,x0,p0,_⟩:=z
   exact⟨x0.sub _ _ (p0.mono _ _ hq),x0.K⟩
 . refine z.then λF0 a6 x0 ⟨ds,aY,w⟩=>?_
   exact cD (w.run A F0 s5 hA (x0.add (nI.zip_is aY))) (λu u y=>y.weaken λu hp=>bz _ hp) λu u z=>z
theorem tK {m:Nat} {vs:cO} {ds:cL} {Φ:PV} {ae:AV->OL->Prop} (mv:(v,.meth f self)∈H) (c:de B m f (.ref self::ds) o8 ae) (hm:m<=n) (e:vs.length=ds.length)
 (k:∀ p∈vs.zip ds,p∈H) (h:∀ d o3,ae d o3->∀ v,Φ v d ⟨l9,o3⟩):WV B n L (call v vs) H ⟨l9,o8⟩ Φ:=dg λA F s hA X=>by
 refine dW (lJ (X.hold mv)) ?_;rintro q rfl hq
 refine wpAny_call (method_call (X.sub _ _ hq) (codeAny_mono (c A F s _ (hA.le hm) X.call (.cons (.ref self) (lF X e k))) λr s' z=>?_))
 obtain⟨w,d,o3,F',rfl,hd,y,p,q⟩:=z;obtain⟨x',p'⟩:=X.back y p;exact⟨F',_,x',p',d,hd,h d o3 q w⟩
structure WP {α:Type} (B:dc) (n:Nat) (L:Addr) (t:Sem α) (H:HL) (σ:St) (Ψ:α->Fz->St->Prop):Prop where
 run:∀ A F s,gn n A->0 < s.toks->Holds B.P B.G L F H σ s.heap->wpAny B.M A t (λa s'=>dm B L H σ F s s' (Ψ a)) (λy y=>False) s
abbrev GJ (B:dc) (n:Nat) (L:Addr) (t:Sem Flow) (H:HL) (σ:St) (Φ:PF):Prop:=
 WP B n L t H σ (λf F' σ'=>∃ e,pJ B.P F' f e/\Φ e σ')
def jC (B:dc) (n:Nat) (L:Addr) (r8:cM) (e5:Env) (H:HL) (Φ:PF):PF
 | .next,σ=>GJ B n L (execs r8 e5) H σ Φ
 | .brk,σ=>Φ .brk σ
 | .cont,σ=>Φ .cont σ
 | .ret d,σ=>Φ (.ret d) σ
theorem Mo {α:Type} {t:Sem α} {Ψ:α->Fz->St->Prop} (h:W B n L t H σ Ψ):WP B n L t H σ Ψ:=⟨λA F s hA y x=>h.run A F s hA x⟩
theorem kj {A:Around} {e5:Env} {F:Fz} {s s5:Shared} {f:Flow} (hA:gn n A) (ht:0 < s5.toks)
 (z:dm B L H σ F s s5 λF' σ'=>∃ e,pJ B.P F' f e/\jC B n L r8 e5 H Φ e σ'):
 wpAny B.M A (match f with | .next=>execs r8 e5 | f=>pure f) (λb s7=>dm B L H σ F s s7 λF' σ'=>∃ e,pJ B.P F' b e/\Φ e σ') (λy y=>False) s5:=by
 refine z.then λF0 a6 x0 ⟨e,he,q⟩=>?_
 cases f with
 | next=>rcases e with _ | _<;>first | exact he.elim | exact q.run A F0 s5 hA ht x0
 | brk=>rcases e with _ | _<;>first | exact he.elim | exact cE (.here x0 ⟨.brk,trivial,q⟩)
 | cont=>rcases e with _ | _<;>first | exact he.elim | exact cE (.here x0 ⟨.cont,trivial,q⟩)
 | ret v=>rcases e with _ | _<;>first | exact he.elim | exact cE (.here x0 ⟨.ret _,he,q⟩)
theorem KJ {st:Stmt} (h:WF B n L (exec st e5) H σ (jC B n L r8 e5 H Φ)):GJ B n L (execs (st::r8) e5) H σ Φ:=⟨λA F s hA ht x=>by
 rw[execs_cons];refine cC (cD (iJ (h.run A F s hA x)) (λf s5 z=>?_) λy y z=>z)
 have:=kj (s5:=s5) hA (sv ht z.1) z.2
 rcases f with _ | _<;>exact this⟩
theorem Cd {kk kp} {o:Expr} {aD:Str} {p pi}
 (h:∀ v,WV B n L (eval o e5) ((v,.int i)::H) σ λov od a9=>WU B n L (setAttr ov aD v) ((ov,od)::(v,.int i)::H) a9 λaa=>jC B n L r8 e5 H Φ .next aa):
 WF B n L (execs (.Assign [.Attribute o aD p] (.Constant (.int i) kk kp) pi::r8) e5) H σ Φ:=dg λA F s hA x=>by
 rw[execs_cons,plainObj_exec_Assign_Attribute o aD p (.Constant (.int i) kk kp) pi rfl];refine cC (cC (wpAny_standAt (cC (wpAny_Constant_int ?_))))
 have w:WF B n L (do assign (.Attribute o aD p) e5 (.int i s.toks);pure Flow.next) ((.int i s.toks,.int i)::H) σ (jC B n L r8 e5 H Φ):=by
  rw[arm_assign_Attribute];refine fS (dr (di (dk (h _) λov od a9 w0=>dt (fS (di (i9 w0 λaa q=>?_))))))
  exact jg (lm q)
 have x':Holds B.P B.G L F ((.int i s.toks,.int i)::H) σ { s with toks:=s.toks+1 }.heap:=x.push (.int i _)
 refine cD (iJ (w.run A F { s with toks:=s.toks+1 } hA x')) (λf s5 z=>?_) λy y z=>z
 have ht:0 < s5.toks:=sv (Nat.succ_pos _) z.1
 obtain⟨F0,a6,x0,p0,e,he,q⟩:=z.2;have z':dm B L H σ F s s5 λF' σ'=>∃ e,pJ B.P F' f e/\jC B n L r8 e5 H Φ e σ':=⟨F0,a6,x0.weaken λy hp=>.tail _ hp,⟨p0.keep,p0.own,p0.frz,p0.mono,p0.gens,p0.os⟩,e,he,q⟩
 have:=kj (s5:=s5) hA ht z'
 rcases f with _ | _<;>exact this
theorem xS {x y:Str} {a b:Str} {la lb l:cK} {p q ap pi px ka kb pa pb} {lg:LL} (ea:a=S la) (eb:b=S lb) (m:(y,some (.str l))∈l9) (sl:js x (.str (gQ l la lb)) l9 lg)
 (hz:l.length<=1048576) (hb:lb.length<=14) (hk:e5.scope.kind=.function) (hy:e5.kindOf y=some .local) (hx:e5.kindOf x=some .local) (hL:e5.locals=L) (hd:(y==("__debug__":Str))=false)
 (hp:(e5.scope.kind==.class||(e5.scope.kind==.module&&e5.locals !=e5.globals))=false) (hne:(S la==S lb)=false)
 (bg:(ap.endLine==px.line)=true) (h:GJ B n L (execs r8 e5) H ⟨lg,o8⟩ Φ) (hs:autoParam (swapsWith (.Call (.Attribute (.Name y q) "replace" ap) [.Constant (.str a) ka pa,.Constant (.str b) kb pb] [] px) (some (.Name x p)) pi.line e5=pure false) bR):
 GJ B n L (execs (.Assign [.Name x p] (.Call (.Attribute (.Name y q) "replace" ap) [.Constant (.str a) ka pa,.Constant (.str b) kb pb] [] px) pi::r8) e5) H ⟨l9,o8⟩ Φ:=⟨λA F s hA ht X=>by
 subst ea eb hL
 rw[execs_cons,exec_Assign_Name e5 x p _ pi hs];refine cC (cC (wpAny_standAt (cC ?_)))
 refine dW (X.loc) ?_;rintro m5 aV r
 refine dW (r y _ m) ?_;rintro v e hv
 obtain⟨t,rfl⟩:=dD hv;have base:attributeBase (.Name y q) "replace" e5 (eval (.Name y q) e5)=eval (.Name y q) e5:=rfl
 refine wpAny_Call_method_late base (by rfl) bg rfl ?_
 refine wpAny_Name (wpAny_loadName_local hk hy aV e ⟨"str","str.replace",PySem.F.plainAttrs_str,PySem.F.slot_str_replace,PySem.F.type_str_replace,typeIs_str _ _ _,(λu e=>nomatch e),?_⟩) hd
 refine Calls.callWith_builtin rfl (gf rfl ?_)
 refine(show starEach [Expr.Constant (.str (S la)) ka pa,Expr.Constant (.str (S lb)) kb pb] e5=(false,eval (.Constant (.str (S la)) ka pa) e5)::starEach [Expr.Constant (.str (S lb)) kb pb] e5 from rfl)▸?_
 refine spliced_cons (show wpAny _ _ (eval (.Constant (.str (S la)) ka pa) e5) _ _ _ from wpAny_Constant_str ?_)
 refine(show starEach [Expr.Constant (.str (S lb)) kb pb] e5=(false,eval (.Constant (.str (S lb)) kb pb) e5)::starEach [] e5 from rfl)▸?_
 refine spliced_cons (show wpAny _ _ (eval (.Constant (.str (S lb)) kb pb) e5) _ _ _ from wpAny_Constant_str (spliced_nil ?_))
 refine cD (iJ (SC.replaceW (x:=S l) (y:=S la) (z:=S lb) (Q:=λr s'=>∃ t' k,r=.str (Txt.replace (S l) (S la) (S lb)) t'/\s'={ s with toks:=k }) (Nat.pos_iff_ne_zero.mp ht) (Nat.succ_ne_zero _) (Nat.ne_of_lt (Nat.lt_succ_self _)) hne
  (by rw[dI];exact hz) (by rw[dI];exact hb) λt' k=>⟨t',k,rfl,rfl⟩)) (λr s' z=>?_) λu u z=>z
 obtain⟨hk',t',k,rfl,rfl⟩:=z;have q:Is B.P F (.str (Txt.replace (S l) (S la) (S lb)) t') (.str (gQ l la lb)):=by rw[zD];exact .str _ _
 have w:WF B n e5.locals (do standAt p;bindName e5 x (.str (Txt.replace (S l) (S la) (S lb)) t');pure Flow.next) ((.str (Txt.replace (S l) (S la) (S lb)) t',.str (gQ l la lb))::H) ⟨l9,o8⟩ (jC B n e5.locals r8 e5 H Φ):=
  dt (fS (lu (lT dP sl (lm (Φ:=jC B n e5.locals r8 e5 H Φ) h) hx rfl hp)))
 have X':Holds B.P B.G e5.locals F ((.str (Txt.replace (S l) (S la) (S lb)) t',.str (gQ l la lb))::H) ⟨l9,o8⟩ { s with toks:=k }.heap:=X.push q
 refine cD (iJ (w.run A F { s with toks:=k } hA X')) (λf s5 z=>?_) λu u z=>z
 have hk'':s.toks+1+1<=k:=hk'
 have h1:k<=s5.toks:=z.1
 have ak:0 < s5.toks:=by omega
 obtain⟨F0,a6,x0,p0,e,he,q⟩:=z.2;have z':dm B e5.locals H ⟨l9,o8⟩ F s s5 λF' σ'=>∃ e,pJ B.P F' f e/\jC B n e5.locals r8 e5 H Φ e σ':=⟨F0,a6,x0.weaken λu hp=>.tail _ hp,⟨p0.keep,p0.own,p0.frz,p0.mono,p0.gens,p0.os⟩,e,he,q⟩
 have:=kj (s5:=s5) hA ak z'
 rcases f with _ | _<;>exact this⟩
def Qg (p:Prop):Prop:=p
end
section
variable {B:dc} {n:Nat} {L:Addr} {H:HL} {σ:St} {e5:Env} {s:Stmt} {R:PF}
theorem de.of {ay:cL} {P:AV->OL->Prop} (h:∀ Φ:AV->OL->Prop,(∀ d o,P d o->Φ d o)->de B n f ay o8 Φ):de B n f ay o8 P:=h P λy y h=>h
end
end
section
variable {es:List DictEntry} {l:FL} {d:AV} {a:Addr} {Φ:PV} {vs:cO} {m:Nat}
noncomputable def jF:List DictEntry->FL->cX
 | e::es,(x,_)::l=>(x,e.val)::jF es l
 | _,_=>[]
section
variable {pn:Program} {w:World} {F:Fz}
theorem iB (h:IsEnts w.params F es l):(jF es l).map (·.1)=l.map (·.1):=h.ind (C:=λes l=>(jF es l).map (·.1)=l.map (·.1)) rfl λy y y y y y y y c=>cG (List.cons _) c
theorem sL (h:IsEnts w.params F es l):Pairs (strKind pn w) es (jF es l):=h.ind (C:=λes l=>Pairs (strKind pn w) es (jF es l)) .nil λy y y y y y y y c=>.cons (bZ _) rfl c
theorem vY (h:IsEnts w.params F es l):∀ e∈es,∃ k,(strKind pn w).is k e.key=true/\e.hash=(strKind pn w).hash k:=
 h.ind (C:=λes y=>∀ e∈es,∃ k,(strKind pn w).is k e.key=true/\e.hash=(strKind pn w).hash k) (λy h=>nomatch h) λx y y y y y y y c=>List.forall_mem_cons.mpr ⟨⟨x,bZ _,rfl⟩,c⟩
theorem we (h:IsEnts w.params F es l):KM w.params F (jF es l) l:=h.ind (C:=λes l=>KM w.params F (jF es l) l) .nil λy y y y y y h y c=>.cons h c
theorem KM.value {P:Params} {x:Str} {r:cX} (h:KM P F r l) (e:eF x l=some d):∃ v,valueAt r x=some v/\Is P F v d:=by
 induction h with
 | nil=>contradiction
 | @cons y v c r l h _ ih=>
  by_cases q:(y==x)=true
  . have z:=cF q
    subst z;exact⟨v,by simp[valueAt],Option.some.inj ((i8 _ c l).symm.trans e)▸h⟩
  . refine dW (ih ((fM c l q).symm.trans e)) ?_;rintro w e1 e2
    refine⟨w,?_,e2⟩
    show Option.map _ (List.find? _ ((y,v)::r))= _
    rw[List.find?_cons];simp only[cc λz=>q (beq_iff_eq.mpr z)]
    exact e1
theorem jS {x:Str} (h:IsEnts w.params F es l) (e:eF x l=some d):∃ v,valueAt (jF es l) x=some v/\Is w.params F v d:=(we h).value e
theorem ia {h:Heap} (e:IsEnts w.params F es l) (nd:(l.map (·.1)).Nodup) (hg:h.get? a=some (dictOf es n)):h.DictOf (strKind pn w) a (jF es l):=
 ⟨_,es.toArray,n,hg,⟨rfl,rfl,rfl⟩,rfl,λx hx=>vY e x (by simpa using hx),sL e,by rw[iB e];exact nd⟩
end
section
variable {B:dc} {n:Nat} {L:Addr} {H:HL} {σ:St} {e5:Env}
theorem Ky {v6 slice:Expr} {o i:Value} {x:cK} (mo:(o,.dct l)∈H) (mi:(i,.str x)∈H) (hd:eF (S x) l=some d) (h:∀ v,Φ v d σ)
 (hs:∃ ops,subscripted slice false o i=operate ops (getItem o i):=by exact⟨_,rfl⟩):WV B n L (subscriptTail v6 slice o i) H σ Φ:=by
 refine iD (T:="dict") (λF s X=>?_) slot_dict_getitem.lookup (dg λA F s hA X=>?_) hs
 . refine Ok (oo (X.hold mo)) ?_;rintro a es k rfl h1 h2 h3;exact⟨_,X.sub _ _ h1,rfl⟩
 . refine Ok (oo (X.hold mo)) ?_;rintro a es k rfl h1 h2 h3
   obtain⟨t,rfl⟩:=dD (X.hold mi);refine dW (jS h2 hd) ?_;rintro v e1 e2
   exact wpAny_getItem_of (knd:=strKind B.prog B.w) (k:=S x) (bZ _) (ia h2 h3 (X.sub _ _ h1)).mapOf e1 (.toks X ⟨d,e2,h _⟩)
noncomputable def mM:Value->AV
 | .none=>.none
 | .bool b=>.bool b
 | .int i _=>.int i
 | .str x _=>.str x.cps.toList
 | v=>.lit v
theorem rk (P:Params) (F:Fz):∀ v,Is P F v (mM v)
 | .none=>.none
 | .bool b=>.bool b
 | .int i t=>.int i t
 | .str x t=>by
  have e:S x.cps.toList=x:=by cases x;rfl
  have q:Is P F (.str (S x.cps.toList) t) (.str x.cps.toList):=.str _ _
  rw[e]at q
  exact q
 | .float .. =>.lit _
 | .bytes .. =>.lit _
 | .type _=>.lit _
 | .builtin _=>.lit _
 | .ref _=>.lit _
 | .ellipsis=>.lit _
 | .notImplemented=>.lit _
theorem pP (P:Params) (F:Fz):∀ vs,IsAll P F vs (vs.map mM)
 | []=>.nil
 | v::r=>.cons (rk P F v) (pP P F r)
theorem pL {l:cL} (h:B.K.lookup a=some (ly vs m)) (e:vs.map mM=l):eS B (.ref a) (.tup l):=λF core=>e▸.tup (core _ _ (B.X _ _ h)) (pP B.P F vs)
theorem yU {l:cL} (h:B.K.lookup a=some (dZ vs m)) (e:vs.map mM=l):eS B (.ref a) (.lst l):=λF core=>e▸.lst (core _ _ (B.X _ _ h)) (pP B.P F vs)
noncomputable def lM:List DictEntry->FL
 | ⟨_,.str x _,v⟩::r=>(x,mM v)::lM r
 | _=>[]
def rH (P:Params):List DictEntry->Prop
 | []=>True
 | e::r=>(∃ x t,e.key=.str x t/\e.hash=PyData.keyHash P x)/\rH P r
theorem qq (P:Params) (F:Fz):∀ es,rH P es->IsEnts P F es (lM es)
 | [],_=>.nil
 | ⟨hs,ke,v⟩::r,⟨⟨x,t,e1,e2⟩,q⟩=>by
  dsimp only at e1 e2
  subst e1 e2
  exact .cons (rk P F v) (qq P F r q)
theorem AY (h:B.K.lookup a=some (dictOf es m)) (ok:rH B.P es) (e:lM es=l) (nd:(l.map (·.1)).Nodup) (ha:autoParam ((a==sysModules)=false) bD):eS B (.ref a) (.dct l):=
 λF core=>e▸.dct (core _ _ (B.X _ _ h)) (qq B.P F es ok) (by rw[e];exact nd) ha
end
theorem gp.perm {P:Params} {G:Heap} {F:Fz} {o o':OL} {h:Heap} (e:o.Perm o') (x:gp P G F o h):gp P G F o' h:=
 ⟨x.core,x.sub,λp hp=>x.objs p (e.mem_iff.mpr hp),(fE e).nodup_iff.mp x.nodup,λb hb=>x.apart b ((fE e).mem_iff.mpr hb),x.big⟩
theorem eC.perm {O O0 O' O2:cP} {F F':Fz} {s s':Shared} (e:O.Perm O0) (e':O'.Perm O2) (p:eC O F s O' F' s'):eC O0 F s O2 F' s':=
 ⟨λb o hb=>p.keep b o λh=>hb (e.mem_iff.mp h),λb hb=>(p.own b (e'.mem_iff.mpr hb)).imp_left e.mem_iff.mp,λb o h=>(p.frz b o h).imp_right (Or.imp_left e.mem_iff.mp),p.mono,p.gens,p.os⟩
theorem de.perm {B:dc} {f:Addr} {ay:cL} {o o5:OL} {Φ ah:AV->OL->Prop} (e:o.Perm o5) (c:de B n f ay o5 ah) (k:∀ d q,ah d q->∃ q',q.Perm q'/\Φ d q'):de B n f ay o Φ:=
 λA F s vs hA x hv=>codeAny_mono (c A F s vs hA (x.perm e) hv) λr s' ⟨v,d,o3,F',a,b,y,p,q⟩=>by
  refine dW (k d o3 q) ?_;rintro q' e' hq
  exact⟨v,d,q',F',a,b,y.perm e',p.perm (fE e).symm (fE e'),hq⟩
theorem de.second {B:dc} {f:Addr} {ay:cL} {a a' b:Addr×AO} {r8:OL} {d5:AV} (c:de B n f ay (a::b::r8) λd o=>d=d5/\o=a'::b::r8):de B n f ay (b::a::r8) λd o=>d=d5/\o=b::a'::r8:=
 c.perm (.swap _ _ _) λd q ⟨e1,e2⟩=>⟨b::a'::r8,by rw[e2];exact .swap _ _ _,e1,rfl⟩
section
variable {B:dc} {n:Nat} {L:Addr} {H:HL} {σ:St} {e5:Env}
theorem uG {l m r:Expr} {op oi pi wd} {Φ:Bool->St->Prop}
 (h :Go l (WV B n L (eval l e5) H σ λa x a6=>Go m (WV B n L (eval m e5) ((a,x)::H) a6 λb y a9=>Go op (WV B n L (compareOp op a b) ((b,y)::(a,x)::H) a9 λv z aa=>∃ c,z=.bool c/\∃ c',
  Go r (WV B n L (eval r e5) ((b,y)::(a,x)::H) aa (λd w ab=>Go oi (WV B n L (compareOp oi b d) ((d,w)::(b,y)::(a,x)::H) ab λv z ad=>z=.bool c'/\ad=aa)))/\Φ (c&&c') aa))))
 (hm:autoParam (markedEach [op,oi] [m,r] (evalEach [m,r] e5)=[eval m e5,eval r e5]) bW):Re (Expr.Compare l [op,oi] [m,r] pi) (WB B n L (isTrue (.Compare l [op,oi] [m,r] pi) e5 wd) H σ Φ):=by
 show WB B n L (isTrue (.Compare l [op,oi] [m,r] pi) e5 wd) H σ Φ
 rw[arm_isTrue_Compare,hm];refine dr (dk h λa x a6 w=>?_)
 show W B n L (do
  let rv <-holding [a] (eval m e5)
  standAt pi
  let c <-holding [a,rv] (compareOp op a rv)
  release [a,rv] [c]
  if <-holding [c,rv] (truthy c) then testChain pi rv [oi] [eval r e5] else pure false) ((a,x)::H) a6 _
 refine dr (di (dk w λb y a9 w=>dt (dr (di (dk w λc z aa ⟨k,e,c',w,q⟩=>?_)))))
 subst e;refine qF (gE (di (lw dP ?_)))
 induction k using Bool.casesOn with
 | false=>exact oZ q
 | true=>
  refine nP ?_
  show W B n L (do
   let rv <-holding [b] (eval r e5)
   standAt pi
   let c <-operate [b,rv] (compareOp oi b rv)
   holding [c] (truthy c)) _ _ _
  refine dr (di (dk w λd w' ab w=>dt (dr (gx (dk w λv z ad ⟨e,e'⟩=>?_)))))
  subst e e'
  exact di (lw dP q)
end
section
variable {B:dc} {n:Nat} {L:Addr} {H:HL} {σ:St} {e5:Env}
end
section
variable {B:dc} {n:Nat} {L:Addr} {H:HL} {σ:St} {e5:Env}
theorem EZ {C fI:Addr} {ds:cL} {l9:LL} {o8:OL} {ae:Addr->Addr->AV->OL->Prop} (hm:makesIn B.K C=true) (hi:findIn B.K (.ref C) "__init__"=some (some (.ref fI))) (hf:isFn B.K (.ref fI)=true)
 (c:∀ x dx,de B m fI (.ref x::ds) ((x,.inst C dx [])::o8) (ae x dx)) (hn:m<=n) (e:vs.length=ds.length) (k:∀ p∈vs.zip ds,p∈H)
 (h:∀ x dx d o3,ae x dx d o3->d=.none/\Φ (.ref x) (.ref x) ⟨l9,o3⟩):WV B (n+1) L (call (.ref C) vs) H ⟨l9,o8⟩ Φ:=
 Jf (σ:=⟨l9,o8⟩) hm hi hf e k λx dx=>((c x dx).room hn).mono λd o q=>h x dx d o q
end
end
section
section
variable {B:dc} {n:Nat} {L:Addr} {H:HL} {σ:St} {e5:Env}
theorem EA {a b:Value} {c:Nat} {x:cK} {Φ:PV} (ma:(a,.str [c])∈H) (mb:(b,.str x)∈H) (h:∀ v,Φ v (.bool (decide (c∈x))) σ):WV B n L (compareOp .In a b) H σ Φ:=dg λA F s hA X=>by
 obtain⟨t1,rfl⟩:=dD (X.hold ma);obtain⟨t2,rfl⟩:=dD (X.hold mb);have e:(!(Builtin.Str.occurrences (S x) (S [c]) 0 (S x).length 1).isEmpty)=decide (c∈x):=StrLaws.found_one (S x) c
 with_reducible exact in_str (.here X ⟨_,.bool _,e▸h _⟩)
theorem yL (a b:Bool):PyData.eqv (.bool a) (.bool b)=(a==b):=by rcases a with _ | _<;>rcases b with _ | _<;>first | rfl | simp[PyData.eqv]
theorem Kq {a b:Value} {x y:Bool} {Φ:PV} (ma:(a,.bool x)∈H) (mb:(b,.bool y)∈H) (h:∀ v,Φ v (.bool (x==y)) σ):WV B n L (compareOp .Eq a b) H σ Φ:=
 zm ma mb rfl rfl rfl rfl (yL x y) h
end
theorem de.drop {B:dc} {n:Nat} {f:Addr} {ay:cL} {o:OL} {Φ:AV->OL->Prop} (c:de B n f ay o λd q=>∃ q' g,q.Perm (q'++g)/\Φ d q'):de B n f ay o Φ:=
 λA F s vs hA x hv=>codeAny_mono (c A F s vs hA x hv) λr s' ⟨v,d,o3,F',a,b,y,p,q',g,e,hq⟩=>by
  have pe:=fE e
  rw[fk]at pe
  have sub:∀ b∈dj q',b∈dj o3:=λb hb=>pe.mem_iff.mpr (bB _ hb)
  exact⟨v,d,q',F',a,b,⟨y.core,y.sub,λp hp=>y.objs p (e.mem_iff.mpr (bB _ hp)),(bO.mp (pe.nodup_iff.mp y.nodup)).1,λb hb=>y.apart b (sub b hb),y.big⟩,
   ⟨p.keep,λb hb=>p.own b (sub b hb),p.frz,p.mono,p.gens,p.os⟩,hq⟩
end
section
theorem de.dropH {B:dc} {n:Nat} {f:Addr} {ay:cL} {o:OL} {Φ:AV->OL->Prop} (c:de B n f ay o λd q=>Qg (∃ q' g,q.Perm (q'++g)/\Φ d q')):de B n f ay o Φ:=de.drop c
theorem de.ahead {B:dc} {n:Nat} {f:Addr} {ay:cL} {a:Addr×AO} {o o':OL} {d5:AV} (c:de B n f ay (o++[a]) λd q=>d=d5/\q=o'++[a]):de B n f ay (a::o) λd q=>d=d5/\q=a::o':=
 c.perm (bA (l₁:=[a])) λd q ⟨e1,e2⟩=>⟨a::o',by rw[e2];exact bA (l₂:=[a]),e1,rfl⟩
theorem oX (ms:d8):List.intercalate [] ms=ms.flatten:=by
 induction ms with
 | nil=>rfl
 | cons a r ih=>induction r using List.casesOn with
  | nil=>simp[List.intercalate,List.intersperse]
  | cons b r=>simp only[List.intercalate,List.intersperse_cons_cons,List.flatten_cons]at ih |-;refine ih▸?_;simp
theorem ji {l:cL} {ms:d8} {x:cK} (h:dT l=some ms):dT (l++[.str x])=some (ms++[x]):=by
 induction l generalizing ms with
 | nil=>obtain rfl:=Option.some.inj h;rfl
 | cons d r ih=>
  refine jk (oQ h) ?_;rintro y m rfl e1 rfl
  show(dT (r++[.str x])).map (y::·)= _
  refine(ih e1)▸?_
  rfl
theorem GB {l:cK} {i j:Nat} (h:i<=l.length) (h':j<=l.length):sl l (some i) (some j)=(l.take j).drop i:=by
 rw[jO];rw[eX h,eX h']
theorem Dg {l:cK} {i:Nat} (h:i<=l.length):sl l (some i) (some i)=[]:=by rw[GB h h];simp
theorem rZ (ms:d8):(ms.map (·.length)).sum=ms.flatten.length:=by rw[List.length_flatten]
section
variable {B:dc} {n:Nat} {L:Addr} {H:HL} {σ:St} {e5:Env}
theorem Ii {a:Addr} {l:cL} {ms:d8} {v5 v:Value} {Φ:PV} (mv:(v5,.str [])∈H) (md:(v,.ref a)∈H) (m:(a,AO.list l)∈σ.objs) (e:dT l=some ms)
 (hz:ms.flatten.length<=16777216) (h:∀ v,Φ v (.str ms.flatten) σ):WV B n L (call (.builtin "str.join") [v5,v]) H σ Φ:=
 uH mv md m e (by rw[rZ];simpa using hz) (by rw[oX];exact h)
end
end
section
section
variable {M:Model} {A:Around} {c:Code} {fs:List Frame} {s:Shared} {Q:End->Shared->Prop} {K:Flow->Sem Fin} {Hh:Value->Sem Fin} {gd:Bool->Bool} {lv:cO->cO} {e5:Env}
def Sg (M:Model) (A:Around) (c:Code) (t:Sem Fin) (fs:List Frame) (s:Shared) (Q:End->Shared->Prop):Prop:=
 ∀ Γ p,Γ.code=c->Γ.Woken A->∃ e s',Runs M Γ p t fs s e s'/\(e.quiet=true/\Q e s')
theorem Sg.tree {α:Type} {m:Sem α} {K:α->Sem Fin} {Hh:Value->Sem Fin} (h:wpAny M (A.over c fs) m (λa s'=>Sg M A c (K a) fs s' Q) (λx s'=>Sg M A c (Hh x) fs s' Q) s):Sg M A c (m.wrap K Hh gd lv) fs s Q:=by
 rintro Γ p rfl hΓ;exact runs_wrap_of_wp K Hh gd lv m (h (Γ.over fs) p (hΓ.over fs)) (λa p' s' w=>w Γ p' rfl hΓ) λx p' s' w=>w Γ p' rfl hΓ
theorem Sg.stand {p':Pos} {k:Unit->Sem Fin} (h:Sg M A c (k ()) fs s Q):Sg M A c (.at p' k) fs s Q:=Sg.tree (m:=standAt p') (K:=k) (Hh:=.raise) (gd:=id) (lv:=id) (wpAny_standAt h)
theorem Sg.spot {l:cO} {k:Unit->Sem Fin} (h:Sg M A c (k ()) fs s Q):Sg M A c (.point l k) fs s Q:=Sg.tree (m:=point) (K:=k) (Hh:=.raise) (gd:=id) (lv:=λy=>l) (wpAny_point h)
theorem Sg.into {c':Code} {h g l} {k:Result->Sem Fin} (w:∀ p,Sg M A c' (M.den c') (.ret k h g l c p []::fs) s Q):Sg M A c (.call c' h g l k) fs s Q:=by
 rintro Γ p rfl hΓ;refine im (w p (Γ.goto c') p rfl (hΓ.goto c')) ?_;rintro e s' hr q
 exact⟨e,s',runs_call_seg hr,q⟩
theorem Sg.back {k h g l c₁ p0 kp} (r:Result) (w:Sg M A c₁ (k r) fs s Q):Sg M A c (leafOf r) (.ret k h g l c₁ p0 kp::fs) s Q:=by
 rintro Γ p rfl hΓ;refine im (w (Γ.goto c₁) p0 rfl (hΓ.goto c₁)) ?_;rintro e s' hr q
 exact⟨e,s',Runs.pop r hr,q⟩
theorem Sg.turn {c':Code} (hq:c'.quiet=true) (w:Sg M A c' (M.den c') fs s Q):Sg M A c (.pure (.again c')) fs s Q:=by
 rintro Γ p rfl hΓ;refine im (w (Γ.goto c') p rfl (hΓ.goto c')) ?_;rintro e s' hr q
 exact⟨e,s',Runs.head (c₁:=c') (λy y x=>.again hq x) hr,q⟩
theorem Sg.over (r:Result) (h:Q (.ret r) s):Sg M A c (leafOf r) [] s Q:=by
 rintro Γ p rfl y;exact⟨.ret r,s,Runs.leaf r,rfl,h⟩
theorem Sg.give {v g l} {k:Resume->Sem Fin} (hfs:splitAtGen fs=none) (hg:g=false) (hfg:fs.any Frame.guarded=false) (h:∀ p,Q (.susp v g l k c p fs) s):Sg M A c (.yield v g l k) fs s Q:=by
 rintro Γ p rfl y;exact⟨_,s,Runs.yield' fs hfs,by simp[End.quiet,hg,hfg],h p⟩
def Wk (M:Model) (A:Around) (gs:GenState) (s:Shared) (Q:End->Shared->Prop):Prop:=
 match gs with
 | .fresh c=>Sg M A c (M.den c) [] s Q
 | .suspended k _ c _ fs _=>Sg M A c (k (.send .none)) fs s Q
 | _=>False
theorem uZ {E:Value->Shared->Prop} {g:Nat} {gs:GenState} {l:cO} {α:Type} {k:GenResult->Sem α} {R:α->Shared->Prop} (hg:s.gens[g]? =some gs) (w:Wk M A gs (s.setGen g .running) Q)
 (h:∀ e s5,e.quiet=true->Q e s5->wpAny M A (k e.result) R E (s5.setGen g e.genState)):wpAny M A (.resume g (.send .none) l k) R E s:=by
 intro Γ p hΓ;rw[Sem.wp_resume]
 cases gs with
 | running=>exact w.elim
 | finished=>exact w.elim
 | fresh c=>
  refine jk (w (Γ.wake c p) p rfl (hΓ.wake c p)) ?_;rintro e s' hr q z
  exact⟨_,_,by unfold Wakes;rw[hg];exact⟨e,s',hr,q,rfl,rfl⟩,h e s' q z Γ p hΓ⟩
 | suspended k5 l8 c pf fs cl=>
  refine jk (w (Γ.wake c p) pf rfl (hΓ.wake c p)) ?_;rintro e s' hr q z
  exact⟨_,_,by unfold Wakes;rw[hg];exact⟨e,s',hr,q,rfl,rfl⟩,h e s' q z Γ p hΓ⟩
theorem Sg.steps {st:Stmt} {r8:cM} (h:Sg M A c ((exec st e5).wrap (λf=>match f with | .next=>(execs r8 e5).wrap K Hh gd lv | f=>K f) Hh gd lv) fs s Q):Sg M A c ((execs (st::r8) e5).wrap K Hh gd lv) fs s Q:=by
 rw[execs_cons_wrap];exact h
theorem Sg.yields {e:Expr} {yp pi:Pos} (hfs:splitAtGen fs=none) (hgd:gd false=false) (hfg:fs.any Frame.guarded=false)
 (h:wpAny M (A.over c fs) (eval e e5) (λv s'=>∀ l k p,k (.send .none)=K .next->Q (.susp v (gd false) l k c p fs) s') (λy y=>False) s) (aT:e5.scope.isCoroutine=false) (hi:interactive e5=false):
 Sg M A c ((exec (.Expr (.Yield (some e) yp) pi) e5).wrap K Hh gd lv) fs s Q:=by
 rw[exec_Expr e5 _ pi hi rfl];have hy:∀ v,yieldOut e5 v=yieldValue v:=λv=>by simp only[yieldOut,aT,Bool.false_eq_true,if_false]
 show Sg M A c (.at pi λy=>((eval e e5 >>= λv=>(standAt yp >>= λy=>yieldOut e5 v)) >>= λx=>dropValue (.Yield (some e) yp) pi x).wrap K Hh gd lv) fs s Q
 simp only[hy]
 refine Sg.stand ?_
 rw[Sem.bind_eq_wrap',Sem.bind_eq_wrap',Sem.wrap_wrap,Sem.wrap_wrap];refine Sg.tree (cD h (λv s' z=>?_) λy y z=>z.elim)
 exact Sg.stand (Sg.give hfs hgd hfg λp=>z _ _ p rfl)
theorem Sg.whiles {t6:Expr} {b3:cM} {pi:Pos}
 (h:∀ p k,(∀ f,k (.ok f)=K f)->Sg M A (.whileLoop t6 b3 [] e5) (M.den (.whileLoop t6 b3 [] e5)) (.ret k none (gd false) (lv []) c p []::fs) s Q):Sg M A c ((exec (.While t6 b3 [] pi) e5).wrap K Hh gd lv) fs s Q:=
 Sg.stand (Sg.into λp=>h p _ λf=>rfl)
end
section
variable {pn:Program} {w:World} {A:Around} {fs:List Frame} {s:Shared} {Q:End->Shared->Prop} {e5:Env}
theorem Sg.round {t6:Expr} {b3:cM} (h:wpAny (model pn w) (A.over (.whileLoop t6 b3 [] e5) fs) (isTrue t6 e5 (eval t6 e5)) (λb s'=>
 (b =true->∀ Hh,Sg (model pn w) A (.whileLoop t6 b3 [] e5) ((execs b3 e5).wrap (λf=>match f with
  | .next | .cont=>.pure (.again (.whileLoop t6 b3 [] e5))
  | .brk=>.pure (.done .next)
  | .ret v=>.pure (.done (.ret v))) Hh id id) fs s' Q)/\
 (b =false->Sg (model pn w) A (.whileLoop t6 b3 [] e5) (.pure (.done .next)) fs s' Q)) (λy y=>False) s):
 Sg (model pn w) A (.whileLoop t6 b3 [] e5) ((model pn w).den (.whileLoop t6 b3 [] e5)) fs s Q:=by
 show Sg _ A _ ((whileTurn t6 b3 [] e5).onRaise (λx=>do noteFrame x e5;theTreesLotGoes x)) fs s Q
 unfold whileTurn;rw[Sem.onRaise_eq_wrap,Sem.bind_eq_wrap',Sem.wrap_wrap];refine Sg.tree (cD h (λb s' z=>?_) λy y z=>z.elim)
 induction b using Bool.casesOn with
 | true=>
  show Sg _ A _ (Sem.wrap _ _ _ _ (execs b3 e5 >>= _)) fs s' Q
  rw[Sem.bind_eq_wrap',Sem.wrap_wrap];rw[Sem.wrap_congr (execs b3 e5) (K':=λf=>match f with
   | .next | .cont=>.pure (.again (.whileLoop t6 b3 [] e5))
   | .brk=>.pure (.done .next)
   | .ret v=>.pure (.done (.ret v))) _ _ (λf=>by rcases f with _ | _<;>rfl) (λe=>rfl)]
  exact z.1 rfl _
 | false=>exact z.2 rfl
theorem Sg.body {b3:cM} (h:∀ Hh,Sg (model pn w) A (.func b3 e5) ((execs b3 e5).wrap (λf=>.pure (.done (.ret (match f with | .ret v=>v | _=>.none)))) Hh id id) fs s Q):
 Sg (model pn w) A (.func b3 e5) ((model pn w).den (.func b3 e5)) fs s Q:=by
 show Sg _ A _ (.point [] λy=>((execs b3 e5).onRaise (leaving e5)) >>= _) fs s Q
 refine Sg.spot ?_
 rw[Sem.onRaise_eq_wrap,Sem.bind_eq_wrap',Sem.wrap_wrap];rw[Sem.wrap_congr (execs b3 e5) (K':=λf=>.pure (.done (.ret (match f with | .ret v=>v | _=>.none)))) _ _ (λf=>by rcases f with _ | _<;>rfl) (λe=>rfl)]
 exact h _
end
end
section
variable {st:Stmt} {pi:Pos} {t6:Expr}
theorem Sg.mono {M:Model} {A:Around} {c:Code} {t:Sem Fin} {fs:List Frame} {s:Shared} {Q Q':End->Shared->Prop} (h:Sg M A c t fs s Q) (k:∀ e s',Q e s'->Q' e s'):Sg M A c t fs s Q':=λΓ p e hΓ=>
 let ⟨x,s',hr,q,z⟩:=h Γ p e hΓ;⟨x,s',hr,q,k _ _ z⟩
section
variable {γ:Type}
def yq (B:dc) (m:Nat) (L:Addr) (YJ:γ->AV->OL->Prop) (RJ:OL->Prop):List γ->cP->Fz->Shared->End->Shared->Prop
 | []=>λO F s e s5=>e=.ret (.ok (.ret .none))/\∃ F' σ',Holds B.P B.G L F' [] σ' s5.heap/\eC O F s (L::dj σ'.objs) F' s5/\RJ σ'.objs
 | x::tr=>λO F s e s5=>∃ v g l k c p fs F' σ' d,e=.susp v g l k c p fs/\Holds B.P B.G L F' [(v,d)] σ' s5.heap/\eC O F s (L::dj σ'.objs) F' s5/\YJ x d σ'.objs/\
  ∀ A F1 s7,gn m A->Holds B.P B.G L F1 [] σ' s7.heap->Sg B.M A c (k (.send .none)) fs s7 (yq B m L YJ RJ tr (L::dj σ'.objs) F1 s7)
variable {B:dc} {m n:Nat} {L:Addr} {YJ:γ->AV->OL->Prop} {RJ:OL->Prop}
theorem yq.trans {tr:List γ} {O O':cP} {F F':Fz} {s s' s5:Shared} {e:End} (p:eC O F s O' F' s') (h:yq B m L YJ RJ tr O' F' s' e s5):yq B m L YJ RJ tr O F s e s5:=by
 induction tr using List.casesOn with
 | nil=>
  obtain⟨rfl,F0,a6,x,q,r⟩:=h;exact⟨rfl,F0,a6,x,p.trans q,r⟩
 | cons x tr=>
  refine QB (h) ?_;clear h;rintro v g l k c p' ⟨fs,F0,a6,d,rfl,x,q,r⟩
  exact⟨v,g,l,k,c,p',fs,F0,a6,d,rfl,x,p.trans q,r⟩
structure GW (B:dc) (m:Nat) (L:Addr) (YJ:γ->AV->OL->Prop) (RJ:OL->Prop) (c:Code) (fs:List Frame) (t:Sem Fin) (tr:List γ) (σ:St):Prop where
 run:∀ A F s,gn m A->Holds B.P B.G L F [] σ s.heap->Sg B.M A c t fs s (yq B m L YJ RJ tr (L::dj σ.objs) F s)
variable {c:Code} {fs:List Frame} {tr:List γ} {σ:St} {K:Flow->Sem Fin} {Hh:Value->Sem Fin} {gd:Bool->Bool} {lv:cO->cO} {e5:Env}
def fV (m n:Nat) (c:Code) (fs:List Frame):Prop:=∀ A,gn m A->gn n (A.over c fs)
theorem GW.bind {α:Type} {t:Sem α} {K:α->Sem Fin} (hr:fV m n c fs) (h:W B n L t [] σ λa y σ'=>GW B m L YJ RJ c fs (K a) tr σ'):GW B m L YJ RJ c fs (t.wrap K Hh gd lv) tr σ:=⟨λA F s hA X=>
 Sg.tree (cD (h.run _ F s (hr A hA) X) (λa s' ⟨F',σ',X',p,w⟩=>(w.run A F' s' hA X').mono λy y z=>z.trans p) λy y z=>z.elim)⟩
theorem GW.stmt (hr:fV m n c fs) (h:WF B n L (exec st e5) [] σ λe σ'=>e=.next/\GW B m L YJ RJ c fs (K .next) tr σ'):GW B m L YJ RJ c fs ((exec st e5).wrap K Hh gd lv) tr σ:=
 GW.bind hr ⟨λA F s hA X=>cD (h.run A F s hA X) (λf s' ⟨F',σ',X',p,e,he,q,w⟩=>⟨F',σ',X',p,by subst q;rcases f with _ | _<;>first | exact w | exact he.elim⟩) λy y z=>z⟩
theorem GW.steps {r8:cM} (h:GW B m L YJ RJ c fs ((exec st e5).wrap (λf=>match f with | .next=>(execs r8 e5).wrap K Hh gd lv | f=>K f) Hh gd lv) tr σ):GW B m L YJ RJ c fs ((execs (st::r8) e5).wrap K Hh gd lv) tr σ:=
 ⟨λA F s hA X=>Sg.steps (h.run A F s hA X)⟩
theorem GW.yields {x:γ} {e:Expr} {yp:Pos} (hr:fV m n c fs) (hfs:splitAtGen fs=none) (hgd:gd false=false) (hfg:fs.any Frame.guarded=false)
 (h:WV B n L (eval e e5) [] σ λv d σ'=>YJ x d σ'.objs/\GW B m L YJ RJ c fs (K .next) tr σ') (aT:e5.scope.isCoroutine=false) (hi:interactive e5=false):
 GW B m L YJ RJ c fs ((exec (.Expr (.Yield (some e) yp) pi) e5).wrap K Hh gd lv) (x::tr) σ:=⟨λA F s hA X=>
 Sg.yields hfs hgd hfg (cD (h.run _ F s (hr A hA) X) (λv s' ⟨F',σ',X',p,d,hd,y,w⟩ l k p' hk=>⟨v,gd false,l,k,c,p',fs,F',σ',d,rfl,X'.push hd,p,y,λA F1 s7 hA X1=>by rw[hk];exact w.run A F1 s7 hA X1⟩) λu u z=>z) aT hi⟩
theorem GW.whiles {b3:cM}
 (h:∀ p k,(∀ f,k (.ok f)=K f)->GW B m L YJ RJ (.whileLoop t6 b3 [] e5) (.ret k none (gd false) (lv []) c p []::fs) (B.M.den (.whileLoop t6 b3 [] e5)) tr σ):GW B m L YJ RJ c fs ((exec (.While t6 b3 [] pi) e5).wrap K Hh gd lv) tr σ:=
 ⟨λA F s hA X=>Sg.whiles λp k e=>(h p k e).run A F s hA X⟩
theorem GW.round {b3:cM} (hr:fV m n (.whileLoop t6 b3 [] e5) fs) (h:WB B n L (isTrue t6 e5 (eval t6 e5)) [] σ λb σ'=>
 (b=true->∀ Hh,GW B m L YJ RJ (.whileLoop t6 b3 [] e5) fs ((execs b3 e5).wrap (λf=>match f with
  | .next | .cont=>.pure (.again (.whileLoop t6 b3 [] e5))
  | .brk=>.pure (.done .next)
  | .ret v=>.pure (.done (.ret v))) Hh id id) tr σ')/\
 (b=false->GW B m L YJ RJ (.whileLoop t6 b3 [] e5) fs (.pure (.done .next)) tr σ')):GW B m L YJ RJ (.whileLoop t6 b3 [] e5) fs (B.M.den (.whileLoop t6 b3 [] e5)) tr σ:=
 ⟨λA F s hA X=>Sg.round (cD (h.run _ F s (hr A hA) X) (λb s' ⟨F',σ',X',p,w⟩=>⟨λe Hh=>((w.1 e Hh).run A F' s' hA X').mono λy y z=>z.trans p,λe=>((w.2 e).run A F' s' hA X').mono λy y z=>z.trans p⟩) λy y z=>z)⟩
theorem GW.turn {c':Code} (hq:c'.quiet=true) (h:GW B m L YJ RJ c' fs (B.M.den c') tr σ):GW B m L YJ RJ c fs (.pure (.again c')) tr σ:=⟨λA F s hA X=>Sg.turn hq (h.run A F s hA X)⟩
theorem GW.back {k:Result->Sem Fin} {h' g l c₁ p0 kp} {f:Flow} (h:GW B m L YJ RJ c₁ fs (k (.ok f)) tr σ):GW B m L YJ RJ c (.ret k h' g l c₁ p0 kp::fs) (.pure (.done f)) tr σ:=⟨λA F s hA X=>Sg.back (.ok f) (h.run A F s hA X)⟩
theorem GW.body {b3:cM} (h:∀ Hh,GW B m L YJ RJ (.func b3 e5) fs ((execs b3 e5).wrap (λf=>.pure (.done (.ret (match f with | .ret v=>v | _=>.none)))) Hh id id) tr σ):
 GW B m L YJ RJ (.func b3 e5) fs (B.M.den (.func b3 e5)) tr σ:=⟨λA F s hA X=>Sg.body λHh=>(h Hh).run A F s hA X⟩
theorem GW.over (h:RJ σ.objs):GW B m L YJ RJ c [] (.pure (.done (.ret .none))) [] σ:=⟨λA F s hA X=>Sg.over (.ok (.ret .none)) ⟨rfl,F,σ,X,.refl _ _ _,h⟩⟩
theorem gw {b3:cM}:fV (n+1) n (.func b3 e5) []:=λA hA=>by
 have h1:(Code.func b3 e5).weight=1:=by rfl
 have h2:(Code.func b3 e5).cUnits=3:=by rfl
 refine⟨hA.handled,?_,?_⟩
 . have:=hA.depth
   show A.depth+frameCount ([].map Frame.where_)+(Code.func b3 e5).weight+n<=900
   rw[h1];simp[frameCount];omega
 . have:=hA.units
   show A.units+unitsOf ([].map Frame.where_)+(Code.func b3 e5).cUnits+8*n<=9000
   rw[h2];simp[unitsOf];omega
theorem eQ {b3:cM} {env':Env} {k:Result->Sem Fin} {g l p kp} (h:fV m n c fs):fV m n (.whileLoop t6 b3 [] env') (.ret k none g l c p kp::fs):=λA hA=>by
 obtain⟨r1,r2,r3⟩:=h A hA;have h1:(Code.whileLoop t6 b3 [] env').weight=0:=by rfl
 have h2:(Code.whileLoop t6 b3 [] env').cUnits=0:=by rfl
 refine⟨?_,?_,?_⟩
 . exact r1
 . have:A.depth+frameCount (fs.map Frame.where_)+c.weight+n<=900:=r2
   show A.depth+frameCount ((Frame.ret k none g l c p kp::fs).map Frame.where_)+(Code.whileLoop t6 b3 [] env').weight+n<=900
   rw[h1,cv,show(Frame.ret k none g l c p kp).where_ =(c,p)from rfl,frameCount_cons];omega
 . have:A.units+unitsOf (fs.map Frame.where_)+c.cUnits+8*n<=9000:=r3
   show A.units+unitsOf ((Frame.ret k none g l c p kp::fs).map Frame.where_)+(Code.whileLoop t6 b3 [] env').cUnits+8*n<=9000
   rw[h2,cv,show(Frame.ret k none g l c p kp).where_ =(c,p)from rfl,unitsOf_cons];omega
end
variable {st:Stmt} {pi:Pos} {t6:Expr}
section
variable {γ:Type} {B:dc} {m n:Nat} {L:Addr} {YJ:γ->AV->OL->Prop} {RJ:OL->Prop} {c:Code} {fs:List Frame} {tr:List γ} {K:Flow->Sem Fin} {Hh:Value->Sem Fin} {gd:Bool->Bool} {lv:cO->cO} {e5:Env} {t:Sem Fin}
theorem GW.perm {l9:LL} {o8 o3 r8:OL} (e:o8.Perm (o3++r8)) (h:GW B m L YJ RJ c fs t tr ⟨l9,o3⟩):GW B m L YJ RJ c fs t tr ⟨l9,o8⟩:=⟨λA F s hA X=>by
 refine(h.run A F s hA (X.drop e)).mono λx s' z=>z.trans ?_
 have pe:=fE e
 rw[fk]at pe
 refine⟨λy y y e=>e,λb hb=>.inl ?_,λy y e=>.inl e,.refl F,.refl _,rfl⟩
 rcases fG hb with rfl | hb
 . exact .head _
 . exact .tail _ (pe.mem_iff.mpr (bB _ hb))⟩
end
end
section
variable {g:Nat} {gs:GenState} {F':Fz}
section
variable {pn:Program} {w:World} {A:Around} {E:Value->Shared->Prop} {s:Shared}
theorem xC {a:Addr} {Q0:End->Shared->Prop} {Q:cT->Shared->Prop} (hh:A.handled=none) (hl:s.heap.NoLimit) (hroom:A.depth < recursionLimit) (hg:s.heap.IsGen a g) (hgs:s.gens[g]? =some gs)
 (wk:Wk (model pn w) A.in1 gs (s.setGen g .running) Q0)
 (h :∀ e s5,e.quiet=true->Q0 e s5->match e with
  | .susp v g5 l k c p fs=>Q (some v) (s5.setGen g (End.susp v g5 l k c p fs).genState)
  | .ret r=>r=.ok (.ret .none)/\∀ h',(∀ b o,s5.heap.get? b=some o->h'.get? b=some o)->Q none { s5.setGen g .finished with heap:=h' }):
 wpAny (model pn w) A (pyNext (.ref a)) Q E s:=by
 unfold pyNext;refine cC (wpAny_attempt (wpAny_callSpecial?_slot (name:=Str.ofString "__next__") hg.typeIs slot_gen_next (wpAny_call_entry slot_gen_next hg.typeIs entry_gen_next ?_ (args_gen_next _))))
 show wpAny _ _ (Builtin.Generator.genWake (.ref a) (.send .none)) _ _ s
 unfold Builtin.Generator.genWake;refine cC (cu (wpAny_genNumber hg (cC (wpAny_genState hgs ?_))))
 cases gs with
 | running=>exact wk.elim
 | finished=>exact wk.elim
 | _=>
  refine cC (wpAny_roomToWake hl hroom ?_)
  refine uZ hgs wk (λe s5 hq z=>?_)
  cases e with
  | susp v g5 l k c p fs=>exact cE ⟨v,rfl,cE (h _ s5 hq z)⟩
  | ret r=>
   obtain⟨rfl,z'⟩:=h _ s5 hq z;show wpAny _ _ (newExc (.type "StopIteration") [] >>= _) _ _ _
   refine cC ?_
   simp only[newExc,newTuple]
   refine cC (wpAny_newObj_type ?_ (by size_fits))
   refine cC (m:=firstArgMember _ _) (wpAny_of_eq (a:=Value.none) (by first | rfl | (simp only[firstArgMember];rfl)) ?_)
   refine wpAny_newObj_type ?_ (by size_fits)
   simp only[raiseNew]
   refine cC (cC (wpAny_handled ?_))
   rw[show A.in1.handled=none from hh];refine wpAny_throw ?_
   refine cC (wpAny_isInstance (T:="StopIteration") (b:=true) ⟨_,bE _ rfl,rfl⟩ isSubtype_stop ?_)
   exact cE (z' _ λb o hb=>bw _ (bw _ hb))
end
theorem Shared.set_set (s:Shared) (g:Nat) (x y:GenState):(s.setGen g x).setGen g y=s.setGen g y:=by
 unfold Shared.setGen;simp
theorem gr.fin {a b:Array GenState} {x:GenState} (h:gr a b) (hg:a[g]? =some x):gr (a.setIfInBounds g .finished) (b.setIfInBounds g .finished):=by
 have ha:g < a.size:=by by_cases q:g < a.size;exact q;simp[q]at hg
 have hb:g < b.size:=by
  have:=h.keep g x hg
  by_cases q:g < b.size;exact q;simp[q]at this
 refine⟨λi y e=>?_,λi y e=>?_⟩
 . rw[Array.getElem?_setIfInBounds]at e |-
   by_cases q:g=i
   . subst q;rw[cJ rfl,cJ ha]at e;rw[cJ rfl,cJ hb];exact e
   . rw[cH q]at e;rw[cH q];exact h.keep i y e
 . rw[Array.getElem?_setIfInBounds]at e
   by_cases q:g=i
   . subst q;rw[cJ rfl,cJ hb]at e;obtain rfl:=Option.some.inj e;exact .inr rfl
   . rw[cH q]at e
     rw[Array.getElem?_setIfInBounds,cH q];exact h.bare i y e
noncomputable abbrev fin (g:Nat) (s:Shared):Shared:=s.setGen g .finished
theorem eC.fin {O O':cP} {F:Fz} {s':Shared} {x:GenState} (p:eC O F s O' F' s') (hg:s.gens[g]? =some x):eC O F (fin g s) O' F' (fin g s'):=
 ⟨p.keep,p.own,p.frz,p.mono,p.gens.fin hg,p.os⟩
section
variable {γ:Type} {B:dc} {m n:Nat} {L:Addr} {YJ:γ->AV->OL->Prop} {RJ:OL->Prop} {tr:List γ}
structure vr (B:dc) (m:Nat) (Lg:Addr) (YJ:γ->AV->OL->Prop) (RJ:OL->Prop) (tr:List γ) (o:Obj) (g9:OL) (F:Fz) (gs:GenState):Prop where
 it:∃ gc:LL,(∃ mm,(∀ h:Heap,h.get? Lg=some o->h.Ns Lg mm)/\∀ x d,(x,some d)∈gc->∃ v,mm x=some v/\Is B.P F v d)/\(gc.map (·.1)).Nodup/\
  ∀ A F s,gn m A->Holds B.P B.G Lg F [] ⟨gc,g9⟩ s.heap->Wk B.M A gs s (yq B m Lg YJ RJ tr (Lg::dj g9) F s)
 low:B.G.objs.size<=Lg
theorem vr.mono {Lg:Addr} {o:Obj} {g9:OL} {F:Fz} (h:vr B m Lg YJ RJ tr o g9 F gs) (k:F.le F'):vr B m Lg YJ RJ tr o g9 F' gs:=by
 obtain⟨⟨gc,⟨mm,a,b⟩,c,d⟩,e⟩:=h;exact⟨⟨gc,⟨mm,a,λx d hx=>let ⟨v,q,r⟩:=b x d hx;⟨v,q,r.mono k⟩⟩,c,d⟩,e⟩
noncomputable abbrev jH (Lg:Addr) (o:Obj):Addr×AO:=(Lg,.is (·=o))
variable {H:HL} {l9:LL} {g9 own:OL} {Lg:Addr} {o:Obj} {F:Fz}
theorem Holds.inner {h:Heap} {gc:LL} (X:Holds B.P B.G L F H ⟨l9,jH Lg o::(g9++own)⟩ h) (low:B.G.objs.size<=Lg) (nd:(gc.map (·.1)).Nodup)
 (hl:∃ mm,(∀ h:Heap,h.get? Lg=some o->h.Ns Lg mm)/\∀ x d,(x,some d)∈gc->∃ v,mm x=some v/\Is B.P F v d):Holds B.P B.G Lg F [] ⟨gc,g9⟩ h:=by
 refine dW (X.objs _ dP) ?_;rintro o' e1 e2
 have nd2:=(cg.mp X.nodup).2
 have e:dj (jH Lg o::(g9++own))=(Lg::dj g9)++dj own:=by simp[dj,AO.more,fk]
 rw[show dj (⟨l9,jH Lg o::(g9++own)⟩:St).objs= _ from e]at nd2
 refine⟨X.core,X.sub,?_,nd,λp hp=>X.objs p (.tail _ (bB _ hp)),(bO.mp nd2).1,λb hb=>X.apart b (.tail _ (by rw[show dj (⟨l9,jH Lg o::(g9++own)⟩:St).objs= _ from e];exact bB _ hb)),λy hp=>(nomatch hp),low⟩
 refine dW (hl) ?_;clear hl;rintro mm a b
 exact⟨mm,a h (by rw[e1,e2]),b⟩
theorem Holds.outer {s5:Shared} {H':HL} {σ':St} (X:Holds B.P B.G L F H ⟨l9,jH Lg o::(g9++own)⟩ s.heap) (Y:Holds B.P B.G Lg F' H' σ' s5.heap) (p:eC (Lg::dj g9) F s (Lg::dj σ'.objs) F' s5):
 ∃ o', (∃ mm,(∀ h:Heap,h.get? Lg=some o'->h.Ns Lg mm)/\∀ x d,(x,some d)∈σ'.loc->∃ v,mm x=some v/\Is B.P F' v d)/\
  Holds B.P B.G L F' H ⟨l9,jH Lg o'::(σ'.objs++own)⟩ s5.heap/\eC (L::dj (jH Lg o::(g9++own))) F s (L::dj (jH Lg o'::(σ'.objs++own))) F' s5:=by
 refine dW (Y.loc) ?_;rintro mm ⟨o',es,ep,e1,e2⟩ e3
 have e:∀ o (g:OL),dj (jH Lg o::(g++own))=(Lg::dj g)++dj own:=λo g=>by simp[dj,AO.more,fk]
 have nd:=X.nodup
 rw[show dj (⟨l9,jH Lg o::(g9++own)⟩:St).objs= _ from e o g9]at nd
 obtain⟨nL,nd2⟩:=cg.mp nd;refine ud (bO.mp nd2) ?_;rintro n1 n2 n3
 have there:∀ b∈L::dj own,∃ y,s.heap.get? b=some y:=λb hb=>X.there b (by
  refine(show dj (⟨l9,jH Lg o::(g9++own)⟩:St).objs= _ from e o g9)▸?_
  rcases fG hb with rfl | hb
  . exact .head _
  . exact .tail _ (bz _ hb))
 -- what the asker has is none of the generator's
 have apart:∀ b∈L::dj own,b∉Lg::dj g9:=λb hb hm=>by
  rcases fG hb with rfl | hb
  . exact nL (bB _ hm)
  . exact n3 b hm b hb rfl
 have apart':∀ b∈L::dj own,b∉Lg::dj σ'.objs:=λb hb hm=>by
  rcases p.own b hm with z | z
  . exact apart b hb z
  . obtain⟨y,hy⟩:=there b hb;rw[hy]at z;contradiction
 have keep:∀ b∈L::dj own,∀ y,s.heap.get? b=some y->s5.heap.get? b=some y:=λb hb y hy=>p.keep b y (apart b hb) hy
 have noF:∀ b∈L::dj own,F' b=none:=λb hb=>by
  induction q:F' b using Option.casesOn with
  | none=>rfl
  | some y=>
   rcases p.frz b y q with z | z | z
   . rw[X.apart b (by
      refine(show dj (⟨l9,jH Lg o::(g9++own)⟩:St).objs= _ from e o g9)▸?_
      rcases fG hb with rfl | hb
      . exact .head _
      . exact .tail _ (bz _ hb))]at z;contradiction
   . exact cI z (apart b hb)
   . obtain⟨y',hy⟩:=there b hb;rw[hy]at z;contradiction
 refine⟨o',⟨mm,λh eh=>⟨o',es,ep,eh,e2⟩,e3⟩,⟨Y.core,Y.sub,?_,X.names,λq hq=>?_,?_,λb hb=>?_,λq hq=>(X.held q hq).mono p.mono,X.low⟩,⟨λb y hb=>p.keep b y λhm=>hb ?_,λb hb=>?_,λb y h=>?_,p.mono,p.gens,p.os⟩⟩
 . refine dW (X.loc) ?_;rintro mL ⟨oL,esL,epL,l1,l2⟩ l3
   exact⟨mL,⟨oL,esL,epL,keep L dP _ l1,l2⟩,λx d hx=>let ⟨v,a,b⟩:=l3 x d hx;⟨v,a,b.mono p.mono⟩⟩
 . rcases fG hq with rfl | hq
   . exact⟨o',e1,rfl⟩
   . rcases cf.mp hq with hq | hq
     . exact Y.objs q hq
     . exact(X.objs q (.tail _ (bz _ hq))).move p.mono λb y hb=>keep b (.tail _ (ee.mpr ⟨q,hq,hb⟩)) y
 . show(L::dj (jH Lg o'::(σ'.objs++own))).Nodup
   rw[e];refine cg.mpr ⟨λhm=>?_,bO.mpr ⟨Y.nodup,n2,λa ha b hb q=>apart' b (.tail _ hb) (q▸ha)⟩⟩
   rcases cf.mp hm with hm | hm
   . exact apart' L dP hm
   . exact nL (bz _ hm)
 . rw[show dj (⟨l9,jH Lg o'::(σ'.objs++own)⟩:St).objs= _ from e o' σ'.objs]at hb
   rcases fG hb with rfl | hb
   . exact noF _ dP
   . rcases cf.mp hb with hb | hb
     . exact Y.apart b hb
     . exact noF b (.tail _ hb)
 . rw[e];exact .tail _ (bB _ hm)
 . rw[e]at hb
   rw[e]
   rcases fG hb with rfl | hb
   . exact .inl dP
   . rcases cf.mp hb with hb | hb
     . exact(p.own b hb).imp_left λh=>.tail _ (bB _ h)
     . exact .inl (.tail _ (bz _ hb))
 . rw[e]
   exact(p.frz b y h).imp_right (Or.imp_left λh=>.tail _ (bB _ h))
def Lz (B:dc) (m:Nat) (L Lg:Addr) (YJ:γ->AV->OL->Prop) (RJ:OL->Prop) (H:HL) (l9:LL) (own:OL) (O:cP) (F:Fz) (g:Nat) (s:Shared):List γ->cT->Shared->Prop
 | [],r,s'=>r=none/\∃ F' gb o',Holds B.P B.G L F' H ⟨l9,jH Lg o'::(gb++own)⟩ s'.heap/\eC O F (fin g s) (L::dj (jH Lg o'::(gb++own))) F' s'/\RJ gb
 | x::tr,r,s'=>∃ v d F' gb o' gs',r=some v/\Is B.P F' v d/\YJ x d gb/\Holds B.P B.G L F' H ⟨l9,jH Lg o'::(gb++own)⟩ s'.heap/\eC O F (fin g s) (L::dj (jH Lg o'::(gb++own))) F' (fin g s')/\s'.gens[g]? =some gs'/\vr B m Lg YJ RJ tr o' gb F' gs'
theorem ask {A:Around} {a:Addr} (hA:gn (m+1) A) (X:Holds B.P B.G L F H ⟨l9,jH Lg o::(g9++own)⟩ s.heap) (hg:s.heap.IsGen a g) (hgs:s.gens[g]? =some gs) (lv:vr B m Lg YJ RJ tr o g9 F gs):
 wpAny B.M A (pyNext (.ref a)) (Lz B m L Lg YJ RJ H l9 own (L::dj (jH Lg o::(g9++own))) F g s tr) (λw w=>False) s:=by
 obtain⟨⟨gc,hl,hn,wk⟩,low⟩:=lv;have X0:Holds B.P B.G L F H ⟨l9,jH Lg o::(g9++own)⟩ (s.setGen g .running).heap:=X
 have aZ:g < s.gens.size:=by by_cases q:g < s.gens.size;exact q;simp[q]at hgs
 have bc:(s.setGen g .running).gens[g]? =some .running:=by unfold Shared.setGen;simp[aZ]
 refine xC hA.handled (B.nolimit.keeps λb o e=>X.sub _ _ (X.core _ _ e)) (by have:=hA.depth;show A.depth < 1000;omega) hg hgs
  (wk A.in1 F (s.setGen g .running) ⟨hA.handled,by have:=hA.depth;show A.depth+m<=900;exact cy ‹_›,by have:=hA.units;show A.units+1+8*m<=9000;omega⟩ (X0.inner low hn hl)) λe s5 hq z=>?_
 induction tr using List.casesOn with
 | nil=>
  obtain⟨rfl,F',σ',Y,p,r⟩:=z;refine⟨rfl,λh' hk=>?_⟩
  refine jM (X0.outer Y p) ?_;rintro o' w X' p'
  have p'':=p'.fin bc
  rw[show fin g (s.setGen g .running)=fin g s from Shared.set_set s g _ _]at p''
  exact⟨rfl,F',σ'.objs,o',X'.grow hk,⟨λb y hb e=>hk _ _ (p''.keep b y hb e),p''.own,p''.frz,p''.mono,p''.gens,p''.os⟩,r⟩
 | cons x tr=>
  refine QB (z) ?_;clear z;rintro v g5 l k c pf ⟨fs,F',σ',d,rfl,Y,p,y,nx⟩
  refine jM (X0.outer Y p) ?_;rintro o' hl' X' p'
  have p'':=p'.fin bc
  rw[show fin g (s.setGen g .running)=fin g s from Shared.set_set s g _ _]at p''
  have h1:s5.gens[g]? =some .running:=p'.gens.keep _ _ bc
  have hY:g < s5.gens.size:=by by_cases q:g < s5.gens.size;exact q;simp[q]at h1
  refine⟨v,d,F',σ'.objs,o',(End.susp v g5 l k c pf fs).genState,rfl,Y.hold dP,y,X',?_,by unfold Shared.setGen;simp[hY],⟨⟨σ'.loc,hl',Y.names,λA0 F1 s7 hU X1=>nx A0 F1 s7 hU X1⟩,low⟩⟩
  rw[show fin g (s5.setGen g (End.susp v g5 l k c pf fs).genState)=fin g s5 from Shared.set_set s5 g _ _];exact p''
end
end
section
def un (g:Nat) (o:Obj):Prop:=o.cls=.type "generator"/\(∃ nm qn,o.data=.fields #[.int g 0,nm,qn])/\o.slots=#[]
theorem B5 (a:Array GenState) (x:GenState):gr a ((a.push x).setIfInBounds a.size .finished):=by
 refine⟨λi y e=>?_,λi y e=>?_⟩
 . have:i < a.size:=by by_cases q:i < a.size;exact q;simp[q]at e
   rw[Array.getElem?_setIfInBounds,cH (by exact Nat.ne_of_gt ‹_›),Array.getElem?_push,cH (by exact Nat.ne_of_lt ‹_›)];exact e
 . rw[Array.getElem?_setIfInBounds]at e
   by_cases q:a.size=i
   . subst q;simp at e;subst e;exact .inr rfl
   . rw[cH q,Array.getElem?_push,cH (λz=>q z.symm)]at e;exact .inl e
section
variable {B:dc} {n:Nat} {L:Addr} {H:HL} {l9:LL} {o8:OL}
theorem uh {F:Fz} {a:Addr} {g:Nat} {P:Params} {h:Heap} (x:Is P F (.ref a) (.obj (un g))) (sub:∀ b o,F b=some o->h.get? b=some o):h.IsGen a g:=
 jk (jq x) λy y q e p=>ud p λp1 p2 p3=>OT p2 λnm qn p2=>by cases q;exact⟨_,nm,qn,sub _ _ e,p1,p2,p3⟩
theorem zU {A:Around} {F:Fz} {s:Shared} {x C dx f:Addr} {fs:FL} {n5 qb:Str} {pj:Arguments} {b3:cM} {sf:Scope} {dV kV d7 pm c3 ct oc:Value} {an od:Option Addr} {ol:cY} {pB:Str} (hA:gn n A)
 (X : Holds B.P B.G L F H ⟨l9,o8⟩ s.heap) (mo:(x,AO.inst C dx fs)∈o8) (hi:findIn B.K (.ref C) "__iter__"=some (some (.ref f))) (hfn:isFn B.K (.ref f)=true)
 (ho : B.K.lookup f=some ⟨oc,od,.func (fnOf n5 qb pj b3 sf dV kV d7 pm an c3 ct),ol⟩) (ba:codeIn B.K c3 qb=true) (hb:fw B (fnOf n5 qb pj b3 sf dV kV d7 pm an c3 ct) [pB] [.ref x] [.ref x])
 (b8 : sf.names.lookup pB=some .local) (aT:autoParam (sf.isCoroutine=false) bR) (aQ:autoParam (sf.isGenerator=true) bR) (hk:autoParam (sf.kind=.function) bR) (aB:autoParam (∀ x∈sf.names,x.2≠.cell) bD):
 wpAny B.M A (pyIter (.ref x)) (λr s'=>∃ a g Lg o F',r=.ref a/\Holds B.P B.G L F' H ⟨l9,jH Lg o::o8⟩ s'.heap/\eC (L::dj o8) F s (L::dj (jH Lg o::o8)) F' (fin g s')/\Is B.P F' (.ref a) (.obj (un g))/\
  s'.gens[g]? =some (.fresh (.func b3 (envOf qb sf Lg f c3)))/\(∃ mm,(∀ h:Heap,h.get? Lg=some o->h.Ns Lg mm)/\∀ y d,(y,some d)∈[(pB,some (AV.ref x))]->∃ v,mm y=some v/\Is B.P F' v d)/\B.G.objs.size<=Lg) (λ_ _=>False) s:=by
 obtain⟨h1,es,k,h2,h3⟩:=X.objs _ mo;have I:InstAt s.heap x (instObj C dx) C (some (dictOf es k)):=⟨h1,rfl,rfl,h2⟩
 have spec:Looks B.M s.heap (specialOf (.ref x) "__iter__") (some (.ref f)):=I.type.andThen (looks_findIn X.K hi)
 have bnd:Looks B.M s.heap (bindSpecial (.ref f) (.ref x)) (.ref f,[.ref x]):=bind_fn X.K _ (beq_iff_eq.mp hfn)
 unfold pyIter;refine cC (spec.here ?_)
 refine cC ?_
 simp only[callSpecialIfBoundUnlessNone?,bindSpecialIfBound?]
 refine cu (cC (cC (spec.here ?_)))
 refine cC (wpAny_askSetting (wpAny_ite ?_))
 have nn:(Value.ref f==Value.none)=false:=by rfl
 have fin_:∀ (Q:cT->Shared->Prop) (refuse:Sem Value),wpAny B.M A (call (.ref f) [.ref x]) (λv=>Q (some v)) (λ_ _=>False) s->
  wpAny B.M A (if (Value.ref f==Value.none)=true then (refuse >>= λv=>pure (some v)) else (call (.ref f) [.ref x] >>= λv=>pure (some v))) Q (λ_ _=>False) s:=λQ refuse w=>by
  refine nn▸(cH bN)▸?_
  exact cC (cD w (λv s' z=>cE z) λ_ _ z=>z)
 have main:wpAny B.M A (call (.ref f) [.ref x]) (λv s'=>∃ a g Lg o F',v=.ref a/\Holds B.P B.G L F' H ⟨l9,jH Lg o::o8⟩ s'.heap/\eC (L::dj o8) F s (L::dj (jH Lg o::o8)) F' (fin g s')/\Is B.P F' (.ref a) (.obj (un g))/\
  s'.gens[g]? =some (.fresh (.func b3 (envOf qb sf Lg f c3)))/\(∃ mm,(∀ h:Heap,h.get? Lg=some o->h.Ns Lg mm)/\∀ y d,(y,some d)∈[(pB,some (AV.ref x))]->∃ v,mm y=some v/\Is B.P F' v d)/\B.G.objs.size<=Lg) (λ_ _=>False) s:=by
  refine dW (hb F s [.ref x] (.cons (.ref x) .nil) X.K X.core) ?_;rintro v7 hv aS
  obtain⟨v1,q1,rfl⟩:∃ v1,Is B.P F v1 (.ref x)/\v7=[v1]:=by obtain⟨v1,rfl,q1⟩:=BZ hv;exact⟨_,q1,rfl⟩
  have hlim:s.heap.NoLimit:=B.nolimit.keeps λb o e=>X.sub _ _ (X.core _ _ e)
  refine wpAny_call (codeAny_call_generator (body:=b3) (by have:=hA.depth;show A.depth < 1000;omega) (X.K _ _ ho) rfl aT aQ rfl (codeRec_of X.K ba) (aS _ _ _ _ ?_))
  refine wpAny_newFunctionEnv aB (λy hy=>by rcases bL.mp hy with rfl;exact b8) (λh6 hG hJ=>⟨hlim.fresh _ hJ,?_⟩) hk
  have hC:=eJ s.heap
  have up:∀ b o,s.heap.get? b=some o->h6.get? b=some o:=λb o e=>hJ.extBut b o (λz=>by rw[z,hC]at e;contradiction) (bw _ e)
  refine QE (hG) ?_;clear hG;rintro oL e7 ep l1 l2
  have T:dm B L H ⟨l9,o8⟩ F s { s with heap:=h6 } (λF' σ'=>F'=F/\σ'=⟨l9,jH s.heap.objs.size oL::o8⟩):=
   dm.track (o:=.is (·=oL)) X up (λb hb=>by refine(bL.mp hb)▸?_;exact hC) (by simp[AO.more]) ⟨oL,l1,rfl⟩ rfl rfl ⟨rfl,rfl⟩
  obtain⟨F0,a6,X0,p0,rfl,rfl⟩:=T;obtain⟨go,hgo⟩:∃ go:Obj,go={ cls:=.type "generator",data:=.fields #[.int s.gens.size 0,.str n5 (s.toks+([pB].zip [v1]).length),.str qb (s.toks+([pB].zip [v1]).length+1)] }:=⟨_,rfl⟩
  have pg:un s.gens.size go:=by subst hgo;exact⟨rfl,⟨_,_,rfl⟩,rfl⟩
  have hga:(h6.push go).get? h6.objs.size=some go:=bE _ (by subst hgo;rfl)
  obtain⟨X1,le⟩:=X0.frozen (h':=h6.push go) (λb o e=>bw _ e) (eJ h6) hga
  refine⟨h6.objs.size,s.gens.size,s.heap.objs.size,oL,F0.put h6.objs.size go,rfl,?_⟩
  refine⟨by rw[hgo]at X1 |-;exact X1,⟨λb o hb e=>bw _ (p0.keep b o hb e),p0.own,λb o e=>?_,p0.mono.trans le,B5 _ _,rfl⟩,.obj (Fz.put_self ..) pg,?_,⟨_,λh e=>⟨oL,e7,ep,e,l2⟩,λy d hy=>?_⟩,X.big⟩
  . unfold Fz.put at e
    split at e
    . rename_i z
      refine .inr (.inr ?_)
      refine z▸?_
      induction w:s.heap.get? h6.objs.size using Option.casesOn with
      | none=>rfl
      | some o=>have:=up _ _ w;rw[eJ h6]at this;contradiction
    . exact p0.frz b o e
  . show(s.gens.push _)[s.gens.size]? =some _
    rw[Array.getElem?_push_size];rfl
  . rcases bL.mp hy with e
    cases e
    exact⟨v1,by simp,q1.mono le⟩
 split
 . refine cC (bnd.here (cE (fin_ _ _ (cD main (λv s' z=>?_) λ_ _ z=>z))))
   refine Qx (z) ?_;clear z;rintro a g Lg o F' rfl X' r
   exact cC (wpAny_specialOf (uh r.2.1 X'.sub).typeIs slot_gen_next.lookup (cE ⟨a,g,Lg,o,F',rfl,X',r⟩))
 . refine wpAny_tryCatch (cC (bnd.here (cE (fin_ _ _ (cD main (λv s' z=>?_) λ_ _ z=>z.elim)))))
   refine Qx (z) ?_;clear z;rintro a g Lg o F' rfl X' r
   exact cC (wpAny_specialOf (uh r.2.1 X'.sub).typeIs slot_gen_next.lookup (cE ⟨a,g,Lg,o,F',rfl,X',r⟩))
end
end
section
section
variable {γ:Type} {B:dc} {m n:Nat} {L:Addr} {YJ:γ->AV->OL->Prop} {RJ:OL->Prop} {tr:List γ} {H:HL} {e5:Env} {own:OL} {fi:γ->AV}
end
end
section
section
variable {γ:Type} {B:dc} {m n:Nat} {L:Addr} {YJ:γ->AV->OL->Prop} {RJ:OL->Prop} {tr:List γ} {H:HL} {e5:Env} {σ:St}
def kD (B:dc) (n m:Nat) (x:Addr) (g9:OL) (YJ:γ->AV->OL->Prop) (RJ:OL->Prop) (tr:List γ):Prop:=
 ∀ A F s L H l9 own,gn n A->Holds B.P B.G L F H ⟨l9,g9++own⟩ s.heap->wpAny B.M A (pyIter (.ref x)) (λr s'=>∃ a g Lg o F' gs,r=.ref a/\Holds B.P B.G L F' H ⟨l9,jH Lg o::(g9++own)⟩ s'.heap/\
  eC (L::dj (g9++own)) F s (L::dj (jH Lg o::(g9++own))) F' (fin g s')/\Is B.P F' (.ref a) (.obj (un g))/\s'.gens[g]? =some gs/\vr B m Lg YJ RJ tr o g9 F' gs) (λy y=>False) s
theorem kD.of {x C dx f:Addr} {fs:FL} {g9:OL} {n5 qb:Str} {pj:Arguments} {b3 b5:cM} {sf sh:Scope} {dV kV d7 pm c3 ct oc:Value} {an od:Option Addr} {ol:cY} {pB:Str}
 (ho:B.K.lookup f=some ⟨oc,od,.func (fnOf n5 qb pj b3 sf dV kV d7 pm an c3 ct),ol⟩) (mo:(x,AO.inst C dx fs)∈g9) (hi:findIn B.K (.ref C) "__iter__"=some (some (.ref f))) (hfn:isFn B.K (.ref f)=true)
 (ba:codeIn B.K c3 qb=true) (hb:fw B (fnOf n5 qb pj b3 sf dV kV d7 pm an c3 ct) [pB] [.ref x] [.ref x])
 (hw:∀ Lg,GW B m Lg YJ RJ (.func b5 (envOf qb sh Lg f c3)) [] (B.M.den (.func b5 (envOf qb sh Lg f c3))) tr ⟨[(pB,some (.ref x))],g9⟩)
 (eb:autoParam (b3=b5) bC) (es:autoParam (sf=sh) bC)
 (b8:autoParam (sh.names.lookup pB=some .local) bR) (aT:autoParam (sh.isCoroutine=false) bR) (aQ:autoParam (sh.isGenerator=true) bR) (hk:autoParam (sh.kind=.function) bR) (aB:autoParam (∀ x∈sh.names,x.2≠.cell) bD):kD B n m x g9 YJ RJ tr:=λA F s L H l9 own hA X=>by
 subst eb es
 refine cD (zU hA X (bB _ mo) hi hfn ho ba hb b8 aT aQ hk aB) (λr s' z=>?_) λy y z=>z
 refine R8 (z) ?_;clear z;rintro a g Lg o F' rfl X' p ⟨ga,hg,hl,low⟩
 exact⟨a,g,Lg,o,F',_,rfl,X',p,ga,hg,⟨⟨_,hl,by simp,λA0 F1 s7 hU X1=>(hw Lg).run A0 F1 s7 hU X1⟩,low⟩⟩
end
end
section
def oD (ns:List Int) (o:Obj):Prop:=o.cls=.type "list"/\∃ vs n,o.data=.seq vs.toArray n/\IntsAre vs ns
theorem zl {P:Params} {F:Fz} {vs:cO} {ns:List Int} (h:IntsAre vs ns):IsAll P F vs (ns.map .int):=by
 induction h with
 | nil=>exact .nil
 | cons n t _ ih=>exact .cons (.int n t) ih
section
variable {B:dc} {n:Nat} {L:Addr} {H:HL} {σ:St} {e5:Env}
theorem tM {v6 hi:Expr} {p pi} {Φ:PV}
 (h:WV B n L (eval v6 e5) H σ λo d a6=>WV B n L (eval hi e5) ((o,d)::H) a6 λx du a9=>∃ ns j,d=.obj (oD ns)/\du=.int j/\0<=j/\ns.length<=16777216/\∀ v,Φ v (.lst ((ns.take j.toNat).map .int)) a9)
 (hs:∀ o i,∃ ops,subscripted (.Slice none (some hi) none p) false o i=operate ops (getItem o i):=by intro x x;exact⟨_,rfl⟩) (ht:∀ l r,letTemporaryGo v6 (.ref l) r=pure ():=by intro x x;with_unfolding_all rfl):
 WV B n L (eval (.Subscript v6 (.Slice none (some hi) none p) pi) e5) H σ Φ:=kK λA F s Q hA X fq=>by
 rw[eval_Subscript];refine cC (h.then hA X λo s5 F0 a6 x0 p0 z=>dW z λd hd w8=>?_)
 refine cC (cu (wpAny_Slice (cE (w8.then hA (x0.push hd) λu s6 F2 aa x4 p6 z=>?_))))
 refine dW z ?_;clear z;rintro du hdu z;refine R7 z ?_;clear z;rintro ns j rfl rfl hj hz q
 refine cE (cC (wpAny_standAt ?_))
 obtain⟨tj,rfl⟩:=dw hdu;obtain⟨l,o',rfl,e1,e2,vs,m,e3,e4⟩:∃ l o',o=.ref l/\F2 l=some o'/\o'.cls=.type "list"/\∃ vs n,o'.data=.seq vs.toArray n/\IntsAre vs ns:=by
  exact jq (x4.hold dP)
 have hl:s6.heap.IsList l vs.toArray:=⟨o',x4.sub _ _ e1,e2,m,e3⟩
 obtain⟨ops,hs⟩:=hs (.ref l) (.ref s6.heap.objs.size);refine subscriptTail_ops (Heap.IsList.typeIs (s:={ s6 with heap:=s6.heap.push { cls:=.type "slice",data:=.fields #[.none,.int j tj,.none] } }) (hl.push _)) list_getitem_lookup
  (wpAny_getItem_list_slice (lo:=none) (hi:=some j) (st:=none) (hl.push _) (Heap.IsSliceOf.new ..) .none (.int j tj) .none (by simp) ?_ (by rw[dY,List.size_toArray,e4.length];exact hz)) hs (ht l)
 have i4:=slice_ints_uptoW e4 hj
 have e:({ cls:=.type "list",data:=.seq (slicePick vs.toArray none (some j) none) }:Obj)=dZ (slicePick vs.toArray none (some j) none).toList 0:=by simp[dZ]
 rw[e];have x7:=x4.weaken (H':=H) λp hp=>.tail _ hp
 have hn:s6.heap.get? (s6.heap.push { cls:=.type "slice",data:=.fields #[.none,.int j tj,.none] }).objs.size=none:=by
  induction w:s6.heap.get? (s6.heap.push { cls:=.type "slice",data:=.fields #[.none,.int j tj,.none] }).objs.size using Option.casesOn with
  | none=>rfl
  | some y=>have:=cz w;rw[Heap.size_push]at this;exact cI this (Nat.not_lt.mpr (Nat.le_succ _))
 obtain⟨F3,ab,x5,p7,hF,rfl⟩:=dm.fresh (B:=B) (L:=L) (H:=H) (σ:=aa) (F:=F2) (s:=s6) (s':={ s6 with heap:=(s6.heap.push { cls:=.type "slice",data:=.fields #[.none,.int j tj,.none] }).push (dZ (slicePick vs.toArray none (some j) none).toList 0) })
  (Ψ:=λF' σ'=>F'=F2.put (s6.heap.push { cls:=.type "slice",data:=.fields #[.none,.int j tj,.none] }).objs.size (dZ (slicePick vs.toArray none (some j) none).toList 0)/\σ'=aa) x7 (λb o e=>bw _ (bw _ e)) hn (bE _ rfl) rfl rfl λle=>⟨rfl,rfl⟩
 subst hF;exact fq _ _ ⟨_,ab,x5,p0.trans (p6.trans p7),_,.lst (Fz.put_self ..) (zl i4),q _⟩
end
end
section
theorem Ee {pn:Program} {w:World} {K:Frag} {s5:Shared} {mg mb:Str->cT} {x:Str} {fa fl l:Addr} {vs:cO} {ns:List Int} {n:Nat} {Q:Result->Shared->Prop}
 (KX :K.In s5.heap) (hmg:mg x=some (.ref fa)) (g:s5.heap.Ns mainGlobals mg) (b:s5.heap.Ns builtinsNs mb) (hb:∀ x,x≠("__name__":Str)->mb x=bootBuiltins x) (nl:s5.heap.NoLimit) (e:nsIn K mainGlobals x=some (some (.ref fl)))
 (hL :s5.heap.IsList l vs.toArray) (hI:IntsAre vs ns) (hg:s5.gens=#[]) (hn:n<=500)
 (c :∀ B:dc,B.prog=pn->B.w=w->B.K=K->de B n fl [.obj (oD ns)] [] λd u=>d=.bool true)
 (hQ :∀ s',(∀ b o,s5.heap.get? b=some o->s'.heap.get? b=some o)->s'.os=s5.os->AllBare s'.gens->Q (.ok (.ret (.bool true))) s'):
 codeAny (model pn w) callerA (.call (.ref fa) ⟨[.ref l],[]⟩) Q s5:=by
 have ef:=mg_of KX g e
 obtain rfl:=Value.ref.inj (Option.some.inj (hmg.symm.trans ef))
 let B:dc:=⟨pn,w,s5.heap,K,KX,⟨mg,g⟩,⟨mb,b,hb⟩,nl⟩
 refine jM (hL) ?_;clear hL;rintro o ho hc ⟨m,hd⟩
 have hA:gn n callerA:=by
  refine⟨rfl,?_,?_⟩
  . have:callerA.depth=301:=by decide+kernel
    rw[this];omega
  . show 4+8*n<=9000;omega
 refine codeAny_mono (c B rfl rfl rfl callerA (s5.heap.get? ·) s5 [.ref l] hA ⟨λu u e=>e,λu u e=>e,(λp hp=>nomatch hp),List.nodup_nil,(λb hb=>nomatch hb),cB _⟩ (.cons (.obj ho ⟨hc,vs,m,hd,hI⟩) .nil)) λr s' z=>?_
 obtain⟨v,d,o3,F',rfl,hv,x,p,rfl⟩:=z;have:v=.bool true:=by cases hv;rfl
 subst this;refine hQ s' (λb o e=>p.keep b o (λh=>nomatch h) e) p.os λy hy=>?_
 obtain⟨i,hi,e⟩:=Array.getElem_of_mem hy
 rcases p.gens.bare i y (by rw[Array.getElem?_eq_getElem hi,e])with z | z
 . rw[hg]at z;simp at z
 . exact z
end
section
section
variable {B:dc} {n:Nat} {L:Addr} {H:HL} {σ:St} {e5:Env}
end
end
section
variable {A:Around} {s:Shared} {l b:Addr}
def wP (pn:Program) (w:World) (A:Around) (s:Shared) (v y:Value):Prop:=∀ (E:Value->Shared->Prop) (Q:Bool->Shared->Prop),Q true s->wpAny (model pn w) A (eqBool v y) Q E s
section
variable {pn:Program} {w:World}
theorem wP.of {v y:Value} (h:SeqAt.EqAt A s v y true):wP pn w A s v y:=λE Q q=>h pn w E Q q
theorem wP.refs (h:∀ (E:Value->Shared->Prop) (Q:Value->Shared->Prop),Q (.bool true) s->wpAny (model pn w) A (richCompare .Eq (.ref l) (.ref b)) Q E s):wP pn w A s (.ref l) (.ref b):=λE Q q=>by
 by_cases e:l=b
 . subst e;exact SeqAt.EqAt.same _ pn w E Q q
 . unfold eqBool
   refine cu ?_
   refine wpAny_ite_split (λhab=>cI (by have:=cF hab;injection this) e) (λy=>?_)
   exact cC (h E _ (wpAny_truthy_bool q))
theorem BP {items items2:Array Value} {n n2:Nat} {dd dd2:Option Addr} {sl sl2:cY} (aZ:items.size=items2.size) (k:Nat):
 ∀ i:Nat,items.size - i=k->∀ (A:Around) (R:Result->Shared->Prop) (s:Shared),s.heap.get? l=some { cls:=.type "list",dict:=dd,data:=.seq items n,slots:=sl }->s.heap.get? b=some { cls:=.type "list",dict:=dd2,data:=.seq items2 n2,slots:=sl2 }->
  (∀ j (h1:j < items.size) (h2:j < items2.size),wP pn w A.in1 s items[j] items2[j])->R (.ok (.ret (.bool true))) s->
  wpAny (model pn w) A.in1 (Builtin.«list.__eq__.loop» ⟨[.ref l,.ref b,rawInt i,rawInt 2],[]⟩) (λfin s'=>match fin with | .done f=>R (.ok f) s' | .again c'=>c'.quiet=true/\codeAny (model pn w) A c' R s') (λe s'=>R (.error e) s') s:=by
 induction k with
 | zero=>
  intro i hk A R s hl hb he h;obtain⟨hp,g,d,tk,os⟩:=s
  wp_walk using AutoSeq1.wpAny_loadPart' hl,AutoSeq1.wpAny_loadPart' hb
  have hi1:items[((i:Nat):Int).toNat]? =none:=by simp;omega
  have hi2:items2[((i:Nat):Int).toNat]? =none:=by simp;omega
  rw[hi1,hi2]
  wp_walk using AutoSeq1.wpAny_loadPart' hl,AutoSeq1.wpAny_loadPart' hb
  show R (.ok (.ret (.bool (items.size==items2.size)))) _
  rw[aZ]
  simpa using h
 | succ k ih=>
  intro i hk A R s hl hb he h;obtain⟨hp,g,d,tk,os⟩:=s
  wp_walk using AutoSeq1.wpAny_loadPart' hl,AutoSeq1.wpAny_loadPart' hb
  have aG:i < items.size:=by omega
  have hlt2:i < items2.size:=by omega
  have hi1:items[((i:Nat):Int).toNat]? =some items[i]:=by simp[aG]
  have hi2:items2[((i:Nat):Int).toNat]? =some items2[i]:=by simp[hlt2]
  have hc:((i:Int)+1)=((i+1:Nat):Int):=by push_cast;rfl
  rw[hi1,hi2];refine cC (he i aG hlt2 _ _ ?_)
  wp_walk
  rw[hc];exact⟨plainId_quiet MeetsSeq3.plain_eq_loop _,codeAny_builtin MeetsSeq3.entry_eq_loop (by
   rw[Around.under_plainId MeetsSeq3.plain_eq_loop _];exact ih (i+1) (by omega) A R _ hl hb he h)⟩
theorem rW {E:Value->Shared->Prop} {items items2:Array Value} {Q:Value->Shared->Prop} (hl:s.heap.IsList l items) (hb:s.heap.IsList b items2) (aZ:items.size=items2.size) (hu:A.units < cLine)
 (he:∀ j (h1:j < items.size) (h2:j < items2.size),wP pn w A.in1 s items[j] items2[j]) (h:Q (.bool true) s):wpAny (model pn w) A (richCompare .Eq (.ref l) (.ref b)) Q E s:=by
 refine jM (id hl) ?_;rintro ⟨cls,dd,data,sl⟩ ho hc ⟨n,hd⟩
 refine jM (id hb) ?_;rintro ⟨cls2,dd2,data2,sl2⟩ ho2 hc2 ⟨n2,hd2⟩
 simp only at hc hd hc2 hd2
 subst hc hd hc2 hd2
 have f3:=AutoSeq1.sub_list_list
 have hne:¬ (items.size !=items2.size)=true:=by simp[aZ]
 have hT:s.TypeIs (.ref l) "list":=⟨_,ho,rfl⟩
 refine wpAny_richCompare_same_room (op:=.Eq) hT ⟨_,ho2,rfl⟩ F.slot_list_eq (wpAny_call (codeAny_call_builtin F.slot_list_eq.plain F.entry_list_eq (F.slot_list_eq.check _ _ _ _ _ _ _ _ hT (F.args_list_eq_2 _ _) ?_))) hu
 obtain⟨hp,g,d,tk,os⟩:=s
 wp_walk using AutoSeq1.wpAny_loadPart' ho,AutoSeq1.wpAny_loadPart' ho2
 exact⟨plainId_quiet MeetsSeq3.plain_eq_loop _,codeAny_builtin MeetsSeq3.entry_eq_loop (by
  rw[Around.under_plainId MeetsSeq3.plain_eq_loop _];exact BP aZ _ 0 rfl A (wants (λv s'=>v≠.notImplemented/\Q v s') E) _ ho ho2 he ⟨(λx=>nomatch x),h⟩)⟩
end
end
section
noncomputable def Fb:AV->Bool
 | .none=>true | .bool _=>true | .int _=>true | .str _=>true | _=>false
theorem Cv {P:Params} {F:Fz} {A:Around} {s:Shared} {v y:Value} {d:AV} (h:Is P F v d) (k:Is P F y d) (f:Fb d=true):SeqAt.EqAt A s v y true:=by
 induction d using AV.casesOn with
 | none=>exact(gC h).symm▸(gC k).symm▸SeqAt.EqAt.same _
 | bool b=>exact(m8 h).symm▸(m8 k).symm▸SeqAt.EqAt.same _
 | int i=>
  obtain⟨t,rfl⟩:=dw h;obtain⟨u,rfl⟩:=dw k;exact bZ i▸SeqAt.EqAt.int_int (A:=A) (s:=s) i t i u
 | str l=>
  obtain⟨t,rfl⟩:=dD h;obtain⟨u,rfl⟩:=dD k;exact bZ (S l)▸SeqAt.EqAt.str_str (A:=A) (s:=s) (S l) t (S l) u
 | _=>exact Bool.noConfusion f
theorem lD {l:FL} (nd:(l.map (·.1)).Nodup) {p:Str×AV} (hp:p∈l):eF p.1 l=some p.2:=by
 induction l with
 | nil=>contradiction
 | cons q r ih=>
  rw[cv,cg]at nd
  unfold eF;rw[List.find?_cons]
  rcases fG hp with rfl | hp
  . simp
  . have:(q.1==p.1)=false:=beq_eq_false_iff_ne.mpr λe=>nd.1 (e▸List.mem_map_of_mem hp)
    exact(this)▸(ih nd.2 hp)
section
variable {pn:Program} {w:World} {F:Fz} {A:Around} {s:Shared}
end
section
variable {B:dc} {n:Nat} {L:Addr} {H:HL} {σ:St} {e5:Env}
end
end
section
section
variable {γ:Type} {B:dc} {m n:Nat} {L:Addr} {H:HL} {e5:Env} {σ:St}
theorem zs {a b:Value} {i j k l:Int} {Φ:PV} (ma:(a,.tup [.int i,.int j])∈H) (mb:(b,.tup [.int k,.int l])∈H) (h:∀ v,Φ v (.bool (i==k&&j==l)) σ):WV B n L (compareOp .Eq a b) H σ Φ:=
 zm ma mb rfl rfl (by simp[SeqAt.shaped,PyData.canLay0,PyData.canLayAll0,PyData.depth,PyData.depthAll]) (by simp[SeqAt.shaped,PyData.canLay0,PyData.canLayAll0,PyData.depth,PyData.depthAll]) (by simp[PyData.eqv,PyData.eqvAll]) h
end
end
section
section
variable {pn:Program} {w:World}
theorem xU {A:Around} {E:Value->Shared->Prop} {s:Shared} {l b:Addr} {items items2:Array Value} {Q:Value->Shared->Prop} (hl:s.heap.IsTuple l items) (hb:s.heap.IsTuple b items2) (aZ:items.size=items2.size) (hu:A.units < cLine)
 (he :∀ j (h1:j < items.size) (h2:j < items2.size),wP pn w A.in1 s items[j] items2[j]) (h:Q (.bool true) s):wpAny (model pn w) A (richCompare .Eq (.ref l) (.ref b)) Q E s:=by
 refine jM (id hl) ?_;rintro ⟨cls,dd,data,sl⟩ ho hc ⟨n,hd⟩
 refine jM (id hb) ?_;rintro ⟨cls2,dd2,data2,sl2⟩ ho2 hc2 ⟨n2,hd2⟩
 simp only at hc hd hc2 hd2
 subst hc hd hc2 hd2
 have f2:=AutoSeq1.sub_tuple_tuple
 have hT:s.TypeIs (.ref l) "tuple":=⟨_,ho,rfl⟩
 refine wpAny_richCompare_same_room (op:=.Eq) hT ⟨_,ho2,rfl⟩ F.slot_tuple_eq (wpAny_call (codeAny_call_builtin F.slot_tuple_eq.plain F.entry_tuple_eq (F.slot_tuple_eq.check _ _ _ _ _ _ _ _ hT (F.args_tuple_eq_2 _ _) ?_))) hu
 obtain⟨hp,g,d,tk,os⟩:=s;have hZ:(items.toList.zip items2.toList).length=min items.size items2.size:=by simp
 have main:wpAny (model pn w) A.in1 (Builtin.«tuple.__eq__» ⟨[.ref l,.ref b],[]⟩) (λfin s'=>∃ v,fin=.done (.ret v)/\(v≠.notImplemented/\Q v s')) (λe s'=>E e s') ⟨hp,g,d,tk,os⟩:=by
  wp_walk using AutoSeq1.wpAny_loadPart' ho,AutoSeq1.wpAny_loadPart' ho2,wpAny_forIn_list _ (λr8 b s'=>b.1=none/\s'=⟨hp,g,d,tk,os⟩/\∃ i,r8=(items.toList.zip items2.toList).drop i) _
  case turn=>
   rintro ⟨y,x⟩ r8 b s' ⟨hb',rfl,i,hz⟩;have aG:i < (items.toList.zip items2.toList).length:=by
    rcases Nat.lt_or_ge i (items.toList.zip items2.toList).length with h' | h'
    . exact h'
    . rw[List.drop_of_length_le h']at hz;contradiction
   have hm:i < min items.size items2.size:=hZ▸aG
   have h1:i < items.size:=sv hm (Nat.min_le_left _ _)
   have h2:i < items2.size:=sv hm (Nat.min_le_right _ _)
   rw[List.drop_eq_getElem_cons aG]at hz
   injection hz with hyx hrest
   have hy:y=items[i]:=by have:=cG Prod.fst hyx;simpa using this
   have hx:x=items2[i]:=by have:=cG Prod.snd hyx;simpa using this
   subst hy hx
   refine cC (he i h1 h2 _ _ ?_)
   wp_walk
   exact⟨rfl,rfl,i+1,hrest⟩
  case fin=>
   rintro ⟨b1,b2⟩ s' ⟨hb',rfl,i,hz⟩;simp only at hb'
   subst hb'
   wp_walk
   refine⟨_,rfl,?_⟩
   have:Builtin.Tuple.tupleCompareSizes .Eq items.size items2.size=.bool true:=by rw[aZ];simp[Builtin.Tuple.tupleCompareSizes]
   first
    | (exact(this)▸(⟨(λx=>nomatch x),h⟩))
    | (simp only[aZ,Builtin.Tuple.tupleCompareSizes,bZ];exact⟨(λx=>nomatch x),h⟩)
  case h=>
   exact⟨rfl,rfl,0,rfl⟩
 refine cD main (λfin s' z=>?_) λu u z=>z
 refine dW (z) ?_;clear z;rintro v rfl q
 exact q
end
end
section
section
variable {pn:Program} {w:World} {A:Around} {E:Value->Shared->Prop} {s:Shared}
inductive kh (pn:Program) (w:World) (A:Around) (s:Shared) (kb:cX):cX->Prop
 | nil:kh pn w A s kb []
 | cons {k:Str} {v y:Value} {r:cX}:valueAt kb k=some y->wP pn w A s v y->kh pn w A s kb r->kh pn w A s kb ((k,v)::r)
theorem vn {nm:String} {a b:Addr} {ka kb:cX} {Q:Bool->Shared->Prop} (ha:(a==sysModules)=false) (hb:(b==sysModules)=false)
 (da :s.heap.DictOf (strKind pn w) a ka) (db:s.heap.DictOf (strKind pn w) b kb) (aE:ka.length=kb.length) (hits:kh pn w A s kb ka) (h:Q true s):
 wpAny (model pn w) A (Builtin.Dict.samePairs nm a b) Q E s:=by
 refine Q6 (da) ?_;clear da;rintro oa es ep hoa z hda be hpa z
 refine Q6 (db) ?_;clear db;rintro ob e7 ep' hob z hdb hkb hpb z
 have hla:ka.length=es.size:=by rw[<-hpa.length];exact Array.length_toList
 have hlb:kb.length=e7.size:=by rw[<-hpb.length];exact Array.length_toList
 have aZ:es.size=e7.size:=by omega
 have hfind:∀ k,findBy (strKind pn w).is e7 k=valueAt kb k:=λk=>by
  rw[<-hpb.find k];clear hlb hpb hkb hdb hob aZ;obtain⟨l⟩:=e7;simp[findBy]
 unfold Builtin.Dict.samePairs Builtin.Dict.showsAll;rw[cH (show ¬ (a==sysModules)=true by rw[ha];exact bN),cH (show ¬ (b==sysModules)=true by rw[hb];exact bN)]
 refine cC (cE (cC (cE ?_)))
 refine cC (wpAny_dictEntries hoa hda ?_)
 dsimp only;refine cC (wpAny_dictEntries hob hdb ?_)
 rw[cH (by rw[aZ];simp)]
 refine cC (wpAny_dictEpoch hoa hda ?_)
 refine cC ?_
 rw[Std.Legacy.Range.forIn_eq_forIn_range'];simp only[Std.Legacy.Range.size,Nat.sub_zero,Nat.add_sub_cancel,Nat.div_one]
 refine wpAny_forIn_list _ (λr8 q s'=>s'=s/\q=(none,())/\∃ i,r8=List.range' i (es.size - i)/\i<=es.size/\kh pn w A s kb (ka.drop i)) _ ?_ ?_ _ _ ⟨rfl,rfl,0,by rfl,cA _,hits⟩
 . intro x r8 q s' z9;refine ud z9 ?_;clear z9;rintro rfl rfl ⟨i,hr,hi,hpre⟩
   have aG:i < es.size:=by
    rcases Nat.lt_or_ge i es.size with h | h
    . exact h
    . rw[Nat.sub_eq_zero_of_le h]at hr;simp at hr
   obtain⟨rfl,hrest⟩:x=i/\r8=List.range' (i+1) (es.size - (i+1)):=by
    have e:es.size - i=(es.size - (i+1))+1:=by omega
    rw[e,List.range'_succ]at hr
    injection hr with h1 h2
    exact⟨h1,h2⟩
   refine cC (wpAny_dictEntries hoa hda ?_)
   rw[Array.getElem?_eq_getElem aG];have hlt':x < ka.length:=by rw[hla];exact aG
   refine OT (show ∃ k v,ka[x]=(k,v)from⟨_,_,rfl⟩) ?_;rintro k v hkv
   have hdrop:ka.drop x=(k,v)::ka.drop (x+1):=by rw[<-hkv];exact List.drop_eq_getElem_cons hlt'
   obtain⟨hkey,hval⟩:=hpa.get? (i:=x) (e:=es[x]) (k:=k) (v:=v) (by rw[Array.getElem?_toList];exact Array.getElem?_eq_getElem aG) (by rw[bq hlt',hkv])
   refine dW (be es[x] (Array.getElem_mem aG)) ?_;rintro k' hk' hh
   have ekk:k'=k:=(strKind pn w).inj _ _ _ hk' hkey
   rw[ekk]at hh
   rw[hdrop]at hpre
   show wpAny _ _ (holding [es[x].key,es[x].val] _ >>= _) _ _ _
   rw[hh];refine cC (cu (cC (wpAny_dictFind_of hkey hob hdb hkb ?_)))
   cases hpre with
   | @cons _ _ y _ hy he hrr=>
   induction hj:e7.findIdx? λe=>(strKind pn w).is k e.key using Option.casesOn with
   | none=>
    have hn:valueAt kb k=none:=by rw[<-hfind k,findBy_of_findIdx?,hj]
    rw[hn]at hy;exact nomatch hy
   | some j=>
    refine dW (Array.findIdx?_eq_some_iff_getElem.mp hj) ?_;rintro hjlt z z
    have hv':valueAt kb k=some e7[j].val:=by
     rw[<-hfind k,findBy_of_findIdx?,hj];simp[Array.getElem?_eq_getElem hjlt]
    refine cC (wpAny_dictEntries hob hdb ?_)
    rw[Array.getElem?_eq_getElem hjlt];have ey:e7[j].val=y:=Option.some.inj (hv'.symm.trans hy)
    rw[<-ey,<-hval]at he
    refine cu (he _ _ ?_)
    show wpAny _ _ (if (!true)=true then _ else _) _ _ _
    rw[cH (by decide)];refine cC (wpAny_dictEpoch hoa hda ?_)
    rw[cH (by simp)];exact cE ⟨rfl,rfl,x+1,hrest,aG,hrr⟩
 . intro q s' z9;refine ud z9 ?_;clear z9;rintro rfl rfl ⟨i,hr,hi,hpre⟩
   refine cE ?_
   exact h
theorem Ap {a b:Addr} {ka kb:cX} {Q:Value->Shared->Prop} (ha:(a==sysModules)=false) (hb:(b==sysModules)=false)
 (da:s.heap.DictOf (strKind pn w) a ka) (db:s.heap.DictOf (strKind pn w) b kb) (hu:A.units < cLine) (aE:ka.length=kb.length) (hits:kh pn w A.in1 s kb ka) (h:Q (.bool true) s):
 wpAny (model pn w) A (richCompare .Eq (.ref a) (.ref b)) Q E s:=by
 refine wpAny_richCompare_same_room (op:=.Eq) da.typeIs db.typeIs PySem.F.slot_dict_eq (wpAny_call_entry PySem.F.slot_dict_eq da.typeIs PySem.F.entry_dict_eq ?_ (PySem.F.args_dict_eq_2 _ _)) hu
 refine cC ?_
 unfold Builtin.Dict.dictSlotArgs;refine cC (wpAny_notOrdered_dict da.typeIs ?_)
 refine cE ?_
 refine cC (wpAny_isInstance (T:="dict") db.typeIs PySem.F.sub_dict_dict ?_)
 simp only[Bool.not_true,Bool.false_eq_true,if_false]
 refine cC (cE (cC (cE ?_)))
 refine cC (vn ha hb da db aE hits ?_)
 refine cE ⟨_,rfl,?_,?_⟩
 . exact λx=>nomatch x
 . simpa using h
end
inductive gz:Nat->AV->Prop
 | none {n}:gz n .none
 | bool {n b}:gz n (.bool b)
 | int {n i}:gz n (.int i)
 | str {n l}:gz n (.str l)
 | tup {n l}:(∀ d∈l,gz n d)->gz (n+1) (.tup l)
 | lst {n l}:(∀ d∈l,gz n d)->gz (n+1) (.lst l)
 | dct {n l}:(∀ p∈l,gz n p.2)->gz (n+1) (.dct l)
section
variable {pn:Program} {w:World} {F:Fz} {s:Shared}
theorem IsAll.get {P:Params} {vs:cO} {l:cL} (h:IsAll P F vs l) {j:Nat} (hj:j < l.length) (h1:j < vs.length):Is P F vs[j] l[j]:=by
 refine dW (mh.nth h (k:=j) (d:=l[j]) (by simp[hj])) ?_;rintro v e q
 have:vs[j]=v:=by rw[bq h1]at e;exact Option.some.inj e
 exact(this)▸(q)
theorem DG (sub:∀ b o,F b=some o->s.heap.get? b=some o):∀ (n:Nat) {d:AV},gz n d->∀ {A:Around} {v y:Value},Is w.params F v d->Is w.params F y d->A.units+2*n < cLine->wP pn w A s v y:=by
 have leaf :∀ {d:AV} {A:Around} {v y:Value},Fb d=true->Is w.params F v d->Is w.params F y d->wP pn w A s v y:=λf h k=>wP.of (Cv h k f)
 intro n
 induction n with
 | zero =>
  intro d hf A v y h k hu
  cases hf with
  | none => exact leaf rfl h k
  | bool => exact leaf rfl h k
  | int => exact leaf rfl h k
  | str => exact leaf rfl h k
 | succ n ih=>
  intro d hf A v y h k hu
  cases hf with
  | none => exact leaf rfl h k
  | bool => exact leaf rfl h k
  | int => exact leaf rfl h k
  | str => exact leaf rfl h k
  | @tup _ l f=>
   refine kI (iy h) ?_;rintro a vs m rfl h1 h2
   refine kI (iy k) ?_;rintro b us m' rfl k1 k2
   have e1 :=h2.length
   have e2 :=k2.length
   refine wP.refs λE Q q=>xU (items:=vs.toArray) (items2:=us.toArray) ⟨_,sub _ _ h1,rfl,m,rfl⟩ ⟨_,sub _ _ k1,rfl,m',rfl⟩ (by simp;omega) (by omega) (λj j1 j2=>?_) q
   have hj :j < l.length:=by simp at j1;omega
   have g1 :=h2.get hj (by simpa using j1)
   have g2 :=k2.get hj (by simpa using j2)
   simp only[List.getElem_toArray]
   exact ih (f _ (bT hj)) g1 g2 (by show A.units+1+2*n < cLine;omega)
  | @lst _ l f=>
   refine kI (fz h) ?_;rintro a vs m rfl h1 h2
   refine kI (fz k) ?_;rintro b us m' rfl k1 k2
   have e1 :=h2.length
   have e2 :=k2.length
   refine wP.refs λE Q q=>rW (items:=vs.toArray) (items2:=us.toArray) ⟨_,sub _ _ h1,rfl,m,rfl⟩ ⟨_,sub _ _ k1,rfl,m',rfl⟩ (by simp;omega) (by omega) (λj j1 j2=>?_) q
   have hj :j < l.length:=by simp at j1;omega
   have g1 :=h2.get hj (by simpa using j1)
   have g2 :=k2.get hj (by simpa using j2)
   simp only[List.getElem_toArray]
   exact ih (f _ (bT hj)) g1 g2 (by show A.units+1+2*n < cLine;omega)
  | @dct _ l f=>
   cases h with
   | dct h1 h2 h3 h4=>
    cases k with
    | dct k1 k2 k3 k4=>
     rename_i a es m b e7 m'
     refine wP.refs λE Q q=>Ap (pn:=pn) (w:=w) h4 k4 (ia h2 h3 (sub _ _ h1)) (ia k2 h3 (sub _ _ k1)) (by omega) ?_ ?_ q
     . have e1:=cG List.length (iB h2)
       have e2:=cG List.length (iB k2)
       simp only[cq]at e1 e2
       omega
     . have go:∀ {es:List DictEntry} {l':FL},IsEnts w.params F es l'->(∀ p∈l',p∈l)->kh pn w A.in1 s (jF e7 l) (jF es l'):=by
        intro es l' hh
        induction es generalizing l' with
        | nil=>intro _;cases hh;exact .nil
        | cons e es ihh=>
         cases hh with
         | @cons x t v d _ l'' hv r=>
          intro sb;refine dW (jS k2 (lD h3 (sb (x,d) dP))) ?_;rintro y e1 e2
          exact kh.cons (k:=x) e1 (ih (f _ (sb (x,d) dP)) hv e2 (by show A.units+1+2*n < cLine;omega)) (ihh r λp hp=>sb p (.tail _ hp))
       exact go h2 λp hp=>hp
end
section
variable {B:dc} {n:Nat} {L:Addr} {H:HL} {σ:St} {e5:Env}
theorem yS {a b:Value} {x y:Addr} {l:cL} {Φ:PV} (ma:(a,.ref x)∈H) (mb:(b,.ref y)∈H) (mx:(x,AO.list l)∈σ.objs) (my:(y,AO.list l)∈σ.objs) (f:∀ d∈l,gz 50 d)
 (h:∀ v,Φ v (.bool true) σ):WV B n L (compareOp .Eq a b) H σ Φ:=dg λA F s hA X=>by
 obtain rfl:=dF (X.hold ma)
 obtain rfl:=dF (X.hold mb)
 refine im (X.objs _ mx) ?_;rintro vs m h1 h2
 refine im (X.objs _ my) ?_;rintro us k k1 k2
 have e1:=h2.length
 have e2:=k2.length
 have hu:=hA.units
 have hc:cLine=9900:=rfl
 refine rW (items:=vs.toArray) (items2:=us.toArray) ⟨_,h1,rfl,m,rfl⟩ ⟨_,k1,rfl,k,rfl⟩ (by simp;omega) (by rw[hc];omega) (λj j1 j2=>?_) (.here X ⟨_,.bool true,h _⟩)
 have hj:j < l.length:=by simp at j1;omega
 have g1:=h2.get hj (by simpa using j1)
 have g2:=k2.get hj (by simpa using j2)
 simp only[List.getElem_toArray]
 exact DG (w:=B.w) X.sub 50 (f _ (bT hj)) g1 g2 (by show A.units+1+2*50 < cLine;rw[hc];omega)
end
end
section
variable {k:Str->Option NameKind} {x:Str}
noncomputable def ft:Addr->LL->OL
 | _,[]=>[]
 | c,(_,d)::r=>(c,.cell d)::ft (c+1) r
noncomputable def fP:Addr->LL->List (Str×Addr)
 | _,[]=>[]
 | c,(x,_)::r=>(x,c)::fP (c+1) r
theorem zQ {v:Value} (hx:k x=some .local):∀ {b:cX} {m:Str->cT},(b.map (·.1)).Nodup->(x,v)∈b->bindL k b m x=some v:=by
 have out:∀ {b:cX} {m:Str->cT},x∉b.map (·.1)->bindL k b m x=m x:=by
  intro b
  induction b with
  | nil=>intro m y;rfl
  | cons p r ih=>
   intro m h;rw[cv,List.mem_cons,not_or]at h
   unfold bindL;rw[ih h.2]
   split
   . exact cH h.1
   . rfl
 intro b
 induction b with
 | nil=>intro m y h;contradiction
 | cons p r ih=>
  intro m nd h;rw[cv,cg]at nd
  unfold bindL
  rcases fG h with e | h
  . subst e
    rw[out nd.1];rw[cJ hx];simp
  . exact ih nd.2 h
theorem qA:∀ {b:cX} {m:Str->cT},x∉b.map (·.1)->bindC k b m x=m x:=by
 intro b
 induction b with
 | nil=>intro m y;rfl
 | cons p r ih=>
  intro m h;rw[cv,List.mem_cons,not_or]at h
  unfold bindC;rw[ih h.2]
  split
  . rfl
  . exact cH h.1
theorem A3 {v:Value} (hx:k x≠some .local):∀ {b:cX} {m:Str->cT},(b.map (·.1)).Nodup->(x,v)∈b->bindC k b m x=some v:=by
 intro b
 induction b with
 | nil=>intro m y h;contradiction
 | cons p r ih=>
  intro m nd h;rw[cv,cg]at nd
  unfold bindC
  rcases fG h with e | h
  . subst e
    rw[qA nd.1];rw[cH hx];simp
  . exact ih nd.2 h
theorem iM:∀ (c:Addr) (cn:LL),(fP c cn).map (·.1)=cn.map (·.1)
 | _,[]=>rfl
 | c,(x,d)::r=>by rw[fP,cv,iM (c+1) r];rfl
theorem mA:∀ {c:Addr} {cn:LL} {p:Addr×AO},p∈ft c cn->∃ x d,(x,d)∈cn/\(x,p.1)∈fP c cn/\p.2=.cell d/\c<=p.1
 | _,[],_,h=>nomatch h
 | c,(x,d)::r,p,h=>by
  rcases fG h with rfl | h
  . exact⟨x,d,.head _,.head _,rfl,cB _⟩
  . refine FF (mA h) ?_;rintro y e h1 h2 h3 h4
    exact⟨y,e,.tail _ h1,.tail _ h2,h3,dN (Nat.le_succ _) h4⟩
theorem kX:∀ (c:Addr) (cn:LL),(dj (ft c cn)).Nodup/\∀ b∈dj (ft c cn),c<=b
 | _,[]=>⟨List.nodup_nil,λy h=>nomatch h⟩
 | c,(x,d)::r=>by
  obtain⟨h1,h2⟩:=kX (c+1) r
  have e:dj (ft c ((x,d)::r))=c::dj (ft (c+1) r):=rfl
  rw[e];refine⟨cg.mpr ⟨λh=>cI (h2 c h) (Nat.not_le.mpr (Nat.lt_succ_self c)),h1⟩,λb hb=>?_⟩
  rcases fG hb with rfl | hb
  . exact cB _
  . exact dN (Nat.le_succ _) (h2 b hb)
section
variable {B:dc} {n:Nat} {o8:OL}
theorem Eh {n5 qb:Str} {pj:Arguments} {b3 b5:cM} {sf sh:Scope} {dV kV d7 pm c3 ct oc:Value} {an od:Option Addr} {ol:cY} {f:Addr} {ay ds:cL} {Φ:AV->OL->Prop} (ps:cQ) (l9:LL) (cn:LL)
 (ho : B.K.lookup f=some ⟨oc,od,.func (fnOf n5 qb pj b3 sf dV kV d7 pm an c3 ct),ol⟩) (ba:codeIn B.K c3 qb=true)
 (aS : ∀ vs,vs.length=ay.length->bindArgs (fnOf n5 qb pj b3 sf dV kV d7 pm an c3 ct) ⟨vs,[]⟩=pure (ps.zip vs)) (aE:ps.length=ay.length) (aY:ds=ay)
 (h : ∀ L,Qm b5 (WF B n L (execs b5 (envOfC qb sh L f c3)) [] ⟨l9,ft (L+1) cn++o8⟩ (qV Φ)))
 (aR : ∀ x d,(x,some d)∈l9->sh.names.lookup x=some .local/\(x,d)∈ps.zip ds) (hln:(l9.map (·.1)).Nodup)
 (hcs : ∀ L,(fP (L+1) cn).reverse=cellsFrom (L+1) sh.names []) (hcn:(cn.map (·.1)).Nodup)
 (hck : ∀ x d,(x,d)∈cn->sh.names.lookup x=some .cell/\(match d with | some d=>(x,d)∈ps.zip ds | none=>x∉ps)) (hpn:ps.Nodup)
 (hpk : ∀ x∈ps,sh.names.lookup x=some .local\/(sh.names.lookup x=some .cell/\x∈cn.map (·.1)))
 (aT : autoParam (sh.isCoroutine=false) bR) (aQ:autoParam (sh.isGenerator=false) bR) (hk:autoParam (sh.kind=.function) bR) (eb:autoParam (b3=b5) bC) (es:autoParam (sf=sh) bC):de B (n+1) f ay o8 Φ:=by
 subst eb es
 subst aY;intro A F s vs hA x hvs;have up:∀ b o,B.G.get? b=some o->s.heap.get? b=some o:=λb o e=>x.sub _ _ (x.core _ _ e)
 have hvl:=hvs.length
 have keys:(ps.zip vs).map (·.1)=ps:=by rw[List.map_fst_zip];omega
 have look:∀ L y c,(y,c)∈fP (L+1) cn->(cellsFrom (L+1) sf.names []).lookup y=some c:=by
  intro L y c hm;rw[<- hcs L];have nd:((fP (L+1) cn).reverse.map (·.1)).Nodup:=by rw[List.map_reverse,iM];exact(List.reverse_perm _).nodup_iff.mpr hcn
  have bk:(y,c)∈(fP (L+1) cn).reverse:=List.mem_reverse.mpr hm
  generalize(fP (L+1) cn).reverse=l at nd bk
  induction l with
  | nil =>contradiction
  | cons p r ih=>
   rw[cv,cg]at nd
   rw[List.lookup_cons]
   rcases fG bk with e | bk
   . subst e;simp
   . have:(y==p.1)=false:=beq_eq_false_iff_ne.mpr λe=>nd.1 (e▸List.mem_map_of_mem bk)
     rw[this];exact ih nd.2 bk
 have val:∀ y d,(y,d)∈ps.zip ds->∃ v,(y,v)∈ps.zip vs/\Is B.P F v d:=by
  intro y d hm;have :∀ {ps:cQ} {vs:cO} {ds:cL},IsAll B.P F vs ds->(y,d)∈ps.zip ds->∃ v,(y,v)∈ps.zip vs/\Is B.P F v d:=by
   intro ps vs ds hh
   induction ps generalizing vs ds with
   | nil=>intro h;simp at h
   | cons p r ih=>
    intro h
    cases hh with
    | nil=>simp at h
    | cons a b=>
     rw[List.zip_cons_cons]at h
     rcases fG h with e | h
     . cases e;exact⟨_,.head _,a⟩
     . refine dW (ih b h) ?_;rintro v h1 h2;exact⟨v,.tail _ h1,h2⟩
  exact this hvs hm
 refine codeAny_call_cells (fd:=fnOf n5 qb pj b3 sf dV kV d7 pm an c3 ct) (body:=b3) (binds:=ps.zip vs) (by have:=hA.depth;show A.depth < 1000;omega) ((B.X.keeps up) _ _ ho) rfl (B.nolimit.keeps up)
  (codeRec_of (B.X.keeps up) ba) rfl (aS vs hvl) rfl (λy hy=>?_) (λs5 z=>?_) aT aQ hk
 . have hy1:y.1∈ps:=keys▸List.mem_map_of_mem hy
   rcases hpk y.1 hy1 with q | ⟨q,q2⟩
   . exact .inl q
   . refine .inr ⟨q,?_⟩
     rw[<-iM (s.heap.objs.size+1) cn]at q2
     refine dW (cw.mp q2) ?_;rintro p hp e
     rw[<-e,look _ _ _ (show(p.1,p.2)∈_ from hp)];rfl
 have hL:s.heap.get? s.heap.objs.size=none:=eJ _
 have there:∀ b∈dj o8,∃ o,s.heap.get? b=some o:=λb hb=>by
  refine dW (ee.mp hb) ?_;rintro p hp hb
  exact(x.objs p hp).there b hb
 have below:∀ b∈dj o8,b < s.heap.objs.size:=λb hb=>by obtain⟨o,e⟩:=there b hb;exact cz e
 obtain⟨z1,z2,z3,z4⟩:=z;refine im (z1.done) ?_;rintro h6 tk rfl keep
 have aV:=z1.ns
 have big:B.G.objs.size<=s.heap.objs.size:=x.big
 obtain⟨cn1,cn2⟩:=kX (s.heap.objs.size+1) cn
 have noneF:∀ b,s.heap.objs.size<=b->F b=none:=λb hb=>by
  induction q:F b using Option.casesOn with
  | none=>rfl
  | some o=>exact cI (cz (x.sub _ _ q)) (Nat.not_lt.mpr hb)
 have eo:dj (ft (s.heap.objs.size+1) cn++o8)=dj (ft (s.heap.objs.size+1) cn)++dj o8:=fk _ _
 have X :Holds B.P B.G s.heap.objs.size F [] ⟨l9,ft (s.heap.objs.size+1) cn++o8⟩ h6:=by
  refine⟨x.core,λb o e=>keep _ _ (x.sub _ _ e),⟨_,aV,λy d hy=>?_⟩,hln,λp hp=>?_,?_,λb hb=>?_,λu hp=>(nomatch hp),big⟩
  . obtain⟨k1,k2⟩:=aR y d hy
    refine dW (val y d k2) ?_;rintro v hv q
    exact⟨v,zQ (k:=(callEnvC (fnOf n5 qb pj b3 sf dV kV d7 pm an c3 ct) s.heap.objs.size f).kindOf) k1 (by rw[keys];exact hpn) hv,q⟩
  . rcases cf.mp hp with hp | hp
    . refine FF (mA hp) ?_;rintro y d m1 m2 m3 u
      have hc:=z2 y p.1 (look _ _ _ m2)
      obtain⟨k1,k2⟩:=hck y d m1;rw[m3]
      induction d using Option.casesOn with
      | none=>
       have:bindC (callEnvC (fnOf n5 qb pj b3 sf dV kV d7 pm an c3 ct) s.heap.objs.size f).kindOf (ps.zip vs) (λu=>none) y=none:=qA (by rw[keys];exact k2)
       rw[this]at hc
       exact hc
      | some d=>
       refine dW (val y d k2) ?_;rintro v hv q
       have:bindC (callEnvC (fnOf n5 qb pj b3 sf dV kV d7 pm an c3 ct) s.heap.objs.size f).kindOf (ps.zip vs) (λu=>none) y=some v:=A3 (by show sf.names.lookup y≠_;rw[k1];decide) (by rw[keys];exact hpn) hv
       rw[this]at hc
       exact⟨v,hc,q⟩
    . exact(x.objs p hp).move (.refl F) λb o u e=>keep _ _ e
  . show(s.heap.objs.size::dj (ft (s.heap.objs.size+1) cn++o8)).Nodup
    rw[eo];refine cg.mpr ⟨λhm=>?_,bO.mpr ⟨cn1,x.nodup,λa ha b hb e=>?_⟩⟩
    . rcases cf.mp hm with hm | hm
      . exact cI (cn2 _ hm) (Nat.not_le.mpr (Nat.lt_succ_self _))
      . exact cI (below _ hm) (Nat.lt_irrefl _)
    . have g1:=cn2 a ha
      have g2:=below b hb
      rw[<-e]at g2
      exact cI (sv g2 (Nat.le_succ _)) (Nat.not_lt.mpr g1)
  . rcases fG hb with rfl | hb
    . exact noneF _ (cB _)
    . rw[show dj (⟨l9,ft (s.heap.objs.size+1) cn++o8⟩:St).objs= _ from eo]at hb
      rcases cf.mp hb with hb | hb
      . exact noneF _ (dN (Nat.le_succ _) (cn2 _ hb))
      . exact x.apart b hb
 have hA':gn n (A.deeper (callEnvC (fnOf n5 qb pj b3 sf dV kV d7 pm an c3 ct) s.heap.objs.size f)):=
  ⟨hA.handled,by have:=hA.depth;show A.depth+1+n<=900;omega,by have:=hA.units;show A.units+3+8*n<=9000;omega⟩
 refine cD ((h s.heap.objs.size).run _ F { s with heap:=h6,toks:=tk } hA' X) (λfl s' z=>?_) λu u z=>z.elim
 obtain⟨F',σ',x',p,e,he,q⟩:=z;refine dW (pD he q) ?_;rintro d hd q
 exact .mk _ d σ'.objs F' rfl hd x'.call ((p.over (λb hb=>(fG hb).elim (λe=>.inr (e▸hL)) λhb=>by
  rw[eo]at hb
  exact(cf.mp hb).elim (λhb=>.inr (bm.mpr λo w=>cI (cz w) (Nat.not_lt.mpr (dN (Nat.le_succ _) (cn2 _ hb))))) .inl) keep (.refl _) rfl).fewer λu=>.tail _) q
end
end
section
variable {x:Str} {c a:Addr} {d:AV} {l9:LL} {o8 o3:OL} {Φ:PV} {v:Value} {P:Params} {G h:Heap} {F:Fz} {v6:Expr} {l:FL}
section
variable {B:dc} {n:Nat} {L:Addr} {H:HL} {σ:St} {e5:Env}
theorem zv {pi} (hc:e5.cells.lookup x=some c) (m:(c,AO.cell (some d))∈o8) (h:∀ v,Φ v d ⟨l9,o8⟩)
 (hk:e5.scope.kind=.function) (hl:e5.kindOf x=some .cell) (hd:(x==("__debug__":Str))=false):WV B n L (eval (.Name x pi) e5) H ⟨l9,o8⟩ Φ:=dg λA F s hA X=>by
 refine dW (X.objs _ m) ?_;rintro v h1 h2
 exact wpAny_Name (wpAny_loadName_cell hk hl hc h1 (.here X ⟨d,h2,h v⟩)) hd
theorem AA {o:cS} {Φ:St->Prop} (hc:e5.cells.lookup x=some c) (md:(v,d)∈H) (m:nk c (.cell o) (.cell (some d)) o8 o3) (h:Φ ⟨l9,o3⟩)
 (hk:e5.scope.kind=.function) (hl:e5.kindOf x=some .cell):WU B n L (storeName e5 x v) H ⟨l9,o8⟩ Φ:=dg λA F s hA X=>by
 refine im (m.split) ?_;rintro pz pv rfl rfl
 have hd:=X.hold md
 have:∃ v5,s.heap.IsCell c v5:=by
  have:=X.objs (c,.cell o) (by simp)
  induction o using Option.casesOn with
  | none=>exact⟨_,this⟩
  | some e=>refine dW (this) ?_;clear this;rintro v h1 z;exact⟨_,h1⟩
 obtain⟨v5,h1⟩:=this;refine wpAny_storeName_cell hk hl hc h1 λh' hc' hs=>?_
 refine dm.change (o':=.cell (some d)) X (c:=c) (.inl rfl) rfl (λb y z q e=>(hs.2 b q).trans e) ?_ ⟨v,hc',hd⟩ rfl rfl h
 refine dW (X.frame) ?_;rintro m5 FR hl
 exact⟨m5,FR.ns.sameBut hs (λe=>(cg.mp X.nodup).1 (by rw[e];exact ee.mpr ⟨_,bz _ dP,.inl rfl⟩)),hl⟩
theorem Holds.trackAt {h':Heap} {o:AO} (x:Holds P G L F H σ h) (hF:F a=none) (hO:a∉L::dj σ.objs) (k:∀ b o,b≠a->h.get? b=some o->h'.get? b=some o) (em:o.more=[]) (q:yx P F h' a o):
 Holds P G L F H ⟨σ.loc,(a,o)::σ.objs⟩ h':=by
 have x':=x.besides hF hO k
 have eo:dj ((a,o)::σ.objs)=a::dj σ.objs:=by show a::(o.more++dj σ.objs)= _;refine em▸?_;rfl
 refine⟨x'.core,x'.sub,x'.loc,x'.names,λp hp=>?_,?_,λb hb=>?_,x'.held,x'.low⟩
 . rcases fG hp with rfl | hp
   . exact q
   . exact x'.objs p hp
 . show(L::dj ((a,o)::σ.objs)).Nodup
   refine eo▸?_
   have nd:=cg.mp x'.nodup
   have h1:L≠a:=λe=>hO (e▸.head _)
   have h2:a∉dj σ.objs:=λhm=>hO (.tail _ hm)
   refine cg.mpr ⟨λhm=>?_,cg.mpr ⟨h2,nd.2⟩⟩
   rcases fG hm with e | hm
   . exact h1 e
   . exact nd.1 hm
 . rw[show dj (⟨σ.loc,(a,o)::σ.objs⟩:St).objs= _ from eo]at hb
   rcases fG hb with rfl | hb
   . exact x'.apart _ dP
   rcases fG hb with rfl | hb
   . exact hF
   . exact x'.apart _ (.tail _ hb)
theorem vP {keys:List (Option Expr)} {v8:cN} {pi:Pos}
 (h :WD B n L (evalPairs (dO e5 pi keys v8)) H σ λl a6=>(l.map (·.1)).Nodup/\∀ a,Φ (.ref a) (.ref a) ⟨a6.loc,(a,.dict l)::a6.objs⟩)
 (hs:autoParam ((evalEachOpt keys e5).zip ((evalEach v8 e5).map λv=>do let x <-v;standAt pi;pure x)=(dO e5 pi keys v8).map λp=>(some p.1,p.2)) bR)
 (h0:dO e5 pi keys v8≠[]:=by exact List.cons_ne_nil _ _) (hl:autoParam ((dO e5 pi keys v8).length<=15) bD):WV B n L (eval (.Dict keys v8 pi) e5) H σ Φ:=dg λA F s hA X=>by
 refine wpAny_Dict_pairs (knd:=strKind B.prog B.w) hs h0 hl ?_
 have hn:=eJ s.heap
 have up:∀ b o,s.heap.get? b=some o->(s.heap.push { cls:=.type "dict",data:=.dict #[] }).get? b=some o:=λb o e=>bw _ e
 have aO:s.heap.objs.size∉L::dj σ.objs:=λhm=>by obtain⟨o,ho⟩:=X.there _ hm;rw[hn]at ho;contradiction
 refine cD (h.run A F _ hA (X.grow up)) (λvs s5 z=>?_) λy y z=>z
 obtain⟨F0,a6,x0,p0,l,hl,hnd,q⟩:=z;have a0:s5.heap.get? s.heap.objs.size=some { cls:=.type "dict",data:=.dict #[] }:=p0.keep _ _ aO (bE _ rfl)
 refine⟨KV.vals vs l,KV.carries hl,⟨_,#[],_,a0,⟨rfl,rfl,rfl⟩,rfl,(λe he=>by simp at he),.nil,List.nodup_nil⟩,λh' hd aW=>?_⟩
 rw[merged_nil_of_nodup _ (by refine(KV.keys hl)▸?_;exact hnd)]at hd
 refine jk (kr hd) ?_;rintro es m e1 e2 e3
 have aF:F0 s.heap.objs.size=none:=by
  induction w:F0 s.heap.objs.size using Option.casesOn with
  | none=>rfl
  | some o=>
   rcases p0.frz _ _ w with z | z | z
   . have:=X.sub _ _ z;rw[hn]at this;contradiction
   . exact cI z aO
   . rw[bE _ rfl]at z;contradiction
 have aO':s.heap.objs.size∉L::dj a6.objs:=λhm=>by
  rcases p0.own _ hm with z | z
  . exact aO z
  . rw[bE _ rfl]at z;contradiction
 have x1:=x0.trackAt (h':=h') (o:=.dict l) aF aO' (λb o hb e=>(aW.2 b hb).trans e) rfl ⟨⟨es,m,e1,KV.ents hl e2 e3⟩,hnd,lW X.big⟩
 have old:∀ b,(s.heap.push { cls:=.type "dict",data:=.dict #[] }).get? b=none->s.heap.get? b=none:=λb e=>by
  induction w:s.heap.get? b using Option.casesOn with
  | none=>rfl
  | some o=>rw[up _ _ w]at e;contradiction
 refine⟨F0,_,x1,⟨λb o hb e=>(aW.2 b (λz=>by rw[z,hn]at e;contradiction)).trans (p0.keep _ _ hb (up _ _ e)),λb hb=>?_,λb o e=>(p0.frz _ _ e).imp_right (Or.imp_right (old b)),p0.mono,p0.gens,p0.os⟩,.ref _,.ref _,q _⟩
 rcases fG hb with rfl | hb
 . exact .inl dP
 have hb':b∈s.heap.objs.size::dj a6.objs:=hb
 rcases fG hb' with rfl | hb'
 . exact .inr hn
 . exact(p0.own b (.tail _ hb')).imp_right (old b)
theorem Id {slice:Expr} {o i:Value} {x:cK} (mo:(o,.ref a)∈H) (ma:(a,AO.dict l)∈σ.objs) (mi:(i,.str x)∈H) (hd:eF (S x) l=some d) (h:∀ v,Φ v d σ)
 (hs:∃ ops,subscripted slice false o i=operate ops (getItem o i):=by exact⟨_,rfl⟩):WV B n L (subscriptTail v6 slice o i) H σ Φ:=by
 refine iD (T:="dict") (λF s X=>?_) slot_dict_getitem.lookup (dg λA F s hA X=>?_) hs
 . obtain rfl:=dF (X.hold mo);obtain⟨⟨es,k,h1,_⟩,_⟩:=X.objs _ ma;exact⟨_,h1,rfl⟩
 . obtain rfl:=dF (X.hold mo)
   refine ud (X.objs _ ma) ?_;rintro ⟨es,k,h1,h2⟩ h3 _
   obtain⟨t,rfl⟩:=dD (X.hold mi);refine dW (jS h2 hd) ?_;rintro v e1 e2
   exact wpAny_getItem_of (knd:=strKind B.prog B.w) (k:=S x) (bZ _) (ia h2 h3 h1).mapOf e1 (.toks X ⟨d,e2,h _⟩)
theorem GG {o i:Value} {x:cK} (mo:(o,.ref a)∈H) (ma:(a,AO.dict l)∈σ.objs) (mi:(i,.str x)∈H) (hd:eF (S x) l=some d) (h:∀ v,Φ v d σ):WV B n L (getItem o i) H σ Φ:=dg λA F s hA X=>by
 obtain rfl:=dF (X.hold mo)
 refine ud (X.objs _ ma) ?_;rintro ⟨es,k,h1,h2⟩ h3 _
 obtain⟨t,rfl⟩:=dD (X.hold mi);refine dW (jS h2 hd) ?_;rintro v e1 e2
 exact wpAny_getItem_of (knd:=strKind B.prog B.w) (k:=S x) (bZ _) (ia h2 h3 h1).mapOf e1 (.toks X ⟨d,e2,h _⟩)
end
theorem KM.keys {r:cX} (h:KM P F r l):r.map (·.1)=l.map (·.1):=by
 induction h with
 | nil=>rfl
 | cons _ _ ih=>exact cG (List.cons _) ih
theorem KM.stored {k:Str} (q:Is P F v d):∀ {kvs:cX} {l:FL},KM P F kvs l->(l.map (·.1)).Nodup->KM P F (stored kvs k v) (f7 k d l)
 | _, _,.nil,_=>.cons q .nil
 | (y,u)::r,(_,e)::l,.cons h hr,nd=>by
  rw[cv,cg]at nd
  by_cases hy:y=k
  . subst hy
    have hnot:∀ p∈r,p.1≠y:=λp hp e=>nd.1 (by rw[<-hr.keys,<-e];exact List.mem_map_of_mem hp)
    have e1:PySem.stored ((y,u)::r) y v=(y,v)::r:=by
     unfold PySem.stored;rw[cJ (by simp)];rw[cv,cJ rfl]
     congr 1
     have:r.map (λkv=>if kv.1=y then (kv.1,v) else kv)=r.map id:=List.map_congr_left λp hp=>by rw[cH (hnot p hp)];rfl
     rw[this,List.map_id]
    have e2:f7 y d ((y,e)::l)=(y,d)::l:=by unfold f7;rw[cJ (bZ _)]
    rw[e1,e2];exact .cons q hr
  . have e1:PySem.stored ((y,u)::r) k v=(y,u)::PySem.stored r k v:=by
     unfold PySem.stored;rw[List.any_cons,cv,cH hy];simp only[hy,decide_false,Bool.false_or]
     split<;>rfl
    have e2:f7 k d ((y,e)::l)=(y,e)::f7 k d l:=by
     rw[f7,cH (by simpa using hy)]
    rw[e1,e2];exact .cons h (KM.stored q hr nd.2)
theorem kq {k:Str}:∀ {l:FL},(l.map (·.1)).Nodup->((f7 k d l).map (·.1)).Nodup
 | [], _ =>by simp[f7]
 | (y, e)::l,nd=>by
  have nd':=nd
  rw[cv,cg]at nd
  unfold f7
  split
  . rename_i h
    have h:y=k:=by simpa using h
    subst h;exact nd'
  . rename_i h
    have h:y≠k:=by simpa using h
    rw[cv,cg];refine⟨λhm=>?_,kq nd.2⟩
    have :∀ {l:FL},y∈(f7 k d l).map (·.1)->y=k\/y∈l.map (·.1):=by
     intro l
     induction l with
     | nil=>intro h;simp[f7]at h;exact .inl h
     | cons p r ih=>
      intro h;unfold f7 at h
      split at h
      . rename_i hp
        have hp:p.1=k:=by simpa using hp
        rw[cv,List.mem_cons]at h
        rcases h with h | h
        . exact .inl h
        . exact .inr (.tail _ h)
      . rw[cv,List.mem_cons]at h
        rcases h with h | h
        . exact .inr (by rw[h];exact .head _)
        . exact(ih h).imp_right (.tail _)
    rcases this hm with h' | h'
    . exact h h'
    . exact nd.1 h'
section
variable {B:dc} {n:Nat} {L:Addr} {H:HL} {σ:St} {e5:Env}
theorem uD {l':FL} {x:cK} {ov iv:Value} {Φ:St->Prop} (mo:(ov,.ref a)∈H) (mi:(iv,.str x)∈H) (md:(v,d)∈H) (hp:mf (S x) d l l')
 (m :nk a (.dict l) (.dict l') o8 o3) (hz:l.length<=900) (h:Φ ⟨l9,o3⟩):WU B n L (setItem ov iv v) H ⟨l9,o8⟩ Φ:=dg λA F s hA X=>by
 refine im (m.split) ?_;rintro pz pv rfl rfl
 obtain rfl:=hp.eq
 obtain rfl:=dF (X.hold mo)
 obtain⟨t,rfl⟩:=dD (X.hold mi);have hd:=X.hold md
 refine ud (X.objs (a,.dict l) (by simp)) ?_;rintro ⟨es,k,h1,h2⟩ h3 h4
 refine wpAny_setItem_pairs (knd:=strKind B.prog B.w) (k:=S x) (bZ _) (ia h2 h3 h1) (λh' hm hs=>?_) ?_
 . refine jk (kr hm) ?_;rintro e7 m' e1 e2 e3
   refine dm.change (o':=.dict (f7 (S x) d l)) X (c:=a) (.inl rfl) rfl (λb y z q e=>(hs.2 b q).trans e) ?_ ⟨⟨e7,m',e1,KM.ents ((we h2).stored hd h3) e2 e3⟩,kq h3,h4⟩ rfl rfl h
   refine dW (X.frame) ?_;rintro m5 FR hl
   exact⟨m5,FR.ns.sameBut hs (λe=>(cg.mp X.nodup).1 (by rw[e];exact ee.mpr ⟨_,bz _ dP,.inl rfl⟩)),hl⟩
 . have:=cG List.length (iB h2)
   simp only[cq]at this
   rw[this,dY];omega
theorem kf {o i:Expr} {p pi} {Φ:PF}
 (h:WV B n L (eval v6 e5) H σ λv d a6=>WV B n L (eval o e5) ((v,d)::H) a6 λov od a9=>WV B n L (eval i e5) ((ov,od)::(v,d)::H) a9 λiv e aa=>WU B n L (setItem ov iv v) ((iv,e)::(ov,od)::(v,d)::H) aa λab=>Φ .next ab)
 (hs:swapsWith v6 (some (.Subscript o i p)) pi.line e5=pure false):WF B n L (exec (.Assign [.Subscript o i p] v6 pi) e5) H σ Φ:=by
 rw[exec_Assign_Subscript o i p v6 pi hs];refine dt (dr (dk h λv d a6 w=>?_))
 rw[assign_Subscript];refine fS (dr (di (dk w λov od a9 w=>dr (di (dk w λiv e aa w=>dt (fS (di (i9 w λab q=>jg (lm q)))))))))
theorem zk {o i:Expr} {p pi op} {Φ:PF}
 (h:WV B n L (eval o e5) H σ λov od a6=>WV B n L (eval i e5) ((ov,od)::H) a6 λiv e a9=>WV B n L (getItem ov iv) ((iv,e)::(ov,od)::H) a9 λa d aa=>WV B n L (eval v6 e5) ((a,d)::(iv,e)::(ov,od)::H) aa λb y ab=>
  WV B n L (inplaceOp op a b) ((b,y)::(a,d)::(iv,e)::(ov,od)::H) ab λc z ad=>WU B n L (setItem ov iv c) ((c,z)::(iv,e)::(ov,od)::H) ad λag=>Φ .next ag)
 (hi:∀ ov iv c,augStore i ov iv c=(do holding [c,ov,iv] (setItem ov iv c);release [c,ov,iv] [];pure .next)):
 WF B n L (exec (.AugAssign (.Subscript o i p) op v6 pi) e5) H σ Φ:=by
 rw[arm_exec_AugAssign_3];refine dt (dr (dk h λov od a6 w=>dr (di (dk w λiv e a9 w=>dr (di ?_)))))
 refine dt (dr (dk w λa d aa w=>dr (di (dk w λb y ab w=>dt (gx (dk w λc z ad w=>?_))))))
 refine dt ?_
 rw[hi];refine fS (di (i9 w λag q=>?_))
 exact dg λA F s hA x=>cC (wpAny_release (cE (.here x ⟨.next,trivial,q⟩)))
inductive kT (a:Addr) (o:AO):OL->OL->Prop
 | head {r}:kT a o ((a,o)::r) r
 | tail {p r r'}:kT a o r r'->kT a o (p::r) (p::r')
theorem kT.perm {o:AO} {l l':OL} (h:kT a o l l'):l.Perm ((a,o)::l'):=by
 induction h with
 | head=>exact .refl _
 | tail _ ih=>exact(List.Perm.cons _ ih).trans (.swap _ _ _)
theorem Holds.freezeD (x:Holds P G L F H ⟨l9,(a,.dict l)::o8⟩ h):
 ∃ F',F.le F'/\Holds P G L F' H ⟨l9,o8⟩ h/\Is P F' (.ref a) (.dct l)/\∀ b o,F' b=some o->F b=some o\/b=a:=by
 refine ud (x.objs _ dP) ?_;rintro ⟨es,m,h1,h2⟩ h3 h4
 have aF:F a=none:=x.apart a iV
 have le:=Fz.le_put (o:=dictOf es m) aF
 have x':=x.drop (o3:=o8) (r8:=[(a,AO.dict l)]) (bA (l₁:=[(a,AO.dict l)]))
 have nd:=x.nodup
 have nL:a≠L:=λe=>(cg.mp nd).1 (e▸.head _)
 have nO:a∉dj o8:=λhm=>(cg.mp (cg.mp nd).2).1 (bz _ hm)
 refine⟨F.put a (dictOf es m),le,⟨λb o' e=>le _ _ (x.core b o' e),λb o' e=>?_,let ⟨m,hm,r⟩:=x.loc;⟨m,hm,λy d hy=>let ⟨v,e,q⟩:=r y d hy;⟨v,e,q.mono le⟩⟩,x'.names,
  λp hp=>(x'.objs p hp).move le λ_ _ _ e=>e,x'.nodup,λb hb=>?_,λp hp=>(x.held p hp).mono le,x.low⟩,.dct (Fz.put_self ..) (h2.mono le) h3 h4,λb o e=>?_⟩
 . unfold Fz.put at e
   split at e
   . rename_i q;subst q;obtain rfl:=Option.some.inj e;exact h1
   . exact x.sub _ _ e
 . unfold Fz.put
   split
   . rename_i q
     subst q
     rcases fG hb with h | hb
     . exact cI h nL
     . exact cI hb nO
   . exact x'.apart b hb
 . unfold Fz.put at e
   split at e
   . exact .inr ‹_›
   . exact .inl e
theorem Holds.perm (e:o8.Perm o3) (x:Holds P G L F H ⟨l9,o8⟩ h):Holds P G L F H ⟨l9,o3⟩ h:=
 x.drop (r8:=[]) (by rw[cm];exact e)
theorem Fi {α:Type} {t:Sem α} {Ψ:α->Fz->St->Prop} (mv:(v,.ref a)∈H) (tk:kT a (.dict l) o8 o3) (w:W B n L t ((v,.dct l)::H) ⟨l9,o3⟩ Ψ):W B n L t H ⟨l9,o8⟩ Ψ:=dg λA F s hA X=>by
 refine FN ((X.perm tk.perm).freezeD) ?_;rintro F' le x' hd back
 obtain rfl:=dF (X.hold mv)
 refine cD (w.run A F' s hA (x'.push hd)) (λr s' z=>?_) λy y z=>z
 obtain⟨F1,a9,x1,p5,q⟩:=z;have po:=fE tk.perm
 refine⟨F1,a9,x1.weaken λy hp=>.tail _ hp,eC.trans (s':=s) (O':=L::dj o3) (F':=F') ⟨λy y y e=>e,λb hb=>.inl ?_,λb o e=>?_,le,.refl _,rfl⟩ p5,q⟩
 . rcases fG hb with rfl | hb
   . exact .head _
   . exact .tail _ (po.mem_iff.mpr (.tail _ hb))
 . rcases back b o e with z | rfl
   . exact .inl z
   . exact .inr (.inl (.tail _ (po.mem_iff.mpr dP)))
end
end
section
variable {H:HL} {x:Str} {ds:cL} {e t:Expr} {pi p:Pos} {c:Bool} {es:cN} {s:Stmt} {ss:cM}
structure Cx where
 B:dc
 n:Nat
 L:Addr
 env:Env
structure Ev (X:Cx) (e:Expr) (σ:St) (d:AV) (σ':St):Prop where
 run:∀ (H:HL) (Φ:PV),(∀ v,Φ v d σ')->WV X.B X.n X.L (eval e X.env) H σ Φ
structure Bo (X:Cx) (e:Expr) (σ:St) (v:Value) (d:AV):Prop where
 run:∀ (H:HL) (Φ:PV),Φ v d σ->WV X.B X.n X.L (eval e X.env) H σ Φ
structure Te (X:Cx) (e:Expr) (σ:St) (b:Bool) (σ':St):Prop where
 run:∀ (H:HL) (Φ:Bool->St->Prop),Φ b σ'->WB X.B X.n X.L (isTrue e X.env (eval e X.env)) H σ Φ
structure Mu (X:Cx) (es:cN) (σ:St) (d:AV) (σ':St):Prop where
 run:∀ pi (H:HL) (Φ:PV),(∀ v,Φ v d σ')->WV X.B X.n X.L (boolOp pi .Or (evalEach es X.env)) H σ Φ
structure Fm (X:Cx) (es:cN) (σ:St) (d:AV) (σ':St):Prop where
 run:∀ pi (H:HL) (Φ:PV),(∀ v,Φ v d σ')->WV X.B X.n X.L (boolOp pi .And (evalEach es X.env)) H σ Φ
structure rR (X:Cx) (es:cN) (σ:St) (ds:cL) (σ':St):Prop where
 run:∀ pi (H:HL) (Φ:cO->cL->St->Prop),(∀ vs,vs.length=ds.length->Φ vs ds σ')->WL X.B X.n X.L (spliced (backTo pi (starEach es X.env))) H σ Φ
structure LK (X:Cx) (ks:List (Option Expr)) (es:cN) (σ:St) (l:FL) (σ':St):Prop where
 run:∀ pi (H:HL) (Φ:FL->St->Prop),Φ l σ'->WD X.B X.n X.L (evalPairs (dO X.env pi ks es)) H σ Φ
structure fY (X:Cx) (op:CmpOp) (a b:AV) (c:Bool) (σ:St):Prop where
 run:∀ (H:HL) va vb (Φ:PV),(va,a)∈H->(vb,b)∈H->(∀ v,Φ v (.bool c) σ)->WV X.B X.n X.L (compareOp op va vb) H σ Φ
structure rF (X:Cx) (op:Operator) (a b d:AV) (σ:St):Prop where
 run:∀ (H:HL) va vb (Φ:PV),(va,a)∈H->(vb,b)∈H->(∀ v,Φ v d σ)->WV X.B X.n X.L (binaryOp op va vb) H σ Φ
structure xw (X:Cx) (op:Operator) (a b d:AV) (σ:St):Prop where
 run:∀ (H:HL) va vb (Φ:PV),(va,a)∈H->(vb,b)∈H->(∀ v,Φ v d σ)->WV X.B X.n X.L (inplaceOp op va vb) H σ Φ
structure nG (X:Cx) (a:AV) (c:Bool) (σ:St):Prop where
 run:∀ (H:HL) va (Φ:Bool->St->Prop),(va,a)∈H->Φ c σ->WB X.B X.n X.L (truthy va) H σ Φ
structure uQ (X:Cx) (o:AV) (n5:Str) (d:AV) (σ:St):Prop where
 run:∀ (H:HL) vo (Φ:PV),(vo,o)∈H->(∀ v,Φ v d σ)->WV X.B X.n X.L (getAttr vo n5 true) H σ Φ
structure sJ (X:Cx) (o:AV) (n5:Str) (d:AV) (σ σ':St):Prop where
 run:∀ (H:HL) vo vd (Φ:St->Prop),(vo,o)∈H->(vd,d)∈H->Φ σ'->WU X.B X.n X.L (setAttr vo n5 vd) H σ Φ
structure lX (X:Cx) (o:AV) (n5:Str) (f:Value) (σ:St):Prop where
 run:∀ (H:HL) vo pl (Ψ:Value×cO->Fz->St->Prop),(vo,o)∈H->(∀ F,Ψ (f,[vo]) F σ)->W X.B X.n X.L (getMethod vo n5 pl) H σ Ψ
structure A4 (X:Cx) (o:AV) (n5:Str) (d:AV) (σ:St):Prop where
 run:∀ (H:HL) vo pl (Ψ:Value×cO->Fz->St->Prop),(vo,o)∈H->(∀ v F,Is X.B.P F v d->Ψ (v,[]) F σ)->W X.B X.n X.L (getMethod vo n5 pl) H σ Ψ
structure iI (X:Cx) (v6 slice:Expr) (o i d:AV) (σ:St):Prop where
 run:∀ (H:HL) vo vi (Φ:PV),(vo,o)∈H->(vi,i)∈H->(∀ v,Φ v d σ)->WV X.B X.n X.L (subscriptTail v6 slice vo vi) H σ Φ
structure eV (X:Cx) (f:Value) (ds:cL) (σ:St) (d:AV) (σ':St):Prop where
 run:∀ (H:HL) vs (Φ:PV),vs.length=ds.length->(∀ p∈vs.zip ds,p∈H)->(∀ v,Φ v d σ')->WV X.B X.n X.L (call f vs) H σ Φ
structure iL (X:Cx) (f:Value):Prop where
 run:∀ (H:HL) (σ:St) first ay pi (Φ:PV),(backTo pi (starEach ay X.env)).any (·.1)=false->
  WL X.B X.n X.L (spliced (backTo pi (starEach ay X.env))) H σ (λvs ds a6=>WV X.B X.n X.L (call f (first++vs)) (vs.zip ds++H) a6 Φ)->WV X.B X.n X.L (callWith pi f first (backTo pi (starEach ay X.env)) []) H σ Φ
structure Ex (X:Cx) (s:Stmt) (σ:St) (f:Fl) (σ':St):Prop where
 run:∀ (H:HL) (Φ:PF),Φ f σ'->WF X.B X.n X.L (exec s X.env) H σ Φ
structure fx (X:Cx) (ss:cM) (σ:St) (f:Fl) (σ':St):Prop where
 run:∀ (H:HL) (Φ:PF),Φ f σ'->WF X.B X.n X.L (execs ss X.env) H σ Φ
structure Ik (X:Cx) (ss:cM) (σ:St) (f:Fl) (σ':St):Prop where
 run:∀ (H:HL) (Φ:PF),Φ f σ'->GJ X.B X.n X.L (execs ss X.env) H σ Φ
structure Ka (X:Cx) (x:Str) (d:AV) (σ σ':St):Prop where
 run:∀ (H:HL) v (Φ:St->Prop),(v,d)∈H->Φ σ'->WU X.B X.n X.L (storeName X.env x v) H σ Φ
structure zh (X:Cx) (t:Expr) (d:AV) (σ σ':St):Prop where
 run:∀ (H:HL) v (Φ:St->Prop),(v,d)∈H->Φ σ'->WU X.B X.n X.L (assign t X.env v) H σ Φ
section
variable {X:Cx} {σ a6 a9 aa σ':St} {d o a b:AV} {f:Value}
theorem gO {v:Value} {d:AV}:(v,d)∈(v,d)::H:=List.mem_cons_self
theorem kx {p:Value×AV} {v:Value} {d:AV}:(v,d)∈p::(v,d)::H:=.tail _ dP
theorem zX {k pi}:Ev X (.Constant .none k pi) σ .none σ:=⟨λy y h=>HW (h _)⟩
theorem oP {c k pi}:Ev X (.Constant (.bool c) k pi) σ (.bool c) σ:=⟨λy y h=>FU (h _)⟩
theorem iP {i k pi}:Ev X (.Constant (.int i) k pi) σ (.int i) σ:=⟨λy y h=>LC h⟩
theorem ie {l:cK} {k pi} (e:x=S l):Ev X (.Constant (.str x) k pi) σ (.str l) σ:=⟨λy y h=>Mc e h⟩
theorem d9 {pi d l9 o8} (hm:(x,some d)∈l9) (hk:autoParam (X.env.scope.kind=.function) bR) (hl:autoParam (X.env.kindOf x=some .local) bK) (hL:autoParam (X.env.locals=X.L) bR) (hd:autoParam ((x==("__debug__":Str))=false) bK):
 Ev X (.Name x pi) ⟨l9,o8⟩ d ⟨l9,o8⟩:=⟨λy y h=>Di (σ:=⟨l9,o8⟩) hm h hk hl hL hd⟩
theorem oF {pi v d} (e:nsIn X.B.K mainGlobals x=some (some v)) (c:eS X.B v d) (hk:autoParam (X.env.scope.kind=.function) bR) (hl:autoParam (X.env.kindOf x=some .globalImplicit) bK) (hg:autoParam (X.env.globals=mainGlobals) bR) (hd:autoParam ((x==("__debug__":Str))=false) bK):
 Ev X (.Name x pi) σ d σ:=⟨λy y h=>sU e c (h _) hk hl hg hd⟩
theorem gj {pi v} (e:nsIn X.B.K mainGlobals x=some (some v)) (hk:autoParam (X.env.scope.kind=.function) bR) (hl:autoParam (X.env.kindOf x=some .globalImplicit) bK) (hg:autoParam (X.env.globals=mainGlobals) bR) (hd:autoParam ((x==("__debug__":Str))=false) bK):
 Bo X (.Name x pi) σ v (.lit v):=⟨λy y h=>sU e (eS.lit _ _) h hk hl hg hd⟩
theorem eG {pi v} (hb:bootBuiltins x=some v) (e:nsIn X.B.K mainGlobals x=some none) (hk:autoParam (X.env.scope.kind=.function) bR) (hl:autoParam (X.env.kindOf x=some .globalImplicit) bK) (hg:autoParam (X.env.globals=mainGlobals) bR) (aM:autoParam (X.env.builtins=builtinsNs) bR)
 (hn:x≠("__name__":Str):=by(refine bne_iff_ne.mp ?_;kernel_rfl)) (hd:autoParam ((x==("__debug__":Str))=false) bK):Bo X (.Name x pi) σ v (.lit v):=⟨λy y h=>xQ e hb h hk hl hg aM hn hd⟩
theorem tY {l r op pi c} (h1:Ev X l σ a a6) (h2:Ev X r a6 b a9) (h3:fY X op a b c a9) (hm:autoParam (behindInMarks op r=false) bW):Ev X (.Compare l [op] [r] pi) σ (.bool c) a9:=
 ⟨λy y h=>qI (h1.run _ _ λy=>h2.run _ _ λy=>h3.run _ _ _ _ kx gO h) hm⟩
theorem mP {l m r op oi pi c c'} {y:AV} (h1:Ev X l σ a a6) (h2:Ev X m a6 b a9) (h3:fY X op a b c a9) (h4:Ev X r a9 y a9) (h5:fY X oi b y c' a9)
 (hm:autoParam (markedEach [op,oi] [m,r] (evalEach [m,r] X.env)=[eval m X.env,eval r X.env]) bW):Ev X (.Compare l [op,oi] [m,r] pi) σ (.bool (c&&c')) a9:=
 ⟨λx x h=>xe (h1.run _ _ λx=>h2.run _ _ λx=>h3.run _ _ _ _ kx gO λx=>⟨c,c',rfl,h4.run _ _ λx=>h5.run _ _ _ _ kx gO λx=>⟨rfl,rfl⟩,h⟩) hm⟩
theorem lY {l r op pi} (h1:Ev X l σ a a6) (h2:Ev X r a6 b a9) (h3:rF X op a b d a9):Ev X (.BinOp l op r pi) σ d a9:=⟨λy y h=>wU (h1.run _ _ λy=>h2.run _ _ λy=>h3.run _ _ _ _ kx gO h)⟩
theorem MU {es pi} (h1:Mu X es σ d σ'):Ev X (.BoolOp .Or es pi) σ d σ':=⟨λy y h=>rI (h1.run _ _ _ h)⟩
theorem ww {es pi} (h1:Fm X es σ d σ'):Ev X (.BoolOp .And es pi) σ d σ':=⟨λy y h=>rI (h1.run _ _ _ h)⟩
theorem vK {e} (h1:Ev X e σ d σ'):Mu X [e] σ d σ':=⟨λy y y h=>rr (h1.run _ _ h)⟩
theorem wh {e e' es c c'} (h1:Ev X e σ (.bool c) σ) (h2:Mu X (e'::es) σ (.bool c') σ):Mu X (e::e'::es) σ (.bool (c||c')) σ:=⟨λy y y h=>KI (h1.run _ _ λy=>⟨c,rfl,λq v=>by subst q;exact h v,λq=>by subst q;exact h2.run _ _ _ h⟩)⟩
theorem rM {e} (h1:Ev X e σ d σ'):Fm X [e] σ d σ':=⟨λy y y h=>rr (h1.run _ _ h)⟩
theorem ry {e e' es c c'} (h1:Ev X e σ (.bool c) σ) (h2:Fm X (e'::es) σ (.bool c') σ):Fm X (e::e'::es) σ (.bool (c&&c')) σ:=⟨λy y y h=>zY (h1.run _ _ λy=>⟨c,rfl,λq v=>by subst q;exact h v,λq=>by subst q;exact h2.run _ _ _ h⟩)⟩
theorem FA {e pi i} (h1:Ev X e σ (.int i) a6):Ev X (.UnaryOp .USub e pi) σ (.int (-i)) a6:=⟨λy y h=>EL (h1.run _ _ λy=>⟨i,rfl,h⟩)⟩
theorem rN {es k pi ds} (h1:rR X es σ ds a6) (hz:ds.length<=16777216):Ev X (.Tuple es k pi) σ (.tup ds) a6:=⟨λy y h=>wI (h1.run _ _ _ λy y=>⟨hz,h⟩)⟩
theorem rq {es pi ds} (h1:rR X es σ ds a6) (hz:ds.length<=16777216):Ev X (.List es pi) σ (.lst ds) a6:=⟨λy y h=>vJ (h1.run _ _ _ λy y=>⟨hz,h⟩)⟩
theorem J4 {ks es l pi} (h1:LK X ks es σ l a6) (hn:ij (l.map (·.1))=true)
 (hs:autoParam ((evalEachOpt ks X.env).zip ((evalEach es X.env).map λv=>do let x <-v;standAt pi;pure x)=(dO X.env pi ks es).map λp=>(some p.1,p.2)) bR)
 (h0:dO X.env pi ks es≠[]:=by exact List.cons_ne_nil _ _) (hl:(dO X.env pi ks es).length<=15:=by exact eP (by rfl)):Ev X (.Dict ks es pi) σ (.dct l) a6:=
 ⟨λy y h=>Bg (h1.run _ _ _ ⟨eT hn,h⟩) hs h0 hl⟩
theorem As:LK X [] [] σ [] σ:=⟨λy y y h=>EC h⟩
theorem rg {kk kp ks v vs l} (h1:Ev X v σ d a6) (h2:LK X ks vs a6 l a9):LK X (some (.Constant (.str x) kk kp)::ks) (v::vs) σ ((x,d)::l) a9:=⟨λy y y h=>yJ (h1.run _ _ λy=>h2.run _ _ _ h)⟩
theorem dK:rR X [] σ [] σ:=⟨λy y y h=>wF (h [] rfl)⟩
theorem dy {e es ds} (h1:Ev X e σ d a6) (h2:rR X es a6 ds a9) (he:autoParam (starEach (e::es) X.env=(false,eval e X.env)::starEach es X.env) bR):rR X (e::es) σ (d::ds) a9:=
 ⟨λy y y h=>vD (h1.run _ _ λy=>h2.run _ _ _ λy hl=>h _ (cG (·+1) hl)) he⟩
theorem jz {e s pi} {i:AV} (h1:Ev X e σ o a6) (h2:Ev X s a6 i a9) (h3:iI X e s o i d a9):Ev X (.Subscript e s pi) σ d a9:=⟨λy y h=>Fh (h1.run _ _ λy=>h2.run _ _ λy=>h3.run _ _ _ _ kx gO h)⟩
theorem gG {e ay pi ds dv} (h1:Bo X e σ f dv) (hk:iL X f) (h2:rR X ay σ ds a6) (h3:eV X f ds a6 d a9)
 (he:autoParam (eval (.Call e ay [] pi) X.env=(do callWith pi (<-eval e X.env) [] (backTo pi (starEach ay X.env)) [])) bR) (hp:autoParam ((backTo pi (starEach ay X.env)).any (·.1)=false) bR):Ev X (.Call e ay [] pi) σ d a9:=
 ⟨λy y h=>jJ (h1.run _ _ (hk.run _ _ _ _ _ _ hp (h2.run _ _ _ λy hl=>h3.run _ _ _ hl (λy hp=>bB _ hp) h))) he⟩
theorem mZ {vo:Value} {o:AV} {vs:cO}:∀ p∈([vo]++vs).zip (o::ds),p∈vs.zip ds++((vo,o)::H):=λp hp=>by
 rw[List.singleton_append,List.zip_cons_cons]at hp
 rcases fG hp with rfl | hp
 . exact bz _ dP
 . exact bB _ hp
theorem qX {n5:Str} {aJ:Pos} {ay:cN} {pl:Sem Bool} (h1:Ev X e σ o a6) (hm:lX X o n5 f a6) (hk:iL X f) (h2:rR X ay a6 ds a9) (h3:eV X f (o::ds) a9 d aa)
 (he:autoParam (eval (.Call (.Attribute e n5 aJ) ay [] pi) X.env=(do
  let ov <-eval e X.env
  standAt aJ.atName
  let (f,first) <-holding [ov] (getMethod ov n5 pl)
  callWith pi f first (backTo pi (starEach ay X.env)) [])) bR) (hp:autoParam ((backTo pi (starEach ay X.env)).any (·.1)=false) bR):Ev X (.Call (.Attribute e n5 aJ) ay [] pi) σ d aa:=
 ⟨λy y h=>uJ (h1.run _ _ λy=>hm.run _ _ _ _ gO λy=>hk.run _ _ _ _ _ _ hp (h2.run _ _ _ λy hl=>h3.run _ _ _ (by rw[bM,bx,bY,hl,Nat.add_comm]) mZ h)) he⟩
theorem nw {l r:Expr} {op:CmpOp} (h1:Ev X l σ a a6) (h2:Ev X r a6 b a9) (h3:fY X op a b c a9) (hm:autoParam (behindInMarks op r=false) bW):Te X (.Compare l [op] [r] pi) σ c a9:=
 ⟨λy y h=>qW (h1.run _ _ λy=>h2.run _ _ λy=>h3.run _ _ _ _ kx gO λy=>⟨c,rfl,h⟩) hm⟩
theorem KA (h1:Ev X e σ d a6) (h2:nG X d c a6) (hs:∀ wd,isTrue e X.env wd=(do let v <-wd;standAt e.pos;holding [v] (truthy v)):=by with_unfolding_all exact λy=>rfl):Te X e σ c a6:=
 ⟨λy y h=>ro (h1.run _ _ λy=>h2.run _ _ _ gO h) hs⟩
theorem Ko:Ex X (.Break pi) σ .brk σ:=⟨λy y h=>wQ h⟩
theorem gS (h1:Ev X e σ d a6):Ex X (.Return (some e) pi) σ (.ret d) a6:=⟨λy y h=>pM (h1.run _ _ λy=>h)⟩
theorem My {x y:cM} {fl:Fl} (h1:Te X t σ c a6) (h2:Br c (fx X x a6 fl a9) (fx X y a6 fl a9)):Ex X (.If t x y pi) σ fl a9:=⟨λz z h=>CC (h1.run _ _ ⟨λq=>(h2.1 q).run _ _ h,λq=>(h2.2 q).run _ _ h⟩)⟩
theorem FP (h1:Ev X e σ d a6) (hi:autoParam (interactive X.env=false) bR) (hs:autoParam (swapsWith e none pi.line X.env=pure false) bR):Ex X (.Expr e pi) σ .next a6:=⟨λy y h=>ut (h1.run _ _ λy=>h) hi hs⟩
theorem oR (h1:Ev X e σ d a6) (h2:Ka X x d a6 a9) (hs:autoParam (swapsWith e (some (.Name x p)) pi.line X.env=pure false) bR):Ex X (.Assign [.Name x p] e pi) σ .next a9:=
 ⟨λy y h=>gv (h1.run _ _ λy=>h2.run _ _ _ gO h) hs⟩
theorem Ht {aD:Str} (h1:Ev X e σ d a6) (h2:Ev X t a6 o a9) (h3:sJ X o aD d a9 aa) (hs:autoParam (swapsWith e (some (.Attribute t aD p)) pi.line X.env=pure false) bR):Ex X (.Assign [.Attribute t aD p] e pi) σ .next aa:=
 ⟨λy y h=>ir (h1.run _ _ λy=>h2.run _ _ λy=>h3.run _ _ _ _ gO kx h) hs⟩
theorem fO:fx X [] σ .next σ:=⟨λy y h=>Fv h⟩
theorem eN {fl:Fl} (h1:Ex X s σ .next a6) (h2:fx X ss a6 fl a9):fx X (s::ss) σ fl a9:=⟨λy Φ h=>gu (h1.run _ _ (h2.run _ Φ h))⟩
theorem gT (h1:Ex X s σ (.ret d) a6):fx X (s::ss) σ (.ret d) a6:=⟨λH Φ h=>gu (h1.run _ (iU X.B X.n X.L ss X.env H Φ) h)⟩
theorem Ku (h1:Ex X s σ .brk a6):fx X (s::ss) σ .brk a6:=⟨λH Φ h=>gu (h1.run _ (iU X.B X.n X.L ss X.env H Φ) h)⟩
end
end
section
variable {c:Nat} {id:String} {p:Pos} {d1:AV} {ss:cM}
section
variable {X:Cx} {σ a6 a9 aa σ':St} {d o a b:AV} {f:Value} {l9 lg:LL} {o8 o3:OL} {x y:cK} {i j:Int} {ms:d8} {l:cL}
theorem A8:fY X .Lt (.int i) (.int j) (decide (i < j)) σ:=⟨λy y y y ma mb h=>Ps ma mb h⟩
theorem P9:fY X .LtE (.int i) (.int j) (decide (i<=j)) σ:=⟨λy y y y ma mb h=>Po ma mb h⟩
theorem JA:fY X .Gt (.int i) (.int j) (decide (j < i)) σ:=⟨λy y y y ma mb h=>Ow ma mb h⟩
theorem Pa:fY X .GtE (.int i) (.int j) (decide (j<=i)) σ:=⟨λy y y y ma mb h=>Pu ma mb h⟩
theorem OE:fY X .Eq (.int i) (.int j) (decide (i=j)) σ:=⟨λy y y y ma mb h=>Py ma mb h⟩
theorem P5:fY X .NotEq (.int i) (.int j) (!decide (i=j)) σ:=⟨λy y y y ma mb h=>Q4 ma mb h⟩
theorem KK:fY X .Eq (.str x) (.str y) (decide (x=y)) σ:=⟨λz z z z ma mb h=>N2 ma mb h⟩
theorem NW:fY X .NotEq (.str x) (.str y) (!decide (x=y)) σ:=⟨λz z z z ma mb h=>KC ma mb h⟩
theorem NF {p q:Bool}:fY X .Eq (.bool p) (.bool q) (p==q) σ:=⟨λy y y y ma mb h=>Kq ma mb h⟩
theorem HM (hy:PyData.strOk (S y)=true):fY X .Eq .none (.str y) false σ:=⟨λx x x x ma mb h=>zm ma mb rfl rfl (by simp[SeqAt.shaped,PyData.canLay0,PyData.depth]) (by simp[SeqAt.shaped,PyData.canLay0,PyData.depth,hy]) (by simp[PyData.eqv]) h⟩
theorem P2 {c:Bool} (hd:∀ P F v,Is P F v a->(v==Value.none)=c):fY X .Is a .none c σ:=⟨λy y y y ma mb h=>zF ma mb hd h⟩
theorem Ih {c:Bool} (hd:∀ P F v,Is P F v a->(v==Value.none)=c):fY X .IsNot a .none (!c) σ:=⟨λy y y y ma mb h=>tv ma mb hd h⟩
theorem Mn (e:dT l=some ms):fY X .In (.str x) (.tup l) (decide (x∈ms)) σ:=⟨λy y y y ma mb h=>EK ma mb e h⟩
theorem GT (e:dT l=some ms):fY X .NotIn (.str x) (.tup l) (!decide (x∈ms)) σ:=⟨λy y y y ma mb h=>Ah ma mb e h⟩
theorem N9 {ks:List Int} (e:pW l=some ks):fY X .In (.int i) (.tup l) (decide (i∈ks)) σ:=⟨λy y y y ma mb h=>MB ma mb e h⟩
theorem KF:fY X .In (.str [c]) (.str x) (decide (c∈x)) σ:=⟨λy y y y ma mb h=>EA ma mb h⟩
theorem tP:rF X .Add (.int i) (.int j) (.int (i+j)) σ:=⟨λy y y y ma mb h=>Nr ma mb h⟩
theorem Fw:rF X .Sub (.int i) (.int j) (.int (i - j)) σ:=⟨λy y y y ma mb h=>N5 ma mb h⟩
theorem EM (hj:j≠0):rF X .Mod (.int i) (.int j) (.int (i.fmod j)) σ:=⟨λy y y y ma mb h=>KW ma mb hj h⟩
theorem Jy (hz:x.length+y.length<=16777216):rF X .Add (.str x) (.str y) (.str (x++y)) σ:=⟨λz z z z ma mb h=>Jg ma mb hz h⟩
theorem L2:xw X .Add (.int i) (.int j) (.int (i+j)) σ:=⟨λy y y y ma mb h=>GK ma mb h⟩
theorem LU:xw X .Sub (.int i) (.int j) (.int (i - j)) σ:=⟨λy y y y ma mb h=>G5 ma mb h⟩
theorem Ix (hz:x.length+y.length<=16777216):xw X .Add (.str x) (.str y) (.str (x++y)) σ:=⟨λz z z z ma mb h=>Dz ma mb hz h⟩
theorem rz {c:Bool}:nG X (.bool c) c σ:=⟨λy y y m h=>lw m h⟩
theorem Iu:nG X .none false σ:=⟨λy y y m h=>GV m h⟩
theorem Nv:nG X (.int i) (!decide (i=0)) σ:=⟨λy y y m h=>LB m h⟩
theorem NT (hz:x.length<=16777216):nG X (.str x) (!decide (x=[])) σ:=⟨λy y y m h=>Nb m hz h⟩
theorem IO {s:Addr}:nG X (.meth g s) true σ:=⟨λy y y m h=>Jr m h⟩
theorem Jx {c:Addr} (m:(c,AO.list l)∈o8) (hz:l.length<=16777216):nG X (.ref c) (!l.isEmpty) ⟨l9,o8⟩:=⟨λy y y mv h=>Gw (σ:=⟨l9,o8⟩) mv m hz h⟩
variable {s:Addr} {C dx:Addr} {fs fs':FL} {n5:Str} {g:Addr}
theorem Ms (m:(s,AO.inst C dx fs)∈o8) (hf:eF n5 fs=none) (ho:gm X.B.K C n5 g=true):uQ X (.ref s) n5 (.meth g s) ⟨l9,o8⟩:=⟨λy y y mv h=>DN (σ:=⟨l9,o8⟩) mv m ho hf h⟩
theorem Lq (m:(s,AO.inst C dx fs)∈o8) (hf:eF n5 fs=none) (ho:oB X.B.K C n5=some i):uQ X (.ref s) n5 (.int i) ⟨l9,o8⟩:=⟨λy y y mv h=>zn (σ:=⟨l9,o8⟩) mv m ho hf h⟩
theorem tz (m:(s,AO.inst C dx fs)∈o8) (hp:mf n5 d fs fs') (hc:nk s (.inst C dx fs) (.inst C dx fs') o8 o3) (ho:ja X.B.K C n5=true) (hz:fs.length<=900:=by simp):sJ X (.ref s) n5 d ⟨l9,o8⟩ ⟨l9,o3⟩:=
 ⟨λy y y y mv md h=>L4 mv md m hp hc ho hz h⟩
theorem vu (m:(s,AO.inst C dx fs)∈o8) (hf:eF n5 fs=none) (ho:gm X.B.K C n5 g=true):lX X (.ref s) n5 (.ref g) ⟨l9,o8⟩:=⟨λy y y y mv h=>zW (σ:=⟨l9,o8⟩) mv m ho hf h⟩
theorem wl (slot:Slot "str" n5 id) (ty:typeOf (.builtin id)=pure (.type "method_descriptor")):lX X (.str x) n5 (.builtin id) σ:=⟨λy y y y mv h=>LD mv slot ty h⟩
theorem IV {c:Addr} (m:(c,AO.list l)∈o8) (slot:Slot "list" n5 id) (ty:typeOf (.builtin id)=pure (.type "method_descriptor")):lX X (.ref c) n5 (.builtin id) ⟨l9,o8⟩:=⟨λy y y y mv h=>Hv (σ:=⟨l9,o8⟩) mv m slot ty h⟩
theorem N1 (m:(s,AO.inst C dx fs)∈o8) (hf:xZ n5 d fs) (ho:iw X.B.K C n5=true) (hn:findIn X.B.K (.ref C) n5=some none) (hd:je d=true):A4 X (.ref s) n5 d ⟨l9,o8⟩:=⟨λy y y y mv h=>nj (σ:=⟨l9,o8⟩) mv m ho hn hf.eq hd h⟩
theorem fW {nm:Str} (m:js nm d l9 lg) (hl:autoParam (X.env.kindOf nm=some .local) bK) (hL:autoParam (X.env.locals=X.L) bR) (hp:autoParam ((X.env.scope.kind==.class||(X.env.scope.kind==.module&&X.env.locals !=X.env.globals))=false) bR):Ka X nm d ⟨l9,o8⟩ ⟨lg,o8⟩:=
 ⟨λy y y md h=>lT md m h hl hL hp⟩
theorem fX {nm:Str} (h1:Ka X nm d σ σ'):zh X (.Name nm p) d σ σ':=⟨λy y y md h=>rl (h1.run _ _ _ md h)⟩
variable {e1 e2:Expr} {k:Nat}
theorem AH (hc:qh x i=some c) (hz:x.length<=16777216) (hs:∀ o i,∃ ops,subscripted e2 false o i=operate ops (getItem o i):=by exact λy y=>⟨_,rfl⟩):iI X e1 e2 (.str x) (.int i) (.str [c]) σ:=⟨λy y y y mo mi h=>Nj mo mi hc hz h (hs _ _)⟩
theorem qD {fs:FL} (hd:eF (S x) fs=some d) (hs:∀ o i,∃ ops,subscripted e2 false o i=operate ops (getItem o i):=by exact λy y=>⟨_,rfl⟩):iI X e1 e2 (.dct fs) (.str x) d σ:=⟨λy y y y mo mi h=>Ky mo mi hd h (hs _ _)⟩
theorem gZ (hk:keepIn X.B.K (.ref g)=true):iL X (.ref g):=⟨λy y y y y y hp h=>nI hk h hp⟩
theorem gV:iL X (.builtin id):=⟨λy y y y y y hp h=>D2 h hp⟩
theorem AK {T:String}:iL X (.type T):=⟨λy y y y y y hp h=>Ck h hp⟩
theorem Ra {m:Nat} {ds:cL} (c:de X.B m g ds o8 λd' o'=>d'=d/\o'=o3) (hm:m<=X.n):eV X (.ref g) ds ⟨l9,o8⟩ d ⟨l9,o3⟩:=⟨λy y y hl hp h=>ki c hm hl hp λd' o' e v=>by obtain⟨rfl,rfl⟩:=e;exact h v⟩
theorem ic {α:Type} {n:Nat} {l:List α} (e:l.length=n+1):∃ a r,l=a::r/\r.length=n:=by
 induction l using List.casesOn with
 | nil=>contradiction
 | cons a r=>exact⟨a,r,rfl,Nat.succ.inj e⟩
theorem nT {α:Type} {l:List α} (e:l.length=0):l=[]:=bo e
theorem oN (h:∀ (H:HL) v (Φ:PV),(v,d1)∈H->(∀ w,Φ w d σ')->WV X.B X.n X.L (call f [v]) H σ Φ):eV X f [d1] σ d σ':=⟨λH vs Φ hl hp k=>by
 refine im (ic hl) ?_;rintro v r rfl hl1
 cases nT hl1
 exact h H v Φ (hp _ dP) k⟩
theorem kL {d2:AV} (h:∀ (H:HL) v w (Φ:PV),(v,d1)∈H->(w,d2)∈H->(∀ w,Φ w d σ')->WV X.B X.n X.L (call f [v,w]) H σ Φ):eV X f [d1,d2] σ d σ':=⟨λH vs Φ hl hp k=>by
 refine im (ic hl) ?_;rintro v r rfl hl1
 refine im (ic hl1) ?_;rintro w r rfl hl2
 cases nT hl2
 exact h H v w Φ (hp _ dP) (hp _ iV) k⟩
theorem FO {d2 d3 d4:AV} (h:∀ (H:HL) v1 v2 v3 v4 (Φ:PV),(v1,d1)∈H->(v2,d2)∈H->(v3,d3)∈H->(v4,d4)∈H->(∀ w,Φ w d σ')->WV X.B X.n X.L (call f [v1,v2,v3,v4]) H σ Φ):eV X f [d1,d2,d3,d4] σ d σ':=⟨λH vs Φ hl hp k=>by
 refine im (ic hl) ?_;rintro v1 r rfl hl1
 refine im (ic hl1) ?_;rintro v2 r rfl hl2
 refine im (ic hl2) ?_;rintro v3 r rfl hl3
 refine im (ic hl3) ?_;rintro v4 r rfl hl4
 cases nT hl4
 exact h H v1 v2 v3 v4 Φ (hp _ dP) (hp _ iV) (hp _ qf) (hp _ Bu) k⟩
theorem mH (hz:x.length<=16777216):eV X (.builtin "len") [.str x] σ (.int x.length) σ:=oN λy y y m h=>IB m hz h
theorem GM {c:Addr} (m:(c,AO.list l)∈o8) (hz:l.length<=16777216):eV X (.builtin "len") [.ref c] ⟨l9,o8⟩ (.int l.length) ⟨l9,o8⟩:=oN λy y y mv h=>I5 (σ:=⟨l9,o8⟩) mv m hz h
theorem MS:eV X (.builtin "ord") [.str [c]] σ (.int c) σ:=oN λy y y m h=>KN m h
theorem Cf:eV X (.builtin "str.count") [.str x,.str [c],.int 0,.int i] σ (.int (fN c x i)) σ:=FO λy y y y y y m1 m2 m3 m4 h=>yQ m1 m2 m3 m4 h
theorem D5:eV X (.builtin "str.rfind") [.str x,.str [c],.int 0,.int i] σ (.int (iN c x i)) σ:=FO λy y y y y y m1 m2 m3 m4 h=>zJ m1 m2 m3 m4 h
theorem za {c:Addr} (m:nk c (.list l) (.list (l++[d])) o8 o3) (hz:l.length<=16777216):eV X (.builtin "list.append") [.ref c,d] ⟨l9,o8⟩ .none ⟨l9,o3⟩:=kL λy y y y mv md h=>lL (σ:=⟨l9,o8⟩) mv md m hz (h _)
theorem zN {c:Addr} (m:(c,AO.list l)∈o8) (e:dT l=some ms) (hz:ms.flatten.length<=16777216):eV X (.builtin "str.join") [.str [],.ref c] ⟨l9,o8⟩ (.str ms.flatten) ⟨l9,o8⟩:=kL λy y y y mv md h=>Ii (σ:=⟨l9,o8⟩) mv md m e hz h
theorem mS {st:Stmt} (h1:Ex X st σ .next a6) (h2:Ik X ss a6 fl a9):Ik X (st::ss) σ fl a9:=⟨λH Φ h=>KJ (h1.run _ (jC X.B X.n X.L ss X.env H Φ) (h2.run _ Φ h))⟩
theorem HN (h1:fx X ss σ fl a6):Ik X ss σ fl a6:=⟨λy y h=>Mo (h1.run _ _ h)⟩
theorem BB {i:Int} {kk:Nat} {kp:Pos} {t:Expr} {aD:Str} {pi:Pos} (h1:Ev X t σ o a6) (h2:sJ X o aD (.int i) a6 a9) (h3:Ik X ss a9 fl aa):fx X (.Assign [.Attribute t aD p] (.Constant (.int i) kk kp) pi::ss) σ fl aa:=
 ⟨λH Φ h=>Cd λy=>h1.run _ _ λy=>h2.run _ _ _ _ gO kx (h3.run H Φ h)⟩
theorem ow {u v:Str} {ca cb:Str} {la lb l:cK} {q ap pi px:Pos} {ka kb:Nat} {pa pb:Pos} (ea:ca=S la) (eb:cb=S lb) (m:(v,some (.str l))∈l9) (sl:js u (.str (gQ l la lb)) l9 lg)
 (hz:l.length<=1048576) (h:Ik X ss ⟨lg,o8⟩ fl σ') (hb:autoParam (lb.length<=14) bD) (hk:autoParam (X.env.scope.kind=.function) bR) (hy:autoParam (X.env.kindOf v=some .local) bK) (hx:autoParam (X.env.kindOf u=some .local) bK) (hL:autoParam (X.env.locals=X.L) bR) (hd:autoParam ((v==("__debug__":Str))=false) bK)
 (hp:autoParam ((X.env.scope.kind==.class||(X.env.scope.kind==.module&&X.env.locals !=X.env.globals))=false) bR) (hne:autoParam ((S la==S lb)=false) bD) (bg:autoParam ((ap.endLine==px.line)=true) bR)
 (hs:autoParam (swapsWith (.Call (.Attribute (.Name v q) "replace" ap) [.Constant (.str ca) ka pa,.Constant (.str cb) kb pb] [] px) (some (.Name u p)) pi.line X.env=pure false) bR):
 Ik X (.Assign [.Name u p] (.Call (.Attribute (.Name v q) "replace" ap) [.Constant (.str ca) ka pa,.Constant (.str cb) kb pb] [] px) pi::ss) ⟨l9,o8⟩ fl σ':=⟨λH Φ k=>xS ea eb m sl hz hb hk hy hx hL hd hp hne bg (h.run H Φ k) hs⟩
end
section
variable {X:Cx} {σ a6 σ':St} {d:AV} {fl f0:Fl}
def LP:Fl->AV->Prop
 | .ret d,e=>d=e
 | .next,e=>e=.none
 | _,_=>False
end
theorem pK {B:dc} {n:Nat} {o8 o3:OL} {n5 qb:Str} {pj:Arguments} {b3 b5:cM} {sf sh:Scope} {dV kV d7 pm c3 ct oc:Value} {an od:Option Addr} {ol:cY} {f:Addr} {ay ds:cL} {d:AV} {l9:LL} (ps xs:cQ)
 (ho:B.K.lookup f=some ⟨oc,od,.func (fnOf n5 qb pj b3 sf dV kV d7 pm an c3 ct),ol⟩) (ba:codeIn B.K c3 qb=true)
 (hb:fw B (fnOf n5 qb pj b3 sf dV kV d7 pm an c3 ct) ps ay ds) (h:∀ L,∃ fl lg o',fx ⟨B,n,L,envOf qb sh L f c3⟩ b5 ⟨l9,o8⟩ fl ⟨lg,o'⟩/\LP fl d/\o'=o3)
 (eb:autoParam (b3=b5) bC) (es:autoParam (sf=sh) bC)
 (aR:fh ps ds++bare xs=l9:=by simp only[fh,bare,cv,List.map_nil,c7,List.nil_append]<;>rfl) (hl:autoParam (ps.length=ds.length) bR) (hn:autoParam ((ps++xs).Nodup) bD) (b8:autoParam (ps.all (λy=>sh.names.lookup y==some .local)=true) bR)
 (aT:autoParam (sh.isCoroutine=false) bR) (aQ:autoParam (sh.isGenerator=false) bR) (hk:autoParam (sh.kind=.function) bR) (aB:autoParam (∀ x∈sh.names,x.2≠.cell) bD):de B (n+1) f ay o8 λd' o=>d'=d/\o=o3:=
 DL ps xs ho ba hb (λL=>by
 refine kI (h L) ?_;rintro fl lg o' e r rfl
 refine e.run _ _ ?_
 cases fl with
 | ret d=>exact⟨r,rfl⟩
 | next=>exact⟨r.symm,rfl⟩
 | brk=>exact r.elim
 | cont=>exact r.elim) eb es aR hl hn b8 aT aQ hk aB
end
section
variable {X:Cx} {σ:St}
theorem fH {z k:Nat} (h:z≠k):decide ([z]=[k])=false:=cc λq=>h (List.cons.inj q).1
end
section
variable {d:AV} {b:Bool} {e:cN} {v:Value}
section
variable {X:Cx} {σ σ':St}
end
end
section
noncomputable abbrev Qc (az:cK):AO:=.dict [("type",.int 6),("data",.str az)]
noncomputable abbrev JT (az:cK):AV:=.dct [("type",.int 6),("data",.str az)]
section
variable {X:Cx} {σ a6:St} {a c:Addr} {l9 lg:LL} {o8 o3 om:OL} {az y:cK} {l:FL} {ks:cL}
theorem yY (tk:kT a (.dict l) o8 o3) (m:nk c (.list ks) (.list (ks++[.dct l])) o3 om) (hz:ks.length<=16777216):eV X (.builtin "list.append") [.ref c,.ref a] ⟨l9,o8⟩ .none ⟨l9,om⟩:=
 kL λy y y y mv md h=>Fi md tk (lL (σ:=⟨l9,o3⟩) (.tail _ mv) dP m hz (h _))
end
end
section
def Mk {α:Type} (t:Sem α):Prop:=∀ (M:Model) (Γ:Ctx) {Q:α->Pos->Shared->Prop} {E:Value->Pos->Shared->Prop} {p:Pos} {s:Shared},Sem.wp M Γ t Q E p s->Sem.wp M Γ t (λa p' s'=>0 < s'.toks/\Q a p' s') E p s
section
variable {α β:Type}
theorem Mk.fst {t:Sem α} {k:α->Sem β} (h:Mk t):Mk (t >>= k):=λM Γ {Q E p s} w=>by
 rw[Sem.wp_bind']at w |-
 exact Sem.wp_mono M Γ t (λa p' s' ⟨ht,q⟩=>vO M Γ (k a) 1 ht q) (λy y y e=>e) p s (h M Γ w)
theorem Mk.snd {t:Sem α} {k:α->Sem β} (h:∀ a,Mk (k a)):Mk (t >>= k):=λM Γ {Q E p s} w=>by
 rw[Sem.wp_bind']at w |-
 exact Sem.wp_mono M Γ t (λa p' s' q=>h a M Γ q) (λy y y e=>e) p s w
theorem Mk.hold {vs:cO} {t:Sem α} (h:Mk t):Mk (holding vs t):=λM Γ {Q E p s} w=>by
 rw[Sem.wp_holding]at w |-
 exact h M Γ w
theorem Mk.str {x:Str} {k pi} {e5:Env}:Mk (eval (.Constant (.str x) k pi) e5):=λM Γ {Q E p s} w=>⟨Nat.succ_pos _,w⟩
theorem Mk.args {f:Value} {x:Sem Value} {r8:List (Bool×Sem Value)} (h:Mk x):Mk (evalArgs f true ((false,x)::r8) []):=by
 unfold evalArgs;refine Mk.fst ?_
 exact h.fst
theorem Mk.callW {pi:Pos} {f:Value} {first:cO} {x:Sem Value} {r8:List (Bool×Sem Value)} (h:Mk x):Mk (callWith pi f first ((false,x)::r8) []):=by
 unfold callWith;exact(Mk.args h).hold.fst
end
section
variable {B:dc} {n:Nat} {L:Addr} {H:HL} {σ:St} {e5:Env}
theorem PX {st:Stmt} {r8:cM} {Φ:PF} (mk:Mk (exec st e5)) (h:WF B n L (exec st e5) H σ (jC B n L r8 e5 H Φ)):WF B n L (execs (st::r8) e5) H σ Φ:=dg λA F s hA x=>by
 rw[execs_cons];have w:=h.run A F s hA x
 refine cC (cD (Q:=λf s'=>0 < s'.toks/\dm B L H σ F s s' λF' σ'=>∃ e,pJ B.P F' f e/\jC B n L r8 e5 H Φ e σ') (λΓ p hΓ=>mk B.M Γ (w Γ p hΓ)) (λf s5 z=>?_) λy y z=>z)
 have:=kj (s5:=s5) hA z.1 z.2
 rcases f with _ | _<;>exact this
theorem Mk.assignCall {x:Str} {e:Expr} {n5:Str} {c:Str} {k:Nat} {kp p aJ px pi:Pos} {pl:Sem Bool} (hs:swapsWith (.Call (.Attribute e n5 aJ) [.Constant (.str c) k kp] [] px) (some (.Name x p)) pi.line e5=pure false)
 (he:eval (.Call (.Attribute e n5 aJ) [.Constant (.str c) k kp] [] px) e5=(do
  let ov <-eval e e5
  standAt aJ.atName
  let (f,first) <-holding [ov] (getMethod ov n5 pl)
  callWith px f first (backTo px (starEach [.Constant (.str c) k kp] e5)) [])):Mk (exec (.Assign [.Name x p] (.Call (.Attribute e n5 aJ) [.Constant (.str c) k kp] [] px) pi) e5):=by
 rw[exec_Assign_Name e5 x p _ pi hs,he];refine Mk.snd λy=>Mk.fst (Mk.snd λov=>Mk.snd λy=>Mk.snd λfp=>?_)
 exact Mk.callW (Mk.str (x:=c) (k:=k) (pi:=kp) (e5:=e5))
end
theorem Pj {X:Cx} {σ a6 a9:St} {st:Stmt} {ss:cM} {fl:Fl} (mk:Mk (exec st X.env)) (h1:Ex X st σ .next a6) (h2:Ik X ss a6 fl a9):fx X (st::ss) σ fl a9:=⟨λH Φ h=>PX mk (h1.run _ (jC X.B X.n X.L ss X.env H Φ) (h2.run _ Φ h))⟩
end
section
section
variable {B:dc} {n:Nat} {L:Addr} {H:HL} {σ:St} {e5:Env}
theorem GC {v6 slice:Expr} {o i:Value} {a:Addr} {l:cL} {d:AV} {Φ:PV} (mo:(o,.ref a)∈H) (ma:(a,AO.list (l++[d]))∈σ.objs) (mi:(i,.int (-1))∈H) (hz:l.length<=16777000) (h:∀ v,Φ v d σ)
 (hs:∃ ops,subscripted slice false o i=operate ops (getItem o i)):WV B n L (subscriptTail v6 slice o i) H σ Φ:=by
 refine iD (T:="list") (λF s X=>?_) slot_list_getitem.lookup (dg λA F s hA X=>?_) hs
 . obtain rfl:=dF (X.hold mo);refine im (X.objs _ ma) ?_;rintro vs q h1 h2;exact⟨_,h1,rfl⟩
 . obtain rfl:=dF (X.hold mo)
   refine im (X.objs _ ma) ?_;rintro vs q h1 h2
   obtain⟨u,rfl⟩:=dw (X.hold mi);have aE:=h2.length
   rw[bM,bx]at aE
   refine dW (mh.nth h2 (k:=l.length) (d:=d) (by simp)) ?_;rintro y hy hyd
   refine wpAny_getItem_list_neg (l:=a) (items:=vs.toArray) ⟨_,h1,rfl,_,rfl⟩ (by decide) (by simp;omega) (by decide) ?_ (.here X ⟨d,hyd,h _⟩)
   have:((-1:Int)+(vs.toArray.size:Nat)).toNat=l.length:=by simp;omega
   rw[this]
   simpa using hy
theorem J9 {a:Addr} {l:cL} {d:AV} {v5:Value} {l9:LL} {o8 o3:OL} {Φ:PV} (mv:(v5,.ref a)∈H) (m:nk a (.list (l++[d])) (.list l) o8 o3) (hz:l.length<=16777000)
 (h :∀ v,Φ v d ⟨l9,o3⟩):WV B n L (call (.builtin "list.pop") [v5]) H ⟨l9,o8⟩ Φ:=dg λA F s hA X=>by
 refine im (m.split) ?_;rintro pz pv rfl rfl
 obtain rfl:=dF (X.hold mv)
 refine im (X.objs (a,.list (l++[d])) (by simp)) ?_;rintro vs q h1 h2
 have aE:=h2.length
 rw[bM,bx]at aE
 refine dW (mh.nth h2 (k:=l.length) (d:=d) (by simp)) ?_;rintro y hy hyd
 have hvs:IsAll B.P F vs.dropLast l:=by
  have:=mh.era h2 l.length
  rw[List.eraseIdx_append_of_length_le (cB _),Nat.sub_self]at this
  rw[show vs.dropLast=vs.eraseIdx l.length from by rw[<-List.eraseIdx_eq_dropLast];congr 1;omega]
  simpa using this
 refine PyProof.Rows.Copied.pop_at (D:=a) (its:=vs.toArray) (n:=q) h1 (by simpa [aE]using hy) (λh' sb hg=>?_) (by rw[dY];simp;omega)
 refine dm.change (o':=.list l) X (c:=a) (.inl rfl) rfl (λb y x q e=>(sb.2 b q).trans e) ?_ ⟨vs.dropLast,q+1,?_,hvs⟩ rfl rfl ⟨d,hyd,h _⟩
 . refine dW (X.frame) ?_;rintro m5 FR hl
   exact⟨m5,FR.ns.sameBut sb (λe=>(cg.mp X.nodup).1 (by rw[e];exact ee.mpr ⟨_,bz _ dP,.inl rfl⟩)),hl⟩
 . rw[hg];simp[dZ]
end
end
section
variable {ss:cM} {t:Expr} {pi:Pos} {ds:cL}
structure dH (X:Cx) (ss:cM) (σ:St) (Q:PF):Prop where
 run:∀ (H:HL) (Φ:PF),(∀ f σ',Q f σ'->Φ f σ')->WF X.B X.n X.L (execs ss X.env) H σ Φ
structure xV (X:Cx) (s:Stmt) (σ:St) (Q:PF):Prop where
 run:∀ (H:HL) (Φ:PF),(∀ f σ',Q f σ'->Φ f σ')->WF X.B X.n X.L (exec s X.env) H σ Φ
inductive jD (X:Cx) (t:Expr) (b3:cM):Nat->St->St->Prop
 | done {σ σ'}:Te X t σ false σ'->jD X t b3 0 σ σ'
 | step {k σ a6 a9 σ'}:Te X t σ true a6->fx X b3 a6 .next a9->jD X t b3 k a9 σ'->jD X t b3 (k+1) σ σ'
section
variable {X:Cx} {σ a6 a9 σ':St} {Q:PF} {l9 lg:LL} {o8 o3:OL} {a:Addr} {l:cL} {d o:AV}
theorem eu {f:Fl} (h1:fx X ss σ f σ') (h2:Q f σ'):dH X ss σ Q:=⟨λy y h=>h1.run _ _ (h _ _ h2)⟩
theorem eH {s:Stmt} (h1:Ex X s σ .next a6) (h2:dH X ss a6 Q):dH X (s::ss) σ Q:=⟨λH Φ h=>gu (h1.run _ (iU X.B X.n X.L ss X.env H Φ) (h2.run _ Φ h))⟩
theorem De {s:Stmt} (h1:xV X s σ λf σ'=>f≠.next/\Q f σ'):dH X (s::ss) σ Q:=⟨λH Φ h=>gu (h1.run _ (iU X.B X.n X.L ss X.env H Φ) λf σ' ⟨ne,q⟩=>by
 induction f using Fl.casesOn with
 | next=>exact cI rfl ne
 | ret d=>exact h _ _ q
 | brk=>exact h _ _ q
 | cont=>exact h _ _ q)⟩
theorem oA {x y:cM} {c:Bool} (h1:Te X t σ c a6) (h2:Br c (dH X x a6 Q) (dH X y a6 Q)):xV X (.If t x y pi) σ Q:=⟨λz z h=>CC (h1.run _ _ ⟨λq=>(h2.1 q).run _ _ h,λq=>(h2.2 q).run _ _ h⟩)⟩
theorem iO {x:Str} {es:cN} {p lp:Pos} (h1:rR X es σ ds ⟨l9,o8⟩) (hz:ds.length<=16777216) (h2:∀ a,∃ lg,js x (.ref a) l9 lg/\dH X ss ⟨lg,(a,.list ds)::o8⟩ Q)
 (hs:autoParam (swapsWith (.List es lp) (some (.Name x p)) pi.line X.env=pure false) bR) (hl:autoParam (X.env.kindOf x=some .local) bK) (hL:autoParam (X.env.locals=X.L) bR) (hp:autoParam ((X.env.scope.kind==.class||(X.env.scope.kind==.module&&X.env.locals !=X.env.globals))=false) bR):
 dH X (.Assign [.Name x p] (.List es lp) pi::ss) σ Q:=⟨λH Φ h=>gu (gv (uX (h1.run _ _ _ λy y=>⟨hz,λa=>by
 refine dW (h2 a) ?_;rintro lg aW w
 exact lT gO aW (w.run _ Φ h) hl hL hp⟩)) hs)⟩
theorem rp {b3:cM} {k:Nat} (r:jD X t b3 k σ σ'):Ex X (.While t b3 [] pi) σ .next σ':=⟨λy Φ h=>mz (λk σ=>jD X t b3 k σ σ') k r λk σ r=>by
 cases r with
 | done ht=>exact ht.run _ _ ⟨(λq=>nomatch q),λy=>h⟩
 | @step k' _ a6 a9 _ ht hb r=>exact ht.run _ _ ⟨λy=>hb.run _ (lN (λa9=>∃ m,m < k'+1/\jD X t b3 m a9 σ') Φ) ⟨k',Nat.lt_succ_self _,r⟩,λq=>nomatch q⟩⟩
theorem Am {e1 e2:Expr} (m:(a,AO.list (l++[d]))∈o8) (hz:l.length<=16777000) (hs:∀ o i,∃ ops,subscripted e2 false o i=operate ops (getItem o i):=by exact λy y=>⟨_,rfl⟩):iI X e1 e2 (.ref a) (.int (-1)) d ⟨l9,o8⟩:=
 ⟨λy y y y mo mi h=>GC (σ:=⟨l9,o8⟩) mo m mi hz h (hs _ _)⟩
theorem HA (m:nk a (.list (l++[d])) (.list l) o8 o3) (hz:l.length<=16777000):eV X (.builtin "list.pop") [.ref a] ⟨l9,o8⟩ d ⟨l9,o3⟩:=oN λy y y mv h=>J9 mv m hz h
theorem HY {ps:List PyData} (he:dataAll ds=some ps) (sq:PyData.canLayAll0 ps=true) (hc:(ps.any λy=>PyData.eqv y .none)=false):fY X .In .none (.tup ds) false σ:=⟨λx x x x ma mb h=>AW (p:=.none) ma mb rfl he rfl sq (by decide) hc h⟩
end
theorem pU {B:dc} {n:Nat} {o8:OL} {n5 qb:Str} {pj:Arguments} {b3 b5:cM} {sf sh:Scope} {dV kV d7 pm c3 ct oc:Value} {an od:Option Addr} {ol:cY} {f:Addr} {ay:cL} {P:AV->OL->Prop} {l9:LL} (ps xs:cQ)
 (ho:B.K.lookup f=some ⟨oc,od,.func (fnOf n5 qb pj b3 sf dV kV d7 pm an c3 ct),ol⟩) (ba:codeIn B.K c3 qb=true)
 (hb:fw B (fnOf n5 qb pj b3 sf dV kV d7 pm an c3 ct) ps ay ds) (h:∀ L,dH ⟨B,n,L,envOf qb sh L f c3⟩ b5 ⟨l9,o8⟩ λf σ'=>∃ d,f=.ret d/\P d σ'.objs)
 (eb:autoParam (b3=b5) bC) (es:autoParam (sf=sh) bC)
 (aR:fh ps ds++bare xs=l9:=by simp only[fh,bare,cv,List.map_nil,c7,List.nil_append]<;>rfl) (hl:autoParam (ps.length=ds.length) bR) (hn:autoParam ((ps++xs).Nodup) bD) (b8:autoParam (ps.all (λy=>sh.names.lookup y==some .local)=true) bR)
 (aT:autoParam (sh.isCoroutine=false) bR) (aQ:autoParam (sh.isGenerator=false) bR) (hk:autoParam (sh.kind=.function) bR) (aB:autoParam (∀ x∈sh.names,x.2≠.cell) bD):de B (n+1) f ay o8 P:=
 DL ps xs ho ba hb (λL=>(h L).run _ _ λf σ' ⟨d,e,q⟩=>by subst e;exact q) eb es aR hl hn b8 aT aQ hk aB
end
section
variable {e:Expr} {es:cN} {c:Bool} {pi:Pos}
section
variable {B:dc} {n:Nat} {L:Addr} {H:HL} {σ:St}
theorem zA {a b:Value} {c:Nat} {x:cK} {Φ:PV} (ma:(a,.str [c])∈H) (mb:(b,.str x)∈H) (h:∀ v,Φ v (.bool (!decide (c∈x))) σ):WV B n L (compareOp .NotIn a b) H σ Φ:=dg λA F s hA X=>by
 obtain⟨t1,rfl⟩:=dD (X.hold ma);obtain⟨t2,rfl⟩:=dD (X.hold mb);have e:(!(Builtin.Str.occurrences (S x) (S [c]) 0 (S x).length 1).isEmpty)=decide (c∈x):=StrLaws.found_one (S x) c
 with_reducible exact notIn_str (.here X ⟨_,.bool _,by rw[e];exact h _⟩)
end
section
variable {X:Cx} {σ a6 a9 σ':St} {Q:PF} {l9 lg:LL} {o8 o3:OL} {a:Addr} {d:AV} {x:cK}
theorem Jm {c:Nat}:fY X .NotIn (.str [c]) (.str x) (!decide (c∈x)) σ:=⟨λy y y y ma mb h=>zA ma mb h⟩
theorem oy {y:Str} {f:Addr} {fe:Expr} {ay:cN} {p cp:Pos} {ss:cM} {ds:cL} {dv:AV} {m:Nat} {P:AV->OL->Prop} (h1:Bo X fe σ (.ref f) dv) (hk:iL X (.ref f)) (h2:rR X ay σ ds ⟨l9,o8⟩) (c:de X.B m f ds o8 P) (hm:m<=X.n)
 (h3:∀ d o,P d o->∃ lg,js y d l9 lg/\dH X ss ⟨lg,o⟩ Q)
 (he:autoParam (eval (.Call fe ay [] cp) X.env=(do callWith cp (<-eval fe X.env) [] (backTo cp (starEach ay X.env)) [])) bR) (hp:autoParam ((backTo cp (starEach ay X.env)).any (·.1)=false) bR)
 (hs:autoParam (swapsWith (.Call fe ay [] cp) (some (.Name y p)) pi.line X.env=pure false) bR) (hl:autoParam (X.env.kindOf y=some .local) bK) (hL:autoParam (X.env.locals=X.L) bR) (hpp:autoParam ((X.env.scope.kind==.class||(X.env.scope.kind==.module&&X.env.locals !=X.env.globals))=false) bR):
 dH X (.Assign [.Name y p] (.Call fe ay [] cp) pi::ss) σ Q:=⟨λH Φ h=>gu (gv (jJ (h1.run _ _ (hk.run _ _ _ _ _ _ hp (h2.run _ _ _ λvs hl'=>ki c hm hl' (λx hp=>bB _ hp) λd o q v=>by
  refine dW (h3 d o q) ?_;rintro lg aW w
  exact lT gO aW (w.run _ Φ h) hl hL hpp))) he) hs)⟩
theorem rx {t4 i5:Expr} {b3:cM} {N:Nat} {i3:Nat->AV} (lo:Nat->LL) (ob:Nat->OL) (h1:Ev X i5 σ d ⟨lo 0,ob 0⟩) (it:∀ xv,fF X.B X.n X.L xv d N i3)
 (h2:∀ i,i < N->∀ a p,∃ a9,zh X t4 (i3 i) ⟨lo i,(a,.is p)::ob i⟩ a9/\fx X b3 a9 .next ⟨lo (i+1),(a,.is p)::ob (i+1)⟩)
 (hs:autoParam (∀ x,foldedSetIterable i5 X.env x=pure x) bI) (ht:autoParam (∀ it v,letOwnedTupleGo t4 it v=pure ()) bJ):Ex X (.For t4 i5 b3 [] pi) σ .next ⟨lo N,ob N⟩:=⟨λy Φ h=>LO (λi σ=>σ=⟨lo i,ob i⟩)
 (h1.run _ _ λxv=>⟨N,i3,it xv,rfl,λσ e=>e▸h,λi l9 o8 a p v hi e=>by
  obtain⟨rfl,rfl⟩:=St.mk.inj e;refine dW (h2 i hi a p) ?_;rintro a9 w1 w2
  exact w1.run _ _ _ gO (w2.run _ (lr a p _ Φ) ⟨_,_,rfl,rfl⟩)⟩) hs ht⟩
end
end
section
variable {x:Str} {pi:Pos} {t4 e6:Expr} {i6:cN} {i3:Nat->AV}
section
variable {B:dc} {n:Nat} {L:Addr} {H:HL} {e5:Env}
end
section
variable {X:Cx} {σ a6 a9 σ':St} {Q:PF} {l9 lg:LL} {o8 o3:OL} {a c:Addr} {d:AV}
theorem Bj (hc:X.env.cells.lookup x=some c) (m:(c,AO.cell (some d))∈o8) (hk:autoParam (X.env.scope.kind=.function) bR) (hl:autoParam (X.env.kindOf x=some .cell) bK) (hd:autoParam ((x==("__debug__":Str))=false) bK):
 Ev X (.Name x pi) ⟨l9,o8⟩ d ⟨l9,o8⟩:=⟨λy y h=>zv hc m h hk hl hd⟩
theorem JQ {o:cS} (hc:X.env.cells.lookup x=some c) (m:nk c (.cell o) (.cell (some d)) o8 o3) (hk:autoParam (X.env.scope.kind=.function) bR) (hl:autoParam (X.env.kindOf x=some .cell) bK):Ka X x d ⟨l9,o8⟩ ⟨l9,o3⟩:=⟨λy y y md h=>AA hc md m h hk hl⟩
structure Qp (X:Cx) (i6:cN) (σ:St) (b:Bool) (σ':St):Prop where
 run:∀ (H:HL) (Φ:Bool->St->Prop),Φ b σ'->WB X.B X.n X.L (nK i6 X.env) H σ Φ
theorem li:Qp X [] σ true σ:=⟨λy y h=>GN h⟩
noncomputable def eU (keep:Nat->Bool) (val:Nat->AV):Nat->cL
 | 0=>[]
 | i+1=>if keep i=true then eU keep val i++[val i] else eU keep val i
theorem qr (keep:Nat->Bool) (val:Nat->AV):∀ i,(eU keep val i).length<=i
 | 0=>cB _
 | i+1=>by
  unfold eU;have:=qr keep val i
  split
  . rw[bM,bx];exact Nat.lt_succ_of_le ‹_›
  . exact Nat.le_succ_of_le ‹_›
structure iZ (B:dc) (n:Nat) (t4 e6:Expr) (i6:cN) (c6:Addr->Env) (xs:cQ) (i3:AV) (k:Bool) (d:AV) (o8:OL):Prop where
 run:∀ C p q,∃ l4 l5,zh ⟨B,n,C,c6 C⟩ t4 i3 ⟨bare xs,p::q::o8⟩ ⟨l4,p::q::o8⟩/\Qp ⟨B,n,C,c6 C⟩ i6 ⟨l4,p::q::o8⟩ k ⟨l4,p::q::o8⟩/\(k=true->Ev ⟨B,n,C,c6 C⟩ e6 ⟨l4,p::q::o8⟩ d ⟨l5,p::q::o8⟩)
theorem iZ.step {B:dc} {n:Nat} {c6:Addr->Env} {xs:cQ} {keep:Nat->Bool} {val:Nat->AV} {o8:OL} {H:HL} {i:Nat} (hi:i<=16777215) (h:iZ B n t4 e6 i6 c6 xs (i3 i) (keep i) (val i) o8):
 lV B n t4 e6 i6 c6 H xs (i3 i) (λys o=>ys=eU keep val i/\o=o8) (λys o=>ys=eU keep val (i+1)/\o=o8):=by
 rintro C ys o D a p v ⟨rfl,rfl⟩;refine jk (h.run C (D,.list (eU keep val i)) (a,.is p)) ?_;rintro l4 l5 h1 h2 h3
 refine h1.run _ _ _ dP (h2.run _ _ ⟨λhk=>(h3 hk).run _ _ λy=>⟨_,_,rfl,dN (qr _ _ _) hi,?_,rfl⟩,λhk=>⟨_,_,rfl,?_,rfl⟩⟩)
 . conv=>rhs;unfold eU
   rw[cJ hk]
 . conv=>rhs;unfold eU
   rw[cH (by rw[hk];exact bN)]
theorem uz {i5:Expr} {sf:Scope} {cl:List (Str×Addr)} {N:Nat} (xs:cQ) (keep:Nat->Bool) (val:Nat->AV) (hN:N<=16777215) (h1:Ev X i5 σ d ⟨l9,o8⟩) (it:∀ xv,fF X.B X.n X.L xv d N i3)
 (h2:∀ i,i < N->iZ X.B X.n t4 e6 i6 (λC=>compEnvC sf cl C X.env) xs (i3 i) (keep i) (val i) o8)
 (aP:closureFor sf X.env=pure cl) (hx:autoParam (xs.Nodup) bD)
 (aB:autoParam (∀ y∈sf.names,y.2≠.cell) bD) (aL:autoParam (sf.kind=.function) bR) (aI:autoParam (∀ y∈sf.names,y.2=.local->sf.names.lookup y.1=some .local) bD)
 (hs:autoParam (∀ x,foldedSetIterable i5 X.env x=pure x) bI):
 Ev X (.ListComp e6 [⟨t4,i5,i6,0⟩] sf pi) σ (.lst (eU keep val N)) ⟨l9,o8⟩:=⟨λz z h=>jT (A2 xs (λi ys o=>ys=eU keep val i/\o=o8) (h1.run _ _ λxv=>⟨N,i3,it xv,⟨rfl,rfl⟩,λi hi=>iZ.step (by exact cy (sv ‹_› ‹_›)) (h2 i hi),λys o D ⟨e1,e2⟩=>⟨D,_,l9,o8,rfl,by rw[e1,e2],h _⟩⟩) aP hx aB aL aI hs)⟩
end
end
section
section
variable {X:Cx} {σ a6 a9 σ':St} {Q:PF} {R:St->Prop} {f:Fl}
theorem Bi {t:Expr} {b3:cM} {pi:Pos} (Inv:Nat->St->Prop) {n:Nat} (h0:Inv n σ)
 (step:∀ k σ,Inv k σ->(∃ σ',Te X t σ false σ'/\Q .next σ')\/∃ a6,Te X t σ true a6/\dH X b3 a6 λf a9=>f=.next/\∃ m,m < k/\Inv m a9):xV X (.While t b3 [] pi) σ Q:=⟨λy Φ h=>mz Inv n h0 λk σ r=>by
 rcases step k σ r with⟨σ',ht,q⟩ | ⟨a6,ht,hb⟩
 . exact ht.run _ _ ⟨(λq=>nomatch q),λy=>h _ _ q⟩
 . exact ht.run _ _ ⟨λy=>hb.run _ (lN (λa9=>∃ m,m < k/\Inv m a9) Φ) (λf a9 ⟨e,i⟩=>by subst e;exact i),λq=>nomatch q⟩⟩
theorem jh {s:Stmt} {ss:cM} (R:St->Prop) (h1:xV X s σ λf σ'=>f=.next/\R σ') (h2:∀ σ',R σ'->dH X ss σ' Q):dH X (s::ss) σ Q:=⟨λH Φ h=>gu (h1.run _ (iU X.B X.n X.L ss X.env H Φ) λf σ' ⟨e,r⟩=>by subst e;exact(h2 σ' r).run _ Φ h)⟩
theorem j5 (h:Q .next σ):dH X [] σ Q:=eu fO h
section
variable {a:Addr} {x:cK} {d:AV} {l l':FL} {l9:LL} {o8 o3:OL}
theorem Ba {o i v6:Expr} {p pi:Pos} (h1:Ev X v6 σ d a6) (h2:Ev X o a6 (.ref a) a9) (h3:Ev X i a9 (.str x) ⟨l9,o8⟩) (hp:mf (S x) d l l') (m:nk a (.dict l) (.dict l') o8 o3) (hz:l.length<=900)
 (hs:autoParam (swapsWith v6 (some (.Subscript o i p)) pi.line X.env=pure false) bR):Ex X (.Assign [.Subscript o i p] v6 pi) σ .next ⟨l9,o3⟩:=
 ⟨λy y h=>kf (h1.run _ _ λy=>h2.run _ _ λy=>h3.run _ _ λy=>uD kx gO qf hp m hz h) hs⟩
theorem uL {ks:List (Option Expr)} {es:cN} {dp pi:Pos} {ss:cM} {l:FL} (h1:LK X ks es σ l ⟨l9,o8⟩) (hn:ij (l.map (·.1))=true) (h2:∀ a,Q (.ret (.ref a)) ⟨l9,(a,.dict l)::o8⟩)
 (aW:autoParam ((evalEachOpt ks X.env).zip ((evalEach es X.env).map λv=>do let x <-v;standAt dp;pure x)=(dO X.env dp ks es).map λp=>(some p.1,p.2)) bR)
 (h0:dO X.env dp ks es≠[]:=by exact List.cons_ne_nil _ _) (hl:(dO X.env dp ks es).length<=15:=by exact eP (by rfl)):dH X (.Return (some (.Dict ks es dp)) pi::ss) σ Q:=
 ⟨λH Φ h=>gu (pM (vP (h1.run _ _ _ ⟨eT hn,λa=>h _ _ (h2 a)⟩) aW h0 hl))⟩
end
end
end
section
section
variable {γ:Type} {B:dc} {m n:Nat} {L:Addr} {H:HL} {e5:Env} {σ:St}
theorem yR {tr todo:List γ} {i:Nat} {x:γ} (e:tr.drop i=x::todo):tr[i]? =some x/\tr.drop (i+1)=todo:=by
 constructor
 . rw[<-Nat.add_zero i,<-List.getElem?_drop,e];rfl
 . rw[<-List.drop_drop,e];rfl
theorem Jk {t1 t2:Expr} {k:Nat} {p:Pos} {v:Value} {d1 d2:AV} {Φ:St->Prop} (mv:(v,.tup [d1,d2])∈H) (h:∀ v1 v2,WU B n L (assign t1 e5 v1) ((v1,d1)::(v2,d2)::H) σ λa9=>WU B n L (assign t2 e5 v2) ((v1,d1)::(v2,d2)::H) a9 Φ)
 (he:autoParam (assignEach [t1,t2] e5=[(false,assign t1 e5),(false,assign t2 e5)]) bR):WU B n L (assign (.Tuple [t1,t2] k p) e5 v) H σ Φ:=dg λA F s hA X=>by
 refine kI (iy (X.hold mv)) ?_;rintro a vs m rfl e1 e2
 refine jk (qx.two e2) ?_;rintro v1 v2 rfl q1 q2
 refine assign_Tuple_tuple hA.handled (m6 X.sub e1) (by rw[he];rfl) (by rw[he];rfl) λh' hk=>?_
 rw[he];have keep:∀ b o,s.heap.get? b=some o->h'.get? b=some o:=λb o e=>hk b o (Nat.ne_of_lt (cz e)) e
 have x1:=((X.grow keep).push q2).push q1
 refine assignInOrder_cons ?_
 refine cD ((h v1 v2).run A F { s with heap:=h' } hA x1) (λy s6 z=>?_) λy y z=>z
 obtain⟨F2,aa,x4,p6,w7⟩:=z;refine assignInOrder_cons (cD (w7.run A F2 s6 hA x4) (λy s9 z=>?_) λy y z=>z)
 obtain⟨F3,ab,x5,p7,q⟩:=z;exact assignInOrder_nil ⟨F3,ab,x5.weaken λy hp=>.tail _ (.tail _ hp),eC.trans (s':={ s with heap:=h' }) ⟨λb o y e=>keep b o e,λy h=>.inl h,λy y e=>.inl e,.refl F,.refl _,rfl⟩ (p6.trans p7),q⟩
inductive Nh (B:dc) (m:Nat) (L:Addr) (H:HL) (O:cP) (F:Fz) (s:Shared) (a g Lg:Addr) (YJ:γ->AV->OL->Prop) (RJ:OL->Prop) (tr:List γ) (lo:Nat->LL) (own:Nat->OL) (k:Nat) (s':Shared):Prop
 | mk (i:Nat) (F':Fz) (o':Obj) (gb:OL) (gs':GenState) (hi:i<=tr.length) (e:k=tr.length - i) (x:Holds B.P B.G L F' ((.ref a,.obj (un g))::H) ⟨lo i,jH Lg o'::(gb++own i)⟩ s'.heap)
  (p:eC O F s (L::dj (jH Lg o'::(gb++own i))) F' (fin g s')) (hg:s'.gens[g]? =some gs') (lv:vr B m Lg YJ RJ (tr.drop i) o' gb F' gs')
inductive AB (B:dc) (m n:Nat) (L:Addr) (e5:Env) (t4:Expr) (b3:cM) (YJ:γ->AV->OL->Prop) (RJ:OL->Prop) (tr:List γ) (lo:Nat->LL) (own:Nat->OL) (Φ:PF) (d:AV) (a6:St):Prop
 | mk (x:Addr) (g9:OL) (ed:d=.ref x) (es:a6=⟨lo 0,g9++own 0⟩) (it:kD B n m x g9 YJ RJ tr)
  (step:∀ H i x d g9 a p v,tr[i]? =some x->YJ x d g9->WU B n L (assign t4 e5 v) ((v,d)::H) ⟨lo i,(a,.is p)::(own i++g9)⟩ λa9=>WF B n L (execs b3 e5) H a9 (lr a p (λσ=>σ=⟨lo (i+1),own (i+1)++g9⟩) λy y=>False))
  (fin:∀ gb,RJ gb->Φ .next ⟨lo tr.length,own tr.length++gb⟩)
theorem Ab {t4 i5:Expr} {b3:cM} {pi:Pos} {Φ:PF} (YJ:γ->AV->OL->Prop) (RJ:OL->Prop) (tr:List γ) (lo:Nat->LL) (own:Nat->OL) (hm:m+1<=n)
 (h:WV B n L (eval i5 e5) H σ λy=>AB B m n L e5 t4 b3 YJ RJ tr lo own Φ)
 (hs:autoParam (∀ x,foldedSetIterable i5 e5 x=pure x) bI) (ht:autoParam (∀ it v,letOwnedTupleGo t4 it v=pure ()) bJ):WF B n L (exec (.For t4 i5 b3 [] pi) e5) H σ Φ:=kK λA F s Q hA X fq=>by
 refine wpAny_For (h.then hA X λxv s5 F0 a6 x0 p0 q=>?_) hs
 refine dW (q) ?_;clear q;rintro d hd ⟨x,g9,rfl,rfl,it,step,fin_⟩
 obtain rfl:=dF hd
 refine cD (it A F0 s5 L _ _ _ hA x0) (λr s7 z=>?_) λy y z=>z.elim
 refine Qo (z) ?_;clear z;rintro a g Lg o F1 gs rfl x1 ⟨p5,ga,hg,lv⟩
 have hA':gn (m+1) A:=hA.le hm
 refine codeAny_forLoop (Nh B m L H (L::dj σ.objs) F s a g Lg YJ RJ tr lo own) (λk s6 hI=>?_) tr.length ⟨0,F1,o,g9,gs,cA _,rfl,x1.push ga,p0.trans p5,hg,lv⟩ (ht _)
 obtain⟨i,F2,o7,g6,g8,hi,ek,x4,p6,am,l6⟩:=hI;refine cD (ask hA' x4 (uh (x4.hold dP) x4.sub) am l6) (λr s9 z=>?_) λy y z=>z.elim
 have fl:∀ (u v:OL),(jH Lg o7::(u++v)).Perm ((jH Lg o7::(v++u))++[]):=λy y=>by rw[cm];exact .cons _ bA
 induction todo:tr.drop i using List.casesOn with
 | nil=>
  rw[todo]at z
  obtain⟨rfl,F3,g0,o6,x5,p7,rj⟩:=z;obtain rfl:i=tr.length:=Nat.le_antisymm hi (List.drop_eq_nil_iff.mp todo)
  have pm:(jH Lg o6::(g0++own tr.length)).Perm ((own tr.length++g0)++[jH Lg o6]):=(bA (l₁:=[_])).trans (List.perm_append_comm.append_right _)
  exact wpAny_execs_nil (fq _ _ ⟨F3,_,(x5.drop pm).weaken λy hp=>.tail _ hp,(p6.trans p7).trans (eC.less pm),.next,trivial,fin_ _ rj⟩)
 | cons x todo'=>
  rw[todo]at z
  refine Qo (z) ?_;clear z;rintro v d F3 g0 o6 g7 rfl hv ⟨yj,x5,p7,hV,l7⟩
  obtain⟨hx,e'⟩:=yR todo;have aG:=(List.getElem?_eq_some_iff.mp hx).1
  have fl:∀ (u v:OL),(jH Lg o6::(u++v)).Perm ((jH Lg o6::(v++u))++[]):=λy y=>by rw[cm];exact .cons _ bA
  refine oK (step ((.ref a,.obj (un g))::H) i x d g0 Lg (·=o6) v hx yj) hA ((x5.drop (fl g0 (own i))).push hv) (λy hp=>.tail _ hp) λf s8 F4 ad fe x6 p8 he q=>?_
  refine rn (G:=∃ m',m' < k/\Nh B m L H (L::dj σ.objs) F s a g Lg YJ RJ tr lo own m' s8) (Q:=λf=>Q f s8) he q (λlg o3 e1 e2=>?_) λy y y q=>False.elim q
  subst e1;obtain⟨rfl,rfl⟩:=St.mk.inj e2;exact⟨tr.length - (i+1),ek▸Nat.sub_succ_lt_self _ _ aG,i+1,F4,o6,g0,g7,aG,rfl,x6.drop (fl (own (i+1)) g0),(p6.trans p7).trans ((((eC.less (fl g0 (own i))).trans p8).trans (eC.less (fl (own (i+1)) g0))).fin hV),p8.gens.keep _ _ hV,e'▸l7.mono p8.mono⟩
end
end
section
variable {m:Nat} {p pi:Pos} {ss:cM}
section
variable {X:Cx} {σ a6 a9 σ':St} {Q:PF} {l9 lg:LL} {o8 o3:OL} {a:Addr} {d:AV} {l:cL}
theorem CY {f:Addr} {fe:Expr} {ay:cN} {cp:Pos} {ds:cL} {dv:AV} (h1:Bo X fe σ (.ref f) dv) (hk:iL X (.ref f)) (h2:rR X ay σ ds ⟨l9,o8⟩) (c:de X.B m f ds o8 λd o=>∃ a,d=.ref a/\o=(a,.list l)::o3) (hm:m<=X.n)
 (he:autoParam (eval (.Call fe ay [] cp) X.env=(do callWith cp (<-eval fe X.env) [] (backTo cp (starEach ay X.env)) [])) bR) (hp:autoParam ((backTo cp (starEach ay X.env)).any (·.1)=false) bR):Ev X (.Call fe ay [] cp) σ (.lst l) ⟨l9,o3⟩:=
 ⟨λH Φ h=>jT (jJ (h1.run _ _ (hk.run _ _ _ _ _ _ hp (h2.run _ _ _ λvs hl'=>ki c hm hl' (λy hp=>bB _ hp) λd o q v=>by
  refine dW (q) ?_;clear q;rintro a rfl rfl
  exact⟨a,l,l9,o3,rfl,rfl,h v⟩))) he)⟩
theorem vF {ms:d8} (e:dT l=some ms) (hz:ms.flatten.length<=16777216):eV X (.builtin "str.join") [.str [],.lst l] σ (.str ms.flatten) σ:=
 kL λy y y y mv md h=>Dq mv md e (by rw[rZ];simpa using hz) (by rw[oX];exact h)
theorem yI {y:Str} {C fI:Addr} {fe:Expr} {ay:cN} {cp:Pos} {ds:cL} {dv:AV} {n':Nat} {ae:Addr->Addr->AV->OL->Prop} (h1:Bo X fe σ (.ref C) dv) (hk:iL X (.ref C)) (h2:rR X ay σ ds ⟨l9,o8⟩)
 (hmk:makesIn X.B.K C=true) (hi:findIn X.B.K (.ref C) "__init__"=some (some (.ref fI))) (hf:isFn X.B.K (.ref fI)=true) (c:∀ x dx,de X.B m fI (.ref x::ds) ((x,.inst C dx [])::o8) (ae x dx)) (hn:X.n=n'+1) (hm:m<=n')
 (h3:∀ x dx d o,ae x dx d o->d=.none/\∃ lg,js y (.ref x) l9 lg/\dH X ss ⟨lg,o⟩ Q)
 (he:autoParam (eval (.Call fe ay [] cp) X.env=(do callWith cp (<-eval fe X.env) [] (backTo cp (starEach ay X.env)) [])) bR) (hp:autoParam ((backTo cp (starEach ay X.env)).any (·.1)=false) bR)
 (hs:autoParam (swapsWith (.Call fe ay [] cp) (some (.Name y p)) pi.line X.env=pure false) bR) (hl:autoParam (X.env.kindOf y=some .local) bK) (hL:autoParam (X.env.locals=X.L) bR) (hpp:autoParam ((X.env.scope.kind==.class||(X.env.scope.kind==.module&&X.env.locals !=X.env.globals))=false) bR):
 dH X (.Assign [.Name y p] (.Call fe ay [] cp) pi::ss) σ Q:=by
 obtain⟨B,n,L,e5⟩:=X;dsimp only at*
 subst hn;exact⟨λH Φ h=>gu (gv (jJ (h1.run _ _ (hk.run _ _ _ _ _ _ hp (h2.run _ _ _ λvs hl'=>EZ hmk hi hf c hm hl' (λz hp=>bB _ hp) λx dx d o q=>by
  obtain⟨e,lg,aW,w⟩:=h3 x dx d o q;exact⟨e,lT gO aW (w.run _ Φ h) hl hL hpp⟩))) he) hs)⟩
theorem xX {γ:Type} {t4 i5:Expr} {b3:cM} {x:Addr} {g9:OL} (YJ:γ->AV->OL->Prop) (RJ:OL->Prop) (tr:List γ) (lo:Nat->LL) (own:Nat->OL) (hm:m+1<=X.n)
 (h1:Ev X i5 σ (.ref x) ⟨lo 0,g9++own 0⟩) (g:kD X.B X.n m x g9 YJ RJ tr)
 (h2:∀ i x d g9 a p,tr[i]? =some x->YJ x d g9->∃ a9,zh X t4 d ⟨lo i,(a,.is p)::(own i++g9)⟩ a9/\fx X b3 a9 .next ⟨lo (i+1),(a,.is p)::(own (i+1)++g9)⟩)
 (h3:∀ gb,RJ gb->dH X ss ⟨lo tr.length,own tr.length++gb⟩ Q)
 (hs:autoParam (∀ x,foldedSetIterable i5 X.env x=pure x) bI) (ht:autoParam (∀ it v,letOwnedTupleGo t4 it v=pure ()) bJ):dH X (.For t4 i5 b3 [] pi::ss) σ Q:=
 ⟨λH Φ h=>gu (Ab YJ RJ tr lo own hm (h1.run _ _ λxv=>⟨x,g9,rfl,rfl,g,λH i x d g9 a p v hx hy=>by
  refine dW (h2 i x d g9 a p hx hy) ?_;rintro a9 w1 w2
  exact w1.run _ _ _ gO (w2.run _ (lr a p _ _) ⟨_,_,rfl,rfl⟩),λgb r=>(h3 gb r).run _ Φ h⟩) hs ht)⟩
theorem L3 {t1 t2:Expr} {k:Nat} {d1 d2:AV} (h1:zh X t1 d1 σ a6) (h2:zh X t2 d2 a6 a9) (he:autoParam (assignEach [t1,t2] X.env=[(false,assign t1 X.env),(false,assign t2 X.env)]) bR):zh X (.Tuple [t1,t2] k p) (.tup [d1,d2]) σ a9:=
 ⟨λy y y mv h=>Jk mv (λy y=>h1.run _ _ _ gO (h2.run _ _ _ kx h)) he⟩
theorem ko {r8:OL} (e:o8.Perm (o3++r8)) (h:dH X ss ⟨l9,o3⟩ Q):dH X ss ⟨l9,o8⟩ Q:=⟨λH Φ k=>uN e (h.run H Φ k)⟩
theorem sQ {v6 hi:Expr} {ns:List Int} {j:Int} (h1:Ev X v6 σ (.obj (oD ns)) a6) (h2:Ev X hi a6 (.int j) a9) (hj:0<=j) (hz:ns.length<=16777216)
 (hs:∀ o i,∃ ops,subscripted (.Slice none (some hi) none p) false o i=operate ops (getItem o i):=by intro y y;exact⟨_,rfl⟩) (ht:∀ l r,letTemporaryGo v6 (.ref l) r=pure ():=by intro y y;with_unfolding_all rfl):
 Ev X (.Subscript v6 (.Slice none (some hi) none p) pi) σ (.lst ((ns.take j.toNat).map .int)) a9:=⟨λy y h=>tM (h1.run _ _ λy=>h2.run _ _ λy=>⟨ns,j,rfl,rfl,hj,hz,h⟩) hs ht⟩
theorem re {e1 e2:Expr} {i:Int} {j:Nat} (hi:0<=i) (hj:i.toNat=j) (hd:l[j]? =some d) (hz:l.length<=16777216) (hs:∀ o i,∃ ops,subscripted e2 false o i=operate ops (getItem o i):=by exact λy y=>⟨_,rfl⟩):iI X e1 e2 (.lst l) (.int i) d σ:=
 ⟨λy y y y mo mi h=>MK mo mi hi hj hd hz h (hs _ _)⟩
theorem Bq {x y:Addr} (mx:(x,AO.list l)∈o8) (my:(y,AO.list l)∈o8) (f:∀ d∈l,gz 50 d):fY X .Eq (.ref x) (.ref y) true ⟨l9,o8⟩:=⟨λz z z z ma mb h=>yS (σ:=⟨l9,o8⟩) ma mb mx my f h⟩
theorem B3 {i j k m:Int}:fY X .Eq (.tup [.int i,.int j]) (.tup [.int k,.int m]) (i==k&&j==m) σ:=⟨λy y y y ma mb h=>zs ma mb h⟩
end
end
section
variable {pi:Pos} {ds:cL} {e:Expr}
structure xr (X:Cx) (e:Expr) (σ:St) (R:AV->St->Prop):Prop where
 run:∀ (H:HL) (Φ:PV),(∀ v d σ',R d σ'->Φ v d σ')->WV X.B X.n X.L (eval e X.env) H σ Φ
section
variable {X:Cx} {σ a6 a9:St} {Q:PF} {R:AV->St->Prop} {l9:LL} {o8:OL} {o:AV} {m:Nat} {f:Addr}
theorem BC {es:cN} (h1:rR X es σ ds ⟨l9,o8⟩) (hz:ds.length<=16777216):xr X (.List es pi) σ λd σ'=>∃ a,d=.ref a/\σ'=⟨l9,(a,.list ds)::o8⟩:=
 ⟨λy y h=>uX (h1.run _ _ _ λy y=>⟨hz,λa=>h _ _ _ ⟨a,rfl,rfl⟩⟩)⟩
theorem wB {n5:Str} {aJ:Pos} {ay:cN} {pl:Sem Bool} {P:AV->OL->Prop} (h1:Ev X e σ o a6) (hm:lX X o n5 (.ref f) a6) (hk:iL X (.ref f)) (h2:rR X ay a6 ds ⟨l9,o8⟩) (c:de X.B m f (o::ds) o8 P) (hn:m<=X.n)
 (he:autoParam (eval (.Call (.Attribute e n5 aJ) ay [] pi) X.env=(do
  let ov <-eval e X.env
  standAt aJ.atName
  let (f,first) <-holding [ov] (getMethod ov n5 pl)
  callWith pi f first (backTo pi (starEach ay X.env)) [])) bR) (hp:autoParam ((backTo pi (starEach ay X.env)).any (·.1)=false) bR):xr X (.Call (.Attribute e n5 aJ) ay [] pi) σ λd σ'=>∃ q,P d q/\σ'=⟨l9,q⟩:=
 ⟨λy y h=>uJ (h1.run _ _ λy=>hm.run _ _ _ _ gO λy=>hk.run _ _ _ _ _ _ hp (h2.run _ _ _ λy hl=>ki c hn (by rw[bM,bx,bY,hl,Nat.add_comm]) mZ λd q w v=>h _ _ _ ⟨q,w,rfl⟩)) he⟩
theorem Hg {C fI:Addr} {fe:Expr} {ay:cN} {cp:Pos} {dv:AV} {n':Nat} {ae:Addr->Addr->AV->OL->Prop} (h1:Bo X fe σ (.ref C) dv) (hk:iL X (.ref C)) (h2:rR X ay σ ds ⟨l9,o8⟩)
 (hmk:makesIn X.B.K C=true) (hi:findIn X.B.K (.ref C) "__init__"=some (some (.ref fI))) (hf:isFn X.B.K (.ref fI)=true) (c:∀ x dx,de X.B m fI (.ref x::ds) ((x,.inst C dx [])::o8) (ae x dx)) (hn:X.n=n'+1) (hm:m<=n') (hΦ:∀ x dx d q,ae x dx d q->d=.none)
 (he:autoParam (eval (.Call fe ay [] cp) X.env=(do callWith cp (<-eval fe X.env) [] (backTo cp (starEach ay X.env)) [])) bR) (hp:autoParam ((backTo cp (starEach ay X.env)).any (·.1)=false) bR):
 xr X (.Call fe ay [] cp) σ λd σ'=>∃ x dx q,ae x dx .none q/\d=.ref x/\σ'=⟨l9,q⟩:=by
 obtain⟨B,n,L,e5⟩:=X;dsimp only at*
 subst hn;exact⟨λH Φ h=>jJ (h1.run _ _ (hk.run _ _ _ _ _ _ hp (h2.run _ _ _ λvs hl'=>EZ hmk hi hf c hm hl' (λy hp=>bB _ hp) λx dx d q w=>by
  obtain rfl:=hΦ _ _ _ _ w
  exact⟨rfl,h _ _ _ ⟨x,dx,q,w,rfl,rfl⟩⟩))) he⟩
theorem rS {t:Expr} {aD:Str} {p:Pos} {ss:cM} (h1:xr X e σ R) (h2:∀ d σ',R d σ'->∃ o a6 a9,Ev X t σ' o a6/\sJ X o aD d a6 a9/\dH X ss a9 Q) (hs:autoParam (swapsWith e (some (.Attribute t aD p)) pi.line X.env=pure false) bR):
 dH X (.Assign [.Attribute t aD p] e pi::ss) σ Q:=⟨λH Φ h=>gu (ir (h1.run _ _ λv d σ' w=>by
 refine kI (h2 d σ' w) ?_;rintro o a6 a9 w1 w2 w3
 exact w1.run _ _ λy=>w2.run _ _ _ _ gO kx (w3.run _ Φ h)) hs)⟩
theorem zt {ss:cM} (h1:xr X e σ R) (h2:∀ d σ',R d σ'->dH X ss σ' Q) (hi:autoParam (interactive X.env=false) bR) (hs:autoParam (swapsWith e none pi.line X.env=pure false) bR):
 dH X (.Expr e pi::ss) σ Q:=⟨λH Φ h=>gu (ut (h1.run _ _ λv d σ' w=>(h2 d σ' w).run _ Φ h) hi hs)⟩
end
theorem EF {B:dc} {n:Nat} {o8:OL} {n5 qb:Str} {pj:Arguments} {b3 b5:cM} {sf sh:Scope} {dV kV d7 pm c3 ct oc:Value} {an od:Option Addr} {ol:cY} {f:Addr} {ay:cL} {P:AV->OL->Prop} {l9:LL} (ps xs:cQ)
 (ho:B.K.lookup f=some ⟨oc,od,.func (fnOf n5 qb pj b3 sf dV kV d7 pm an c3 ct),ol⟩) (ba:codeIn B.K c3 qb=true)
 (hb:fw B (fnOf n5 qb pj b3 sf dV kV d7 pm an c3 ct) ps ay ds) (h:∀ L,dH ⟨B,n,L,envOf qb sh L f c3⟩ b5 ⟨l9,o8⟩ λf σ'=>f=.next/\P .none σ'.objs)
 (eb:autoParam (b3=b5) bC) (es:autoParam (sf=sh) bC)
 (aR:fh ps ds++bare xs=l9:=by simp only[fh,bare,cv,List.map_nil,c7,List.nil_append]<;>rfl) (hl:autoParam (ps.length=ds.length) bR) (hn:autoParam ((ps++xs).Nodup) bD) (b8:autoParam (ps.all (λy=>sh.names.lookup y==some .local)=true) bR)
 (aT:autoParam (sh.isCoroutine=false) bR) (aQ:autoParam (sh.isGenerator=false) bR) (hk:autoParam (sh.kind=.function) bR) (aB:autoParam (∀ x∈sh.names,x.2≠.cell) bD):de B (n+1) f ay o8 P:=
 DL ps xs ho ba hb (λL=>(h L).run _ _ λf σ' ⟨e,q⟩=>by subst e;exact q) eb es aR hl hn b8 aT aQ hk aB
end
section
variable {k i:Nat} {v:DV} {ps:List DV} {l:List (Str×DV)} {o:DO} {x:Str}
section
inductive DV where
 | av (d:AV) | slot (i:Nat) | meth (f:Addr) (i:Nat)
abbrev cZ:=List (Str×Option DV)
abbrev cR:=List DV
noncomputable def DV.ctorIdx (x:DV):Nat:=DV.casesOn x (λy=>0) (λy=>1) (λy y=>2)
inductive DO where
 | inst (C dx:Addr) (fs:List (Str×DV))
 | list (l:cL) (ps:cR)
 | dict (l:List (Str×DV))
 | cell (v:Option DV)
 | ao (o:AO)
abbrev cV:=List (Nat×DO)
noncomputable def DO.ctorIdx (x:DO):Nat:=DO.casesOn x (λy y y=>0) (λy y=>1) (λy=>2) (λy=>3) (λy=>4)
structure DS where
 loc:cZ
 objs:cV
 rest:OL
inductive DF where
 | next | brk | cont | ret (v:DV)
noncomputable def DF.ctorIdx (x:DF):Nat:=DF.casesOn x 0 1 2 (λy=>3)
inductive fj where
 | br (b:Bool)
 | ch (c:Nat)
 | cmp (c:Bool)
 | itm (d:AV)
 | call (k:Nat) (v:DV) (o8:cV) (r8:OL) (m:Nat)
 | val (k:Nat) (v:DV) (D:DS)
 | stm (k:Nat) (D:DS)
 | cs (v:DV) (o8:cV) (m:Nat)
noncomputable def fj.ctorIdx (x:fj):Nat:=fj.casesOn x (λy=>0) (λy=>1) (λy=>2) (λy=>3) (λy y y y y=>4) (λy y y=>5) (λy y=>6) (λy y y=>7)
structure Sy where
 D:DS
 n:Nat
 o:List fj
 c:Prop
structure Px where
 X:Cx
 K:Frag
 ρ:cP
 gl:List (Addr×AV)
 cl:List (Str×Nat)
def el (ρ:cP):Nat->Addr:=List.rec (λy=>0) (λa y ih i=>Nat.casesOn i a ih) ρ
def DV.to (ρ:cP):DV->AV
 | .av d=>d
 | .slot i=>.ref (el ρ i)
 | .meth f i=>.meth f (el ρ i)
abbrev mC (ρ:cP) (l:cR):cL:=l.map (DV.to ρ)
abbrev jp (ρ:cP) (l:List (Str×DV)):FL:=l.map λp=>(p.1,p.2.to ρ)
def yC (ρ:cP) (l:cL) (ps:cR):cL:=List.casesOn ps l λp r=>l++mC ρ (p::r)
def DO.to (ρ:cP):DO->AO
 | .inst C dx fs=>.inst C dx (jp ρ fs)
 | .list l ps=>.list (yC ρ l ps)
 | .dict l=>.dict (jp ρ l)
 | .cell v=>.cell (v.map (DV.to ρ))
 | .ao o=>o
abbrev dE (ρ:cP) (r8:OL) (l:cV):OL:=l.map (λp=>(el ρ p.1,p.2.to ρ))++r8
abbrev il (ρ:cP) (l:cZ):LL:=l.map λp=>(p.1,p.2.map (DV.to ρ))
abbrev DS.to (ρ:cP) (D:DS):St:=⟨il ρ D.loc,dE ρ D.rest D.objs⟩
def DF.to (ρ:cP):DF->Fl
 | .next=>.next | .brk=>.brk | .cont=>.cont | .ret v=>.ret (v.to ρ)
noncomputable def DV.bel (n:Nat):DV->Bool
 | .av _=>true
 | .slot i=>Nat.blt i n
 | .meth _ i=>Nat.blt i n
noncomputable def FQ (n:Nat) (o:Option DV):Bool:=Option.casesOn o true (DV.bel n)
noncomputable def DO.bel (n:Nat):DO->Bool
 | .inst _ _ fs=>fs.all λp=>p.2.bel n
 | .list _ ps=>ps.all (DV.bel n)
 | .dict l=>l.all λp=>p.2.bel n
 | .cell v=>FQ n v
 | .ao _=>true
noncomputable def Bt (n:Nat) (l:cZ):Bool:=l.all λp=>FQ n p.2
noncomputable def OV (n:Nat) (l:cV):Bool:=l.all λp=>Nat.blt p.1 n&&p.2.bel n
noncomputable def DS.bel (n:Nat) (D:DS):Bool:=Bt n D.loc&&OV n D.objs
def uv (k:Nat):(cP->Prop)->Prop:=Nat.rec (λp=>p []) (λy ih p=>∀ a,ih λas=>p (a::as)) k
def Bx (k:Nat):(cP->Prop)->Prop:=Nat.rec (λp=>p []) (λy ih p=>∃ a,ih λas=>p (a::as)) k
theorem kC:∀ {p:cP->Prop},uv k p->∀ as,as.length=k->p as:=by
 induction k with
 | zero=>exact λh as e=>bo e▸h
 | succ k ih=>
  intro p h as e
  induction as using List.casesOn with
  | nil=>contradiction
  | cons a r=>exact ih (h a) r (Nat.succ.inj e)
theorem uR:∀ {p:cP->Prop},Bx k p->∃ as,as.length=k/\p as:=by
 induction k with
 | zero=>exact λh=>⟨[],rfl,h⟩
 | succ k ih=>exact λ⟨a,h⟩=>let ⟨as,e,q⟩:=ih h;⟨a::as,cG (·+1) e,q⟩
theorem yW:∀ {p:cP->Prop} {as:cP},as.length=k->p as->Bx k p:=by
 induction k with
 | zero=>
  intro p as e h;obtain rfl:=bo e
  exact h
 | succ k ih=>
  intro p as e h
  induction as using List.casesOn with
  | nil=>contradiction
  | cons a r=>exact⟨a,ih (Nat.succ.inj e) h⟩
theorem j8 {t:cP}:∀ {i:Nat},i < ρ.length->el (ρ++t) i=el ρ i:=by
 induction ρ with
 | nil=>exact λh=>cI h (Nat.not_lt_zero _)
 | cons a r ih=>
  intro i h
  induction i using Nat.casesOn with
  | zero=>rfl
  | succ i=>exact ih (Nat.lt_of_succ_lt_succ h)
theorem yv {x:Addr}:el (ρ++[x]) ρ.length=x:=by
 induction ρ with
 | nil=>rfl
 | cons a r ih=>exact ih
theorem mQ {n:Nat} (h:Nat.blt i n=true):i < n:=eP h
theorem dG {a b:Bool} (h:(a&&b)=true):a=true:=(Bool.and_eq_true_iff.mp h).1
theorem eB {a b:Bool} (h:(a&&b)=true):b=true:=(Bool.and_eq_true_iff.mp h).2
theorem nR {α β:Type} {l:List α} {p:α->Bool} {f g:α->β} (h:l.all p=true) (k:∀ a,p a=true->f a=g a):l.map f=l.map g:=List.map_congr_left λa ha=>k a (List.all_eq_true.mp h a ha)
section
variable {ρ t:cP}
theorem DV.to_app (h:v.bel ρ.length=true):v.to (ρ++t)=v.to ρ:=by
 induction v using DV.casesOn with
 | av d=>rfl
 | slot i=>exact cG AV.ref (j8 (mQ h))
 | meth f i=>exact cG (AV.meth f) (j8 (mQ h))
theorem wS (h:ps.all (DV.bel ρ.length)=true):mC (ρ++t) ps=mC ρ ps:=nR h λy=>DV.to_app
theorem oG {ps:List (Str×DV)} (h:(ps.all λp=>p.2.bel ρ.length)=true):jp (ρ++t) ps=jp ρ ps:=nR h λp q=>cG (Prod.mk p.1) (DV.to_app q)
theorem wG {v:Option DV} (h:FQ ρ.length v=true):v.map (DV.to (ρ++t))=v.map (DV.to ρ):=by
 induction v using Option.casesOn with
 | none=>rfl
 | some v=>exact cG some (DV.to_app h)
theorem jm {l:cL}:yC ρ l ps=l++mC ρ ps:=by
 induction ps using List.casesOn with
 | nil=>exact(cm _).symm
 | cons _ _=>rfl
theorem DO.to_app (h:o.bel ρ.length=true):o.to (ρ++t)=o.to ρ:=by
 cases o with
 | inst C dx fs=>exact cG (AO.inst C dx) (oG h)
 | list l ps=>exact cG AO.list (by rw[jm,jm,wS h])
 | dict l=>exact cG AO.dict (oG h)
 | cell v=>exact cG AO.cell (wG h)
 | ao o=>rfl
theorem qw {l:cZ} (h:Bt ρ.length l=true):il (ρ++t) l=il ρ l:=nR h λp q=>cG (Prod.mk p.1) (wG q)
theorem DS.to_app {D:DS} (h:D.bel ρ.length=true):D.to (ρ++t)=D.to ρ:=by
 show St.mk _ (_++_)=St.mk _ (_++_)
 rw[qw (dG h),nR (g:=λp=>(el ρ p.1,p.2.to ρ)) (eB h) λp q=>congr (cG Prod.mk (j8 (mQ (dG q)))) (DO.to_app (eB q))]
noncomputable def gR {α:Type} (x:Str) (l:List (Str×α)):Option α:=(l.find? λp=>p.1==x).map (·.2)
def sR (x:Str) (d:DV) (l:List (Str×DV)):List (Str×DV):=List.rec [(x,d)] (λp r ih=>bif p.1==x then (x,d)::r else p::ih) l
def xH (x:Str) (d:DV) (l:cZ):Option (cZ):=List.rec none (λp r ih=>bif p.1==x then some ((x,some d)::r) else ih.map (p::·)) l
noncomputable def eY (i:Nat) (l:cV):Option DO:=(l.find? λp=>Nat.beq p.1 i).map (·.2)
def kZ (i:Nat) (o:DO) (l:cV):cV:=List.rec [] (λp r ih=>bif Nat.beq p.1 i then (i,o)::r else p::ih) l
def qK (i:Nat) (l:cV):cV:=List.rec [] (λp r ih=>bif Nat.beq p.1 i then r else p::ih) l
variable {r8:OL}
theorem vG:eF x (jp ρ l)=(gR x l).map (DV.to ρ):=by
 unfold eF gR;rw[List.find?_map];show((l.find? λp=>p.1==x).map _).map _ = _
 cases l.find? λp=>p.1==x<;>rfl
theorem nH (h:gR x l=some v):eF x (jp ρ l)=some (v.to ρ):=by refine vG▸h▸?_;rfl
theorem mY (h:gR x l=none):eF x (jp ρ l)=none:=by refine vG▸h▸?_;rfl
theorem tN {l:cZ} (h:gR x l=some (some v)):(x,some (v.to ρ))∈il ρ l:=by
 refine dW (bu.mp h) ?_;rintro p h1 h2
 have e:=List.find?_some h1
 refine cw.mpr ⟨p,List.mem_of_find?_eq_some h1,?_⟩
 refine(cF e)▸h2▸?_;rfl
theorem wK {d:DV}:jp ρ (sR x d l)=f7 x (d.to ρ) (jp ρ l):=by
 induction l with
 | nil=>rfl
 | cons p r ih=>
  show jp ρ (bif p.1==x then (x,d)::r else p::sR x d r)=if p.1==x then (x,d.to ρ)::jp ρ r else (p.1,p.2.to ρ)::f7 x (d.to ρ) (jp ρ r)
  induction p.1==x using Bool.casesOn with
  | true=>rfl
  | false=>exact cG (List.cons _) ih
theorem ri {d:DV} {l:cZ}:∀ {l':cZ},xH x d l=some l'->js x (d.to ρ) (il ρ l) (il ρ l'):=by
 induction l with
 | nil=>exact λh=>nomatch h
 | cons p r ih=>
  intro l' h
  replace h:(bif p.1==x then some ((x,some d)::r) else (xH x d r).map (p::·))=some l':=h
  induction q:p.1==x using Bool.casesOn with
  | true=>rw[q]at h;obtain rfl:=cF q;obtain rfl:=Option.some.inj h;exact .hit
  | false=>
   rw[q]at h
   refine dW (bu.mp h) ?_;rintro r' h1 h2
   exact h2▸.skip (ih h1)
theorem qE {p:Nat×DO} {r:cV} (h:eY i (p::r)=some o):(Nat.beq p.1 i=true/\p=(i,o))\/(Nat.beq p.1 i=false/\eY i r=some o):=by
 unfold eY at h;rw[List.find?_cons]at h
 induction q:Nat.beq p.1 i using Bool.casesOn with
 | true=>rw[q]at h;exact .inl ⟨rfl,by obtain rfl:=Nat.eq_of_beq_eq_true q;obtain rfl:=Option.some.inj h;rfl⟩
 | false=>rw[q]at h;exact .inr ⟨rfl,h⟩
theorem fB {l:cV} (h:eY i l=some o):(el ρ i,o.to ρ)∈dE ρ r8 l:=by
 refine dW (bu.mp h) ?_;rintro p h1 h2
 exact bB _ (cw.mpr ⟨p,List.mem_of_find?_eq_some h1,by rw[Nat.eq_of_beq_eq_true (List.find?_some (p:=λp:Nat×DO=>Nat.beq p.1 i) h1),h2]⟩)
theorem iW {o':DO} {l:cV} (h:eY i l=some o):nk (el ρ i) (o.to ρ) (o'.to ρ) (dE ρ r8 l) (dE ρ r8 (kZ i o' l)):=by
 induction l with
 | nil=>contradiction
 | cons p r ih=>
  show nk _ _ _ _ (dE ρ r8 (bif Nat.beq p.1 i then (i,o')::r else p::kZ i o' r))
  rcases qE h with⟨e1,e2⟩ | ⟨e1,e2⟩
  . refine e1▸e2▸?_;exact .head
  . refine e1▸?_;exact .tail (ih e2)
theorem Ac {l:cV} (h:eY i l=some o):kT (el ρ i) (o.to ρ) (dE ρ r8 l) (dE ρ r8 (qK i l)):=by
 induction l with
 | nil=>contradiction
 | cons p r ih=>
  show kT _ _ _ (dE ρ r8 (bif Nat.beq p.1 i then r else p::qK i r))
  rcases qE h with⟨e1,e2⟩ | ⟨e1,e2⟩
  . refine e1▸e2▸?_;exact .head
  . refine e1▸?_;exact .tail (ih e2)
theorem jv {l:cL}:(yC ρ l ps).length=l.length+ps.length:=by rw[jm,bM,cq]
theorem mr {l:cL} {p:DV}:AO.list (yC ρ l (ps++[p]))=.list (yC ρ l ps++[p.to ρ]):=by rw[jm,jm,mC,ci,bS];rfl
end
noncomputable def vA (v:DV):cS:=DV.casesOn v some (λy=>none) λy y=>none
theorem qS {d:AV} (h:vA v=some d):v.to ρ=d:=by
 induction v using DV.casesOn with
 | av x=>exact Option.some.inj h
 | slot=>contradiction
 | meth=>contradiction
def lC (ps:cR):Option (cL):=List.rec (some []) (λv y ih=>(vA v).bind λd=>ih.map (d::·)) ps
def oT (ps:List (Str×DV)):Option (FL):=List.rec (some []) (λp y ih=>(vA p.2).bind λd=>ih.map ((p.1,d)::·)) ps
theorem mJ:∀ {l:cL},lC ps=some l->mC ρ ps=l:=by
 induction ps with
 | nil=>exact λh=>Option.some.inj h
 | cons v r ih=>
  intro l h;refine dW (Option.bind_eq_some_iff.mp h) ?_;rintro d h1 h2
  refine dW (bu.mp h2) ?_;rintro l' h3 h4
  exact h4▸congr (cG List.cons (qS h1)) (ih h3)
theorem qC {ps:List (Str×DV)}:∀ {l:FL},oT ps=some l->jp ρ ps=l:=by
 induction ps with
 | nil=>exact λh=>Option.some.inj h
 | cons v r ih=>
  intro l h;refine dW (Option.bind_eq_some_iff.mp h) ?_;rintro d h1 h2
  refine dW (bu.mp h2) ?_;rintro l' h3 h4
  exact h4▸congr (cG (λz=>List.cons (v.1,z)) (qS h1)) (ih h3)
end
end
section
variable {α:Type} {e:Expr} {es:cN} {pi:Pos}
section
noncomputable def fD (e:Expr):Bool:=by
 cases e with
 | Starred=>exact false
 | ListComp=>exact false
 | SetComp=>exact false
 | DictComp=>exact false
 | Set=>exact false
 | Slice=>exact false
 | _=>exact true
noncomputable abbrev jw:=fD
noncomputable abbrev kM:=fD
noncomputable abbrev fL:=fD
noncomputable def jV (e:Expr):Bool:=by
 cases e with
 | Call=>exact false
 | _=>exact true
noncomputable def Nt (o:UnaryOp):Bool:=by
 cases o with
 | Not=>exact true
 | _=>exact false
noncomputable def zI (e:Expr):Bool:=by
 cases e with
 | UnaryOp op=>exact !Nt op
 | BoolOp=>exact false
 | IfExp=>exact false
 | Compare=>exact false
 | _=>exact true
noncomputable abbrev tU (p:α->Bool) (l:List α):Bool:=l.all p
theorem cd {b:Bool} {x y:α} (h:b=true) (e:x=cond b y x):x=y:=by
 subst h;exact e
section
variable {e5:Env}
theorem nZ {t:Option Expr} {l:Nat} (h:jw e=true):swapsWith e t l e5=pure false:=cd h (by clear h;rcases e with _ | _<;>rfl)
theorem nX (h:fD e=true):starEach (e::es) e5=(false,eval e e5)::starEach es e5:=cd h (by clear h;rcases e with _ | _<;>rfl)
theorem qc (h:tU fD es=true):(backTo pi (starEach es e5)).any (·.1)=false:=by
 induction es with
 | nil=>rfl
 | cons e es ih=>exact(nX (dG h))▸(ih (eB h))
theorem xi (h:tU fD es=true):(backTo pi (starEach es e5)).all (!·.1)=true:=by
 induction es with
 | nil=>rfl
 | cons e es ih=>exact(nX (dG h))▸(ih (eB h))
theorem DM {o:Expr} {aD:Str} {w:Sem Value} (h:jV o=true):attributeBase o aD e5 w=w:=cd h (by clear h;rcases o with _ | _<;>rfl)
theorem rf {op:CmpOp} (h:kM e=true):behindInMarks op e=false:=cd h (by clear h;rcases e with _ | _<;>rfl)
theorem CN {x:Str} {xp:Pos} {ay:cN}:eval (.Call (.Name x xp) ay [] pi) e5=(do callWith pi (<-eval (.Name x xp) e5) [] (backTo pi (starEach ay e5)) []):=rfl
theorem BI {aD:Str} (h:jV e=true):eval (.Attribute e aD pi) e5=(do
 let o <-eval e e5
 standAt pi.atName
 let r <-holding [o] (getAttr o aD true)
 letTemporaryGo e o r
 pure r):=cd h (by clear h;rcases e with _ | _<;>rfl)
theorem vT {o:Expr} {n5:Str} {ay:cN} {aJ:Pos} (h:jV o=true) (hs:tU fD ay=true) (hl:Nat.blt ay.length 30=true) (hp:(aJ.endLine==pi.line)=true):
 eval (.Call (.Attribute o n5 aJ) ay [] pi) e5=(do
  let ov <-eval o e5
  standAt aJ.atName
  let (f,first) <-holding [ov] (getMethod ov n5 (do return (<-importBound o e5).getD true))
  callWith pi f first (backTo pi (starEach ay e5)) []):=by
 have hf:methodCallForm (ay.length+0) (backTo pi (starEach ay e5)) (backToKw pi (keywordEach [] e5))=true:=by
  unfold methodCallForm;rw[xi hs,show(backToKw pi (keywordEach [] e5))=[]from rfl]
  exact cr (mQ hl)
 have e1:eval (.Call (.Attribute o n5 aJ) ay [] pi) e5=(do
  let ov <-attributeBase o n5 e5 (eval o e5)
  standAt aJ.atName
  methodCall o n5 aJ pi e5 ov (ay.length+0) (backTo pi (starEach ay e5)) (backToKw pi (keywordEach [] e5))):=rfl
 have e2:methodCallPos true o e5 aJ pi=pure pi:=by
  unfold methodCallPos;rw[hp];rfl
 rw[e1,DM h];unfold methodCall;simp only[hf,e2]
 rfl
theorem C1 (h:zI e=true) (wd:Sem Value):isTrue e e5 wd=(do let v <-wd;standAt e.pos;holding [v] (truthy v)):=cd h (by
 clear h
 cases e with
 | UnaryOp op=>rcases op with _ | _<;>rfl
 | _=>rfl)
theorem mR (h:fL e=true) (o i:Value):∃ ops,subscripted e false o i=operate ops (getItem o i):=⟨[o,i],cd h (by clear h;rcases e with _ | _<;>rfl)⟩
theorem yT (h:fD e=true):assignEach (e::es) e5=(false,assign e e5)::assignEach es e5:=cd h (by clear h;rcases e with _ | _<;>rfl)
theorem uo {c:Prop} [Decidable c] {x:Sem α} {v:α} (h:x=pure v):(if c then pure v else x)=pure v:=by
 subst h;exact ite_self _
theorem uB {ts vs:cN} {k k':Nat} {p p':Pos} {e5:Env} (h:vs.all (foldedForSure 8)=true):swappedStores [.Tuple ts k p] (.Tuple vs k' p') e5=pure none:=by
 unfold swappedStores;exact uo (uo (uo ((cG (λb=>ite (b=true) (pure none) _) h).trans rfl)))
noncomputable def Ad (e:Expr):Bool:=by
 cases e with
 | Tuple vs=>exact vs.all (foldedForSure 8)
 | _=>exact true
theorem ze {ts:cN} {k:Nat} {p:Pos} {e5:Env} (h:Ad e=true):swappedStores [.Tuple ts k p] e e5=pure none:=by
 rcases e with _ | _
 case Tuple=>exact uB h
 all_goals rfl
theorem HH (h:fL e=true) (ov iv c:Value):augStore e ov iv c=(do holding [c,ov,iv] (setItem ov iv c);release [c,ov,iv] [];pure .next):=cd h (by clear h;rcases e with _ | _<;>rfl)
end
end
end
section
section
variable {pn:Program} {w:World} {A:Around} {E:Value->Shared->Prop} {s:Shared}
theorem vQ {vs:cO} {q k:Nat} {v:Value}:Obj.mapSeq (λxs=>xs.setIfInBounds k v) (dZ vs q)=dZ (vs.set k v) q:=by
 show(⟨_,_,.seq (vs.toArray.setIfInBounds k v) (if (vs.toArray.setIfInBounds k v).size==vs.toArray.size then q else q+1),_⟩:Obj)= _
 rw[Array.size_setIfInBounds,bZ];simp
theorem IA {a:Addr} {vs:cO} {q:Nat} {k:Int} {t:Tok} {v:Value} {Q:Unit->Shared->Prop} (h:s.heap.get? a=some (dZ vs q)) (h0:0<=k) (hfit:k < 2 ^ 63) (hn:k < vs.toArray.size)
 (hQ:∀ h',Heap.SameBut a s.heap h'->h'.get? a=some (Obj.mapSeq (λxs=>xs.setIfInBounds k.toNat v) (dZ vs q))->Q () { s with heap:=h' }):wpAny (model pn w) A (setItem (.ref a) (.int k t) v) Q E s:=by
 have hl:s.heap.IsList a vs.toArray:=⟨_,h,rfl,_,rfl⟩
 unfold setItem
 try with_reducible refine cu ?_
 first | refine cC (cE ?_) | skip
 refine cC (wpAny_sequenceKey hl.typeIs (by decide) ?_)
 refine cC (wpAny_callSpecial?_slot (name:=Str.ofString "__setitem__") hl.typeIs slot_list_setitem (wpAny_call_entry slot_list_setitem hl.typeIs entry_list_setitem ?_ (args_list_setitem _ _ _)))
 show wpAny _ _ (Builtin.List.listSubscript? (.int k t) >>= _) _ _ s
 refine cC (wpAny_listSubscript_int (fitsIndex_of h0 hfit) ?_)
 clear hfit;obtain⟨j,rfl⟩:=Int.eq_ofNat_of_zero_le h0;have hj:j < vs.toArray.size:=by omega
 have hx:vs.toArray[j]? =some vs.toArray[j]:=Array.getElem?_eq_getElem hj
 show wpAny _ _ ((seqItemAt a j >>= λr=>pure (r.map (j,·))) >>= _) _ _ s
 refine cC (cC (wpAny_seqItemAt h rfl (cE ?_)))
 rw[hx];show wpAny _ _ (setSeqItemAt a j v >>= _) _ _ s
 have e:=vQ (vs:=vs) (q:=q) (k:=j) (v:=v)
 have fin:Q () { s with heap:=s.heap.update a (Obj.mapSeq (·.setIfInBounds j v)) }:=hQ _ (Heap.SameBut.update ..) (Heap.get?_update_self _ h (Obj.isFreed_of_seq (n:=q) (xs:=(vs.set j v).toArray) (by rw[e])))
 refine cC (wpAny_setSeqItemAt h rfl ?_)
 first
  | exact cC (cE (cE ⟨.none,rfl,cE fin⟩))
  | exact cE ⟨.none,rfl,cE fin⟩
end
theorem IsAll.setAt {P:Params} {F:Fz} {v:Value} {d:AV} {vs:cO} {l:cL} (h:IsAll P F vs l) (q:Is P F v d):∀ k,IsAll P F (vs.set k v) (l.set k d):=
 h.ind (C:=λvs l=>∀ k,IsAll P F (vs.set k v) (l.set k d)) (λy=>.nil) λy y y y h r ih k=>Nat.casesOn k (.cons q r) λk=>.cons h (ih k)
section
variable {B:dc} {n:Nat} {L a:Addr} {H:HL} {l9:LL} {o8 o3:OL} {l:cL} {d:AV} {k:Nat} {ov iv v:Value}
theorem I1 {Φ:St->Prop} (mo:(ov,.ref a)∈H) (mi:(iv,.int k)∈H) (md:(v,d)∈H) (hk:k < l.length) (hz:l.length<=16777000) (m:nk a (.list l) (.list (l.set k d)) o8 o3) (h:Φ ⟨l9,o3⟩):WU B n L (setItem ov iv v) H ⟨l9,o8⟩ Φ:=dg λA F s hA X=>by
 refine im (m.split) ?_;rintro pz pv rfl rfl
 obtain rfl:=dF (X.hold mo)
 obtain⟨t,rfl⟩:=dw (X.hold mi);have hd:=X.hold md
 refine im (X.objs (a,.list l) (bz _ dP)) ?_;rintro vs q h1 h2
 have hl:=h2.length
 refine IA h1 (Int.natCast_nonneg k) (by omega) (by simp;omega) λh' hs ho=>?_
 refine dm.change (o':=.list (l.set k d)) X (c:=a) (.inl rfl) rfl (λb y x q e=>(hs.2 b q).trans e) ?_ ⟨vs.set k v,q,ho.trans (cG some vQ),h2.setAt hd k⟩ rfl rfl h
 refine dW (X.frame) ?_;rintro m5 FR hl
 exact⟨m5,FR.ns.sameBut hs (λe=>(cg.mp X.nodup).1 (by rw[e];exact ee.mpr ⟨_,bz _ dP,.inl rfl⟩)),hl⟩
theorem Ny {Φ:PV} {σ:St} (mo:(ov,.ref a)∈H) (ma:(a,AO.list l)∈σ.objs) (mi:(iv,.int k)∈H) (hd:l[k]? =some d) (hz:l.length<=16777000) (h:∀ v,Φ v d σ):WV B n L (getItem ov iv) H σ Φ:=dg λA F s hA X=>by
 obtain rfl:=dF (X.hold mo)
 refine im (X.objs _ ma) ?_;rintro vs q h1 h2
 obtain⟨u,rfl⟩:=dw (X.hold mi);have aE:=h2.length
 have hkl:k < l.length:=(List.getElem?_eq_some_iff.mp hd).1
 refine dW (mh.nth h2 hd) ?_;rintro y hy hyd
 exact wpAny_getItem_list (l:=a) (items:=vs.toArray) ⟨_,h1,rfl,_,rfl⟩ (by omega) (by omega) (by simpa using hy) (.here X ⟨d,hyd,h _⟩)
theorem Ot {Φ:PV} {σ:St} {v6 slice:Expr} (mo:(ov,.ref a)∈H) (ma:(a,AO.list l)∈σ.objs) (mi:(iv,.int k)∈H) (hd:l[k]? =some d) (hz:l.length<=16777000) (h:∀ v,Φ v d σ)
 (hs:∃ ops,subscripted slice false ov iv=operate ops (getItem ov iv)):WV B n L (subscriptTail v6 slice ov iv) H σ Φ:=
 iD (T:="list") (λF s X=>by obtain rfl:=dF (X.hold mo);refine im (X.objs _ ma) ?_;rintro vs q h1 h2;exact⟨_,h1,rfl⟩) slot_list_getitem.lookup (Ny mo ma mi hd hz h) hs
end
end
section
section
variable {B:dc} {n:Nat} {L:Addr} {H:HL} {l9:LL} {o8:OL} {e5:Env}
theorem Dj {v:Value} {d:AV} {i3:Nat->AV} {a:Addr} {K:Nat->Obj->Prop} (mv:(v,d)∈H) (q:oE B n v d 2 i3 a K):
 W B n L (draw (.ref a) 2) H ⟨l9,(a,.is (K 0))::o8⟩ λvs F σ'=>∃ v1 v2,vs=[v1,v2]/\Is B.P F v1 (i3 0)/\Is B.P F v2 (i3 1)/\σ'=⟨l9,(a,AO.is (K 2))::o8⟩:=by
 obtain⟨next,stop,self,quiet⟩:=q;show W B n L (pyNext (.ref a) >>= _) H _ _
 refine gg (next L 0 l9 o8 H (by decide) mv) ?_
 intro r F a6 z;refine jM z ?_;clear z;rintro v1 rfl q1 rfl
 refine⟨(v1,i3 0)::H,λy h=>.tail _ h,λp hp=>(fG hp).elim (λe=>.inr (e▸q1)) .inl,?_⟩
 show W B n L (holding [v1] (pyNext (.ref a) >>= _) >>= _) _ _ _
 refine gg (af:=λvs F σ'=>∃ v2,vs=[v2]/\Is B.P F v2 (i3 1)/\σ'=⟨l9,(a,AO.is (K 2))::o8⟩) (di ?_) ?_
 . refine gg (next L 1 l9 o8 ((v1,i3 0)::H) (by decide) (.tail _ mv)) ?_
   intro r F a6 z;refine jM z ?_;clear z;rintro v2 rfl q2 rfl
   refine⟨(v2,i3 1)::(v1,i3 0)::H,λy h=>.tail _ h,λp hp=>(fG hp).elim (λe=>.inr (e▸q2)) .inl,?_⟩
   exact dg λy y y y x=>cC (cu (cE (cE (.here x ⟨v2,rfl,x.hold dP,rfl⟩))))
 . intro r F a6 z;refine jM z ?_;clear z;rintro v2 rfl q2 rfl
   refine⟨(v2,i3 1)::(v1,i3 0)::H,λy h=>.tail _ h,λp hp=>(fG hp).elim (λe=>.inr (e▸q2)) .inl,?_⟩
   exact dg λy y y y x=>cE (.here x ⟨v1,v2,rfl,x.hold iV,x.hold dP,rfl⟩)
theorem Bd {v:Value} {d:AV} {i3:Nat->AV} (it:fF B n L v d 2 i3) (mv:(v,d)∈H) (nt:WB B n L (notIterableAtAll v) H ⟨l9,o8⟩ λb a6=>b=false/\a6=⟨l9,o8⟩):
 W B n L (unpackItems v 2 none) H ⟨l9,o8⟩ λvs F σ'=>∃ v1 v2,vs=[v1,v2]/\Is B.P F v1 (i3 0)/\Is B.P F v2 (i3 1)/\σ'=⟨l9,o8⟩:=by
 unfold unpackItems;refine gE (gN nt ?_)
 rintro _ _ ⟨rfl,rfl⟩;rw[cH bN];refine gg (di (it H _ mv)) ?_
 intro r F a6 z;refine jk z ?_;clear z;rintro a K rfl rfl q
 refine⟨H,λy h=>h,λy h=>.inl h,?_⟩
 dsimp only;refine gg (di (Dj mv q)) ?_
 intro r F a6 z;refine FF z ?_;clear z;rintro v1 v2 rfl q1 q2 rfl
 refine⟨(v1,i3 0)::(v2,i3 1)::H,λy h=>.tail _ (.tail _ h),λp hp=>?_,?_⟩
 . rcases fG hp with rfl | hp
   . exact .inr q1
   . rcases fG hp with rfl | hp
     . exact .inr q2
     . exact .inl hp
 rw[cH (show ¬ ([v1,v2]:cO).length < 2 from Nat.lt_irrefl 2)]
 refine gg (di (q.2 L l9 o8 _ (.tail _ (.tail _ mv)))) ?_
 rintro r F a6 ⟨rfl,rfl⟩;refine⟨_,λy h=>h,λy h=>.inl h,?_⟩
 rw[cH (by decide)];exact dg λy y y y x=>cE (.here x ⟨v1,v2,rfl,x.hold dP,x.hold iV,rfl⟩)
theorem ue {v:Value} {l:cL} {σ:St} (mv:(v,.lst l)∈H):WB B n L (notIterableAtAll v) H σ λb a6=>b=false/\a6=σ:=dg λA F s hA X=>by
 refine kI (fz (X.hold mv)) ?_;rintro a vs m rfl e1 e2
 unfold notIterableAtAll;exact cC (wpAny_specialOf (gh X.sub e1).typeIs PySem.F.slot_list_iter.lookup (cE (.here X ⟨rfl,rfl⟩)))
theorem Iq {σ:St} {t1 t2:Expr} {k:Nat} {p:Pos} {v:Value} {d1 d2:AV} {Φ:St->Prop} (mv:(v,.lst [d1,d2])∈H) (h:∀ v1 v2,WU B n L (assign t1 e5 v1) ((v1,d1)::(v2,d2)::H) σ λa9=>WU B n L (assign t2 e5 v2) ((v1,d1)::(v2,d2)::H) a9 Φ)
 (he :autoParam (assignEach [t1,t2] e5=[(false,assign t1 e5),(false,assign t2 e5)]) bR):WU B n L (assign (.Tuple [t1,t2] k p) e5 v) H σ Φ:=by
 obtain⟨l9,o8⟩:=σ;rw[assign_Tuple];refine dt ?_
 unfold unpack;rw[he];refine gg (di (Bd lq mv (ue mv))) ?_
 intro r F a6 z;refine FF z ?_;clear z;rintro v1 v2 rfl q1 q2 rfl
 refine⟨(v1,d1)::(v2,d2)::H,λy h=>.tail _ (.tail _ h),λp hp=>?_,?_⟩
 . rcases fG hp with rfl | hp
   . exact .inr q1
   . rcases fG hp with rfl | hp
     . exact .inr q2
     . exact .inl hp
 . show W B n L (holding [v2] (assign t1 e5 v1) >>= λy=>(holding [] (assign t2 e5 v2) >>= λy=>pure ())) _ _ _
   exact fS (di (i9 (h v1 v2) λa9 w=>fS (di (i9 w λaa q=>oZ (Φ:=λy σ=>Φ σ) q))))
end
end
section
theorem xx (items:Array Value) (j:Int):slicePick items none (some j) none=(items.toList.take (fJ items.size j)).toArray:=by
 have e:sliceBounds none (some j) none items.size=sliceBounds none (some ((fJ items.size j:Nat):Int)) none items.size:=
  (cG (λz:Int=>((0:Int),z,(1:Int))) ((jr items.size j).trans ((jr items.size _).trans (cG Int.ofNat (eX (nY _ _)))).symm):_)
 have e2:=slicePick_upto items (fJ items.size j) (nY _ _)
 unfold slicePick at e2 |-
 rw[e];exact e2
theorem IsAll.take {P:Params} {F:Fz} {vs:cO} {l:cL} (h:IsAll P F vs l):∀ k,IsAll P F (vs.take k) (l.take k):=
 h.ind (C:=λvs l=>∀ k,IsAll P F (vs.take k) (l.take k)) (λk=>Nat.casesOn k .nil λy=>.nil) λy y y y h y ih k=>Nat.casesOn k .nil λk=>.cons h (ih k)
def jl (B:dc) (L:Addr) (d:AV) (l:cL) (σ:St):Prop:=∀ F H h o,Holds B.P B.G L F H σ h->Is B.P F o d->∃ a vs,o=.ref a/\h.IsList a vs.toArray/\IsAll B.P F vs l
theorem jl.trk {B:dc} {L a:Addr} {l:cL} {σ:St} (m:(a,AO.list l)∈σ.objs):jl B L (.ref a) l σ:=λF H h o X q=>by
 obtain rfl:=dF q
 exact im (X.objs _ m) λvs n h1 h2=>⟨a,vs,rfl,⟨_,h1,rfl,n,rfl⟩,h2⟩
theorem jl.lst {B:dc} {L:Addr} {l:cL} {σ:St}:jl B L (.lst l) l σ:=λF H h o X q=>
 kI (fz q) λa vs n e h1 h2=>⟨a,vs,e,gh X.sub h1,h2⟩
theorem nv {pn:Program} {w:World} {A:Around} {E:Value->Shared->Prop} {s:Shared} {v6 slice:Expr} {o i:Value} {T id:String} {ops:cO} {Q:Value->Shared->Prop} (hT:s.TypeIs o T)
 (hl:typeLookup (.type T) "__getitem__"=pure (some (.builtin id))) (h:wpAny (model pn w) A (getItem o i) Q E s) (hs:subscripted slice false o i=operate ops (getItem o i)):wpAny (model pn w) A (subscriptTail v6 slice o i) Q E s:=by
 unfold subscriptTail;refine cC ?_
 rw[getitemInPython_of_ne hT.not_modules];refine cC (wpAny_specialOf hT hl ?_)
 have fin:wpAny (model pn w) A (subscripted slice false o i) (λr s6=>wpAny (model pn w) A (letTemporaryGo v6 o r >>= λy=>pure r) Q E s6) E s:=by
  rw[hs];exact wpAny_operateT (cD h (λr s6 hS=>cC (wpAny_letTemporaryGo (cE hS))) λy y x=>x)
 first
  | exact cE (cC fin)
  | exact cC (cE (cC fin))
  | exact cC fin
section
variable {B:dc} {n:Nat} {L:Addr} {H:HL} {σ:St} {e5:Env}
theorem FS {v6 hi:Expr} {p pi} {Φ:PV}
 (h:WV B n L (eval v6 e5) H σ λo d a6=>WV B n L (eval hi e5) ((o,d)::H) a6 λx du a9=>∃ l j,jl B L d l a9/\du=.int j/\l.length<=16777216/\∀ v,Φ v (.lst (l.take (fJ l.length j))) a9)
 (hs:∀ o i,∃ ops,subscripted (.Slice none (some hi) none p) false o i=operate ops (getItem o i):=by intro x x;exact⟨_,rfl⟩):
 WV B n L (eval (.Subscript v6 (.Slice none (some hi) none p) pi) e5) H σ Φ:=kK λA F s Q hA X fq=>by
 rw[eval_Subscript];refine cC (h.then hA X λo s5 F0 a6 x0 p0 z=>dW z λd hd w8=>?_)
 refine cC (cu (wpAny_Slice (cE (w8.then hA (x0.push hd) λu s6 F2 aa x4 p6 z=>?_))))
 refine dW z ?_;clear z;rintro du hdu z;refine FF z ?_;clear z;rintro l j hL rfl hz q
 refine cE (cC (wpAny_standAt ?_))
 obtain⟨tj,rfl⟩:=dw hdu;refine jk (hL F2 _ s6.heap o x4 (x4.hold dP)) ?_;rintro a vs rfl hl e4
 obtain⟨ops,hs⟩:=hs (.ref a) (.ref s6.heap.objs.size);refine nv (Heap.IsList.typeIs (s:={ s6 with heap:=s6.heap.push { cls:=.type "slice",data:=.fields #[.none,.int j tj,.none] } }) (hl.push _)) list_getitem_lookup
  (wpAny_getItem_list_slice (lo:=none) (hi:=some j) (st:=none) (hl.push _) (Heap.IsSliceOf.new ..) .none (.int j tj) .none (by simp) ?_ (by rw[dY,List.size_toArray,e4.length];exact hz)) hs
 have e:({ cls:=.type "list",data:=.seq (slicePick vs.toArray none (some j) none) }:Obj)=dZ (vs.take (fJ vs.length j)) 0:=by rw[xx];rfl
 rw[e];have x7:=x4.weaken (H':=H) λp hp=>.tail _ hp
 have hn:s6.heap.get? (s6.heap.push { cls:=.type "slice",data:=.fields #[.none,.int j tj,.none] }).objs.size=none:=by
  induction w:s6.heap.get? (s6.heap.push { cls:=.type "slice",data:=.fields #[.none,.int j tj,.none] }).objs.size using Option.casesOn with
  | none=>rfl
  | some y=>have:=cz w;rw[Heap.size_push]at this;exact cI this (Nat.not_lt.mpr (Nat.le_succ _))
 obtain⟨F3,ab,x5,p7,hF,rfl⟩:=dm.fresh (B:=B) (L:=L) (H:=H) (σ:=aa) (F:=F2) (s:=s6) (s':={ s6 with heap:=(s6.heap.push { cls:=.type "slice",data:=.fields #[.none,.int j tj,.none] }).push (dZ (vs.take (fJ vs.length j)) 0) })
  (Ψ:=λF' σ'=>F'=F2.put (s6.heap.push { cls:=.type "slice",data:=.fields #[.none,.int j tj,.none] }).objs.size (dZ (vs.take (fJ vs.length j)) 0)/\σ'=aa) x7 (λb o e=>bw _ (bw _ e)) hn (bE _ rfl) rfl rfl λle=>⟨rfl,rfl⟩
 subst hF;exact fq _ _ ⟨_,ab,x5,p0.trans (p6.trans p7),_,.lst (Fz.put_self ..) (show IsAll _ _ (vs.take (fJ vs.length j)) (l.take (fJ l.length j))from by rw[<-e4.length];exact(e4.mono p7.mono).take _),q _⟩
end
end
section
section
variable {B:dc} {n:Nat} {L:Addr} {H:HL} {σ:St} {a b v:Value} {x y c:Nat} {Φ:PV}
theorem Jv:decide (([x]:cK) < [y])=decide (x < y):=by
 refine decide_eq_decide.mpr ⟨λh=>?_,λh=>List.Lex.rel h⟩
 cases h with
 | rel h=>exact h
 | cons h=>exact cI h (List.not_lt_nil _)
theorem Nm (ma:(a,.str [x])∈H) (mb:(b,.str [y])∈H) (h:∀ v,Φ v (.bool (decide (x<=y))) σ):WV B n L (compareOp .LtE a b) H σ Φ:=dg λA F s hA X=>by
 obtain⟨t,rfl⟩:=dD (X.hold ma);obtain⟨u,rfl⟩:=dD (X.hold mb);refine PySem.P.le_str (.here X ⟨.bool (decide (x<=y)),?_,h _⟩)
 have e:(!decide ((S [y]).cps.toList < (S [x]).cps.toList))=decide (x<=y):=by
  show(!decide (([y]:cK) < [x]))= _
  rw[Jv,<-decide_not];exact decide_eq_decide.mpr Nat.not_lt
 exact e▸.bool _
theorem M1 {i:Int} (mv:(v,.int i)∈H) (hi:0<=i/\i<=1114111) (h:∀ v,Φ v (.str [i.toNat]) σ):WV B n L (call (.builtin "chr") [v]) H σ Φ:=dg λA F s hA X=>by
 obtain⟨t,rfl⟩:=dw (X.hold mv);exact PySem.P.chr_of_int (by rw[cc (Int.not_lt.mpr hi.1),cc (show ¬ i > 1114111 from Int.not_lt.mpr hi.2)];rfl) (.toks X ⟨_,.str [i.toNat] _,h _⟩)
end
section
variable {X:Cx} {σ:St} {x y c:Nat}
theorem tH:fY X .LtE (.str [x]) (.str [y]) (decide (x<=y)) σ:=⟨λz z z z ma mb h=>Nm ma mb h⟩
theorem Mj {i:Int} (hi:0<=i/\i<=1114111):eV X (.builtin "chr") [.int i] σ (.str [i.toNat]) σ:=oN λy y y m h=>M1 m hi h
end
end
section
section
variable {P:Params} {G:Heap} {F F':Fz} {h:Heap} {la lb:Addr} {kv as bs:cL} {R:OL}
theorem IsAll.retell {d d':AV} (le:F.le F') (k:∀ v,Is P F v d->Is P F' v d') (as:cL):∀ {vs:cO},IsAll P F vs (as++d::bs)->IsAll P F' vs (as++d'::bs):=by
 induction as with
 | nil=>
  intro vs h;refine jk (iX h) ?_;rintro v ws rfl q r
  exact .cons (k v q) (r.mono le)
 | cons a as ih=>
  intro vs h;refine jk (iX h) ?_;rintro v ws rfl q r
  exact .cons (q.mono le) (ih r)
theorem gp.frz (x:gp P G F ((lb,.list kv)::(la,.list (as++.ref lb::bs))::R) h):∃ F',F.le F'/\gp P G F' ((la,.list (as++.lst kv::bs))::R) h/\∀ b o,F' b=some o->F b=some o\/b=lb:=by
 refine im (x.objs _ dP) ?_;rintro vs m h1 h2
 have le:=Fz.le_put (o:=dZ vs m) (x.apart lb dP)
 have nd:=cg.mp x.nodup
 have here:Is P (F.put lb (dZ vs m)) (.ref lb) (.lst kv):=.lst (Fz.put_self ..) (h2.mono le)
 have back:∀ b o,F.put lb (dZ vs m) b=some o->F b=some o\/b=lb:=λb o e=>by
  unfold Fz.put at e
  by_cases q:b=lb
  . exact .inr q
  . rw[cH q]at e;exact .inl e
 refine⟨_,le,⟨λb o e=>le _ _ (x.core b o e),λb o e=>?_,λp hp=>?_,nd.2,λb hb=>?_,x.big⟩,back⟩
 . rcases back b o e with q | rfl
   . exact x.sub b o q
   . rw[Fz.put_self]at e;exact Option.some.inj e▸h1
 . rcases fG hp with rfl | hp
   . refine im (x.objs (la,.list (as++.ref lb::bs)) iV) ?_;rintro ws k g1 g2
     exact⟨ws,k,g1,IsAll.retell le (λv q=>by obtain rfl:=dF q;exact here) as g2⟩
   . exact(x.objs p (.tail _ (.tail _ hp))).move le λy y y e=>e
 . cases q:F.put lb (dZ vs m) b with
   | none=>rfl
   | some o=>
    rcases back b o q with e | rfl
    . have:=x.apart b (.tail _ hb);rw[e]at this;contradiction
    . exact cI hb nd.1
end
end
section
theorem de.pre {B:dc} {n:Nat} {f la lb:Addr} {ay kv as bs:cL} {R:OL} {Φ:AV->OL->Prop} (c:de B n f ay ((la,.list (as++.lst kv::bs))::R) Φ):de B n f ay ((lb,.list kv)::(la,.list (as++.ref lb::bs))::R) Φ:=
 λA F s vs hA x hv=>by
  refine jM x.frz ?_;rintro F' le y back
  refine codeAny_mono (c A F' s vs hA y (hv.mono le)) λr s' ⟨v,d,o3,F'',a,b,y',p,q⟩=>?_
  exact⟨v,d,o3,F'',a,b,y',⟨λb o hb=>p.keep b o λh=>hb (.tail _ h),λb hb=>(p.own b hb).imp_left (.tail _),
   λb o e=>Or.elim (p.frz b o e) (λw=>Or.imp_right (λ(z:b=lb)=>Or.inl (List.mem_cons.mpr (.inl z))) (back b o w)) λw=>.inr (Or.imp_left (.tail _) w),le.trans p.mono,p.gens,p.os⟩,q⟩
end
section
theorem gK:plainId "dict.update.loop"=true:=by decide+kernel
theorem kg:entryFor table "dict.update.loop"=some Builtin.«dict.update.loop»:=entryFor_of_fast (by kernel_rfl)
section
variable {pn:Program} {w:World} {A:Around} {E:Value->Shared->Prop} {s:Shared}
theorem xD {a:Addr} {xs:Array Value} {k:Nat} {Q:cT->Shared->Prop} (hx:s.heap.get? a=some { cls:=.type "list",data:=.seq xs k }) (hA:A.handled=none)
 (h:∀ h' tk,(∀ b o,s.heap.get? b=some o->h'.get? b=some o)->Q none { s with heap:=h',toks:=tk }):wpAny (model pn w) A (getAttr? (.ref a) "keys") Q E s:=by
 obtain⟨hp,g,d,tk,os⟩:=s;have hT:∀ tk',(⟨hp,g,d,tk',os⟩:Shared).TypeIs (.ref a) "list":=λy=>⟨_,hx,rfl⟩
 have f1:=sub_AttributeError
 have f3:=F.slot_list_getattribute.lookup
 have f4:=F.slot_list_getattribute.bind (.ref a)
 have f5:=am_list_getattr_none
 have hmiss:typeLookup (.type "list") "keys"=pure none:=am_miss_of_fast (by kernel_rfl)
 unfold getAttr? getAttrBy? getAttrBy
 repeat (any_goals (first | assumption | exact hT _ | ((with_reducible show wpAny _ _ (call (Value.builtin "list.__getattribute__") _ _) _ _ _);refine call_meets F.slot_list_getattribute (hT _) am_entry_list_getattribute (F.args_list_getattribute_2 _ _) (meets_getattribute_miss_list a xs k #[] "keys" _ hmiss (by kernel_rfl) (by decide)) ⟨hx,hA,λh' tk' e hx'=>?_⟩) | wp_step))
 obtain⟨t',u',he⟩:=hx'.there;have hk:=hx'.keeps
 have hE:∀ tk,(⟨h',g,d,tk,os⟩:Shared).TypeIs (.ref e) "AttributeError":=λy=>⟨_,he,rfl⟩
 show wpAny _ _ (getattributeRaised _ _ _ _ _ _ _) _ _ _
 unfold getattributeRaised
 repeat (any_goals (first | assumption | exact hE _ | wp_step))
 exact h _ _ hk
end
end
section
section
variable {B:dc} {n:Nat} {L:Addr} {H:HL} {σ:St} {l9:LL} {o8 o3:OL}
theorem yk {a:Addr} {l:FL} {x:cK} {kv v:Value} {d:AV} {Φ:St->Prop} (mi:(kv,.str x)∈H) (md:(v,d)∈H)
 (m :nk a (.dict l) (.dict (f7 (S x) d l)) o8 o3) (hz:l.length<=100000) (h:Φ ⟨l9,o3⟩):WU B n L (dictSet a kv v) H ⟨l9,o8⟩ Φ:=dg λA F s hA X=>by
 refine im (m.split) ?_;rintro pz pv rfl rfl
 obtain⟨t,rfl⟩:=dD (X.hold mi);have hd:=X.hold md
 refine ud (X.objs (a,.dict l) (by simp)) ?_;rintro ⟨es,k,h1,h2⟩ h3 h4
 refine wpAny_dictSet_pairs (knd:=strKind B.prog B.w) (k:=S x) (bZ _) (ia h2 h3 h1) (λh' hm hs=>?_) ?_
 . refine jk (kr hm) ?_;rintro e7 m' e1 e2 e3
   refine dm.change (o':=.dict (f7 (S x) d l)) X (c:=a) (.inl rfl) rfl (λb y z q e=>(hs.2 b q).trans e) ?_ ⟨⟨e7,m',e1,KM.ents ((we h2).stored hd h3) e2 e3⟩,kq h3,h4⟩ rfl rfl h
   refine dW (X.frame) ?_;rintro m5 FR hl
   exact⟨m5,FR.ns.sameBut hs (λe=>(cg.mp X.nodup).1 (by rw[e];exact ee.mpr ⟨_,bz _ dP,.inl rfl⟩)),hl⟩
 . have:=cG List.length (iB h2)
   simp only[cq]at this
   rw[this,dY];exact dN hz (by decide)
theorem tw {d1 d2:AV} {v:Value} {σ:St} (mv:(v,.lst [d1,d2])∈H):W B n L (Builtin.Dict.pairItems v) H σ λvs F σ'=>∃ v1 v2,vs=[v1,v2]/\Is B.P F v1 d1/\Is B.P F v2 d2/\σ'=σ:=dg λA F s hA X=>by
 refine kI (fz (X.hold mv)) ?_;rintro a vs m rfl e1 e2
 refine jk (xO e2) ?_;rintro v1 v2 rfl q1 q2
 have hl:=X.sub _ _ e1
 unfold Builtin.Dict.pairItems;refine cC (wpAny_typeOf (T:="list") ⟨_,hl,rfl⟩ ?_)
 rw[cJ (by decide)];exact cC (wpAny_seqItems hl rfl (cE (.here X ⟨v1,v2,rfl,q1,q2,rfl⟩)))
noncomputable abbrev dh (p:cK×AV):AV:=.lst [.str p.1,p.2]
noncomputable abbrev gy (l:FL) (p:cK×AV):FL:=f7 (S p.1) p.2 l
theorem lH {x:Str} {d:AV} {l:FL}:(f7 x d l).length<=l.length+1:=by
 induction l with
 | nil=>exact cB _
 | cons p r ih=>
  show(if p.1==x then (x,d)::r else p::f7 x d r).length<=_
  by_cases q:(p.1==x)=true
  . rw[cJ q];exact Nat.le_succ _
  . rw[cH q];exact bX ih
theorem yw {xv res:Value} {dx:AV} {I c:Addr} {K:Nat->Obj->Prop} {ps:List (cK×AV)} {i3:Nat->AV} (hi:∀ i (h:i < ps.length),i3 i=dh ps[i]) (it:oE B n xv dx ps.length i3 I K) (mx:(xv,dx)∈H)
 {A:Around} {R:Result->Shared->Prop} (hA:gn n A.in1) (k:Nat):∀ (i:Nat) (F:Fz) (s:Shared) (az:FL),ps.length - i=k->i<=ps.length->az.length+k<=100000->Holds B.P B.G L F H ⟨l9,(I,.is (K i))::(c,.dict az)::o8⟩ s.heap->
  (∀ s' F',Holds B.P B.G L F' H ⟨l9,(c,.dict ((ps.drop i).foldl gy az))::o8⟩ s'.heap->eC (L::dj ((I,AO.is (K i))::(c,.dict az)::o8)) F s (L::dj ((c,AO.dict ((ps.drop i).foldl gy az))::o8)) F' s'->R (.ok (.ret res)) s')->
  codeAny B.M A (.builtin "dict.update.loop" ⟨[.ref c,.ref I,rawInt i,res],[]⟩) R s:=by
 induction k with
 | zero=>
  intro i F s az hk b9 hz X hR;have e:i=ps.length:=Nat.le_antisymm b9 (Nat.sub_eq_zero_iff_le.mp hk)
  refine codeAny_builtin kg ?_
  rw[Around.under_plainId gK _];show wpAny _ A.in1 (pyNext (.ref I) >>= _) _ _ s
  refine cC ((it.2 L l9 _ H mx).then hA (e▸X) λr s5 F0 a6 x0 p0 q=>?_)
  obtain⟨rfl,rfl⟩:=q;subst e;rw[c9]at hR
  exact cC (cE (cE (hR _ _ x0 p0)))
 | succ k ih=>
  intro i F s az hk b9 hz X hR;have aG:i < ps.length:=Nat.lt_of_sub_pos (hk▸Nat.succ_pos k)
  refine codeAny_builtin kg ?_
  rw[Around.under_plainId gK _];show wpAny _ A.in1 (pyNext (.ref I) >>= _) _ _ s
  refine cC ((it.1 L i l9 _ H aG mx).then hA X λr s5 F0 a6 x0 p0 q=>?_)
  refine jM q ?_;clear q;rintro v rfl hv rfl
  rw[hi i aG]at hv
  show wpAny _ _ (holding [v] _ >>= _) _ _ _
  refine cC (cu (cC (wpAny_tryCatch ((tw (H:=(v,dh ps[i])::H) dP).then hA (x0.push hv) λr s7 F1 a9 x1 p5 q=>?_))))
  refine FF q ?_;clear q;rintro v1 v2 rfl q1 q2 rfl
  show wpAny _ _ (holding [v1,v2] (dictSet c v1 v2)) _ _ _
  have xa:=(((x1.weaken (H':=H) λy hp=>.tail _ hp).push q2).push q1)
  refine cu ((yk (Φ:=λσ'=>σ'=⟨l9,(I,.is (K (i+1)))::(c,.dict (gy az ps[i]))::o8⟩) dP iV (.tail .head) (dN (bU _ _) hz) rfl).then hA xa λy s6 F2 aa x4 p6 q=>?_)
  subst q;refine cE ⟨plainId_quiet gK _,?_⟩
  have hc:((i:Int)+1)=((i+1:Nat):Int):=rfl
  refine ih (i+1) F2 s6 (gy az ps[i]) (by rw[Nat.sub_add_eq,hk];rfl) aG (dN (Nat.add_le_add_right lH k) (by rw[Nat.add_assoc,Nat.add_comm 1 k];exact hz)) (x4.weaken λy hp=>.tail _ (.tail _ hp)) λs' F' X' P'=>?_
  have ed:ps.drop i=ps[i]::ps.drop (i+1):=List.drop_eq_getElem_cons aG
  rw[ed]at hR
  exact hR s' F' X' (p0.trans (p5.trans (p6.trans P')))
end
end
section
section
variable {B:dc} {n:Nat} {L:Addr} {H:HL} {σ:St} {l9:LL} {o8 o3:OL}
theorem gn.in1 {A:Around} (h:gn (n+1) A):gn n A.in1:=⟨h.handled,dN (bG (Nat.le_succ n) A.depth) h.depth,by have:=h.units;show A.units+1+8*n<=9000;omega⟩
theorem sH {A:Around} {id:String} {res xv:Value} {ps:List (cK×AV)} {c:Addr} {az:FL} {F:Fz} {s:Shared} {Q:Fin->Shared->Prop} {E:Value->Shared->Prop} {R:Result->Shared->Prop} {A1:Around} (hA:gn n A) (hA0:A1.in1=A) (mx:(xv,.lst (ps.map dh))∈H)
 (hz:az.length+ps.length<=100000) (X:Holds B.P B.G L F H ⟨l9,(c,.dict az)::o8⟩ s.heap) (hQ:∀ c' s',c'.quiet=true/\codeAny B.M A1 c' R s'->Q (.again c') s')
 (hR:∀ s' F',Holds B.P B.G L F' H ⟨l9,(c,.dict (ps.foldl gy az))::o8⟩ s'.heap->eC (L::dj ((c,AO.dict az)::o8)) F s (L::dj ((c,AO.dict (ps.foldl gy az))::o8)) F' s'->R (.ok (.ret res)) s'):
 wpAny B.M A (Builtin.Dict.updateFrom id c xv [] res) Q E s:=by
 subst hA0;refine kI (fz (X.hold mx)) ?_;rintro a vs m rfl e1 e2
 have hl:=X.sub _ _ e1
 unfold Builtin.Dict.updateFrom;refine cC (wpAny_typeOf (T:="list") ⟨_,hl,rfl⟩ ?_)
 rw[cJ (by decide)];refine cC (xD hl hA.handled λh' tk k=>?_)
 rw[cJ (by rfl)];refine cC (wpAny_rule ?_)
 obtain⟨F0,a6,X0,P0,rfl,rfl⟩:=dm.more (B:=B) (L:=L) (H:=H) (σ:=⟨l9,(c,.dict az)::o8⟩) (F:=F) (s:=s) (s':={ s with heap:=h',toks:=tk }) (Ψ:=λF' σ'=>F'=F/\σ'=⟨l9,(c,.dict az)::o8⟩) X k rfl rfl ⟨rfl,rfl⟩
 refine cC ((lq (B:=B) (n:=n) (L:=L) H _ mx).then hA X0 λr s7 F1 a9 x1 p5 q=>?_)
 refine jk q ?_;clear q;rintro I K rfl rfl it
 refine cE (hQ _ _ ⟨plainId_quiet gK _,?_⟩)
 rw[cq]at it
 exact yw (ps:=ps) (λi h=>by simp[h]) it mx hA ps.length 0 F1 s7 az rfl (cA _) hz x1 λs' F' X' P'=>hR s' F' X' (P0.trans (p5.trans P'))
theorem zg {v5 v:Value} {c:Addr} {az:FL} {ps:List (cK×AV)} {Φ:PV} (mv:(v5,.ref c)∈H) (mx:(v,.lst (ps.map dh))∈H) (hz:az.length+ps.length<=100000)
 (h:Φ .none .none ⟨l9,(c,.dict (ps.foldl gy az))::o8⟩):WV B (n+1) L (call (.builtin "dict.update") [v5,v]) H ⟨l9,(c,.dict az)::o8⟩ Φ:=dg λA F s hA X=>by
 obtain rfl:=dF (X.hold mv)
 refine ud (X.objs (c,.dict az) dP) ?_;rintro ⟨es,k,h1,h2⟩ h3 h4
 have hD:=ia (pn:=B.prog) h2 h3 h1
 refine wpAny_call (codeAny_call_builtin PySem.F.slot_dict_update.plain PySem.F.entry_dict_update (PySem.F.slot_dict_update.check _ _ _ _ _ _ _ _ hD.typeIs (PySem.F.args_dict_update_2 _ _) ?_))
 unfold Builtin.«dict.update» Builtin.Dict.selfAndRest
 refine cC (cC (wpAny_notOrdered_dict hD.typeIs ?_))
 refine cE ?_
 show wpAny _ _ (Builtin.Dict.updateFrom "dict.update" c v [] .none) _ _ _
 exact sH (ps:=ps) hA.in1 rfl mx hz X (λc' s' z=>z) λs' F' X' P'=>⟨F',_,X',P',.none,.none,h⟩
theorem Ae {v:Value} {ps:List (cK×AV)} {σ:St} {Φ:PV} (mx:(v,.lst (ps.map dh))∈H) (hz:ps.length<=100000)
 (h:∀ c,Φ (.ref c) (.ref c) ⟨σ.loc,(c,.dict (ps.foldl gy []))::σ.objs⟩):WV B (n+2) L (call (.type "dict") [v]) H σ Φ:=dg λA F s hA X=>by
 refine callType_codes (Q₁:=λobj s5=>obj=.ref s.heap.objs.size/\s5={ s with heap:=s.heap.push { cls:=.type "dict",data:=.dict #[] } }) PySem.F.kt_called_dict (PySem.F.kt_typeCall_dict_1 _) PySem.F.entry_dict_init (kt_code_dict_new _ ⟨rfl,rfl⟩) ?_
 rintro obj s5 ⟨rfl,rfl⟩;have hg:(s.heap.push { cls:=.type "dict",data:=.dict #[] }).get? s.heap.objs.size=some (dictOf [] 0):=bE _ rfl
 have hT:(⟨s.heap.push { cls:=.type "dict",data:=.dict #[] },s.gens,s.drawn,s.toks,s.os⟩:Shared).TypeIs (.ref s.heap.objs.size) "dict":=⟨_,hg,rfl⟩
 refine⟨hT,PySem.F.args_dict_init_2 _ _,?_⟩
 have hsm:(s.heap.objs.size==sysModules)=false:=lW (B:=B) (dN X.low (by obtain⟨y,hy⟩:=X.there L dP;exact cy (cz hy)))
 obtain⟨F0,a6,X0,P0,rfl,rfl⟩:=dm.track (B:=B) (L:=L) (H:=H) (σ:=σ) (s:=s) (s':={ s with heap:=s.heap.push { cls:=.type "dict",data:=.dict #[] } }) (o:=.dict []) (Ψ:=λF' σ'=>F'=F/\σ'=⟨σ.loc,(s.heap.objs.size,.dict [])::σ.objs⟩) X
  (λb y e=>bw _ e) (λb hb=>by rcases fG hb with rfl | hb;exact eJ _;contradiction) (by simp[AO.more]) ⟨⟨[],0,hg,.nil⟩,List.nodup_nil,hsm⟩ rfl rfl ⟨rfl,rfl⟩
 unfold Builtin.«dict.__init__» Builtin.Dict.selfAndRest
 refine cC (cC (wpAny_notOrdered_dict hT ?_))
 refine cE ?_
 show wpAny _ _ (Builtin.Dict.updateFrom "dict.__init__" s.heap.objs.size v [] .none) _ _ _
 exact sH (ps:=ps) hA.in1.in1 rfl mx (by simpa using hz) X0 (λc' s' z=>z) λs' F' X' P'=>⟨rfl,F',_,X',P0.trans P',.ref s.heap.objs.size,.ref _,h _⟩
end
end
section
theorem IsAll.reverse {P:Params} {F:Fz} {vs:cO} {l:cL} (h:IsAll P F vs l):IsAll P F vs.reverse l.reverse:=
 h.ind (C:=λvs l=>IsAll P F vs.reverse l.reverse) .nil λv d vs l hv y c=>by rw[List.reverse_cons,List.reverse_cons];exact lL.snoc c hv
section
variable {B:dc} {n:Nat} {L:Addr} {H:HL} {σ:St} {e5:Env} {l9:LL} {o8:OL}
theorem Ll {v6 st:Expr} {p pi} {Φ:PV}
 (h:WV B n L (eval v6 e5) H σ λo d a6=>WV B n L (eval st e5) ((o,d)::H) a6 λx du a9=>∃ l,jl B L d l a9/\du=.int (-1)/\l.length<=16777216/\∀ v,Φ v (.lst l.reverse) a9)
 (hs:∀ o i,∃ ops,subscripted (.Slice none none (some st) p) false o i=operate ops (getItem o i):=by intro x x;exact⟨_,rfl⟩):
 WV B n L (eval (.Subscript v6 (.Slice none none (some st) p) pi) e5) H σ Φ:=kK λA F s Q hA X fq=>by
 rw[eval_Subscript];refine cC (h.then hA X λo s5 F0 a6 x0 p0 z=>dW z λd hd w8=>?_)
 refine cC (cu (wpAny_Slice (cE (cE (w8.then hA (x0.push hd) λu s6 F2 aa x4 p6 z=>?_)))))
 refine dW z ?_;clear z;rintro du hdu z;refine FN z ?_;clear z;rintro l hL rfl hz q
 refine cC (wpAny_standAt ?_)
 obtain⟨tj,rfl⟩:=dw hdu;refine jk (hL F2 _ s6.heap o x4 (x4.hold dP)) ?_;rintro a vs rfl hl e4
 obtain⟨ops,hs⟩:=hs (.ref a) (.ref s6.heap.objs.size);refine nv (Heap.IsList.typeIs (s:={ s6 with heap:=s6.heap.push { cls:=.type "slice",data:=.fields #[.none,.none,.int (-1) tj] } }) (hl.push _)) list_getitem_lookup
  (wpAny_getItem_list_slice (lo:=none) (hi:=none) (st:=some (-1)) (hl.push _) (Heap.IsSliceOf.new ..) .none .none (.int (-1) tj) (by decide) ?_ (by rw[dY,List.size_toArray,e4.length];exact hz)) hs
 have e:({ cls:=.type "list",data:=.seq (slicePick vs.toArray none none (some (-1))) }:Obj)=dZ vs.reverse 0:=by rw[krv_pick]
 rw[e];have x7:=x4.weaken (H':=H) λp hp=>.tail _ hp
 have hn:s6.heap.get? (s6.heap.push { cls:=.type "slice",data:=.fields #[.none,.none,.int (-1) tj] }).objs.size=none:=by
  induction w:s6.heap.get? (s6.heap.push { cls:=.type "slice",data:=.fields #[.none,.none,.int (-1) tj] }).objs.size using Option.casesOn with
  | none=>rfl
  | some y=>have:=cz w;rw[Heap.size_push]at this;exact cI this (Nat.not_lt.mpr (Nat.le_succ _))
 obtain⟨F3,ab,x5,p7,hF,rfl⟩:=dm.fresh (B:=B) (L:=L) (H:=H) (σ:=aa) (F:=F2) (s:=s6) (s':={ s6 with heap:=(s6.heap.push { cls:=.type "slice",data:=.fields #[.none,.none,.int (-1) tj] }).push (dZ vs.reverse 0) })
  (Ψ:=λF' σ'=>F'=F2.put (s6.heap.push { cls:=.type "slice",data:=.fields #[.none,.none,.int (-1) tj] }).objs.size (dZ vs.reverse 0)/\σ'=aa) x7 (λb o e=>bw _ (bw _ e)) hn (bE _ rfl) rfl rfl λle=>⟨rfl,rfl⟩
 subst hF;exact fq _ _ ⟨_,ab,x5,p0.trans (p6.trans p7),_,.lst (Fz.put_self ..) (e4.mono p7.mono).reverse,q _⟩
theorem Gq {v:Value} {c:Addr} {l:FL} {Φ:PV} (mv:(v,.ref c)∈H) (m:(c,AO.dict l)∈σ.objs) (hz:l.length<=100000) (h:∀ v,Φ v (.int l.length) σ):WV B n L (call (.builtin "len") [v]) H σ Φ:=dg λA F s hA X=>by
 obtain rfl:=dF (X.hold mv)
 refine ud (X.objs _ m) ?_;rintro ⟨es,k,h1,h2⟩ h3 h4
 have hD:=ia (pn:=B.prog) h2 h3 h1
 have e:=cG List.length (iB h2)
 simp only[cq]at e
 exact call_len_dict h4 hD (by rw[e];omega) (.toks X ⟨.int l.length,e▸.int _ _,h _⟩)
theorem He {v:Value} {d:AV} {l:cL} {Φ:PV} (mv:(v,d)∈H) (m:jl B L d l σ) (hz:l.length<=16777216) (h:∀ v,Φ v (.int l.length) σ):WV B n L (call (.builtin "len") [v]) H σ Φ:=dg λA F s hA X=>by
 refine jk (m F H _ v X (X.hold mv)) ?_;rintro a vs rfl h1 h2
 have aE:=h2.length
 exact Calls.call_len_list (l:=a) (items:=vs.toArray) h1 (by simp[aE];omega) (.toks X ⟨.int l.length,by simp only[List.size_toArray,aE];exact .int _ _,h _⟩)
theorem BX {v:Value} {d:AV} {l:cL} {Ψ:Bool->St->Prop} (mv:(v,d)∈H) (m:jl B L d l σ) (hz:l.length<=16777216) (h:Ψ (!l.isEmpty) σ):WB B n L (truthy v) H σ Ψ:=dg λA F s hA X=>by
 refine jk (m F H _ v X (X.hold mv)) ?_;rintro a vs rfl h1 h2
 have e:vs.toArray.isEmpty=l.isEmpty:=by
  refine h2.ind (C:=λvs l=>vs.toArray.isEmpty=l.isEmpty) rfl λy y y y y y y=>?_
  simp[Array.isEmpty]
 exact wpAny_truthy_list (l:=a) (items:=vs.toArray) h1 (by have:=h2.length;simp[this];omega) (.toks X (e▸h))
theorem Gu {n5:Str} {id:String} {v5:Value} {a:Addr} {l:FL} {pl:Sem Bool} {Ψ:Value×cO->Fz->St->Prop} (mv:(v5,.ref a)∈H) (m:(a,AO.dict l)∈σ.objs) (slot:Slot "dict" n5 id) (ty:typeOf (.builtin id)=pure (.type "method_descriptor"))
 (h:∀ F,Ψ (.builtin id,[v5]) F σ):W B n L (getMethod v5 n5 pl) H σ Ψ:=dg λA F s hA X=>by
 obtain rfl:=dF (X.hold mv)
 refine ud (X.objs _ m) ?_;rintro ⟨es,k,h1,h2⟩ h3 h4
 exact getMethod_builtin (T:="dict") ⟨_,h1,rfl⟩ PySem.F.plainAttrs_dict slot ty (λb e=>by cases e;exact⟨_,h1,rfl⟩) (.here X (h _))
end
end
section
section
variable {X:Cx} {σ a6 a9:St} {l9 lg:LL} {o8 o3 om:OL} {d o:AV} {R:AV->St->Prop} {QF:PF} {e:Expr} {pi p:Pos} {x:Str}
theorem yX (h1:xr X e σ R) (h2:∀ d σ',R d σ'->∃ a9,Ka X x d σ' a9/\QF .next a9) (hs:autoParam (swapsWith e (some (.Name x p)) pi.line X.env=pure false) bR):xV X (.Assign [.Name x p] e pi) σ QF:=
 ⟨λH Φ h=>gv (h1.run _ _ λv d σ' w=>dW (h2 d σ' w) λa9 w1 w2=>w1.run _ _ _ gO (h _ _ w2)) hs⟩
theorem y9 {fe a:Expr} {ps:List (cK×AV)} {dv:AV} (h1:Bo X fe σ (.type "dict") dv) (h2:rR X [a] σ [.lst (ps.map dh)] ⟨l9,o8⟩) (hz:ps.length<=100000) (hn:Nat.ble 2 X.n=true)
 (he:autoParam (eval (.Call fe [a] [] pi) X.env=(do callWith pi (<-eval fe X.env) [] (backTo pi (starEach [a] X.env)) [])) bR) (hp:autoParam ((backTo pi (starEach [a] X.env)).any (·.1)=false) bR):
 xr X (.Call fe [a] [] pi) σ λd σ'=>∃ c,d=.ref c/\σ'=⟨l9,(c,.dict (ps.foldl gy []))::o8⟩:=
 ⟨λH Φ h=>jJ (h1.run _ _ (AK.run _ _ _ _ _ _ hp (h2.run _ _ _ λvs hl=>by
  refine im (ic hl) ?_;rintro v r rfl hl1
  cases nT hl1
  refine AF (Ae (n:=0) (ps:=ps) (bB _ (List.mem_cons_self)) hz λc=>h _ _ _ ⟨c,rfl,rfl⟩) (eP hn)))) he⟩
theorem zP {c:Addr} {l:FL} (m:(c,AO.dict l)∈o8) (hz:l.length<=100000):eV X (.builtin "len") [.ref c] ⟨l9,o8⟩ (.int l.length) ⟨l9,o8⟩:=oN λy y y mv h=>Gq (σ:=⟨l9,o8⟩) mv m hz h
theorem zz {l:cL} (hz:l.length<=16777216):eV X (.builtin "len") [.lst l] σ (.int l.length) σ:=oN λy y y mv h=>He mv .lst hz h
theorem IX {l:cL} (hz:l.length<=16777216):nG X (.lst l) (!l.isEmpty) σ:=⟨λy y y m h=>BX m .lst hz h⟩
theorem Gn {n5:Str} {id:String} {c:Addr} {l:FL} (m:(c,AO.dict l)∈o8) (slot:Slot "dict" n5 id) (ty:typeOf (.builtin id)=pure (.type "method_descriptor")):lX X (.ref c) n5 (.builtin id) ⟨l9,o8⟩:=⟨λy y y y mv h=>Gu (σ:=⟨l9,o8⟩) mv m slot ty h⟩
theorem Bk {c:Addr} {az:FL} {ps:List (cK×AV)} (hz:az.length+ps.length<=100000) (hn:Nat.ble 1 X.n=true):eV X (.builtin "dict.update") [.ref c,.lst (ps.map dh)] ⟨l9,(c,.dict az)::o8⟩ .none ⟨l9,(c,.dict (ps.foldl gy az))::o8⟩:=
 kL λy y y y mv mw h=>AF (zg (n:=0) (ps:=ps) mv mw hz (h _)) (eP hn)
theorem Li {v6 st:Expr} {q:Pos} {l:cL} (h1:Ev X v6 σ (.lst l) a6) (h2:Ev X st a6 (.int (-1)) a9) (hz:l.length<=16777216)
 (hs:∀ o i,∃ ops,subscripted (.Slice none none (some st) q) false o i=operate ops (getItem o i):=by intro y y;exact⟨_,rfl⟩):
 Ev X (.Subscript v6 (.Slice none none (some st) q) pi) σ (.lst l.reverse) a9:=⟨λy y h=>Ll (h1.run _ _ λy=>h2.run _ _ λy=>⟨l,.lst,rfl,hz,h⟩) hs⟩
noncomputable def jA (ps:List (cK×AV)):FL:=if (ps.foldl gy []).length < ps.length then ps.reverse.foldl gy (ps.foldl gy []) else ps.foldl gy []
theorem qR (ps:List (cK×AV)):∀ az:FL,(ps.foldl gy az).length<=az.length+ps.length:=by
 induction ps with
 | nil=>exact λy=>cB _
 | cons p r ih=>exact λaz=>dN (ih _) (by rw[bY,Nat.add_comm r.length 1,<-Nat.add_assoc];exact Nat.add_le_add_right lH _)
theorem Bp {o i v6:Expr} {c a:Addr} {x:cK} {fs l l':FL} (h1:Ev X v6 σ (.ref c) a6) (h2:Ev X o a6 (.ref a) a9) (h3:Ev X i a9 (.str x) ⟨l9,o8⟩) (tk:kT c (.dict fs) o8 o3) (hp:mf (S x) (.dct fs) l l') (m:nk a (.dict l) (.dict l') o3 om) (hz:l.length<=900)
 (hs:autoParam (swapsWith v6 (some (.Subscript o i p)) pi.line X.env=pure false) bR):Ex X (.Assign [.Subscript o i p] v6 pi) σ .next ⟨l9,om⟩:=
 ⟨λy y h=>kf (h1.run _ _ λy=>h2.run _ _ λy=>h3.run _ _ λy=>Fi qf tk (uD qf iV dP hp m hz h)) hs⟩
theorem IN {ss:cM} {f:Fl} (h:dH X ss σ λf' σ'=>f'=f/\σ'=a6):fx X ss σ f a6:=⟨λH Φ k=>h.run H Φ λy y z=>z.1▸z.2▸k⟩
theorem ll {ss:cM} (h:dH X ss ⟨lg,o8⟩ QF) (e:∀ x d,(x,some d)∈lg->(x,some d)∈l9) (nd:(lg.map (·.1)).Nodup):dH X ss ⟨l9,o8⟩ QF:=
 ⟨λH Φ k=>dg λA F s hA Y=>cD ((h.run H Φ k).run A F s hA ⟨Y.core,Y.sub,let ⟨m,hm,r⟩:=Y.loc;⟨m,hm,λy d hy=>r y d (e y d hy)⟩,nd,Y.objs,Y.nodup,Y.apart,Y.held,Y.low⟩) (λv s' z=>let ⟨F',σ',x,p,q⟩:=z;⟨F',σ',x,p,q⟩) λw w z=>z⟩
theorem nF {t:Expr} {x y:cM} {fl:Fl} (h1:Te X t σ true a6) (h2:fx X x a6 fl a9):Ex X (.If t x y pi) σ fl a9:=My h1 ⟨λz=>h2,nofun⟩
theorem na {t:Expr} {x y:cM} {fl:Fl} (h1:Te X t σ false a6) (h2:fx X y a6 fl a9):Ex X (.If t x y pi) σ fl a9:=My h1 ⟨nofun,λz=>h2⟩
end
end
section
section
variable {X:Cx} {σ a6 a9 σ':St} {l9 lg:LL} {o8 o3:OL} {d d1 d2 o:AV} {Q:PF} {e:Expr} {pi p:Pos} {x:Str} {l:cL} {ss b3:cM} {f:Fl}
theorem HT {v6 hi:Expr} {q:Pos} {j:Int} (h1:Ev X v6 σ d a6) (h2:Ev X hi a6 (.int j) a9) (hl:jl X.B X.L d l a9) (hz:l.length<=16777216)
 (hs:∀ o i,∃ ops,subscripted (.Slice none (some hi) none q) false o i=operate ops (getItem o i):=by intro y y;exact⟨_,rfl⟩):
 Ev X (.Subscript v6 (.Slice none (some hi) none q) pi) σ (.lst (l.take (fJ l.length j))) a9:=⟨λy y h=>FS (h1.run _ _ λy=>h2.run _ _ λy=>⟨l,j,hl,rfl,hz,h⟩) hs⟩
theorem Ao {t1 t2:Expr} {k:Nat} (h1:zh X t1 d1 σ a6) (h2:zh X t2 d2 a6 a9) (he:autoParam (assignEach [t1,t2] X.env=[(false,assign t1 X.env),(false,assign t2 X.env)]) bR):zh X (.Tuple [t1,t2] k p) (.lst [d1,d2]) σ a9:=
 ⟨λH v Φ m h=>Iq m (λv1 v2=>h1.run _ _ _ dP (h2.run _ _ _ iV h)) he⟩
theorem H6 {B:dc} {n:Nat} {L:Addr} {H:HL} {σ:St} {e5:Env} {t4 i5:Expr} {b3:cM} {pi:Pos} {Φ:PF} (J:Nat->St->Prop) (h:WV B n L (eval i5 e5) H σ (tB B n L H e5 t4 b3 J Φ))
 (hs:autoParam (∀ x,foldedSetIterable i5 e5 x=pure x) bI):WF B n L (exec (.For t4 i5 b3 [] pi) e5) H σ Φ:=kK λA F s Q hA X fq=>by
 refine wpAny_For (h.then hA X λxv s5 F0 a6 x0 p0 q=>?_) hs
 refine dW (q) ?_;clear q;rintro d hd ⟨N,i3,it,j0,fin,step⟩
 refine(it _ a6 dP).then hA (x0.push hd) λr s7 F1 a9 x1 p5 q=>?_
 refine jk (q) ?_;clear q;rintro a K rfl rfl ⟨next,stop,_,quiet⟩
 refine codeAny_forLoop_any (D7 B L ((xv,d)::H) σ F s a K N J) (λk s6 hI=>?_) N ⟨0,F1,a6.loc,a6.objs,rfl,cA _,j0,x1,p0.trans p5⟩
 obtain⟨i,F2,l9,o8,e,hi,j,x4,p6⟩:=hI
 by_cases hN:i=N
 . subst hN
   refine(stop L l9 o8 _ dP).then hA x4 λr s9 F3 ab x5 p7 q=>?_
   obtain⟨rfl,rfl⟩:=q;exact wpAny_execs_nil (fq _ _ ⟨F3,_,x5.weaken λy hp=>.tail _ hp,p6.trans p7,.next,trivial,fin _ j⟩)
 . have aG:i < N:=Nat.lt_of_le_of_ne hi hN
   refine(next L i l9 o8 _ aG dP).then hA x4 λr s9 F3 ab x5 p7 q=>?_
   refine jM (q) ?_;clear q;rintro v rfl hv rfl
   refine dW (x5.objs _ dP) ?_;rintro o ho hk
   refine np ho (quiet _ _ hk) ?_
   refine oK (step i l9 o8 a (K (i+1)) v aG j) hA (x5.push hv) (λy hp=>.tail _ (.tail _ hp)) λf s8 F4 ad fe x6 p8 he q=>?_
   have pp:=p6.trans (p7.trans p8)
   refine rn (G:=∃ m,m < k/\D7 B L ((xv,d)::H) σ F s a K N J m s8) (Q:=λf=>Q f s8) he q (λlg o3 e' j'=>?_) λf e he q=>fq _ _ ⟨F4,ad,x6,pp,e,he,q⟩
   subst e';exact⟨N - (i+1),e▸Nat.sub_succ_lt_self _ _ aG,i+1,F4,lg,o3,rfl,aG,j',x6.push ((x5.hold dP).mono p8.mono),pp⟩
theorem vE {t4 i5:Expr} {N:Nat} {i3:Nat->AV} (J:Nat->St->Prop) (h1:Ev X i5 σ d a6) (it:∀ xv,fF X.B X.n X.L xv d N i3) (j0:J 0 a6) (fin:∀ σ,J N σ->Q .next σ)
 (step:∀ i l9 o8 a p,i < N->J i ⟨l9,o8⟩->∃ a9,zh X t4 (i3 i) ⟨l9,(a,.is p)::o8⟩ a9/\dH X b3 a9 λf σ'=>(f=.next/\∃ lg o3,σ'=⟨lg,(a,.is p)::o3⟩/\J (i+1) ⟨lg,o3⟩)\/(f=.brk/\Q .next σ'))
 (hs:autoParam (∀ x,foldedSetIterable i5 X.env x=pure x) bI):xV X (.For t4 i5 b3 [] pi) σ Q:=
 ⟨λH Φ h=>H6 (J:=J) (h1.run _ _ λxv=>⟨N,i3,it xv,j0,λσ z=>h _ _ (fin σ z),λi l9 o8 a p v hi hj=>by
  refine dW (step i l9 o8 a p hi hj) ?_;rintro a9 w1 w2
  refine w1.run _ _ _ dP (w2.run _ _ λf σ' z=>?_)
  rcases z with⟨rfl,z⟩ | ⟨rfl,z⟩
  . exact z
  . exact h _ _ z⟩) hs⟩
theorem qO {e5:Env} {b:cM}:∀ a:cM,execs (a++b) e5=(do match <-execs a e5 with | .next=>execs b e5 | f=>pure f)
 | []=>by rw[execs_nil];exact(pure_bind _ _).symm
 | st::a=>by
  rw[c7,execs_cons,execs_cons,bind_assoc];refine bind_congr λf=>?_
  rcases f with _ | _
  . exact qO a
  all_goals exact(pure_bind _ _).symm
theorem Fs {B:dc} {n:Nat} {L:Addr} {e5:Env} {H:HL} {a b:cM} {Φ:PF} (h:WF B n L (execs a e5) H σ (iU B n L b e5 H Φ)):WF B n L (execs (a++b) e5) H σ Φ:=by
 refine dg λA F s hA x=>?_
 rw[qO];refine cC (cD (h.run A F s hA x) (λf s5 z=>z.then λF0 a6 x0 ⟨e,he,q⟩=>?_) λy y z=>z)
 induction f using Flow.casesOn with
 | next=>rcases e with _ | _<;>first | exact he.elim | exact q.run A F0 s5 hA x0
 | brk=>rcases e with _ | _<;>first | exact he.elim | exact cE (.here x0 ⟨.brk,trivial,q⟩)
 | cont=>rcases e with _ | _<;>first | exact he.elim | exact cE (.here x0 ⟨.cont,trivial,q⟩)
 | ret v=>rcases e with _ | _<;>first | exact he.elim | exact cE (.here x0 ⟨.ret _,he,q⟩)
theorem fC (k:Nat) (h1:fx X (ss.take k) σ .next a6) (h2:dH X (ss.drop k) a6 Q):dH X ss σ Q:=by
 refine⟨λH Φ h=>?_⟩
 have w:=h1.run H (iU X.B X.n X.L (ss.drop k) X.env H Φ) (h2.run H Φ h)
 rw[<-List.take_append_drop k ss];exact Fs w
theorem yG {σ':St} {d':AV} (h:Ev X e σ d σ') (q:d=d'):Ev X e σ d' σ':=q▸h
theorem wN {t:Expr} {x y:cM} (h1:Te X t σ true a6) (h2:dH X x a6 Q):xV X (.If t x y pi) σ Q:=oA h1 ⟨λz=>h2,nofun⟩
end
end
section
section
variable {B:dc} {n:Nat} {L:Addr} {H:HL} {σ:St} {e5:Env} {l9:LL} {o8:OL}
theorem DU {pi:Pos} {Φ:PV} (h:∀ v,Φ v (.dct []) σ):WV B n L (eval (.Dict [] [] pi) e5) H σ Φ:=dg λA F s hA X=>by
 rw[eval_Dict_empty];refine cC (wpAny_standAt ?_)
 have hsm:(s.heap.objs.size==sysModules)=false:=lW (B:=B) (dN X.low (by obtain⟨y,hy⟩:=X.there L dP;exact cy (cz hy)))
 refine wpAny_newObj_type ?_
 exact dm.fresh X (λb o e=>bw _ e) (eJ _) (o:=dictOf [] 0) (bE _ rfl) rfl rfl λle=>⟨.dct [],.dct (Fz.put_self ..) .nil List.nodup_nil hsm,h _⟩
theorem HP {a b:Value} {l m:cL} {Φ:PV} (ma:(a,.lst l)∈H) (mb:(b,.lst m)∈H) (hz:l.length+m.length<=16777216) (h:∀ v,Φ v (.lst (l++m)) σ):WV B n L (binaryOp .Add a b) H σ Φ:=dg λA F s hA X=>by
 refine kI (fz (X.hold ma)) ?_;rintro x vs k rfl e1 e2
 refine kI (fz (X.hold mb)) ?_;rintro y ws k' rfl e3 e4
 have e:vs.toArray++ws.toArray=(vs++ws).toArray:=by simp
 refine concat_meets ⟨_,X.sub _ _ e1,rfl⟩ ⟨_,X.sub _ _ e3,rfl⟩ noFill_list_add seq_list_add PySem.F.slot_list_add PySem.F.entry_list_add (PySem.F.args_list_add_2 _ _) (list_addW x y vs.toArray ws.toArray k k' none none #[] #[] (by simp[e2.length,e4.length];rw[dY];exact hz)) ⟨X.sub _ _ e1,X.sub _ _ e3,?_⟩
 rw[e];have ap:∀ {F':Fz},F.le F'->IsAll B.P F' (vs++ws) (l++m):=λle=>by
  have q:=e2.mono le
  have q':=e4.mono le
  exact q.ind (C:=λvs l=>IsAll _ _ (vs++ws) (l++m)) q' λz z z z h z c=>.cons h c
 exact dm.fresh X (λb o e=>bw _ e) (eJ _) (o:=dZ (vs++ws) 0) (bE _ rfl) rfl rfl λle=>⟨_,.lst (Fz.put_self ..) (ap le),h _⟩
theorem Be {v w:Value} {b:Bool} {Φ:PV} (mv:(v,.bool b)∈H) (mw:(w,.lit (.type "bool"))∈H) (h:∀ v,Φ v (.bool true) σ):WV B n L (call (.builtin "isinstance") [v,w]) H σ Φ:=dg λA F s hA X=>by
 obtain rfl:=wJ (X.hold mw)
 have e:v=.bool b:=gX (X.hold mv)
 subst e;exact PySem.IsiPair.bool_bool (.here X ⟨.bool true,.bool _,h _⟩)
noncomputable abbrev lz (x:Str):cK:=x.cps.toList
theorem HV {xv:Value} {l:FL} {es:List DictEntry} {q:Nat} {F5:Fz} (e2:IsEnts B.P F5 es l) (e3:(l.map (·.1)).Nodup) (hx:∀ t,xv=.ref t->(t==sysModules)=false):fF B n L xv (.obj λo=>o=dictOf es q) l.length (λi=>(l.map λp=>AV.str (lz p.1)).getD i .any):=by
 intro H σ m;refine dg λA F s hA X=>?_
 refine jk (jq (X.hold m)) ?_;rintro t w rfl e1 rfl
 have at':∀ {h:Heap},h.get? t=some (dictOf es q)->h.DictAt (strKind B.prog B.w) t (jF es l) q:=λhg=>⟨_,es.toArray,hg,⟨rfl,rfl,rfl⟩,rfl,λx hx=>vY e2 x (by simpa using hx),sL e2,by rw[iB e2];exact e3⟩
 have aE:(jF es l).length=l.length:=by have:=cG List.length (iB e2);simpa using this
 have hsys:=hx t rfl
 refine wpAny_pyIter_dict hsys (at' (X.sub _ _ e1)) ?_
 refine dm.begin (p:=λo=>o.cls=.type "dict_keyiterator"/\o.data=.fields #[.ref t,.int (0:Nat) 0,.int (jF es l).length 0,.int q 0]) X ⟨rfl,rfl⟩ ⟨_,λi o=>o.cls=.type "dict_keyiterator"/\o.data=.fields #[.ref t,.int (i:Nat) 0,.int (jF es l).length 0,.int q 0],rfl,rfl,λL' i l9 o8 H hi mm=>dg λA F s hA X=>?_,λL' l9 o8 H mm=>dg λA F s hA X=>?_,(λL' l9 o8 H=>dg λA F s hA X=>?_),λi o ho=>⟨_,ho.1,by decide⟩⟩
 . refine jM (X.objs _ dP) ?_;rintro o ho hc hd
   refine jk (jq (X.hold mm)) ?_;rintro t' w et e1' rfl
   cases et
   have b9:i < (jF es l).length:=aE▸hi
   obtain⟨k,v,hkv⟩:∃ k v,(jF es l)[i]=(k,v):=⟨_,_,rfl⟩
   refine wpAny_pyNext_dict_item (i:=i) ⟨o,ho,hc,hd⟩ (at' (X.sub _ _ e1')) (k:=k) (v:=v) (by rw[bq b9,hkv]) λke h' hk hit hs=>?_
   obtain⟨tk,rfl⟩:=Value.isStrOf_shape hk;have ek:k=(l[i]'hi).1:=by
    have:=cG (λz:cQ=>z[i]?) (iB e2)
    simp only[bP,bq b9,bq hi,hkv,Option.map_some]at this
    exact Option.some.inj this
   refine dm.turn X hs hit rfl rfl ⟨_,rfl,?_,rfl⟩
   rw[bp,bP,bq hi,ek];exact .str (lz l[i].1) tk
 . refine jM (X.objs _ dP) ?_;rintro o ho hc hd
   refine jk (jq (X.hold mm)) ?_;rintro t' w et e1' rfl
   cases et
   refine wpAny_pyNext_dict_end (i:=l.length) hA.handled ⟨o,ho,hc,hd⟩ (at' (X.sub _ _ e1')) (List.getElem?_eq_none (Nat.le_of_eq aE)) λh' hs=>?_
   exact dm.remove X (λb y hb e=>hs b y hb e) rfl rfl ⟨rfl,rfl⟩
 . refine jM (X.objs _ dP) ?_;rintro o ho hc hd
   exact wpAny_pyIter_keyiter (d:=t) (i:=0) (n:=(jF es l).length) (ep:=q) ⟨o,ho,hc,hd⟩ (.here X ⟨rfl,rfl⟩)
theorem Jz {t:Sem Value} {Φ:PV} {l:FL} (h:WV B n L t H σ λv d a6=>d=.dct l/\∀ es q F5,IsEnts B.P F5 es l->(l.map (·.1)).Nodup->(∀ a,v=.ref a->(a==sysModules)=false)->Φ v (.obj λo=>o=dictOf es q) a6):WV B n L t H σ Φ:=dg λA F s hA X=>
 cD (h.run A F s hA X) (λv s5 z=>by
  obtain⟨F',σ',x,p,d,hd,rfl,k⟩:=z;obtain⟨a,es,q,rfl,e1,e2,e3,e4⟩:=Bs hd;exact⟨F',σ',x,p,.obj λo=>o=dictOf es q,.obj (p:=λo=>o=dictOf es q) e1 rfl,k es q F' e2 e3 λb e=>by cases e;exact e4⟩) λy y z=>z
end
section
variable {X:Cx} {σ a6:St} {l9:LL} {o8:OL} {t4 e6:Expr} {i6:cN} {pi:Pos}
theorem BO {i5:Expr} {sf:Scope} {cl:List (Str×Addr)} {l:FL} (xs:cQ) (keep:Nat->Bool) (val:Nat->AV) (hN:l.length<=16777215) (h1:Ev X i5 σ (.dct l) ⟨l9,o8⟩)
 (h2:∀ i,i < l.length->iZ X.B X.n t4 e6 i6 (λC=>compEnvC sf cl C X.env) xs ((l.map λp=>AV.str (lz p.1)).getD i .any) (keep i) (val i) o8)
 (aP:closureFor sf X.env=pure cl) (hx:autoParam (xs.Nodup) bD)
 (aB:autoParam (∀ y∈sf.names,y.2≠.cell) bD) (aL:autoParam (sf.kind=.function) bR) (aI:autoParam (∀ y∈sf.names,y.2=.local->sf.names.lookup y.1=some .local) bD)
 (hs:autoParam (∀ x,foldedSetIterable i5 X.env x=pure x) bI):
 Ev X (.ListComp e6 [⟨t4,i5,i6,0⟩] sf pi) σ (.lst (eU keep val l.length)) ⟨l9,o8⟩:=⟨λz z h=>jT (A2 xs (λi ys o=>ys=eU keep val i/\o=o8) (Jz (l:=l) (h1.run _ _ λxv=>⟨rfl,λes q F5 e2 e3 e4=>⟨l.length,_,HV e2 e3 e4,⟨rfl,rfl⟩,λi hi=>iZ.step (i3:=λi=>(l.map λp=>AV.str (lz p.1)).getD i .any) (cy (sv hi hN)) (h2 i hi),λys o D ⟨e1,e2⟩=>⟨D,_,l9,o8,rfl,by rw[e1,e2],h _⟩⟩⟩)) aP hx aB aL aI hs)⟩
theorem Dv:Ev X (.Dict [] [] pi) σ (.dct []) σ:=⟨λy y h=>DU h⟩
theorem zu {l m:cL} (hz:l.length+m.length<=16777216):rF X .Add (.lst l) (.lst m) (.lst (l++m)) σ:=⟨λy y y y ma mb h=>HP ma mb hz h⟩
theorem tR {b:Bool}:eV X (.builtin "isinstance") [.bool b,.lit (.type "bool")] σ (.bool true) σ:=kL λy y y y mv mw h=>Be mv mw h
end
end
section
theorem qk:typeLookup (.type "tuple") (dunderI "add")=pure none:=by rw[typeLookup_type,builtinLookup_eq_fast];kernel_rfl
section
variable {B:dc} {n:Nat} {L:Addr} {H:HL} {σ:St} {a b:Value} {x y:AV} {l m:cL} {Φ:PV}
theorem zd {P:Params} {F:Fz} {vs:cO} (e:IsAll P F vs (x::l)):¬ vs.toArray.isEmpty=true:=λh=>by
 have:=e.length
 rw[Array.isEmpty_iff_size_eq_zero,List.size_toArray,this]at h
 exact nomatch h
theorem wq (i:Bool) (ma:(a,.tup (x::l))∈H) (mb:(b,.tup (y::m))∈H) (hz:(x::l).length+(y::m).length<=16777216) (h:∀ v,Φ v (.tup (x::l++y::m)) σ):WV B n L (if i=true then inplaceOp .Add a b else binaryOp .Add a b) H σ Φ:=dg λA F s hA X=>by
 refine kI (iy (X.hold ma)) ?_;rintro p vs k rfl e1 e2
 refine kI (iy (X.hold mb)) ?_;rintro q ws k' rfl e3 e4
 have e:vs.toArray++ws.toArray=(vs++ws).toArray:=by simp
 have ap:∀ {F':Fz},F.le F'->IsAll B.P F' (vs++ws) (x::l++y::m):=λle=>by
  have q:=e2.mono le
  have q':=e4.mono le
  exact q.ind (C:=λvs l=>IsAll _ _ (vs++ws) (l++y::m)) q' λz z z z h z c=>.cons h c
 have ta:s.TypeIs (.ref p) "tuple":=⟨_,X.sub _ _ e1,rfl⟩
 have tb:s.TypeIs (.ref q) "tuple":=⟨_,X.sub _ _ e3,rfl⟩
 have mt:=tuple_addW2 p q vs.toArray ws.toArray k k' none none #[] #[] (zd e2) (zd e4) (by simp[e2.length,e4.length];rw[dY];exact hz)
 rw[e]at mt
 rcases i with _ | _
 . refine wpAny_binaryOp_concat ta tb noFill_tuple_add seq_tuple_add (call_meets PySem.F.slot_tuple_add ta PySem.F.entry_tuple_add (PySem.F.args_tuple_add_2 (.ref p) (.ref q)) mt ⟨X.sub _ _ e1,X.sub _ _ e3,?_⟩)
   exact dm.fresh X (λb o e=>bw _ e) (eJ _) (o:=ly (vs++ws) 0) (bE _ rfl) rfl rfl λle=>⟨_,.tup (Fz.put_self ..) (ap le),h _⟩
 . refine wpAny_inplaceOp_concat ta tb qk noFill_tuple_add seq_tuple_add (call_meets PySem.F.slot_tuple_add ta PySem.F.entry_tuple_add (PySem.F.args_tuple_add_2 (.ref p) (.ref q)) mt ⟨X.sub _ _ e1,X.sub _ _ e3,?_⟩)
   exact dm.fresh X (λb o e=>bw _ e) (eJ _) (o:=ly (vs++ws) 0) (bE _ rfl) rfl rfl λle=>⟨_,.tup (Fz.put_self ..) (ap le),h _⟩
section
variable {X:Cx}
theorem Hq (hz:(x::l).length+(y::m).length<=16777216):rF X .Add (.tup (x::l)) (.tup (y::m)) (.tup (x::l++y::m)) σ:=⟨λz z z z ma mb h=>wq false ma mb hz h⟩
theorem ID (hz:(x::l).length+(y::m).length<=16777216):xw X .Add (.tup (x::l)) (.tup (y::m)) (.tup (x::l++y::m)) σ:=⟨λz z z z ma mb h=>wq true ma mb hz h⟩
end
end
end
section
variable {op:CmpOp} {a:DV} {s:Sy} {X:Cx} {ρ:cP} {i j:Nat} {D:DS} {K:Frag} {n5:Str} {C dx:Addr} {fs:List (Str×DV)}
section
noncomputable def ob {α:Type u} {β:Type v} (o:Option α) (f:α->Option β):Option β:=Option.casesOn o none f
noncomputable def iQ {α:Type u} {β:Type v} (o:Option α) (f:∀ a,o=some a->Option β):Option β:=Option.casesOn (motive:=λo=>(∀ a,o=some a->Option β)->Option β) o (λy=>none) (λa f=>f a rfl) f
noncomputable def gd {α:Type u} (b:Bool) (f:b=true->Option α):Option α:=Bool.casesOn (motive:=λb=>(b=true->Option α)->Option α) b (λy=>none) (λf=>f rfl) f
inductive DB where
 | yes | no | is (c:Bool)
noncomputable def DB.val:DB->Bool
 | .yes=>true
 | .no=>false
 | .is c=>c
abbrev RA (op:CmpOp) (a b:AV):={r:DB // ∀ X σ,fY X op a b r.val σ}
noncomputable abbrev RA.r {a b:AV} (x:RA op a b):DB:=x.1
theorem RA.ok {a b:AV} (x:RA op a b):∀ X σ,fY X op a b x.r.val σ:=x.2
abbrev RC (op:CmpOp) (a b:DV):={r:DB // ∀ X σ ρ,fY X op (a.to ρ) (b.to ρ) r.val σ}
noncomputable abbrev RC.r {b:DV} (x:RC op a b):DB:=x.1
theorem RC.ok {b:DV} (x:RC op a b):∀ X σ ρ,fY X op (a.to ρ) (b.to ρ) x.r.val σ:=x.2
def LV (i j:Int):(op:CmpOp)->Option (RA op (.int i) (.int j))
 | .Eq=>some ⟨.is _,λy y=>OE⟩
 | .NotEq=>some ⟨.is _,λy y=>P5⟩
 | .Lt=>some ⟨.is _,λy y=>A8⟩
 | .LtE=>some ⟨.is _,λy y=>P9⟩
 | .Gt=>some ⟨.is _,λy y=>JA⟩
 | .GtE=>some ⟨.is _,λy y=>Pa⟩
 | _=>none
def Kv (x y:cK):(op:CmpOp)->Option (RA op (.str x) (.str y))
 | .Eq=>some ⟨.is _,λz z=>KK⟩
 | .NotEq=>some ⟨.is _,λz z=>NW⟩
 | .In=>(match x with
  | [c]=>some ⟨.is _,λz z=>KF⟩
  | _=>none)
 | .NotIn=>(match x with
  | [c]=>some ⟨.is _,λz z=>Jm⟩
  | _=>none)
 | .LtE=>(match x,y with
  | [c],[d]=>some ⟨.is _,λz z=>tH⟩
  | _,_=>none)
 | _=>none
def MY (x:cK) (l:cL):(op:CmpOp)->Option (RA op (.str x) (.tup l))
 | .In=>iQ (dT l) λms e=>some ⟨.is _,λy y=>Mn e⟩
 | .NotIn=>iQ (dT l) λms e=>some ⟨.is _,λy y=>GT e⟩
 | _=>none
def Lw (i:Int) (l:cL):(op:CmpOp)->Option (RA op (.int i) (.tup l))
 | .In=>iQ (pW l) λms e=>some ⟨.is _,λy y=>N9 e⟩
 | _=>none
noncomputable def Kn (l:cL):(op:CmpOp)->Option (RA op .none (.tup l))
 | .In=>iQ (dataAll l) λps e=>gd (PyData.canLayAll0 ps&& !(ps.any λy=>PyData.eqv y .none)) λq=>some ⟨.no,λx x=>HY e (dG q) (by simpa using eB q)⟩
 | _=>none
noncomputable def NL (y:cK):(op:CmpOp)->Option (RA op .none (.str y))
 | .Eq=>gd (PyData.strOk (S y)) λq=>some ⟨.no,λx x=>HM q⟩
 | _=>none
noncomputable def L5 (p q:Bool):(op:CmpOp)->Option (RA op (.bool p) (.bool q))
 | .Eq=>some ⟨.is _,λy y=>NF⟩
 | _=>none
def xq (op:CmpOp) (a b:AV):Option (RA op a b):=match a with
 | .int i=>(match b with
  | .int j=>LV i j op
  | .tup l=>Lw i l op
  | _=>none)
 | .str x=>(match b with
  | .str y=>Kv x y op
  | .tup l=>MY x l op
  | _=>none)
 | .none=>(match b with
  | .str y=>NL y op
  | .tup l=>Kn l op
  | _=>none)
 | .bool p=>(match b with
  | .bool q=>L5 p q op
  | _=>none)
 | _=>none
abbrev RN (a:DV):={r:Bool // ∀ ρ P F v,Is P F v (a.to ρ)->(v==Value.none)=r}
noncomputable abbrev RN.r (x:RN a):Bool:=x.1
theorem RN.ok (x:RN a):∀ ρ P F v,Is P F v (a.to ρ)->(v==Value.none)=x.r:=x.2
noncomputable def Fu:(a:DV)->Option (RN a)
 | .av d=>(match d with
  | .none=>some ⟨true,λy=>DE⟩
  | .str _=>some ⟨false,λy=>zL⟩
  | .int _=>some ⟨false,λy=>AM⟩
  | .dct _=>some ⟨false,λy=>AE⟩
  | _=>none)
 | .slot _=>some ⟨false,λy=>B6⟩
 | _=>none
noncomputable def DB.of (b:Bool):DB:=Bool.casesOn b .no .yes
theorem DB.of_val (b:Bool):(DB.of b).val=b:=by rcases b with _ | _<;>rfl
def PT (op:CmpOp) (a b:DV):Option (RC op a b):=match b with
 | .av y=>(match op with
  | .Is=>(match y with
   | .none=>ob (Fu a) λq=>some ⟨.of q.r,λX σ ρ=>(DB.of_val _).symm▸P2 (q.ok ρ)⟩
   | _=>none)
  | .IsNot=>(match y with
   | .none=>ob (Fu a) λq=>some ⟨.of !q.r,λX σ ρ=>(DB.of_val _).symm▸Ih (q.ok ρ)⟩
   | _=>none)
  | op=>(match a with
   | .av x=>ob (xq op x y) λq=>some ⟨q.r,λX σ z=>q.ok X σ⟩
   | _=>none))
 | _=>none
noncomputable def Sy.need (s:Sy) (p:Prop):Sy:=⟨s.D,s.n,s.o,s.c/\p⟩
structure kJ (s s':Sy):Prop where
 D:s'.D=s.D
 n:s'.n=s.n
 c:s'.c->s.c
theorem kJ.refl (s:Sy):kJ s s:=⟨rfl,rfl,id⟩
theorem kJ.need (s:Sy) (p:Prop):kJ s (s.need p):=⟨rfl,rfl,And.left⟩
abbrev RB (op:Operator) (a b:DV) (s:Sy):=Sigma λv:DV=>{s':Sy // kJ s s'/\(s'.c->∀ X σ ρ,rF X op (a.to ρ) (b.to ρ) (v.to ρ) σ/\xw X op (a.to ρ) (b.to ρ) (v.to ρ) σ)}
noncomputable abbrev RB.v {op:Operator} {b:DV} (x:RB op a b s):DV:=x.1
noncomputable abbrev RB.s' {op:Operator} {b:DV} (x:RB op a b s):Sy:=x.2.1
theorem RB.A {op:Operator} {b:DV} (x:RB op a b s):kJ s x.s':=x.2.2.1
theorem RB.ok {op:Operator} {b:DV} (x:RB op a b s):x.s'.c->∀ X σ ρ,rF X op (a.to ρ) (b.to ρ) (x.v.to ρ) σ/\xw X op (a.to ρ) (b.to ρ) (x.v.to ρ) σ:=x.2.2.2
noncomputable def Dk (op:Operator) (a b:DV) (s:Sy):Option (RB op a b s):=match a with
 | .av (.int i)=>(match b with
  | .av (.int j)=>(match op with
   | .Add=>some ⟨.av (.int (i+j)),s,.refl s,λz z z z=>⟨tP,L2⟩⟩
   | .Sub=>some ⟨.av (.int (i - j)),s,.refl s,λz z z z=>⟨Fw,LU⟩⟩
   | _=>none)
  | _=>none)
 | .av (.str x)=>(match b with
  | .av (.str y)=>(match op with
   | .Add=>some ⟨.av (.str (x++y)),s.need (x.length+y.length<=16777216),.need _ _,λc z z z=>⟨Jy c.2,Ix c.2⟩⟩
   | _=>none)
  | _=>none)
 | .av (.tup (x::l))=>(match b with
  | .av (.tup (y::m))=>(match op with
   | .Add=>some ⟨.av (.tup (x::l++y::m)),s.need ((x::l).length+(y::m).length<=16777216),.need _ _,λc z z z=>⟨Hq c.2,ID c.2⟩⟩
   | _=>none)
  | _=>none)
 | _=>none
abbrev RT (a:DV) (s:Sy):=Sigma λr:DB=>{s':Sy // kJ s s'/\(s'.c->∀ X ρ,nG X (a.to ρ) r.val (s.D.to ρ))}
noncomputable abbrev RT.r (x:RT a s):DB:=x.1
noncomputable abbrev RT.s' (x:RT a s):Sy:=x.2.1
theorem RT.A (x:RT a s):kJ s x.s':=x.2.2.1
theorem RT.ok (x:RT a s):x.s'.c->∀ X ρ,nG X (a.to ρ) x.r.val (s.D.to ρ):=x.2.2.2
theorem wE {l:cL} {ps:cR} (e:eY i D.objs=some (.list l ps)) (hz:l.length+ps.length<=16777216):nG X (.ref (el ρ i)) (!(yC ρ l ps).isEmpty) (D.to ρ):=
 Jx (fB e) (by refine jv▸?_;exact hz)
noncomputable def P6 (i:Nat) (s:Sy) (l:cL) (ps:cR) (e:eY i s.D.objs=some (.list l ps)):RT (.slot i) s:=match ps with
 | []=>⟨.is (!l.isEmpty),s.need (l.length+0<=16777216),.need _ _,λc X ρ=>wE e c.2⟩
 | p::r=>⟨.yes,s.need (l.length+(p::r).length<=16777216),.need _ _,λc X ρ=>by
  have w:=wE (X:=X) (ρ:=ρ) e c.2
  rw[show(!(yC ρ l (p::r)).isEmpty)=true by rcases l with _ | _<;>rfl]at w
  exact w⟩
noncomputable def Gz (a:DV) (s:Sy):Option (RT a s):=match a with
 | .av d=>(match d with
  | .none=>some ⟨.no,s,.refl s,λy y y=>Iu⟩
  | .bool c=>some ⟨.is c,s,.refl s,λy y y=>rz⟩
  | .int i=>some ⟨.is (!decide (i=0)),s,.refl s,λy y y=>Nv⟩
  | .str x=>some ⟨.is (!decide (x=[])),s.need (x.length<=16777216),.need _ _,λc y y=>NT c.2⟩
  | .lst l=>some ⟨.is (!l.isEmpty),s.need (l.length<=16777216),.need _ _,λc y y=>IX c.2⟩
  | _=>none)
 | .meth _ _=>some ⟨.yes,s,.refl s,λy y y=>IO⟩
 | .slot i=>iQ (eY i s.D.objs) λo e=>(match o,e with
  | .list l ps,e=>some (P6 i s l ps e)
  | _,_=>none)
abbrev RD (r:DB) (s:Sy):=Sigma λb:Bool=>{s':Sy // kJ s s'/\(s'.c->r.val=b)}
noncomputable abbrev RD.b {r:DB} (x:RD r s):Bool:=x.1
noncomputable abbrev RD.s' {r:DB} (x:RD r s):Sy:=x.2.1
theorem RD.A {r:DB} (x:RD r s):kJ s x.s':=x.2.2.1
theorem RD.ok {r:DB} (x:RD r s):x.s'.c->r.val=x.b:=x.2.2.2
noncomputable def CU (r:DB) (s:Sy):Option (RD r s):=match r with
 | .yes=>some ⟨true,s,.refl s,λy=>rfl⟩
 | .no=>some ⟨false,s,.refl s,λy=>rfl⟩
 | .is c=>(match s.o with
  | .br b::o=>some ⟨b,⟨s.D,s.n,o,s.c/\c=b⟩,⟨rfl,rfl,And.left⟩,And.right⟩
  | _=>none)
abbrev RG (K:Frag) (i:Nat) (n5:Str) (s:Sy):={v:DV // ∀ X:Cx,X.B.K=K->∀ ρ,uQ X (.ref (el ρ i)) n5 (v.to ρ) (s.D.to ρ)}
noncomputable abbrev RG.v (x:RG K i n5 s):DV:=x.1
theorem RG.ok (x:RG K i n5 s):∀ X:Cx,X.B.K=K->∀ ρ,uQ X (.ref (el ρ i)) n5 (x.v.to ρ) (s.D.to ρ):=x.2
noncomputable def ru (v:DV):Bool:=DV.casesOn v je (λy=>true) λy y=>true
theorem xE {v:DV} (h:ru v=true):je (v.to ρ)=true:=by
 induction v using DV.casesOn with
 | av d=>exact h
 | slot i=>rfl
 | meth f i=>rfl
theorem Jh {v:DV} (hK:X.B.K=K) (e:eY i D.objs=some (.inst C dx fs)) (q:gR n5 fs=some v) (h:(iw K C n5&&ru v)=true):uQ X (.ref (el ρ i)) n5 (v.to ρ) (D.to ρ):=by
 subst hK;exact⟨λy y y mv k=>EJ mv (fB e) (dG h) (nH q) (xE (eB h)) k⟩
theorem Gc {g:Addr} (hK:X.B.K=K) (e:eY i D.objs=some (.inst C dx fs)) (q:gR n5 fs=none) (h:gm K C n5 g=true):uQ X (.ref (el ρ i)) n5 (.meth g (el ρ i)) (D.to ρ):=by
 subst hK;exact Ms (fB e) (mY q) h
theorem GO {k:Int} (hK:X.B.K=K) (e:eY i D.objs=some (.inst C dx fs)) (q:gR n5 fs=none) (h:oB K C n5=some k):uQ X (.ref (el ρ i)) n5 (.int k) (D.to ρ):=by
 subst hK;exact Lq (fB e) (mY q) h
noncomputable def Fy (o:Option (cT)):Option Addr:=match o with
 | some (some (.ref g))=>some g
 | _=>none
noncomputable def Ml (K:Frag) (i:Nat) (n5:Str) (s:Sy):Option (RG K i n5 s):=iQ (eY i s.D.objs) λo e=>match o,e with
 | .inst C dx fs,e=>Option.casesOn (motive:=λz=>gR n5 fs=z->Option (RG K i n5 s)) (gR n5 fs)
  (λq=>Option.casesOn (motive:=λy=>Option (RG K i n5 s)) (Fy (findIn K (.ref C) n5)) (iQ (oB K C n5) λk h=>some ⟨.av (.int k),λX hK ρ=>GO hK e q h⟩) λg=>gd (gm K C n5 g) λh=>some ⟨.meth g i,λX hK ρ=>Gc hK e q h⟩)
  (λv q=>gd (iw K C n5&&ru v) λh=>some ⟨v,λX hK ρ=>Jh hK e q h⟩) rfl
 | _,_=>none
noncomputable def Sy.objs (s:Sy) (l:cV):Sy:=⟨⟨s.D.loc,l,s.D.rest⟩,s.n,s.o,s.c⟩
abbrev RS (K:Frag) (i:Nat) (n5:Str) (v:DV) (s:Sy):={l:cV // ∀ X:Cx,X.B.K=K->∀ ρ,sJ X (.ref (el ρ i)) n5 (v.to ρ) (s.D.to ρ) ((s.objs l).D.to ρ)}
noncomputable abbrev RS.l {v:DV} (x:RS K i n5 v s):cV:=x.1
theorem RS.ok {v:DV} (x:RS K i n5 v s):∀ X:Cx,X.B.K=K->∀ ρ,sJ X (.ref (el ρ i)) n5 (v.to ρ) (s.D.to ρ) ((s.objs x.l).D.to ρ):=x.2
theorem IF {v:DV} (hK:X.B.K=K) (e:eY i s.D.objs=some (.inst C dx fs)) (h:(ja K C n5&&Nat.ble fs.length 900)=true):sJ X (.ref (el ρ i)) n5 (v.to ρ) (s.D.to ρ) ((s.objs (kZ i (.inst C dx (sR n5 v fs)) s.D.objs)).D.to ρ):=by
 subst hK;have m:=iW (ρ:=ρ) (r8:=s.D.rest) (o':=.inst C dx (sR n5 v fs)) e
 rw[show(DO.inst C dx (sR n5 v fs)).to ρ=.inst C dx (f7 n5 (v.to ρ) (jp ρ fs))from cG (AO.inst C dx) wK]at m
 exact⟨λy y y y mv md k=>Fx (σ:=s.D.to ρ) mv md m (dG h) (by rw[cq];exact eP (eB h)) k⟩
def N7 (K:Frag) (i:Nat) (n5:Str) (v:DV) (s:Sy):Option (RS K i n5 v s):=iQ (eY i s.D.objs) λo e=>match o,e with
 | .inst C dx fs,e=>gd (ja K C n5&&Nat.ble fs.length 900) λh=>some ⟨_,λX hK ρ=>IF hK e h⟩
 | _,_=>none
abbrev RI (a i:DV) (s:Sy):=Sigma λv:DV=>{s':Sy // kJ s s'/\(s'.c->∀ X ρ e1 e2,fL e2=true->iI X e1 e2 (a.to ρ) (i.to ρ) (v.to ρ) (s.D.to ρ))}
noncomputable abbrev RI.v {i:DV} (x:RI a i s):DV:=x.1
noncomputable abbrev RI.s' {i:DV} (x:RI a i s):Sy:=x.2.1
theorem RI.A {i:DV} (x:RI a i s):kJ s x.s':=x.2.2.1
theorem RI.ok {i:DV} (x:RI a i s):x.s'.c->∀ X ρ e1 e2,fL e2=true->iI X e1 e2 (a.to ρ) (i.to ρ) (x.v.to ρ) (s.D.to ρ):=x.2.2.2
theorem Cr {l:cL} {ps:cR} {v:DV} {e1 e2:Expr} (e:eY j D.objs=some (.list l ps)) (q:ps.getLast? =some v) (hz:l.length+ps.length<=16777000) (hs:fL e2=true):iI X e1 e2 (.ref (el ρ j)) (.int (-1)) (v.to ρ) (D.to ρ):=by
 have m:=fB (ρ:=ρ) (r8:=D.rest) e
 obtain⟨qs,rfl⟩:=List.getLast?_eq_some_iff.mp q
 rw[DO.to,mr]at m
 exact Am m (by refine jv▸?_;rw[bM]at hz;exact dN (bG (bU _ _) _) hz) (mR hs)
theorem Hc {l:List (Str×DV)} {x:cK} {v:DV} {e1 e2:Expr} (e:eY j D.objs=some (.dict l)) (q:gR (S x) l=some v) (hs:fL e2=true):iI X e1 e2 (.ref (el ρ j)) (.str x) (v.to ρ) (D.to ρ):=
 ⟨λy y y y mo mi k=>Id mo (fB e) mi (nH q) k (mR hs _ _)⟩
theorem lU {ρ:cP} {ps:cR}:yC ρ [] ps=mC ρ ps:=jm
theorem yP {ρ:cP} {ps:cR} {k:Nat} {v:DV} (q:ps[k]? =some v):(yC ρ [] ps)[k]? =some (v.to ρ):=by rw[lU,bP,q];rfl
theorem AI {ρ:cP} {ps:cR} (h:Nat.ble ps.length 900=true):(yC ρ [] ps).length<=16777000:=by rw[lU,cq];exact dN (eP h) (by decide)
theorem ND {X:Cx} {ρ:cP} {D:DS} {j k:Nat} {ps:cR} {v:DV} {e1 e2:Expr} (e:eY j D.objs=some (.list [] ps)) (q:ps[k]? =some v) (hz:Nat.ble ps.length 900=true) (hs:fL e2=true):iI X e1 e2 (.ref (el ρ j)) (.int k) (v.to ρ) (D.to ρ):=
 ⟨λy y y y mo mi h=>Ot mo (fB e) mi (yP q) (AI hz) h (mR hs _ _)⟩
noncomputable def Pp (a i:DV) (s:Sy):Option (RI a i s):=match i with
 | .av (.str x)=>(match a with
  | .av (.dct l)=>iQ (eF (S x) l) λd e=>some ⟨.av d,s,.refl s,λy X ρ e1 e2 hs=>qD e (mR hs)⟩
  | .slot j=>iQ (eY j s.D.objs) λo e=>(match o,e with
   | .dict l,e=>iQ (gR (S x) l) λv q=>some ⟨v,s,.refl s,λy X ρ e1 e2 hs=>Hc e q hs⟩
   | _,_=>none)
  | _=>none)
 | .av (.int k)=>(match a with
  | .av (.str x)=>(match s.o with
   | .ch c::o=>some ⟨.av (.str [c]),⟨s.D,s.n,o,(s.c/\qh x k=some c)/\x.length<=16777216⟩,⟨rfl,rfl,λc=>c.1.1⟩,λh X ρ e1 e2 hs=>AH h.1.2 h.2 (mR hs)⟩
   | _=>none)
  | .slot j=>(match k with
   | .negSucc 0=>iQ (eY j s.D.objs) λo e=>(match o,e with
    | .list l ps,e=>iQ ps.getLast? λv q=>some ⟨v,s.need (l.length+ps.length<=16777000),.need _ _,λc X ρ e1 e2 hs=>Cr e q c.2 hs⟩
    | _,_=>none)
   | .ofNat n=>iQ (eY j s.D.objs) λo e=>(match o,e with
    | .list [] ps,e=>iQ ps[n]? λv q=>gd (Nat.ble ps.length 900) λhz=>some ⟨v,s,.refl s,λy X ρ e1 e2 hs=>ND e q hz hs⟩
    | _,_=>none)
   | _=>none)
  | _=>none)
 | _=>none
structure CD (X:Cx) (a i d:AV) (σ σ':St):Prop where
 run:∀ (H:HL) va vi vd (Φ:St->Prop),(va,a)∈H->(vi,i)∈H->(vd,d)∈H->Φ σ'->WU X.B X.n X.L (setItem va vi vd) H σ Φ
structure MR (X:Cx) (a i d:AV) (σ:St):Prop where
 run:∀ (H:HL) va vi (Φ:PV),(va,a)∈H->(vi,i)∈H->(∀ v,Φ v d σ)->WV X.B X.n X.L (getItem va vi) H σ Φ
abbrev RJ (a i v:DV) (s:Sy):={l:cV // ∀ X ρ,CD X (a.to ρ) (i.to ρ) (v.to ρ) (s.D.to ρ) ((s.objs l).D.to ρ)}
noncomputable abbrev RJ.l {i v:DV} (x:RJ a i v s):cV:=x.1
theorem RJ.ok {i v:DV} (x:RJ a i v s):∀ X ρ,CD X (a.to ρ) (i.to ρ) (v.to ρ) (s.D.to ρ) ((s.objs x.l).D.to ρ):=x.2
theorem DI {x:Str} {d:AV} {l:FL}:mf x d l (f7 x d l):=by
 induction l with
 | nil=>exact .new
 | cons p r ih=>
  show mf x d (p::r) (if p.1==x then (x,d)::r else p::f7 x d r)
  induction q:p.1==x using Bool.casesOn with
  | true=>obtain rfl:=cF q;exact .hit
  | false=>exact .skip q ih
theorem JZ {l:List (Str×DV)} {x:cK} {v:DV} (e:eY j s.D.objs=some (.dict l)) (h:Nat.ble l.length 900=true):CD X (.ref (el ρ j)) (.str x) (v.to ρ) (s.D.to ρ) ((s.objs (kZ j (.dict (sR (S x) v l)) s.D.objs)).D.to ρ):=by
 have m:=iW (ρ:=ρ) (r8:=s.D.rest) (o':=.dict (sR (S x) v l)) e
 rw[show(DO.dict (sR (S x) v l)).to ρ=.dict (f7 (S x) (v.to ρ) (jp ρ l))from cG AO.dict wK]at m
 exact⟨λy y y y y ma mi md k=>uD ma mi md DI m (by rw[cq];exact eP h) k⟩
theorem IU {X:Cx} {ρ:cP} {s:Sy} {j k:Nat} {ps:cR} {v:DV} (e:eY j s.D.objs=some (.list [] ps)) (h:(Nat.blt k ps.length&&Nat.ble ps.length 900)=true):CD X (.ref (el ρ j)) (.int k) (v.to ρ) (s.D.to ρ) ((s.objs (kZ j (.list [] (ps.set k v)) s.D.objs)).D.to ρ):=by
 have m:=iW (ρ:=ρ) (r8:=s.D.rest) (o':=.list [] (ps.set k v)) e
 rw[show(DO.list [] (ps.set k v)).to ρ=.list ((yC ρ [] ps).set k (v.to ρ))from cG AO.list (by rw[lU,lU];exact List.map_set)]at m
 exact⟨λy y y y y ma mi md q=>I1 ma mi md (by rw[lU,cq];exact mQ (dG h)) (AI (eB h)) m q⟩
def LN (a i v:DV) (s:Sy):Option (RJ a i v s):=match i with
 | .av (.str x)=>(match a with
  | .slot j=>iQ (eY j s.D.objs) λo e=>(match o,e with
   | .dict l,e=>gd (Nat.ble l.length 900) λh=>some ⟨_,λX ρ=>JZ e h⟩
   | _,_=>none)
  | _=>none)
 | .av (.int (.ofNat n))=>(match a with
  | .slot j=>iQ (eY j s.D.objs) λo e=>(match o,e with
   | .list [] ps,e=>gd (Nat.blt n ps.length&&Nat.ble ps.length 900) λh=>some ⟨_,λX ρ=>IU e h⟩
   | _,_=>none)
  | _=>none)
 | _=>none
abbrev RK (a i:DV) (s:Sy):={v:DV // ∀ X ρ,MR X (a.to ρ) (i.to ρ) (v.to ρ) (s.D.to ρ)}
noncomputable abbrev RK.v {i:DV} (x:RK a i s):DV:=x.1
theorem RK.ok {i:DV} (x:RK a i s):∀ X ρ,MR X (a.to ρ) (i.to ρ) (x.v.to ρ) (s.D.to ρ):=x.2
noncomputable def Qe (a i:DV) (s:Sy):Option (RK a i s):=match i with
 | .av (.str x)=>(match a with
  | .slot j=>iQ (eY j s.D.objs) λo e=>(match o,e with
   | .dict l,e=>iQ (gR (S x) l) λv q=>some ⟨v,λX ρ=>⟨λy y y y ma mi k=>GG ma (fB e) mi (nH q) k⟩⟩
   | _,_=>none)
  | _=>none)
 | .av (.int (.ofNat n))=>(match a with
  | .slot j=>iQ (eY j s.D.objs) λo e=>(match o,e with
   | .list [] ps,e=>iQ ps[n]? λv q=>gd (Nat.ble ps.length 900) λhz=>some ⟨v,λX ρ=>⟨λy y y y ma mi k=>Ny ma (fB e) mi (yP q) (AI hz) k⟩⟩
   | _,_=>none)
  | _=>none)
 | _=>none
end
end
section
variable {k:Option NameKind} {x:Str} {s:Sy} {v:Value} {g:Addr} {b:Bl} {fs:List (Str×DV)} {Φ:PV} {l:cL} {ρ:cP} {ps:cR}
section
structure gH (P:Px):Prop where
 K:P.X.B.K=P.K
 kind:P.X.env.scope.kind=.function
 loc:P.X.env.locals=P.X.L
 glob:P.X.env.globals=mainGlobals
 blt:P.X.env.builtins=builtinsNs
 gl:∀ p∈P.gl,eS P.X.B (.ref p.1) p.2
 cl:∀ x i,gR x P.cl=some i->P.X.env.cells.lookup x=some (el P.ρ i)/\i < P.ρ.length
noncomputable def Px.N (P:Px) (s:Sy):Nat:=P.ρ.length+s.n
set_option genCtorIdx true in
inductive Bl where
 | append | pop | join | count | rfind | len | ord | min | max | chr
noncomputable def Bl.id:Bl->String
 | .append=>"list.append"
 | .pop=>"list.pop"
 | .join=>"str.join"
 | .count=>"str.count"
 | .rfind=>"str.rfind"
 | .len=>"len"
 | .ord=>"ord"
 | .min=>"min"
 | .max=>"max"
 | .chr=>"chr"
inductive Ce where
 | fn (g:Addr) | bl (b:Bl)
noncomputable def Ce.val:Ce->Value
 | .fn g=>.ref g
 | .bl b=>.builtin b.id
def jB (x:Str) (b:Bl):Prop:=bootBuiltins x=some (.builtin b.id)/\x≠("__name__":Str)
theorem Do:jB "len" .len:=⟨PyProof.Rows.Boot.«len»,by refine bne_iff_ne.mp ?_;kernel_rfl⟩
theorem E4:jB "ord" .ord:=⟨PyProof.Rows.Boot.«ord»,by refine bne_iff_ne.mp ?_;kernel_rfl⟩
theorem CM:jB "min" .min:=⟨PyProof.Rows.Boot.«min»,by refine bne_iff_ne.mp ?_;kernel_rfl⟩
theorem BQ:jB "chr" .chr:=⟨PyProof.Rows.Boot.«chr»,by refine bne_iff_ne.mp ?_;kernel_rfl⟩
theorem Ed:jB "max" .max:=⟨PyProof.Rows.Boot.«max»,by refine bne_iff_ne.mp ?_;kernel_rfl⟩
noncomputable def qo {β:Str->Type} (x y:Str) (b:β y) (z:Option (β x)):Option (β x):=Bool.casesOn (motive:=λc=>(x==y)=c->Option (β x)) (x==y) (λw=>z) (λe=>some (cF e▸b)) rfl
noncomputable def Cm (x:Str):Option {b:Bl // jB x b}:=qo (β:=λx=>{b:Bl // jB x b}) x "len" ⟨.len,Do⟩ (qo (β:=λx=>{b:Bl // jB x b}) x "ord" ⟨.ord,E4⟩ (qo (β:=λx=>{b:Bl // jB x b}) x "min" ⟨.min,CM⟩ (qo (β:=λx=>{b:Bl // jB x b}) x "max" ⟨.max,Ed⟩ (qo (β:=λx=>{b:Bl // jB x b}) x "chr" ⟨.chr,BQ⟩ none))))
def AL (gl:List (Addr×AV)) (a:Addr):AV:=List.rec (.lit (.ref a)) (λp y ih=>bif Nat.beq p.1 a then p.2 else ih) gl
def zp (gl:List (Addr×AV)):Value->AV
 | .ref a=>AL gl a
 | v=>mM v
theorem AJ {B:dc} {gl:List (Addr×AV)} (h:∀ p∈gl,eS B (.ref p.1) p.2) (a:Addr):eS B (.ref a) (AL gl a):=by
 induction gl with
 | nil=>exact eS.lit _ _
 | cons p r ih=>
  show eS B (.ref a) (bif Nat.beq p.1 a then p.2 else AL r a)
  induction q:Nat.beq p.1 a using Bool.casesOn with
  | true=>obtain rfl:=Nat.eq_of_beq_eq_true q;exact h p dP
  | false=>exact ih λp hp=>h p (.tail _ hp)
theorem Aw {B:dc} {gl:List (Addr×AV)} (h:∀ p∈gl,eS B (.ref p.1) p.2) (v:Value):eS B v (zp gl v):=by
 rcases v with _ | _<;>first | exact AJ h _ | exact λF y=>rk _ _ _
noncomputable def ny (k:Option NameKind):Bool:=match k with
 | some .local=>true
 | _=>false
noncomputable def qd (k:Option NameKind):Bool:=match k with
 | some .globalImplicit=>true
 | _=>false
noncomputable def qG (k:Option NameKind):Bool:=match k with
 | some .cell=>true
 | _=>false
theorem tG (h:qG k=true):k=some .cell:=by
 induction k using Option.casesOn with
 | none=>exact Bool.noConfusion h
 | some k=>rcases k with _ | _<;>first | rfl | exact Bool.noConfusion h
theorem jY (h:ny k=true):k=some .local:=by
 induction k using Option.casesOn with
 | none=>exact Bool.noConfusion h
 | some k=>rcases k with _ | _<;>first | rfl | exact Bool.noConfusion h
theorem pO (h:qd k=true):k=some .globalImplicit:=by
 induction k using Option.casesOn with
 | none=>exact Bool.noConfusion h
 | some k=>rcases k with _ | _<;>first | rfl | exact Bool.noConfusion h
noncomputable def two {α:Type} (o:Option (Option α)):Option α:=Option.casesOn o none id
theorem uO {α:Type} {o:Option (Option α)} {a:α} (h:two o=some a):o=some (some a):=by
 induction o using Option.casesOn with
 | none=>contradiction
 | some o=>exact cG some h
section
variable {P:Px} (O:gH P)
include O in
theorem Hz {v:DV} (h:(!(x==("__debug__":Str))&&ny (P.X.env.kindOf x))=true) (e:two (gR x s.D.loc)=some v) (ρ:cP) (pi:Pos):Ev P.X (.Name x pi) (s.D.to ρ) (v.to ρ) (s.D.to ρ):=
 d9 (tN (uO e)) O.kind (jY (eB h)) O.loc (by simpa using dG h)
include O in
theorem I2 {σ:St} (h:(!(x==("__debug__":Str))&&qd (P.X.env.kindOf x))=true) (e:two (nsIn P.K mainGlobals x)=some v) (pi:Pos):Ev P.X (.Name x pi) σ (zp P.gl v) σ:=
 oF (by rw[O.K];exact uO e) (Aw O.gl _) O.kind (pO (eB h)) O.glob (by simpa using dG h)
include O in
theorem IL {v:DV} {i:Nat} (h:(!(x==("__debug__":Str))&&qG (P.X.env.kindOf x))=true) (e:gR x P.cl=some i) (q:eY i s.D.objs=some (.cell (some v))) (as:cP) (pi:Pos):Ev P.X (.Name x pi) (s.D.to (P.ρ++as)) (v.to (P.ρ++as)) (s.D.to (P.ρ++as)):=by
 obtain⟨h1,h2⟩:=O.cl x i e;rw[<-j8 (t:=as) h2]at h1
 exact⟨λy y k=>zv h1 (fB q) k O.kind (tG (eB h)) (by simpa using dG h)⟩
abbrev Oe (P:Px) (x:Str) (s:Sy):Type:={v:DV // ∀ as pi,Ev P.X (.Name x pi) (s.D.to (P.ρ++as)) (v.to (P.ρ++as)) (s.D.to (P.ρ++as))}
def EW (x:Str) (s:Sy):Option (Oe P x s):=
 Bool.casesOn (motive:=λb=>(!(x==("__debug__":Str))&&ny (P.X.env.kindOf x))=b->Option (Oe P x s)) (!(x==("__debug__":Str))&&ny (P.X.env.kindOf x))
  (λy=>Bool.casesOn (motive:=λb=>(!(x==("__debug__":Str))&&qd (P.X.env.kindOf x))=b->Option (Oe P x s)) (!(x==("__debug__":Str))&&qd (P.X.env.kindOf x))
   (λy=>gd (!(x==("__debug__":Str))&&qG (P.X.env.kindOf x)) λh=>iQ (gR x P.cl) λi e=>iQ (eY i s.D.objs) λo q=>match o,q with
    | .cell (some v),q=>some ⟨v,λas pi=>IL O h e q as pi⟩
    | _,_=>none)
   (λh=>iQ (two (nsIn P.K mainGlobals x)) λv e=>some ⟨.av (zp P.gl v),λy pi=>I2 O h e pi⟩) rfl)
  (λh=>iQ (two (gR x s.D.loc)) λv e=>some ⟨v,λas pi=>Hz O h e _ pi⟩) rfl
def CK (P:Px) (x:Str) (c:Ce):Prop:=(∀ σ pi,Bo P.X (.Name x pi) σ c.val (.lit c.val))/\iL P.X c.val
include O in
theorem LY (h:(!(x==("__debug__":Str))&&qd (P.X.env.kindOf x))=true) (e:nsIn P.K mainGlobals x=some (some (.ref g))) (hk:keepIn P.K (.ref g)=true):CK P x (.fn g):=
 ⟨λσ pi=>gj (by rw[O.K];exact e) O.kind (pO (eB h)) O.glob (by simpa using dG h),gZ (by rw[O.K];exact hk)⟩
include O in
theorem NK (h:(!(x==("__debug__":Str))&&qd (P.X.env.kindOf x))=true) (e:nsIn P.K mainGlobals x=some none) (q:jB x b):CK P x (.bl b):=
 ⟨λσ pi=>eG q.1 (by rw[O.K];exact e) O.kind (pO (eB h)) O.glob O.blt q.2 (by simpa using dG h),gV⟩
noncomputable def PL (x:Str):Option {c:Ce // CK P x c}:=gd (!(x==("__debug__":Str))&&qd (P.X.env.kindOf x)) λh=>iQ (nsIn P.K mainGlobals x) λo e=>match o,e with
 | some (.ref g),e=>gd (keepIn P.K (.ref g)) λhk=>some ⟨.fn g,LY O h e hk⟩
 | none,e=>ob (Cm x) λb=>some ⟨.bl b.1,NK O h e b.2⟩
 | _,_=>none
end
def qB (T:String) (x:Str) (b:Bl):Prop:=Slot T x b.id/\typeOf (.builtin b.id)=pure (.type "method_descriptor")
theorem Af:qB "str" "join" .join:=⟨PySem.F.slot_str_join,PySem.F.type_str_join⟩
theorem xL:qB "str" "count" .count:=⟨PySem.F.slot_str_count,PySem.F.type_str_count⟩
theorem yh:qB "str" "rfind" .rfind:=⟨PySem.F.slot_str_rfind,PySem.F.type_str_rfind⟩
theorem vk:qB "list" "append" .append:=⟨slot_list_append,type_list_append⟩
theorem BY:qB "list" "pop" .pop:=⟨PySem.F.slot_list_pop,PySem.F.type_list_pop⟩
abbrev ux (T:String) (x:Str):Type:={b:Bl // qB T x b}
noncomputable def CL (x:Str):Option (ux "str" x):=qo (β:=ux "str") x "join" ⟨.join,Af⟩ (qo (β:=ux "str") x "count" ⟨.count,xL⟩ (qo (β:=ux "str") x "rfind" ⟨.rfind,yh⟩ none))
noncomputable def DY (x:Str):Option (ux "list" x):=qo (β:=ux "list") x "append" ⟨.append,vk⟩ (qo (β:=ux "list") x "pop" ⟨.pop,BY⟩ none)
inductive Pz (P:Px) (o:DV) (n5:Str) (s:Sy) where
 | cls (c:Ce) (ok:∀ ρ,lX P.X (o.to ρ) n5 c.val (s.D.to ρ)/\iL P.X c.val)
 | own (g:Addr) (j:Nat) (ok:∀ ρ,A4 P.X (o.to ρ) n5 (.meth g (el ρ j)) (s.D.to ρ)) (hf:fnIn P.X.B.K g=true)
section
variable {P:Px} (O:gH P)
include O in
theorem Ig {i:Nat} {n5:Str} {C dx:Addr} (e:eY i s.D.objs=some (.inst C dx fs)) (q:gR n5 fs=none) (h:(gm P.K C n5 g&&keepIn P.K (.ref g))=true) (ρ:cP):lX P.X (.ref (el ρ i)) n5 (.ref g) (s.D.to ρ)/\iL P.X (.ref g):=by
 rw[<-O.K]at h
 exact⟨vu (fB e) (mY q) (dG h),gZ (eB h)⟩
noncomputable def Gv (o:Option (cT)):Bool:=match o with
 | some none=>true
 | _=>false
theorem DC {o:Option (cT)} (h:Gv o=true):o=some none:=by
 induction o using Option.casesOn with
 | none=>exact Bool.noConfusion h
 | some o=>rcases o with _ | _<;>first | rfl | exact Bool.noConfusion h
include O in
theorem HU {i j:Nat} {n5:Str} {C dx:Addr} (e:eY i s.D.objs=some (.inst C dx fs)) (q:gR n5 fs=some (.meth g j)) (h:(iw P.K C n5&&Gv (findIn P.K (.ref C) n5)&&fnIn P.K g)=true) (ρ:cP):A4 P.X (.ref (el ρ i)) n5 (.meth g (el ρ j)) (s.D.to ρ):=by
 rw[<-O.K]at h
 exact⟨λy y y y mv k=>nj mv (fB e) (dG (dG h)) (DC (eB (dG h))) (nH q) rfl k⟩
noncomputable def Qb (i:Nat) (n5:Str) (s:Sy) (C dx:Addr) (fs:List (Str×DV)) (e:eY i s.D.objs=some (.inst C dx fs)):Option (Pz P (.slot i) n5 s):=
 Option.casesOn (motive:=λz=>gR n5 fs=z->Option (Pz P (.slot i) n5 s)) (gR n5 fs)
  (λq=>ob (Fy (findIn P.K (.ref C) n5)) λg=>gd (gm P.K C n5 g&&keepIn P.K (.ref g)) λh=>some (.cls (.fn g) λρ=>Ig O e q h ρ))
  (λv q=>match v,q with
   | .meth g j,q=>gd (iw P.K C n5&&Gv (findIn P.K (.ref C) n5)&&fnIn P.K g) λh=>some (.own g j (λρ=>HU O e q h ρ) (by exact(O.K)▸(eB h)))
   | _,_=>none) rfl
noncomputable def Qd (o:DV) (n5:Str) (s:Sy):Option (Pz P o n5 s):=match o with
 | .av (.str x)=>ob (CL n5) λb=>some (.cls (.bl b.1) λρ=>⟨wl b.2.1 b.2.2,gV⟩)
 | .slot i=>iQ (eY i s.D.objs) λo e=>(match o,e with
  | .list l ps,e=>ob (DY n5) λb=>some (.cls (.bl b.1) λρ=>⟨IV (fB e) b.2.1 b.2.2,gV⟩)
  | .inst C dx fs,e=>Qb O i n5 s C dx fs e
  | _,_=>none)
 | _=>none
end
section
variable {B:dc} {n:Nat} {L:Addr} {H:HL} {σ:St}
theorem J2 {a b:Int} {w:Value} (mv:(v,.int a)∈H) (mw:(w,.int b)∈H) (h:∀ v,Φ v (.int (min a b)) σ):WV B n L (call (.builtin "min") [v,w]) H σ Φ:=dg λA F s hA X=>by
 obtain⟨t,rfl⟩:=dw (X.hold mv);obtain⟨u,rfl⟩:=dw (X.hold mw);refine min_two_ints hA.handled λh' tk k=>dm.more X k rfl rfl ?_
 by_cases q:b < a
 . exact(cJ q)▸(⟨.int (min a b),by rw[Int.min_eq_right (Int.le_of_lt q)];exact .int _ _,h _⟩)
 . exact(cH q)▸(⟨.int (min a b),by rw[Int.min_eq_left (Int.not_lt.mp q)];exact .int _ _,h _⟩)
theorem Im {a b:Int} {w:Value} (mv:(v,.int a)∈H) (mw:(w,.int b)∈H) (h:∀ v,Φ v (.int (max a b)) σ):WV B n L (call (.builtin "max") [v,w]) H σ Φ:=dg λA F s hA X=>by
 obtain⟨t,rfl⟩:=dw (X.hold mv);obtain⟨u,rfl⟩:=dw (X.hold mw);refine max_two_ints hA.handled λh' tk k=>dm.more X k rfl rfl ?_
 by_cases q:b > a
 . exact(cJ q)▸(⟨.int (max a b),by rw[Int.max_eq_right (Int.le_of_lt q)];exact .int _ _,h _⟩)
 . exact(cH q)▸(⟨.int (max a b),by rw[Int.max_eq_left (Int.not_lt.mp q)];exact .int _ _,h _⟩)
end
section
variable {X:Cx} {σ:St} {i j:Int}
theorem GY:eV X (.builtin "min") [.int i,.int j] σ (.int (min i j)) σ:=kL λy y y y mv mw h=>J2 mv mw h
theorem HO:eV X (.builtin "max") [.int i,.int j] σ (.int (max i j)) σ:=kL λy y y y mv mw h=>Im mv mw h
end
section
variable {B:dc} {n:Nat} {L:Addr} {H:HL} {σ:St} {e5:Env}
theorem J5 {a:Addr} {d:AV} {v5:Value} {l9:LL} {o8 o3:OL} (mv:(v5,.ref a)∈H) (md:(v,.int 0)∈H) (mo:(a,AO.list (d::l))∈o8)
 (m:nk a (.list (d::l)) (.list l) o8 o3) (hz:(d::l).length<=16777216) (h:∀ v,Φ v d ⟨l9,o3⟩):WV B n L (call (.builtin "list.pop") [v5,v]) H ⟨l9,o8⟩ Φ:=
 mh (σ:=⟨l9,o8⟩) (k:=0) (i:=0) mv md (by rfl) (by unfold seqIndex?;rw[cH (show ¬ (0:Int) < 0 by simp+arith)];simp) rfl rfl m hz h
end
theorem Ge {i:Nat} {d:AV} (e:eY i s.D.objs=some (.list (d::l) [])) (hz:l.length<=16777215):eV X (.builtin "list.pop") [.ref (el ρ i),.int 0] (s.D.to ρ) d ((s.objs (kZ i (.list l []) s.D.objs)).D.to ρ):=
 kL λy y y y mv md h=>J5 mv md (fB (ρ:=ρ) (r8:=s.D.rest) e) (iW (ρ:=ρ) (r8:=s.D.rest) (o':=.list l []) e) (bX hz) h
abbrev B2 (b:Bl) (vs:cR) (s:Sy):Type:={p:DV×Sy // p.2.n=s.n/\(p.2.c->s.c)/\(p.2.c->∀ X ρ,eV X (.builtin b.id) (mC ρ vs) (s.D.to ρ) (p.1.to ρ) (p.2.D.to ρ))}
noncomputable def sC {vs:cR} (v:DV) (h:∀ X ρ,eV X (.builtin b.id) (mC ρ vs) (s.D.to ρ) (v.to ρ) (s.D.to ρ)):Option (B2 b vs s):=some ⟨(v,s),rfl,id,λy=>h⟩
noncomputable def nz {vs:cR} (v:DV) (l:cV) (q:Prop) (h:q->∀ X ρ,eV X (.builtin b.id) (mC ρ vs) (s.D.to ρ) (v.to ρ) ((s.objs l).D.to ρ)):Option (B2 b vs s):=some ⟨(v,(s.objs l).need q),rfl,And.left,λc=>h c.2⟩
theorem Gx {i:Nat} (e:eY i s.D.objs=some (.list l ps)) (h:l.length+ps.length<=16777216):eV X (.builtin "len") [.ref (el ρ i)] (s.D.to ρ) (.int (l.length+ps.length:Nat)) (s.D.to ρ):=by
 have:=GM (X:=X) (l9:=il ρ s.D.loc) (fB (ρ:=ρ) (r8:=s.D.rest) e) (by exact(jv)▸(h))
 rw[jv]at this
 exact this
theorem KD {i:Nat} {d:DV} (e:eY i s.D.objs=some (.list l ps)) (hz:l.length+ps.length<=16777216):eV X (.builtin "list.append") [.ref (el ρ i),d.to ρ] (s.D.to ρ) .none ((s.objs (kZ i (.list l (ps++[d])) s.D.objs)).D.to ρ):=by
 have m:=iW (ρ:=ρ) (r8:=s.D.rest) (o':=.list l (ps++[d])) e
 rw[show(DO.list l (ps++[d])).to ρ= _ from mr]at m
 exact za m (by exact(jv)▸(hz))
theorem MN {i j:Nat} {fs':FL} (e:eY j s.D.objs=some (.dict fs)) (q:oT fs=some fs') (e':eY i (qK j s.D.objs)=some (.list l ps)) (hz:l.length+ps.length<=16777216):
 eV X (.builtin "list.append") [.ref (el ρ i),.ref (el ρ j)] (s.D.to ρ) .none ((s.objs (kZ i (.list l (ps++[.av (.dct fs')])) (qK j s.D.objs))).D.to ρ):=by
 have m:=iW (ρ:=ρ) (r8:=s.D.rest) (o':=.list l (ps++[.av (.dct fs')])) e'
 rw[show(DO.list l (ps++[.av (.dct fs')])).to ρ= _ from mr]at m
 have tk:=Ac (ρ:=ρ) (r8:=s.D.rest) e
 rw[DO.to,qC q]at tk
 exact yY tk m (by exact(jv)▸(hz))
theorem NY {i:Nat} {v:DV} (e:eY i s.D.objs=some (.list l ps)) (q:ps.getLast? =some v) (hz:l.length+ps.length<=16777000):eV X (.builtin "list.pop") [.ref (el ρ i)] (s.D.to ρ) (v.to ρ) ((s.objs (kZ i (.list l ps.dropLast) s.D.objs)).D.to ρ):=by
 have m:=iW (ρ:=ρ) (r8:=s.D.rest) (o':=.list l ps.dropLast) e
 obtain⟨qs,rfl⟩:=List.getLast?_eq_some_iff.mp q
 rw[show(DO.list l (qs++[v])).to ρ= _ from mr,List.dropLast_concat]at m
 rw[List.dropLast_concat];rw[bM]at hz
 exact HA m (by rw[jv];exact dN (bG (bU _ _) _) hz)
theorem G6 {i:Nat} {l':cL} {ms:d8} (e:eY i s.D.objs=some (.list l ps)) (q:lC ps=some l') (t:dT (l++l')=some ms) (hz:ms.flatten.length<=16777216):eV X (.builtin "str.join") [.str [],.ref (el ρ i)] (s.D.to ρ) (.str ms.flatten) (s.D.to ρ):=
 zN (fB e) (by rw[jm,mJ q];exact t) hz
def MM (b:Bl) (i:Nat) (s:Sy):Option (B2 b [.slot i] s):=iQ (eY i s.D.objs) λo e=>match o,e with
 | .list l ps,e=>(match b with
  | .len=>nz (.av (.int (l.length+ps.length:Nat))) s.D.objs (l.length+ps.length<=16777216) λh X ρ=>Gx e h
  | .pop=>iQ ps.getLast? λv q=>nz v (kZ i (.list l ps.dropLast) s.D.objs) (l.length+ps.length<=16777000) λh X ρ=>NY e q h
  | _=>none)
 | _,_=>none
noncomputable def Pd (b:Bl) (x:cK) (s:Sy):Option (B2 b [.av (.str x)] s):=match b with
 | .len=>nz (.av (.int x.length)) s.D.objs (x.length<=16777216) λh X ρ=>mH h
 | .ord=>(match x with
  | [c]=>sC (.av (.int c)) λX ρ=>MS
  | _=>none)
 | _=>none
def NC (i:Nat) (d:DV) (s:Sy):Option (B2 .append [.slot i,d] s):=iQ (eY i s.D.objs) λo e=>match o,e with
 | .list l ps,e=>nz (.av .none) (kZ i (.list l (ps++[d])) s.D.objs) (l.length+ps.length<=16777216) λh X ρ=>KD e h
 | _,_=>none
def Oo (i j:Nat) (s:Sy) (fs:List (Str×DV)) (e:eY j s.D.objs=some (.dict fs)):Option (B2 .append [.slot i,.slot j] s):=iQ (oT fs) λfs' q=>iQ (eY i (qK j s.D.objs)) λo e'=>match o,e' with
 | .list l ps,e'=>nz (.av .none) (kZ i (.list l (ps++[.av (.dct fs')])) (qK j s.D.objs)) (l.length+ps.length<=16777216) λh X ρ=>MN e q e' h
 | _,_=>none
def Om (b:Bl) (x y:DV) (s:Sy):Option (B2 b [x,y] s):=match b with
 | .append=>(match x with
  | .slot i=>(match y with
   | .slot j=>iQ (eY j s.D.objs) λo e=>(match o,e with
    | .dict fs,e=>Oo i j s fs e
    | _,_=>NC i (.slot j) s)
   | d=>NC i d s)
  | _=>none)
 | .min=>(match x,y with
  | .av (.int i),.av (.int j)=>sC (.av (.int (Min.min i j))) λX ρ=>GY
  | _,_=>none)
 | .max=>(match x,y with
  | .av (.int i),.av (.int j)=>sC (.av (.int (Max.max i j))) λX ρ=>HO
  | _,_=>none)
 | .pop=>(match x with
  | .slot i=>(match y with
   | .av (.int (.ofNat 0))=>iQ (eY i s.D.objs) λo e=>(match o,e with
    | .list (d::l) [],e=>nz (.av d) (kZ i (.list l []) s.D.objs) (l.length<=16777215) λh X ρ=>Ge e h
    | _,_=>none)
   | _=>none)
  | _=>none)
 | .join=>(match x with
  | .av (.str [])=>(match y with
   | .slot i=>iQ (eY i s.D.objs) λo e=>(match o,e with
    | .list l ps,e=>iQ (lC ps) λl' q=>iQ (dT (l++l')) λms t=>nz (.av (.str ms.flatten)) s.D.objs (ms.flatten.length<=16777216) λh X ρ=>G6 e q t h
    | _,_=>none)
   | _=>none)
  | _=>none)
 | _=>none
noncomputable def Lo (b:Bl) (x y z w:DV) (s:Sy):Option (B2 b [x,y,z,w] s):=match x,y,z,w with
 | .av (.str x),.av (.str [c]),.av (.int (.ofNat 0)),.av (.int i)=>(match b with
  | .count=>sC (.av (.int (fN c x i))) λX ρ=>Cf
  | .rfind=>sC (.av (.int (iN c x i))) λX ρ=>D5
  | _=>none)
 | _,_,_,_=>none
noncomputable def P7 (b:Bl) (i:Int) (s:Sy):Option (B2 b [.av (.int i)] s):=match b with
 | .chr=>nz (.av (.str [i.toNat])) s.D.objs (0<=i/\i<=1114111) λh X ρ=>Mj h
 | _=>none
def Pq (b:Bl) (vs:cR) (s:Sy):Option (B2 b vs s):=match vs with
 | [.slot i]=>MM b i s
 | [.av (.str x)]=>Pd b x s
 | [.av (.int i)]=>P7 b i s
 | [x,y]=>Om b x y s
 | [x,y,z,w]=>Lo b x y z w s
 | _=>none
end
end
section
variable {a i x y:DV} {op:CmpOp} {b:Bool} {D:DS} {l:List (Str×DV)} {t e m:Expr} {b3:cM} {pi:Pos} {k:Nat} {o:List fj} {g:Addr} {vs:cR} {es:cN} {ks:List (Option Expr)}
abbrev RY (P:Px) (a i:DV) (s:Sy):=Sigma λv:DV=>{s':Sy // kJ s s'/\(s'.c->∀ as,as.length=s.n->∀ e1 e2,fL e2=true->iI P.X e1 e2 (a.to (P.ρ++as)) (i.to (P.ρ++as)) (v.to (P.ρ++as)) (s.D.to (P.ρ++as)))}
noncomputable abbrev RY.v (x:RY P a i s):DV:=x.1
noncomputable abbrev RY.s' (x:RY P a i s):Sy:=x.2.1
theorem RY.A (x:RY P a i s):kJ s x.s':=x.2.2.1
theorem RY.ok (x:RY P a i s):x.s'.c->∀ as,as.length=s.n->∀ e1 e2,fL e2=true->iI P.X e1 e2 (a.to (P.ρ++as)) (i.to (P.ρ++as)) (x.v.to (P.ρ++as)) (s.D.to (P.ρ++as)):=x.2.2.2
abbrev RX (P:Px) (op:CmpOp) (a b:DV) (s:Sy):=Sigma λr:DB=>{s':Sy // kJ s s'/\(s'.c->∀ as,as.length=s.n->fY P.X op (a.to (P.ρ++as)) (b.to (P.ρ++as)) r.val (s.D.to (P.ρ++as)))}
noncomputable abbrev RX.r {b:DV} (x:RX P op a b s):DB:=x.1
noncomputable abbrev RX.s' {b:DV} (x:RX P op a b s):Sy:=x.2.1
theorem RX.A {b:DV} (x:RX P op a b s):kJ s x.s':=x.2.2.1
theorem RX.ok {b:DV} (x:RX P op a b s):x.s'.c->∀ as,as.length=s.n->fY P.X op (a.to (P.ρ++as)) (b.to (P.ρ++as)) x.r.val (s.D.to (P.ρ++as)):=x.2.2.2
section
variable {P:Px} {s s':Sy} {as bs:cP}
theorem m9 {α:Type} {f:cP->α} {n:Nat} (h:∀ ρ t:cP,ρ.length=n->f (ρ++t)=f ρ) (hn:P.N s=n) (ha:as.length=s.n) (hp:as <+:bs):f (P.ρ++bs)=f (P.ρ++as):=by
 obtain⟨t,rfl⟩:=hp;rw[<-bS];exact h _ _ (by rw[bM,ha];exact hn)
theorem fm {v:DV} (h:v.bel (P.N s)=true) (ha:as.length=s.n) (hp:as <+:bs):v.to (P.ρ++bs)=v.to (P.ρ++as):=m9 (f:=λρ=>v.to ρ) (λρ t e=>DV.to_app (by rw[e];exact h)) rfl ha hp
theorem JP {l:cZ} (h:Bt (P.N s) l=true) (ha:as.length=s.n) (hp:as <+:bs):il (P.ρ++bs) l=il (P.ρ++as) l:=m9 (f:=λρ=>il ρ l) (λρ t e=>qw (by rw[e];exact h)) rfl ha hp
theorem OS (h:D.bel (P.N s)=true) (ha:as.length=s.n) (hp:as <+:bs):D.to (P.ρ++bs)=D.to (P.ρ++as):=m9 (f:=λρ=>D.to ρ) (λρ t e=>DS.to_app (by rw[e];exact h)) rfl ha hp
theorem Qa (h:(l.all λp=>p.2.bel (P.N s))=true) (ha:as.length=s.n) (hp:as <+:bs):jp (P.ρ++bs) l=jp (P.ρ++as) l:=m9 (f:=λρ=>jp ρ l) (λρ t e=>oG (by rw[e];exact h)) rfl ha hp
theorem Pl {l:cR} (h:l.all (DV.bel (P.N s))=true) (ha:as.length=s.n) (hp:as <+:bs):mC (P.ρ++bs) l=mC (P.ρ++as) l:=m9 (f:=λρ=>mC ρ l) (λρ t e=>wS (by rw[e];exact h)) rfl ha hp
end
structure SV (P:Px) (e:Expr) (s:Sy) (v:DV) (s':Sy):Prop where
 c:s'.c->s.c
 run:s'.c->∀ as,as.length=s.n->∀ (H:HL) (Φ:PV),(∀ w bs,bs.length=s'.n->as <+:bs->Φ w (v.to (P.ρ++bs)) (s'.D.to (P.ρ++bs)))->WV P.X.B P.X.n P.X.L (eval e P.X.env) H (s.D.to (P.ρ++as)) Φ
structure ST (P:Px) (e:Expr) (s:Sy) (b:Bool) (s':Sy):Prop where
 c:s'.c->s.c
 run:s'.c->∀ as,as.length=s.n->∀ (H:HL) (Φ:Bool->St->Prop),(∀ bs,bs.length=s'.n->as <+:bs->Φ b (s'.D.to (P.ρ++bs)))->WB P.X.B P.X.n P.X.L (isTrue e P.X.env (eval e P.X.env)) H (s.D.to (P.ρ++as)) Φ
structure SX (P:Px) (st:Stmt) (s:Sy) (f:DF) (s':Sy):Prop where
 c:s'.c->s.c
 run:s'.c->∀ as,as.length=s.n->∀ (H:HL) (Φ:PF),(∀ bs,bs.length=s'.n->as <+:bs->Φ (f.to (P.ρ++bs)) (s'.D.to (P.ρ++bs)))->WF P.X.B P.X.n P.X.L (exec st P.X.env) H (s.D.to (P.ρ++as)) Φ
structure SL (P:Px) (es:cN) (s:Sy) (vs:cR) (s':Sy):Prop where
 c :s'.c->s.c
 run:s'.c->∀ as,as.length=s.n->∀ pi (H:HL) (Φ:cO->cL->St->Prop),(∀ ws bs,ws.length=vs.length->bs.length=s'.n->as <+:bs->Φ ws (mC (P.ρ++bs) vs) (s'.D.to (P.ρ++bs)))->
  WL P.X.B P.X.n P.X.L (spliced (backTo pi (starEach es P.X.env))) H (s.D.to (P.ρ++as)) Φ
structure SD (P:Px) (ks:List (Option Expr)) (es:cN) (s:Sy) (l:List (Str×DV)) (s':Sy):Prop where
 c:s'.c->s.c
 len:l.length=es.length
 zip:∀ pi,(evalEachOpt ks P.X.env).zip ((evalEach es P.X.env).map λv=>do let x <-v;standAt pi;pure x)=(dO P.X.env pi ks es).map λp=>(some p.1,p.2)
 plen:∀ pi,(dO P.X.env pi ks es).length=es.length
 run:s'.c->∀ as,as.length=s.n->∀ pi (H:HL) (Φ:FL->St->Prop),(∀ bs,bs.length=s'.n->as <+:bs->Φ (jp (P.ρ++bs) l) (s'.D.to (P.ρ++bs)))->WD P.X.B P.X.n P.X.L (evalPairs (dO P.X.env pi ks es)) H (s.D.to (P.ρ++as)) Φ
structure SP (P:Px) (e:Option Expr) (s:Sy) (v:DV) (s':Sy):Prop where
 c:s'.c->s.c
 run:s'.c->∀ as,as.length=s.n->∀ (H:HL) (Φ:PV),(∀ w bs,bs.length=s'.n->as <+:bs->Φ w (v.to (P.ρ++bs)) (s'.D.to (P.ρ++bs)))->WV P.X.B P.X.n P.X.L (evalPart e P.X.env) H (s.D.to (P.ρ++as)) Φ
structure SA (P:Px) (op:BoolOp) (es:cN) (s:Sy) (b:Bool) (s':Sy):Prop where
 c:s'.c->s.c
 run:s'.c->∀ as,as.length=s.n->∀ (H:HL) (Φ:Bool->St->Prop),(∀ bs,bs.length=s'.n->as <+:bs->Φ b (s'.D.to (P.ρ++bs)))->WB P.X.B P.X.n P.X.L (allTrue op es P.X.env) H (s.D.to (P.ρ++as)) Φ
structure SB (P:Px) (ss:cM) (s:Sy) (f:DF) (s':Sy):Prop where
 c:s'.c->s.c
 run:s'.c->∀ as,as.length=s.n->∀ (H:HL) (Φ:PF),(∀ bs,bs.length=s'.n->as <+:bs->Φ (f.to (P.ρ++bs)) (s'.D.to (P.ρ++bs)))->WF P.X.B P.X.n P.X.L (execs ss P.X.env) H (s.D.to (P.ρ++as)) Φ
structure SC (P:Px) (f:Value) (vs:cR) (s:Sy) (v:DV) (s':Sy):Prop where
 c :s'.c->s.c
 run:s'.c->∀ as,as.length=s.n->∀ (H:HL) ws (Φ:PV),ws.length=vs.length->(∀ p∈ws.zip (mC (P.ρ++as) vs),p∈H)->(∀ w bs,bs.length=s'.n->as <+:bs->Φ w (v.to (P.ρ++bs)) (s'.D.to (P.ρ++bs)))->
  WV P.X.B P.X.n P.X.L (call f ws) H (s.D.to (P.ρ++as)) Φ
structure SK (P:Px) (g:Addr) (vs:cR) (s:Sy) (v:DV) (s':Sy):Prop where
 c:s'.c->s.c
 ok:∃ m,m<=P.X.n/\(s'.c->∀ as,as.length=s.n->de P.X.B m g (mC (P.ρ++as) vs) (dE (P.ρ++as) s.D.rest s.D.objs) λd o=>∃ bs,bs.length=s'.n/\as <+:bs/\d=v.to (P.ρ++bs)/\(⟨il (P.ρ++as) s.D.loc,o⟩:St)=s'.D.to (P.ρ++bs))
structure SG (P:Px) (t:Expr) (v:DV) (s s':Sy):Prop where
 c :s'.c->s.c
 n :s'.n=s.n
 run:s'.c->∀ as,as.length=s.n->∀ (H:HL) w (Φ:St->Prop),(w,v.to (P.ρ++as))∈H->Φ (s'.D.to (P.ρ++as))->WU P.X.B P.X.n P.X.L (assign t P.X.env w) H (s.D.to (P.ρ++as)) Φ
 stm:∀ e pi,(∀ t l,swapsWith e t l P.X.env=pure false)->s'.c->∀ (H:HL) (σ:St) (Φ:PF),
  WV P.X.B P.X.n P.X.L (eval e P.X.env) H σ (λw d a6=>∃ bs,bs.length=s.n/\d=v.to (P.ρ++bs)/\a6=s.D.to (P.ρ++bs)/\Φ .next (s'.D.to (P.ρ++bs)))->WF P.X.B P.X.n P.X.L (exec (.Assign [t] e pi) P.X.env) H σ Φ
def JW (X:Cx) (t:Expr) (b3:cM) (H:HL) (Φ:PF) (k:Nat):St->Prop:=
 Nat.rec (λσ=>WB X.B X.n X.L (isTrue t X.env (eval t X.env)) H σ λb a6=>(b=false/\Φ .next a6)\/(b=true/\WF X.B X.n X.L (execs b3 X.env) H a6 λf a9=>f=.brk/\Φ .next a9))
  (λy ih σ=>WB X.B X.n X.L (isTrue t X.env (eval t X.env)) H σ λb a6=>b=true/\WF X.B X.n X.L (execs b3 X.env) H a6 λf a9=>(f=.next\/f=.cont)/\ih a9) k
theorem zi {X:Cx} {H:HL} {Φ:PF} {σ:St} (h:JW X t b3 H Φ k σ):WF X.B X.n X.L (exec (.While t b3 [] pi) X.env) H σ Φ:=
 mz (λk σ=>JW X t b3 H Φ k σ) k h λk σ w=>by
  cases k with
  | zero=>exact gN w λb a6 z=>z.elim (λ⟨e,q⟩=>⟨λe'=>(nomatch e.symm.trans e'),λy=>q⟩) λ⟨e,q⟩=>⟨λy=>qZ q λf a9 ⟨e,q⟩=>by subst e;exact q,λe'=>(nomatch e.symm.trans e')⟩
  | succ k=>exact gN w λb a6 ⟨e,q⟩=>⟨λy=>qZ q λf a9 ⟨e,q⟩=>by rcases e with rfl | rfl<;>exact⟨k,Nat.lt_succ_self _,q⟩,λe'=>(nomatch e.symm.trans e')⟩
structure SW (P:Px) (t:Expr) (b3:cM) (s s':Sy):Prop where
 c:s'.c->s.c
 run:s'.c->∃ k,∀ as,as.length=s.n->∀ (H:HL) (Φ:PF),(∀ bs,bs.length=s'.n->as <+:bs->Φ .next (s'.D.to (P.ρ++bs)))->JW P.X t b3 H Φ k (s.D.to (P.ρ++as))
section
variable {P:Px} (O:gH P) {s s' s1 s2 s3 s4:Sy}
theorem IJ (a:ST P t s false s'):SW P t b3 s s':=⟨a.c,λc=>⟨0,λas ha H Φ k=>a.run c as ha H _ λbs hb pb=>.inl ⟨rfl,k bs hb pb⟩⟩⟩
theorem JH (a:ST P t s true s1) (b:SB P b3 s1 .brk s'):SW P t b3 s s':=⟨λc=>a.c (b.c c),λc=>⟨0,λas ha H Φ k=>a.run (b.c c) as ha H _ λbs hb pb=>.inr ⟨rfl,b.run c bs hb H _ λcs hc pc=>⟨rfl,k cs hc (pb.trans pc)⟩⟩⟩⟩
theorem EV {f:DF} (hf:f=.next\/f=.cont) (a:ST P t s true s1) (b:SB P b3 s1 f s2) (w:SW P t b3 s2 s'):SW P t b3 s s':=⟨λc=>a.c (b.c (w.c c)),λc=>by
 obtain⟨n,w'⟩:=w.run c;refine⟨n+1,λas ha H Φ k=>a.run (b.c (w.c c)) as ha H _ λbs hb pb=>⟨rfl,b.run (w.c c) bs hb H _ λcs hc pc=>⟨?_,w' cs hc H Φ λds hd pd=>k ds hd ((pb.trans pc).trans pd)⟩⟩⟩
 rcases hf with rfl | rfl
 . exact .inl rfl
 . exact .inr rfl⟩
theorem z6 (w:SW P t b3 s s'):SX P (.While t b3 [] pi) s .next s':=⟨w.c,λc as ha H Φ k=>by
 obtain⟨n,w'⟩:=w.run c;exact zi (w' as ha H Φ k)⟩
theorem SV.of {v:DV} (hn:s'.n=s.n) (hc:s'.c->s.c) (h:s'.c->∀ as,Ev P.X e (s.D.to (P.ρ++as)) (v.to (P.ρ++as)) (s'.D.to (P.ρ++as))):SV P e s v s':=
 ⟨hc,λc as ha H Φ k=>(h c _).run H Φ λw=>k w as (ha.trans hn.symm) (bV _)⟩
noncomputable def Sy.exE (P:Px) (e:Expr) (s:Sy) (k:Nat) (v:DV) (D:DS) (o:List fj):Sy:=⟨D,s.n+k,o,s.c/\uv s.n λas=>xr P.X e (s.D.to (P.ρ++as)) λd σ'=>Bx k λbs=>d=v.to (P.ρ++(as++bs))/\σ'=D.to (P.ρ++(as++bs))⟩
noncomputable def Sy.exS (P:Px) (st:Stmt) (s:Sy) (k:Nat) (D:DS) (o:List fj):Sy:=⟨D,s.n+k,o,s.c/\uv s.n λas=>xV P.X st (s.D.to (P.ρ++as)) λf σ'=>f=.next/\Bx k λbs=>σ'=D.to (P.ρ++(as++bs))⟩
noncomputable def Sy.cal (P:Px) (g:Addr) (vs:cR) (s:Sy) (k:Nat) (v:DV) (o8:cV) (r8:OL) (m:Nat) (o:List fj):Sy:=⟨⟨s.D.loc,o8,r8⟩,s.n+k,o,s.c/\uv s.n λas=>de P.X.B m g (mC (P.ρ++as) vs) (dE (P.ρ++as) s.D.rest s.D.objs) λd o=>Bx k λbs=>d=v.to (P.ρ++(as++bs))/\o=dE (P.ρ++(as++bs)) r8 o8⟩
noncomputable def Sy.calS (P:Px) (g:Addr) (vs:cR) (s:Sy) (v:DV) (new:cV) (m:Nat) (o:List fj):Sy:=⟨⟨s.D.loc,new++s.D.objs.drop new.length,s.D.rest⟩,s.n,o,s.c/\uv s.n λas=>∀ R:OL,de P.X.B m g (mC (P.ρ++as) vs) (dE (P.ρ++as) R (s.D.objs.take new.length)) λd o=>d=v.to (P.ρ++as)/\o=dE (P.ρ++as) R new⟩
theorem pQ {ρ:cP} {R:OL} {a b:cV}:dE ρ R (a++b)=dE ρ (dE ρ R b) a:=by
 unfold dE;rw[ci,bS]
theorem L7 {v:DV} {m:Nat} {new:cV} (h:Nat.ble m P.X.n=true):SK P g vs s v (s.calS P g vs v new m o):=
 ⟨And.left,_,eP h,λc as ha=>by
  have w:=kC c.2 as ha (dE (P.ρ++as) s.D.rest (s.D.objs.drop new.length))
  rw[<-pQ,List.take_append_drop]at w
  refine w.mono λd o q=>⟨as,ha,bV _,q.1,?_⟩
  rw[q.2,<-pQ];rfl⟩
theorem Nc {v:DV}:SV P e s v (s.exE P e k v D o):=
 ⟨And.left,λc as ha H Φ k=>(kC c.2 as ha).run H Φ λw d σ' q=>by
  refine jM (uR q) ?_;rintro bs hl e1 e2
  subst e1 e2
  exact k w (as++bs) (by rw[bM,ha,hl];rfl) (List.prefix_append _ _)⟩
theorem O3 {st:Stmt}:SX P st s .next (s.exS P st k D o):=
 ⟨And.left,λc as ha H Φ k=>(kC c.2 as ha).run H Φ λf σ' q=>by
  obtain⟨e1,q⟩:=q;refine dW (uR q) ?_;rintro bs hl e2
  subst e1 e2
  exact k (as++bs) (by rw[bM,ha,hl];rfl) (List.prefix_append _ _)⟩
theorem NN {v:DV} {m:Nat} {o8:cV} {r8:OL} (h:(Nat.ble m P.X.n&&(Nat.beq k 0||Bt (P.N s) s.D.loc))=true):
 SK P g vs s v (s.cal P g vs k v o8 r8 m o):=
 ⟨And.left,_,eP (dG h),λc as ha=>(kC c.2 as ha).mono λd o q=>by
  refine jM (uR q) ?_;rintro bs hl e1 e2
  refine⟨as++bs,by rw[bM,ha,hl];rfl,List.prefix_append _ _,e1,?_⟩
  subst e2;refine cG (λz=>St.mk z _) ?_
  rcases Bool.or_eq_true_iff.mp (eB h)with hk | hk
  . obtain rfl:=Nat.eq_of_beq_eq_true hk
    rw[bo hl,cm];rfl
  . exact(JP hk ha (List.prefix_append _ _)).symm⟩
theorem Jc {v:DV} (h:SK P g vs s v s'):SC P (.ref g) vs s v s':=by
 obtain⟨hc,m,hm,w⟩:=h;refine⟨hc,λc as ha H ws Φ hl hp k=>ki (w c as ha) hm (by rw[cq];exact hl) hp λd o q w=>?_⟩
 refine FN (q) ?_;clear q;rintro bs h1 h2 e1 e2
 rw[e1,e2];exact k w bs h1 h2
theorem G4 {b:Bl} (p:B2 b vs s):SC P (.builtin b.id) vs s p.1.1 p.1.2:=
 ⟨p.2.2.1,λc as ha H ws Φ hl hp k=>(p.2.2.2 c _ _).run H ws Φ (by rw[cq];exact hl) hp λw=>k w as (ha.trans p.2.1.symm) (bV _)⟩
theorem K4:SL P [] s [] s:=⟨id,λc as ha pi H Φ k=>wF (k [] as rfl ha (bV _))⟩
theorem DD {v:DV} (hs:fD e=true) (a:SV P e s v s1) (hb:v.bel (P.N s1)=true) (b:SL P es s1 vs s'):SL P (e::es) s (v::vs) s':=
 ⟨λc=>a.c (b.c c),λc as ha pi H Φ k=>vD (a.run (b.c c) as ha H _ λw bs aM pb=>b.run c bs aM pi _ _ λws cs hl hc pc=>fm hb aM pc▸k (w::ws) cs (cG (·+1) hl) hc (pb.trans pc)) (nX hs)⟩
theorem Gr:SD P [] [] s [] s:=⟨id,rfl,λy=>rfl,λy=>rfl,λc as ha pi H Φ k=>EC (k as ha (bV _))⟩
theorem CJ {x:Str} {kk kp} {v:DV} (a:SV P e s v s1) (hb:v.bel (P.N s1)=true) (b:SD P ks es s1 l s'):SD P (some (.Constant (.str x) kk kp)::ks) (e::es) s ((x,v)::l) s':=
 ⟨λc=>a.c (b.c c),cG (·+1) b.len,λpi=>cG (List.cons _) (b.zip pi),λpi=>cG (·+1) (b.plen pi),λc as ha pi H Φ k=>yJ (a.run (b.c c) as ha H _ λw bs aM pb=>b.run c bs aM pi _ _ λcs hc pc=>fm hb aM pc▸k cs hc (pb.trans pc))⟩
theorem BJ:SP P none s (.av .none) s:=⟨id,λc as ha H Φ k=>D8 (k _ as ha (bV _))⟩
theorem Ew {v:DV} (a:SV P e s v s'):SP P (some e) s v s':=⟨a.c,λc as ha H Φ k=>BA (a.run c as ha H Φ k)⟩
theorem C3:SA P .And [] s true s:=⟨id,λc as ha H Φ k=>zO (k as ha (bV _))⟩
theorem E6:SA P .Or [] s false s:=⟨id,λc as ha H Φ k=>Db (k as ha (bV _))⟩
theorem Gh (a:ST P e s true s1) (w:SA P .And es s1 b s'):SA P .And (e::es) s b s':=
 ⟨λc=>a.c (w.c c),λc as ha H Φ k=>qQ (a.run (w.c c) as ha H _ λbs hb pb=>⟨λy=>w.run c bs hb H Φ λcs hc pc=>k cs hc (pb.trans pc),nofun⟩)⟩
theorem JI (a:ST P e s false s'):SA P .And (e::es) s false s':=
 ⟨a.c,λc as ha H Φ k=>qQ (a.run c as ha H _ λbs hb pb=>⟨nofun,λy=>k bs hb pb⟩)⟩
theorem G0 (a:ST P e s false s1) (w:SA P .Or es s1 b s'):SA P .Or (e::es) s b s':=
 ⟨λc=>a.c (w.c c),λc as ha H Φ k=>sM (a.run (w.c c) as ha H _ λbs hb pb=>⟨nofun,λy=>w.run c bs hb H Φ λcs hc pc=>k cs hc (pb.trans pc)⟩)⟩
theorem Df (a:ST P e s true s'):SA P .Or (e::es) s true s':=
 ⟨a.c,λc as ha H Φ k=>sM (a.run c as ha H _ λbs hb pb=>⟨λy=>k bs hb pb,nofun⟩)⟩
theorem Il (a:ST P e s b s'):ST P (.UnaryOp .Not e pi) s (!b) s':=⟨a.c,λc as ha H Φ k=>Lr (a.run c as ha H _ k)⟩
theorem GD (a:SA P .And (e::es) s b s'):ST P (.BoolOp .And (e::es) pi) s b s':=⟨a.c,λc as ha H Φ k=>NE (a.run c as ha H Φ k)⟩
theorem Mz (a:SA P .Or (e::es) s b s'):ST P (.BoolOp .Or (e::es) pi) s b s':=⟨a.c,λc as ha H Φ k=>PY (a.run c as ha H Φ k)⟩
noncomputable def Sy.exI (P:Px) (a i:DV) (s:Sy) (d:AV) (o:List fj):Sy:=⟨s.D,s.n,o,s.c/\uv s.n λas=>∀ X:Cx,X.B=P.X.B->∀ e1 e2,fL e2=true->iI X e1 e2 (a.to (P.ρ++as)) (i.to (P.ρ++as)) d (s.D.to (P.ρ++as))⟩
noncomputable def Sy.exC (P:Px) (op:CmpOp) (a b:DV) (s:Sy) (c:Bool) (o:List fj):Sy:=⟨s.D,s.n,o,s.c/\uv s.n λas=>∀ X:Cx,X.B=P.X.B->fY X op (a.to (P.ρ++as)) (b.to (P.ρ++as)) c (s.D.to (P.ρ++as))⟩
theorem Gy {l:Expr} (hs:kM m=true) (a:SV P l s x s1) (hb:x.bel (P.N s1)=true) (d:SV P m s1 y s2) (z:RX P op x y s2) (w:RD z.r z.s'):ST P (.Compare l [op] [m] pi) s w.b w.s':=
 ⟨λc=>a.c (d.c (z.A.c (w.A.c c))),λc as ha H Φ k=>qW (a.run (d.c (z.A.c (w.A.c c))) as ha H _ λu bs aM pb=>d.run (z.A.c (w.A.c c)) bs aM _ _ λv cs hc pc=>by
  have z':=z.ok (w.A.c c) cs hc
  rw[fm hb aM pc]at z'
  refine z'.run _ _ _ _ kx gO λv=>⟨_,rfl,?_⟩
  rw[w.ok c,<-z.A.D,<-w.A.D];exact k cs (hc.trans (w.A.n.trans z.A.n).symm) (pb.trans pc)) (rf hs)⟩
theorem JB (hs:zI e=true) (a:SV P e s x s1) (t:RT x s1) (w:RD t.r t.s'):ST P e s w.b w.s':=
 ⟨λc=>a.c (t.A.c (w.A.c c)),λc as ha H Φ k=>ro (a.run (t.A.c (w.A.c c)) as ha H _ λu bs aM pb=>(t.ok (w.A.c c) _ _).run _ _ Φ gO (by
  rw[w.ok c,<-t.A.D,<-w.A.D];exact k bs (aM.trans (w.A.n.trans t.A.n).symm) pb)) (C1 hs)⟩
theorem BV {a:Str} {i:Nat} {s1:Sy} (O:gH P) (hs:jV e=true) (h:SV P e s (.slot i) s1) (g:RG P.K i a s1):SV P (.Attribute e a pi) s g.v s1:=
 ⟨h.c,λc as ha H Φ k=>Gi (h.run c as ha H _ λu bs aM pb=>(g.ok P.X O.K _).run _ _ _ gO λw=>k w bs aM pb) (BI hs)⟩
theorem K7 {l:Expr} (hs:kM m=true) (a:SV P l s x s1) (hb:x.bel (P.N s1)=true) (d:SV P m s1 y s2) (z:RX P op x y s2):SV P (.Compare l [op] [m] pi) s (.av (.bool z.r.val)) z.s':=
 ⟨λc=>a.c (d.c (z.A.c c)),λc as ha H Φ k=>qI (a.run (d.c (z.A.c c)) as ha H _ λu bs aM pb=>d.run (z.A.c c) bs aM _ _ λv cs hc pc=>by
  have z':=z.ok c cs hc
  rw[fm hb aM pc]at z'
  exact z'.run _ _ _ _ kx gO λw=>z.A.D▸k w cs (hc.trans z.A.n.symm) (pb.trans pc)) (rf hs)⟩
theorem Hm {l:Expr} {op:Operator} (a:SV P l s x s1) (hb:x.bel (P.N s1)=true) (d:SV P m s1 y s2) (z:RB op x y s2):SV P (.BinOp l op m pi) s z.v z.s':=
 ⟨λc=>a.c (d.c (z.A.c c)),λc as ha H Φ k=>wU (a.run (d.c (z.A.c c)) as ha H _ λu bs aM pb=>d.run (z.A.c c) bs aM _ _ λv cs hc pc=>by
  have z':=(z.ok c P.X (s2.D.to (P.ρ++cs)) (P.ρ++cs)).1
  rw[fm hb aM pc]at z'
  exact z'.run _ _ _ _ kx gO λw=>z.A.D▸k w cs (hc.trans z.A.n.symm) (pb.trans pc))⟩
theorem I0 (a:SV P e s x s1) (t:RT x s1):SV P (.UnaryOp .Not e pi) s (.av (.bool !t.r.val)) t.s':=
 ⟨λc=>a.c (t.A.c c),λc as ha H Φ k=>KG (a.run (t.A.c c) as ha H _ λu bs aM pb=>(t.ok c _ _).run _ _ _ gO (t.A.D▸k _ bs (aM.trans t.A.n.symm) pb))⟩
theorem Je {i:Int} (a:SV P e s (.av (.int i)) s'):SV P (.UnaryOp .USub e pi) s (.av (.int (-i))) s':=
 ⟨a.c,λc as ha H Φ k=>EL (a.run c as ha H _ λu bs aM pb=>⟨_,rfl,λw=>k w bs aM pb⟩)⟩
theorem JS {x y:Expr} {v:DV} (a:ST P t s true s1) (w:SV P x s1 v s'):SV P (.IfExp t x y pi) s v s':=
 ⟨λc=>a.c (w.c c),λc as ha H Φ k=>vH (a.run (w.c c) as ha H _ λbs hb pb=>⟨λz=>w.run c bs hb H Φ λu cs hc pc=>k u cs hc (pb.trans pc),nofun⟩)⟩
theorem Hx {x y:Expr} {v:DV} (a:ST P t s false s1) (w:SV P y s1 v s'):SV P (.IfExp t x y pi) s v s':=
 ⟨λc=>a.c (w.c c),λc as ha H Φ k=>vH (a.run (w.c c) as ha H _ λbs hb pb=>⟨nofun,λz=>w.run c bs hb H Φ λu cs hc pc=>k u cs hc (pb.trans pc)⟩)⟩
theorem IQ {l:cL} (a:SL P es s vs s') (q:lC vs=some l) (hz:Nat.ble l.length 16777216=true):SV P (.Tuple es k pi) s (.av (.tup l)) s':=
 ⟨a.c,λc as ha H Φ k=>wI (a.run c as ha _ _ _ λws bs hl hb pb=>by rw[mJ q];exact⟨eP hz,λw=>k w bs hb pb⟩)⟩
theorem vZ {B:dc} {n:Nat} {L:Addr} {H:HL} {σ:St} {t:Sem Value} {Φ:PV} (h:WV B n L t H σ λv d σ'=>∃ o3,σ'.objs.Perm o3/\Φ v d ⟨σ'.loc,o3⟩):WV B n L t H σ Φ:=
 dg λA F s hA X=>cD (h.run A F s hA X) (λv s' z=>by
  obtain⟨F',⟨l9,o8⟩,x,p,d,hd,o3,e,q⟩:=z;exact⟨F',⟨l9,o3⟩,x.perm e,p.fewer λb hb=>(fG hb).elim (λh=>h▸.head _) λh=>.tail _ ((fE e).mem_iff.mpr h),d,hd,q⟩) λy y z=>z
noncomputable def Sy.new (P:Px) (s:Sy) (o:DO):Sy:=⟨⟨s.D.loc,s.D.objs++[(P.N s,o)],s.D.rest⟩,s.n+1,s.o,s.c⟩
theorem zf {o:DO} {bs:cP} {x:Addr} (hb:bs.length=s.n) (h:s.D.bel (P.N s)=true):el (P.ρ++(bs++[x])) (P.N s)=x/\(s.new P o).D.to (P.ρ++(bs++[x]))=⟨il (P.ρ++bs) s.D.loc,s.D.objs.map (λp=>(el (P.ρ++bs) p.1,p.2.to (P.ρ++bs)))++(x,o.to (P.ρ++(bs++[x])))::s.D.rest⟩:=by
 have hN:(P.ρ++bs).length=P.N s:=by rw[bM,hb];rfl
 have hx:el (P.ρ++(bs++[x])) (P.N s)=x:=by rw[<-bS,<-hN];exact yv
 refine⟨hx,?_⟩
 have e:=OS (D:=⟨s.D.loc,s.D.objs,[]⟩) h hb (List.prefix_append bs [x])
 rw[DS.to,DS.to,dE,dE,cm,cm]at e
 obtain⟨e1,e2⟩:=St.mk.inj e;show St.mk (il (P.ρ++(bs++[x])) s.D.loc) (dE (P.ρ++(bs++[x])) s.D.rest (s.D.objs++[(P.N s,o)]))= _
 rw[dE,ci,e1,e2,bS,cv,List.map_nil,hx];rfl
theorem BW (a:SL P es s vs s1) (hz:(Nat.ble vs.length 16777216&&vs.all (DV.bel (P.N s1)))=true):SV P (.List es pi) s (.slot (P.N s1)) ((s1.need (s1.D.bel (P.N s1)=true)).new P (.list [] vs)):=
 ⟨λc=>a.c c.1,λc as ha H Φ k=>vZ (uX (a.run c.1 as ha _ _ _ λws bs hl hb pb=>⟨by rw[cq];exact eP (dG hz),λx=>by
  obtain⟨hx,hD⟩:=zf (P:=P) (s:=s1) (o:=.list [] vs) (x:=x) hb c.2
  have:=k (.ref x) (bs++[x]) (by rw[bM,hb];rfl) (pb.trans (List.prefix_append _ _))
  rw[show((s1.need (s1.D.bel (P.N s1)=true)).new P (.list [] vs)).D.to (P.ρ++(bs++[x]))= _ from hD,DV.to,hx,DO.to,jm,Pl (eB hz) hb (List.prefix_append bs [x])]at this
  exact⟨_,List.perm_middle.symm,this⟩⟩))⟩
theorem Ax (a:SD P ks es s l s') (h0:Nat.ble 1 l.length=true) (pi:Pos):dO P.X.env pi ks es≠[]:=λe=>by
 have h1:1<=l.length:=eP h0
 rw[a.len,<-a.plen pi,e]at h1
 exact cI h1 (by decide)
theorem C7 {vs:List (Str×DV)} {l:FL} (a:SD P ks es s vs s') (q:oT vs=some l) (hz:(ij (l.map (·.1))&&Nat.ble 1 vs.length&&Nat.ble es.length 15)=true):SV P (.Dict ks es pi) s (.av (.dct l)) s':=
 ⟨a.c,λc as ha H Φ k=>Bg (a.run c as ha _ _ _ λbs hb pb=>by rw[qC q];exact⟨eT (dG (dG hz)),λw=>k w bs hb pb⟩) (a.zip _) (Ax a (eB (dG hz)) pi) (by rw[a.plen];exact eP (eB hz))⟩
theorem yO {lo hi:Option Expr} {p:Pos} {x:cK} {d1 d2:AV} {i j:Option Int} (a:SV P e s (.av (.str x)) s1) (b:SP P lo s1 (.av d1) s2) (d:SP P hi s2 (.av d2) s3) (e1:pT d1=some i) (e2:pT d2=some j):SV P (.Subscript e (.Slice lo hi none p) pi) s (.av (.str (sl x i j))) (s3.need (x.length<=16777216)):=
 ⟨λc=>a.c (b.c (d.c c.1)),λc as ha H Φ k=>DQ (a.run (b.c (d.c c.1)) as ha H _ λu bs hb pb=>b.run (d.c c.1) bs hb _ _ λu cs hc pc=>d.run c.1 cs hc _ _ λu ds hd pd=>⟨_,_,_,rfl,e1,e2,c.2,λw=>k w ds hd ((pb.trans pc).trans pd)⟩)⟩
theorem I8 {i:Expr} (hs:fL i=true) (a:SV P e s x s1) (hb:x.bel (P.N s1)=true) (d:SV P i s1 y s2) (z:RY P x y s2):SV P (.Subscript e i pi) s z.v z.s':=
 ⟨λc=>a.c (d.c (z.A.c c)),λc as ha H Φ k=>Fh (a.run (d.c (z.A.c c)) as ha H _ λu bs aM pb=>d.run (z.A.c c) bs aM _ _ λv cs hc pc=>by
  have z':=z.ok c cs hc e i hs
  rw[fm hb aM pc]at z'
  exact z'.run _ _ _ _ kx gO λw=>z.A.D▸k w cs (hc.trans z.A.n.symm) (pb.trans pc))⟩
theorem BU {x:Str} {xp:Pos} {f:Ce} {v:DV} (hs:tU fD es=true) (q:CK P x f) (b:SL P es s vs s1) (w:SC P f.val vs s1 v s'):SV P (.Call (.Name x xp) es [] pi) s v s':=
 ⟨λc=>b.c (w.c c),λc as ha H Φ k=>jJ ((q.1 _ xp).run _ _ (q.2.run _ _ _ _ _ _ (qc hs) (b.run (w.c c) as ha _ _ _ λws bs hl hb pb=>w.run c bs hb _ _ Φ hl (λy hp=>bB _ hp) λu cs hc pc=>k u cs hc (pb.trans pc)))) CN⟩
theorem Ei {a:Str} {ap:Pos} {o:DV} {f:Ce} {v:DV} (hs:(jV e&&tU fD es&&Nat.blt es.length 30&&(ap.endLine==pi.line))=true) (x:SV P e s o s1) (hb:o.bel (P.N s1)=true)
 (q:∀ ρ,lX P.X (o.to ρ) a f.val (s1.D.to ρ)/\iL P.X f.val) (b:SL P es s1 vs s2) (w:SC P f.val (o::vs) s2 v s'):SV P (.Call (.Attribute e a ap) es [] pi) s v s':=
 have hst:=eB (dG (dG hs))
 ⟨λc=>x.c (b.c (w.c c)),λc as ha H Φ k=>uJ (x.run (b.c (w.c c)) as ha H _ λvo bs aM pb=>(q (P.ρ++bs)).1.run _ _ _ _ gO λy=>(q (P.ρ++bs)).2.run _ _ _ _ _ _ (qc hst) (b.run (w.c c) bs aM _ _ _ λws cs hl hcl pc=>
  w.run c cs hcl _ _ Φ (by rw[bM,hl,Nat.add_comm];rfl) (by rw[mC,cv,fm hb aM pc];exact mZ) λu ds hd pd=>k u ds hd ((pb.trans pc).trans pd))) (vT (dG (dG (dG hs))) hst (eB (dG hs)) (eB hs))⟩
theorem I4 {a:Str} {ap:Pos} {o:DV} {i:Nat} {v:DV} (hs:(jV e&&tU fD es&&Nat.blt es.length 30&&(ap.endLine==pi.line))=true) (x:SV P e s o s1) (hi:Nat.blt i (P.N s1)=true)
 (q :∀ ρ,A4 P.X (o.to ρ) a (.meth g (el ρ i)) (s1.D.to ρ)) (hf:fnIn P.X.B.K g=true) (b:SL P es s1 vs s2) (w:SK P g (.slot i::vs) s2 v s'):SV P (.Call (.Attribute e a ap) es [] pi) s v s':=by
 have hst:=eB (dG (dG hs))
 obtain⟨hc,m,hm,w⟩:=w;refine⟨λc=>x.c (b.c (hc c)),λc as ha H Φ k=>?_⟩
 rw[vT (dG (dG (dG hs))) hst (eB (dG hs)) (eB hs)];refine dr (x.run (b.c (hc c)) as ha H _ λvo bs aM pb=>dt ?_)
 refine gg (di ((q (P.ρ++bs)).run _ vo _ (λp F a9=>p.2=[]/\a9=s1.D.to (P.ρ++bs)/\Is P.X.B.P F p.1 (.meth g (el (P.ρ++bs) i))) gO λv F hv=>⟨rfl,rfl,hv⟩)) ?_
 rintro ⟨v',fs⟩ F a9 ⟨rfl,rfl,hv⟩;refine⟨(v',.meth g (el (P.ρ++bs) i))::(vo,o.to (P.ρ++bs))::H,λy h=>.tail _ h,λx hx=>?_,?_⟩
 . rcases fG hx with rfl | hx
   . exact .inr hv
   . exact .inl hx
 . refine wH gO hf (b.run (hc c) bs aM _ _ _ λws cs hl hcl pc=>?_) (qc hst)
   have cj:=w c cs hcl
   rw[mC,cv,fm (v:=.slot i) hi aM pc]at cj
   refine tK (bz _ gO) cj hm (by rw[cq];exact hl) (λy hp=>bB _ hp) λd o' q' v=>?_
   refine FN (q') ?_;clear q';rintro ds hd1' pd e1 e2
   rw[e1,e2];exact k v ds hd1' ((pb.trans pc).trans pd)
end
end
section
section
variable {P:Px} (O:gH P) {s s' s1 s2 s3 s4:Sy}
theorem uV {P:Px} (O:gH P):(P.X.env.scope.kind==.class||(P.X.env.scope.kind==.module&&P.X.env.locals !=P.X.env.globals))=false:=by rw[O.kind];rfl
theorem Gl {P:Px} (O:gH P):interactive P.X.env=false:=by unfold interactive;rw[O.kind];rfl
include O in
theorem En {x:Str} {p:Pos} {v:DV} {l:cZ} (hl:ny (P.X.env.kindOf x)=true) (q:xH x v s.D.loc=some l):SG P (.Name x p) v s ⟨⟨l,s.D.objs,s.D.rest⟩,s.n,s.o,s.c⟩:=
 ⟨id,rfl,λc as ha H w Φ m k=>rl (lT m (ri q) k (jY hl) O.loc (uV O)),λe pi hs c H σ Φ w=>gv (dk w λx d a6 ⟨bs,hb,e1,e2,k⟩=>by
  subst e1 e2
  exact lT gO (ri q) k (jY hl) O.loc (uV O)) (hs _ _)⟩
include O in
theorem Dl {x:Str} {p:Pos} {v:DV} {i:Nat} {w:Option DV} (hl:qG (P.X.env.kindOf x)=true) (e0:gR x P.cl=some i) (q:eY i s.D.objs=some (.cell w)):SG P (.Name x p) v s (s.objs (kZ i (.cell (some v)) s.D.objs)):=by
 obtain⟨h1,h2⟩:=O.cl x i e0;have ke:∀ (as:cP) (H:HL) (u:Value) (Φ:St->Prop),(u,v.to (P.ρ++as))∈H->Φ ((s.objs (kZ i (.cell (some v)) s.D.objs)).D.to (P.ρ++as))->WU P.X.B P.X.n P.X.L (storeName P.X.env x u) H (s.D.to (P.ρ++as)) Φ:=λas H u Φ m k=>
  AA (by rw[j8 h2];exact h1) m (iW (ρ:=P.ρ++as) (r8:=s.D.rest) (o':=.cell (some v)) q) k O.kind (tG hl)
 exact⟨id,rfl,λc as ha H w Φ m k=>rl (ke as H w Φ m k),λe pi hs c H σ Φ w=>gv (dk w λx d a6 ⟨bs,hb,e1,e2,k⟩=>by
  subst e1 e2
  exact ke bs _ _ _ gO k) (hs _ _)⟩
include O in
theorem C0 {e:Expr} {a:Str} {p:Pos} {v:DV} {i:Nat} (h:SV P e s (.slot i) s1) (hn:Nat.beq s1.n s.n=true) (q:RS P.K i a v s1):SG P (.Attribute e a p) v s (s1.objs q.l):=by
 replace hn:s1.n=s.n:=Nat.eq_of_beq_eq_true hn
 refine⟨h.c,hn,λc as ha H w Φ m k=>IK (h.run c as ha H _ λx bs aM pb=>?_),λe' pi hs c H σ Φ z=>ir (dk z λx d a6 ⟨as,ha,e1,e2,k⟩=>?_) (hs _ _)⟩
 . obtain rfl:=pb.eq_of_length ((ha.trans hn.symm).trans aM.symm)
   exact(q.ok P.X O.K _).run _ _ _ Φ gO (.tail _ m) k
 . subst e1 e2
   refine h.run c as ha _ _ λx bs aM pb=>?_
   obtain rfl:=pb.eq_of_length ((ha.trans hn.symm).trans aM.symm)
   exact(q.ok P.X O.K _).run _ _ _ _ gO kx k
theorem GA:SB P [] s .next s:=⟨id,λc as ha H Φ k=>Fv (k as ha (bV _))⟩
theorem Cc {st:Stmt} {ss:cM} {f:DF} (a:SX P st s .next s1) (w:SB P ss s1 f s'):SB P (st::ss) s f s':=
 ⟨λc=>a.c (w.c c),λc as ha H Φ k=>gu (a.run (w.c c) as ha H (iU P.X.B P.X.n P.X.L ss P.X.env H Φ) λbs hb pb=>w.run c bs hb H Φ λcs hc pc=>k cs hc (pb.trans pc))⟩
theorem Jl {st:Stmt} {ss:cM} (a:SX P st s .brk s'):SB P (st::ss) s .brk s':=⟨a.c,λc as ha H Φ k=>gu (a.run c as ha H (iU P.X.B P.X.n P.X.L ss P.X.env H Φ) k)⟩
theorem CF {st:Stmt} {ss:cM} (a:SX P st s .cont s'):SB P (st::ss) s .cont s':=⟨a.c,λc as ha H Φ k=>gu (a.run c as ha H (iU P.X.B P.X.n P.X.L ss P.X.env H Φ) k)⟩
theorem Ij {st:Stmt} {ss:cM} {v:DV} (a:SX P st s (.ret v) s'):SB P (st::ss) s (.ret v) s':=⟨a.c,λc as ha H Φ k=>gu (a.run c as ha H (iU P.X.B P.X.n P.X.L ss P.X.env H Φ) k)⟩
theorem BF {pi:Pos}:SX P (.Pass pi) s .next s:=⟨id,λc as ha H Φ k=>GL (k as ha (bV _))⟩
theorem Gd {pi:Pos}:SX P (.Break pi) s .brk s:=⟨id,λc as ha H Φ k=>wQ (k as ha (bV _))⟩
theorem C9 {pi:Pos}:SX P (.Continue pi) s .cont s:=⟨id,λc as ha H Φ k=>ui (k as ha (bV _))⟩
theorem C6 {pi:Pos}:SX P (.Return none pi) s (.ret (.av .none)) s:=⟨id,λc as ha H Φ k=>rQ (k as ha (bV _))⟩
theorem Gk {e:Expr} {pi:Pos} {v:DV} (a:SV P e s v s'):SX P (.Return (some e) pi) s (.ret v) s':=⟨a.c,λc as ha H Φ k=>pM (a.run c as ha H _ λw bs hb pb=>k bs hb pb)⟩
theorem GZ {t:Expr} {x y:cM} {pi:Pos} {f:DF} (a:ST P t s true s1) (w:SB P x s1 f s'):SX P (.If t x y pi) s f s':=
 ⟨λc=>a.c (w.c c),λc as ha H Φ k=>CC (a.run (w.c c) as ha H _ λbs hb pb=>⟨λz=>w.run c bs hb H Φ λcs hc pc=>k cs hc (pb.trans pc),nofun⟩)⟩
theorem Ji {t:Expr} {x y:cM} {pi:Pos} {f:DF} (a:ST P t s false s1) (w:SB P y s1 f s'):SX P (.If t x y pi) s f s':=
 ⟨λc=>a.c (w.c c),λc as ha H Φ k=>CC (a.run (w.c c) as ha H _ λbs hb pb=>⟨nofun,λz=>w.run c bs hb H Φ λcs hc pc=>k cs hc (pb.trans pc)⟩)⟩
include O in
theorem Ek {e:Expr} {pi:Pos} {v:DV} (hs:jw e=true) (a:SV P e s v s'):SX P (.Expr e pi) s .next s':=⟨a.c,λc as ha H Φ k=>ut (a.run c as ha H _ λw bs hb pb=>k bs hb pb) (Gl O) (nZ hs)⟩
theorem xR {t:Expr} {m pi} (a:ST P t s true s'):SX P (.Assert t m pi) s .next s':=⟨a.c,λc as ha H Φ k=>B1 (a.run c as ha H _ λbs hb pb=>⟨rfl,k bs hb pb⟩)⟩
theorem Gg {t e:Expr} {pi:Pos} {v:DV} (hs:jw e=true) (a:SV P e s v s1) (b:SG P t v s1 s'):SX P (.Assign [t] e pi) s .next s':=
 ⟨λc=>a.c (b.c c),λc as ha H Φ k=>b.stm e pi (λy y=>nZ hs) c H _ Φ (a.run (b.c c) as ha H _ λw bs hb pb=>⟨bs,hb,rfl,rfl,k bs (hb.trans b.n.symm) pb⟩)⟩
theorem E7 {t1 t2 e:Expr} {kk:Nat} {p pi:Pos} {d1 d2:AV} (hs:(jw e&&Ad e&&fD t1&&fD t2)=true) (a:SV P e s (.av (.tup [d1,d2])) s1) (b:SG P t1 (.av d1) s1 s2) (d:SG P t2 (.av d2) s2 s'):SX P (.Assign [.Tuple [t1,t2] kk p] e pi) s .next s':=
 ⟨λc=>a.c (b.c (d.c c)),λc as ha H Φ k=>qx (a.run (b.c (d.c c)) as ha H _ λw bs hb pb=>⟨d1,d2,rfl,λv1 v2=>b.run (d.c c) bs hb _ _ _ gO (d.run c bs (hb.trans b.n.symm) _ _ _ kx (k bs (hb.trans (b.n.symm.trans d.n.symm)) pb))⟩)
  (by rw[swapsWithSole];exact nZ (dG (dG (dG hs)))) (ze (eB (dG (dG hs)))) (by rw[yT (eB (dG hs)),yT (eB hs)];rfl)⟩
theorem Cw {o i e:Expr} {p pi:Pos} {v x y:DV} (hs:jw e=true) (a:SV P e s v s1) (hb1:v.bel (P.N s1)=true) (b:SV P o s1 x s2) (hb2:x.bel (P.N s2)=true) (d:SV P i s2 y s3) (q:RJ x y v s3):SX P (.Assign [.Subscript o i p] e pi) s .next (s3.objs q.l):=
 ⟨λc=>a.c (b.c (d.c c)),λc as ha H Φ k=>kf (a.run (b.c (d.c c)) as ha H _ λw bs hb pb=>b.run (d.c c) bs hb _ _ λw2 cs hc pc=>d.run c cs hc _ _ λw3 ds hd pd=>by
  have y:=q.ok P.X (P.ρ++ds)
  rw[fm hb1 hb (pc.trans pd),fm hb2 hc pd]at y
  exact y.run _ _ _ _ _ kx gO qf (k ds hd ((pb.trans pc).trans pd))) (nZ hs)⟩
theorem DR {t:Expr} {ks:List (Option Expr)} {es:cN} {dp pi:Pos} {l:List (Str×DV)} (a:SD P ks es s l s1) (hz:(ij (l.map (·.1))&&Nat.ble 1 l.length&&Nat.ble es.length 15&&(l.all λp=>p.2.bel (P.N s1))&&s1.D.bel (P.N s1))=true) (b:SG P t (.slot (P.N s1)) (s1.new P (.dict l)) s'):SX P (.Assign [t] (.Dict ks es dp) pi) s .next s':=
 ⟨λc=>a.c (b.c c),λc as ha H Φ k=>b.stm _ pi (λy y=>rfl) c H _ Φ (vZ (vP (a.run (b.c c) as ha _ _ _ λbs hb pb=>⟨eT (by rw[List.map_map];exact dG (dG (dG (dG hz)))),λx=>by
  obtain⟨hx,hD⟩:=zf (P:=P) (o:=.dict l) (x:=x) hb (eB hz)
  refine⟨_,List.perm_middle.symm,bs++[x],by rw[bM,hb];rfl,cG AV.ref hx.symm,?_,k _ (by rw[bM,hb];exact b.n.symm) (pb.trans (List.prefix_append _ _))⟩
  rw[hD,DO.to,Qa (eB (dG hz)) hb (List.prefix_append bs [x])]⟩) (a.zip _) (Ax a (eB (dG (dG (dG hz)))) dp) (by rw[a.plen];exact eP (eB (dG (dG hz))))))⟩
include O in
theorem Hj {x:Str} {p pi:Pos} {op:Operator} {e:Expr} {a v:DV} {l:cZ} (hl:ny (P.X.env.kindOf x)=true) (e0:two (gR x s.D.loc)=some a) (hb:a.bel (P.N s)=true) (h:SV P e s v s1) (z:RB op a v s1) (q:xH x z.v z.s'.D.loc=some l):
 SX P (.AugAssign (.Name x p) op e pi) s .next ⟨⟨l,z.s'.D.objs,z.s'.D.rest⟩,z.s'.n,z.s'.o,z.s'.c⟩:=
 ⟨λc=>h.c (z.A.c c),λc as ha H Φ k=>J1 (H1 (σ:=s.D.to _) (tN (uO e0)) (λx=>h.run (z.A.c c) as ha _ _ λy bs aM pb=>by
  have z':=(z.ok c P.X (s1.D.to (P.ρ++bs)) (P.ρ++bs)).2
  rw[fm hb ha pb]at z'
  refine z'.run _ _ _ _ kx gO λy'=>?_
  rw[<-z.A.D];exact lT gO (ri q) (k bs (aM.trans z.A.n.symm) pb) (jY hl) O.loc (uV O)) O.kind (jY hl) O.loc)⟩
include O in
theorem BH {o e:Expr} {a:Str} {p pi:Pos} {op:Operator} {i:Nat} {v:DV} (h:SV P o s (.slot i) s1) (hi:Nat.blt i (P.N s1)=true) (g:RG P.K i a s1) (hx:g.v.bel (P.N s1)=true) (b:SV P e s1 v s2) (z:RB op g.v v s2) (q:RS P.K i a z.v z.s'):SX P (.AugAssign (.Attribute o a p) op e pi) s .next (z.s'.objs q.l):=
 ⟨λc=>h.c (b.c (z.A.c c)),λc as ha H Φ k=>xJ (h.run (b.c (z.A.c c)) as ha H _ λwo bs hb pb=>(g.ok P.X O.K _).run _ _ _ gO λwa=>b.run (z.A.c c) bs hb _ _ λwb cs hc pc=>by
  have z':=(z.ok c P.X (s2.D.to (P.ρ++cs)) (P.ρ++cs)).2
  rw[fm hx hb pc]at z'
  refine z'.run _ _ _ _ kx gO λwc=>?_
  have y':=q.ok P.X O.K (P.ρ++cs)
  rw[show AV.ref (el (P.ρ++cs) i)= _ from fm (v:=.slot i) (s:=s1) hi hb pc,z.A.D]at y'
  exact y'.run _ _ _ _ kx gO (k cs (hc.trans z.A.n.symm) (pb.trans pc)))⟩
theorem D4 {o i e:Expr} {p pi:Pos} {op:Operator} {x y v:DV} (hs:fL i=true) (a:SV P o s x s1) (hb1:x.bel (P.N s1)=true) (b:SV P i s1 y s2) (hb2:y.bel (P.N s2)=true) (g:RK x y s2) (hx:g.v.bel (P.N s2)=true) (d:SV P e s2 v s3) (z:RB op g.v v s3) (q:RJ x y z.v z.s'):SX P (.AugAssign (.Subscript o i p) op e pi) s .next (z.s'.objs q.l):=
 ⟨λc=>a.c (b.c (d.c (z.A.c c))),λc as ha H Φ k=>zk (a.run (b.c (d.c (z.A.c c))) as ha H _ λwo bs hb pb=>b.run (d.c (z.A.c c)) bs hb _ _ λwi cs hc pc=>by
  have g':=g.ok P.X (P.ρ++cs)
  rw[fm hb1 hb pc]at g'
  refine g'.run _ _ _ _ kx gO λwx=>d.run (z.A.c c) cs hc _ _ λwv ds hd pd=>?_
  have z':=(z.ok c P.X (s3.D.to (P.ρ++ds)) (P.ρ++ds)).2
  rw[fm hx hc pd]at z'
  refine z'.run _ _ _ _ kx gO λwc=>?_
  have y':=q.ok P.X (P.ρ++ds)
  rw[fm hb1 hb (pc.trans pd),fm hb2 hc pd,z.A.D]at y'
  exact y'.run _ _ _ _ _ qf kx gO (k ds (hd.trans z.A.n.symm) ((pb.trans pc).trans pd))) (HH hs)⟩
end
section
abbrev VR (P:Px) (e:Expr) (s:Sy):Type:={p:DV×Sy // SV P e s p.1 p.2}
abbrev TR (P:Px) (e:Expr) (s:Sy):Type:={p:Bool×Sy // ST P e s p.1 p.2}
abbrev XR (P:Px) (st:Stmt) (s:Sy):Type:={p:DF×Sy // SX P st s p.1 p.2}
abbrev GR (P:Px) (t:Expr) (v:DV) (s:Sy):Type:={s':Sy // SG P t v s s'}
abbrev UR (P:Px) (e:Expr) (s:Sy):Type:={d:AV // ∀ as,Ev P.X e (s.D.to (P.ρ++as)) d (s.D.to (P.ρ++as))}
structure QA (P:Px) where
 pu:∀ e s,Option (UR P e s)
 ev:∀ e s,Option (VR P e s)
 te:∀ e s,Option (TR P e s)
 ex:∀ st s,Option (XR P st s)
section
variable {P:Px} (O:gH P) (r:QA P)
noncomputable def ED (d:AV):Option {c:Bool // d=.bool c}:=match d with
 | .bool c=>some ⟨c,rfl⟩
 | _=>none
theorem vL {e:Expr} {s:Sy} {d d':AV} (h:∀ as,Ev P.X e (s.D.to (P.ρ++as)) d (s.D.to (P.ρ++as))) (q:d=d') (as:cP):Ev P.X e (s.D.to (P.ρ++as)) d' (s.D.to (P.ρ++as)):=q▸h as
def Rg (es:cN):∀ s:Sy,Option {c:Bool // ∀ as,Mu P.X es (s.D.to (P.ρ++as)) (.bool c) (s.D.to (P.ρ++as))}:=List.rec (λy=>none)
 (λe es ih s=>ob (r.pu e s) λa=>ob (ED a.1) λc=>match es,ih with
  | [],_=>some ⟨c.1,λρ=>vK (vL a.2 c.2 ρ)⟩
  | _::_,ih=>ob (ih s) λb=>some ⟨c.1||b.1,λρ=>wh (vL a.2 c.2 ρ) (b.2 ρ)⟩) es
def OF (es:cN):∀ s:Sy,Option {c:Bool // ∀ as,Fm P.X es (s.D.to (P.ρ++as)) (.bool c) (s.D.to (P.ρ++as))}:=List.rec (λy=>none)
 (λe es ih s=>ob (r.pu e s) λa=>ob (ED a.1) λc=>match es,ih with
  | [],_=>some ⟨c.1,λρ=>rM (vL a.2 c.2 ρ)⟩
  | _::_,ih=>ob (ih s) λb=>some ⟨c.1&&b.1,λρ=>ry (vL a.2 c.2 ρ) (b.2 ρ)⟩) es
def Q3 (es:cN):∀ s:Sy,Option {l:cL // ∀ as,rR P.X es (s.D.to (P.ρ++as)) l (s.D.to (P.ρ++as))}:=List.rec (λs=>some ⟨[],λρ=>dK⟩)
 (λe es ih s=>gd (fD e) λhs=>ob (r.pu e s) λa=>ob (ih s) λb=>some ⟨a.1::b.1,λρ=>dy (a.2 ρ) (b.2 ρ) (nX hs)⟩) es
theorem sW {op oi:CmpOp} {m x:Expr} {e5:Env} (h:kM x=true):markedEach [op,oi] [m,x] (evalEach [m,x] e5)=[eval m e5,eval x e5]:=by
 show eval m e5::[markedBehindIn oi x (eval x e5)]= _
 rw[markedBehindIn_of_false (rf h)]
def OO (l:Expr) (ops:List CmpOp) (ms:cN) (pi:Pos) (s:Sy):Option (UR P (.Compare l ops ms pi) s):=match ops,ms with
 | [op],[m]=>gd (kM m) λhs=>ob (r.pu l s) λa=>ob (r.pu m s) λb=>ob (xq op a.1 b.1) λz=>some ⟨.bool z.r.val,λρ=>tY (a.2 ρ) (b.2 ρ) (z.ok _ _) (rf hs)⟩
 | [op,oi],[m,x]=>gd (kM x) λhs=>ob (r.pu l s) λa=>ob (r.pu m s) λb=>ob (r.pu x s) λy=>ob (xq op a.1 b.1) λz=>ob (xq oi b.1 y.1) λw=>some ⟨.bool (z.r.val&&w.r.val),λρ=>mP (a.2 ρ) (b.2 ρ) (z.ok _ _) (y.2 ρ) (w.ok _ _) (sW hs)⟩
 | _,_=>none
noncomputable def Qh (l:Expr) (op:Operator) (m:Expr) (pi:Pos) (s:Sy):Option (UR P (.BinOp l op m pi) s):=ob (r.pu l s) λa=>ob (r.pu m s) λb=>match a,b with
 | ⟨.int i,ha⟩,⟨.int j,hb⟩=>(match op with
  | .Add=>some ⟨.int (i+j),λρ=>lY (ha ρ) (hb ρ) tP⟩
  | .Sub=>some ⟨.int (i - j),λρ=>lY (ha ρ) (hb ρ) Fw⟩
  | .Mod=>gd (!(j==0)) λh=>some ⟨.int (i.fmod j),λρ=>lY (ha ρ) (hb ρ) (EM (by simpa using h))⟩
  | _=>none)
 | _,_=>none
def Kt (e:Expr) (s:Sy):Option (UR P e s):=by
 induction e using Expr.casesOn with
 | Constant c k pi=>exact((match c with
  | .none=>some ⟨.none,λρ=>zX⟩
  | .int i=>some ⟨.int i,λρ=>iP⟩
  | .str x=>some ⟨.str x.cps.toList,λρ=>ie rfl⟩
  | _=>none))
 | Name x pi=>exact(ob (EW O x s) λv=>(match v with
  | ⟨.av d,h⟩=>some ⟨d,λρ=>h ρ pi⟩
  | _=>none))
 | BinOp l op m pi=>exact(Qh r l op m pi s)
 | Compare l ops ms pi=>exact(OO r l ops ms pi s)
 | BoolOp op es pi=>exact((match op with
  | .Or=>ob (Rg r es s) λc=>some ⟨.bool c.1,λρ=>MU (c.2 ρ)⟩
  | .And=>ob (OF r es s) λc=>some ⟨.bool c.1,λρ=>ww (c.2 ρ)⟩))
 | Tuple es k pi=>exact(ob (Q3 r es s) λl=>gd (Nat.ble l.1.length 16777216) λhz=>some ⟨.tup l.1,λρ=>rN (l.2 ρ) (eP hz)⟩)
 | _=>exact none
theorem M2 {e:Expr} {s:Sy} (u:UR P e s):SV P e s (.av u.1) s:=.of rfl id λy ρ=>u.2 ρ
noncomputable def KY (e:Expr) (s:Sy):Option (VR P e s):=ob (r.pu e s) λu=>some ⟨(.av u.1,s),M2 u⟩
def Ke (es:cN):∀ s,Option {p:cR×Sy // SL P es s p.1 p.2}:=List.rec (λs=>some ⟨([],s),K4⟩)
 (λe es ih s=>gd (fD e) λhs=>ob (r.ev e s) λp=>gd (p.1.1.bel (P.N p.1.2)) λhb=>ob (ih p.1.2) λq=>some ⟨(p.1.1::q.1.1,q.1.2),DD hs p.2 hb q.2⟩) es
noncomputable def MI (k:Expr):Option {x:Str // ∃ kk kp,some k=some (.Constant (.str x) kk kp)}:=by
 induction k using Expr.casesOn with
 | Constant c kk kp=>
  induction c using Const.casesOn with
  | str x=>exact some ⟨x,kk,kp,rfl⟩
  | _=>exact none
 | _=>exact none
noncomputable def Op (k:Option Expr):Option {x:Str // ∃ kk kp,k=some (.Constant (.str x) kk kp)}:=Option.casesOn k none MI
theorem HR {ks:List (Option Expr)} {e:Expr} {es:cN} {s s1 s':Sy} {v:DV} {l:List (Str×DV)} {k:Option Expr} (x:{x:Str // ∃ kk kp,k=some (.Constant (.str x) kk kp)}) (a:SV P e s v s1) (hb:v.bel (P.N s1)=true) (b:SD P ks es s1 l s'):SD P (k::ks) (e::es) s ((x.1,v)::l) s':=by
 obtain⟨x,kk,kp,rfl⟩:=x;exact CJ a hb b
def Qr (ks:List (Option Expr)):∀ es s,Option {p:List (Str×DV)×Sy // SD P ks es s p.1 p.2}:=List.rec
 (λes s=>match es with
  | []=>some ⟨([],s),Gr⟩
  | _=>none)
 (λk ks ih es s=>match es with
  | e::es=>ob (Op k) λx=>ob (r.ev e s) λp=>gd (p.1.1.bel (P.N p.1.2)) λhb=>ob (ih es p.1.2) λq=>some ⟨((x.1,p.1.1)::q.1.1,q.1.2),HR x p.2 hb q.2⟩
  | _=>none) ks
noncomputable def QP (e:Option Expr) (s:Sy):Option {p:DV×Sy // SP P e s p.1 p.2}:=match e with
 | none=>some ⟨(.av .none,s),BJ⟩
 | some e=>ob (r.ev e s) λp=>some ⟨p.1,Ew p.2⟩
def R2 (es:cN):∀ s,Option {p:Bool×Sy // SA P .And es s p.1 p.2}:=List.rec (λs=>some ⟨(true,s),C3⟩)
 (λe es ih s=>ob (r.te e s) λp=>match p with
  | ⟨(true,s1),h⟩=>ob (ih s1) λq=>some ⟨q.1,Gh h q.2⟩
  | ⟨(false,s1),h⟩=>some ⟨(false,s1),JI h⟩) es
def Rf (es:cN):∀ s,Option {p:Bool×Sy // SA P .Or es s p.1 p.2}:=List.rec (λs=>some ⟨(false,s),E6⟩)
 (λe es ih s=>ob (r.te e s) λp=>match p with
  | ⟨(true,s1),h⟩=>some ⟨(true,s1),Df h⟩
  | ⟨(false,s1),h⟩=>ob (ih s1) λq=>some ⟨q.1,G0 h q.2⟩) es
def Fg (ss:cM):∀ s,Option {p:DF×Sy // SB P ss s p.1 p.2}:=List.rec (λs=>some ⟨(.next,s),GA⟩)
 (λst ss ih s=>ob (r.ex st s) λp=>match p with
  | ⟨(.next,s1),h⟩=>ob (ih s1) λq=>some ⟨q.1,Cc h q.2⟩
  | ⟨(.brk,s1),h⟩=>some ⟨(.brk,s1),Jl h⟩
  | ⟨(.cont,s1),h⟩=>some ⟨(.cont,s1),CF h⟩
  | ⟨(.ret v,s1),h⟩=>some ⟨(.ret v,s1),Ij h⟩) ss
noncomputable def DP (e:Expr) (s:Sy):Option (VR P e s):=match s.o with
 | .val k v D::o=>some ⟨(v,s.exE P e k v D o),Nc⟩
 | _=>none
noncomputable def su (st:Stmt) (s:Sy):Option (XR P st s):=match s.o with
 | .stm k D::o=>some ⟨(.next,s.exS P st k D o),O3⟩
 | _=>none
noncomputable def Lc (g:Addr) (vs:cR) (s:Sy):Option {p:DV×Sy // SK P g vs s p.1 p.2}:=match s.o with
 | .call k v o8 r8 m::o=>gd (Nat.ble m P.X.n&&(Nat.beq k 0||Bt (P.N s) s.D.loc)) λh=>some ⟨(v,s.cal P g vs k v o8 r8 m o),NN h⟩
 | .cs v o8 m::o=>gd (Nat.ble m P.X.n) λh=>some ⟨(v,s.calS P g vs v o8 m o),L7 h⟩
 | _=>none
def Mh (c:Ce) (vs:cR) (s:Sy):Option {p:DV×Sy // SC P c.val vs s p.1 p.2}:=match c with
 | .fn g=>ob (Lc g vs s) λp=>some ⟨p.1,Jc p.2⟩
 | .bl b=>ob (Pq b vs s) λp=>some ⟨p.1,G4 p⟩
noncomputable def Pm (o:List fj):Bool:=match o with
 | .br _::_=>true
 | _=>false
structure SO (P:Px) (op:BoolOp) (es:cN) (s:Sy) (v:DV) (s':Sy):Prop where
 c:s'.c->s.c
 run:s'.c->∀ as,as.length=s.n->∀ pi (H:HL) (Φ:PV),(∀ w bs,bs.length=s'.n->as <+:bs->Φ w (v.to (P.ρ++bs)) (s'.D.to (P.ρ++bs)))->WV P.X.B P.X.n P.X.L (boolOp pi op (evalEach es P.X.env)) H (s.D.to (P.ρ++as)) Φ
theorem E0 {op:BoolOp} {e:Expr} {s s':Sy} {v:DV} (a:SV P e s v s'):SO P op [e] s v s':=⟨a.c,λc as ha pi H Φ k=>rr (a.run c as ha H Φ k)⟩
theorem H3 {op:BoolOp} {e e':Expr} {es:cN} {s s1:Sy} {v:DV} (a:SV P e s v s1) (t:RT v s1) (w:RD t.r t.s') (hw:w.b=(op==.Or)):SO P op (e::e'::es) s v w.s':=by
 refine⟨λc=>a.c (t.A.c (w.A.c c)),λc as ha pi H Φ k=>?_⟩
 have hd:w.s'.D=s1.D:=w.A.D.trans t.A.D
 have hn:w.s'.n=s1.n:=w.A.n.trans t.A.n
 rw[hd]at k
 have ke:=λ(u:Value) bs (aM:bs.length=s1.n) pb (hb:t.r.val=w.b)=>k u bs (aM.trans hn.symm) pb
 induction op using BoolOp.casesOn with
 | Or=>exact yZ (a.run (t.A.c (w.A.c c)) as ha H _ λu bs aM pb=>(t.ok (w.A.c c) _ _).run _ _ _ gO ⟨λy=>k u bs (aM.trans hn.symm) pb,λq=>by rw[w.ok c,hw]at q;exact Bool.noConfusion q⟩)
 | And=>exact vq (a.run (t.A.c (w.A.c c)) as ha H _ λu bs aM pb=>(t.ok (w.A.c c) _ _).run _ _ _ gO ⟨λy=>k u bs (aM.trans hn.symm) pb,λq=>by rw[w.ok c,hw]at q;exact Bool.noConfusion q⟩)
theorem MP {op:BoolOp} {e e':Expr} {es:cN} {s s1 s':Sy} {v v':DV} (a:SV P e s v s1) (t:RT v s1) (w:RD t.r t.s') (hw:w.b= !(op==.Or)) (z:SO P op (e'::es) w.s' v' s'):SO P op (e::e'::es) s v' s':=by
 refine⟨λc=>a.c (t.A.c (w.A.c (z.c c))),λc as ha pi H Φ k=>?_⟩
 have c2:=w.A.c (z.c c)
 have hd:w.s'.D=s1.D:=w.A.D.trans t.A.D
 have hn:w.s'.n=s1.n:=w.A.n.trans t.A.n
 have ke:=λ(H:HL) bs (aM:bs.length=s1.n) (pb:as <+:bs)=>z.run c bs (aM.trans hn.symm) pi H Φ λw cs hc pc=>k w cs hc (pb.trans pc)
 rw[hd]at ke
 induction op using BoolOp.casesOn with
 | Or=>exact yZ (a.run (t.A.c c2) as ha H _ λu bs aM pb=>(t.ok c2 _ _).run _ _ _ gO ⟨(λq=>by rw[w.ok (z.c c),hw]at q;exact Bool.noConfusion q),λy=>ke H bs aM pb⟩)
 | And=>exact vq (a.run (t.A.c c2) as ha H _ λu bs aM pb=>(t.ok c2 _ _).run _ _ _ gO ⟨(λq=>by rw[w.ok (z.c c),hw]at q;exact Bool.noConfusion q),λy=>ke H bs aM pb⟩)
theorem BR {op:BoolOp} {es:cN} {pi:Pos} {s s':Sy} {v:DV} (a:SO P op es s v s'):SV P (.BoolOp op es pi) s v s':=⟨a.c,λc as ha H Φ k=>rI (a.run c as ha pi H Φ k)⟩
noncomputable def PR (op:BoolOp) (b:Bool):Option (Sum (PLift (b=(op==.Or))) (PLift (b= !(op==.Or)))):=match op,b with
 | .Or,true=>some (.inl ⟨rfl⟩)
 | .Or,false=>some (.inr ⟨rfl⟩)
 | .And,true=>some (.inr ⟨rfl⟩)
 | .And,false=>some (.inl ⟨rfl⟩)
def PP (op:BoolOp) (es:cN):∀ s,Option {p:DV×Sy // SO P op es s p.1 p.2}:=List.rec (λy=>none)
 (λe es ih s=>ob (r.ev e s) λa=>match es,ih with
  | [],_=>some ⟨a.1,E0 a.2⟩
  | _::_,ih=>ob (Gz a.1.1 a.1.2) λt=>ob (CU t.r t.s') λw=>ob (PR op w.b) λo=>match o with
   | .inl h=>some ⟨(a.1.1,w.s'),H3 a.2 t w h.1⟩
   | .inr h=>ob (ih w.s') λz=>some ⟨z.1,MP a.2 t w h.1 z.2⟩) es
noncomputable def LQ (o:List fj):Bool:=match o with
 | .val .. ::_=>true
 | _=>false
noncomputable def QJ (v:DV):Option {i:Nat // v=.slot i}:=match v with
 | .slot i=>some ⟨i,rfl⟩
 | _=>none
def ME (op:CmpOp) (a b:DV) (s:Sy):Option (RX P op a b s):=match s.o with
 | .cmp c::o=>some ⟨.is c,s.exC P op a b c o,⟨rfl,rfl,And.left⟩,λh as ha=>kC h.2 as ha P.X rfl⟩
 | _=>ob (PT op a b) λq=>some ⟨q.r,s,.refl s,λy as y=>q.ok _ _ _⟩
def CP (l:Expr) (ops:List CmpOp) (ms:cN) (pi:Pos) (s:Sy):Option (VR P (.Compare l ops ms pi) s):=match ops,ms with
 | [op],[m]=>gd (kM m) λhs=>ob (r.ev l s) λp=>gd (p.1.1.bel (P.N p.1.2)) λhb=>ob (r.ev m p.1.2) λq=>ob (ME op p.1.1 q.1.1 q.1.2) λz=>some ⟨(.av (.bool z.r.val),z.s'),K7 hs p.2 hb q.2 z⟩
 | _,_=>KY r _ s
noncomputable def PB (a i:DV) (s:Sy):Option (RY P a i s):=match s.o with
 | .itm d::o=>some ⟨.av d,s.exI P a i d o,⟨rfl,rfl,And.left⟩,λh as ha=>kC h.2 as ha P.X rfl⟩
 | _=>ob (Pp a i s) λq=>some ⟨q.v,q.s',q.A,λh as y e1 e2 hs=>q.ok h _ _ e1 e2 hs⟩
noncomputable def OJ (e:Expr) (lo hi st:Option Expr) (p pi:Pos) (s:Sy):Option (VR P (.Subscript e (.Slice lo hi st p) pi) s):=match st with
 | .none=>ob (r.ev e s) λa=>(match a with
  | ⟨(.av (.str x),s1),ha⟩=>ob (QP r lo s1) λb=>(match b with
   | ⟨(.av d1,s2),hb⟩=>ob (QP r hi s2) λd=>(match d with
    | ⟨(.av d2,s3),hd⟩=>iQ (pT d1) λi e1=>iQ (pT d2) λj e2=>some ⟨(.av (.str (sl x i j)),s3.need (x.length<=16777216)),yO ha hb hd e1 e2⟩
    | _=>none)
   | _=>none)
  | _=>none)
 | _=>none
noncomputable def Pf (e i:Expr) (pi:Pos) (s:Sy):Option (VR P (.Subscript e i pi) s):=gd (fL i) λhs=>ob (r.ev e s) λp=>gd (p.1.1.bel (P.N p.1.2)) λhb=>ob (r.ev i p.1.2) λq=>ob (PB p.1.1 q.1.1 q.1.2) λz=>some ⟨(z.v,z.s'),I8 hs p.2 hb q.2 z⟩
noncomputable def CG (e i:Expr) (pi:Pos) (s:Sy):Option (VR P (.Subscript e i pi) s):=by
 induction i using Expr.casesOn with
 | Slice lo hi st p=>exact OJ r e lo hi st p pi s
 | _=>exact Pf r e _ pi s
def KB (e:Expr) (a:Str) (ap:Pos) (es:cN) (pi:Pos) (s:Sy):Option (VR P (.Call (.Attribute e a ap) es [] pi) s):=gd (jV e&&tU fD es&&Nat.blt es.length 30&&(ap.endLine==pi.line)) λhs=>ob (r.ev e s) λx=>ob (Qd O x.1.1 a x.1.2) λm=>(match m with
 | .own g i q hf=>gd (Nat.blt i (P.N x.1.2)) λhi=>ob (Ke r es x.1.2) λb=>ob (Lc g (.slot i::b.1.1) b.1.2) λw=>some ⟨w.1,I4 hs x.2 hi q hf b.2 w.2⟩
 | .cls f q=>gd (x.1.1.bel (P.N x.1.2)) λhb=>ob (Ke r es x.1.2) λb=>ob (Mh f (x.1.1::b.1.1) b.1.2) λw=>some ⟨w.1,Ei hs x.2 hb q b.2 w.2⟩)
def AN (f:Expr) (es:cN) (kw:List Keyword) (pi:Pos) (s:Sy):Option (VR P (.Call f es kw pi) s):=match kw with
 | []=>by
  induction f using Expr.casesOn with
  | Attribute e a ap=>exact KB O r e a ap es pi s
  | Name x xp=>exact gd (tU fD es) λhs=>ob (PL O x) λf=>ob (Ke r es s) λb=>ob (Mh f.1 b.1.1 b.1.2) λw=>some ⟨w.1,BU hs f.2 b.2 w.2⟩
  | _=>exact DP _ s
 | _=>DP _ s
theorem mj {c:Const} {d:AV} {k pi} {s:Sy} (h:∀ σ,Ev P.X (.Constant c k pi) σ d σ):SV P (.Constant c k pi) s (.av d) s:=.of rfl id λy y=>h _
noncomputable def LE (c:Const) (k:Nat) (pi:Pos) (s:Sy):Option (VR P (.Constant c k pi) s):=match c with
 | .none=>some ⟨(.av .none,s),mj λy=>zX⟩
 | .bool b=>some ⟨(.av (.bool b),s),mj λy=>oP⟩
 | .int i=>some ⟨(.av (.int i),s),mj λy=>iP⟩
 | .str x=>some ⟨(.av (.str x.cps.toList),s),mj λy=>ie rfl⟩
 | _=>none
theorem Cu {x:Str} {pi:Pos} {s:Sy} (v:Oe P x s):SV P (.Name x pi) s v.1 s:=.of rfl id λy ρ=>v.2 ρ pi
theorem BL {es:cN} {pi:Pos} {s s':Sy} {vs:cR} {l:cL} (a:SL P es s vs s') (q:lC vs=some l) (hz:Nat.ble l.length 16777216=true):SV P (.List es pi) s (.av (.lst l)) s':=
 ⟨a.c,λc as ha H Φ k=>vJ (a.run c as ha _ _ _ λws bs hl hb pb=>by rw[mJ q];exact⟨eP hz,λw=>k w bs hb pb⟩)⟩
theorem PQ {es:cN} {s s':Sy} {vs:cR} {o:List fj} (a:SL P es ⟨s.D,s.n,o,s.c⟩ vs s'):SL P es s vs s':=⟨a.c,a.run⟩
theorem Ai {pi:Pos} {s:Sy}:SV P (.Dict [] [] pi) s (.av (.dct [])) s:=.of rfl id λy y=>Dv
noncomputable def JN (o:List fj):Bool:=match o with
 | .cmp true::_=>true
 | _=>false
def Pg (es:cN) (pi:Pos) (s:Sy):Option (VR P (.List es pi) s):=ob (Ke r es ⟨s.D,s.n,s.o.tail,s.c⟩) λp=>iQ (lC p.1.1) λl q=>gd (Nat.ble l.length 16777216) λhz=>some ⟨(.av (.lst l),p.1.2),BL (PQ p.2) q hz⟩
def Ox (ks:List (Option Expr)) (es:cN) (pi:Pos) (s:Sy):Option (VR P (.Dict ks es pi) s):=match ks,es with
 | [],[]=>some ⟨(.av (.dct []),s),Ai⟩
 | ks,es=>ob (Qr r ks es s) λp=>iQ (oT p.1.1) λl q=>gd (ij (l.map (·.1))&&Nat.ble 1 p.1.1.length&&Nat.ble es.length 15) λhz=>some ⟨(.av (.dct l),p.1.2),C7 p.2 q hz⟩
def MD (e:Expr) (s:Sy):Option (VR P e s):=by
 induction e using Expr.casesOn with
 | Constant c k pi=>exact(LE c k pi s)
 | Name x pi=>exact(ob (EW O x s) λv=>some ⟨(v.1,s),Cu v⟩)
 | Attribute e a pi=>exact(gd (jV e) λhs=>ob (r.ev e s) λp=>(match p with
  | ⟨(.slot i,s1),h⟩=>ob (Ml P.K i a s1) λg=>some ⟨(g.v,s1),BV O hs h g⟩
  | _=>none))
 | Compare l ops ms pi=>exact(CP r l ops ms pi s)
 | BinOp l op m pi=>exact(ob (r.ev l s) λp=>gd (p.1.1.bel (P.N p.1.2)) λhb=>ob (r.ev m p.1.2) λq=>ob (Dk op p.1.1 q.1.1 q.1.2) λz=>some ⟨(z.v,z.s'),Hm p.2 hb q.2 z⟩)
 | UnaryOp op e pi=>exact((match op with
  | .Not=>ob (r.ev e s) λp=>ob (Gz p.1.1 p.1.2) λt=>some ⟨(.av (.bool !t.r.val),t.s'),I0 p.2 t⟩
  | .USub=>ob (r.ev e s) λp=>(match p with
   | ⟨(.av (.int i),s1),h⟩=>some ⟨(.av (.int (-i)),s1),Je h⟩
   | _=>none)
  | _=>none))
 | IfExp t x y pi=>exact(ob (r.te t s) λp=>(match p with
  | ⟨(true,s1),h⟩=>ob (r.ev x s1) λw=>some ⟨w.1,JS h w.2⟩
  | ⟨(false,s1),h⟩=>ob (r.ev y s1) λw=>some ⟨w.1,Hx h w.2⟩))
 | Tuple es k pi=>exact(ob (Ke r es s) λp=>iQ (lC p.1.1) λl q=>gd (Nat.ble l.length 16777216) λhz=>some ⟨(.av (.tup l),p.1.2),IQ p.2 q hz⟩)
 | List es pi=>exact(Bool.casesOn (JN s.o) (ob (Ke r es s) λp=>gd (Nat.ble p.1.1.length 16777216&&p.1.1.all (DV.bel (P.N p.1.2))) λhz=>some ⟨(.slot (P.N p.1.2),(p.1.2.need (p.1.2.D.bel (P.N p.1.2)=true)).new P (.list [] p.1.1)),BW p.2 hz⟩) (Pg r es pi s))
 | Dict ks es pi=>exact(Ox r ks es pi s)
 | Subscript e i pi=>exact(CG r e i pi s)
 | BoolOp op es pi=>exact(Bool.casesOn (Pm s.o) (KY r (.BoolOp op es pi) s) (ob (PP r op es s) λp=>some ⟨p.1,BR p.2⟩))
 | Call f es kw pi=>exact(Bool.casesOn (LQ s.o) (AN O r f es kw pi s) (DP _ s))
 | _=>exact DP _ s
noncomputable def KR (e:Expr) (s:Sy):Option (TR P e s):=gd (zI e) λhs=>ob (r.ev e s) λp=>ob (Gz p.1.1 p.1.2) λt=>ob (CU t.r t.s') λw=>some ⟨(w.b,w.s'),JB hs p.2 t w⟩
theorem CE {l m x:Expr} {op oi:CmpOp} {pi:Pos} {s:Sy} (hs:kM x=true) (a:UR P l s) (b:UR P m s) (y:UR P x s) (z:RA op a.1 b.1) (w:RA oi b.1 y.1) (d:RD (.is (z.r.val&&w.r.val)) s):ST P (.Compare l [op,oi] [m,x] pi) s d.b d.s':=
 ⟨d.A.c,λc as ha H Φ k=>uG ((a.2 _).run _ _ λv=>(b.2 _).run _ _ λv=>(z.ok _ _).run _ _ _ _ kx gO λv=>⟨_,rfl,_,(y.2 _).run _ _ λv=>(w.ok _ _).run _ _ _ _ kx gO λv=>⟨rfl,rfl⟩,by
  have e:(z.r.val&&w.r.val)=d.b:=d.ok c
  have k':=k as (ha.trans d.A.n.symm) (bV _)
  rw[d.A.D,<-e]at k'
  exact k'⟩) (sW hs)⟩
def PE (l:Expr) (ops:List CmpOp) (ms:cN) (pi:Pos) (s:Sy):Option (TR P (.Compare l ops ms pi) s):=match ops,ms with
 | [op],[m]=>gd (kM m) λhs=>ob (r.ev l s) λp=>gd (p.1.1.bel (P.N p.1.2)) λhb=>ob (r.ev m p.1.2) λq=>ob (ME op p.1.1 q.1.1 q.1.2) λz=>ob (CU z.r z.s') λw=>some ⟨(w.b,w.s'),Gy hs p.2 hb q.2 z w⟩
 | [op,oi],[m,x]=>gd (kM x) λhs=>ob (r.pu l s) λa=>ob (r.pu m s) λb=>ob (r.pu x s) λy=>ob (xq op a.1 b.1) λz=>ob (xq oi b.1 y.1) λw=>ob (CU (.is (z.r.val&&w.r.val)) s) λd=>some ⟨(d.b,d.s'),CE hs a b y z w d⟩
 | _,_=>none
def Kr (op:BoolOp) (es:cN) (pi:Pos) (s:Sy):Option (TR P (.BoolOp op es pi) s):=match es with
 | e::es=>(match op with
  | .And=>ob (R2 r (e::es) s) λp=>some ⟨p.1,GD p.2⟩
  | .Or=>ob (Rf r (e::es) s) λp=>some ⟨p.1,Mz p.2⟩)
 | _=>none
def LH (e:Expr) (s:Sy):Option (TR P e s):=by
 induction e using Expr.casesOn with
 | UnaryOp op e pi=>exact((match op with
  | .Not=>ob (r.te e s) λp=>some ⟨(!p.1.1,p.1.2),Il p.2⟩
  | op=>KR r (.UnaryOp op e pi) s))
 | BoolOp op es pi=>exact(Kr r op es pi s)
 | Compare l ops ms pi=>exact(PE r l ops ms pi s)
 | _=>exact KR r _ s
def E3 (t:Expr) (v:DV) (s:Sy):Option (GR P t v s):=by
 induction t using Expr.casesOn with
 | Name x p=>exact(Bool.casesOn (motive:=λb=>qG (P.X.env.kindOf x)=b->Option (GR P (.Name x p) v s)) (qG (P.X.env.kindOf x)) (λy=>gd (ny (P.X.env.kindOf x)) λhl=>iQ (xH x v s.D.loc) λl q=>some ⟨_,En O hl q⟩)
  (λhl=>iQ (gR x P.cl) λi e0=>iQ (eY i s.D.objs) λo q=>match o,q with
   | .cell w,q=>some ⟨_,Dl O hl e0 q⟩
   | _,_=>none) rfl)
 | Attribute e a p=>exact(ob (r.ev e s) λh=>gd (Nat.beq h.1.2.n s.n) λhn=>(match h,hn with
  | ⟨(.slot i,s1),h⟩,hn=>ob (N7 P.K i a v s1) λq=>some ⟨s1.objs q.l,C0 O h hn q⟩
  | _,_=>none))
 | _=>exact none
def Ov (o i e:Expr) (p pi:Pos) (s:Sy):Option (XR P (.Assign [.Subscript o i p] e pi) s):=gd (jw e) λhs=>ob (r.ev e s) λa=>gd (a.1.1.bel (P.N a.1.2)) λhb1=>ob (r.ev o a.1.2) λb=>gd (b.1.1.bel (P.N b.1.2)) λhb2=>ob (r.ev i b.1.2) λd=>ob (LN b.1.1 d.1.1 a.1.1 d.1.2) λq=>some ⟨(.next,d.1.2.objs q.l),Cw hs a.2 hb1 b.2 hb2 d.2 q⟩
def Pb (t1 t2:Expr) (kk:Nat) (p:Pos) (e:Expr) (pi:Pos) (s:Sy):Option (XR P (.Assign [.Tuple [t1,t2] kk p] e pi) s):=gd (jw e&&Ad e&&fD t1&&fD t2) λhs=>ob (r.ev e s) λa=>match a with
 | ⟨(.av (.tup [d1,d2]),s1),h⟩=>ob (E3 O r t1 (.av d1) s1) λb=>ob (E3 O r t2 (.av d2) b.1) λd=>some ⟨(.next,d.1),E7 hs h b.2 d.2⟩
 | _=>none
def OW (t:Expr) (ks:List (Option Expr)) (es:cN) (dp pi:Pos) (s:Sy):Option (XR P (.Assign [t] (.Dict ks es dp) pi) s):=ob (Qr r ks es s) λp=>gd (ij (p.1.1.map (·.1))&&Nat.ble 1 p.1.1.length&&Nat.ble es.length 15&&(p.1.1.all λq=>q.2.bel (P.N p.1.2))&&p.1.2.D.bel (P.N p.1.2)) λhz=>ob (E3 O r t (.slot (P.N p.1.2)) (p.1.2.new P (.dict p.1.1))) λb=>some ⟨(.next,b.1),DR p.2 hz b.2⟩
def Pw (t e:Expr) (pi:Pos) (s:Sy):Option (XR P (.Assign [t] e pi) s):=gd (jw e) λhs=>ob (r.ev e s) λa=>ob (E3 O r t a.1.1 a.1.2) λb=>some ⟨(.next,b.1),Gg hs a.2 b.2⟩
def Q1 (t e:Expr) (pi:Pos) (s:Sy):Option (XR P (.Assign [t] e pi) s):=by
 induction e using Expr.casesOn with
 | Dict ks es dp=>exact OW O r t ks es dp pi s
 | ListComp=>exact su _ s
 | _=>exact Pw O r t _ pi s
def PO (t e:Expr) (pi:Pos) (s:Sy):Option (XR P (.Assign [t] e pi) s):=by
 induction t using Expr.casesOn with
 | Tuple ts kk p=>exact(match ts with
  | [t1,t2]=>Pb O r t1 t2 kk p e pi s
  | _=>su _ s)
 | Subscript o i p=>exact Ov r o i e p pi s
 | _=>exact Q1 O r _ e pi s
def Q7 (ts:cN) (e:Expr) (pi:Pos) (s:Sy):Option (XR P (.Assign ts e pi) s):=match ts with
 | [t]=>PO O r t e pi s
 | _=>su _ s
def OM (t:Expr) (op:Operator) (e:Expr) (pi:Pos) (s:Sy):Option (XR P (.AugAssign t op e pi) s):=by
 induction t using Expr.casesOn with
 | Name x p=>exact(gd (ny (P.X.env.kindOf x)) λhl=>iQ (two (gR x s.D.loc)) λa e0=>gd (a.bel (P.N s)) λhb=>ob (r.ev e s) λh=>ob (Dk op a h.1.1 h.1.2) λz=>iQ (xH x z.v z.s'.D.loc) λl q=>some ⟨(.next,_),Hj O hl e0 hb h.2 z q⟩)
 | Attribute o a p=>exact(ob (r.ev o s) λh=>(match h with
  | ⟨(.slot i,s1),h⟩=>gd (Nat.blt i (P.N s1)) λhi=>ob (Ml P.K i a s1) λg=>gd (g.v.bel (P.N s1)) λhx=>ob (r.ev e s1) λb=>ob (Dk op g.v b.1.1 b.1.2) λz=>ob (N7 P.K i a z.v z.s') λq=>some ⟨(.next,z.s'.objs q.l),BH O h hi g hx b.2 z q⟩
  | _=>none))
 | Subscript o i p=>exact(gd (fL i) λhs=>ob (r.ev o s) λa=>gd (a.1.1.bel (P.N a.1.2)) λhb1=>ob (r.ev i a.1.2) λb=>gd (b.1.1.bel (P.N b.1.2)) λhb2=>ob (Qe a.1.1 b.1.1 b.1.2) λg=>gd (g.v.bel (P.N b.1.2)) λhx=>ob (r.ev e b.1.2) λd=>ob (Dk op g.v d.1.1 d.1.2) λz=>ob (LN a.1.1 b.1.1 z.v z.s') λq=>some ⟨(.next,z.s'.objs q.l),D4 hs a.2 hb1 b.2 hb2 g hx d.2 z q⟩)
 | _=>exact none
def OA (t:Expr) (b3:cM) (k:Nat):∀ s:Sy,Option {s':Sy // SW P t b3 s s'}:=Nat.rec (λy=>none)
 (λy ih s=>ob (r.te t s) λp=>match p with
  | ⟨(false,s1),h⟩=>some ⟨s1,IJ h⟩
  | ⟨(true,s1),h⟩=>ob (Fg r b3 s1) λw=>match w with
   | ⟨(.next,s2),b⟩=>ob (ih s2) λz=>some ⟨z.1,EV (.inl rfl) h b z.2⟩
   | ⟨(.cont,s2),b⟩=>ob (ih s2) λz=>some ⟨z.1,EV (.inr rfl) h b z.2⟩
   | ⟨(.brk,s2),b⟩=>some ⟨s2,JH h b⟩
   | _=>none) k
noncomputable def yV (o:List fj):Bool:=match o with
 | .stm .. ::_=>true
 | _=>false
def ON (t:Expr) (b3 oj:cM) (pi:Pos) (s:Sy):Option (XR P (.While t b3 oj pi) s):=match oj with
 | []=>Bool.casesOn (yV s.o) (ob (OA r t b3 20 s) λz=>some ⟨(.next,z.1),z6 z.2⟩) (su _ s)
 | _=>su _ s
def Nf (st:Stmt) (s:Sy):Option (XR P st s):=by
 induction st using Stmt.casesOn with
 | Pass _=>exact(some ⟨(.next,s),BF⟩)
 | Break _=>exact(some ⟨(.brk,s),Gd⟩)
 | Continue _=>exact(some ⟨(.cont,s),C9⟩)
 | Return o _=>exact((match o with
  | none=>some ⟨(.ret (.av .none),s),C6⟩
  | some e=>ob (r.ev e s) λp=>some ⟨(.ret p.1.1,p.1.2),Gk p.2⟩))
 | If t x y _=>exact(Bool.casesOn (yV s.o) (ob (r.te t s) λp=>(match p with
  | ⟨(true,s1),h⟩=>ob (Fg r x s1) λw=>some ⟨w.1,GZ h w.2⟩
  | ⟨(false,s1),h⟩=>ob (Fg r y s1) λw=>some ⟨w.1,Ji h w.2⟩)) (su _ s))
 | Expr e _=>exact(gd (jw e) λhs=>ob (r.ev e s) λp=>some ⟨(.next,p.1.2),Ek O hs p.2⟩)
 | Assert t _ _=>exact(ob (r.te t s) λp=>(match p with
  | ⟨(true,s1),h⟩=>some ⟨(.next,s1),xR h⟩
  | _=>none))
 | Assign ts e pi=>exact(Bool.casesOn (yV s.o) (Q7 O r ts e pi s) (su _ s))
 | AugAssign t op e pi=>exact(OM O r t op e pi s)
 | While t b3 oj pi=>exact(ON r t b3 oj pi s)
 | _=>exact su _ s
end
def lP {P:Px} (O:gH P) (k:Nat):QA P:=Nat.rec ⟨λy y=>none,λy y=>none,λy y=>none,λy y=>none⟩ (λy r=>⟨Kt O r,MD O r,LH r,Nf O r⟩) k
def qm {P:Px} (O:gH P) (ss:cM) (D:DS) (aA:List fj):Option (DF×Sy):=ob (Fg (lP O 60) ss ⟨D,0,aA,True⟩) λp=>some p.1
def vj {P:Px} (O:gH P) (e:Expr) (D:DS) (aA:List fj):Option (Bool×Sy):=ob ((lP O 60).te e ⟨D,0,aA,True⟩) λp=>some p.1
def Eg {P:Px} (O:gH P) (e:Expr) (D:DS) (aA:List fj):Option (DV×Sy):=ob ((lP O 60).ev e ⟨D,0,aA,True⟩) λp=>some p.1
theorem t8 {P:Px} (O:gH P) {ss:cM} {D D':DS} {aA o:List fj} {q:Prop} {k:Nat} {f:DF} (hq:q) (e:qm O ss D aA=some (f,⟨D',k,o,q⟩)):dH P.X ss (D.to P.ρ) λfl σ'=>Bx k λbs=>fl=f.to (P.ρ++bs)/\σ'=D'.to (P.ρ++bs):=by
 unfold qm at e
 induction h:Fg (lP O 60) ss ⟨D,0,aA,True⟩using Option.casesOn with
 | none=>rw[h]at e;contradiction
 | some p=>
  rw[h]at e
  obtain⟨⟨f',s'⟩,w⟩:=p
  cases e
  exact⟨λH Φ k=>cm P.ρ▸w.run hq [] rfl H Φ λbs hl y=>k _ _ (yW hl ⟨rfl,rfl⟩)⟩
theorem mT {P:Px} (O:gH P) {ss:cM} {D D':DS} {aA o:List fj} {q:Prop} {f:DF} (hq:q) (e:qm O ss D aA=some (f,⟨D',0,o,q⟩)):fx P.X ss (D.to P.ρ) (f.to P.ρ) (D'.to P.ρ):=
 ⟨λH Φ k=>(t8 O hq e).run H Φ λfl σ' h=>by
  obtain⟨h1,h2⟩:fl=f.to (P.ρ++[])/\σ'=D'.to (P.ρ++[]):=h
  rw[cm]at h1 h2
  rw[h1,h2];exact k⟩
theorem pF {P:Px} (O:gH P) {e:Expr} {D D':DS} {aA o:List fj} {q:Prop} {b:Bool} (hq:q) (h:vj O e D aA=some (b,⟨D',0,o,q⟩)):Te P.X e (D.to P.ρ) b (D'.to P.ρ):=by
 unfold vj at h
 induction h':(lP O 60).te e ⟨D,0,aA,True⟩using Option.casesOn with
 | none=>rw[h']at h;contradiction
 | some p=>
  rw[h']at h
  obtain⟨⟨b',s'⟩,w⟩:=p
  cases h
  exact⟨λH Φ k=>cm P.ρ▸w.run hq [] rfl H Φ λbs hl y=>bo hl▸(cm P.ρ).symm▸k⟩
theorem tF {P:Px} (O:gH P) {e:Expr} {D D':DS} {aA o:List fj} {q:Prop} {v:DV} (hq:q) (h:Eg O e D aA=some (v,⟨D',0,o,q⟩)):Ev P.X e (D.to P.ρ) (v.to P.ρ) (D'.to P.ρ):=by
 unfold Eg at h
 induction h':(lP O 60).ev e ⟨D,0,aA,True⟩using Option.casesOn with
 | none=>rw[h']at h;contradiction
 | some p=>
  rw[h']at h
  obtain⟨⟨b',s'⟩,w⟩:=p
  cases h
  exact⟨λH Φ k=>cm P.ρ▸w.run hq [] rfl H Φ λu bs hl y=>bo hl▸(cm P.ρ).symm▸k u⟩
structure II where
 c:Prop
 k:Nat
 v:DV
 objs:cV
 rest:OL
noncomputable def Co (f:DF) (s:Sy):Option II:=match f with
 | .ret v=>some ⟨s.c,s.n,v,s.D.objs,s.D.rest⟩
 | .next=>some ⟨s.c,s.n,.av .none,s.D.objs,s.D.rest⟩
 | _=>none
noncomputable def Bh (ps:cQ) (ds:cR) (xs:cQ):cZ:=(ps.zip ds).map (λp=>(p.1,some p.2))++xs.map (·,none)
theorem BE {ρ:cP} {xs:cQ} {ps:cQ}:∀ {ds:cR},il ρ (Bh ps ds xs)=fh ps (mC ρ ds)++bare xs:=by
 have hb:il ρ (xs.map (·,none))=bare xs:=by rw[il,List.map_map];rfl
 induction ps with
 | nil=>exact hb
 | cons p ps ih=>
  intro ds
  induction ds using List.casesOn with
  | nil=>exact hb
  | cons d ds=>exact cG (List.cons _) ih
noncomputable def u8 (sf:Scope):Bool:=(match sf.kind with | .function=>true | _=>false)&& !sf.isCoroutine&& !sf.isGenerator
noncomputable def nS (sf:Scope):Bool:=sf.names.all λx=>match x.2 with | .cell=>false | _=>true
theorem j7 {sf:Scope} (h:u8 sf=true):sf.kind=.function/\sf.isCoroutine=false/\sf.isGenerator=false:=by
 have h1:=dG (dG h)
 refine⟨?_,by simpa using eB (dG h),by simpa using eB h⟩
 cases q:sf.kind<;>first | rfl | (rw[q]at h1;exact Bool.noConfusion h1)
theorem vy {sf:Scope} (h:nS sf=true):∀ x∈sf.names,x.2≠.cell:=λx hx e=>by
 have:=List.all_eq_true.mp h x hx
 rw[e]at this
 exact Bool.noConfusion this
theorem Et {α:Type u} {β:Type v} {o:Option α} {f:α->Option β} {y:β} (e:ob o f=some y):∃ x,f x=some y:=by
 induction o using Option.casesOn with
 | none=>exact nomatch e
 | some x=>exact⟨x,e⟩
theorem CV {fl:DF} {s:Sy} {o:II} (e:Co fl s=some o):(fl=.ret o.v\/fl=.next/\.av .none=o.v)/\o.c=s.c/\s.n=o.k/\s.D.objs=o.objs/\s.D.rest=o.rest:=by
 cases fl with
 | ret v=>cases Option.some.inj e;exact⟨.inl rfl,rfl,rfl,rfl,rfl⟩
 | next=>cases Option.some.inj e;exact⟨.inr ⟨rfl,rfl⟩,rfl,rfl,rfl,rfl⟩
 | brk=>exact nomatch e
 | cont=>exact nomatch e
theorem Jp {ρ:cP} {a b:cV} {r r':OL} (e1:a=b) (e2:r=r'):dE ρ r a=dE ρ r' b:=by rw[e1,e2]
theorem ES {B:dc} {n:Nat} {n5 qb:Str} {pj:Arguments} {b3:cM} {sf:Scope} {dV kV d7 pm c3 ct oc:Value} {an od:Option Addr} {ol:cY} {f:Addr} {ay:cL} {Φ:AV->OL->Prop} {o8:OL} {K:Frag} {gl:List (Addr×AV)}
 {u :II} (ps xs:cQ) (ρ:cP) (ds:cR) (os:cV) (r8:OL) (aA:List fj)
 (hK:B.K=K) (hgl:∀ p∈gl,eS B (.ref p.1) p.2) (ho:K.lookup f=some ⟨oc,od,.func (fnOf n5 qb pj b3 sf dV kV d7 pm an c3 ct),ol⟩)
 (hb:fw B (fnOf n5 qb pj b3 sf dV kV d7 pm an c3 ct) ps ay (mC ρ ds)) (hq:u.c) (hΦ:∀ d o,Bx u.k (λbs=>d=u.v.to (ρ++bs)/\o=dE (ρ++bs) u.rest u.objs)->Φ d o)
 (ck:(codeIn K c3 qb&&nS sf&&ij (ps++xs)&&ps.all (λy=>sf.names.lookup y==some .local)&&Nat.beq ps.length ds.length)=true) (fu:u8 sf=true) (eo:dE ρ r8 os=o8)
 (e :∀ L,(ob (Fg (lP (P:=⟨⟨B,n,L,envOf qb sf L f c3⟩,K,ρ,gl,[]⟩) ⟨hK,(j7 fu).1,rfl,rfl,rfl,hgl,nofun⟩ 60) b3 ⟨⟨Bh ps ds xs,os,r8⟩,0,aA,True⟩) λp=>Co p.1.1 p.1.2)=some u):de B (n+1) f ay o8 Φ:=by
 subst eo hK
 refine DL ps xs ho (dG (dG (dG (dG ck)))) hb (λL=>?_) rfl rfl BE.symm ?_ (eT (eB (dG (dG ck)))) (eB (dG ck)) (j7 fu).2.1 (j7 fu).2.2 (j7 fu).1 (vy (eB (dG (dG (dG ck)))))
 . obtain⟨p,e⟩:=Et (e L)
   have z:=CV e
   show WF B n L (execs b3 (envOf qb sf L f c3)) [] (DS.to ρ ⟨Bh ps ds xs,os,r8⟩) _
   rw[<-cm ρ];refine p.2.run (z.2.1▸hq) [] rfl [] _ λbs hl x=>?_
   have w:=λd (h:d=u.v.to (ρ++bs))=>hΦ d _ (yW (hl.trans z.2.2.1) ⟨h,Jp z.2.2.2.1 z.2.2.2.2⟩)
   rcases z.1 with h | h
   . rw[h];exact w _ rfl
   . rw[h.1];exact w _ (cG (DV.to (ρ++bs)) h.2)
 . rw[mC,cq];exact Nat.eq_of_beq_eq_true (eB ck)
theorem BD {B:dc} {n:Nat} {n5 qb:Str} {pj:Arguments} {b3:cM} {sf:Scope} {dV kV d7 pm c3 ct oc:Value} {an od:Option Addr} {ol:cY} {f:Addr} {ay:cL} {Φ:AV->OL->Prop} {o8:OL} {K:Frag} {gl:List (Addr×AV)}
 {k:Nat} {v:DV} {o3:cV} {r9:OL} {q:Prop} (ps xs:cQ) (ρ:cP) (ds:cR) (os:cV) (r8:OL) (aA:List fj)
 (hK:B.K=K) (hgl:∀ p∈gl,eS B (.ref p.1) p.2) (ho:K.lookup f=some ⟨oc,od,.func (fnOf n5 qb pj b3 sf dV kV d7 pm an c3 ct),ol⟩)
 (hb:fw B (fnOf n5 qb pj b3 sf dV kV d7 pm an c3 ct) ps ay (mC ρ ds)) (hq:q) (hΦ:∀ d o,Bx k (λbs=>d=v.to (ρ++bs)/\o=dE (ρ++bs) r9 o3)->Φ d o)
 (ck:(codeIn K c3 qb&&nS sf&&ij (ps++xs)&&ps.all (λy=>sf.names.lookup y==some .local)&&Nat.beq ps.length ds.length)=true) (fu:u8 sf=true) (eo:dE ρ r8 os=o8)
 (e:∀ L,(ob (Fg (lP (P:=⟨⟨B,n,L,envOf qb sf L f c3⟩,K,ρ,gl,[]⟩) ⟨hK,(j7 fu).1,rfl,rfl,rfl,hgl,nofun⟩ 60) b3 ⟨⟨Bh ps ds xs,os,r8⟩,0,aA,True⟩) λp=>Co p.1.1 p.1.2)=some ⟨q,k,v,o3,r9⟩):de B (n+1) f ay o8 Φ:=
 ES (u:=⟨q,k,v,o3,r9⟩) ps xs ρ ds os r8 aA hK hgl ho hb hq hΦ ck fu eo e
end
theorem tC (n:Nat) (D:DS) (h:autoParam (D.bel n=true) bK):D.bel n=true:=h
end
section
variable {X:Cx} {cl:List (Str×Nat)} {σ σ':St} {t:Expr} {st:Stmt}
structure ej (B:dc):Prop where
 K:B.K=fT B.P
noncomputable def GE:FL:=[("Doctype",.int 0),("Characters",.int 1),("SpaceCharacters",.int 2),("StartTag",.int 3),("EndTag",.int 4),("EmptyTag",.int 5),("Comment",.int 6),("ParseError",.int 7)]
theorem wT (hB:ej B):eS B (.ref 48) (.dct GE):=by
 obtain⟨es,m,h,ok,e⟩:∃ es m,B.K.lookup 48=some (dictOf es m)/\rH B.P es/\lM es=GE:=by
  rw[hB.K];refine⟨_,_,rfl,?_,rfl⟩
  exact⟨⟨_,_,rfl,rfl⟩,⟨_,_,rfl,rfl⟩,⟨_,_,rfl,rfl⟩,⟨_,_,rfl,rfl⟩,⟨_,_,rfl,rfl⟩,⟨_,_,rfl,rfl⟩,⟨_,_,rfl,rfl⟩,⟨_,_,rfl,rfl⟩,trivial⟩
 exact AY h ok e (eT (by kernel_rfl))
noncomputable def i7:d8:=[[9],[10],[12],[32],[13]]
theorem vB (hB:ej B):eS B (.ref 22) (.tup (i7.map .str)):=pL (by rw[hB.K];rfl) rfl
noncomputable def iA:d8:=((List.range' 97 26)++(List.range' 65 26)).map λc=>[c]
theorem tm (hB:ej B):eS B (.ref 27) (.tup (iA.map .str)):=pL (by rw[hB.K];rfl) rfl
noncomputable def Lv:cL:=[.int 3,.int 4,.int 5]
theorem yi {B:dc} (hB:ej B):eS B (.ref 49) (.tup Lv):=pL (by rw[hB.K];rfl) rfl
noncomputable abbrev ua:List (Addr×AV):=[(48,.dct GE),(22,.tup (i7.map .str)),(27,.tup (iA.map .str)),(49,.tup Lv)]
theorem ng (hB:ej B):∀ p∈ua,eS B (.ref p.1) p.2:=by
 intro p hp
 rcases fG hp with rfl | hp
 . exact wT hB
 rcases fG hp with rfl | hp
 . exact vB hB
 rcases fG hp with rfl | hp
 . exact tm hB
 rcases fG hp with rfl | hp
 . exact yi hB
 contradiction
theorem fw.four {fd:FuncData} {p1 p2 p3 p4:Str} {d1 d2 d3 d4:AV} (h:∀ v1 v2 v3 v4,bindArgs fd ⟨[v1,v2,v3,v4],[]⟩=pure [(p1,v1),(p2,v2),(p3,v3),(p4,v4)]):fw B fd [p1,p2,p3,p4] [d1,d2,d3,d4] [d1,d2,d3,d4]:=λF s vs hv y y=>by
 obtain⟨v1,v2,v3,v4,rfl,q1,q2,q3,q4⟩:=Ou hv;exact⟨_,.cons q1 (.cons q2 (.cons q3 (.cons q4 .nil))),.of_eq (h _ _ _ _)⟩
def gD (B:dc) (m:Nat) (f:Addr) (ay:cL) (d:AV):Prop:=∀ o8,de B m f ay o8 λd' o=>d'=d/\o=o8
theorem mW:eS B .none .none:=λy y=>.none
theorem vv:eS B (.bool false) (.bool false):=λy y=>.bool _
theorem qa {a b:Prop} (h:a) (k:b):a/\b:=⟨h,k⟩
theorem tt:true=true:=rfl
theorem ff:false=false:=rfl
section
variable {B:dc} {n:Nat} {f:Addr} {ay:cL} {o8:OL} {q:Prop}
noncomputable def oM (K:Frag) (f:Addr):Obj:=(K.lookup f).getD default
noncomputable def Oy:Data->FuncData
 | .func fd=>fd
 | _=>default
noncomputable abbrev iC (K:Frag) (f:Addr):FuncData:=Oy (oM K f).data
noncomputable def Ks (fd:FuncData):cM:=FuncBody.casesOn fd.body (λb=>b) λy=>[]
noncomputable def yd (K:Frag) (f:Addr):FuncData:=fnOf (iC K f).name (iC K f).qualname (iC K f).params (Ks (iC K f)) (iC K f).scope (iC K f).defaults (iC K f).kwdefaults (iC K f).doc (iC K f).pyModule (iC K f).annotations (iC K f).code (iC K f).closureTuple
noncomputable def LF (ps:cQ) (sc:Scope):cQ:=(sc.names.filter λy=>y.2==.local&& !ps.contains y.1).map (·.1)
noncomputable def QG (K:Frag) (f:Addr) (ps:cQ) (m:Nat):Bool:=codeIn K (iC K f).code (iC K f).qualname&&nS (iC K f).scope&&ij (ps++LF ps (iC K f).scope)&&ps.all (λy=>(iC K f).scope.names.lookup y==some .local)&&Nat.beq ps.length m
def A9 (hB:ej B) (n:Nat) (f:Addr) (ps:cQ) (ρ:cP) (ds:cR) (os:cV) (r8:OL) (aA:List fj) (L:Addr):Option II:=
 bif QG (fT B.P) f ps ds.length then (if h:u8 (iC (fT B.P) f).scope=true then ob (Fg (lP (P:=⟨⟨B,n,L,envOf (iC (fT B.P) f).qualname (iC (fT B.P) f).scope L f (iC (fT B.P) f).code⟩,fT B.P,ρ,ua,[]⟩) ⟨hB.K,(j7 h).1,rfl,rfl,rfl,ng hB,nofun⟩ 60) (Ks (iC (fT B.P) f)) ⟨⟨Bh ps ds (LF ps (iC (fT B.P) f).scope),os,r8⟩,0,aA,True⟩) λp=>Co p.1.1 p.1.2 else none) else none
noncomputable def Oj {α:Type} (x:α) (_:Addr):α:=x
abbrev K3 (K:Frag) (f:Addr):Prop:=K.lookup f=some ⟨(oM K f).cls,(oM K f).dict,.func (yd K f),(oM K f).slots⟩
theorem ET {Φ:AV->OL->Prop} {u:II} (ps:cQ) (ρ:cP) (ds:cR) (os:cV) (r8:OL) (aA:List fj) (hB:ej B) (hb:fw B (yd (fT B.P) f) ps ay (mC ρ ds)) (hq:u.c)
 (hΦ:∀ d o,Bx u.k (λbs=>d=u.v.to (ρ++bs)/\o=dE (ρ++bs) u.rest u.objs)->Φ d o) (eo:dE ρ r8 os=o8) (ho:K3 (fT B.P) f) (e:A9 hB n f ps ρ ds os r8 aA=Oj (some u)):de B (n+1) f ay o8 Φ:=by
 have e':=λL=>congrFun e L
 unfold A9 at e'
 induction h:QG (fT B.P) f ps ds.length using Bool.casesOn with
 | false=>rw[h]at e';exact nomatch e' 0
 | true=>
  rw[h]at e'
  by_cases fu:u8 (iC (fT B.P) f).scope=true
  . exact ES ps _ ρ ds os r8 aA hB.K (ng hB) ho hb hq hΦ h fu eo λL=>(dif_pos fu).symm.trans (e' L)
  . exact nomatch (dif_neg fu).symm.trans (e' 0)
theorem jE {o3:OL} {d:AV} (ps:cQ) (ρ:cP) (ds:cR) (os:cV) (r8:OL) (aA:List fj) (v:DV) (os':cV) (r9:OL) (hB:ej B) (hq:q) (hb:fw B (yd (fT B.P) f) ps ay (mC ρ ds):=by first | exact .one (by intro y;kernel_rfl) | exact .two (by intro y y;kernel_rfl))
 (eo:autoParam (dE ρ r8 os=o8) bK) (e1:autoParam (v.to ρ=d) bK) (e2:autoParam (dE ρ r9 os'=o3) bK) (ho:autoParam (K3 (fT B.P) f) bK)
 (e:autoParam (A9 hB n f ps ρ ds os r8 aA=Oj (some ⟨q,0,v,os',r9⟩)) bK):
 de B (n+1) f ay o8 λd' o=>d'=d/\o=o3:=by
 subst e1 e2
 exact ET (u:=⟨q,0,v,os',r9⟩) ps ρ ds os r8 aA hB hb hq (λd o (h:d=v.to (ρ++[])/\o=dE (ρ++[]) r9 os')=>by rw[cm]at h;exact h) eo ho e
end
theorem dL {K:Frag} {ρ:cP} (hB:ej X.B) (hK:autoParam (K=fT X.B.P) bR) (h1:autoParam (X.env.scope.kind=.function) bK) (h2:autoParam (X.env.locals=X.L) bR) (h3:autoParam (X.env.globals=mainGlobals) bR) (h4:autoParam (X.env.builtins=builtinsNs) bR):gH ⟨X,K,ρ,ua,[]⟩:=⟨hB.K.trans hK.symm,h1,h2,h3,h4,ng hB,nofun⟩
theorem Qk {K:Frag} {ρ:cP} (hB:ej X.B) (hc:∀ x i,gR x cl=some i->X.env.cells.lookup x=some (el ρ i)/\i < ρ.length) (hK:autoParam (K=fT X.B.P) bR) (h1:autoParam (X.env.scope.kind=.function) bK) (h2:autoParam (X.env.locals=X.L) bR) (h3:autoParam (X.env.globals=mainGlobals) bR) (h4:autoParam (X.env.builtins=builtinsNs) bR):gH ⟨X,K,ρ,ua,cl⟩:=⟨hB.K.trans hK.symm,h1,h2,h3,h4,ng hB,hc⟩
theorem eW {ss:cM} {f:Fl} (ρ:cP) (D D':DS) (aA:List fj) (fd:DF) (O:gH ⟨X,fT X.B.P,ρ,ua,cl⟩) (hq:q) (h1:autoParam (D.to ρ=σ) bK) (h2:autoParam (D'.to ρ=σ') bK) (h3:autoParam (fd.to ρ=f) bK)
 (e:autoParam (qm O ss D aA=some (fd,⟨D',0,[],q⟩)) bK):fx X ss σ f σ':=by
 subst h1 h2 h3
 exact mT O hq e
theorem oV {b:Bool} (ρ:cP) (D D':DS) (aA:List fj) (O:gH ⟨X,fT X.B.P,ρ,ua,cl⟩) (hq:q) (h1:autoParam (D.to ρ=σ) bK) (h2:autoParam (D'.to ρ=σ') bK)
 (e:autoParam (vj O t D aA=some (b,⟨D',0,[],q⟩)) bK):Te X t σ b σ':=by
 subst h1 h2
 exact pF O hq e
theorem tf {d:AV} (ρ:cP) (D D':DS) (aA:List fj) (v:DV) (O:gH ⟨X,fT X.B.P,ρ,ua,cl⟩) (hq:q) (h1:autoParam (D.to ρ=σ) bK) (h2:autoParam (D'.to ρ=σ') bK) (h3:autoParam (v.to ρ=d) bK)
 (e:autoParam (Eg O t D aA=some (v,⟨D',0,[],q⟩)) bK):Ev X t σ d σ':=by
 subst h1 h2 h3
 exact tF O hq e
theorem Fe {ss:cM} {Q:PF} (ρ:cP) (D D':DS) (aA:List fj) (k:Nat) (fd:DF) (O:gH ⟨X,fT X.B.P,ρ,ua,cl⟩) (hq:q) (hQ:∀ f σ',(Bx k λbs=>f=fd.to (ρ++bs)/\σ'=D'.to (ρ++bs))->Q f σ') (h1:autoParam (D.to ρ=σ) bK)
 (e:autoParam (qm O ss D aA=some (fd,⟨D',k,[],q⟩)) bK):dH X ss σ Q:=by
 subst h1;exact⟨λH Φ w=>(t8 O hq e).run H Φ λf σ' z=>w _ _ (hQ _ _ z)⟩
theorem nE {c c':Bool} (h:Te X t σ c σ') (q:c=c'):Te X t σ c' σ':=q▸h
theorem PJ {a6:St} {f:Fl} (h:Ex X st σ f a6) (e:a6=σ'):Ex X st σ f σ':=e▸h
theorem big {n m:Nat} (h:n<=m) (q:autoParam (Nat.ble m 16777216=true) bR):n<=16777216:=dN h (eP q)
variable {X:Cx} {cl:List (Str×Nat)} {σ σ':St} {t:Expr} {st:Stmt}
theorem xo {e5:Env}:execs [st] e5=exec st e5:=by
 rw[execs_cons];exact(bind_congr λf=>by rcases f with _ | _<;>rfl).trans (bind_pure _)
theorem jf {f:Fl} (h:fx X [st] σ f σ'):Ex X st σ f σ':=⟨λH Φ k=>by
 have:=h.run H Φ k
 rw[xo]at this
 exact this⟩
end
section
variable {B:dc} {r8 o8:OL}
noncomputable abbrev FC (x dx:Addr) (t:cK) (p:Int):Addr×AO:=(x,.inst 73 dx [("text",.str t),("place",.int p)])
noncomputable def Ob (k:Nat) (dx:Addr) (t:cK) (p:Int):Nat×DO:=(k,.inst 73 dx [("text",.av (.str t)),("place",.av (.int p))])
theorem wt (hB:ej B) {x dx:Addr} {t D:cK} {p size:Int} (hz:t.length<=16777216) (hD:sl t (some p) (some (p+size))=D):
 de B 1 70 [.ref x,.int size] (FC x dx t p::r8) λd o8=>d=.str D/\o8=FC x dx t (p+D.length)::r8:=by
 subst hD;exact jE ["self","size"] [x] [.slot 0,.av (.int size)] [Ob 0 dx t p] r8 [] (.av (.str (sl t (some p) (some (p+size))))) [Ob 0 dx t (p+(sl t (some p) (some (p+size))).length)] r8 hB (qa (qa trivial hz) (dN (qp t (some p) (some (p+size))) hz))
theorem v9 (hB:ej B) {x dx:Addr} {t:cK}:de B 1 63 [.ref x,.str t] ((x,.inst 73 dx [])::r8) λd o8=>d=.none/\o8=FC x dx t 0::r8:=
 jE ["self","text"] [x] [.slot 0,.av (.str t)] [(0,.inst 73 dx [])] r8 [] (.av .none) [Ob 0 dx t 0] r8 hB trivial
noncomputable def El (n:Int):Bool:=(decide (1<=n)&&decide (n<=8))||(decide (n=11)||((decide (14<=n)&&decide (n<=31))||((decide (127<=n)&&decide (n<=159))||((decide (64976<=n)&&decide (n<=65007))||(decide (n.fmod 65536∈[65534,65535])||(decide (55296<=n)&&decide (n<=57343)))))))
theorem xl (hB:ej B) {c:Int}:gD B 1 84 [.int c] (.bool (El c)):=λo8=>
 jE ["codepoint"] [] [.av (.int c)] [] o8 [] (.av (.bool (El c))) [] o8 hB trivial
noncomputable def j9 (pc:Int) (c:cK) (o9:Int):Int:=if iN 10 c o9= -1 then pc+o9 else o9 - (iN 10 c o9+1)
noncomputable abbrev Rd (st tx er:Addr) (c:cK) (sz o9 pl pc:Int) (b4:AV):FL:=
 [("reportCharacterErrors",.meth 148 st),("newLines",.lst [.int 0]),("dataStream",.ref tx),("chunk",.str c),("chunkSize",.int sz),("chunkOffset",.int o9),("errors",.ref er),("prevNumLines",.int pl),("prevNumCols",.int pc),("_bufferedCharacter",b4)]
noncomputable abbrev wL (st dx tx er:Addr) (c:cK) (sz o9 pl pc:Int) (b4:AV):Addr×AO:=(st,.inst 166 dx (Rd st tx er c sz o9 pl pc b4))
noncomputable def Dw (s:Nat) (tx er:DV) (c:cK) (sz o9 pl pc:Int) (b4:AV):List (Str×DV):=
 [("reportCharacterErrors",.meth 148 s),("newLines",.av (.lst [.int 0])),("dataStream",tx),("chunk",.av (.str c)),("chunkSize",.av (.int sz)),("chunkOffset",.av (.int o9)),("errors",er),("prevNumLines",.av (.int pl)),("prevNumCols",.av (.int pc)),("_bufferedCharacter",.av b4)]
noncomputable abbrev Oq:AV:=.str (sg "invalid-codepoint")
noncomputable def bads (l:cK):cL:=(l.filter λ(c:Nat)=>El (c:Int)).map λy=>Oq
section
variable {st dx tx t5 er:Addr} {c t:cK} {sz o9 pl pc p:Int} {b4:AV} {es:cL}
noncomputable abbrev ul (dx tx er:Addr) (c:cK) (sz o9 pl pc:Int) (b4:AV):cV:=[(0,.inst 166 dx (Dw 0 (.av (.ref tx)) (.av (.ref er)) c sz o9 pl pc b4))]
theorem A7 (hB:ej B) {o:Int}:de B 1 119 [.ref st,.int o] (wL st dx tx er c sz o9 pl pc b4::r8) λd o8=>d=.tup [.int (pl+fN 10 c o),.int (j9 pc c o)]/\o8=wL st dx tx er c sz o9 pl pc b4::r8:=by
 unfold j9
 by_cases h:iN 10 c o= -1
 . exact(cJ h)▸(jE ["self","offset"] [st] [.slot 0,.av (.int o)] (ul dx tx er c sz o9 pl pc b4) r8 [.br true] (.av (.tup [.int (pl+fN 10 c o),.int (pc+o)])) (ul dx tx er c sz o9 pl pc b4) r8 hB (qa trivial (cr h)))
 . exact(cH h)▸(jE ["self","offset"] [st] [.slot 0,.av (.int o)] (ul dx tx er c sz o9 pl pc b4) r8 [.br false] (.av (.tup [.int (pl+fN 10 c o),.int (o - (iN 10 c o+1))])) (ul dx tx er c sz o9 pl pc b4) r8 hB (qa trivial (cc h)))
theorem uP (hB:ej B):de B 2 126 [.ref st] (wL st dx tx er c sz o9 pl pc b4::r8) λd o8=>d=.tup [.int (pl+fN 10 c o9+1),.int (j9 pc c o9)]/\o8=wL st dx tx er c sz o9 pl pc b4::r8:=
 jE ["self"] [st] [.slot 0] (ul dx tx er c sz o9 pl pc b4) r8 [.call 0 (.av (.tup [.int (pl+fN 10 c o9),.int (j9 pc c o9)])) (ul dx tx er c sz o9 pl pc b4) r8 1] (.av (.tup [.int (pl+fN 10 c o9+1),.int (j9 pc c o9)])) (ul dx tx er c sz o9 pl pc b4) r8 hB
  (qa trivial (A7 (r8:=r8) (dx:=dx) (st:=st) (tx:=tx) (er:=er) (c:=c) (sz:=sz) (o9:=o9) (pl:=pl) (pc:=pc) (b4:=b4) hB (o:=o9)))
noncomputable abbrev sO (st dx tx t5 er:Addr) (c:cK) (sz o9 pl pc:Int) (b4:AV) (t:cK) (p:Int) (es:cL) (r8:OL):OL:=wL st dx tx er c sz o9 pl pc b4::FC tx t5 t p::(er,.list es)::r8
noncomputable def ig (k:Nat) (dx t5:Addr) (c:cK) (sz o9 pl pc:Int) (b4:AV) (t:cK) (p:Int) (es:cL) (ps:cR) (r:cV):cV:=
 (k,.inst 166 dx (Dw k (.slot (k+1)) (.slot (k+2)) c sz o9 pl pc b4))::Ob (k+1) t5 t p::(k+2,.list es ps)::r
theorem wy (hB:ej B) (hz:t.length<=16777216) (hD:sl t (some p) (some (p+10240))=[]):
 de B 3 141 [.ref st] (sO st dx tx t5 er c sz o9 pl pc .none t p es r8) λd o8=>d=.bool false/\o8=sO st dx tx t5 er [] 0 0 (pl+fN 10 c sz) (j9 pc c sz) .none t p es r8:=by
 have hr:=(wt (x:=tx) (dx:=t5) (r8:=wL st dx tx er [] 0 0 (pl+fN 10 c sz) (j9 pc c sz) .none::(er,.list es)::r8) hB hz hD).second
 exact BD (k:=0) (v:=.av (.bool false)) (o3:=ig 0 dx t5 [] 0 0 (pl+fN 10 c sz) (j9 pc c sz) .none t (p+((0:Nat):Int)) es [] []) (r9:=r8) ["self","chunkSize"] ["data","lastv"] [st,tx,er] [.slot 0,.av .none] (ig 0 dx t5 c sz o9 pl pc .none t p es [] []) r8
  [.call 0 (.av (.tup [.int (pl+fN 10 c sz),.int (j9 pc c sz)])) (ig 0 dx t5 c sz o9 pl pc .none t p es [] []) r8 1,.call 0 (.av (.str [])) (ig 0 dx t5 [] 0 0 (pl+fN 10 c sz) (j9 pc c sz) .none t (p+((0:Nat):Int)) es [] []) r8 1,.br false]
  hB.K (ng hB) rfl (.dflt rfl (by rw[hB.K];rfl) rfl (λy=>rfl) (λy=>rfl) mW)
  (qa (qa (qa (qa trivial (A7 (r8:=FC tx t5 t p::(er,.list es)::r8) (dx:=dx) (st:=st) (tx:=tx) (er:=er) (c:=c) (sz:=sz) (o9:=o9) (pl:=pl) (pc:=pc) (b4:=.none) hB (o:=sz))) hr) (big (m:=0) (cB _))) ff)
  (λd o (h:d= _/\o=dE ([st,tx,er]++[]) r8 _)=>⟨h.1,h.2.trans (by rw[show p+((0:Nat):Int)=p from Int.add_zero p];kernel_rfl)⟩) (by kernel_rfl) (by kernel_rfl) (by kernel_rfl) (by intro L;kernel_rfl)
end
end
section
variable {B:dc} {r8:OL}
theorem xu (l:cK) {i:Nat} (h:i < l.length):bads (l.take (i+1))=bads (l.take i)++(if El ((l.getD i 0:Nat):Int) then [Oq] else []):=by
 have e:l.getD i 0=l[i]:=by simp[h]
 rw[e,List.take_add_one,bq h];unfold bads;rw[List.filter_append,ci]
 congr 1
 simp only[Option.toList,List.filter_cons,List.filter_nil]
 split<;>rfl
theorem D3 (l:cK) (i:Nat):(bads (l.take i)).length<=l.length:=by
 unfold bads;rw[cq];exact dN (List.length_filter_le _ _) (by rw[List.length_take];exact Nat.min_le_right _ _)
noncomputable abbrev fZ (l:cK):cK:=gQ (gQ l [13,10] [10]) [13] [10]
section
variable {st dx tx t5 er:Addr} {c t D:cK} {sz o9 pl pc p:Int} {es:cL} {z:Nat} {b4:AV}
noncomputable def F9 (dx tx:Addr) (c:cK) (sz o9 pl pc:Int) (b4:AV) (q tO:AO) (l:cL) (ps:cR):cV:=[(0,.ao q),(1,.inst 166 dx (Dw 1 (.av (.ref tx)) (.slot 3) c sz o9 pl pc b4)),(2,.ao tO),(3,.list l ps)]
noncomputable def Oa (D:cK) (g:Nat):cZ:=[("self",some (.slot 1)),("data",some (.av (.str D))),("c",some (.av (.str [g])))]
theorem yn (hB:ej B) {tO:Addr×AO} (hz:es.length+D.length<=16777216):de B 2 148 [.ref st,.str D] (wL st dx tx er c sz o9 pl pc b4::tO::(er,.list es)::r8) λd o8=>d=.none/\o8=wL st dx tx er c sz o9 pl pc b4::tO::(er,.list (es++bads D))::r8:=by
 refine pK ["self","data"] ["c"] (by rw[hB.K];rfl) (by rw[hB.K];kernel_rfl) (.two λy y=>rfl) λL=>?_
 refine⟨_,_,_,eN (rx (N:=D.length) (i3:=λi=>.str [D.getD i 0]) (d:=.str D) (λi=>[("self",some (.ref st)),("data",some (.str D)),("c",if i=0 then none else some (.str [D.getD (i - 1) 0]))]) (λi=>wL st dx tx er c sz o9 pl pc b4::tO::(er,.list (es++bads (D.take i)))::r8) ?_ (λxv=>vg) ?_) fO,rfl,?_⟩
 . show Ev _ _ _ _ ⟨[("self",some (.ref st)),("data",some (.str D)),("c",none)],wL st dx tx er c sz o9 pl pc b4::tO::(er,.list (es++[]))::r8⟩
   rw[cm];exact d9 iV
 . intro i hi a q
   have hc:=xl hB (c:=(D.getD i 0:Nat))
   have hb:(es++bads (D.take i)).length<=16777216:=by have:=D3 D i;rw[bM];omega
   have ec:(if i+1=0 then none else some (AV.str [D.getD (i+1 - 1) 0]))=some (.str [D.getD i 0]):=cH (Nat.succ_ne_zero i)
   rw[ec,xu D hi];refine⟨⟨[("self",some (.ref st)),("data",some (.str D)),("c",some (.str [D.getD i 0]))],(a,.is q)::wL st dx tx er c sz o9 pl pc b4::tO::(er,.list (es++bads (D.take i)))::r8⟩,fX (fW (.skip (.skip .hit))),?_⟩
   clear ec
   by_cases h:El ((D.getD i 0:Nat):Int)=true
   . rw[cJ h,<-bS]
     generalize es++bads (D.take i)=l at hb |-
     generalize D.getD i 0=g at hc h |-
     exact eW [a,st,tO.1,er] ⟨Oa D g,F9 dx tx c sz o9 pl pc b4 (.is q) tO.2 l [],r8⟩
      ⟨Oa D g,F9 dx tx c sz o9 pl pc b4 (.is q) tO.2 l [.av Oq],r8⟩
      [.call 0 (.av (.bool (El g))) (F9 dx tx c sz o9 pl pc b4 (.is q) tO.2 l []) r8 1,.br true] .next (dL hB) (qa (qa (qa trivial (hc (dE [a,st,tO.1,er] r8 (F9 dx tx c sz o9 pl pc b4 (.is q) tO.2 l [])))) h) hb)
   . rw[cH h,cm]
     have h:=bQ.mpr h
     generalize es++bads (D.take i)=l at hb |-
     generalize D.getD i 0=g at hc h |-
     exact eW [a,st,tO.1,er] ⟨Oa D g,F9 dx tx c sz o9 pl pc b4 (.is q) tO.2 l [],r8⟩
      ⟨Oa D g,F9 dx tx c sz o9 pl pc b4 (.is q) tO.2 l [],r8⟩
      [.call 0 (.av (.bool (El g))) (F9 dx tx c sz o9 pl pc b4 (.is q) tO.2 l []) r8 1,.br false] .next (dL hB) (qa (qa trivial (hc (dE [a,st,tO.1,er] r8 (F9 dx tx c sz o9 pl pc b4 (.is q) tO.2 l [])))) h)
 . rw[List.take_length]
end
section
variable {B:dc} {r8:OL} {st dx tx t5 er:Addr} {c t D:cK} {sz o9 pl pc p:Int} {es:cL} {z:Nat} {b4:AV}
theorem fw.full2 {fd:FuncData} {p1 p2:Str} {d1 d2:AV} {T:Addr} {o:Obj} {w:Value} {m:Nat} {k:Value->Value->Option (Array Value)->Sem (cX)} (hd:fd.defaults=.ref T) (ho:B.K.lookup T=some o) (hs:o.data=.seq #[w] m)
 (h6:∀ v1 v2,bindArgs fd ⟨[v1,v2],[]⟩=seqItems? fd.defaults >>= k v1 v2) (h9:∀ v1 v2,k v1 v2 (some #[w])=pure [(p1,v1),(p2,v2)]):fw B fd [p1,p2] [d1,d2] [d1,d2]:=λF s vs hv X core=>by
 obtain⟨v1,v2,rfl,q1,q2⟩:=xO hv;exact⟨_,.cons q1 (.cons q2 .nil),.of_defaults hd (X _ _ ho) hs (h6 _ _) (h9 _ _)⟩
noncomputable def mB (N:Int) (d l:cS):cZ:=[("self",some (.slot 0)),("chunkSize",some (.av (.int N))),("data",d.map .av),("lastv",l.map .av)]
theorem qT:("\r\n":Str)=S [13,10]:=by kernel_rfl
theorem nN:("\n":Str)=S [10]:=by kernel_rfl
theorem vR:("\r":Str)=S [13]:=by kernel_rfl
theorem Ci (hB:ej B) {N:Int} {ay:cL} (ha:ay=[.ref st]/\N=10240\/ay=[.ref st,.int N]) {D1 D0:cK} {b0:AV} {lv:cS} {b4:AV} (hz:t.length<=16777216) (hD:sl t (some p) (some (p+N))=D)
 (h1 : b4=.none/\D≠[]/\D1=D\/b4=.str [13]/\D1=[13]++D)
 (h2 : D1.length<=1/\lv=none/\D0=D1/\b0=.none\/1 < D1.length/\∃ z,qh D1 (-1)=some z/\lv=some (.int z)/\(z≠13/\¬ (55296<=z/\z<=56319)/\D0=D1/\b0=.none\/z=13/\D0=sl D1 none (some (-1))/\b0=.str [13]))
 (hs : D.length<=1048576) (hP:D1.length<=1048576) (he:es.length+D0.length<=16777216) (hr:(gQ D0 [13,10] [10]).length<=1048576) (hr':(gQ (gQ D0 [13,10] [10]) [13] [10]).length<=1048576):
 de B 3 141 ay (sO st dx tx t5 er c sz o9 pl pc b4 t p es r8) λd o8=>d=.bool true/\o8=sO st dx tx t5 er (fZ D0) (fZ D0).length 0 (pl+fN 10 c sz) (j9 pc c sz) b0 t (p+D.length) (es++bads D0) r8:=by
 have hp:=A7 (r8:=FC tx t5 t p::(er,.list es)::r8) (dx:=dx) (st:=st) (tx:=tx) (er:=er) (c:=c) (sz:=sz) (o9:=o9) (pl:=pl) (pc:=pc) (b4:=b4) hB (o:=sz)
 generalize pl+(fN 10 c sz:Int)=A,j9 pc c sz=C at hp |-
 have hrd:=(wt (x:=tx) (dx:=t5) (r8:=wL st dx tx er [] 0 0 A C b4::(er,.list es)::r8) hB hz hD).second
 generalize p+(D.length:Int)=P at hrd |-
 have hce:=yn (r8:=r8) (dx:=dx) (st:=st) (tx:=tx) (er:=er) (c:=[]) (sz:=0) (o9:=0) (pl:=A) (pc:=C) (b4:=b0) (tO:=FC tx t5 t P) hB he
 have aW:D.length<=16777216:=big hs
 have h8:D1.length<=16777216:=big hP
 have hW:D0.length<=1048576:=by
  rcases h2 with⟨_,_,q,_⟩ | ⟨_,_,_,_,⟨_,_,q,_⟩ | ⟨_,q,_⟩⟩
  . exact q▸hP
  . exact q▸hP
  . exact q▸dN (qp _ _ _) hP
 clear hz hD;have tail:∀ L,fx ⟨B,2,L,envOf "HTMLUnicodeInputStream.readChunk" (jo ug) L 141 (.ref 140)⟩ ((fQ ug).drop 1) ⟨[("self",some (.ref st)),("chunkSize",some (.int N)),("data",none),("lastv",none)],sO st dx tx t5 er c sz o9 pl pc b4 t p es r8⟩ (.ret (.bool true)) ⟨[("self",some (.ref st)),("chunkSize",some (.int N)),("data",some (.str (fZ D0))),("lastv",lv)],sO st dx tx t5 er (fZ D0) (fZ D0).length 0 A C b0 t P (es++bads D0) r8⟩:=by
  intro L;refine eN (a6:=⟨[("self",some (.ref st)),("chunkSize",some (.int N)),("data",none),("lastv",none)],sO st dx tx t5 er c sz o9 A C b4 t p es r8⟩) (jf (eW [st,tx,er] ⟨mB N none none,ig 0 dx t5 c sz o9 pl pc b4 t p es [] [],r8⟩ ⟨mB N none none,ig 0 dx t5 c sz o9 A C b4 t p es [] [],r8⟩ [.call 0 (.av (.tup [.int A,.int C])) (ig 0 dx t5 c sz o9 pl pc b4 t p es [] []) r8 1] .next (dL hB) (qa trivial hp))) ?_
  refine eN (a6:=⟨[("self",some (.ref st)),("chunkSize",some (.int N)),("data",none),("lastv",none)],sO st dx tx t5 er [] sz o9 A C b4 t p es r8⟩) (jf (eW [st,tx,er] ⟨mB N none none,ig 0 dx t5 c sz o9 A C b4 t p es [] [],r8⟩ ⟨mB N none none,ig 0 dx t5 [] sz o9 A C b4 t p es [] [],r8⟩ [] .next (dL hB) trivial)) ?_
  refine BB (a6:=⟨[("self",some (.ref st)),("chunkSize",some (.int N)),("data",none),("lastv",none)],sO st dx tx t5 er [] sz o9 A C b4 t p es r8⟩) (o:=.ref st) (a9:=⟨[("self",some (.ref st)),("chunkSize",some (.int N)),("data",none),("lastv",none)],sO st dx tx t5 er [] 0 o9 A C b4 t p es r8⟩) (d9 dP) (tz dP (.skip (by kernel_rfl) (.skip (by kernel_rfl) (.skip (by kernel_rfl) (.skip (by kernel_rfl) .hit)))) .head (by rw[hB.K];kernel_rfl)) ?_
  refine mS (a6:=⟨[("self",some (.ref st)),("chunkSize",some (.int N)),("data",none),("lastv",none)],sO st dx tx t5 er [] 0 0 A C b4 t p es r8⟩) (jf (eW [st,tx,er] ⟨mB N none none,ig 0 dx t5 [] 0 o9 A C b4 t p es [] [],r8⟩ ⟨mB N none none,ig 0 dx t5 [] 0 0 A C b4 t p es [] [],r8⟩ [] .next (dL hB) trivial)) ?_
  refine mS (a6:=⟨[("self",some (.ref st)),("chunkSize",some (.int N)),("data",some (.str D)),("lastv",none)],sO st dx tx t5 er [] 0 0 A C b4 t P es r8⟩) (jf (eW [st,tx,er] ⟨mB N none none,ig 0 dx t5 [] 0 0 A C b4 t p es [] [],r8⟩ ⟨mB N (some (.str D)) none,ig 0 dx t5 [] 0 0 A C b4 t P es [] [],r8⟩ [.call 0 (.av (.str D)) (ig 0 dx t5 [] 0 0 A C b4 t P es [] []) r8 1] .next (dL hB) (qa trivial hrd))) ?_
  refine mS (a6:=⟨[("self",some (.ref st)),("chunkSize",some (.int N)),("data",some (.str D1)),("lastv",none)],sO st dx tx t5 er [] 0 0 A C .none t P es r8⟩) (jf ?_) ?_
  . clear h2 hce hrd hp
    rcases h1 with⟨rfl,h0,rfl⟩ | ⟨rfl,rfl⟩
    . exact eW [st,tx,er] ⟨mB N (some (.str D1)) none,ig 0 dx t5 [] 0 0 A C .none t P es [] [],r8⟩ ⟨mB N (some (.str D1)) none,ig 0 dx t5 [] 0 0 A C .none t P es [] [],r8⟩ [.br true] .next (dL hB) (qa (qa trivial aW) (show(!decide (D1=[]))=true by rw[cc h0];rfl))
    . exact eW [st,tx,er] ⟨mB N (some (.str D)) none,ig 0 dx t5 [] 0 0 A C (.str [13]) t P es [] [],r8⟩ ⟨mB N (some (.str ([13]++D))) none,ig 0 dx t5 [] 0 0 A C .none t P es [] [],r8⟩ [.br true] .next (dL hB) (qa (qa (qa trivial (big (cB 1))) tt) (show([13]:cK).length+D.length<=16777216 from dN (Nat.le_of_eq (bM (as:=[13])).symm) h8))
  refine mS (a6:=⟨[("self",some (.ref st)),("chunkSize",some (.int N)),("data",some (.str D0)),("lastv",lv)],sO st dx tx t5 er [] 0 0 A C b0 t P es r8⟩) (jf ?_) ?_
  . clear h1 hce hrd hp
    rcases h2 with⟨h2,rfl,rfl,rfl⟩ | ⟨h2,z,hl,rfl,⟨h13,hsur,rfl,rfl⟩ | ⟨rfl,rfl,rfl⟩⟩
    . exact eW [st,tx,er] ⟨mB N (some (.str D0)) none,ig 0 dx t5 [] 0 0 A C .none t P es [] [],r8⟩ ⟨mB N (some (.str D0)) none,ig 0 dx t5 [] 0 0 A C .none t P es [] [],r8⟩ [.br false] .next (dL hB) (qa (qa trivial h8) (cc (show ¬ (1:Int) < (D0.length:Int)by omega)))
    . have e1:(decide ((55296:Int)<=(z:Int))&&decide ((z:Int)<=56319))=false:=by
       by_cases q:55296<=(z:Int)
       . rw[cr q,cc (show ¬ (z:Int)<=56319 by omega)];rfl
       . rw[cc q];rfl
      exact eW [st,tx,er] ⟨mB N (some (.str D0)) none,ig 0 dx t5 [] 0 0 A C .none t P es [] [],r8⟩ ⟨mB N (some (.str D0)) (some (.int z)),ig 0 dx t5 [] 0 0 A C .none t P es [] [],r8⟩ [.br true,.ch z,.br false,.br false] .next (dL hB) (qa (qa (qa (qa (qa (qa trivial h8) (cr (show(1:Int) < (D0.length:Int)by exact Int.ofNat_le.mpr ‹_›))) hl) h8) (cc (show ¬ (z:Int)=13 by omega))) e1)
    . exact eW [st,tx,er] ⟨mB N (some (.str D1)) none,ig 0 dx t5 [] 0 0 A C .none t P es [] [],r8⟩ ⟨mB N (some (.str (sl D1 none (some (-1))))) (some (.int (13:Nat))),ig 0 dx t5 [] 0 0 A C (.str [13]) t P es [] [],r8⟩ [.br true,.ch 13,.br true,.ch 13] .next (dL hB) (qa (qa (qa (qa (qa (qa (qa (qa trivial h8) (cr (show(1:Int) < (D1.length:Int)by exact Int.ofNat_le.mpr ‹_›))) hl) h8) tt) hl) h8) h8)
  clear h1 h2 hrd hp
  induction lv using Option.casesOn with
  | none=>
   refine mS (a6:=⟨[("self",some (.ref st)),("chunkSize",some (.int N)),("data",some (.str D0)),("lastv",none)],sO st dx tx t5 er [] 0 0 A C b0 t P (es++bads D0) r8⟩) (jf (eW [st,tx,er] ⟨mB N (some (.str D0)) none,ig 0 dx t5 [] 0 0 A C b0 t P es [] [],r8⟩ ⟨mB N (some (.str D0)) none,ig 0 dx t5 [] 0 0 A C b0 t P (es++bads D0) [] [],r8⟩ [.call 0 (.av .none) (ig 0 dx t5 [] 0 0 A C b0 t P (es++bads D0) [] []) r8 2] .next (dL hB) (qa trivial hce))) ?_
   clear hce;refine ow qT nN qf (.skip (.skip .hit)) hW ?_
   refine ow vR nN qf (.skip (.skip .hit)) hr ?_
   have hn:(fZ D0).length<=16777216:=big hr'
   exact HN (eW [st,tx,er] ⟨mB N (some (.str (fZ D0))) none,ig 0 dx t5 [] 0 0 A C b0 t P (es++bads D0) [] [],r8⟩ ⟨mB N (some (.str (fZ D0))) none,ig 0 dx t5 (fZ D0) (fZ D0).length 0 A C b0 t P (es++bads D0) [] [],r8⟩ [] (.ret (.av (.bool true))) (dL hB) (qa trivial hn))
  | some v=>
   refine mS (a6:=⟨[("self",some (.ref st)),("chunkSize",some (.int N)),("data",some (.str D0)),("lastv",some v)],sO st dx tx t5 er [] 0 0 A C b0 t P (es++bads D0) r8⟩) (jf (eW [st,tx,er] ⟨mB N (some (.str D0)) (some v),ig 0 dx t5 [] 0 0 A C b0 t P es [] [],r8⟩ ⟨mB N (some (.str D0)) (some v),ig 0 dx t5 [] 0 0 A C b0 t P (es++bads D0) [] [],r8⟩ [.call 0 (.av .none) (ig 0 dx t5 [] 0 0 A C b0 t P (es++bads D0) [] []) r8 2] .next (dL hB) (qa trivial hce))) ?_
   clear hce;refine ow qT nN qf (.skip (.skip .hit)) hW ?_
   refine ow vR nN qf (.skip (.skip .hit)) hr ?_
   have hn:(fZ D0).length<=16777216:=big hr'
   exact HN (eW [st,tx,er] ⟨mB N (some (.str (fZ D0))) (some v),ig 0 dx t5 [] 0 0 A C b0 t P (es++bads D0) [] [],r8⟩ ⟨mB N (some (.str (fZ D0))) (some v),ig 0 dx t5 (fZ D0) (fZ D0).length 0 A C b0 t P (es++bads D0) [] [],r8⟩ [] (.ret (.av (.bool true))) (dL hB) (qa trivial hn))
 rcases ha with⟨rfl,rfl⟩ | rfl
 . refine pK ["self","chunkSize"] ["data","lastv"] (by rw[hB.K];rfl) (by rw[hB.K];kernel_rfl) (.dflt rfl (by rw[hB.K];rfl) rfl (λy=>rfl) (λy=>rfl) mW) λL=>?_
   exact⟨.ret (.bool true),[("self",some (.ref st)),("chunkSize",some (.int 10240)),("data",some (.str (fZ D0))),("lastv",lv)],sO st dx tx t5 er (fZ D0) (fZ D0).length 0 A C b0 t P (es++bads D0) r8,eN (a6:=⟨[("self",some (.ref st)),("chunkSize",some (.int 10240)),("data",none),("lastv",none)],sO st dx tx t5 er c sz o9 pl pc b4 t p es r8⟩) (jf (eW [st,tx,er] ⟨[("self",some (.slot 0)),("chunkSize",some (.av .none)),("data",none),("lastv",none)],ig 0 dx t5 c sz o9 pl pc b4 t p es [] [],r8⟩ ⟨mB 10240 none none,ig 0 dx t5 c sz o9 pl pc b4 t p es [] [],r8⟩ [] .next (dL hB) trivial)) (tail L),rfl,rfl⟩
 . refine pK ["self","chunkSize"] ["data","lastv"] (by rw[hB.K];rfl) (by rw[hB.K];kernel_rfl) (.full2 rfl (by rw[hB.K];rfl) rfl (λy y=>rfl) (λy y=>rfl)) λL=>?_
   exact⟨.ret (.bool true),[("self",some (.ref st)),("chunkSize",some (.int N)),("data",some (.str (fZ D0))),("lastv",lv)],sO st dx tx t5 er (fZ D0) (fZ D0).length 0 A C b0 t P (es++bads D0) r8,eN (a6:=⟨[("self",some (.ref st)),("chunkSize",some (.int N)),("data",none),("lastv",none)],sO st dx tx t5 er c sz o9 pl pc b4 t p es r8⟩) (jf (eW [st,tx,er] ⟨[("self",some (.slot 0)),("chunkSize",some (.av (.int N))),("data",none),("lastv",none)],ig 0 dx t5 c sz o9 pl pc b4 t p es [] [],r8⟩ ⟨mB N none none,ig 0 dx t5 c sz o9 pl pc b4 t p es [] [],r8⟩ [] .next (dL hB) trivial)) (tail L),rfl,rfl⟩
end
end
section
variable {B:dc} {r8:OL}
section
variable {st dx tx t5 er tk k9:Addr} {c c' t D:cK} {sz o9 pl pc p p' pl' pc':Int} {es e7:cL} {z:Nat} {b4 bb:AV}
theorem J7 (hB:ej B) {v:AV}:de B 3 112 [v,.str t] r8 λd o8=>∃ tx t5,d=.ref tx/\o8=FC tx t5 t 0::r8:=by
 refine pU ["self","source"] ["stream"] (by rw[hB.K];rfl) (by rw[hB.K];kernel_rfl) (.two λy y=>rfl) λL=>?_
 refine yI (m:=1) (n':=1) (gj (v:=.ref 73) (by refine hB.K▸?_;kernel_rfl)) (gZ (by refine hB.K▸?_;kernel_rfl)) (dy (d9 iV) dK) (by refine hB.K▸?_;kernel_rfl) (by refine hB.K▸?_;kernel_rfl) (by refine hB.K▸?_;kernel_rfl) (λx dx=>v9 hB) rfl (by decide) ?_
 rintro tx t5 _ _ ⟨rfl,rfl⟩;exact⟨rfl,_,.skip (.skip .hit),eu (gT (gS (d9 qf))) ⟨_,rfl,_,_,rfl,rfl⟩⟩
theorem ur (hB:ej B) {i:Nat} (hi:i < c.length) (hz:c.length<=16777216):de B 4 133 [.ref st] (sO st dx tx t5 er c c.length i pl pc b4 t p es r8) λd o=>d=.str [c[i]]/\o=sO st dx tx t5 er c c.length (i+1) pl pc b4 t p es r8:=
 jE ["self"] [st,tx,er] [.slot 0] (ig 0 dx t5 c c.length i pl pc b4 t p es [] []) r8 [.br false,.ch c[i]] (.av (.str [c[i]])) (ig 0 dx t5 c c.length (i+1) pl pc b4 t p es [] []) r8 hB
  (qa (qa (qa trivial (cc (show ¬ (c.length:Int)<=(i:Int)by omega))) (f9 hi)) hz)
theorem qt (hB:ej B) (ho:sz<=o9) {c':cK} {sz' off' pl' pc' p':Int} {bb:AV} {e7:cL} (hr:de B 3 141 [.ref st] (sO st dx tx t5 er c sz o9 pl pc b4 t p es r8) λd o=>d=.bool false/\o=sO st dx tx t5 er c' sz' off' pl' pc' bb t p' e7 r8):
 de B 4 133 [.ref st] (sO st dx tx t5 er c sz o9 pl pc b4 t p es r8) λd o=>d=.none/\o=sO st dx tx t5 er c' sz' off' pl' pc' bb t p' e7 r8:=
 jE ["self"] [st,tx,er] [.slot 0] (ig 0 dx t5 c sz o9 pl pc b4 t p es [] []) r8 [.br true,.call 0 (.av (.bool false)) (ig 0 dx t5 c' sz' off' pl' pc' bb t p' e7 [] []) r8 3,.br false] (.av .none) (ig 0 dx t5 c' sz' off' pl' pc' bb t p' e7 [] []) r8 hB
  (qa (qa (qa trivial (cr ho)) hr) ff)
theorem vC (hB:ej B) (ho:sz<=o9) (hz:c'.length<=16777216) (h0:0 < c'.length) (hr:de B 3 141 [.ref st] (sO st dx tx t5 er c sz o9 pl pc b4 t p es r8) λd o=>d=.bool true/\o=sO st dx tx t5 er c' c'.length 0 pl' pc' bb t p' e7 r8):
 de B 4 133 [.ref st] (sO st dx tx t5 er c sz o9 pl pc b4 t p es r8) λd o=>d=.str [c'[0]]/\o=sO st dx tx t5 er c' c'.length 1 pl' pc' bb t p' e7 r8:=
 jE ["self"] [st,tx,er] [.slot 0] (ig 0 dx t5 c sz o9 pl pc b4 t p es [] []) r8 [.br true,.call 0 (.av (.bool true)) (ig 0 dx t5 c' c'.length 0 pl' pc' bb t p' e7 [] []) r8 3,.br true,.ch c'[0]] (.av (.str [c'[0]])) (ig 0 dx t5 c' c'.length 1 pl' pc' bb t p' e7 [] []) r8 hB
  (qa (qa (qa (qa (qa trivial (cr ho)) hr) tt) (f9 (k:=0) h0)) hz)
theorem BS (hB:ej B) {i:Nat} (hi:i < c.length) (hz:c.length<=16777216):de B 1 163 [.ref st,.str [c[i]]] (sO st dx tx t5 er c c.length (i+1:Nat) pl pc b4 t p es r8) λd o=>d=.none/\o=sO st dx tx t5 er c c.length i pl pc b4 t p es r8:=by
 have e:((i+1:Nat):Int) - 1=(i:Nat):=by simp+arith
 have hl:qh c (((i+1:Nat):Int) - 1)=some c[i]:=by refine e▸?_;exact f9 hi
 refine(show(sO st dx tx t5 er c c.length i pl pc b4 t p es r8)=sO st dx tx t5 er c c.length (((i+1:Nat):Int) - 1) pl pc b4 t p es r8 by rw[e])▸?_
 exact jE ["self","char"] [st,tx,er] [.slot 0,.av (.str [c[i]])] (ig 0 dx t5 c c.length (i+1:Nat) pl pc b4 t p es [] []) r8 [.br false,.ch c[i],.br true] (.av .none) (ig 0 dx t5 c c.length (((i+1:Nat):Int) - 1) pl pc b4 t p es [] []) r8 hB
  (qa (qa (qa (qa trivial (cc (show ¬ ((i+1:Nat):Int)=0 by omega))) hl) hz) (cr (rfl:[c[i]]=[c[i]])))
theorem tu (hB:ej B) {v:Addr}:de B 1 163 [.ref v,.none] r8 λd o=>d=.none/\o=r8:=
 jE ["self","char"] [] [.av (.ref v),.av .none] [] r8 [] (.av .none) [] r8 hB trivial
noncomputable abbrev N8 (st tx:Addr):FL:=[("reportCharacterErrors",.meth 148 st),("newLines",.lst [.int 0]),("dataStream",.ref tx)]
theorem DT (hB:ej B):de B 1 105 [.ref st] ((st,.inst 166 dx (N8 st tx))::r8) λd o8=>d=.none/\∃ er,o8=wL st dx tx er [] 0 0 0 0 .none::(er,.list [])::r8:=
 BD (k:=1) (v:=.av .none) (o3:=[(0,.inst 166 dx (Dw 0 (.av (.ref tx)) (.slot 1) [] 0 0 0 0 .none)),(1,.list [] [])]) (r9:=r8) ["self"] [] [st] [.slot 0] [(0,.inst 166 dx [("reportCharacterErrors",.meth 148 0),("newLines",.av (.lst [.int 0])),("dataStream",.av (.ref tx))])] r8 [] hB.K (ng hB) rfl (.one λy=>rfl) (hq:=qa trivial (tC 1 ⟨[("self",some (.slot 0))],[(0,.inst 166 dx [("reportCharacterErrors",.meth 148 0),("newLines",.av (.lst [.int 0])),("dataStream",.av (.ref tx)),("chunk",.av (.str [])),("chunkSize",.av (.int 0)),("chunkOffset",.av (.int 0))])],r8⟩))
  (λd o ⟨er,h1,h2⟩=>⟨h1,er,h2⟩) (by kernel_rfl) (by kernel_rfl) (by kernel_rfl) (λL=>by kernel_rfl)
end
end
section
variable {B:dc} {r8:OL}
section
variable {st dx tx t5 er tk k9:Addr} {t:cK}
theorem B0 (hB:ej B) {tO:Addr×AO}:de B 1 105 [.ref st] (tO::(st,.inst 166 dx (N8 st tx))::r8) λd o8=>d=.none/\∃ er,o8=wL st dx tx er [] 0 0 0 0 .none::tO::(er,.list [])::r8:=by
 refine(DT (r8:=tO::r8) hB).perm (.swap _ _ _) ?_
 rintro d q ⟨h1,er,rfl⟩;exact⟨_,.cons _ (.swap _ _ _),h1,er,rfl⟩
theorem E1 (hB:ej B):de B 4 98 [.ref st,.str t] ((st,.inst 166 dx [])::r8) λd o8=>d=.none/\∃ tx t5 er,o8=sO st dx tx t5 er [] 0 0 0 0 .none t 0 [] r8:=by
 refine EF ["self","source"] [] (by rw[hB.K];rfl) (by rw[hB.K];kernel_rfl) (.two λy y=>rfl) λL=>?_
 refine eH (a6:=⟨[("self",some (.ref st)),("source",some (.str t))],(st,.inst 166 dx [("reportCharacterErrors",.meth 148 st)])::r8⟩) (jf (eW [st] ⟨[("self",some (.slot 0)),("source",some (.av (.str t)))],[(0,.inst 166 dx [])],r8⟩ ⟨[("self",some (.slot 0)),("source",some (.av (.str t)))],[(0,.inst 166 dx [("reportCharacterErrors",.meth 148 0)])],r8⟩ [] .next (dL hB) trivial)) ?_
 refine eH (Ht (rq (dy iP dK) (by decide)) (d9 dP) (tz dP (.skip (by kernel_rfl) .new) .head (by refine hB.K▸?_;kernel_rfl))) ?_
 refine rS (wB (d9 dP) (vu (g:=112) dP (by kernel_rfl) (by refine hB.K▸?_;kernel_rfl)) (gZ (by refine hB.K▸?_;kernel_rfl)) (dy (d9 iV) dK) (J7 hB) (eP rfl)) ?_
 intro y y z9;refine dW z9 ?_;clear z9;rintro _ ⟨tx,t5,rfl,rfl⟩ rfl
 refine' ⟨.ref st,_,_,d9 dP,tz iV (.skip (by kernel_rfl) (.skip (by kernel_rfl) .new)) (.tail .head) (by refine hB.K▸?_;kernel_rfl),?_⟩
 refine zt (wB (d9 dP) (vu (g:=105) iV (by kernel_rfl) (by refine hB.K▸?_;kernel_rfl)) (gZ (by refine hB.K▸?_;kernel_rfl)) dK (B0 hB) (eP rfl)) ?_
 intro y y z9;refine dW z9 ?_;clear z9;rintro _ ⟨rfl,er,rfl⟩ rfl
 exact j5 ⟨rfl,rfl,tx,t5,er,rfl⟩
end
structure SS where
 c:cK
 i:Nat
 pl:Int
 pc:Int
 buf:AV
 p:Int
 es:cL
noncomputable abbrev oS (st dx tx t5 er:Addr) (t:cK) (q:SS) (r8:OL):OL:=sO st dx tx t5 er q.c q.c.length q.i q.pl q.pc q.buf t q.p q.es r8
noncomputable abbrev wD:SS:=⟨[],0,0,0,.none,0,[]⟩
section
variable {st dx tx t5 er tk k9 qa lf:Addr} {t:cK} {c1:AV} {f:Addr}
noncomputable abbrev QY (st f tk lf qa:Addr) (c1:AV):FL:=[("stream",.ref st),("parser",.none),("escapeFlag",.bool false),("lastFourChars",.ref lf),("state",.meth f tk),("escape",.bool false),("currentToken",c1),("tokenQueue",.ref qa)]
noncomputable abbrev Pn (st f tk k9 lf qa:Addr) (c1:AV):Addr×AO:=(tk,.inst 762 k9 (QY st f tk lf qa c1))
noncomputable abbrev Cz (st f tk lf:Addr) (c1:AV):FL:=[("stream",.ref st),("parser",.none),("escapeFlag",.bool false),("lastFourChars",.ref lf),("state",.meth f tk),("escape",.bool false),("currentToken",c1)]
noncomputable abbrev Kl (k:Nat) (dx t5:Addr) (t:cK) (q:SS) (r:cV):cV:=ig k dx t5 q.c q.c.length q.i q.pl q.pc q.buf t q.p q.es [] r
theorem Ec (hB:ej B):de B 6 261 [.ref tk,.str t] ((tk,.inst 762 k9 [])::r8) λd o=>d=.none/\∃ st dx tx t5 er lf,o=oS st dx tx t5 er t wD ((tk,.inst 762 k9 (Cz st 304 tk lf .none))::r8):=by
 refine de.dropH ?_
 refine EF ["self","stream","parser"] [] (by rw[hB.K];rfl) (by rw[hB.K];kernel_rfl) (.dflt3 rfl (by rw[hB.K];rfl) rfl (λy y=>rfl) (λy y=>rfl) mW) λL=>?_
 refine rS (Hg (m:=4) (n':=4) (gj (v:=.ref 166) (by refine hB.K▸?_;kernel_rfl)) (gZ (by refine hB.K▸?_;kernel_rfl)) (dy (d9 iV) dK) (by refine hB.K▸?_;kernel_rfl) (by refine hB.K▸?_;kernel_rfl) (by refine hB.K▸?_;kernel_rfl) (λx dx=>E1 hB) rfl (by decide) (λy y y y h=>h.1)) ?_
 intro y y z9;refine kI z9 ?_;clear z9;rintro st dx _ ⟨-,tx,t5,er,rfl⟩ rfl rfl
 refine' ⟨.ref tk,⟨[("self",some (.ref tk)),("stream",some (.str t)),("parser",some .none)],_⟩,⟨[("self",some (.ref tk)),("stream",some (.str t)),("parser",some .none)],oS st dx tx t5 er t wD ((tk,.inst 762 k9 [("stream",.ref st)])::r8)⟩,d9 dP,tz Bu .new (.tail (.tail (.tail .head))) (by refine hB.K▸?_;kernel_rfl),?_⟩
 refine Fe [st,tx,er,tk] ⟨[("self",some (.slot 3)),("stream",some (.av (.str t))),("parser",some (.av .none))],Kl 0 dx t5 t wD [(3,.inst 762 k9 [("stream",.slot 0)])],r8⟩
  ⟨[("self",some (.slot 3)),("stream",some (.av (.str t))),("parser",some (.av .none))],Kl 0 dx t5 t wD [(3,.inst 762 k9 [("stream",.slot 0),("parser",.av .none),("escapeFlag",.av (.bool false)),("lastFourChars",.slot 4),("state",.meth 304 3),("escape",.av (.bool false)),("currentToken",.av .none)]),(4,.list [] [])],r8⟩ [] 1 .next (dL hB) (qa trivial (tC 4 ⟨[("self",some (.slot 3)),("stream",some (.av (.str t))),("parser",some (.av .none))],Kl 0 dx t5 t wD [(3,.inst 762 k9 [("stream",.slot 0),("parser",.av .none),("escapeFlag",.av (.bool false))])],r8⟩)) ?_
 intro y y z9;refine dW z9 ?_;clear z9;rintro lf rfl rfl
 exact⟨rfl,oS st dx tx t5 er t wD ((tk,.inst 762 k9 (Cz st 304 tk lf .none))::r8),[(lf,AO.list [])],List.Perm.append_left [_,_,_,_] (bA (l₁:=[(_,AO.list [])])),rfl,st,dx,tx,t5,er,lf,rfl⟩
end
end
section
variable {i k:Nat} {q u:Nat->Bool} {c r:cK} {q':SS}
section
variable {X:Cx} {σ:St} {Q:PF}
theorem xk {t:Expr} {b3:cM} {pi:Pos} (Inv:Nat->St->Prop) {n:Nat} (h0:Inv n σ)
 (step:∀ k σ,Inv k σ->∃ a6,Te X t σ true a6/\dH X b3 a6 λf a9=>(f=.next/\∃ m,m < k/\Inv m a9)\/(f=.brk/\Q .next a9)):xV X (.While t b3 [] pi) σ Q:=⟨λy Φ h=>mz Inv n h0 λk σ r=>by
 refine dW (step k σ r) ?_;rintro a6 ht hb
 exact ht.run _ _ ⟨λy=>hb.run _ (lN (λa9=>∃ m,m < k/\Inv m a9) Φ) (λf a9 w=>by
  rcases w with⟨e,i⟩ | ⟨e,q⟩
  . subst e;exact i
  . subst e;exact h _ _ q),λq=>nomatch q⟩⟩
end
variable {B:dc} {r8:OL}
theorem jD.count {X:Cx} {t:Expr} {b3:cM} (F:Nat->St):∀ {m k:Nat},(∀ j,k<=j->j < k+m->Te X t (F j) true (F j)/\fx X b3 (F j) .next (F (j+1)))->Te X t (F (k+m)) false (F (k+m))->jD X t b3 m (F k) (F (k+m))
 | 0,k,_,e=>.done e
 | m+1,k,h,e=>by
  obtain⟨h1,h2⟩:=h k (cB _) (by omega);have r:=jD.count F (m:=m) (k:=k+1) (λj a b=>h j (by omega) (by omega)) (by exact(show k+1+m=k+(m+1)from by omega)▸(e))
  rw[show k+1+m=k+(m+1)from by omega]at r
  exact .step h1 h2 r
noncomputable def dn (q:Nat->Bool) (c:cK) (i:Nat):Nat:=i+((c.drop i).takeWhile q).length
theorem fy (q:Nat->Bool) (c:cK) (h:i<=c.length):dn q c i<=c.length:=by
 unfold dn;have:((c.drop i).takeWhile q).length<=(c.drop i).length:=(bt _).length_le
 rw[c8]at this
 omega
theorem Ag:dn q c c.length=c.length:=by
 unfold dn;simp
def Fq (B:dc) (c5:AV) (m:Nat->Bool):Prop:=∀ {n L H σ a b c} {Φ:PV},(a,AV.str [c])∈H->(b,c5)∈H->(∀ v,Φ v (.bool (m c)) σ)->WV B n L (compareOp .In a b) H σ Φ
theorem Eb {x:cK}:Fq B (.str x) (λc=>decide (c∈x)):=λma mb h=>EA ma mb h
theorem iz {l:cL} {ms:d8} (e:dT l=some ms):Fq B (.tup l) (λc=>decide ([c]∈ms)):=λma mb h=>EK ma mb e h
theorem B9:∀ {l:cK} {i:Nat} (h:i < (l.takeWhile u).length),∃ hi:i < l.length,u l[i]=true
 | [],_,h=>cI h (Nat.not_lt_zero _)
 | a ::l,i,h=>by
  rw[bF]at h
  by_cases e:u a=true
  . rw[cJ e]at h
    cases i with
    | zero=>exact⟨Nat.succ_pos _,e⟩
    | succ i=>
     obtain⟨hi,q⟩:=B9 (l:=l) (i:=i) (by simpa using h)
     exact⟨Nat.succ_lt_succ hi,q⟩
  . rw[cH e]at h;exact cI h (Nat.not_lt_zero _)
theorem AS:∀ {l:cK} (h:(l.takeWhile u).length < l.length),u l[(l.takeWhile u).length]=false
 | [],h=>cI h (Nat.lt_irrefl _)
 | a ::l,h=>by
  by_cases e:u a=true
  . simp only[bF,cJ e,bY]at h |-
    simpa using AS (l:=l) (by omega)
  . simp only[bF,cH e,List.length_nil]at h |-
    simpa using e
theorem rB {T:cK} {j:Nat} (h1:k<=j) (h2:j < dn u T k) (h:k<=T.length):∃ hj:j < T.length,u T[j]=true:=by
 unfold dn at h2;obtain⟨hi,q⟩:=B9 (u:=u) (l:=T.drop k) (i:=j - k) (by omega)
 rw[c8]at hi
 refine⟨by omega,?_⟩
 rw[List.getElem_drop]at q
 simpa only[show k+(j - k)=j from by omega]using q
theorem pX {T:cK} (h:dn u T k < T.length):u (T[dn u T k]'h)=false:=by
 have:=AS (u:=u) (l:=T.drop k) (by unfold dn at h;rw[c8];omega)
 rw[List.getElem_drop]at this
 exact this
variable {st dx tx t5 er:Addr} {t:cK}
def Reads (B:dc) (st dx tx t5 er:Addr) (t:cK) (b:Bool) (q q':SS):Prop:=
 ∀ r8,de B 3 141 [.ref st] (oS st dx tx t5 er t q r8) λd o=>d=.bool b/\o=oS st dx tx t5 er t q' r8
inductive io (B:dc) (st dx tx t5 er:Addr) (t:cK) (u:Nat->Bool):Nat->SS->cK->SS->Prop
 | stop {q:SS} {e:Nat}:q.i<=q.c.length->q.c.length<=1048576->dn u q.c q.i=e->e < q.c.length->io B st dx tx t5 er t u 0 q (sl q.c (some q.i) (some e)) { q with i:=e }
 | last {q q':SS}:q.i<=q.c.length->q.c.length<=1048576->dn u q.c q.i=q.c.length->Reads B st dx tx t5 er t false q q'->io B st dx tx t5 er t u 0 q (sl q.c (some q.i) none) q'
 | more {q q5 q':SS} {k:Nat} {r:cK}:q.i<=q.c.length->q.c.length<=1048576->dn u q.c q.i=q.c.length->Reads B st dx tx t5 er t true q q5->io B st dx tx t5 er t u k q5 r q'->io B st dx tx t5 er t u (k+1) q (sl q.c (some q.i) none++r) q'
variable {c5:AV} {m:Nat->Bool}
theorem io.here {q:SS} (h:io B st dx tx t5 er t u k q r q'):q.i<=q.c.length/\q.c.length<=1048576:=by cases h<;>exact⟨‹_›,‹_›⟩
theorem io.ends {q:SS} (h:io B st dx tx t5 er t u k q r q') (e:dn u q.c q.i=q.c.length):∃ b q5,Reads B st dx tx t5 er t b q q5/\
 ((b=false/\r=sl q.c (some q.i) none/\q5=q')\/(b=true/\∃ k6 r7,k6 < k/\r=sl q.c (some q.i) none++r7/\io B st dx tx t5 er t u k6 q5 r7 q')):=by
 cases h with
 | stop _ _ he aG=>rw[e]at he;exact cI he (Nat.ne_of_gt aG)
 | last _ _ _ hr=>exact⟨_,_,hr,.inl ⟨rfl,rfl,rfl⟩⟩
 | more _ _ _ hr hu=>exact⟨_,_,hr,.inr ⟨rfl,_,_,Nat.lt_succ_self _,rfl,hu⟩⟩
theorem io.stops {q:SS} (h:io B st dx tx t5 er t u k q r q') {j:Nat} (e:dn u q.c q.i=j) (hj:j < q.c.length):r=sl q.c (some q.i) (some j)/\q'={ q with i:=j }:=by
 cases h with
 | stop _ _ he aG=>cases he.symm.trans e;exact⟨rfl,rfl⟩
 | last _ _ he _=>exact cI (he.symm.trans e) (Nat.ne_of_gt hj)
 | more _ _ he _ _=>exact cI (he.symm.trans e) (Nat.ne_of_gt hj)
theorem fw.full3 {fd:FuncData} {p1 p2 p3:Str} {d1 d2 d3:AV} {T:Addr} {o:Obj} {w:Value} {m:Nat} {k:Value->Value->Value->Option (Array Value)->Sem (cX)} (hd:fd.defaults=.ref T) (ho:B.K.lookup T=some o) (hs:o.data=.seq #[w] m)
 (h6:∀ v1 v2 v3,bindArgs fd ⟨[v1,v2,v3],[]⟩=seqItems? fd.defaults >>= k v1 v2 v3) (h9:∀ v1 v2 v3,k v1 v2 v3 (some #[w])=pure [(p1,v1),(p2,v2),(p3,v3)]):fw B fd [p1,p2,p3] [d1,d2,d3] [d1,d2,d3]:=λF s vs hv X core=>by
 obtain⟨v1,v2,v3,rfl,q1,q2,q3⟩:=JO hv;exact⟨_,.cons q1 (.cons q2 (.cons q3 .nil)),.of_defaults hd (X _ _ ho) hs (h6 _ _ _) (h9 _ _ _)⟩
noncomputable abbrev vm (st:Addr) (c5:AV) (og:Bool) (a:Addr) (en:cS):LL:=[("self",some (.ref st)),("characters",some c5),("opposite",some (.bool og)),("rv",some (.ref a)),("end",en),("r",none)]
theorem EI {c5:AV} {m:Nat->Bool} (hm:Fq B c5 m) (c:Nat) (σ:St) (X:Cx) (e:X.B=B):fY X .In (.str [c]) c5 (m c) σ:=by
 subst e;exact⟨λy y y y ma mb h=>hm ma mb h⟩
noncomputable def nc (dx t5:Addr) (t:cK) (c5:AV) (og:Bool) (en r:cS) (q:SS) (l:cL) (ps:cR) (r8:OL):DS:=
 ⟨[("self",some (.slot 0)),("characters",some (.av c5)),("opposite",some (.av (.bool og))),("rv",some (.slot 3)),("end",en.map .av),("r",r.map .av)],(3,.list l ps)::Kl 0 dx t5 t q [],r8⟩
theorem pZ (hB:ej B) (hm:Fq B c5 m) {og:Bool} {ay:cL} (ha:ay=[.ref st,c5]/\og=false\/ay=[.ref st,c5,.bool og]) {k5:Nat} {q7:SS} {r0:cK} (hu:io B st dx tx t5 er t (λx=>m x==og) k5 q7 r0 q') (hk:k5<=1000) (hr:r0.length<=16777216):
 de B 4 156 ay (oS st dx tx t5 er t q7 r8) λd o=>d=.str r0/\o=oS st dx tx t5 er t q' r8:=by
 refine de.dropH ?_
 refine pU (ds:=[.ref st,c5,.bool og]) ["self","characters","opposite"] ["rv","end","r"] (by rw[hB.K];rfl) (by rw[hB.K];kernel_rfl) (by rcases ha with⟨rfl,rfl⟩ | rfl;exact .dflt3 rfl (by rw[hB.K];rfl) rfl (λy y=>rfl) (λy y=>rfl) vv;exact .full3 rfl (by rw[hB.K];rfl) rfl (λy y y=>rfl) (λy y y=>rfl)) λL=>?_
 clear ha;refine iO dK (by decide) λa=>⟨_,.skip (.skip (.skip .hit)),?_⟩
 generalize hX:(λx=>m x==og)=u at hu
 refine jh (λσ=>∃ l ms en,dT l=some ms/\ms.flatten=r0/\σ=⟨vm st c5 og a (some en),(a,.list l)::oS st dx tx t5 er t q' r8⟩) (xk (λk σ=>∃ q l ms r en,io B st dx tx t5 er t u k q r q'/\dT l=some ms/\ms.flatten++r=r0/\l.length+k<=1000/\σ=⟨vm st c5 og a en,(a,.list l)::oS st dx tx t5 er t q r8⟩) (n:=k5)
  ⟨q7, [], [],r0,none,hu,rfl,rfl,by simpa using hk,rfl⟩ ?_) ?_
 . rintro k σ ⟨q,l,ms,r,en,hu,hl,hms,hkl,rfl⟩
   obtain⟨hi,hz⟩:=hu.here;have hz':q.c.length<=16777216:=big hz
   have hll:l.length<=16777216:=by omega
   refine⟨⟨vm st c5 og a en,(a,.list l)::oS st dx tx t5 er t q r8⟩,KA oP rz,?_⟩
   refine eH (a6:=⟨vm st c5 og a (some (.int q.i)),(a,.list l)::oS st dx tx t5 er t q r8⟩) ?_ ?_
   . cases en with
     | none=>exact jf (eW [st,tx,er,a] (nc dx t5 t c5 og none none q l [] r8) (nc dx t5 t c5 og (some (.int q.i)) none q l [] r8) [] .next (dL hB) trivial)
     | some en=>exact jf (eW [st,tx,er,a] (nc dx t5 t c5 og (some en) none q l [] r8) (nc dx t5 t c5 og (some (.int q.i)) none q l [] r8) [] .next (dL hB) trivial)
   have g1 :q.i<=dn u q.c q.i:=bU _ _
   have g2 :=fy u q.c hi
   have sin:=λj (a:q.i<=j) (b:j < dn u q.c q.i)=>rB a b hi
   have sout:∀ e,dn u q.c q.i=e->∀ h:e < q.c.length,u q.c[e]=false:=λe he h=>by subst he;exact pX h
   obtain⟨j,hs⟩:∃ j,dn u q.c q.i=j:=⟨_,rfl⟩
   have huS:=λe=>hu.stops hs e
   have huE:=λe:j=q.c.length=>hu.ends (hs.trans e)
   rw[hs]at g1 g2 sin
   have bk :q.i+(j - q.i)=j:=by omega
   refine eH (a6:=⟨vm st c5 og a (some (.int j)),(a,.list l)::oS st dx tx t5 er t q r8⟩) ?_ ?_
   . clear huS huE hms hu hl hr hk
     refine PJ (rp (jD.count (λj=>⟨vm st c5 og a (some (.int j)),(a,.list l)::oS st dx tx t5 er t q r8⟩) (m:=j - q.i) (k:=q.i) ?_ ?_)) (by rw[bk])
     . intro i p1 p2
       rw[bk]at p2
       obtain⟨aG,hui⟩:=sin i p1 p2;have hl:=f9 aG
       have hui:(m q.c[i]==og)=true:=by rw[<-hX]at hui;exact hui
       generalize q.c[i]=z at hl hui
       exact⟨oV [st,tx,er,a] (nc dx t5 t c5 og (some (.int i)) none q l [] r8) (nc dx t5 t c5 og (some (.int i)) none q l [] r8) [.br true,.ch z,.cmp (m z),.br true] (dL hB) (qa (qa (qa (qa (qa trivial (show(!decide ((i:Int)=(q.c.length:Int)))=true by rw[cc (by omega)];rfl)) hl) hz') (EI hm z ((nc dx t5 t c5 og (some (.int i)) none q l [] r8).to [st,tx,er,a]))) hui),
        eW [st,tx,er,a] (nc dx t5 t c5 og (some (.int i)) none q l [] r8) (nc dx t5 t c5 og (some (.int (i+1:Nat))) none q l [] r8) [] .next (dL hB) trivial⟩
     . rw[bk]
       by_cases aG:j < q.c.length
       . have hl:=f9 aG
         have hui:(m q.c[j]==og)=false:=by
          have:=sout j hs aG
          rw[<-hX]at this
          exact this
         generalize q.c[j]=z at hl hui
         exact oV [st,tx,er,a] (nc dx t5 t c5 og (some (.int j)) none q l [] r8) (nc dx t5 t c5 og (some (.int j)) none q l [] r8) [.br true,.ch z,.cmp (m z),.br false] (dL hB) (qa (qa (qa (qa (qa trivial (show(!decide ((j:Int)=(q.c.length:Int)))=true by rw[cc (by omega)];rfl)) hl) hz') (EI hm z ((nc dx t5 t c5 og (some (.int j)) none q l [] r8).to [st,tx,er,a]))) hui)
       . exact oV [st,tx,er,a] (nc dx t5 t c5 og (some (.int j)) none q l [] r8) (nc dx t5 t c5 og (some (.int j)) none q l [] r8) [.br false] (dL hB) (qa trivial (show(!decide ((j:Int)=(q.c.length:Int)))=false by rw[cr (by omega)];rfl))
   . clear sin sout
     by_cases aG:j < q.c.length
     . obtain⟨rfl,rfl⟩:=huS aG
       have e2:decide ((j:Int)=(q.c.length:Int))=false:=cc (by omega)
       clear huS huE
       by_cases hei:j=q.i
       . subst hei
         exact eu (eW [st,tx,er,a] (nc dx t5 t c5 og (some (.int q.i)) none q l [] r8) (nc dx t5 t c5 og (some (.int q.i)) none q l [] r8) [.br true,.br true] .brk (dL hB) (qa (qa trivial (cr (rfl:(q.i:Int)=q.i))) (show(!decide ((q.i:Int)=(q.c.length:Int)))=true by rw[e2];rfl))) (.inr ⟨rfl,rfl,l,ms,.int q.i,hl,by rw[<-hms,Dg hi,cm],rfl⟩)
       . exact eu (eW [st,tx,er,a] (nc dx t5 t c5 og (some (.int j)) none q l [] r8) (nc dx t5 t c5 og (some (.int j)) none { q with i:=j } l [.av (.str (sl q.c (some (q.i:Int)) (some (j:Int))))] r8) [.br false,.br true] .brk (dL hB) (qa (qa (qa (qa trivial (cc (show ¬ (j:Int)=(q.i:Int)by omega))) (show(!decide ((j:Int)=(q.c.length:Int)))=true by rw[e2];rfl)) hz') hll)) (.inr ⟨rfl,rfl,l++[.str (sl q.c (some (q.i:Int)) (some (j:Int)))],ms++[sl q.c (some (q.i:Int)) (some (j:Int))],.int j,ji hl,by rw[<-hms];simp,rfl⟩)
     . obtain rfl:j=q.c.length:=by omega
       refine im (huE rfl) ?_;rintro b q5 hrd hq
       clear huS huE aG hs bk hu;have hrd':=de.ahead (o:=oS st dx tx t5 er t q r8) (o':=oS st dx tx t5 er t q5 r8) (a:=(a,.list (l++[.str (sl q.c (some (q.i:Int)) none)]))) (hrd (r8++[_]))
       refine eH (a6:=⟨vm st c5 og a (some (.int q.c.length)),(a,.list l)::oS st dx tx t5 er t q r8⟩) (jf ?_) ?_
       . by_cases hei:q.c.length=q.i
         . exact eW [st,tx,er,a] (nc dx t5 t c5 og (some (.int q.c.length)) none q l [] r8) (nc dx t5 t c5 og (some (.int q.c.length)) none q l [] r8) [.br true,.br false] .next (dL hB) (qa (qa trivial (cr (show(q.c.length:Int)=(q.i:Int)by omega))) (show(!decide ((q.i:Int)=(q.c.length:Int)))=false by rw[cr (by omega)];rfl))
         . exact eW [st,tx,er,a] (nc dx t5 t c5 og (some (.int q.c.length)) none q l [] r8) (nc dx t5 t c5 og (some (.int q.c.length)) none q l [] r8) [.br false,.br false] .next (dL hB) (qa (qa trivial (cc (show ¬ (q.c.length:Int)=(q.i:Int)by omega))) (show(!decide ((q.c.length:Int)=(q.c.length:Int)))=false by rw[cr rfl];rfl))
       rcases hq with⟨rfl,rfl,rfl⟩ | ⟨rfl,k6,r7,h7,rfl,hu⟩
       . exact eu (eW [st,tx,er,a] (nc dx t5 t c5 og (some (.int q.c.length)) none q l [] r8) (nc dx t5 t c5 og (some (.int q.c.length)) none q5 (l++[.str (sl q.c (some (q.i:Int)) none)]) [] r8) [.call 0 (.av (.bool false)) ((3,.list (l++[.str (sl q.c (some (q.i:Int)) none)]) [])::Kl 0 dx t5 t q5 []) r8 3,.br false] .brk (dL hB) (qa (qa (qa (qa trivial hz') hll) hrd') ff)) (.inr ⟨rfl,rfl,l++[.str (sl q.c (some (q.i:Int)) none)],ms++[sl q.c (some (q.i:Int)) none],.int q.c.length,ji hl,by rw[<-hms];simp,rfl⟩)
       . exact eu (eW [st,tx,er,a] (nc dx t5 t c5 og (some (.int q.c.length)) none q l [] r8) (nc dx t5 t c5 og (some (.int q.c.length)) none q5 (l++[.str (sl q.c (some (q.i:Int)) none)]) [] r8) [.call 0 (.av (.bool true)) ((3,.list (l++[.str (sl q.c (some (q.i:Int)) none)]) [])::Kl 0 dx t5 t q5 []) r8 3,.br true] .next (dL hB) (qa (qa (qa (qa trivial hz') hll) hrd') tt)) (.inl ⟨rfl,k6,h7,q5,l++[.str (sl q.c (some (q.i:Int)) none)],ms++[sl q.c (some (q.i:Int)) none],r7,some (.int q.c.length),hu,ji hl,by rw[<-hms];simp,by simp;omega,rfl⟩)
 . intro y z9;refine kI z9 ?_;clear z9;rintro l ms en hl hms rfl
   refine eH (oR (qX (ie rfl) (wl PySem.F.slot_str_join PySem.F.type_str_join) gV (dy (d9 Bu) dK) (zN dP hl (by rw[hms];exact hr))) (fW (.skip (.skip (.skip (.skip (.skip .hit))))))) ?_
   exact eu (gT (gS (d9 QO))) ⟨_,rfl,oS st dx tx t5 er t q' r8,[(a,.list l)],bA (l₁:=[(a,AO.list l)]),by rw[<-hms],rfl⟩
end
section
variable {e t6:Expr} {pi:Pos} {b3:cM}
section
variable {X:Cx} {σ a6 a9:St} {Q:Bool->St->Prop} {QF:PF} {R:AV->St->Prop} {l9:LL} {o8 o3:OL} {o d:AV} {m:Nat} {f a:Addr} {l:cL}
theorem K8 {n5:Str} {aJ:Pos} {ay:cN} {ds:cL} {pl:Sem Bool} {g self:Addr} {P:AV->OL->Prop} (h1:Ev X e σ o a6) (hm:A4 X o n5 (.meth g self) a6) (hf:fnIn X.B.K g=true) (h2:rR X ay a6 ds ⟨l9,o8⟩)
 (c :de X.B m g (.ref self::ds) o8 P) (hn:m<=X.n)
 (he:autoParam (eval (.Call (.Attribute e n5 aJ) ay [] pi) X.env=(do
  let ov <-eval e X.env
  standAt aJ.atName
  let (f,first) <-holding [ov] (getMethod ov n5 pl)
  callWith pi f first (backTo pi (starEach ay X.env)) [])) bR) (hp:autoParam ((backTo pi (starEach ay X.env)).any (·.1)=false) bR):xr X (.Call (.Attribute e n5 aJ) ay [] pi) σ λd σ'=>∃ q,P d q/\σ'=⟨l9,q⟩:=
 ⟨λH Φ h=>by
 rw[he];refine dr (h1.run _ _ λvo=>dt ?_)
 refine gg (di (hm.run _ vo pl (λp F a9=>p.2=[]/\a9=a6/\Is X.B.P F p.1 (.meth g self)) gO λv F hv=>⟨rfl,rfl,hv⟩)) ?_
 rintro ⟨v,fs⟩ F a9 ⟨rfl,rfl,hv⟩;refine⟨(v,.meth g self)::(vo,o)::H,λy h=>.tail _ h,λx hx=>?_,?_⟩
 . rcases fG hx with rfl | hx
   . exact .inr hv
   . exact .inl hx
 . exact wH gO hf (h2.run _ _ _ λvs hl=>tK (bz _ gO) c hn hl (λy hp=>bB _ hp) λd' o' w v=>h _ _ _ ⟨o',w,rfl⟩) hp⟩
structure QL (X:Cx) (e:Expr) (σ:St) (Q:Bool->St->Prop):Prop where
 run:∀ (H:HL) (Φ:Bool->St->Prop),(∀ b σ',Q b σ'->Φ b σ')->WB X.B X.n X.L (isTrue e X.env (eval e X.env)) H σ Φ
theorem JM (h1:xr X e σ R) (h2:∀ d σ',R d σ'->∃ c,nG X d c σ'/\Q c σ') (hs:∀ wd,isTrue e X.env wd=(do let v <-wd;standAt e.pos;holding [v] (truthy v)):=by with_unfolding_all exact λy=>rfl):QL X e σ Q:=
 ⟨λy y h=>ro (h1.run _ _ λy d σ' w=>by refine dW (h2 d σ' w) ?_;rintro c w1 w2;exact w1.run _ _ _ gO (h _ _ w2)) hs⟩
theorem Au {t:Expr} {aD:Str} {p:Pos} (h1:xr X e σ R) (h2:∀ d σ',R d σ'->∃ o a6 a9,Ev X t σ' o a6/\sJ X o aD d a6 a9/\QF .next a9) (hs:autoParam (swapsWith e (some (.Attribute t aD p)) pi.line X.env=pure false) bR):xV X (.Assign [.Attribute t aD p] e pi) σ QF:=
 ⟨λH Φ h=>ir (h1.run _ _ λv d σ' w=>by
  refine kI (h2 d σ' w) ?_;rintro o a6 a9 w1 w2 w3
  exact w1.run _ _ λy=>w2.run _ _ _ _ gO kx (h _ _ w3)) hs⟩
end
section
variable {γ:Type} {B:dc} {n m:Nat} {L:Addr} {YJ:γ->AV->OL->Prop} {RJ:OL->Prop} {c:Code} {fs:List Frame} {tr:List γ} {σ σ':St} {K:Flow->Sem Fin} {Hh:Value->Sem Fin} {gd:Bool->Bool} {lv:cO->cO} {e5:Env}
def QZ (B:dc) (m:Nat) (L:Addr) (YJ:γ->AV->OL->Prop) (RJ:OL->Prop) (t6:Expr) (b3:cM) (e5:Env) (fs:List Frame) (tr:List γ) (b:Bool) (σ':St):Prop:=
 (b=true->∀ Hh,GW B m L YJ RJ (.whileLoop t6 b3 [] e5) fs ((execs b3 e5).wrap (λf=>match f with
  | .next | .cont=>.pure (.again (.whileLoop t6 b3 [] e5))
  | .brk=>.pure (.done .next)
  | .ret v=>.pure (.done (.ret v))) Hh id id) tr σ')/\
 (b=false->GW B m L YJ RJ (.whileLoop t6 b3 [] e5) fs (.pure (.done .next)) tr σ')
theorem GW.roundQ (hr:fV m n (.whileLoop t6 b3 [] e5) fs) (h:QL ⟨B,n,L,e5⟩ t6 σ (QZ B m L YJ RJ t6 b3 e5 fs tr)):GW B m L YJ RJ (.whileLoop t6 b3 [] e5) fs (B.M.den (.whileLoop t6 b3 [] e5)) tr σ:=
 GW.round hr (h.run _ _ λy y w=>w)
theorem GW.roundY (hr:fV m n (.whileLoop t6 b3 [] e5) fs) (h:Te ⟨B,n,L,e5⟩ t6 σ true σ') (k:∀ Hh,GW B m L YJ RJ (.whileLoop t6 b3 [] e5) fs ((execs b3 e5).wrap (λf=>match f with
 | .next | .cont=>.pure (.again (.whileLoop t6 b3 [] e5))
 | .brk=>.pure (.done .next)
 | .ret v=>.pure (.done (.ret v))) Hh id id) tr σ'):GW B m L YJ RJ (.whileLoop t6 b3 [] e5) fs (B.M.den (.whileLoop t6 b3 [] e5)) tr σ:=
 GW.round hr (h.run _ _ ⟨λy=>k,λe=>nomatch e⟩)
theorem GW.roundN (hr:fV m n (.whileLoop t6 b3 [] e5) fs) (h:Te ⟨B,n,L,e5⟩ t6 σ false σ') (k:GW B m L YJ RJ (.whileLoop t6 b3 [] e5) fs (.pure (.done .next)) tr σ'):GW B m L YJ RJ (.whileLoop t6 b3 [] e5) fs (B.M.den (.whileLoop t6 b3 [] e5)) tr σ:=
 GW.round hr (h.run _ _ ⟨nofun,λy=>k⟩)
theorem GW.yieldsE {x:γ} {d:AV} {yp:Pos} (hr:fV m n c fs) (hfs:splitAtGen fs=none) (hfg:fs.any Frame.guarded=false)
 (h:Ev ⟨B,n,L,e5⟩ e σ d σ') (hy:YJ x d σ'.objs) (k:GW B m L YJ RJ c fs (K .next) tr σ') (hgd:autoParam (gd false=false) bR) (aT:autoParam (e5.scope.isCoroutine=false) bR) (hi:autoParam (interactive e5=false) bR):
 GW B m L YJ RJ c fs ((exec (.Expr (.Yield (some e) yp) pi) e5).wrap K Hh gd lv) (x::tr) σ:=GW.yields hr hfs hgd hfg (h.run _ _ λy=>⟨hy,k⟩) aT hi
end
section
variable {γ:Type} {B:dc} {st dx tx t5 er tk k9 lf:Addr} {t:cK} {g:AV->SS->γ} {P:SS->Prop}
noncomputable abbrev tS (st dx tx t5 er tk k9 lf qa:Addr) (t:cK) (q:SS) (f:Addr) (c1:AV) (ks:cL) (r8:OL):OL:=
 oS st dx tx t5 er t q (Pn st f tk k9 lf qa c1::(qa,.list ks)::r8)
def Qt (st dx tx t5 er tk k9 lf:Addr) (t:cK) (g:AV->SS->γ) (x:γ) (d:AV) (o:OL):Prop:=∃ qa q f c1 ks r8,x=g d q/\o=tS st dx tx t5 er tk k9 lf qa t q f c1 ks r8
def Qq (st dx tx t5 er tk k9 lf:Addr) (t:cK) (P:SS->Prop) (o:OL):Prop:=∃ qa q f c1 ks r8,P q/\o=tS st dx tx t5 er tk k9 lf qa t q f c1 ks r8
noncomputable abbrev DW (e:AV):AV:=.dct [("type",.int 7),("data",e)]
def zM (B:dc) (st dx tx t5 er tk k9 lf qa:Addr) (t:cK) (g:AV->SS->γ) (P:SS->Prop):Nat->SS->Addr->AV->OL->List γ->Prop
 | 0=>λy y y y y=>False
 | k+1=>λq f c1 r8 tr=>fnIn B.K f=true/\de B 5 f [.ref tk] (tS st dx tx t5 er tk k9 lf qa t q f c1 [] r8) λd o=>∃ q' f' c4 ks r9,o=tS st dx tx t5 er tk k9 lf qa t q' f' c4 ks r9/\
  ((d=.bool false/\tr=[]/\P q')\/(d=.bool true/\q'.es.length<=16777216/\ks.length<=16777216/\∃ tr',tr=(q'.es.map λe=>g (DW e) q')++((ks.map λd=>g d q')++tr')/\zM B st dx tx t5 er tk k9 lf qa t g P k { q' with es:=[] } f' c4 r9 tr'))
def KZ (g:AV->SS->γ):Prop:=∀ d q es,g d { q with es:=es }=g d q
end
noncomputable def Q2 (k9 lf:Addr) (f:Addr) (c1:DV):Nat×DO:=(0,.inst 762 k9 [("stream",.slot 1),("parser",.av .none),("escapeFlag",.av (.bool false)),("lastFourChars",.av (.ref lf)),("state",.meth f 0),("escape",.av (.bool false)),("currentToken",c1),("tokenQueue",.slot 4)])
noncomputable def gB (dx t5 k9 lf:Addr) (t:cK) (q:SS) (f:Addr) (c1:DV) (ks:cL) (ps:cR) (r:cV):cV:=
 ig 1 dx t5 q.c q.c.length q.i q.pl q.pc q.buf t q.p q.es [] (Q2 k9 lf f c1::(4,.list ks ps)::r)
theorem Ej {γ:Type} {B:dc} {st dx tx t5 er tk k9 lf f:Addr} {c1:AV} {t:cK} {g:AV->SS->γ} {P:SS->Prop} {r8:OL} (hB:ej B) (hg:KZ g) {k:Nat} {q:SS} {tr:List γ} {n:Nat}
 (hT : ∀ qa,zM B st dx tx t5 er tk k9 lf qa t g P k q f c1 r8 tr):
 kD B n 6 tk (oS st dx tx t5 er t q ((tk,.inst 762 k9 (Cz st f tk lf c1))::r8)) (Qt st dx tx t5 er tk k9 lf t g) (Qq st dx tx t5 er tk k9 lf t P) tr:=by
 refine kD.of (f:=268) (C:=762) (pB:="self") (by rw[hB.K];rfl) Bu (by rw[hB.K];kernel_rfl) (by rw[hB.K];kernel_rfl) (by rw[hB.K];kernel_rfl) (.one λy=>rfl) λL=>?_
 refine GW.body λHh=>GW.steps (GW.stmt (n:=5) gw ((Au (X:=⟨B,5,L,_⟩) (BC dK (by decide)) ?_).run _ _ λf σ' q=>q))
 intro y y z9;refine dW z9 ?_;clear z9;rintro qa rfl rfl
 refine' ⟨.ref tk,_,_,d9 dP,tz Bz (.skip (by kernel_rfl) (.skip (by kernel_rfl) (.skip (by kernel_rfl) (.skip (by kernel_rfl) (.skip (by kernel_rfl) (.skip (by kernel_rfl) (.skip (by kernel_rfl) .new))))))) (.tail (.tail (.tail (.tail .head)))) (by rw[hB.K];kernel_rfl),rfl,?_⟩
 refine GW.perm (o3:=tS st dx tx t5 er tk k9 lf qa t q f c1 [] r8) (r8:=[]) (by rw[cm];exact(List.perm_middle (l₁:=[_,_,_,_])).symm) ?_
 refine GW.steps (GW.whiles λp kk hk=>?_)
 replace hT:=hT qa
 induction k generalizing q f c1 r8 tr with
 | zero=>exact hT.elim
 | succ k ih=>
  obtain⟨hf,hc⟩:=hT;refine GW.roundQ (n:=5) (eQ gw) (JM (K8 (d9 dP) (N1 Bu (.skip (by kernel_rfl) (.skip (by kernel_rfl) (.skip (by kernel_rfl) (.skip (by kernel_rfl) .hit)))) (by rw[hB.K];kernel_rfl) (by rw[hB.K];kernel_rfl) rfl) hf dK hc (eP rfl)) ?_)
  intro d y z9;refine dW z9 ?_;clear z9;rintro _ ⟨⟨c,i,pl,pc,b4,pp,es⟩,f',c4,ks,r9,rfl,hd⟩ rfl
  clear hc
  rcases hd with⟨rfl,rfl,hp⟩ | ⟨rfl,he,hks,tr',htr,hT'⟩
  . refine⟨false,rz,nofun,λy=>?_⟩
    refine GW.back ?_
    rw[hk];exact GW.over ⟨qa,_,f',c4,ks,r9,hp,rfl⟩
  . refine⟨true,rz,λy Hh'=>?_,nofun⟩
    refine GW.steps (GW.whiles λp0 k7 h7=>?_)
    dsimp only at he htr hT' |-
    have hge:∀ d es,g d ⟨c,i,pl,pc,b4,pp,es⟩=g d ⟨c,i,pl,pc,b4,pp,[]⟩:=λd es=>hg d ⟨c,i,pl,pc,b4,pp,[]⟩ es
    simp only[hge]at htr
    subst htr
    induction es with
    | cons e es ihe=>
     have hez:es.length<=16777215:=by simpa using he
     have hez':(e::es).length<=16777216:=he
     refine GW.roundY (n:=5) (σ':=⟨[("self",some (.ref tk))],tS st dx tx t5 er tk k9 lf qa t ⟨c,i,pl,pc,b4,pp,e::es⟩ f' c4 ks r9⟩) (eQ (eQ gw)) (nE (c:= !(e::es).isEmpty) ?_ rfl) λH0=>GW.steps ?_
     . exact oV [tk,st,tx,er,qa] ⟨[("self",some (.slot 0))],gB dx t5 k9 lf t ⟨c,i,pl,pc,b4,pp,e::es⟩ f' (.av c4) ks [] [],r9⟩ ⟨[("self",some (.slot 0))],gB dx t5 k9 lf t ⟨c,i,pl,pc,b4,pp,e::es⟩ f' (.av c4) ks [] [],r9⟩ [.br true] (dL hB) (_root_.Mine.qa (_root_.Mine.qa trivial hez') tt)
     rw[cv,c7];refine GW.yieldsE (n:=5) (σ':=⟨[("self",some (.ref tk))],tS st dx tx t5 er tk k9 lf qa t ⟨c,i,pl,pc,b4,pp,es⟩ f' c4 ks r9⟩) (d:=DW e) (eQ (eQ gw)) rfl rfl ?_ ⟨qa,⟨c,i,pl,pc,b4,pp,es⟩,f',c4,ks,r9,(hge _ _).symm,rfl⟩ (GW.turn rfl (ihe (by exact cy ‹_›)))
     exact tf [tk,st,tx,er,qa] ⟨[("self",some (.slot 0))],gB dx t5 k9 lf t ⟨c,i,pl,pc,b4,pp,e::es⟩ f' (.av c4) ks [] [],r9⟩ ⟨[("self",some (.slot 0))],gB dx t5 k9 lf t ⟨c,i,pl,pc,b4,pp,es⟩ f' (.av c4) ks [] [],r9⟩ [] (.av (DW e)) (dL hB) (_root_.Mine.qa trivial hez)
    | nil=>
     refine GW.roundN (n:=5) (σ':=⟨[("self",some (.ref tk))],tS st dx tx t5 er tk k9 lf qa t ⟨c,i,pl,pc,b4,pp,[]⟩ f' c4 ks r9⟩) (eQ (eQ gw)) (nE (c:= !([]:cL).isEmpty) ?_ rfl) ?_
     . exact oV [tk,st,tx,er,qa] ⟨[("self",some (.slot 0))],gB dx t5 k9 lf t ⟨c,i,pl,pc,b4,pp,[]⟩ f' (.av c4) ks [] [],r9⟩ ⟨[("self",some (.slot 0))],gB dx t5 k9 lf t ⟨c,i,pl,pc,b4,pp,[]⟩ f' (.av c4) ks [] [],r9⟩ [.br false] (dL hB) (_root_.Mine.qa (_root_.Mine.qa trivial (big (cB 0))) ff)
     refine GW.back ?_
     rw[h7];refine GW.steps (GW.whiles λp5 k8 aq=>?_)
     rw[List.map_nil,List.nil_append];clear he
     induction ks with
     | cons e ks ihk=>
      have hez:ks.length<=16777215:=by simpa using hks
      refine GW.roundY (n:=5) (σ':=⟨[("self",some (.ref tk))],tS st dx tx t5 er tk k9 lf qa t ⟨c,i,pl,pc,b4,pp,[]⟩ f' c4 (e::ks) r9⟩) (eQ (eQ gw)) (nE (c:= !(e::ks).isEmpty) ?_ rfl) λH0=>GW.steps ?_
      . exact oV [tk,st,tx,er,qa] ⟨[("self",some (.slot 0))],gB dx t5 k9 lf t ⟨c,i,pl,pc,b4,pp,[]⟩ f' (.av c4) (e::ks) [] [],r9⟩ ⟨[("self",some (.slot 0))],gB dx t5 k9 lf t ⟨c,i,pl,pc,b4,pp,[]⟩ f' (.av c4) (e::ks) [] [],r9⟩ [.br true] (dL hB) (_root_.Mine.qa (_root_.Mine.qa trivial (show(e::ks).length<=16777216 from hks)) tt)
      rw[cv,c7];refine GW.yieldsE (n:=5) (σ':=⟨[("self",some (.ref tk))],tS st dx tx t5 er tk k9 lf qa t ⟨c,i,pl,pc,b4,pp,[]⟩ f' c4 ks r9⟩) (d:=e) (eQ (eQ gw)) rfl rfl ?_ ⟨qa,⟨c,i,pl,pc,b4,pp,[]⟩,f',c4,ks,r9,rfl,rfl⟩ (GW.turn rfl (ihk (by exact cy ‹_›)))
      exact tf [tk,st,tx,er,qa] ⟨[("self",some (.slot 0))],gB dx t5 k9 lf t ⟨c,i,pl,pc,b4,pp,[]⟩ f' (.av c4) (e::ks) [] [],r9⟩ ⟨[("self",some (.slot 0))],gB dx t5 k9 lf t ⟨c,i,pl,pc,b4,pp,[]⟩ f' (.av c4) ks [] [],r9⟩ [] (.av e) (dL hB) (_root_.Mine.qa trivial hez)
     | nil=>
      refine GW.roundN (n:=5) (σ':=⟨[("self",some (.ref tk))],tS st dx tx t5 er tk k9 lf qa t ⟨c,i,pl,pc,b4,pp,[]⟩ f' c4 [] r9⟩) (eQ (eQ gw)) (nE (c:= !([]:cL).isEmpty) ?_ rfl) ?_
      . exact oV [tk,st,tx,er,qa] ⟨[("self",some (.slot 0))],gB dx t5 k9 lf t ⟨c,i,pl,pc,b4,pp,[]⟩ f' (.av c4) [] [] [],r9⟩ ⟨[("self",some (.slot 0))],gB dx t5 k9 lf t ⟨c,i,pl,pc,b4,pp,[]⟩ f' (.av c4) [] [] [],r9⟩ [.br false] (dL hB) (_root_.Mine.qa (_root_.Mine.qa trivial (big (cB 0))) ff)
      refine GW.back ?_
      rw[aq];exact GW.turn rfl (ih hT')
end
section
def eI (B:dc) (st dx tx t5 er:Addr) (t:cK) (m:Nat) (f:Addr) (ay:cL) (d:AV) (q q':SS):Prop:=∀ r8,de B m f (.ref st::ay) (oS st dx tx t5 er t q r8) λd' o=>d'=d/\o=oS st dx tx t5 er t q' r8
theorem iu {n:Nat} (j:Nat) (h:n<=1000) (hj:autoParam (Nat.ble j 1000=true) bR):n+j<=16777216:=dN (Nat.add_le_add h (eP hj)) (by decide)
theorem Kg {z:Nat} {r:cK} (h:r.length<=16777000):([z]:cK).length+r.length<=16777216:=dN (Nat.add_le_add (cB 1) h) (by decide)
theorem Kh {az:cK} {k:Nat} (h:az.length<=16777000) (hk:autoParam (Nat.ble k 200=true) bR):az.length+k<=16777216:=dN (Nat.add_le_add h (eP hk)) (by decide)
theorem FG (k:Nat) (h:autoParam (Nat.ble k 16777216=true) bR):k<=16777216:=eP h
theorem Oi {az r:cK} {z:Nat} (h:az.length+r.length<=16777000):az.length+([z]++r).length<=16777216:=by
 rw[List.singleton_append,bY,<-Nat.add_assoc];exact dN (bX h) (by decide)
noncomputable abbrev eE (x:String):AV:=.dct [("type",.int 7),("data",.str (sg x))]
section
variable {B:dc} {n:Nat} {f:Addr} {ay:cL} {o8:OL} {q:Prop}
theorem MO {o3:OL} (ρ:cP) (os:cV) (r8:OL) (aA:List fj) (b:Bool) (os':cV) (hB:ej B) (hq:q) (hb:fw B (yd (fT B.P) f) ["self"] ay (mC ρ [.slot 0]):=by exact .one (by intro y;kernel_rfl))
 (eo:autoParam (dE ρ r8 os=o8) bK) (e2:autoParam (dE ρ r8 os'=o3) bK) (ho:autoParam (K3 (fT B.P) f) bK)
 (e:autoParam (A9 hB n f ["self"] ρ [.slot 0] os r8 aA=Oj (some ⟨q,0,.av (.bool b),os',r8⟩)) bK):
 de B (n+1) f ay o8 λd o=>d=.bool b/\o=o3:=jE ["self"] ρ [.slot 0] os r8 aA (.av (.bool b)) os' r8 hB hq hb eo rfl e2 ho e
end
section
variable {B:dc} {R:OL} {st dx tx w er g v u lf f da:Addr} {t:cK} {c1:AV} {q q5 q6:SS} {ks:cL} {z:Nat} {r a:cK}
end
end
section
variable {l:cK} {c i:Nat}
open Builtin Builtin.Str PySem.StrLaws
noncomputable def gF (l y:cK) (i:Nat):Bool:=(l.drop i).take y.length==y
theorem nW (l y:cK) (i:Nat):subAt (S l) (S y) i=gF l y i:=by
 rw[subAt_eq];simp[gF,dI]
theorem jx {y:cK} {hi lh:Nat} (nov:∀ i j,gF l y i=true->gF l y j=true->i < j->i+y.length<=j):∀ (n a:Nat) (az:Array Nat) (free:Nat),az.size+n<=lh->(∀ i,a<=i->gF l y i=true->free<=i)->
 (forIn (List.range' a n) (az,free) (occBody (S l) (S y) hi lh)).run.fst.toList=az.toList++(List.range' a n).filter (λi=>decide (i+y.length<=hi)&&gF l y i)
 | 0, a,az,free,_,_=>by simp
 | n +1,a,az,free,hs,hf=>by
  rw[List.range'_succ,List.forIn_cons]
  by_cases h:(a+y.length<=hi)/\gF l y a=true
  . have hb:occBody (S l) (S y) hi lh a (az,free)=pure (ForInStep.yield (az.push a,a+y.length)):=by
     unfold occBody;rw[cJ (by rw[dI,nW];exact⟨⟨⟨by show az.size < lh;omega,hf a (cB _) h.2⟩,h.1⟩,h.2⟩),dI]
    refine hb▸?_
    have ih:=jx (hi:=hi) (lh:=lh) nov n (a+1) (az.push a) (a+y.length) (by rw[Array.size_push];omega) λi hi hh=>nov a i h.2 hh ‹_›
    show(forIn (List.range' (a+1) n) (az.push a,a+y.length) (occBody (S l) (S y) hi lh)).run.fst.toList= _
    rw[ih,List.filter_cons,cJ (by simp[h.1,h.2])]
    simp
  . have hb:occBody (S l) (S y) hi lh a (az,free)=pure (ForInStep.yield (az,free)):=by
     unfold occBody;rw[cH (by rw[dI,nW];exact λq=>h ⟨q.1.2,q.2⟩)]
    refine hb▸?_
    have ih:=jx (hi:=hi) (lh:=lh) nov n (a+1) az free (by exact cy ‹_›) λi hi hh=>hf i (by exact cy ‹_›) hh
    show(forIn (List.range' (a+1) n) (az,free) (occBody (S l) (S y) hi lh)).run.fst.toList= _
    rw[ih,List.filter_cons,cH (by simp;exact λq=>by have:=λz=>h ⟨q,z⟩;simpa using this)]
theorem oq:gF l [c] i=true↔l[i]? =some c:=take1_drop
theorem Dx:∀ i j,gF l [c] i=true->gF l [c] j=true->i < j->i+[c].length<=j:=λi j y y h=>h
theorem nu (l:cK) (c:Nat):∀ n,n<=l.length->((List.range' 0 n).filter λi=>gF l [c] i).length=(l.take n).count c
 | 0,_=>rfl
 | n+1,h=>by
  rw[List.range'_1_concat,List.filter_append,bM,nu l c n (by exact cy ‹_›),List.take_add_one,List.count_append,Nat.zero_add]
  congr 1
  have hn:n < l.length:=h
  rw[bq hn,List.filter_cons]
  by_cases e:l[n]=c
  . rw[cJ (oq.mpr (by rw[bq hn,e]))];simp[e]
  . rw[cH (by rw[oq,bq hn];simpa using e)];simp[e]
theorem iG (h:i<=l.length):fN c l i=(l.take i).count c:=by
 unfold fN;rw[eX h,Nat.min_eq_left h,occ_eq,Nat.sub_zero,jx Dx (i+1) 0 #[] 0 (by show 0+(i+1)<=_;omega) λy y y=>cA _]
 rw[List.range'_1_concat,List.filter_append,<-nu l c i h];have:(List.range' 0 i).filter (λj=>decide (j+[c].length<=i)&&gF l [c] j)=(List.range' 0 i).filter λj=>gF l [c] j:=
  List.filter_congr λj hj=>by
   have:j < i:=by simpa using(List.mem_range'.mp hj)
   simp;omega
 rw[this];simp;simp+arith
theorem jX {y:cK} {hi:Nat}:∀ (n a:Nat) (st:Option Nat),(forIn (List.range' a n) st (lastBody (S l) (S y) hi)).run=(((List.range' a n).filter λi=>decide (i+y.length<=hi)&&gF l y i).getLast?).or st
 | 0, a,st=>by rfl
 | n +1,a,st=>by
  rw[List.range'_succ,List.forIn_cons]
  by_cases h:(a+y.length<=hi)/\gF l y a=true
  . have hb:lastBody (S l) (S y) hi a st=pure (ForInStep.yield (some a)):=by
     unfold lastBody;rw[cJ (by rw[dI,nW];exact h)]
    rw[hb];show(forIn (List.range' (a+1) n) (some a) (lastBody (S l) (S y) hi)).run= _
    rw[jX n (a+1),List.filter_cons,cJ (by simp[h.1,h.2]),List.getLast?_cons]
    cases (List.filter (λi=>decide (i+y.length<=hi)&&gF l y i) (List.range' (a+1) n)).getLast?<;>rfl
  . have hb:lastBody (S l) (S y) hi a st=pure (ForInStep.yield st):=by
     unfold lastBody;rw[cH (by rw[dI,nW];exact h)]
    rw[hb];show(forIn (List.range' (a+1) n) st (lastBody (S l) (S y) hi)).run= _
    rw[jX n (a+1),List.filter_cons,cH (by simp;exact λq=>by have:=λz=>h ⟨q,z⟩;simpa using this)]
noncomputable def gA (a:Int) (l:cK):Int:=l.foldl (λa c=>if c=10 then 0 else a+1) a
theorem qM (l:cK) (pc:Int):∀ n,n<=l.length->gA pc (l.take n)=match ((List.range' 0 n).filter λi=>gF l [10] i).getLast? with | none=>pc+n | some j=>(n:Int) - (j+1)
 | 0,_=>by simp[gA]
 | n +1,h=>by
  have hn:n < l.length:=h
  have ih:=qM l pc n (by exact cy ‹_›)
  rw[List.take_add_one,bq hn];rw[List.range'_1_concat,List.filter_append,Nat.zero_add];unfold gA at ih |-
  rw[List.foldl_append,ih]
  by_cases e:l[n]=10
  . have hh:gF l [10] n=true:=oq.mpr (by rw[bq hn,e])
    rw[List.filter_cons,cJ hh];simp[e]
  . have hh:¬ gF l [10] n=true:=by rw[oq,bq hn];simpa using e
    rw[List.filter_cons,cH hh];simp only[List.filter_nil,cm,Option.toList_some,List.foldl_cons,List.foldl_nil,cH e]
    induction ((List.range' 0 n).filter λi=>gF l [10] i).getLast? using Option.casesOn with
    | none=>simp;exact Int.add_assoc _ _ _
    | some j=>simp;simp+arith
theorem uA (h:i<=l.length):iN 10 l i=match ((List.range' 0 i).filter λi=>gF l [10] i).getLast? with | none=> -1 | some j=>(j:Int):=by
 unfold iN;rw[eX h,Nat.min_eq_left h,last_eq,Nat.sub_zero,jX];have:(List.range' 0 (i+1)).filter (λj=>decide (j+[10].length<=i)&&gF l [10] j)=(List.range' 0 i).filter λj=>gF l [10] j:=by
  rw[List.range'_1_concat,List.filter_append];rw[List.filter_congr (q:=λj=>gF l [10] j) λj hj=>by
   have:j < i:=by simpa using(List.mem_range'.mp hj)
   simp;omega]
  simp;simp+arith
 rw[this,Option.or_none]
 cases ((List.range' 0 i).filter λj=>gF l [10] j).getLast?<;>rfl
end
section
variable {l:cK} {k:Nat} {q:SS}
open Builtin Builtin.Str PySem.StrLaws
theorem nb {y z:cK} (hy:y≠[]) (h:∀ i,gF l y i=false):gQ l y z=l:=by
 have occ:occurrences (S l) (S y) 0 (S l).length ((S l).length+1)=[]:=by
  rw[dI,occ_eq,Nat.sub_zero,jx (λi j hi=>cI hi (by rw[h];exact bN)) (l.length+1) 0 #[] 0 (by show 0+_<=_;simp+arith) λx x x=>cA _]
  simp[h]
 unfold gQ Txt.replace;have hyl:((S y).length==0)=false:=by
  rw[dI];cases y with | nil=>exact cI rfl hy | cons _ _=>rfl
 rw[hyl,Bool.false_and,Bool.or_false,occ];simp[S]
theorem uF {c:Nat} {r:cK} (h:c∉l) (i:Nat):gF l (c::r) i=false:=by
 unfold gF;rw[beq_eq_false_iff_ne];intro q
 cases hd:l.drop i with
 | nil=>rw[hd]at q;simp at q
 | cons a t=>
  rw[hd,bY,List.take_succ_cons]at q
  exact h ((List.cons.inj q).1▸List.mem_of_mem_drop (hd▸List.mem_cons_self))
theorem vf (h:13∉l):fZ l=l/\gQ l [13,10] [10]=l/\gQ l [13] [10]=l:=by
 have h1:=nb (z:=[10]) (List.cons_ne_nil 13 [10]) (uF h)
 have h2:=nb (z:=[10]) (List.cons_ne_nil 13 []) (uF h)
 exact⟨by unfold fZ;rw[h1,h2],h1,h2⟩
structure gi (T:cK):Prop where
 len:T.length<=1000
 no13:13∉T
 fine:∀ c∈T,El (c:Int)=false/\c < 1114112/\¬ (55296<=c/\c<=56319)
theorem gi.bads {T:cK} (h:gi T):bads T=[]:=by
 unfold Mine.bads;rw[List.filter_eq_nil_iff.mpr λc hc=>by rw[(h.fine c hc).1];exact bN]
 rfl
theorem gi.size {T:cK} (h:gi T):T.length<=16777216:=dN h.len (by decide)
noncomputable abbrev Bv (T:cK) (k:Nat):SS:=⟨T,k,0,0,.none,T.length,[]⟩
noncomputable abbrev ox (T:cK):SS:=⟨[],0,(T.count 10:Nat),gA 0 T,.none,T.length,[]⟩
section
variable {B:dc} {st dx tx t5 er:Addr} {T:cK}
theorem wM {t:cK} {p:Int} (h:(t.length:Int)<=p):sl t (some p) (some (p+10240))=[]:=by
 have e:fJ t.length p=t.length:=pS h
 rw[jO];rw[e,List.drop_eq_nil_of_le];rw[List.length_take];omega
theorem zS {t:cK} (h:t.length<=10240):sl t (some (0:Int)) (some ((0:Int)+10240))=t:=by
 have e:fJ t.length ((0:Int)+10240)=t.length:=pS (Int.ofNat_le.mpr h)
 have e0:fJ t.length (0:Int)=0:=eX (cA _)
 rw[jO];rw[e,e0];simp
theorem jb {pc:Int} {i:Nat} (h:i<=l.length):j9 pc l i=gA pc (l.take i):=by
 unfold j9;rw[uA h,qM l pc i h]
 cases ((List.range' 0 i).filter λi=>gF l [10] i).getLast? with
 | none=>simp
 | some j=>
  dsimp only;rw[cH (show ¬ ((j:Int)= -1)by simp+arith)]
end
end
section
section
variable {B:dc} {u:OL} {st dx tx w er tk R qa lf f da:Addr} {t:cK} {c1 d:AV} {q q5 q6 q9 q8:SS} {ks:cL} {z:Nat} {r az:cK}
theorem Aq:("\x00":Str)=S [0]:=by kernel_rfl
theorem zx:("�":Str)=S [65533]:=by kernel_rfl
theorem vX (hB:ej B) (hu:eI B st dx tx w er t 4 156 [.str [62]] (.str r) q q5) (hc:eI B st dx tx w er t 4 133 [] d q5 q6) (hr:r.length<=1000000) (h0:0∉r) (hk:ks.length<=1000):
 de B 5 598 [.ref tk] (tS st dx tx w er tk R lf qa t q f c1 ks u) λd o=>d=.bool true/\o=tS st dx tx w er tk R lf qa t q6 304 c1 (ks++[.dct [("type",.int 6),("data",.str r)]]) u:=by
 have e:gQ r [0] [65533]=r:=nb (List.cons_ne_nil _ _) (uF h0)
 refine pK ["self"] ["data"] (by rw[hB.K];rfl) (by rw[hB.K];kernel_rfl) (.one λy=>rfl) λL=>?_
 refine⟨.ret (.bool true),[("self",some (.ref tk)),("data",some (.str r))],tS st dx tx w er tk R lf qa t q6 304 c1 (ks++[.dct [("type",.int 6),("data",.str r)]]) u,Pj (a6:=⟨[("self",some (.ref tk)),("data",some (.str r))],tS st dx tx w er tk R lf qa t q5 f c1 ks u⟩) (Mk.assignCall rfl rfl) (jf (eW [tk,st,tx,er,qa] ⟨[("self",some (.slot 0)),("data",none)],gB dx w R lf t q f (.av c1) ks [] [],u⟩ ⟨[("self",some (.slot 0)),("data",some (.av (.str r)))],gB dx w R lf t q5 f (.av c1) ks [] [],u⟩ [.call 0 (.av (.str r)) (gB dx w R lf t q5 f (.av c1) ks [] []) u 4] .next (dL hB) (_root_.Mine.qa trivial (hu (dE [tk,st,tx,er,qa] u [Q2 R lf f (.av c1),(4,.list ks [])]))))) ?_,rfl,rfl⟩
 refine ow Aq zx iV (.skip .hit) (dN hr (by decide)) ?_
 rw[e];exact HN (eW [tk,st,tx,er,qa] ⟨[("self",some (.slot 0)),("data",some (.av (.str r)))],gB dx w R lf t q5 f (.av c1) ks [] [],u⟩ ⟨[("self",some (.slot 0)),("data",some (.av (.str r)))],gB dx w R lf t q6 304 (.av c1) ks [.av (JT r)] [],u⟩
  [.call 0 (.av d) (gB dx w R lf t q6 f (.av c1) ks [.av (JT r)] []) u 4] (.ret (.av (.bool true))) (dL hB) (_root_.Mine.qa (_root_.Mine.qa trivial (iu 0 hk)) (hc (dE [tk,st,tx,er,qa] u [Q2 R lf f (.av c1),(4,.list ks [.av (JT r)])]))))
end
end
section
noncomputable abbrev gY (ty:Int) (nm:cK) (la:Addr) (sc:Bool) (tl:FL):AO:=.dict (("type",.int ty)::("name",.str nm)::("data",.ref la)::("selfClosing",.bool sc)::tl)
noncomputable def Fp (ty:Int) (nm:cK) (sc:Bool) (tl:List (Str×DV)) (as:cL) (ps:cR) (r:cV):cV:=
 (5,.dict (("type",.av (.int ty))::("name",.av (.str nm))::("data",.slot 6)::("selfClosing",.av (.bool sc))::tl))::(6,.list as ps)::r
noncomputable def JY (k v:cK):Nat×DO:=(7,.list [] [.av (.str k),.av (.str v)])
section
variable {B:dc} {R:OL} {st dx tx w er g v u lf f da la lb:Addr} {t:cK} {q q5 q6:SS} {ks as:cL} {z:Nat} {r ky vl nm:cK} {sc:Bool}
end
end
section
noncomputable def lE (c:Nat):Nat:=if (decide (65<=c)&&decide (c<=90))=true then c+32 else c
noncomputable abbrev dM (x:cK):cK:=x.map lE
theorem ye (x:cK):dT (x.map λc=>AV.str [lE c])=some (x.map λc=>[lE c]):=by
 induction x with
 | nil=>rfl
 | cons a r ih=>show(dT (r.map λc=>AV.str [lE c])).map _ = _;rw[ih];rfl
theorem sN (x:cK):(x.map λc=>[lE c]).flatten=dM x:=by
 induction x with
 | nil=>rfl
 | cons a r ih=>exact cG (lE a::·) ih
theorem zo:("":Str)=S []:=by kernel_rfl
theorem vp (x:cK):eU (λy=>true) (λi=>AV.str [lE (x.getD i 0)]) x.length=x.map λc=>AV.str [lE c]:=by
 have ke:∀ n,n<=x.length->eU (λy=>true) (λi=>AV.str [lE (x.getD i 0)]) n=(x.take n).map λc=>AV.str [lE c]:=λn=>by
  induction n with
  | zero=>exact λy=>rfl
  | succ n ih=>
   intro h
   conv=>lhs;unfold eU
   rw[cJ rfl,ih (Nat.le_of_succ_le h),List.take_add_one,bq h,ci,bp,bq h];rfl
 rw[ke _ (cB _),List.take_length]
theorem Hk {z:Nat} (h:(decide (65<=z)&&decide (z<=90))=true):0<=(z:Int)+32/\(z:Int)+32<=1114111:=by
 have:=of_decide_eq_true (eB h)
 omega
theorem rh {B:dc} (hB:ej B) {x:cK} (hz:x.length<=100000):gD B 2 42 [.str x] (.str (dM x)):=λo8=>by
 refine pK ["text"] [] (by rw[hB.K];rfl) (by rw[hB.K];kernel_rfl) (.one λy=>rfl) λL=>?_
 refine⟨.ret (.str (dM x)),[("text",some (.str x))],o8,gT (gS (qX (ie zo) (wl PySem.F.slot_str_join PySem.F.type_str_join) gV (dy
  (uz (N:=x.length) (d:=.str x) ["c"] (λy=>true) (λi=>.str [lE (x.getD i 0)]) (dN hz (by decide)) (d9 dP) (λxv=>vg) ?_ rfl) dK)
  (sN x▸vF (ms:=x.map λc=>[lE c]) (by rw[vp];exact ye x) (by rw[sN,cq];exact dN hz (by decide))))),rfl,rfl⟩
 intro i hi
 generalize x.getD i 0=z
 refine⟨λC p q=>⟨[("c",some (.str [z]))],[("c",some (.str [z]))],fX (fW .hit),li,λy=>?_⟩⟩
 unfold lE
 by_cases h:(decide (65<=z)&&decide (z<=90))=true
 . rw[cJ h]
   exact tf [] ⟨[("c",some (.av (.str [z])))],[],p::q::o8⟩ ⟨[("c",some (.av (.str [z])))],[],p::q::o8⟩ [.br true] (.av (.str [z+32])) (dL hB) (qa (qa trivial h) (Hk h))
 . rw[cH h]
   have h:=bQ.mpr h
   exact tf [] ⟨[("c",some (.av (.str [z])))],[],p::q::o8⟩ ⟨[("c",some (.av (.str [z])))],[],p::q::o8⟩ [.br false] (.av (.str [z])) (dL hB) (qa trivial h)
end
section
section
variable {P:Params} {G:Heap} {F F':Fz} {h:Heap} {la da:Addr} {as:cL} {fs gs:FL} {x:Str} {R:OL}
theorem tA {P:Params} {F:Fz} {es:List DictEntry} {y:Str} {d:AV} {l:FL} (h:IsEnts P F es ((y,d)::l)):∃ t v e7,es=⟨PyData.keyHash P y,.str y t,v⟩::e7/\Is P F v d/\IsEnts P F e7 l:=by
 cases h with
 | cons a b=>exact⟨_,_,_,rfl,a,b⟩
theorem IsEnts.retell {d d':AV} (le:F.le F') (k:∀ v,Is P F v d->Is P F' v d') (fs:FL):∀ {es:List DictEntry},IsEnts P F es (fs++(x,d)::gs)->IsEnts P F' es (fs++(x,d')::gs):=by
 induction fs with
 | nil=>
  intro es h;refine kI (tA h) ?_;rintro t v e7 rfl q r
  exact .cons (k v q) (r.mono le)
 | cons a fs ih=>
  intro es h;refine kI (tA (y:=a.1) (d:=a.2) h) ?_;rintro t v e7 rfl q r
  exact .cons (q.mono le) (ih r)
theorem gp.frzD (X:gp P G F ((la,.list as)::(da,.dict (fs++(x,.ref la)::gs))::R) h):∃ F',F.le F'/\gp P G F' ((da,.dict (fs++(x,.lst as)::gs))::R) h/\∀ b o,F' b=some o->F b=some o\/b=la:=by
 refine im (X.objs _ dP) ?_;rintro vs m h1 h2
 have le:=Fz.le_put (o:=dZ vs m) (X.apart la dP)
 have nd:=cg.mp X.nodup
 have here:Is P (F.put la (dZ vs m)) (.ref la) (.lst as):=.lst (Fz.put_self ..) (h2.mono le)
 have back:∀ b o,F.put la (dZ vs m) b=some o->F b=some o\/b=la:=λb o e=>by
  unfold Fz.put at e
  by_cases q:b=la
  . exact .inr q
  . rw[cH q]at e;exact .inl e
 refine⟨_,le,⟨λb o e=>le _ _ (X.core b o e),λb o e=>?_,λp hp=>?_,nd.2,λb hb=>?_,X.big⟩,back⟩
 . rcases back b o e with q | rfl
   . exact X.sub b o q
   . rw[Fz.put_self]at e;exact Option.some.inj e▸h1
 . rcases fG hp with rfl | hp
   . refine ud (X.objs (da,.dict (fs++(x,.ref la)::gs)) iV) ?_;rintro ⟨es,k,g1,g2⟩ g3 g4
     refine⟨⟨es,k,g1,IsEnts.retell le (λv q=>by obtain rfl:=dF q;exact here) fs g2⟩,?_,g4⟩
     rw[ci,cv]at g3 |-
     exact g3
   . exact(X.objs p (.tail _ (.tail _ hp))).move le λy y y e=>e
 . cases q:F.put la (dZ vs m) b with
   | none=>rfl
   | some o=>
    rcases back b o q with e | rfl
    . have:=X.apart b (.tail _ hb);rw[e]at this;contradiction
    . exact cI hb nd.1
end
theorem de.preD {B:dc} {n:Nat} {f la da:Addr} {ay as:cL} {fs gs:FL} {x:Str} {R:OL} {Φ:AV->OL->Prop} (c:de B n f ay ((da,.dict (fs++(x,.lst as)::gs))::R) Φ):de B n f ay ((la,.list as)::(da,.dict (fs++(x,.ref la)::gs))::R) Φ:=
 λA F s vs hA X hv=>by
  refine jM X.frzD ?_;rintro F' le y back
  refine codeAny_mono (c A F' s vs hA y (hv.mono le)) λr s' ⟨v,d,o3,F'',a,b,y',p,q⟩=>?_
  exact⟨v,d,o3,F'',a,b,y',⟨λb o hb=>p.keep b o λh=>hb (.tail _ h),λb hb=>(p.own b hb).imp_left (.tail _),
   λb o e=>Or.elim (p.frz b o e) (λw=>Or.imp_right (λ(z:b=la)=>Or.inl (List.mem_cons.mpr (.inl z))) (back b o w)) λw=>.inr (Or.imp_left (.tail _) w),le.trans p.mono,p.gens,p.os⟩,q⟩
end
section
noncomputable abbrev qg (b:Bool):FL:=bif b then [("selfClosingAcknowledged",.bool false)] else []
noncomputable abbrev Fa (b:Bool):List (Str×DV):=bif b then [("selfClosingAcknowledged",.av (.bool false))] else []
noncomputable abbrev mN (b:Bool):Int:=bif b then 3 else 4
section
variable {B:dc} {R:OL} {st dx tx w er g v u lf f da la lb:Addr} {t:cK} {q q5 q6:SS} {ks as:cL} {z:Nat} {r ky vl nm:cK} {sc b:Bool} {ps:cR}
theorem LI (ks:cL) (f:Addr) (q:SS) (ky vl:cK):dE [g,st,tx,er,u,da,la,lb] R (gB dx w v lf t q f (.slot 5) ks [] (Fp (mN b) nm sc (Fa b) as [.slot 7] [JY ky vl]))=tS st dx tx w er g v lf u t q f (.ref da) ks ((da,gY (mN b) nm la sc (qg b))::(la,.list (as++[.ref lb]))::(lb,.list [.str ky,.str vl])::R):=by
 rcases b with _ | _<;>rfl
end
end
section
noncomputable abbrev JF (ty:Int) (nm:cK) (as:cL) (sc:Bool) (tl:FL):AO:=.dict (("type",.int ty)::("name",.str nm)::("data",.lst as)::("selfClosing",.bool sc)::tl)
noncomputable def yE (ty:Int) (nm:cK) (d:DV) (sc:Bool) (tl:List (Str×DV)):Nat×DO:=(5,.dict (("type",.av (.int ty))::("name",.av (.str nm))::("data",d)::("selfClosing",.av (.bool sc))::tl))
noncomputable abbrev EG (nm:cK) (ps:List (cK×AV)) (sc:Bool):AV:=.dct [("type",.int 3),("name",.str (dM nm)),("data",.dct (jA ps)),("selfClosing",.bool sc),("selfClosingAcknowledged",.bool false)]
noncomputable abbrev tI (nm:cK) (ps:List (cK×AV)) (sc:Bool):AV:=.dct [("type",.int 4),("name",.str (dM nm)),("data",.lst (ps.map dh)),("selfClosing",.bool sc)]
noncomputable def eK (nm:cK) (ps:List (cK×AV)) (sc b:Bool):cL:=
 if b=true then [EG nm ps sc] else (if ps.isEmpty=true then [] else [eE "attributes-in-end-tag"])++((if sc=true then [eE "self-closing-flag-on-end-tag"] else [])++[tI nm ps sc])
section
variable {B:dc} {R:OL} {st dx tx w er g v u lf f da:Addr} {t:cK} {q:SS} {ks:cL} {nm:cK} {ps:List (cK×AV)} {sc:Bool}
abbrev Nu (B:dc) (g:Addr) (o o':OL):Prop:=de B 3 297 [.ref g] o λd z=>d=.none/\z=o'
theorem BG (hB:ej B) (hn:nm.length<=100000) (hp:ps.length<=1000) (hk:ks.length<=1000):
 Nu B g (tS st dx tx w er g v lf u t q f (.ref da) ks ((da,JF 4 nm (ps.map dh) sc [])::R)) (tS st dx tx w er g v lf u t q 304 (.ref da) (ks++eK nm ps sc false) R):=by
 have hl:=rh (x:=nm) hB hn
 have hz:(ps.map dh).length<=16777216:=by rw[cq];exact dN hp (by decide)
 have he:(ps.map dh).isEmpty=ps.isEmpty:=by rcases ps with _ | _<;>rfl
 rcases hb:ps.isEmpty with _ | _
 . rcases sc with _ | _
   . exact jE ["self"] [g,st,tx,er,u,da] [.slot 0] (gB dx w v lf t q f (.slot 5) ks [] [yE 4 nm (.av (.lst (ps.map dh))) false []]) R [.br true,.call 0 (.av (.str (dM nm))) (gB dx w v lf t q f (.slot 5) ks [] [yE 4 nm (.av (.lst (ps.map dh))) false []]) R 2,.br false,.br true,.br true,.br false] (.av .none) (gB dx w v lf t q 304 (.slot 5) ks [.av (eE "attributes-in-end-tag"),.av (tI nm ps false)] []) R hB (qa (qa (qa (qa (qa (qa (qa (qa (qa trivial tt) (hl (dE [g,st,tx,er,u,da] R (gB dx w v lf t q f (.slot 5) ks [] [yE 4 nm (.av (.lst (ps.map dh))) false []])))) ff) tt) hz) (show(!(ps.map dh).isEmpty)=true by rw[he,hb];rfl)) (iu 0 hk)) ff) (iu 1 hk)) (e2:=by unfold eK;rw[hb];rfl)
   . exact jE ["self"] [g,st,tx,er,u,da] [.slot 0] (gB dx w v lf t q f (.slot 5) ks [] [yE 4 nm (.av (.lst (ps.map dh))) true []]) R [.br true,.call 0 (.av (.str (dM nm))) (gB dx w v lf t q f (.slot 5) ks [] [yE 4 nm (.av (.lst (ps.map dh))) true []]) R 2,.br false,.br true,.br true,.br true] (.av .none) (gB dx w v lf t q 304 (.slot 5) ks [.av (eE "attributes-in-end-tag"),.av (eE "self-closing-flag-on-end-tag"),.av (tI nm ps true)] []) R hB (qa (qa (qa (qa (qa (qa (qa (qa (qa (qa trivial tt) (hl (dE [g,st,tx,er,u,da] R (gB dx w v lf t q f (.slot 5) ks [] [yE 4 nm (.av (.lst (ps.map dh))) true []])))) ff) tt) hz) (show(!(ps.map dh).isEmpty)=true by rw[he,hb];rfl)) (iu 0 hk)) tt) (iu 1 hk)) (iu 2 hk)) (e2:=by unfold eK;rw[hb];rfl)
 . rcases sc with _ | _
   . exact jE ["self"] [g,st,tx,er,u,da] [.slot 0] (gB dx w v lf t q f (.slot 5) ks [] [yE 4 nm (.av (.lst (ps.map dh))) false []]) R [.br true,.call 0 (.av (.str (dM nm))) (gB dx w v lf t q f (.slot 5) ks [] [yE 4 nm (.av (.lst (ps.map dh))) false []]) R 2,.br false,.br true,.br false,.br false] (.av .none) (gB dx w v lf t q 304 (.slot 5) ks [.av (tI nm ps false)] []) R hB (qa (qa (qa (qa (qa (qa (qa (qa trivial tt) (hl (dE [g,st,tx,er,u,da] R (gB dx w v lf t q f (.slot 5) ks [] [yE 4 nm (.av (.lst (ps.map dh))) false []])))) ff) tt) hz) (show(!(ps.map dh).isEmpty)=false by rw[he,hb];rfl)) ff) (iu 0 hk)) (e2:=by unfold eK;rw[hb];rfl)
   . exact jE ["self"] [g,st,tx,er,u,da] [.slot 0] (gB dx w v lf t q f (.slot 5) ks [] [yE 4 nm (.av (.lst (ps.map dh))) true []]) R [.br true,.call 0 (.av (.str (dM nm))) (gB dx w v lf t q f (.slot 5) ks [] [yE 4 nm (.av (.lst (ps.map dh))) true []]) R 2,.br false,.br true,.br false,.br true] (.av .none) (gB dx w v lf t q 304 (.slot 5) ks [.av (eE "self-closing-flag-on-end-tag"),.av (tI nm ps true)] []) R hB (qa (qa (qa (qa (qa (qa (qa (qa (qa trivial tt) (hl (dE [g,st,tx,er,u,da] R (gB dx w v lf t q f (.slot 5) ks [] [yE 4 nm (.av (.lst (ps.map dh))) true []])))) ff) tt) hz) (show(!(ps.map dh).isEmpty)=false by rw[he,hb];rfl)) tt) (iu 0 hk)) (iu 1 hk)) (e2:=by unfold eK;rw[hb];rfl)
end
end
section
section
variable {B:dc} {R:OL} {st dx tx w er g v u lf f da:Addr} {t:cK} {q:SS} {ks:cL} {nm:cK} {ps:List (cK×AV)} {sc:Bool}
theorem OB {x:Str} {y:AV} {l r:LL}:∀ z d,(z,some d)∈l++(x,none)::r->(z,some d)∈l++(x,some y)::r:=λz d h=>by
 rcases cf.mp h with h | h
 . exact bB _ h
 . rcases fG h with h | h
   . exact nomatch h
   . exact bz _ (.tail _ h)
noncomputable abbrev sr (g da:Addr) (raw data:cS):LL:=[("self",some (.ref g)),("token",some (.ref da)),("raw",raw),("data",data)]
noncomputable abbrev C2 (nm:cK) (d:AV) (sc:Bool):AO:=.dict [("type",.int 3),("name",.str nm),("data",d),("selfClosing",.bool sc),("selfClosingAcknowledged",.bool false)]
noncomputable def nD (nm:cK) (d:AV) (sc:Bool):Nat×DO:=(5,.dict [("type",.av (.int 3)),("name",.av (.str nm)),("data",.av d),("selfClosing",.av (.bool sc)),("selfClosingAcknowledged",.av (.bool false))])
noncomputable def R9 (raw:cS):cZ:=[("self",some (.slot 0)),("token",some (.slot 5)),("raw",raw.map .av),("data",none)]
theorem nf {X:Cx} {cl:List (Str×Nat)} {p:Prop} {ss:cM} (ρ:cP) (D D':DS) (aA:List fj) (fd:DF) (O:gH ⟨X,fT X.B.P,ρ,ua,cl⟩) (hq:p) (e:autoParam (qm O ss D aA=some (fd,⟨D',0,[],p⟩)) bK):fx X ss (D.to ρ) (fd.to ρ) (D'.to ρ):=mT O hq e
theorem sD {X:Cx} {cl:List (Str×Nat)} {p:Prop} {e:Expr} {b:Bool} (ρ:cP) (D D':DS) (aA:List fj) (O:gH ⟨X,fT X.B.P,ρ,ua,cl⟩) (hq:p) (h:autoParam (vj O e D aA=some (b,⟨D',0,[],p⟩)) bK):Te X e (D.to ρ) b (D'.to ρ):=pF O hq h
theorem Hb {X:Cx} {ss:cM} {σ a6 σ':St} {f:Fl} (e:a6=σ) (h:fx X ss a6 f σ'):fx X ss σ f σ':=e▸h
noncomputable abbrev eD (dx w v lf:Addr) (t:cK) (q:SS) (sc:Bool) (R:OL) (f:Addr) (ks:cL) (ps:cR) (r:cV) (raw:cS):DS:=⟨R9 raw,gB dx w v lf t q f (.slot 5) ks ps r,R⟩
theorem xF (hB:ej B) (hn:nm.length<=100000) (hp:ps.length<=1000) (hk:ks.length<=1000):
 Nu B g (tS st dx tx w er g v lf u t q f (.ref da) ks ((da,C2 nm (.lst (ps.map dh)) sc)::R)) (tS st dx tx w er g v lf u t q 304 (.ref da) (ks++eK nm ps sc true) R):=by
 have hl:=rh (x:=nm) hB hn
 have hz:(ps.map dh).length<=16777216:=by rw[cq];exact dN hp (by decide)
 refine pK ["self"] ["token","raw","data"] (by rw[hB.K];rfl) (by rw[hB.K];kernel_rfl) (.one λy=>rfl) λL=>?_
 refine⟨.next,sr g da (some (.lst (ps.map dh))) none,_,?_,rfl,rfl⟩
 refine Hb (a6:=DS.to [g,st,tx,er,u,da] ⟨[("self",some (.slot 0)),("token",none),("raw",none),("data",none)],gB dx w v lf t q f (.slot 5) ks [] [nD nm (.lst (ps.map dh)) sc],R⟩) (by kernel_rfl) (eN (jf (nf [g,st,tx,er,u,da] _ (eD dx w v lf t q sc R f ks [] [nD nm (.lst (ps.map dh)) sc] none) [] .next (dL hB) trivial))
  (eN (nF (sD [g,st,tx,er,u,da] _ (eD dx w v lf t q sc R f ks [] [nD nm (.lst (ps.map dh)) sc] none) [.br true] (dL hB) (_root_.Mine.qa trivial tt)) (a9:=DS.to [g,st,tx,er,u,da] (eD dx w v lf t q sc R f ks [] [nD (dM nm) (.dct (jA ps)) sc] (some (.lst (ps.map dh))))) ?_)
   (eW [g,st,tx,er,u,da] (eD dx w v lf t q sc R f ks [] [nD (dM nm) (.dct (jA ps)) sc] (some (.lst (ps.map dh)))) (eD dx w v lf t q sc R 304 ks [.av (EG nm ps sc)] [] (some (.lst (ps.map dh)))) [] .next (dL hB) (_root_.Mine.qa trivial (iu 0 hk)))))
 refine eN (jf (nf [g,st,tx,er,u,da] _ (eD dx w v lf t q sc R f ks [] [nD (dM nm) (.lst (ps.map dh)) sc] none) [.call 0 (.av (.str (dM nm))) (gB dx w v lf t q f (.slot 5) ks [] [nD nm (.lst (ps.map dh)) sc]) R 2] .next (dL hB) (_root_.Mine.qa trivial (hl (dE [g,st,tx,er,u,da] R (gB dx w v lf t q f (.slot 5) ks [] [nD nm (.lst (ps.map dh)) sc]))))))
  (eN (nF (sD [g,st,tx,er,u,da] _ (eD dx w v lf t q sc R f ks [] [nD (dM nm) (.lst (ps.map dh)) sc] none) [.br true] (dL hB) (_root_.Mine.qa trivial tt)) (a9:=DS.to [g,st,tx,er,u,da] (eD dx w v lf t q sc R f ks [] [nD (dM nm) (.dct (jA ps)) sc] (some (.lst (ps.map dh))))) ?_)
   (nf [g,st,tx,er,u,da] _ (eD dx w v lf t q sc R f ks [] [nD (dM nm) (.dct (jA ps)) sc] (some (.lst (ps.map dh)))) [.br false] .next (dL hB) (_root_.Mine.qa trivial ff)))
 refine IN (eH (jf (nf [g,st,tx,er,u,da] _ (eD dx w v lf t q sc R f ks [] [nD (dM nm) (.lst (ps.map dh)) sc] (some (.lst (ps.map dh)))) [] .next (dL hB) trivial)) ?_)
 show dH _ _ ⟨sr g da (some (.lst (ps.map dh))) none,tS st dx tx w er g v lf u t q f (.ref da) ks ((da,C2 (dM nm) (.lst (ps.map dh)) sc)::R)⟩ _
 refine jh (λσ=>∃ c,σ=⟨sr g da (some (.lst (ps.map dh))) (some (.ref c)),(c,.dict (ps.foldl gy []))::tS st dx tx w er g v lf u t q f (.ref da) ks ((da,C2 (dM nm) (.lst (ps.map dh)) sc)::R)⟩)
  (yX (y9 (ps:=ps) (eG PySem.Pv.boot_dict (by rw[hB.K];kernel_rfl)) (dy (d9 qf) dK) (dN hp (by decide)) rfl) ?_) ?_
 . intro d σ' z;refine dW z ?_;clear z;rintro c rfl rfl
   exact⟨_,fW (.skip (.skip (.skip .hit))),rfl,c,rfl⟩
 rintro _ ⟨c,rfl⟩;have aE:=qR ps []
 rw[List.length_nil,Nat.zero_add]at aE
 refine eH (a6:=⟨sr g da (some (.lst (ps.map dh))) (some (.ref c)),(c,.dict (jA ps))::tS st dx tx w er g v lf u t q f (.ref da) ks ((da,C2 (dM nm) (.lst (ps.map dh)) sc)::R)⟩) ?_ ?_
 . have hm:(ps.map dh).length=ps.length:=cq _
   unfold jA
   by_cases aG:(ps.foldl gy []).length < ps.length
   . rw[cJ aG]
     refine nF (nE (nw (gG (eG PyProof.Rows.Boot.«len» (by rw[hB.K];kernel_rfl)) gV (dy (d9 qf) dK) (zz hz)) (gG (eG PyProof.Rows.Boot.«len» (by rw[hB.K];kernel_rfl)) gV (dy (d9 Bu) dK) (zP dP (dN aE (dN hp (by decide))))) JA) (cr (cx.mpr (hm▸aG)))) (eN (FP (d:=.none) (qX (d9 Bu) (Gn dP PySem.F.slot_dict_update PySem.F.type_dict_update) gV (dy (Li (d9 qf) (FA iP) hz) dK) ?_)) fO)
     rw[<-List.map_reverse];exact Bk (ps:=ps.reverse) (by rw[List.length_reverse];omega) rfl
   . rw[cH aG]
     exact na (nE (nw (gG (eG PyProof.Rows.Boot.«len» (by rw[hB.K];kernel_rfl)) gV (dy (d9 qf) dK) (zz hz)) (gG (eG PyProof.Rows.Boot.«len» (by rw[hB.K];kernel_rfl)) gV (dy (d9 Bu) dK) (zP dP (dN aE (dN hp (by decide))))) JA) (cc λh=>aG (hm▸cx.mp h))) fO
 refine eH (Bp (c:=c) (d9 Bu) (d9 iV) (ie (l:=sg "data") (mq _)) .head (.skip (by kernel_rfl) (.skip (by kernel_rfl) .hit)) (.tail (.tail (.tail (.tail (.tail .head))))) (by simp)) ?_
 exact ll (lg:=sr g da (some (.lst (ps.map dh))) none) (j5 ⟨rfl,rfl⟩) (OB (l:=[_,_,_])) (eT (by kernel_rfl))
end
end
section
section
variable {B:dc} {R:OL} {st dx tx w er g v u lf f f' da la lb:Addr} {t:cK} {q:SS} {ks as:cL} {nm ky vl:cK} {ps:List (cK×AV)} {sc b:Bool} {n:Nat} {ay:cL} {Φ:AV->OL->Prop} {c1:AV}
theorem L0 {ty:Int} {tl:FL} (c:de B n f' ay (tS st dx tx w er g v lf u t q f c1 ks ((da,JF ty nm as sc tl)::R)) Φ):de B n f' ay (tS st dx tx w er g v lf u t q f c1 ks ((da,gY ty nm la sc tl)::(la,.list as)::R)) Φ:=by
 refine de.perm (o5:=(la,.list as)::(da,gY ty nm la sc tl)::tS st dx tx w er g v lf u t q f c1 ks R) ?_ (de.preD (fs:=[("type",.int ty),("name",.str nm)]) (gs:=("selfClosing",.bool sc)::tl) (de.perm (o5:=tS st dx tx w er g v lf u t q f c1 ks ((da,JF ty nm as sc tl)::R)) ?_ c λd q h=>⟨q,.refl _,h⟩)) λd q h=>⟨q,.refl _,h⟩
 . exact List.Perm.trans (List.perm_append_comm_assoc [_,_,_,_,_] [_,_] R) (.swap _ _ _)
 . exact(List.perm_append_comm_assoc [_,_,_,_,_] [_] R).symm
theorem Kw {ty:Int} {tl:FL} (c:de B n f' ay (tS st dx tx w er g v lf u t q f c1 ks ((da,gY ty nm la sc tl)::(la,.list (as++[.lst [.str ky,.str vl]]))::R)) Φ):
 de B n f' ay (tS st dx tx w er g v lf u t q f c1 ks ((da,gY ty nm la sc tl)::(la,.list (as++[.ref lb]))::(lb,.list [.str ky,.str vl])::R)) Φ:=by
 refine de.perm (o5:=(lb,.list [.str ky,.str vl])::(la,.list (as++[.ref lb]))::tS st dx tx w er g v lf u t q f c1 ks ((da,gY ty nm la sc tl)::R)) ?_ (de.pre (as:=as) (bs:=[]) (de.perm (o5:=tS st dx tx w er g v lf u t q f c1 ks ((da,gY ty nm la sc tl)::(la,.list (as++[.lst [.str ky,.str vl]]))::R)) ?_ c λd q h=>⟨q,.refl _,h⟩)) λd q h=>⟨q,.refl _,h⟩
 . exact List.Perm.trans (List.perm_append_comm_assoc [_,_,_,_,_,_] [_,_] R) (.swap _ _ _)
 . exact(List.perm_append_comm_assoc [_,_,_,_,_,_] [_] R).symm
theorem Qv (hB:ej B) (hn:nm.length<=100000) (hp:ps.length<=1000) (hk:ks.length<=1000):Nu B g (tS st dx tx w er g v lf u t q f (.ref da) ks ((da,gY (mN b) nm la sc (qg b))::(la,.list (ps.map dh))::R)) (tS st dx tx w er g v lf u t q 304 (.ref da) (ks++eK nm ps sc b) R):=by
 rcases b with _ | _
 . exact L0 (BG hB hn hp hk)
 . exact L0 (xF hB hn hp hk)
theorem QQ (hB:ej B) (hn:nm.length<=100000) (hp:ps.length<=999) (hk:ks.length<=1000):Nu B g (tS st dx tx w er g v lf u t q f (.ref da) ks ((da,gY (mN b) nm la sc (qg b))::(la,.list (ps.map dh++[.ref lb]))::(lb,.list [.str ky,.str vl])::R)) (tS st dx tx w er g v lf u t q 304 (.ref da) (ks++eK nm (ps++[(ky,.str vl)]) sc b) R):=by
 have h:=Qv (st:=st) (dx:=dx) (tx:=tx) (w:=w) (er:=er) (g:=g) (v:=v) (lf:=lf) (u:=u) (t:=t) (q:=q) (f:=f) (da:=da) (la:=la) (R:=R) (sc:=sc) (b:=b) (ps:=ps++[(ky,.str vl)]) hB hn (by rw[bM];exact bX hp) hk
 rw[ci]at h
 exact Kw h
end
end
section
section
variable {B:dc} {R:OL} {st dx tx w er g v u lf f f0 da la lb:Addr} {t:cK} {q q5:SS} {ks k0:cL} {nm ky vl:cK} {ps:List (cK×AV)} {sc b:Bool} {c:AV}
noncomputable abbrev yA (st dx tx w er g v lf u da la lb:Addr) (t:cK) (R:OL) (nm:cK) (sc b:Bool) (as:cL) (q:SS) (f:Addr) (ks:cL) (ky vl:cK):OL:=
 tS st dx tx w er g v lf u t q f (.ref da) ks ((da,gY (mN b) nm la sc (qg b))::(la,.list (as++[.ref lb]))::(lb,.list [.str ky,.str vl])::R)
noncomputable abbrev kR (g:Addr) (c:AV) (e:Bool) (n' w':cS):LL:=[("self",some (.ref g)),("data",some c),("leavingThisState",some (.bool true)),("emitToken",some (.bool e)),("name",n'),("_",w')]
noncomputable abbrev Mi (c:AV) (e:Bool) (n':cS) (w':cS):cZ:=[("self",some (.slot 0)),("data",some (.av c)),("leavingThisState",some (.av (.bool true))),("emitToken",some (.av (.bool e))),("name",n'.map .av),("_",w'.map .av)]
noncomputable abbrev yz (dx w v lf:Addr) (t:cK) (R:OL) (nm:cK) (sc b:Bool) (as:cL) (c:AV) (e:Bool) (n' w':cS) (q:SS) (f:Addr) (ks:cL) (ps:cR) (ky vl:cK):DS:=
 ⟨Mi c e n' w',gB dx w v lf t q f (.slot 5) ks ps (Fp (mN b) nm sc (Fa b) as [.slot 7] [JY ky vl]),R⟩
noncomputable def j4 (ps:List (cK×AV)) (ky:cK):cL:=if ps.any (λp=>decide (p.1=ky))=true then [eE "duplicate-attribute"] else []
noncomputable abbrev LW (B:dc) (L:Addr):Cx:=⟨B,4,L,envOf "HTMLTokenizer.attributeNameState" (jo rK) L 542 (.ref 541)⟩
theorem MA {X:Cx} {cl:List (Str×Nat)} {p:Prop} {e:Expr} (ρ:cP) (D D':DS) (aA:List fj) (v:DV) (O:gH ⟨X,fT X.B.P,ρ,ua,cl⟩) (hq:p) (h:autoParam (Eg O e D aA=some (v,⟨D',0,[],p⟩)) bK):Ev X e (D.to ρ) (v.to ρ) (D'.to ρ):=tF O hq h
theorem yu {α:Type} (as:List α) (x:α):(as++[x]).take (fJ (as++[x]).length (-1))=as:=by
 rw[bM];show(as++[x]).take (as.length+1 - 1)=as
 rw[Nat.add_sub_cancel,List.take_append_of_le_length (cB _),List.take_length]
theorem HK {i:Nat} {ky:cK} (h:∀ j (hj:j < ps.length),j < i->ps[j].1≠ky) (hi:ps.length<=i):j4 ps ky=[]:=by
 unfold j4;rw[cH];intro e;obtain⟨p,hp,hk⟩:=List.any_eq_true.mp e;obtain⟨j,hj,rfl⟩:=List.getElem_of_mem hp;exact h j hj (sv hj hi) (of_decide_eq_true hk)
theorem Dd {i:Nat} {ky:cK} (hi:i < ps.length) (h:ps[i].1=ky):j4 ps ky=[eE "duplicate-attribute"]:=
 cJ (List.any_eq_true.mpr ⟨ps[i],bT hi,cr h⟩)
noncomputable abbrev EN (c:AV) (e:Bool) (n' w':AV) (dx w v lf:Addr) (t:cK) (R:OL) (nm:cK) (sc b:Bool) (as:cL) (q:SS) (f:Addr) (ks:cL) (pk:cR) (ky vl:cK) (o:AO):DS:=
 ⟨Mi c e (some n') (some w'),(8,.ao o)::gB dx w v lf t q f (.slot 5) ks pk (Fp (mN b) nm sc (Fa b) as [.slot 7] [JY ky vl]),R⟩
theorem Lk {as ks ks':cL} (h:Nu B g (yA st dx tx w er g v lf u da la lb t R nm sc b as q f ks ky vl) (tS st dx tx w er g v lf u t q 304 (.ref da) ks' R)):
 de B 3 297 [.ref g] (dE [g,st,tx,er,u,da,la,lb] R (gB dx w v lf t q f (.slot 5) ks [] (Fp (mN b) nm sc (Fa b) as [.slot 7] [JY ky vl]))) λd o=>d=.none/\o=dE [g,st,tx,er,u,da,la,lb] R (gB dx w v lf t q 304 (.slot 5) ks' [] []):=by
 rw[LI];exact h
theorem u6 (e:Bool) (hB:ej B) (hn:nm.length<=100000) (hky:ky.length<=100000) (hp:ps.length<=999) (hk:k0.length<=990)
 (h4 : ∀ L,fx (LW B L) ((fQ rK).take 4) ⟨[("self",some (.ref g)),("data",none),("leavingThisState",none),("emitToken",none),("name",none),("_",none)],yA st dx tx w er g v lf u da la lb t R nm sc b (ps.map dh) q f ks ky vl⟩ .next
  (DS.to [g,st,tx,er,u,da,la,lb] (yz dx w v lf t R nm sc b (ps.map dh) c e none none q5 f0 k0 [] ky vl))):
 de B 5 542 [.ref g] (yA st dx tx w er g v lf u da la lb t R nm sc b (ps.map dh) q f ks ky vl) λd o=>d=.bool true/\o=if e=true then tS st dx tx w er g v lf u t q5 304 (.ref da) (k0++j4 ps (dM ky)++eK nm (ps++[(dM ky,.str vl)]) sc b) R
  else yA st dx tx w er g v lf u da la lb t R nm sc b (ps.map dh) q5 f0 (k0++j4 ps (dM ky)) (dM ky) vl:=by
 have hl:=rh (x:=ky) hB hky
 have hz:(ps.map dh).length+1<=16777000:=by rw[cq];exact dN (bX hp) (by decide)
 refine pU ["self"] ["data","leavingThisState","emitToken","name","_"] (by rw[hB.K];rfl) (by rw[hB.K];kernel_rfl) (.one λy=>rfl) λL=>?_
 refine fC 4 (h4 L) ?_
 refine eH (nF (sD [g,st,tx,er,u,da,la,lb] (yz dx w v lf t R nm sc b (ps.map dh) c e none none q5 f0 k0 [] ky vl) (yz dx w v lf t R nm sc b (ps.map dh) c e none none q5 f0 k0 [] ky vl) [.br true] (dL hB) (_root_.Mine.qa trivial tt)) (a9:=⟨kR g c e none none,if e=true then tS st dx tx w er g v lf u t q5 304 (.ref da) (k0++j4 ps (dM ky)++eK nm (ps++[(dM ky,.str vl)]) sc b) R
  else yA st dx tx w er g v lf u da la lb t R nm sc b (ps.map dh) q5 f0 (k0++j4 ps (dM ky)) (dM ky) vl⟩) (IN ?_)) (eu (gT (gS oP)) ⟨_,rfl,rfl,rfl⟩)
 refine eH (jf (nf [g,st,tx,er,u,da,la,lb] (yz dx w v lf t R nm sc b (ps.map dh) c e none none q5 f0 k0 [] ky vl) (yz dx w v lf t R nm sc b (ps.map dh) c e none none q5 f0 k0 [] (dM ky) vl) [.call 0 (.av (.str (dM ky))) (gB dx w v lf t q5 f0 (.slot 5) k0 [] (Fp (mN b) nm sc (Fa b) (ps.map dh) [.slot 7] [JY ky vl])) R 2] .next (dL hB) (_root_.Mine.qa (_root_.Mine.qa (_root_.Mine.qa trivial hz) (hl (dE [g,st,tx,er,u,da,la,lb] R (gB dx w v lf t q5 f0 (.slot 5) k0 [] (Fp (mN b) nm sc (Fa b) (ps.map dh) [.slot 7] [JY ky vl]))))) hz))) ?_
 have e0:DS.to [g,st,tx,er,u,da,la,lb] (yz dx w v lf t R nm sc b (ps.map dh) c e none none q5 f0 k0 [] (dM ky) vl)=⟨kR g c e none none,yA st dx tx w er g v lf u da la lb t R nm sc b (ps.map dh) q5 f0 k0 (dM ky) vl⟩:=cG (St.mk _) (LI ..)
 refine jh (λσ=>∃ n' w',σ=⟨kR g c e n' w',yA st dx tx w er g v lf u da la lb t R nm sc b (ps.map dh) q5 f0 (k0++j4 ps (dM ky)) (dM ky) vl⟩) ?_ ?_
 . refine vE (N:=(ps.map dh).length) (i3:=λi=>(ps.map dh).getD i .any) (λi σ=>(∀ j (hj:j < ps.length),j < i->ps[j].1≠dM ky)/\∃ n' w',σ=⟨kR g c e n' w',yA st dx tx w er g v lf u da la lb t R nm sc b (ps.map dh) q5 f0 k0 (dM ky) vl⟩)
    (yG (HT (l:=ps.map dh++[.ref lb]) (MA [g,st,tx,er,u,da,la,lb] (yz dx w v lf t R nm sc b (ps.map dh) c e none none q5 f0 k0 [] (dM ky) vl) (yz dx w v lf t R nm sc b (ps.map dh) c e none none q5 f0 k0 [] (dM ky) vl) [] (.slot 6) (dL hB) trivial) (FA iP) (.trk NX) ?_) (cG AV.lst (yu _ _))) (λxv=>lq) ⟨λj hj h=>cI h (Nat.not_lt_zero _),none,none,e0⟩ ?_ ?_
   . rw[bM];exact dN hz (by decide)
   . rintro σ ⟨h1,n',w',rfl⟩
     rw[HK h1 (by rw[cq];exact cB _),cm]
     exact⟨rfl,n',w',rfl⟩
   . rintro i l9 o8 a p hi ⟨h1,n',w',e1⟩
     obtain⟨rfl,rfl⟩:=St.mk.inj e1;have b9:i < ps.length:=by rw[cq]at hi;exact hi
     have hit:(ps.map dh).getD i .any=.lst [.str ps[i].1,ps[i].2]:=by rw[bp,bP,bq b9];rfl
     rw[hit];have eq0:DS.to [g,st,tx,er,u,da,la,lb,a] (EN c e (.str ps[i].1) ps[i].2 dx w v lf t R nm sc b (ps.map dh) q5 f0 k0 [] (dM ky) vl (.is p))=⟨kR g c e (some (.str ps[i].1)) (some ps[i].2),(a,.is p)::yA st dx tx w er g v lf u da la lb t R nm sc b (ps.map dh) q5 f0 k0 (dM ky) vl⟩:=by rcases b with _ | _<;>rfl
     refine⟨⟨kR g c e (some (.str ps[i].1)) (some ps[i].2),(a,.is p)::yA st dx tx w er g v lf u da la lb t R nm sc b (ps.map dh) q5 f0 k0 (dM ky) vl⟩,Ao (fX (fW (.skip (.skip (.skip (.skip .hit)))))) (fX (fW (.skip (.skip (.skip (.skip (.skip .hit))))))),?_⟩
     have eq1:DS.to [g,st,tx,er,u,da,la,lb,a] (EN c e (.str ps[i].1) ps[i].2 dx w v lf t R nm sc b (ps.map dh) q5 f0 k0 [.av (eE "duplicate-attribute")] (dM ky) vl (.is p))=⟨kR g c e (some (.str ps[i].1)) (some ps[i].2),(a,.is p)::yA st dx tx w er g v lf u da la lb t R nm sc b (ps.map dh) q5 f0 (k0++[eE "duplicate-attribute"]) (dM ky) vl⟩:=by rcases b with _ | _<;>rfl
     rw[<-eq0]
     by_cases hk':dM ky=ps[i].1
     . refine De (wN (sD [g,st,tx,er,u,da,la,lb,a] (EN c e (.str ps[i].1) ps[i].2 dx w v lf t R nm sc b (ps.map dh) q5 f0 k0 [] (dM ky) vl (.is p)) (EN c e (.str ps[i].1) ps[i].2 dx w v lf t R nm sc b (ps.map dh) q5 f0 k0 [] (dM ky) vl (.is p)) [.br true] (dL hB) (_root_.Mine.qa (_root_.Mine.qa trivial hz) (cr hk'))) ?_)
       refine eH (jf (nf [g,st,tx,er,u,da,la,lb,a] (EN c e (.str ps[i].1) ps[i].2 dx w v lf t R nm sc b (ps.map dh) q5 f0 k0 [] (dM ky) vl (.is p)) (EN c e (.str ps[i].1) ps[i].2 dx w v lf t R nm sc b (ps.map dh) q5 f0 k0 [.av (eE "duplicate-attribute")] (dM ky) vl (.is p)) [] .next (dL hB) (_root_.Mine.qa trivial (iu 0 (dN hk (by decide)))))) ?_
       rw[eq1];refine ko (r8:=[(a,.is p)]) (bA (l₁:=[(a,AO.is p)])) (eu (Ku Ko) ⟨nofun,.inr ⟨rfl,rfl,_,_,by rw[Dd b9 hk'.symm]⟩⟩)
     . refine eu (eN (na (sD [g,st,tx,er,u,da,la,lb,a] (EN c e (.str ps[i].1) ps[i].2 dx w v lf t R nm sc b (ps.map dh) q5 f0 k0 [] (dM ky) vl (.is p)) (EN c e (.str ps[i].1) ps[i].2 dx w v lf t R nm sc b (ps.map dh) q5 f0 k0 [] (dM ky) vl (.is p)) [.br false] (dL hB) (_root_.Mine.qa (_root_.Mine.qa trivial hz) (cc hk'))) fO) fO) (.inl ⟨rfl,_,_,eq0,λj hj hji=>?_,_,_,rfl⟩)
       rcases Nat.lt_succ_iff_lt_or_eq.mp hji with h | rfl
       . exact h1 j hj h
       . exact λh=>hk' h.symm
 rintro _ ⟨n',w',rfl⟩;refine ll (lg:=kR g c e none none) ?_ ?_ (eT (by kernel_rfl))
 . have hk2:(k0++j4 ps (dM ky)).length<=1000:=by
    rw[bM];refine dN (Nat.add_le_add hk (show(j4 ps (dM ky)).length<=10 from ?_)) (by decide)
    unfold j4
    split<;>decide
   have em:=QQ (st:=st) (dx:=dx) (tx:=tx) (w:=w) (er:=er) (g:=g) (v:=v) (lf:=lf) (u:=u) (t:=t) (q:=q5) (f:=f0) (da:=da) (la:=la) (lb:=lb) (R:=R) (sc:=sc) (b:=b) (ps:=ps) (ky:=dM ky) (vl:=vl) hB hn hp hk2
   clear e0 h4 hl hk
   generalize k0++j4 ps (dM ky)=kz at hk2 em |-
   generalize dM ky=kl at em |-
   generalize hem:eK nm (ps++[(kl,.str vl)]) sc b=ez at em |-
   have eq2:∀ e,DS.to [g,st,tx,er,u,da,la,lb] (yz dx w v lf t R nm sc b (ps.map dh) c e none none q5 f0 kz [] kl vl)=⟨kR g c e none none,yA st dx tx w er g v lf u da la lb t R nm sc b (ps.map dh) q5 f0 kz kl vl⟩:=λe=>cG (St.mk _) (LI ..)
   rw[<-eq2]
   rcases e with _ | _
   . rw[cH bN,<-eq2]
     exact eu (nf [g,st,tx,er,u,da,la,lb] (yz dx w v lf t R nm sc b (ps.map dh) c false none none q5 f0 kz [] kl vl) (yz dx w v lf t R nm sc b (ps.map dh) c false none none q5 f0 kz [] kl vl) [.br false] .next (dL hB) (_root_.Mine.qa trivial ff)) ⟨rfl,rfl⟩
   . rw[cJ rfl]
     refine eu (nf [g,st,tx,er,u,da,la,lb] (yz dx w v lf t R nm sc b (ps.map dh) c true none none q5 f0 kz [] kl vl) ⟨Mi c true none none,gB dx w v lf t q5 304 (.slot 5) (kz++ez) [] [],R⟩ [.br true,.call 0 (.av .none) (gB dx w v lf t q5 304 (.slot 5) (kz++ez) [] []) R 3] .next (dL hB) (_root_.Mine.qa (_root_.Mine.qa trivial tt) (Lk em))) ⟨rfl,rfl⟩
 . intro x d h
   simp only[kR,List.mem_cons,Prod.mk.injEq,reduceCtorEq,and_false,or_false,List.not_mem_nil]at h |-
   rcases h with h | h | h | h
   . exact .inl h
   . exact .inr (.inl h)
   . exact .inr (.inr (.inl h))
   . exact .inr (.inr (.inr (.inl h)))
end
end
section
section
variable {B:dc} {R:OL} {st dx tx w er g v u lf f:Addr} {t:cK} {q q5 q6:SS} {ks as:cL} {z:Nat}
theorem AC (c1:AV) (hB:ej B) (hc:eI B st dx tx w er t 4 133 [] (.str [z]) q q5) (h1:z≠33) (h2:z≠47) (h3:decide ([z]∈iA)=true):
 de B 5 353 [.ref g] (tS st dx tx w er g v lf u t q f c1 ks R) λd o=>d=.bool true/\∃ la da,o=tS st dx tx w er g v lf u t q5 367 (.ref da) ks ((la,.list [])::(da,gY 3 [z] la false (qg true))::R):=
 BD (k:=2) (v:=.av (.bool true)) (o3:=gB dx w v lf t q5 367 (.slot 6) ks [] [(5,.list [] []),(6,.dict [("type",.av (.int 3)),("name",.av (.str [z])),("data",.slot 5),("selfClosing",.av (.bool false)),("selfClosingAcknowledged",.av (.bool false))])]) (r9:=R) ["self"] ["data"] [g,st,tx,er,u] [.slot 0] (gB dx w v lf t q f (.av c1) ks [] []) R [.cs (.av (.str [z])) (ig 1 dx w q5.c q5.c.length q5.i q5.pl q5.pc q5.buf t q5.p q5.es [] []) 4,.br false,.br false,.br true] hB.K (ng hB) rfl (.one λy=>rfl) (hq:=qa (qa (qa (qa (qa trivial hc) (fH h1)) (fH h2)) h3) (tC 5 ⟨[("self",some (.slot 0)),("data",some (.av (.str [z])))],gB dx w v lf t q5 f (.av c1) ks [] [],R⟩))
  (λd o ⟨a,b,h⟩=>⟨h.1,a,b,h.2⟩) (by kernel_rfl) (by kernel_rfl) (by kernel_rfl) (by intro L;kernel_rfl)
theorem Ea (c1:AV) (hB:ej B) (hc:eI B st dx tx w er t 4 133 [] (.str [z]) q q5) (h3:decide ([z]∈iA)=true):
 de B 5 360 [.ref g] (tS st dx tx w er g v lf u t q f c1 ks R) λd o=>d=.bool true/\∃ la da,o=tS st dx tx w er g v lf u t q5 367 (.ref da) ks ((la,.list [])::(da,gY 4 [z] la false (qg false))::R):=
 BD (k:=2) (v:=.av (.bool true)) (o3:=gB dx w v lf t q5 367 (.slot 6) ks [] [(5,.list [] []),(6,.dict [("type",.av (.int 4)),("name",.av (.str [z])),("data",.slot 5),("selfClosing",.av (.bool false))])]) (r9:=R) ["self"] ["data"] [g,st,tx,er,u] [.slot 0] (gB dx w v lf t q f (.av c1) ks [] []) R [.cs (.av (.str [z])) (ig 1 dx w q5.c q5.c.length q5.i q5.pl q5.pc q5.buf t q5.p q5.es [] []) 4,.br true] hB.K (ng hB) rfl (.one λy=>rfl) (hq:=qa (qa (qa trivial hc) h3) (tC 5 ⟨[("self",some (.slot 0)),("data",some (.av (.str [z])))],gB dx w v lf t q5 f (.av c1) ks [] [],R⟩))
  (λd o ⟨a,b,h⟩=>⟨h.1,a,b,h.2⟩) (by kernel_rfl) (by kernel_rfl) (by kernel_rfl) (by intro L;kernel_rfl)
end
end
section
noncomputable def OU:d8:=[[38],[62],[34],[39],[61],[60],[96],[0]]++i7
set_option genCtorIdx true in
inductive nV | data | tag | cl | tn | bn | an | nn | bv | dq | sq | uq | av | sc | bog | mk | cs | cd | co | ce | cn | cb
inductive jt where
 | none | cmt (az:cK) | tag (b:Bool) (nm:cK) (ps:cU) (sc:Bool) (o:Option (cK×cK))
noncomputable abbrev pA (ps:cU):List (cK×AV):=ps.map λp=>(p.1,.str p.2)
noncomputable abbrev nV.addr (s:nV):Addr:=nV.casesOn s 304 353 360 367 535 542 549 556 563 570 577 584 591 598 605 612 619 626 633 640 647
noncomputable def qz (x:Nat):Bool:=decide ([x]∈i7)==true
noncomputable def KH (x:Nat):Bool:=decide ([x]∈iA)==true
noncomputable def GQ (x:Nat):Bool:=decide ([x]∈[[38],[60],[0]])==false
noncomputable def O9 (x:Nat):Bool:=decide ([x]∈[[34],[38],[0]])==false
noncomputable def O8 (x:Nat):Bool:=decide ([x]∈[[39],[38],[0]])==false
noncomputable def Kj (x:Nat):Bool:=decide ([x]∈OU)==false
noncomputable def qH (x:Nat):Bool:=decide (x∈[62])==false
noncomputable def mn (q:SS):AV:=.tup [.int (q.pl+fN 10 q.c q.i+1),.int (j9 q.pc q.c q.i)]
noncomputable def fc (T:cK) (k:Nat):AV:=.tup [.int ((T.take k).count 10+1),.int (gA 0 (T.take k))]
noncomputable abbrev yo (T:cK) (e:Nat×AV):AV:=.tup [fc T (T.length - e.1),e.2]
noncomputable abbrev wj (d:AV) (q:SS):AV:=.tup [mn q,d]
structure Dp (B:dc) (st dx tx w er:Addr) (T:cK) (On:Bool->cK->SS->Prop):Prop where
 char:∀ {f z l q},On f (z::l) q->∃ q',On true l q'/\eI B st dx tx w er T 4 133 [] (.str [z]) q q'/\∃ q'',On true (z::l) q''/\eI B st dx tx w er T 1 163 [.str [z]] .none q' q''
 fin:∀ {f q},On f [] q->∃ q',On true [] q'/\eI B st dx tx w er T 4 133 [] .none q q'
 til:∀ {c5:AV} {m:Nat->Bool} {og:Bool} {ay:cL} {l q},Fq B c5 m->(ay=[c5]/\og=false\/ay=[c5,.bool og])->On true l q->
  ∃ q',On true (l.dropWhile λx=>m x==og) q'/\eI B st dx tx w er T 4 156 ay (.str (l.takeWhile λx=>m x==og)) q q'
 es:∀ {f l q},On f l q->q.es=[]/\{ q with es:=[] }=q
 pos:∀ {f l q},On f l q->mn q=fc T (T.length - l.length)
 len:∀ {f l q},On f l q->l.length<=1000
 no0:∀ {f l q},On f l q->∀ c∈l,c≠0/\c≠38
noncomputable abbrev o0 (d la:Addr) (b:Bool) (nm:cK) (ps:cU) (sc:Bool) (r:OL):OL:=(d,gY (mN b) nm la sc (qg b))::(la,.list ((pA ps).map dh))::r
noncomputable abbrev o1 (d la lb:Addr) (b:Bool) (nm:cK) (ps:cU) (sc:Bool) (ky vl:cK) (r:OL):OL:=(d,gY (mN b) nm la sc (qg b))::(la,.list ((pA ps).map dh++[.ref lb]))::(lb,.list [.str ky,.str vl])::r
def jd (tok:jt) (c1:AV) (r8:OL):Prop:=jt.casesOn tok True (λaz=>∃ d r,c1=.ref d/\r8=(d,Qc az)::r)
 λb nm ps sc o=>Option.casesOn o (∃ d la,c1=.ref d/\((∃ r,r8=o0 d la b nm ps sc r)\/∃ lb qs ky vl r,ps=qs++[(ky,vl)]/\r8=o1 d la lb b nm qs sc ky vl r)) λp=>∃ d la lb r,c1=.ref d/\r8=o1 d la lb b nm ps sc p.1 p.2 r
theorem kW {c:AV} {r:OL}:jd .none c r:=trivial
theorem rX {d la lb:Addr} {b:Bool} {nm:cK} {ps:cU} {sc:Bool} {ky vl:cK} {r:OL}:jd (.tag b nm ps sc (some (ky,vl))) (.ref d) (o1 d la lb b nm ps sc ky vl r):=⟨d,la,lb,r,rfl,rfl⟩
theorem yy {d la:Addr} {b:Bool} {nm:cK} {ps:cU} {sc:Bool} {r:OL}:jd (.tag b nm ps sc none) (.ref d) (o0 d la b nm ps sc r):=⟨d,la,rfl,.inl ⟨r,rfl⟩⟩
theorem Lh {d la lb:Addr} {b:Bool} {nm:cK} {ps:cU} {sc:Bool} {ky vl:cK} {r:OL}:jd (.tag b nm (ps++[(ky,vl)]) sc none) (.ref d) (o1 d la lb b nm ps sc ky vl r):=⟨d,la,rfl,.inr ⟨lb,ps,ky,vl,r,rfl,rfl⟩⟩
section
variable {B:dc} {st dx tx w er g v lf u f f':Addr} {T:cK} {On:Bool->cK->SS->Prop} {n:Nat} {fl:Bool} {q q':SS} {c1 c4:AV} {R r8 r9:OL} {l l':cK} {ks:cL} {rc rd:cW} {tok:jt} {az nm ky vl:cK} {ps:cU} {sc b:Bool}
abbrev Tn (B:dc) (st dx tx w er g v lf u:Addr) (T:cK) (On:Bool->cK->SS->Prop) (n:Nat) (q:SS) (f:Addr) (c1:AV) (r8:OL) (rc:cW):Prop:=zM B st dx tx w er g v lf u T wj (On true []) n q f c1 r8 (rc.map (yo T))
theorem J3:(pA (ps++[(ky,vl)])).map dh=(pA ps).map dh++[.lst [.str ky,.str vl]]:=by rw[pA,ci,ci];rfl
theorem J8 {m:Nat} {ay:cL} {Φ:AV->OL->Prop} (h:jd (.tag b nm ps sc none) c1 r8) (k:∀ da la R,c1=.ref da->de B m f ay (tS st dx tx w er g v lf u T q f' (.ref da) ks ((da,gY (mN b) nm la sc (qg b))::(la,.list ((pA ps).map dh))::R)) Φ):
 de B m f ay (tS st dx tx w er g v lf u T q f' c1 ks r8) Φ:=by
 obtain⟨d,la,rfl,⟨r,rfl⟩ | ⟨lb,qs,ky,vl,r,rfl,rfl⟩⟩:=h
 . exact k _ _ _ rfl
 . have z:=k d la r rfl
   rw[J3]at z
   exact Kw z
theorem JC (S:Dp B st dx tx w er T On) (o:On fl l' q'):(ks.map (λd=>(l'.length,d))++rd).map (yo T)=(q'.es.map λe=>wj (DW e) q')++((ks.map λd=>wj d q')++rd.map (yo T)):=by
 rw[(S.es o).1,ci,List.map_map,List.map_nil,List.nil_append];show _ =(ks.map λd=>AV.tup [mn q',d])++_
 rw[S.pos o];rfl
theorem PA (S:Dp B st dx tx w er T On) (o:On fl l' q') (c:de B 5 f [.ref g] (tS st dx tx w er g v lf u T q f c1 [] r8) λd o=>d=.bool true/\∃ x:AV×OL,Tn B st dx tx w er g v lf u T On n q' f' x.1 x.2 rd/\o=tS st dx tx w er g v lf u T q' f' x.1 ks x.2)
 (hf:fnIn B.K f=true) (hk:ks.length<=16777216):Tn B st dx tx w er g v lf u T On (n+1) q f c1 r8 (ks.map (λd=>(l'.length,d))++rd):=
 ⟨hf,c.mono λd o' ⟨e1,x,h,e2⟩=>⟨q',f',x.1,ks,x.2,e2,.inr ⟨e1,by rw[(S.es o).1];exact cA _,hk,rd.map (yo T),JC S o,by rw[(S.es o).2];exact h⟩⟩⟩
theorem EX {p:Nat->Bool} {l:cK} (h:l.length<=1000):(l.takeWhile p).length<=1000:=dN (bt p).length_le h
theorem jL {a b m:Nat} (ha:a<=5000) (hb:b<=1000) (hm:autoParam (Nat.ble 6000 m=true) bR):a+b<=m:=dN (Nat.add_le_add ha hb) (eP hm)
theorem vU {L:AO} {D:Addr->AO} {c:AV} {fs:Addr} (h:de B 5 f [.ref g] (tS st dx tx w er g v lf u T q fs c1 [] r8) λd o=>d=c/\∃ la da,o=tS st dx tx w er g v lf u T q' f'  (.ref da) [] ((la,L)::(da,D la)::r8)) {Φ:AV->OL->Prop}
 (k:∀ la da,Φ c (tS st dx tx w er g v lf u T q' f' (.ref da) [] ((da,D la)::(la,L)::r8))):de B 5 f [.ref g] (tS st dx tx w er g v lf u T q fs c1 [] r8) Φ:=
 h.perm (.refl _) λd o ⟨e1,la,da,e2⟩=>⟨_,e2▸List.Perm.append_left [_,_,_,_,_] (.swap _ _ _),e1▸k la da⟩
theorem iT {ps:List (cK×AV)}:(eK nm ps sc b).length<=3:=by
 unfold eK
 split
 . exact eP rfl
 . rw[bM,bM]
   refine Nat.add_le_add (b:=1) (d:=2) (by split<;>exact eP rfl) (Nat.add_le_add (b:=1) (d:=1) (by split<;>exact eP rfl) (cB 1))
theorem mI {ps:List (cK×AV)}:(j4 ps ky).length<=1:=by unfold j4;split<;>exact eP rfl
theorem vz (h:ps.length<=900) (m:Nat) (hm:autoParam (Nat.ble 900 m=true) bR):(pA ps).length<=m:=by rw[cq];exact dN h (eP hm)
theorem uj (h:ps.length<=900):((pA ps).map dh).length<=1000:=by rw[cq];exact vz h 1000
theorem LZ {p:cK×cK} (h:ps.length<=900):(pA (ps++[p])).length<=999:=by rw[cq,bM];exact dN (bX h) (by decide)
theorem up {a m:Nat} (h:a<=5000) (hm:autoParam (Nat.ble 5000 m=true) bR):a<=m:=dN h (eP hm)
end
inductive uY:AV->Prop
 | tok {i:Int} {x:cK} (h3:(!decide (i=3))=true) (h4:(!decide (i=4))=true):uY (.dct [("type",.int i),("data",.str x)])
 | erC {x c:cK}:uY (.dct [("type",.int 7),("data",.str x),("datavars",.dct [("data",.str c)])])
 | emit {nm:cK} {ps:List (cK×AV)} {sc b:Bool} {d:AV} (hp:ps.length<=1000) (hv:∀ p∈ps,∃ l,p.2=.str l) (h:d∈eK nm ps sc b):uY d
abbrev kN (ks:cL):Prop:=∀ d∈ks,uY d
structure kt where
 B:dc
 st:Addr
 dx:Addr
 tx:Addr
 w:Addr
 er:Addr
 g:Addr
 v:Addr
 lf:Addr
 u:Addr
 T:cK
 On:Bool->cK->SS->Prop
 hB:ej B
 S:Dp B st dx tx w er T On
noncomputable abbrev kt.tS (M:kt) (q:SS) (f:Addr) (c1:AV) (ks:cL) (r8:OL):OL:=Mine.tS M.st M.dx M.tx M.w M.er M.g M.v M.lf M.u M.T q f c1 ks r8
abbrev kt.To (M:kt) (m:Nat) (f:Addr) (ay:cL) (d:AV) (q q':SS):Prop:=eI M.B M.st M.dx M.tx M.w M.er M.T m f ay d q q'
noncomputable abbrev at' (l:cK) (ks:cL):cW:=ks.map λd=>(l.length,d)
def Ct (M:kt) (n:Nat) (s:nV) (tok:jt) (l:cK) (rc:cW):Prop:=∀ u f q c1 r8,(f=false->s=.data)->M.On f l q->jd tok c1 r8->Tn M.B M.st M.dx M.tx M.w M.er M.g M.v M.lf u M.T M.On n q s.addr c1 r8 rc
noncomputable def u7 (s:nV):Nat:=nV.casesOn s 0 2 2 1 1 2 1 1 1 1 1 2 2 1 2 2 2 2 2 2 2
noncomputable def iR (tok:jt):Nat:=jt.casesOn tok 0 (λaz=>az.length) λy nm ps y o=>nm.length+ps.length+Option.casesOn o 0 λp=>p.1.length+p.2.length+1
abbrev sj (tok:jt) (l:cK):Prop:=iR tok+2*l.length<=900
structure dU (s:nV) (tok:jt) (l:cK) (rs:cW) (s':nV) (t7:jt) (l':cK):Prop where
 len:rs.length+(u7 s'+4*l'.length)<=u7 s+4*l.length
 sz:iR t7+2*l'.length<=iR tok+2*l.length
 ok:sj tok l->∀ e∈rs,uY e.2
 go:sj tok l->∀ M n rc,Ct M n s' t7 l' rc->∃ m,Ct M m s tok l (rs++rc)
def Nx (M:kt) (s:nV) (q:SS) (c1:AV) (r8:OL) (ks:cL) (s':nV) (t7:jt) (q':SS):Prop:=
 de M.B 5 s.addr [.ref M.g] (M.tS q s.addr c1 [] r8) λd o=>d=.bool true/\∃ x:AV×OL,jd t7 x.1 x.2/\o=M.tS q' s'.addr x.1 ks x.2
theorem dz {α:Type} {P:α->Prop}:∀ x∈([]:List α),P x:=λy h=>nomatch h
theorem dC {α:Type} {P:α->Prop} {a:α} {l:List α} (h1:P a) (h2:∀ x∈l,P x):∀ x∈a::l,P x:=λx hx=>by
 rcases fG hx with rfl | hx
 . exact h1
 . exact h2 x hx
theorem mU {α:Type} {P:α->Prop} {a b:List α} (h1:∀ x∈a,P x) (h2:∀ x∈b,P x):∀ x∈a++b,P x:=λx hx=>(cf.mp hx).elim (h1 x) (h2 x)
section
variable {s s1 s2 s':nV} {tok tok1 tok2 t7:jt} {l l1 l2 l':cK} {rs rs1 rs2:cW} {ks:cL} {z:Nat} {b sc:Bool} {nm ky vl az:cK} {ps:cU}
theorem dU.refl:dU s tok l [] s tok l:=⟨Nat.le_of_eq (Nat.zero_add _),cB _,λy=>dz,λy y n y h=>⟨n,h⟩⟩
theorem dU.trans (h1:dU s tok l rs1 s1 tok1 l1) (h2:dU s1 tok1 l1 rs2 s2 tok2 l2):dU s tok l (rs1++rs2) s2 tok2 l2 where
 len:=by rw[bM,Nat.add_assoc];exact dN (bG h2.len _) h1.len
 sz:=dN h2.sz h1.sz
 ok:=λz=>mU (h1.ok z) (h2.ok (dN h1.sz z))
 go:=λz M n rc h=>(h2.go (dN h1.sz z) M n rc h).elim λm hm=>(h1.go z M m _ hm).imp λk hk=>by rw[bS];exact hk
theorem dU.thn (h1:dU s tok l rs s1 tok1 l1) (h2:dU s1 tok1 l1 [] s2 tok2 l2):dU s tok l rs s2 tok2 l2:=cm rs▸h1.trans h2
theorem HF (s:nV):u7 s<=2:=by rcases s<;>exact eP rfl
abbrev Fn (s:nV):Prop:=∀ P,fnIn (fT P) s.addr=true
theorem pV (hl:ks.length+(u7 s'+4*l'.length)<=u7 s+4*l.length) (hs:iR t7+2*l'.length<=iR tok+2*l.length) (ok:sj tok l->kN ks) (h:∀ M:kt,∀ f q c1 r8,sj tok l->(f=false->s=.data)->M.On f l q->jd tok c1 r8->∃ q',M.On true l' q'/\Nx M s q c1 r8 ks s' t7 q') (hf:Fn s):dU s tok l (at' l' ks) s' t7 l' where
 len:=by rw[cq];exact hl
 sz :=hs
 ok :=λz e he=>by obtain⟨d,hd,rfl⟩:=cw.mp he;exact ok z d hd
 go :=λz M n rc D=>⟨n+1,λu f q c1 r8 hf' o hT=>by
  obtain⟨q',o',c⟩:=h { M with u:=u } f q c1 r8 z hf' o hT
  have hz:ks.length<=16777216:=by
   have:=HF s
   have z:iR tok+2*l.length<=900:=z
   omega
  exact PA M.S o' (c.mono λd o2 ⟨e1,x,ht,e2⟩=>⟨e1,x,D u true q' x.1 x.2 (λe=>nomatch e) o' ht,e2⟩) (by rw[M.hB.K];exact hf _) hz⟩
theorem lj {m:Nat} (z:sj tok l) (h:autoParam (Nat.ble 900 m=true) bR):iR tok<=m:=dN (dN (bU _ _) z) (eP h)
theorem rC (hl:ks.length+u7 s'<=u7 s+4) (hs:iR t7<=iR tok+2) (ok:iR tok<=900->kN ks) (h:∀ M:kt,∀ q q5 c1 r8,z≠0->z≠38->iR tok<=900->M.To 4 133 [] (.str [z]) q q5->jd tok c1 r8->Nx M s q c1 r8 ks s' t7 q5) (hf:Fn s:=by intro y;kernel_rfl):dU s tok (z::l) (at' l ks) s' t7 l:=
 pV (hf:=hf) (by rw[bY];omega) (by rw[bY];omega) (λz=>ok (lj z)) λM f q c1 r8 sm y o hT=>by
  have hnz:=M.S.no0 o z dP
  obtain⟨q5,o1,hc,_⟩:=M.S.char o;exact⟨q5,o1,h M q q5 c1 r8 hnz.1 hnz.2 (lj sm) hc hT⟩
theorem PD {p:Nat->Bool}:∀ {l:cK},(l.takeWhile p).length+(l.dropWhile p).length=l.length:=λ{l}=>by
 rw[<-bM,List.takeWhile_append_dropWhile]
theorem rT {c5:cL} {ay:cL} {m:Nat->Bool} {og:Bool} (hj:∀ B,Fq B (.tup c5) m) (ha:ay=[.tup c5]/\og=false\/ay=[.tup c5,.bool og]) (hl:ks.length+u7 s'<=u7 s+4) (hs:iR t7<=iR tok+2+2*(l.takeWhile λx=>m x==og).length) (ok:iR tok<=900->kN ks)
 (h:∀ M:kt,∀ q q5 q6 c1 r8,z≠0->z≠38->iR tok<=900->(l.takeWhile λx=>m x==og).length<=1000->M.To 4 133 [] (.str [z]) q q5->M.To 4 156 ay (.str (l.takeWhile λx=>m x==og)) q5 q6->jd tok c1 r8->Nx M s q c1 r8 ks s' t7 q6) (hf:Fn s:=by intro y;kernel_rfl):
 dU s tok (z::l) (at' (l.dropWhile λx=>m x==og) ks) s' t7 (l.dropWhile λx=>m x==og):=by
 have e:=PD (p:=λx=>m x==og) (l:=l)
 exact pV (hf:=hf) (by rw[bY];omega) (by rw[bY];omega) (λz=>ok (lj z)) λM f q c1 r8 sm y o hT=>by
  have hnz:=M.S.no0 o z dP
  have hl:l.length<=1000:=Nat.le_of_succ_le (M.S.len o)
  obtain⟨q5,o1,hc,_⟩:=M.S.char o;obtain⟨q6,o2,hu⟩:=M.S.til (hj M.B) ha o1;exact⟨q6,o2,h M q q5 q6 c1 r8 hnz.1 hnz.2 (lj sm) (EX hl) hc hu hT⟩
theorem rU (hl:ks.length+u7 s'<=u7 s) (hs:iR t7<=iR tok) (ok:iR tok<=900->kN ks) (h:∀ M:kt,∀ q q5 q6 c1 r8,z≠0->M.To 4 133 [] (.str [z]) q q5->M.To 1 163 [.str [z]] .none q5 q6->jd tok c1 r8->Nx M s q c1 r8 ks s' t7 q6) (hf:Fn s:=by intro y;kernel_rfl):dU s tok (z::l) (at' (z::l) ks) s' t7 (z::l):=
 pV (hf:=hf) (by omega) (Nat.add_le_add_right hs _) (λz=>ok (lj z)) λM f q c1 r8 y y o hT=>by
  have hnz:=M.S.no0 o z dP
  obtain⟨q5,o1,hc,q6,o2,hu⟩:=M.S.char o;exact⟨q6,o2,h M q q5 q6 c1 r8 hnz.1 hc hu hT⟩
theorem rE (hl:ks.length+u7 s'<=u7 s) (hs:iR t7<=iR tok) (ok:iR tok<=900->kN ks) (h:∀ M:kt,∀ q q5 c1 r8,iR tok<=900->M.To 4 133 [] .none q q5->jd tok c1 r8->Nx M s q c1 r8 ks s' t7 q5) (hf:Fn s:=by intro y;kernel_rfl):dU s tok [] (at' [] ks) s' t7 []:=
 pV (hf:=hf) hl hs (λz=>ok (lj z)) λM f q c1 r8 sm y o hT=>by
  obtain⟨q5,o1,hc⟩:=M.S.fin o;exact⟨q5,o1,h M q q5 c1 r8 (lj sm) hc hT⟩
section
variable {M:kt} {q q':SS} {c1 c4:AV} {r8 r9:OL}
theorem aN (k:de M.B 5 s.addr [.ref M.g] (M.tS q s.addr c1 [] r8) λd o=>d=.bool true/\o=M.tS q' s'.addr c4 ks r9) (ht:jd t7 c4 r9):Nx M s q c1 r8 ks s' t7 q':=k.mono λ_ _ ⟨e1,e2⟩=>⟨e1,(c4,r9),ht,e2⟩
theorem Kf (h:jd (.tag b nm ps sc (some (ky,vl))) c1 r8):jd (.tag b nm (ps++[(ky,vl)]) sc none) c1 r8:=by
 obtain⟨d,la,lb,r,rfl,rfl⟩:=h;exact Lh
end
theorem Ki {x:String}:uY (eE x):=.tok (by decide) (by decide)
theorem rA {x:String}:kN [eE x]:=dC Ki dz
theorem tV {ps:List (cK×AV)}:kN (j4 ps ky):=by
 unfold j4
 split
 . exact rA
 . exact dz
theorem uc {ps:cU}:∀ p∈pA ps,∃ l,p.2=.str l:=λp hp=>by
 obtain⟨q,_,rfl⟩:=cw.mp hp;exact⟨_,rfl⟩
end
end
section
section
variable {B:dc} {st dx tx t5 er:Addr} {T l:cK} {k i:Nat} {q:SS} {r8:OL}
theorem Bc (hB:ej B) (h:gi T) (h0:T≠[]):Reads B st dx tx t5 er T true wD (Bv T 0):=λr8=>by
 have hl:T.length<=10240:=dN h.len (by decide)
 have hD:=zS hl
 refine ud (vf h.no13) ?_;rintro n1 n2 n3
 obtain⟨z,hz⟩:∃ z,qh T (-1)=some z:=by
  unfold qh;have hp:0 < T.length:=List.length_pos_iff.mpr h0
  rw[StrLaws.seqIndex_neg (by exact Int.natCast_nonneg _) (by omega)];exact⟨_,bq (by omega)⟩
 have hzm:z∈T:=by
  unfold qh at hz;refine dW (Option.bind_eq_some_iff.mp hz) ?_;rintro i y e
  exact List.mem_of_getElem? e
 refine de.mono (Ci (c:=[]) (sz:=0) (o9:=0) (pl:=0) (pc:=0) (p:=0) (es:=[]) (D:=T) (D1:=T) (D0:=T) (b0:=.none) (lv:=if T.length<=1 then none else some (.int z)) hB (.inl ⟨rfl,rfl⟩) h.size hD (.inl ⟨rfl,h0,rfl⟩) ?_ (by have:=h.len;exact dN ‹_› (eP rfl)) (by have:=h.len;exact dN ‹_› (eP rfl)) (by have:=h.len;simp;exact dN ‹_› (eP rfl)) (by rw[n2];have:=h.len;exact dN ‹_› (eP rfl)) (by rw[n2,n3];have:=h.len;exact dN ‹_› (eP rfl))) λd o e=>⟨e.1,e.2.trans ?_⟩
 . by_cases q:T.length<=1
   . exact .inl ⟨q,cJ q,rfl,rfl⟩
   . exact .inr ⟨Nat.lt_of_not_le q,z,hz,cH q,.inl ⟨λe=>h.no13 (e▸hzm),(h.fine z hzm).2.2,rfl,rfl⟩⟩
 . rw[n1,h.bads]
   have e1:fN 10 [] (0:Int)=0:=iG (l:=[]) (i:=0) (cB _)
   have e2:j9 0 [] (0:Int)=0:=jb (l:=[]) (i:=0) (cB _)
   rw[e1,e2];simp
theorem wu (hB:ej B) (h:gi T) (j:Nat):Reads B st dx tx t5 er T false (Bv T j) (ox T):=λr8=>by
 refine de.mono (wy (c:=T) (sz:=T.length) (o9:=j) (pl:=0) (pc:=0) (p:=T.length) (es:=[]) hB h.size (wM (Int.le_refl _))) λd o e=>⟨e.1,e.2.trans ?_⟩
 rw[iG (cB _),jb (cB _),List.take_length];simp
theorem wC (hB:ej B) (h:gi T):Reads B st dx tx t5 er T false (ox T) (ox T):=λr8=>by
 refine de.mono (wy (c:=[]) (sz:=0) (o9:=0) (pl:=(T.count 10:Nat)) (pc:=gA 0 T) (p:=T.length) (es:=[]) hB h.size (wM (Int.le_refl _))) λd o e=>⟨e.1,e.2.trans ?_⟩
 have e1:fN 10 [] (0:Int)=0:=iG (l:=[]) (i:=0) (cB _)
 have e2:j9 (gA 0 T) [] (0:Int)=gA 0 T:=jb (l:=[]) (i:=0) (cB _)
 rw[e1,e2];simp
inductive On (T:cK):Nat->SS->Prop
 | here {k:Nat}:k<=T.length->On T k (Bv T k)
 | past:On T T.length (ox T)
theorem BN (hB:ej B) (h:gi T) (o:On T k q) (hk:k < T.length):eI B st dx tx t5 er T 4 133 [] (.str [T[k]]) q (Bv T (k+1)):=λr8=>by
 cases o with
 | here _=>exact ur (c:=T) hB hk h.size
 | past=>exact cI hk (Nat.lt_irrefl _)
theorem sx (hB:ej B) (h:gi T) (o:On T T.length q):eI B st dx tx t5 er T 4 133 [] .none q (ox T):=λr8=>by
 have ke:∀ {k q},On T k q->k=T.length->de B 4 133 [.ref st] (oS st dx tx t5 er T q r8) λd o=>d=.none/\o=oS st dx tx t5 er T (ox T) r8:=by
  intro k q o hk
  cases o with
  | here _=>subst hk;exact qt hB (Int.le_refl _) (wu hB h T.length r8)
  | past=>exact qt hB (Int.le_refl _) (wC hB h r8)
 exact ke o rfl
theorem vt (hB:ej B) (h:gi T) (hk:0 < T.length):eI B st dx tx t5 er T 4 133 [] (.str [T[0]]) wD (Bv T 1):=λr8=>
 vC (c:=[]) (sz:=0) (o9:=0) (c':=T) (pl:=0) (pc:=0) (p:=0) (es:=[]) (b4:=.none) hB (Int.le_refl _) h.size hk (Bc hB h (List.ne_nil_of_length_pos hk) r8)
theorem uy (hB:ej B) (h:gi []):eI B st dx tx t5 er [] 4 133 [] .none wD (ox []):=sx (T:=[]) hB h (q:=wD) (.here (cB _))
theorem sY (hB:ej B) (h:gi T) (hk:k < T.length):eI B st dx tx t5 er T 1 163 [.str [T[k]]] .none (Bv T (k+1)) (Bv T k):=λr8=>BS (c:=T) hB hk h.size
theorem zT (hB:ej B) (h:gi T) {c5:AV} {m:Nat->Bool} (hm:Fq B c5 m) {og:Bool} {ay:cL} (ha:ay=[c5]/\og=false\/ay=[c5,.bool og]) (o:On T k q):
 ∃ q',On T (dn (λx=>m x==og) T k) q'/\eI B st dx tx t5 er T 4 156 ay (.str ((T.drop k).takeWhile λx=>m x==og)) q q':=by
 have ha':∀ st:Addr,(AV.ref st::ay=[.ref st,c5]/\og=false\/AV.ref st::ay=[.ref st,c5,.bool og]):=λst=>by
  rcases ha with⟨e,q⟩ | e
  . exact .inl ⟨by rw[e],q⟩
  . exact .inr (by rw[e])
 have aZ:T.length<=1048576:=dN h.len (by decide)
 have aE:∀ (l:cK) (u:Nat->Bool),(l.takeWhile u).length<=l.length:=λl u=>(bt u).length_le
 cases o with
 | here hk=>
  have hr:((T.drop k).takeWhile λx=>m x==og).length<=16777216:=dN (aE _ _) (by rw[c8];have:=h.len;omega)
  have aU:((T.drop k).takeWhile λx=>m x==og)=(T.drop k).take (dn (λx=>m x==og) T k - k):=by
   unfold dn;rw[Nat.add_sub_cancel_left]
   generalize T.drop k=l
   induction l with
   | nil=>rfl
   | cons a l ih=>
    by_cases e:(m a==og)=true
    . rw[bF,cJ e,bY,List.take_succ_cons,<-ih]
    . rw[bF,cH e];rfl
  by_cases hs:dn (λx=>m x==og) T k < T.length
  . refine⟨_,.here (cy hs),λr8=>?_⟩
    have:=pZ (st:=st) (dx:=dx) (tx:=tx) (t5:=t5) (er:=er) (t:=T) (r8:=r8) hB hm (ha' st) (io.stop (q:=Bv T k) hk aZ rfl hs) (by decide) (by
     exact dN (qp _ _ _) h.size)
    have e:sl T (some (k:Int)) (some ((dn (λx=>m x==og) T k:Nat):Int))=(T.drop k).takeWhile λx=>m x==og:=by
     rw[aU];rw[jO];rw[eX (cy hs),eX hk,List.drop_take]
    rw[<-e];exact this
  . have he:dn (λx=>m x==og) T k=T.length:=Nat.le_antisymm (fy _ _ hk) (Nat.le_of_not_lt hs)
    refine⟨ox T,by rw[he];exact .past,λr8=>?_⟩
    have e:sl T (some (k:Int)) none=(T.drop k).takeWhile λx=>m x==og:=by
     rw[aU,he];rw[NV];rw[eX hk,List.take_length,List.take_of_length_le (by rw[c8];exact cB _)]
    have:=pZ (st:=st) (dx:=dx) (tx:=tx) (t5:=t5) (er:=er) (t:=T) (r8:=r8) hB hm (ha' st) (io.last (q:=Bv T k) hk aZ he (wu hB h k)) (by decide) (dN (qp _ _ _) h.size)
    rw[<-e];exact this
 | past=>
  have e0:T.drop T.length=[]:=c9
  have es:dn (λx=>m x==og) T T.length=T.length:=Ag
  refine⟨ox T,by rw[es];exact .past,λr8=>?_⟩
  have:=pZ (st:=st) (dx:=dx) (tx:=tx) (t5:=t5) (er:=er) (t:=T) (r8:=r8) hB hm (ha' st) (io.last (q:=ox T) (cB _) (cA _) rfl (wC hB h)) (by decide) (dN (qp _ _ _) (cA _))
  rw[e0];exact this
structure N3 (T:cK):Prop where
 plain:gi T
 no0:∀ c∈T,c≠0/\c≠38
inductive pH (T:cK):Bool->cK->SS->Prop
 | start:pH T false T wD
 | on {k:Nat} {q:SS} (hk:k<=T.length) (o:On T k q):pH T true (T.drop k) q
theorem Cp {u:Nat->Bool}:∀ {l:cK},l.drop (l.takeWhile u).length=l.dropWhile u:=by
 intro l
 induction l with
 | nil=>rfl
 | cons x l ih=>
  rw[bF,bH]
  by_cases e:u x=true
  . rw[cJ e,cJ e];exact ih
  . rw[cH e,cH e];rfl
theorem f8 {u:Nat->Bool}:T.drop (dn u T k)=(T.drop k).dropWhile u:=by
 unfold dn;rw[<-List.drop_drop,Cp]
theorem eO (h:k < T.length):T.drop k=T[k]::T.drop (k+1):=List.drop_eq_getElem_cons h
theorem lS (h:k<=T.length):pH T true (T.drop k) (Bv T k):=.on h (.here h)
theorem wV:pH T true [] (ox T):=by
 have:=pH.on (T:=T) (cB _) .past
 rwa [c9]at this
theorem zE (hB:ej B) (h:gi T) {f:Bool} {z:Nat} (o:pH T f (z::l) q):∃ q',pH T true l q'/\eI B st dx tx t5 er T 4 133 [] (.str [z]) q q'/\∃ q'',pH T true (z::l) q''/\eI B st dx tx t5 er T 1 163 [.str [z]] .none q' q'':=by
 generalize hl:z::l=l' at o
 induction o using pH.casesOn with
 | start=>
  have hk:0 < T.length:=by rw[<-hl];exact Nat.succ_pos _
  obtain⟨e1,e2⟩:=List.cons.inj (hl.trans (eO hk));rw[e1,e2];exact⟨_,lS hk,vt hB h hk,_,lS (k:=0) (cA _),sY hB h hk⟩
 | @on k q hk o=>
  have hk:k < T.length:=Nat.lt_of_not_le λe=>by rw[List.drop_eq_nil_of_le e]at hl;exact nomatch hl
  obtain⟨e1,e2⟩:=List.cons.inj (hl.trans (eO hk));rw[e1,e2];exact⟨_,lS hk,BN hB h o hk,_,lS (cy hk),sY hB h hk⟩
theorem CS (hB:ej B) (h:gi T) {f:Bool} (o:pH T f [] q):∃ q',pH T true [] q'/\eI B st dx tx t5 er T 4 133 [] .none q q':=by
 generalize hl:([]:cK)=l' at o
 induction o using pH.casesOn with
 | start=>subst hl;exact⟨_,wV,uy hB h⟩
 | @on k q hk o=>
  obtain rfl:k=T.length:=Nat.le_antisymm hk (List.drop_eq_nil_iff.mp hl.symm)
  exact⟨_,hl▸wV,sx hB h o⟩
theorem Dy (hB:ej B) (h:gi T) {c5:AV} {m:Nat->Bool} {og:Bool} {ay:cL} (hm:Fq B c5 m) (ha:ay=[c5]/\og=false\/ay=[c5,.bool og]) (o:pH T true l q):
 ∃ q',pH T true (l.dropWhile λx=>m x==og) q'/\eI B st dx tx t5 er T 4 156 ay (.str (l.takeWhile λx=>m x==og)) q q':=by
 generalize hf:true=f at o
 induction o using pH.casesOn with
 | start=>exact nomatch hf
 | @on k q hk o=>
  obtain⟨q',o',s⟩:=zT hB h hm ha o (st:=st) (dx:=dx) (tx:=tx) (t5:=t5) (er:=er)
  exact⟨q',by rw[<-f8];exact hf▸.on (fy _ _ hk) o',s⟩
theorem G2 {k:Nat} (o:On T k q):mn q=fc T k:=by
 rcases o with⟨hk⟩ | _
 . show AV.tup [.int ((0:Int)+fN 10 T (k:Int)+1),.int (j9 0 T (k:Int))]= _
   rw[iG hk,jb hk,Int.zero_add];rfl
 . show AV.tup [.int (((T.count 10:Nat):Int)+fN 10 [] ((([]:cK).length:Nat):Int)+1),.int (j9 (gA 0 T) [] ((([]:cK).length:Nat):Int))]= _
   rw[iG (cB _),jb (cB _)];show _ =AV.tup [.int ((((T.take T.length).count 10:Nat):Int)+1),.int (gA 0 (T.take T.length))]
   rw[show T.take T.length=T from List.take_length,show(([]:cK).take ([]:cK).length).count 10=0 from rfl]
   show AV.tup [.int (((T.count 10:Nat):Int)+0+1),.int (gA 0 T)]= _
   rw[Int.add_zero]
theorem xB:mn wD=fc T 0:=by
 show AV.tup [.int ((0:Int)+fN 10 [] ((([]:cK).length:Nat):Int)+1),.int (j9 0 [] ((([]:cK).length:Nat):Int))]= _
 rw[iG (cB _),jb (cB _)];rfl
theorem vI {f:Bool} (o:pH T f l q):mn q=fc T (T.length - l.length):=by
 induction o using pH.casesOn with
 | start=>rw[Nat.sub_self];exact xB
 | on hk o=>rw[c8,Nat.sub_sub_self hk];exact G2 o
theorem Lb (hB:ej B) (h:N3 T):Dp B st dx tx t5 er T (pH T) where
 char:=zE hB h.plain
 fin:=CS hB h.plain
 til:=Dy hB h.plain
 es:=λo=>by
  induction o using pH.casesOn with
  | start=>exact⟨rfl,rfl⟩
  | on _ o=>induction o using On.casesOn<;>exact⟨rfl,rfl⟩
 pos:=vI
 len:=λo=>by
  induction o using pH.casesOn with
  | start=>exact h.plain.len
  | on _ _=>rw[c8];exact dN (Nat.sub_le _ _) h.plain.len
 no0:=λo c hc=>by
  induction o using pH.casesOn with
  | start=>exact h.no0 c hc
  | on _ _=>exact h.no0 c ((List.drop_sublist _ T).subset hc)
end
end
section
noncomputable def Mf (σ:St):DS:=⟨σ.loc.map λp=>(p.1,p.2.map .av),[],σ.objs⟩
theorem Bb {σ:St}:(Mf σ).to []=σ:=by
 obtain⟨l,o⟩:=σ;show St.mk (List.map _ (List.map _ l)) o= _
 rw[List.map_map];exact cG (St.mk · o) ((List.map_congr_left λp y=>by obtain⟨x,v⟩:=p;induction v using Option.casesOn<;>rfl).trans (List.map_id l))
theorem Lf {α β:Type} {a a':α} {b b':β} {n n':Nat} {c c':Prop} (h:some (a,b,n,c)=some (a',b',n',c')):a=a'/\b=b'/\n=n'/\c=c':=by
 cases h;exact⟨rfl,rfl,rfl,rfl⟩
section
variable {X:Cx} {σ σ':St} {q:Prop} {cl:List (Str×Nat)} {t:Expr}
theorem dQ {ss:cM} {f:Fl} (ρ:cP) (D:DS) (aA:List fj) (O:gH ⟨X,fT X.B.P,ρ,ua,cl⟩) (hq:q) (h1:autoParam (D.to ρ=σ) bK)
 (e:autoParam (((qm O ss D aA).map λp=>(p.1.to ρ,p.2.D.to ρ,p.2.n,p.2.c))=some (f,σ',0,q)) bK):fx X ss σ f σ':=by
 subst h1
 induction h:qm O ss D aA using Option.casesOn with
 | none=>rw[h]at e;contradiction
 | some p=>
  obtain⟨fd,D',n,o,c⟩:=p;rw[h]at e
  obtain⟨rfl,rfl,rfl,rfl⟩:=Lf (a:=fd.to ρ) (b:=D'.to ρ) e
  exact mT O hq h
theorem Mr {b:Bool} (ρ:cP) (D:DS) (aA:List fj) (O:gH ⟨X,fT X.B.P,ρ,ua,cl⟩) (hq:q) (h1:autoParam (D.to ρ=σ) bK)
 (e:autoParam (((vj O t D aA).map λp=>(p.1,p.2.D.to ρ,p.2.n,p.2.c))=some (b,σ',0,q)) bK):Te X t σ b σ':=by
 subst h1
 induction h:vj O t D aA using Option.casesOn with
 | none=>rw[h]at e;contradiction
 | some p=>
  obtain⟨fd,D',n,o,c⟩:=p;rw[h]at e
  obtain⟨rfl,rfl,rfl,rfl⟩:=Lf (a:=fd) (b:=D'.to ρ) e
  exact pF O hq h
theorem EO {ss:cM} {f:Fl} (aA:List fj) (O:gH ⟨X,fT X.B.P,[],ua,cl⟩) (hq:q)
 (e:autoParam (((qm O ss (Mf σ) aA).map λp=>(p.1.to [],p.2.D.to [],p.2.n,p.2.c))=some (f,σ',0,q)) bK):fx X ss σ f σ':=dQ [] (Mf σ) aA O hq Bb e
theorem dR {b:Bool} (aA:List fj) (O:gH ⟨X,fT X.B.P,[],ua,cl⟩) (hq:q)
 (e:autoParam (((vj O t (Mf σ) aA).map λp=>(p.1,p.2.D.to [],p.2.n,p.2.c))=some (b,σ',0,q)) bK):Te X t σ b σ':=Mr [] (Mf σ) aA O hq Bb e
end
end
section
noncomputable abbrev kt.r (M:kt) (ρ:cP):cP:=M.g::M.st::M.tx::M.er::M.u::ρ
noncomputable abbrev kt.dS (M:kt) (q:SS) (f:Addr) (c1:DV) (ks:cL) (r:cV):cV:=gB M.dx M.w M.v M.lf M.T q f c1 [] (ks.map .av) r
noncomputable abbrev kt.q (M:kt) (q:SS):cV:=ig 1 M.dx M.w q.c q.c.length q.i q.pl q.pc q.buf M.T q.p q.es [] []
noncomputable abbrev dB (b:Bool) (nm:cK) (sc:Bool) (as:cL):cV:=Fp (mN b) nm sc (Fa b) as [] []
noncomputable abbrev dA (b:Bool) (nm:cK) (sc:Bool) (as:cL) (ky vl:cK):cV:=Fp (mN b) nm sc (Fa b) as [.slot 7] [JY ky vl]
theorem c0 {p:Prop} (h:p):True/\p:=⟨trivial,h⟩
theorem O7 (ρ:cP) (e:cL):yC ρ [] (e.map .av)=e:=by rw[jm,List.nil_append,mC,List.map_map];exact List.map_id e
structure Kk (M:kt) (ρ:cP) (c:DV) (r:cV) (R:OL) (c1:AV) (r8:OL):Prop where
 eq:∀ q f e,dE (M.r ρ) R (M.dS q f c e r)=M.tS q f c1 e r8
section
variable {M:kt} {s s':nV} {q q5 q':SS} {c1 c c4:AV} {r8 r9 R R':OL} {ks:cL} {t7:jt} {p:Prop} {b sc:Bool} {nm ky vl:cK} {da la lb:Addr} {as:cL} {ρ:cP} {d d':DV} {r r':cV}
theorem sE:Kk M ρ (.av c1) [] R c1 R:=⟨λq f e=>cG (λx=>M.tS q f c1 x R) (O7 (M.r ρ) e)⟩
theorem sF:Kk M (da::ρ) (.slot 5) [] R (.ref da) R:=⟨λq f e=>cG (λx=>M.tS q f (.ref da) x R) (O7 (M.r (da::ρ)) e)⟩
theorem sB:Kk M [da,la] (.slot 5) (dB b nm sc as) R (.ref da) ((da,gY (mN b) nm la sc (qg b))::(la,.list as)::R):=⟨λq f e=>by
 have h:=O7 (M.r [da,la]) e
 rcases b with _ | _<;>exact cG (λx=>M.tS q f (.ref da) x _) h⟩
theorem sA:Kk M [da,la,lb] (.slot 5) (dA b nm sc as ky vl) R (.ref da) ((da,gY (mN b) nm la sc (qg b))::(la,.list (as++[.ref lb]))::(lb,.list [.str ky,.str vl])::R):=⟨λq f e=>by
 have h:=O7 (M.r [da,la,lb]) e
 rcases b with _ | _<;>exact cG (λx=>M.tS q f (.ref da) x _) h⟩
structure Mv (M:kt) (ρ:cP) (d:DV) (r:cV) (R:OL) (c1:AV) (r8:OL) (d':DV) (r':cV) (c4:AV) (r9:OL):Prop where
 a:Kk M ρ d r R c1 r8
 b:Kk M ρ d' r' R c4 r9
theorem mD:Mv M [] (.av c1) [] R c1 R (.av c1) [] c1 R:=⟨sE,sE⟩
theorem mK:Mv M [da,la] (.slot 5) (dB b nm sc as) R (.ref da) ((da,gY (mN b) nm la sc (qg b))::(la,.list as)::R) (.slot 5) (dB b nm sc as) (.ref da) ((da,gY (mN b) nm la sc (qg b))::(la,.list as)::R):=⟨sB,sB⟩
theorem Kd:Mv M [da,la] (.slot 5) (dB b nm sc as) R (.ref da) ((da,gY (mN b) nm la sc (qg b))::(la,.list as)::R) (.slot 5) [] (.ref da) R:=⟨sB,sF⟩
theorem mV {ky' vl':cK}:Mv M [da,la,lb] (.slot 5) (dA b nm sc as ky vl) R (.ref da) ((da,gY (mN b) nm la sc (qg b))::(la,.list (as++[.ref lb]))::(lb,.list [.str ky,.str vl])::R) (.slot 5) (dA b nm sc as ky' vl') (.ref da) ((da,gY (mN b) nm la sc (qg b))::(la,.list (as++[.ref lb]))::(lb,.list [.str ky',.str vl'])::R):=⟨sA,sA⟩
theorem mO:Mv M [da,la,lb] (.slot 5) (dA b nm sc as ky vl) R (.ref da) ((da,gY (mN b) nm la sc (qg b))::(la,.list (as++[.ref lb]))::(lb,.list [.str ky,.str vl])::R) (.slot 5) (dA b nm sc as ky vl) (.ref da) ((da,gY (mN b) nm la sc (qg b))::(la,.list (as++[.ref lb]))::(lb,.list [.str ky,.str vl])::R):=⟨sA,sA⟩
theorem Qz:Mv M [da,la,lb] (.slot 5) (dA b nm sc as ky vl) R (.ref da) ((da,gY (mN b) nm la sc (qg b))::(la,.list (as++[.ref lb]))::(lb,.list [.str ky,.str vl])::R) (.slot 5) [] (.ref da) R:=⟨sA,sF⟩
theorem R4 {nm':cK}:Mv M [da,la] (.slot 5) (dB b nm sc as) R (.ref da) ((da,gY (mN b) nm la sc (qg b))::(la,.list as)::R) (.slot 5) (dB b nm' sc as) (.ref da) ((da,gY (mN b) nm' la sc (qg b))::(la,.list as)::R):=⟨sB,sB⟩
noncomputable def R6 (K:Frag) (f:Addr):Option Obj×(Value->Sem (cX)):=(K.lookup f,λv=>bindArgs (yd K f) ⟨[v],[]⟩)
noncomputable def R5 (K:Frag) (f:Addr):Option Obj×(Value->Sem (cX)):=(some ⟨(oM K f).cls,(oM K f).dict,.func (yd K f),(oM K f).slots⟩,λv=>pure [(("self":Str),v)])
def M5 (M:kt) (s:nV) (ρ:cP) (d:DV) (r:cV) (R:OL) (q:SS) (c:AV) (q5:SS) (aA:List fj):(Option Obj×(Value->Sem (cX)))×(Addr->Option II):=(R6 (fT M.B.P) s.addr,A9 M.hB 4 s.addr ["self"] (M.r ρ) [.slot 0] (M.dS q s.addr d [] r) R (.cs (.av c) (M.q q5) 4::aA))
noncomputable def L8 (M:kt) (s:nV) (p:Prop) (k:Nat) (q':SS) (s':nV) (d':DV) (ks:cL) (r':cV) (R:OL):(Option Obj×(Value->Sem (cX)))×(Addr->Option II):=(R5 (fT M.B.P) s.addr,Oj (some ⟨p,k,.av (.bool true),M.dS q' s'.addr d' ks r',R⟩))
theorem xG (h:Mv M ρ d r R c1 r8 d' r' c4 r9) (ht:jd t7 c4 r9) (hc:M.To 4 133 [] c q q5) (aA:List fj) (hq:p) (e:autoParam (M5 M s ρ d r R q c q5 aA=L8 M s p 0 q' s' d' ks r' R) bK):Nx M s q c1 r8 ks s' t7 q':=
 aN (MO (M.r ρ) (M.dS q s.addr d [] r) R (.cs (.av c) (M.q q5) 4::aA) true (M.dS q' s'.addr d' ks r') M.hB hq (.one (congrFun (Prod.mk.inj (Prod.mk.inj e).1).2)) (h.a.eq ..) (h.b.eq ..) (Prod.mk.inj (Prod.mk.inj e).1).1 (Prod.mk.inj e).2) ht
theorem JU (M:kt) (q:SS):M.To 1 163 [.none] .none q q:=λy=>tu M.hB
theorem aK (hT:jd (.tag b nm ps sc none) c1 r8) (k:∀ da la R,Nx M s q (.ref da) (o0 da la b nm ps sc R) ks s' t7 q'):Nx M s q c1 r8 ks s' t7 q':=J8 hT λda la R y=>k da la R
theorem aO (hT:jd (.tag b nm ps sc (some (ky,vl))) c1 r8) (k:∀ da la lb R,Nx M s q (.ref da) (o1 da la lb b nm ps sc ky vl R) ks s' t7 q'):Nx M s q c1 r8 ks s' t7 q':=by
 obtain⟨d,la,lb,r,rfl,rfl⟩:=hT;exact k d la lb r
end
section
variable {M:kt} {q q5 q':SS} {c1 c:AV} {r8 R:OL} {p:Prop} {da la lb:Addr}
variable {s s1 s2 s':nV} {tok tok1 tok2 t7:jt} {l l1 l2 l':cK} {rs rs1 rs2:cW} {ks:cL} {z:Nat} {b sc:Bool} {nm ky vl az:cK} {ps:cU}
theorem dU.aft (h1:dU s tok l [] s1 tok1 l1) (h2:dU s1 tok1 l1 rs s2 tok2 l2):dU s tok l rs s2 tok2 l2:=h1.trans h2
noncomputable abbrev tg (b:Bool) (nm:cK) (ps:cU) (sc:Bool):jt:=.tag b nm ps sc none
noncomputable abbrev to (b:Bool) (nm:cK) (ps:cU) (sc:Bool) (ky vl:cK):jt:=.tag b nm ps sc (some (ky,vl))
structure Sm (nm:cK) (ps:cU):Prop where
 n:nm.length<=5000
 p:ps.length<=900
abbrev jR (z:Nat):Prop:=decide ([z]∈i7)=true
abbrev sy (z:Nat):Prop:=decide ([z]∈iA)=true
noncomputable abbrev gt (x:String) (t:d8) (z:Nat):cL:=if decide ([z]∈t)=true then [eE x] else []
theorem nU {t:cK} (ht:∀ y∈t,decide ([y]∈iA)=false) (e:sy z):¬ decide ([z]∈t.map λy=>[y])=true:=λq=>by
 obtain⟨y,hy,q⟩:=cw.mp (of_decide_eq_true q);obtain rfl:=List.head_eq_of_cons_eq q
 exact cI e (bQ.mp (ht _ hy))
noncomputable abbrev oJ (ps:cU) (ky:cK):cL:=j4 (pA ps) (dM ky)
theorem bf {p:Bool} (h:¬ p=true):p=false:=bQ.mpr h
theorem sm (hz:iR (.tag b nm ps sc none)<=900):Sm nm ps:=by
 have hz:nm.length+ps.length+0<=900:=hz
 exact⟨by omega,by omega⟩
theorem so (hz:iR (.tag b nm ps sc (some (ky,vl)))<=900):Sm nm ps/\ky.length<=5000/\vl.length<=5000:=by
 have hz:nm.length+ps.length+(ky.length+vl.length+1)<=900:=hz
 exact⟨⟨by omega,by omega⟩,by omega,by omega⟩
theorem lp (h:Sm nm ps):((pA ps).map dh).length+1<=16777000:=dN (bX (uj h.p)) (by decide)
theorem nh:0+0<=16777216:=by decide
theorem Of:0+1<=16777216:=by decide
theorem Rh:iR (.tag b (nm++[z]) ps sc none)<=iR (.tag b nm ps sc none)+2:=by show(nm++[z]).length+ps.length+0<=nm.length+ps.length+0+2;rw[bM,bx];omega
theorem Ng {p:cK×cK}:iR (.tag b nm (ps++[p]) sc none)<=iR (.tag b nm ps sc (some (ky,vl)))+2:=by show nm.length+(ps++[p]).length+0<=nm.length+ps.length+(ky.length+vl.length+1)+2;rw[bM,bx];omega
theorem OC {p:cK×cK}:iR (.tag b nm (ps++[p]) sc (some ([z],[])))<=iR (.tag b nm ps sc (some (ky,vl)))+2:=by show nm.length+(ps++[p]).length+2<=nm.length+ps.length+(ky.length+vl.length+1)+2;rw[bM,bx];omega
theorem KT:iR (.tag b nm ps sc (some (dM ky,vl)))<=iR (.tag b nm ps sc (some (ky,vl)))+2:=by show nm.length+ps.length+((dM ky).length+vl.length+1)<=_;rw[cq];exact bU _ 2
theorem Ql:iR (.tag b nm ps sc (some (ky++[z],vl)))<=iR (.tag b nm ps sc (some (ky,vl)))+2:=by show nm.length+ps.length+((ky++[z]).length+vl.length+1)<=nm.length+ps.length+(ky.length+vl.length+1)+2;rw[bM,bx];omega
theorem Pe:iR (.tag b nm ps sc (some (ky,vl++[z])))<=iR (.tag b nm ps sc (some (ky,vl)))+2:=by show nm.length+ps.length+(ky.length+(vl++[z]).length+1)<=nm.length+ps.length+(ky.length+vl.length+1)+2;rw[bM,bx];omega
theorem OZ {w:cK}:iR (.tag b nm ps sc (some (ky++([z]++w),vl)))<=iR (.tag b nm ps sc (some (ky,vl)))+2+2*w.length:=by show nm.length+ps.length+((ky++([z]++w)).length+vl.length+1)<=nm.length+ps.length+(ky.length+vl.length+1)+2+2*w.length;rw[bM,bM,bx];omega
theorem H4 {w:cK}:iR (.tag b nm ps sc (some (ky,vl++([z]++w))))<=iR (.tag b nm ps sc (some (ky,vl)))+2+2*w.length:=by show nm.length+ps.length+(ky.length+(vl++([z]++w)).length+1)<=nm.length+ps.length+(ky.length+vl.length+1)+2+2*w.length;rw[bM,bM,bx];omega
theorem Dm (h:Sm nm ps):kN (eK nm (pA ps) sc b):=λy hd=>.emit (vz h.p 1000) uc hd
theorem Bf (h:Sm nm ps):kN (eK nm (pA ps++[(ky,.str vl)]) sc b):=λy hd=>.emit (by rw[bM];exact dN (bX (vz h.p 900)) (by decide)) (mU uc (dC ⟨_,rfl⟩ dz)) hd
theorem MC (h:Sm nm ps):kN (eK nm (pA (ps++[(ky,vl)])) sc b):=λy hd=>.emit (Nat.le_succ_of_le (LZ h.p)) uc hd
theorem iE {p:Bool} {R:cL->Prop} {a:cL} (h:p=true) (k:R a):R (if p=true then a else []):=(cJ h).symm▸k
theorem iF {p:Bool} {R:cL->Prop} {a:cL} (h:¬ p=true) (k:R []):R (if p=true then a else []):=(cH h).symm▸k
theorem Oh (hz:iR (.tag b nm ps sc (some (ky,vl)))<=900):Sm nm (ps++[(ky,vl)]):=by
 have hz:nm.length+ps.length+(ky.length+vl.length+1)<=900:=hz
 exact⟨by omega,by rw[bM];show ps.length+1<=900;omega⟩
noncomputable abbrev kt.eh (M:kt) (R:OL) (q:SS) (k:cL):fj:=.call 0 (.av .none) (M.dS q 304 (.slot 5) k []) R 3
theorem eM (M:kt) (R:OL) (da la:Addr) (q:SS) (f:Addr) (sc b:Bool) (h:Sm nm ps):de M.B 3 297 [.ref M.g] (dE (M.r [da,la]) R (M.dS q f (.slot 5) [] (dB b nm sc ((pA ps).map dh)))) λd o=>d=.none/\o=dE (M.r [da,la]) R (M.dS q 304 (.slot 5) (eK nm (pA ps) sc b) []):=by
 rw[sB.eq,sF.eq];exact Qv M.hB (up h.n) (Nat.le_succ_of_le (vz h.p 999)) (cA _)
theorem QC (M:kt) (R:OL) (da la lb:Addr) (q:SS) (f:Addr) (e:cL) (ky vl:cK) (sc b:Bool) (h:Sm nm ps) (he:autoParam (e.length<=1000) bD):de M.B 3 297 [.ref M.g] (dE (M.r [da,la,lb]) R (M.dS q f (.slot 5) e (dA b nm sc ((pA ps).map dh) ky vl))) λd o=>d=.none/\o=dE (M.r [da,la,lb]) R (M.dS q 304 (.slot 5) (e++eK nm (pA ps++[(ky,.str vl)]) sc b) []):=by
 rw[sA.eq,sF.eq];exact QQ M.hB (up h.n) (vz h.p 999) he
theorem xY (z:Nat) (M:kt) (R:OL) (q:SS) (f:Addr) (k:cS) (b:Bool) (nm:cK) (ps:cU) (sc:Bool):DS.bel 7 ⟨[("self",some (.slot 0)),("data",some (.av (.str [z])))],M.dS q f (.slot 5) k.toList (dB b nm sc ((pA ps).map dh)),R⟩=true:=by
 rcases k with _ | k<;>rcases b with _ | _<;>kernel_rfl
theorem xM (hc:M.To 4 133 [] (.str [z]) q q5) (aA:List fj) (hq:p) (e:autoParam (M5 M s [da,la] (.slot 5) (dB b nm sc ((pA ps).map dh)) R q (.str [z]) q5 aA=L8 M s p 1 q' s' (.slot 5) ks (dA b nm sc ((pA ps).map dh) [z] []) R) bK):
 Nx M s q (.ref da) (o0 da la b nm ps sc R) ks s' (.tag b nm ps sc (some ([z],[]))) q':=
 ET (u:=⟨p,1,.av (.bool true),M.dS q' s'.addr (.slot 5) ks (dA b nm sc ((pA ps).map dh) [z] []),R⟩) ["self"] (M.r [da,la]) [.slot 0] (M.dS q s.addr (.slot 5) [] (dB b nm sc ((pA ps).map dh))) R (.cs (.av (.str [z])) (M.q q5) 4::aA) M.hB (.one (congrFun (Prod.mk.inj (Prod.mk.inj e).1).2)) hq (λ_ _ ⟨_,h⟩=>⟨h.1,(_,_),rX,h.2.trans (sA.eq ..)⟩) (sB.eq ..) (Prod.mk.inj (Prod.mk.inj e).1).1 (Prod.mk.inj e).2
noncomputable abbrev Ja (M:kt) (q:SS) (R:OL) (nm:cK) (ps:cU) (sc b:Bool) (ky vl:cK):DS:=⟨[("self",some (.slot 0)),("data",none),("leavingThisState",none),("emitToken",none),("name",none),("_",none)],M.dS q 542 (.slot 5) [] (dA b nm sc ((pA ps).map dh) ky vl),R⟩
noncomputable abbrev Mb (M:kt) (c:AV) (f:Addr) (k:cL) (q:SS) (R:OL) (nm:cK) (ps:cU) (sc b:Bool) (ky vl:cK):DS:=⟨Mi c false none none,M.dS q f (.slot 5) k (dA b nm sc ((pA ps).map dh) ky vl),R⟩
theorem O5 (hT:jd (.tag b nm ps sc (some (ky,vl))) c1 r8) (hz:iR (.tag b nm ps sc (some (ky,vl)))<=900) (hc:M.To 4 133 [] c q q5) (aA:List fj) {k:cL} (hq:p) (ht:∀ da la lb R,jd t7 (.ref da) (o1 da la lb b nm ps sc (dM ky) vl R)) (hk:autoParam (k.length<=990) bD)
 (e:∀ da la lb R L,qm (P:=⟨LW M.B L,fT M.B.P,M.r [da,la,lb],ua,[]⟩) (dL M.hB) ((fQ rK).take 4) (Ja M q R nm ps sc b ky vl) (.cs (.av c) (M.q q5) 4::aA)=
  some (.next,⟨Mb M c s'.addr k q5 R nm ps sc b ky vl,0,[],p⟩):=by intros;kernel_rfl):
 Nx M .an q c1 r8 (k++oJ ps ky) s' t7 q5:=aO hT λda la lb R=>
 aN (u6 (q5:=q5) (f0:=s'.addr) (k0:=k) (c:=c) false M.hB (up (so hz).1.n) (up (so hz).2.1) (vz (so hz).1.p 999) hk λL=>eW (M.r [da,la,lb]) (Ja M q R nm ps sc b ky vl) (Mb M c s'.addr k q5 R nm ps sc b ky vl) _ .next (dL M.hB) hq (h1:=cG (St.mk _) (sA.eq ..)) (h2:=cG (St.mk _) ((sA.eq ..).trans (LI ..).symm)) (e:=e da la lb R L)) (ht da la lb R)
theorem KP (h1:jR z):dU .data .none (z::l) (at' (l.dropWhile qz) [.dct [("type",.int 2),("data",.str (z::l.takeWhile qz))]]) .data .none (l.dropWhile qz):=
 rT (m:=λc=>decide ([c]∈i7)) (og:=true) (λy=>iz (l:=i7.map .str) rfl) (.inr rfl) (eP rfl) (cA _) (λhz=>(dC (.tok (by decide) (by decide)) dz)) λM q q5 q6 c1 r8 n0 n7 hz hr hc hu hT=>xG mD kW hc [.br false,.br false,.br false,.br true,.cs (.av (.str (l.takeWhile qz))) (M.q q6) 4] (qa (qa (qa (qa (qa (qa (qa (c0 hc) (fH n7)) (fH (show z≠60 from λe=>by subst e;revert h1;decide))) (fH n0)) h1) hu) (Kg (z:=z) (dN hr (by decide)))) nh)
theorem Ly (h0:z≠60) (h1:¬ jR z):dU .data .none (z::l) (at' (l.dropWhile GQ) [.dct [("type",.int 1),("data",.str (z::l.takeWhile GQ))]]) .data .none (l.dropWhile GQ):=
 rT (m:=λc=>decide ([c]∈[[38],[60],[0]])) (og:=false) (λy=>iz (l:=[.str [38],.str [60],.str [0]]) rfl) (.inl ⟨rfl,rfl⟩) (eP rfl) (cA _) (λhz=>(dC (.tok (by decide) (by decide)) dz)) λM q q5 q6 c1 r8 n0 n7 hz hr hc hu hT=>xG mD kW hc [.br false,.br false,.br false,.br false,.cs (.av (.str (l.takeWhile GQ))) (M.q q6) 4] (qa (qa (qa (qa (qa (qa (qa (c0 hc) (fH n7)) (fH h0)) (fH n0)) (bf h1)) hu) (Kg (z:=z) (dN hr (by decide)))) nh)
theorem KU:dU .data .none (60::l) [] .tag .none l:=
 rC (ks:=[]) (eP rfl) (cA _) (λhz=>dz) λM q q5 c1 r8 n0 n7 hz hc hT=>xG mD kW hc [.br false,.br true] (qa (qa (c0 hc) ff) tt)
theorem N0 (h:sy z):dU .tag .none (z::l) [] .tn (tg true [z] [] false) l:=
 rC (ks:=[]) (eP rfl) (eP rfl) (λhz=>dz) λM q q5 c1 r8 n0 n7 hz hc hT=>vU (AC c1 M.hB hc (λe=>by subst e;revert h;decide) (λe=>by subst e;revert h;decide) h) λla da=>⟨rfl,(.ref da,_),yy (ps:=[]),rfl⟩
theorem L1:dU .tag .none (62::l) (at' l [eE "expected-tag-name-but-got-right-bracket",.dct [("type",.int 1),("data",.str [60,62])]]) .data .none l:=
 rC (eP rfl) (cA _) (λhz=>(dC Ki (dC (.tok (by decide) (by decide)) dz))) λM q q5 c1 r8 n0 n7 hz hc hT=>xG mD kW hc [.br false,.br false,.br false,.br true] (qa (qa (qa (qa (qa (qa (c0 hc) ff) ff) ff) tt) nh) Of)
theorem Lx:dU .tag .none (47::l) [] .cl .none l:=
 rC (ks:=[]) (eP rfl) (cA _) (λhz=>dz) λM q q5 c1 r8 n0 n7 hz hc hT=>xG mD kW hc [.br false,.br true] (qa (qa (c0 hc) ff) tt)
theorem Nq:dU .tag .none [] (at' [] [eE "expected-tag-name",.dct [("type",.int 1),("data",.str [60])]]) .data .none []:=
 rE (eP rfl) (cA _) (λhz=>(dC Ki (dC (.tok (by decide) (by decide)) dz))) λM q q5 c1 r8 hz hc hT=>xG mD kW hc [.cs (.av .none) (M.q q5) 1] (qa (qa (qa (c0 hc) nh) Of) (JU M q5))
theorem Kx (h1:z≠33) (h2:z≠47) (h3:¬ sy z) (h4:z≠62) (h5:z≠63):dU .tag .none (z::l) (at' (z::l) [eE "expected-tag-name",.dct [("type",.int 1),("data",.str [60])]]) .data .none (z::l):=
 rU (eP rfl) (cA _) (λhz=>(dC Ki (dC (.tok (by decide) (by decide)) dz))) λM q q5 q6 c1 r8 n0 hc hu hT=>xG mD kW hc [.br false,.br false,.br false,.br false,.br false,.cs (.av .none) (M.q q6) 1] (qa (qa (qa (qa (qa (qa (qa (qa (c0 hc) (fH h1)) (fH h2)) (bf h3)) (fH h4)) (fH h5)) nh) Of) hu)
theorem LR (h:sy z):dU .cl .none (z::l) [] .tn (tg false [z] [] false) l:=
 rC (ks:=[]) (eP rfl) (eP rfl) (λhz=>dz) λM q q5 c1 r8 n0 n7 hz hc hT=>vU (Ea c1 M.hB hc h) λla da=>⟨rfl,(.ref da,_),yy (ps:=[]),rfl⟩
theorem LX:dU .cl .none [] (at' [] [eE "expected-closing-tag-but-got-eof",.dct [("type",.int 1),("data",.str [60,47])]]) .data .none []:=
 rE (eP rfl) (cA _) (λhz=>(dC Ki (dC (.tok (by decide) (by decide)) dz))) λM q q5 c1 r8 hz hc hT=>xG mD kW hc [] (qa (qa (c0 hc) nh) Of)
theorem LJ:dU .cl .none (62::l) (at' l [eE "expected-closing-tag-but-got-right-bracket"]) .data .none l:=
 rC (eP rfl) (cA _) (λhz=>rA) λM q q5 c1 r8 n0 n7 hz hc hT=>xG mD kW hc [.br false,.br true] (qa (qa (qa (c0 hc) ff) tt) nh)
noncomputable abbrev yc (z:Nat):AV:=.dct [("type",.int 7),("data",.str (sg "expected-closing-tag-but-got-char")),("datavars",.dct [("data",.str [z])])]
theorem Ls (h3:¬ sy z) (h4:z≠62):dU .cl .none (z::l) (at' (z::l) [yc z]) .bog .none (z::l):=
 rU (eP rfl) (cA _) (λhz=>(dC .erC dz)) λM q q5 q6 c1 r8 n0 hc hu hT=>xG mD kW hc [.br false,.br false,.cs (.av .none) (M.q q6) 1] (qa (qa (qa (qa (c0 hc) (bf h3)) (fH h4)) nh) hu)
theorem NS:dU .bog .none l (at' (l.dropWhile qH).tail [.dct [("type",.int 6),("data",.str (l.takeWhile qH))]]) .data .none (l.dropWhile qH).tail:=by
 have e:(l.dropWhile qH).tail.length<=l.length:=dN ((List.tail_sublist _).length_le) (List.dropWhile_sublist qH).length_le
 exact pV (by show 1+(0+_)<=1+_;omega) (by show 0+_<=0+_;omega) (λy=>dC (.tok (by decide) (by decide)) dz) (λM f q c1 r8 y hf o hT=>by
  obtain rfl:f=true:=by
   rcases f with _ | _
   . exact nomatch hf rfl
   . rfl
  obtain⟨q5,o1,hu⟩:=M.S.til (m:=λc=>decide (c∈[62])) (og:=false) Eb (.inl ⟨rfl,rfl⟩) o
  have hr:(l.takeWhile qH).length<=1000000:=dN (EX (M.S.len o)) (by decide)
  have h0:0∉l.takeWhile qH:=λh=>(M.S.no0 o 0 ((bt qH).subset h)).1 rfl
  change M.On true (l.dropWhile qH) q5 at o1
  generalize l.dropWhile qH=l' at o1
  rcases l' with _ | ⟨z,l'⟩
  . obtain⟨q6,o2,hc⟩:=M.S.fin o1
    exact⟨q6,o2,aN (vX M.hB hu hc hr h0 (cA _)) kW⟩
  . obtain⟨q6,o2,hc,_⟩:=M.S.char o1
    exact⟨q6,o2,aN (vX M.hB hu hc hr h0 (cA _)) kW⟩) (by intro y;kernel_rfl)
theorem A5 (M:kt):Ct M 1 .data .none [] []:=λu f q c1 r8 y o hT=>by
 obtain⟨q5,o1,hc⟩:=M.S.fin o;exact⟨by rw[M.hB.K];kernel_rfl,(show de M.B 5 _ _ _ λd o=>d=.bool false/\o=tS M.st M.dx M.tx M.w M.er M.g M.v M.lf u M.T q5 304 c1 [] r8 from MO [M.g,M.st,M.tx,M.er,u] (M.dS q 304 (.av c1) [] []) r8 [.cs (.av .none) (M.q q5) 4] false (M.dS q5 304 (.av c1) [] []) M.hB (c0 hc)).mono λd o' ⟨e1,e2⟩=>⟨q5,_,_,_,_,e2,.inl ⟨e1,rfl,o1⟩⟩⟩
theorem dU.does {l:cK} (h:dU .data .none l rs .data .none []) (hl:l.length<=400) (M:kt):∃ m,Ct M m .data .none l rs:=by
 have:=h.go (show 0+2*l.length<=900 by omega) M 1 [] (A5 M)
 rwa [cm]at this
theorem It (h1:jR z):dU .tn (tg b nm ps sc) (z::l) [] .bn (tg b nm ps sc) l:=
 rC (ks:=[]) (eP rfl) (bU _ 2) (λhz=>dz) λM q q5 c1 r8 n0 n7 hz hc hT=>aK hT λda la R=>xG mK yy hc [.br true] (qa (c0 hc) h1)
theorem HB:dU .tn (tg b nm ps sc) (62::l) (at' l (eK nm (pA ps) sc b)) .data .none l:=
 rC (dN iT (by decide)) (cA _) (λhz=>(Dm (sm hz))) λM q q5 c1 r8 n0 n7 hz hc hT=>aK hT λda la R=>xG Kd kW hc [.br false,.br true,M.eh R q5 (eK nm (pA ps) sc b)] (qa (qa (qa (c0 hc) ff) tt) (eM M R da la q5 367 sc b (sm hz)))
theorem Jn:dU .tn (tg b nm ps sc) (47::l) [] .sc (tg b nm ps sc) l:=
 rC (ks:=[]) (eP rfl) (bU _ 2) (λhz=>dz) λM q q5 c1 r8 n0 n7 hz hc hT=>aK hT λda la R=>xG mK yy hc [.br false,.br false,.br true] (qa (qa (qa (c0 hc) ff) ff) tt)
theorem I7 (h1:¬ jR z) (h2:z≠62) (h3:z≠47):dU .tn (tg b nm ps sc) (z::l) [] .tn (tg b (nm++[z]) ps sc) l:=
 rC (ks:=[]) (eP rfl) Rh (λhz=>dz) λM q q5 c1 r8 n0 n7 hz hc hT=>aK hT λda la R=>by rcases b with _ | _<;>exact xG R4 yy hc [.br false,.br false,.br false,.br false] (qa (qa (qa (qa (qa (c0 hc) (bf h1)) (fH h2)) (fH h3)) (fH n0)) (Kh (k:=1) (up (sm hz).n)))
theorem Md:dU .tn (tg b nm ps sc) [] (at' [] [eE "eof-in-tag-name"]) .data .none []:=
 rE (eP rfl) (cA _) (λhz=>rA) λM q q5 c1 r8 hz hc hT=>aK hT λda la R=>xG mK kW hc [] (qa (c0 hc) nh)
theorem rO (h1:jR z):dU .bn (tg b nm ps sc) (z::l) [] .bn (tg b nm ps sc) (l.dropWhile qz):=
 rT (m:=λc=>decide ([c]∈i7)) (og:=true) (λy=>iz (l:=i7.map .str) rfl) (.inr rfl) (ks:=[]) (eP rfl) (dN (bU _ 2) (bU _ _)) (λhz=>dz) λM q q5 q6 c1 r8 n0 n7 hz hr hc hu hT=>aK hT λda la R=>xG mK yy hc [.br true,.cs (.av (.str (l.takeWhile qz))) (M.q q6) 4] (qa (qa (c0 hc) h1) hu)
theorem Hr:dU .bn (tg b nm ps sc) (62::l) (at' l (eK nm (pA ps) sc b)) .data .none l:=
 rC (dN iT (by decide)) (cA _) (λhz=>(Dm (sm hz))) λM q q5 c1 r8 n0 n7 hz hc hT=>aK hT λda la R=>xG Kd kW hc [.br false,.br false,.br true,M.eh R q5 (eK nm (pA ps) sc b)] (qa (qa (qa (qa (c0 hc) ff) ff) tt) (eM M R da la q5 535 sc b (sm hz)))
theorem G7:dU .bn (tg b nm ps sc) (47::l) [] .sc (tg b nm ps sc) l:=
 rC (ks:=[]) (eP rfl) (bU _ 2) (λhz=>dz) λM q q5 c1 r8 n0 n7 hz hc hT=>aK hT λda la R=>xG mK yy hc [.br false,.br false,.br false,.br true] (qa (qa (qa (qa (c0 hc) ff) ff) ff) tt)
theorem IC (h1:¬ jR z) (h2:z≠62) (h3:z≠47):dU .bn (tg b nm ps sc) (z::l) (at' l (gt "invalid-character-in-attribute-name" [[39],[34],[61],[60]] z)) .an (to b nm ps sc [z] []) l:=by
 by_cases e:sy z
 . exact iF (R:=λk=>dU .bn (tg b nm ps sc) (z::l) (at' l k) .an (to b nm ps sc [z] []) l) (nU (t:=[39,34,61,60]) (by decide) e) (rC (ks:=[]) (eP rfl) (cB _) (λy=>dz) λM q q5 c1 r8 n0 n7 hz hc hT=>aK hT λda la R=>xM hc [.br false,.br true] (qa (qa (qa (qa (c0 hc) (bf h1)) e) (xY z M R q5 535 none b nm ps sc)) (iu 0 (uj (sm hz).p))))
 . by_cases e2:decide ([z]∈[[39],[34],[61],[60]])=true
   . exact iE (R:=λk=>dU .bn (tg b nm ps sc) (z::l) (at' l k) .an (to b nm ps sc [z] []) l) e2 (rC (eP rfl) (cB _) (λy=>rA) λM q q5 c1 r8 n0 n7 hz hc hT=>aK hT λda la R=>xM hc [.br false,.br false,.br false,.br false,.br true] (qa (qa (qa (qa (qa (qa (qa (qa (c0 hc) (bf h1)) (bf e)) (fH h2)) (fH h3)) e2) nh) (xY z M R q5 535 (some (eE "invalid-character-in-attribute-name")) b nm ps sc)) (iu 0 (uj (sm hz).p))))
   . exact iF (R:=λk=>dU .bn (tg b nm ps sc) (z::l) (at' l k) .an (to b nm ps sc [z] []) l) e2 (rC (ks:=[]) (eP rfl) (cB _) (λy=>dz) λM q q5 c1 r8 n0 n7 hz hc hT=>aK hT λda la R=>xM hc [.br false,.br false,.br false,.br false,.br false,.br false] (qa (qa (qa (qa (qa (qa (qa (qa (c0 hc) (bf h1)) (bf e)) (fH h2)) (fH h3)) (bf e2)) (fH n0)) (xY z M R q5 535 none b nm ps sc)) (iu 0 (uj (sm hz).p))))
theorem LM:dU .bn (tg b nm ps sc) [] (at' [] [eE "expected-attribute-name-but-got-eof"]) .data .none []:=
 rE (eP rfl) (cA _) (λhz=>rA) λM q q5 c1 r8 hz hc hT=>aK hT λda la R=>xG mK kW hc [] (qa (c0 hc) nh)
theorem Jt (h1:jR z):dU .nn (to b nm ps sc ky vl) (z::l) [] .nn (to b nm ps sc ky vl) (l.dropWhile qz):=
 rT (m:=λc=>decide ([c]∈i7)) (og:=true) (λy=>iz (l:=i7.map .str) rfl) (.inr rfl) (ks:=[]) (eP rfl) (dN (bU _ 2) (bU _ _)) (λhz=>dz) λM q q5 q6 c1 r8 n0 n7 hz hr hc hu hT=>aO hT λda la lb R=>xG mO rX hc [.br true,.cs (.av (.str (l.takeWhile qz))) (M.q q6) 4] (qa (qa (c0 hc) h1) hu)
theorem Gp:dU .nn (to b nm ps sc ky vl) (61::l) [] .bv (to b nm ps sc ky vl) l:=
 rC (ks:=[]) (eP rfl) (bU _ 2) (λhz=>dz) λM q q5 c1 r8 n0 n7 hz hc hT=>aO hT λda la lb R=>xG mO rX hc [.br false,.br true] (qa (qa (c0 hc) ff) tt)
theorem Gm:dU .nn (to b nm ps sc ky vl) (62::l) (at' l (eK nm (pA (ps++[(ky,vl)])) sc b)) .data .none l:=
 rC (dN iT (by decide)) (cA _) (λhz=>(MC (so hz).1)) λM q q5 c1 r8 n0 n7 hz hc hT=>aK (Kf hT) λda la R=>xG Kd kW hc [.br false,.br false,.br true,M.eh R q5 (eK nm (pA (ps++[(ky,vl)])) sc b)] (qa (qa (qa (qa (c0 hc) ff) ff) tt) (eM M R da la q5 549 sc b (Oh hz)))
theorem JV:dU .nn (to b nm ps sc ky vl) (47::l) [] .sc (tg b nm (ps++[(ky,vl)]) sc) l:=
 rC (ks:=[]) (eP rfl) Ng (λhz=>dz) λM q q5 c1 r8 n0 n7 hz hc hT=>aK (Kf hT) λda la R=>xG mK yy hc [.br false,.br false,.br false,.br false,.br true] (qa (qa (qa (qa (qa (c0 hc) ff) ff) ff) ff) tt)
theorem Iy (h1:¬ jR z) (h0:z≠61) (h2:z≠62) (h3:z≠47):dU .nn (to b nm ps sc ky vl) (z::l) (at' l (gt "invalid-character-after-attribute-name" [[39],[34],[60]] z)) .an (to b nm (ps++[(ky,vl)]) sc [z] []) l:=by
 by_cases e:sy z
 . exact iF (R:=λk=>dU .nn (to b nm ps sc ky vl) (z::l) (at' l k) .an (to b nm (ps++[(ky,vl)]) sc [z] []) l) (nU (t:=[39,34,60]) (by decide) e) (rC (ks:=[]) (eP rfl) OC (λy=>dz) λM q q5 c1 r8 n0 n7 hz hc hT=>aK (Kf hT) λda la R=>xM hc [.br false,.br false,.br false,.br true] (qa (qa (qa (qa (qa (qa (c0 hc) (bf h1)) (fH h0)) (fH h2)) e) (xY z M R q5 549 none b nm (ps++[(ky,vl)]) sc)) (iu 0 (uj (Oh hz).p))))
 . by_cases e2:decide ([z]∈[[39],[34],[60]])=true
   . exact iE (R:=λk=>dU .nn (to b nm ps sc ky vl) (z::l) (at' l k) .an (to b nm (ps++[(ky,vl)]) sc [z] []) l) e2 (rC (eP rfl) OC (λy=>rA) λM q q5 c1 r8 n0 n7 hz hc hT=>aK (Kf hT) λda la R=>xM hc [.br false,.br false,.br false,.br false,.br false,.br false,.br true] (qa (qa (qa (qa (qa (qa (qa (qa (qa (qa (c0 hc) (bf h1)) (fH h0)) (fH h2)) (bf e)) (fH h3)) (fH n0)) e2) nh) (xY z M R q5 549 (some (eE "invalid-character-after-attribute-name")) b nm (ps++[(ky,vl)]) sc)) (iu 0 (uj (Oh hz).p))))
   . exact iF (R:=λk=>dU .nn (to b nm ps sc ky vl) (z::l) (at' l k) .an (to b nm (ps++[(ky,vl)]) sc [z] []) l) e2 (rC (ks:=[]) (eP rfl) OC (λy=>dz) λM q q5 c1 r8 n0 n7 hz hc hT=>aK (Kf hT) λda la R=>xM hc [.br false,.br false,.br false,.br false,.br false,.br false,.br false] (qa (qa (qa (qa (qa (qa (qa (qa (qa (c0 hc) (bf h1)) (fH h0)) (fH h2)) (bf e)) (fH h3)) (fH n0)) (bf e2)) (xY z M R q5 549 none b nm (ps++[(ky,vl)]) sc)) (iu 0 (uj (Oh hz).p))))
theorem NQ:dU .nn (to b nm ps sc ky vl) [] (at' [] [eE "expected-end-of-tag-but-got-eof"]) .data .none []:=
 rE (eP rfl) (cA _) (λhz=>rA) λM q q5 c1 r8 hz hc hT=>aK (Kf hT) λda la R=>xG mK kW hc [] (qa (c0 hc) nh)
theorem Ho:dU .an (to b nm ps sc ky vl) (61::l) (at' l (oJ ps ky)) .bv (to b nm ps sc (dM ky) vl) l:=
 rC (dN (Nat.add_le_add_right mI _) (by decide)) KT (λhz=>tV) λM q q5 c1 r8 n0 n7 hz hc hT=>O5 hT hz hc [.br true] (k:=[]) (qa (c0 hc) tt) λy y y y=>rX
theorem HG:dU .an (to b nm ps sc ky vl) (62::l) (at' l (oJ ps ky++eK nm (pA ps++[(dM ky,.str vl)]) sc b)) .data .none l:=
 rC (dN (Nat.le_of_eq bM) (dN (Nat.add_le_add mI iT) (by decide))) (cA _) (λhz=>(mU tV (Bf (so hz).1))) λM q q5 c1 r8 n0 n7 hz hc hT=>aO hT λda la lb R=>aN (u6 (q5:=q5) (f0:=542) (k0:=[]) (c:=.str [62]) true M.hB (up (so hz).1.n) (up (so hz).2.1) (vz (so hz).1.p 999) (cA _) λL=>eW (M.r [da,la,lb]) (Ja M q R nm ps sc b ky vl) ⟨Mi (.str [62]) true none none,M.dS q5 542 (.slot 5) [] (dA b nm sc ((pA ps).map dh) ky vl),R⟩ [.cs (.av (.str [62])) (M.q q5) 4,.br false,.br false,.br true] .next (dL M.hB) (qa (qa (qa (c0 hc) ff) ff) tt) (h1:=cG (St.mk _) (sA.eq ..)) (h2:=cG (St.mk _) ((sA.eq ..).trans (LI ..).symm))) kW
theorem GX:dU .an (to b nm ps sc ky vl) (47::l) (at' l (oJ ps ky)) .sc (tg b nm (ps++[(dM ky,vl)]) sc) l:=
 rC (dN (Nat.add_le_add_right mI _) (by decide)) Ng (λhz=>tV) λM q q5 c1 r8 n0 n7 hz hc hT=>O5 hT hz hc [.br false,.br false,.br false,.br false,.br true] (k:=[]) (qa (qa (qa (qa (qa (c0 hc) ff) ff) ff) ff) tt) λy y y y=>Lh
theorem HQ (h1:jR z):dU .an (to b nm ps sc ky vl) (z::l) (at' l (oJ ps ky)) .nn (to b nm ps sc (dM ky) vl) l:=by
 have e61:z≠61:=λe=>by subst e;revert h1;decide
 have e8:z≠62:=λe=>by subst e;revert h1;decide
 have eL:¬ sy z:=λe=>nU (t:=[9,10,12,32,13]) (by decide) e (show decide ([z]∈[9,10,12,32,13].map λy=>[y])=true from h1)
 exact rC (dN (Nat.add_le_add_right mI _) (by decide)) KT (λx=>tV) λM q q5 c1 r8 n0 n7 hz hc hT=>O5 hT hz hc [.br false,.br false,.br false,.br true] (k:=[]) (qa (qa (qa (qa (c0 hc) (fH e61)) (bf eL)) (fH e8)) h1) λx x x x=>rX
theorem M0:dU .an (to b nm ps sc ky vl) [] (at' [] (eE "eof-in-attribute-name"::oJ ps ky)) .data .none []:=
 rE (dN (bX mI) (by decide)) (cA _) (λhz=>(dC Ki tV)) λM q q5 c1 r8 hz hc hT=>O5 hT hz hc [] (k:=[eE "eof-in-attribute-name"]) (qa (c0 hc) nh) λy y y y=>kW
theorem K2 (h0:z≠61) (h1:sy z):dU .an (to b nm ps sc ky vl) (z::l) [] .an (to b nm ps sc (ky++([z]++l.takeWhile KH)) vl) (l.dropWhile KH):=
 rT (m:=λc=>decide ([c]∈iA)) (og:=true) (λy=>iz (l:=iA.map .str) rfl) (.inr rfl) (ks:=[]) (eP rfl) OZ (λhz=>dz) λM q q5 q6 c1 r8 n0 n7 hz hr hc hu hT=>aO hT λda la lb R=>xG mV rX hc [.br false,.br true,.cs (.av (.str (l.takeWhile KH))) (M.q q6) 4,.br false] (qa (qa (qa (qa (qa (qa (qa (c0 hc) (fH h0)) h1) (lp (so hz).1)) hu) (Kg (z:=z) (dN (Nat.le_add_left _ _) (jL (so hz).2.1 hr)))) (Oi (z:=z) (jL (so hz).2.1 hr))) ff)
theorem Dt (h0:z≠61) (h1:¬ sy z) (h2:z≠62) (h3:¬ jR z) (h4:z≠47) (h5:decide ([z]∈[[39],[34],[60]])=true):dU .an (to b nm ps sc ky vl) (z::l) (at' l [eE "invalid-character-in-attribute-name"]) .an (to b nm ps sc (ky++[z]) vl) l:=
 rC (eP rfl) Ql (λhz=>rA) λM q q5 c1 r8 n0 n7 hz hc hT=>aO hT λda la lb R=>xG mV rX hc [.br false,.br false,.br false,.br false,.br false,.br false,.br true,.br false] (qa (qa (qa (qa (qa (qa (qa (qa (qa (qa (qa (c0 hc) (fH h0)) (bf h1)) (fH h2)) (bf h3)) (fH h4)) (fH n0)) h5) nh) (lp (so hz).1)) (Kh (k:=1) (up (so hz).2.1))) ff)
theorem Hu (h0:z≠61) (h1:¬ sy z) (h2:z≠62) (h3:¬ jR z) (h4:z≠47) (h5:¬ decide ([z]∈[[39],[34],[60]])=true):dU .an (to b nm ps sc ky vl) (z::l) [] .an (to b nm ps sc (ky++[z]) vl) l:=
 rC (ks:=[]) (eP rfl) Ql (λhz=>dz) λM q q5 c1 r8 n0 n7 hz hc hT=>aO hT λda la lb R=>xG mV rX hc [.br false,.br false,.br false,.br false,.br false,.br false,.br false,.br false] (qa (qa (qa (qa (qa (qa (qa (qa (qa (qa (c0 hc) (fH h0)) (bf h1)) (fH h2)) (bf h3)) (fH h4)) (fH n0)) (bf h5)) (lp (so hz).1)) (Kh (k:=1) (up (so hz).2.1))) ff)
theorem Jo (h1:jR z):dU .bv (to b nm ps sc ky vl) (z::l) [] .bv (to b nm ps sc ky vl) (l.dropWhile qz):=
 rT (m:=λc=>decide ([c]∈i7)) (og:=true) (λy=>iz (l:=i7.map .str) rfl) (.inr rfl) (ks:=[]) (eP rfl) (dN (bU _ 2) (bU _ _)) (λhz=>dz) λM q q5 q6 c1 r8 n0 n7 hz hr hc hu hT=>aO hT λda la lb R=>xG mO rX hc [.br true,.cs (.av (.str (l.takeWhile qz))) (M.q q6) 4] (qa (qa (c0 hc) h1) hu)
theorem IE:dU .bv (to b nm ps sc ky vl) (34::l) [] .dq (to b nm ps sc ky vl) l:=
 rC (ks:=[]) (eP rfl) (bU _ 2) (λhz=>dz) λM q q5 c1 r8 n0 n7 hz hc hT=>aO hT λda la lb R=>xG mO rX hc [.br false,.br true] (qa (qa (c0 hc) ff) tt)
theorem Jj:dU .bv (to b nm ps sc ky vl) (39::l) [] .sq (to b nm ps sc ky vl) l:=
 rC (ks:=[]) (eP rfl) (bU _ 2) (λhz=>dz) λM q q5 c1 r8 n0 n7 hz hc hT=>aO hT λda la lb R=>xG mO rX hc [.br false,.br false,.br false,.br true] (qa (qa (qa (qa (c0 hc) ff) ff) ff) tt)
theorem GF:dU .bv (to b nm ps sc ky vl) (62::l) (at' l ([eE "expected-attribute-value-but-got-right-bracket"]++eK nm (pA ps++[(ky,.str vl)]) sc b)) .data .none l:=
 rC (dN (bX iT) (by decide)) (cA _) (λhz=>(mU rA (Bf (so hz).1))) λM q q5 c1 r8 n0 n7 hz hc hT=>aO hT λda la lb R=>xG Qz kW hc [.br false,.br false,.br false,.br false,.br true,M.eh R q5 ([eE "expected-attribute-value-but-got-right-bracket"]++eK nm (pA ps++[(ky,.str vl)]) sc b)] (qa (qa (qa (qa (qa (qa (qa (c0 hc) ff) ff) ff) ff) tt) nh) (QC M R da la lb q5 556 [(eE "expected-attribute-value-but-got-right-bracket")] ky vl sc b (so hz).1))
theorem Ic (h1:¬ jR z) (h2:z≠34) (h3:z≠39) (h4:z≠62):dU .bv (to b nm ps sc ky vl) (z::l) (at' l (gt "equals-in-unquoted-attribute-value" [[61],[60],[96]] z)) .uq (to b nm ps sc ky (vl++[z])) l:=by
 by_cases e2:decide ([z]∈[[61],[60],[96]])=true
 . exact iE (R:=λk=>dU .bv (to b nm ps sc ky vl) (z::l) (at' l k) .uq (to b nm ps sc ky (vl++[z])) l) e2 (rC (eP rfl) Pe (λy=>rA) λM q q5 c1 r8 n0 n7 hz hc hT=>aO hT λda la lb R=>xG mV rX hc [.br false,.br false,.br false,.br false,.br false,.br false,.br true] (qa (qa (qa (qa (qa (qa (qa (qa (qa (qa (c0 hc) (bf h1)) (fH h2)) (fH n7)) (fH h3)) (fH h4)) (fH n0)) e2) nh) (lp (so hz).1)) (Kh (k:=1) (up (so hz).2.2))))
 . exact iF (R:=λk=>dU .bv (to b nm ps sc ky vl) (z::l) (at' l k) .uq (to b nm ps sc ky (vl++[z])) l) e2 (rC (ks:=[]) (eP rfl) Pe (λy=>dz) λM q q5 c1 r8 n0 n7 hz hc hT=>aO hT λda la lb R=>xG mV rX hc [.br false,.br false,.br false,.br false,.br false,.br false,.br false] (qa (qa (qa (qa (qa (qa (qa (qa (qa (c0 hc) (bf h1)) (fH h2)) (fH n7)) (fH h3)) (fH h4)) (fH n0)) (bf e2)) (lp (so hz).1)) (Kh (k:=1) (up (so hz).2.2))))
theorem MF:dU .bv (to b nm ps sc ky vl) [] (at' [] [eE "expected-attribute-value-but-got-eof"]) .data .none []:=
 rE (eP rfl) (cA _) (λhz=>rA) λM q q5 c1 r8 hz hc hT=>aO hT λda la lb R=>xG mO kW hc [] (qa (c0 hc) nh)
theorem Me:dU .dq (to b nm ps sc ky vl) (34::l) [] .av (tg b nm (ps++[(ky,vl)]) sc) l:=
 rC (ks:=[]) (eP rfl) Ng (λhz=>dz) λM q q5 c1 r8 n0 n7 hz hc hT=>aO hT λda la lb R=>xG mO Lh hc [.br true] (qa (c0 hc) tt)
theorem HS (h1:z≠34):dU .dq (to b nm ps sc ky vl) (z::l) [] .dq (to b nm ps sc ky (vl++([z]++l.takeWhile O9))) (l.dropWhile O9):=
 rT (m:=λc=>decide ([c]∈[[34],[38],[0]])) (og:=false) (λy=>iz (l:=[.str [34],.str [38],.str [0]]) rfl) (.inl ⟨rfl,rfl⟩) (ks:=[]) (eP rfl) H4 (λhz=>dz) λM q q5 q6 c1 r8 n0 n7 hz hr hc hu hT=>aO hT λda la lb R=>xG mV rX hc [.br false,.br false,.br false,.cs (.av (.str (l.takeWhile O9))) (M.q q6) 4] (qa (qa (qa (qa (qa (qa (qa (c0 hc) (fH h1)) (fH n7)) (fH n0)) (lp (so hz).1)) hu) (Kg (z:=z) (dN (Nat.le_add_left _ _) (jL (so hz).2.2 hr)))) (Oi (z:=z) (jL (so hz).2.2 hr)))
theorem MJ:dU .dq (to b nm ps sc ky vl) [] (at' [] [eE "eof-in-attribute-value-double-quote"]) .data .none []:=
 rE (eP rfl) (cA _) (λhz=>rA) λM q q5 c1 r8 hz hc hT=>aO hT λda la lb R=>xG mO kW hc [] (qa (c0 hc) nh)
theorem NU:dU .sq (to b nm ps sc ky vl) (39::l) [] .av (tg b nm (ps++[(ky,vl)]) sc) l:=
 rC (ks:=[]) (eP rfl) Ng (λhz=>dz) λM q q5 c1 r8 n0 n7 hz hc hT=>aO hT λda la lb R=>xG mO Lh hc [.br true] (qa (c0 hc) tt)
theorem Jb (h1:z≠39):dU .sq (to b nm ps sc ky vl) (z::l) [] .sq (to b nm ps sc ky (vl++([z]++l.takeWhile O8))) (l.dropWhile O8):=
 rT (m:=λc=>decide ([c]∈[[39],[38],[0]])) (og:=false) (λy=>iz (l:=[.str [39],.str [38],.str [0]]) rfl) (.inl ⟨rfl,rfl⟩) (ks:=[]) (eP rfl) H4 (λhz=>dz) λM q q5 q6 c1 r8 n0 n7 hz hr hc hu hT=>aO hT λda la lb R=>xG mV rX hc [.br false,.br false,.br false,.cs (.av (.str (l.takeWhile O8))) (M.q q6) 4] (qa (qa (qa (qa (qa (qa (qa (c0 hc) (fH h1)) (fH n7)) (fH n0)) (lp (so hz).1)) hu) (Kg (z:=z) (dN (Nat.le_add_left _ _) (jL (so hz).2.2 hr)))) (Oi (z:=z) (jL (so hz).2.2 hr)))
theorem Nl:dU .sq (to b nm ps sc ky vl) [] (at' [] [eE "eof-in-attribute-value-single-quote"]) .data .none []:=
 rE (eP rfl) (cA _) (λhz=>rA) λM q q5 c1 r8 hz hc hT=>aO hT λda la lb R=>xG mO kW hc [] (qa (c0 hc) nh)
theorem IP (h1:jR z):dU .uq (to b nm ps sc ky vl) (z::l) [] .bn (tg b nm (ps++[(ky,vl)]) sc) l:=
 rC (ks:=[]) (eP rfl) Ng (λhz=>dz) λM q q5 c1 r8 n0 n7 hz hc hT=>aO hT λda la lb R=>xG mO Lh hc [.br true] (qa (c0 hc) h1)
theorem FY:dU .uq (to b nm ps sc ky vl) (62::l) (at' l (eK nm (pA ps++[(ky,.str vl)]) sc b)) .data .none l:=
 rC (dN iT (by decide)) (cA _) (λhz=>(Bf (so hz).1)) λM q q5 c1 r8 n0 n7 hz hc hT=>aO hT λda la lb R=>xG Qz kW hc [.br false,.br false,.br true,M.eh R q5 (eK nm (pA ps++[(ky,.str vl)]) sc b)] (qa (qa (qa (qa (c0 hc) ff) ff) tt) (QC M R da la lb q5 577 [] ky vl sc b (so hz).1))
theorem Er (h1:¬ jR z) (h2:z≠62) (h3:decide ([z]∈[[34],[39],[61],[60],[96]])=true):dU .uq (to b nm ps sc ky vl) (z::l) (at' l [eE "unexpected-character-in-unquoted-attribute-value"]) .uq (to b nm ps sc ky (vl++[z])) l:=
 rC (eP rfl) Pe (λhz=>rA) λM q q5 c1 r8 n0 n7 hz hc hT=>aO hT λda la lb R=>xG mV rX hc [.br false,.br false,.br false,.br true] (qa (qa (qa (qa (qa (qa (qa (c0 hc) (bf h1)) (fH n7)) (fH h2)) h3) nh) (lp (so hz).1)) (Kh (k:=1) (up (so hz).2.2)))
theorem IM (h1:¬ jR z) (h2:z≠62) (h3:¬ decide ([z]∈[[34],[39],[61],[60],[96]])=true):dU .uq (to b nm ps sc ky vl) (z::l) [] .uq (to b nm ps sc ky (vl++([z]++l.takeWhile Kj))) (l.dropWhile Kj):=
 rT (m:=λc=>decide ([c]∈OU)) (og:=false) (λy=>iz (l:=OU.map .str) rfl) (.inl ⟨rfl,rfl⟩) (ks:=[]) (eP rfl) H4 (λhz=>dz) λM q q5 q6 c1 r8 n0 n7 hz hr hc hu hT=>aO hT λda la lb R=>xG mV rX hc [.br false,.br false,.br false,.br false,.br false,.cs (.av (.str (l.takeWhile Kj))) (M.q q6) 4] (qa (qa (qa (qa (qa (qa (qa (qa (qa (qa (c0 hc) (bf h1)) (fH n7)) (fH h2)) (bf h3)) (fH n0)) (lp (so hz).1)) (FG 13)) hu) (Kg (z:=z) (dN (Nat.le_add_left _ _) (jL (so hz).2.2 hr)))) (Oi (z:=z) (jL (so hz).2.2 hr)))
theorem Lm:dU .uq (to b nm ps sc ky vl) [] (at' [] [eE "eof-in-attribute-value-no-quotes"]) .data .none []:=
 rE (eP rfl) (cA _) (λhz=>rA) λM q q5 c1 r8 hz hc hT=>aO hT λda la lb R=>xG mO kW hc [] (qa (c0 hc) nh)
theorem K0 (h1:jR z):dU .av (tg b nm ps sc) (z::l) [] .bn (tg b nm ps sc) l:=
 rC (ks:=[]) (eP rfl) (bU _ 2) (λhz=>dz) λM q q5 c1 r8 n0 n7 hz hc hT=>aK hT λda la R=>xG mK yy hc [.br true] (qa (c0 hc) h1)
theorem Jw:dU .av (tg b nm ps sc) (62::l) (at' l (eK nm (pA ps) sc b)) .data .none l:=
 rC (dN iT (by decide)) (cA _) (λhz=>(Dm (sm hz))) λM q q5 c1 r8 n0 n7 hz hc hT=>aK hT λda la R=>xG Kd kW hc [.br false,.br true,M.eh R q5 (eK nm (pA ps) sc b)] (qa (qa (qa (c0 hc) ff) tt) (eM M R da la q5 584 sc b (sm hz)))
theorem GH:dU .av (tg b nm ps sc) (47::l) [] .sc (tg b nm ps sc) l:=
 rC (ks:=[]) (eP rfl) (bU _ 2) (λhz=>dz) λM q q5 c1 r8 n0 n7 hz hc hT=>aK hT λda la R=>xG mK yy hc [.br false,.br false,.br true] (qa (qa (qa (c0 hc) ff) ff) tt)
theorem I9 (h1:¬ jR z) (h2:z≠62) (h3:z≠47):dU .av (tg b nm ps sc) (z::l) (at' (z::l) [eE "unexpected-character-after-attribute-value"]) .bn (tg b nm ps sc) (z::l):=
 rU (eP rfl) (cB _) (λhz=>rA) λM q q5 q6 c1 r8 n0 hc hu hT=>aK hT λda la R=>xG mK yy hc [.br false,.br false,.br false,.cs (.av .none) (M.q q6) 1] (qa (qa (qa (qa (qa (c0 hc) (bf h1)) (fH h2)) (fH h3)) nh) hu)
theorem M3:dU .av (tg b nm ps sc) [] (at' [] [eE "unexpected-EOF-after-attribute-value"]) .data .none []:=
 rE (eP rfl) (cA _) (λhz=>rA) λM q q5 c1 r8 hz hc hT=>aK hT λda la R=>xG mK kW hc [.cs (.av .none) (M.q q5) 1] (qa (qa (c0 hc) nh) (JU M q5))
theorem Ju:dU .sc (tg b nm ps sc) (62::l) (at' l (eK nm (pA ps) true b)) .data .none l:=
 rC (dN iT (by decide)) (cA _) (λhz=>(Dm (sm hz))) λM q q5 c1 r8 n0 n7 hz hc hT=>aK hT λda la R=>by
  rcases b with _ | _
  . exact xG Kd kW hc [.br true,M.eh R q5 (eK nm (pA ps) true false)] (qa (qa (c0 hc) tt) (eM M R da la q5 591 true false (sm hz)))
  . exact xG Kd kW hc [.br true,M.eh R q5 (eK nm (pA ps) true true)] (qa (qa (c0 hc) tt) (eM M R da la q5 591 true true (sm hz)))
theorem Jd (h2:z≠62):dU .sc (tg b nm ps sc) (z::l) (at' (z::l) [eE "unexpected-character-after-solidus-in-tag"]) .bn (tg b nm ps sc) (z::l):=
 rU (eP rfl) (cB _) (λhz=>rA) λM q q5 q6 c1 r8 n0 hc hu hT=>aK hT λda la R=>xG mK yy hc [.br false,.cs (.av .none) (M.q q6) 1] (qa (qa (qa (c0 hc) (fH h2)) nh) hu)
theorem Kp:dU .sc (tg b nm ps sc) [] (at' [] [eE "unexpected-EOF-after-solidus-in-tag"]) .data .none []:=
 rE (eP rfl) (cA _) (λhz=>rA) λM q q5 c1 r8 hz hc hT=>aK hT λda la R=>xG mK kW hc [.cs (.av .none) (M.q q5) 1] (qa (qa (c0 hc) nh) (JU M q5))
end
end
section
section
variable {s s0:nV} {tok t0:jt} {l l0 r r':cK} {az rs:cW} {z:Nat} {b sc:Bool} {nm ky vl:cK} {ps:cU}
theorem oY {u:Nat->Bool} {y:Nat}:∀ {w:cK},y∈w.takeWhile u->u y=true:=by
 intro w
 induction w with
 | nil=>exact λh=>nomatch h
 | cons z w ih=>
  intro h;rw[bF]at h
  by_cases e:u z=true
  . rw[cJ e]at h
    rcases fG h with rfl | h
    . exact e
    . exact ih h
  . rw[cH e]at h;exact nomatch h
noncomputable def gP (x:String) (t:d8):cK->cK->cW
 | [],_=>[]
 | z::w,r=>at' (w++r) (gt x t z)++gP x t w r
theorem pG (x:String) (t:d8) (r:cK):∀ a c:cK,gP x t (a++c) r=gP x t a (c++r)++gP x t c r:=by
 intro a
 induction a with
 | nil=>exact λy=>rfl
 | cons z a ih=>
  intro c;show at' (a++c++r) _++gP x t (a++c) r=at' (a++(c++r)) _++gP x t a (c++r)++gP x t c r
  rw[ih c,bS a,bS]
theorem kB {x:String} {t:d8}:∀ {a r:cK},(∀ z∈a,¬ decide ([z]∈t)=true)->gP x t a r=[]:=by
 intro a
 induction a with
 | nil=>exact λw=>rfl
 | cons z a ih=>
  intro r h;show at' (a++r) (gt x t z)++gP x t a r=[]
  rw[ih λy hy=>h y (.tail _ hy)];unfold gt;refine(cH (h z dP))▸?_;rfl
theorem vS {u:Nat->Bool} (hr:∀ z r',r=z::r'->u z=false):∀ {w:cK},(w++r).takeWhile u=w.takeWhile u/\(w++r).dropWhile u=w.dropWhile u++r:=by
 intro w
 induction w with
 | nil=>
  rcases r with _ | ⟨z,r⟩
  . exact⟨rfl,rfl⟩
  . have:=hr z r rfl
    exact⟨by rw[List.nil_append,bF,cH (by rw[this];exact bN)];rfl,by rw[List.nil_append,bH,cH (by rw[this];exact bN)];rfl⟩
 | cons z w ih=>
  rw[c7,bF,bH,bF,bH]
  by_cases e:u z=true
  . rw[cJ e,cJ e,cJ e,cJ e,ih.1,ih.2];exact⟨rfl,rfl⟩
  . rw[cH e,cH e,cH e,cH e];exact⟨rfl,rfl⟩
theorem Bm {mk:cK->jt} {x:String} {t:d8} {u ok:Nat->Bool} (hr:∀ z r',r=z::r'->u z=false) (hu:∀ z,u z=true->¬ decide ([z]∈t)=true)
 (hb : ∀ v z l,ok z=true->decide ([z]∈t)=true->dU s (mk v) (z::l) (at' l [eE x]) s (mk (v++[z])) l)
 (hg : ∀ v z l,ok z=true->¬ decide ([z]∈t)=true->dU s (mk v) (z::l) [] s (mk (v++[z])) l\/dU s (mk v) (z::l) [] s (mk (v++([z]++l.takeWhile u))) (l.dropWhile u)):
 ∀ (n : Nat) (w v:cK),w.length<=n->(∀ z∈w,ok z=true)->dU s (mk v) (w++r) (gP x t w r) s (mk (v++w)) r:=by
 intro n
 induction n with
 | zero =>
  intro w v hw q;obtain rfl:=bo (Nat.le_zero.mp hw)
  rw[cm];exact dU.refl
 | succ n ih=>
  intro w v hw ho
  rcases w with _ | ⟨z,w⟩
  . rw[cm];exact dU.refl
  have hw':w.length<=n:=Nat.le_of_succ_le_succ hw
  have ho':=λz hz=>ho z (.tail _ hz)
  have one:dU s (mk v) (z::(w++r)) (at' (w++r) (gt x t z)) s (mk (v++[z])) (w++r)->dU s (mk v) (z::w++r) (gP x t (z::w) r) s (mk (v++z::w)) r:=λh=>by
   have y:=h.trans (ih w (v++[z]) hw' ho')
   rw[bS]at y
   exact y
  by_cases e:decide ([z]∈t)=true
  . have h:=hb v z (w++r) (ho z dP) e
    refine one ?_
    unfold gt;refine(cJ e)▸?_
    exact h
  . rcases hg v z (w++r) (ho z dP) e with h | h
    . refine one ?_
      unfold gt;rw[cH e];exact h
    . rw[(vS hr).1,(vS hr).2]at h
      have ew:w.takeWhile u++w.dropWhile u=w:=List.takeWhile_append_dropWhile
      have h2:=ih (w.dropWhile u) (v++([z]++w.takeWhile u)) (dN (List.dropWhile_sublist u).length_le hw') λy hy=>ho' y ((List.dropWhile_sublist u).subset hy)
      have y:=h.aft h2
      have e1:v++([z]++w.takeWhile u)++w.dropWhile u=v++z::w:=by rw[bS,bS,ew];rfl
      rw[e1]at y
      have e2:gP x t (z::w) r=gP x t (w.dropWhile u) r:=by
       show at' (w++r) (gt x t z)++gP x t w r= _
       unfold gt;refine(cH e)▸?_
       show gP x t w r= _
       conv=>lhs;rw[<-ew]
       rw[pG,kB λy hy=>hu y (oY hy)];rfl
      refine e2▸?_
      exact y
end
end
section
section
variable {s s0:nV} {tok t0:jt} {l l0 r r' w:cK} {az rs:cW} {z:Nat} {b sc:Bool} {nm ky vl:cK} {ps:cU}
noncomputable def iS (z:Nat):Bool:=decide (z∈[9,10,12,32])
noncomputable def mE (z:Nat):Bool:=decide (z∈[9,10,12,32,47,62])==false
noncomputable def qN (z:Nat):Bool:=decide (z∈[9,10,12,32,61,62,47])==false
noncomputable def ql (z:Nat):Bool:=decide (z∈[9,10,12,32,62])==false
theorem fR {t:cK}:decide ([z]∈t.map λy=>[y])=true↔z∈t:=by
 rw[decide_eq_true_iff];constructor
 . intro h
   refine dW (cw.mp h) ?_;rintro y hy q
   obtain rfl:=List.head_eq_of_cons_eq q
   exact hy
 . exact λh=>cw.mpr ⟨z,h,rfl⟩
theorem ip:jR z↔z∈[9,10,12,32,13]:=fR (t:=[9,10,12,32,13])
theorem j6 (h:z≠13):jR z↔iS z=true:=by
 rw[ip];unfold iS;rw[decide_eq_true_iff];simp[h]
theorem G9 (h:z≠13):qz z=iS z:=by
 rw[Bool.eq_iff_iff,<-j6 h];unfold qz;exact beq_iff_eq
theorem uU {a:cK} (h:(decide (z∈a)==false)=true):z∉a:=by
 have:=cF h
 exact of_decide_eq_false this
theorem PZ (hw:∀ z∈w,mE z=true) (h13:∀ z∈w,z≠13):dU .tn (tg b nm ps sc) (w++r) [] .tn (tg b (nm++w) ps sc) r:=by
 have y:=Bm (r:=r) (s:=.tn) (mk:=λv=>tg b v ps sc) (x:="") (t:=[]) (u:=λq=>false) (ok:=λz=>mE z&& !decide (z=13)) (λq q q=>rfl) (λq h=>nomatch h) (λv z l q h=>nomatch h) (λv z l ho q=>.inl (by
  have h1:=uU (dG ho)
  have h2:z≠13:=by have:=eB ho;simpa using this
  refine I7 (λe=>?_) (λe=>h1 (by rw[e];decide)) (λe=>h1 (by rw[e];decide))
  rw[ip]at e
  refine h1 ?_
  simp at e |-
  omega)) w.length w nm (cB _) (λz hz=>by refine(hw z hz)▸?_;have:=h13 z hz;simp[this])
 rw[kB (λz q h=>List.not_mem_nil (of_decide_eq_true h))]at y
 exact y
noncomputable abbrev kQ:d8:=[[39],[34],[60]]
noncomputable abbrev kA:d8:=[[39],[34],[61],[60]]
noncomputable abbrev kU:d8:=[[34],[39],[61],[60],[96]]
theorem Qf (hw:∀ z∈w,qN z=true) (h13:∀ z∈w,z≠13) (hr:∀ z r',r=z::r'->qN z=false):dU .an (to b nm ps sc ky vl) (w++r) (gP "invalid-character-in-attribute-name" kQ w r) .an (to b nm ps sc (ky++w) vl) r:=by
 refine Bm (r:=r) (s:=.an) (mk:=λv=>to b nm ps sc v vl) (u:=KH) (ok:=λz=>qN z&& !decide (z=13)) (λz r' e=>?_) (λz e=>?_) (λv z l ho e=>?_) (λv z l ho e=>?_) w.length w ky (cB _) (λz hz=>by refine(hw z hz)▸?_;have:=h13 z hz;simp[this])
 . have h1:=hr z r' e
   have h2:z∈[9,10,12,32,61,62,47]:=by
    exact Decidable.byContradiction λq=>by unfold qN at h1;rw[cc q]at h1;exact nomatch h1
   revert h2
   revert z
   exact λz y y h2=>by
    have:∀ z∈[9,10,12,32,61,62,47],KH z=false:=by decide
    exact this z h2
 . exact nU (t:=[39,34,60]) (by decide) (cF e)
 . have h1:=(fR (t:=[39,34,60])).mp e
   have hL:∀ z∈[39,34,60],z≠61/\¬ sy z/\z≠62/\¬ jR z/\z≠47:=by decide
   refine QW (hL z h1) ?_;rintro a1 a2 a3 a4 a5
   exact Dt a1 a2 a3 a4 a5 e
 . have h1:=uU (dG ho)
   have h2:z≠13:=by have:=eB ho;simpa using this
   have n61:z≠61:=λe=>h1 (by rw[e];decide)
   by_cases eL:sy z
   . exact .inr (K2 n61 eL)
   . refine .inl (Hu n61 eL (λe=>h1 (by rw[e];decide)) (λe=>?_) (λe=>h1 (by rw[e];decide)) e)
     rw[ip]at e
     refine h1 ?_
     simp at e |-
     omega
theorem Q9 (hw:∀ z∈w,ql z=true) (h13:∀ z∈w,z≠13) (hr:∀ z r',r=z::r'->ql z=false):dU .uq (to b nm ps sc ky vl) (w++r) (gP "unexpected-character-in-unquoted-attribute-value" kU w r) .uq (to b nm ps sc ky (vl++w)) r:=by
 refine Bm (r:=r) (s:=.uq) (mk:=λv=>to b nm ps sc ky v) (u:=Kj) (ok:=λz=>ql z&& !decide (z=13)) (λz r' e=>?_) (λz e=>?_) (λv z l ho e=>?_) (λv z l ho e=>?_) w.length w vl (cB _) (λz hz=>by refine(hw z hz)▸?_;have:=h13 z hz;simp[this])
 . have h1:=hr z r' e
   have h2:z∈[9,10,12,32,62]:=by
    exact Decidable.byContradiction λq=>by unfold ql at h1;rw[cc q]at h1;exact nomatch h1
   have:∀ z∈[9,10,12,32,62],Kj z=false:=by decide
   exact this z h2
 . intro q
   have h1:=(fR (t:=[34,39,61,60,96])).mp q
   have:∀ z∈[34,39,61,60,96],Kj z=false:=by decide
   rw[this z h1]at e
   exact nomatch e
 all_goals
  have h1:=uU (dG ho)
  have h2:z≠13:=by have:=eB ho;simpa using this
  have nB:¬ jR z:=λe=>by
   rw[ip]at e
   refine h1 ?_
   simp at e |-
   omega
  have n62:z≠62:=λe=>h1 (by rw[e];decide)
 . exact Er nB n62 e
 . exact .inr (IM nB n62 e)
theorem Os (hw:∀ z∈w,z≠34) (hr:∀ z r',r=z::r'->z=34):dU .dq (to b nm ps sc ky vl) (w++r) [] .dq (to b nm ps sc ky (vl++w)) r:=by
 have y:=Bm (r:=r) (s:=.dq) (mk:=λv=>to b nm ps sc ky v) (x:="") (t:=[]) (u:=O9) (ok:=λz=> !decide (z=34)) (λz r' e=>by refine(hr z r' e)▸?_;rfl) (λq q h=>nomatch h) (λv z l q h=>nomatch h) (λv z l ho q=>.inr (HS (by simpa using ho))) w.length w vl (cB _) (λz hz=>by have:=hw z hz;simp[this])
 rw[kB (λz q h=>List.not_mem_nil (of_decide_eq_true h))]at y
 exact y
theorem PM (hw:∀ z∈w,z≠39) (hr:∀ z r',r=z::r'->z=39):dU .sq (to b nm ps sc ky vl) (w++r) [] .sq (to b nm ps sc ky (vl++w)) r:=by
 have y:=Bm (r:=r) (s:=.sq) (mk:=λv=>to b nm ps sc ky v) (x:="") (t:=[]) (u:=O8) (ok:=λz=> !decide (z=39)) (λz r' e=>by refine(hr z r' e)▸?_;rfl) (λq q h=>nomatch h) (λv z l q h=>nomatch h) (λv z l ho q=>.inr (Jb (by simpa using ho))) w.length w vl (cB _) (λz hz=>by have:=hw z hz;simp[this])
 rw[kB (λz q h=>List.not_mem_nil (of_decide_eq_true h))]at y
 exact y
theorem zr (s:nV) (h:∀ z l,jR z->dU s tok (z::l) [] s tok (l.dropWhile qz)):dU s tok l [] s tok (l.dropWhile qz):=by
 rcases l with _ | ⟨z,l⟩
 . exact dU.refl
 . refine bH▸?_
   by_cases e:qz z=true
   . refine(cJ e)▸?_;exact h z l (cF e)
   . refine(cH e)▸?_;exact dU.refl
structure lI (s0:nV) (t0:jt) (l0:cK) (b:Bool) (nm:cK) (ps:cU) (sc:Bool) (b6 oe:String) (az:cW) (l:cK):Prop where
 ln:az.length+4*l.length<=u7 s0+4*l0.length
 sz:iR (tg b nm ps sc)+2*l.length<=iR t0+2*l0.length
 fe:l=[]->dU s0 t0 l0 (az++at' [] [eE b6]) .data .none []
 fg:∀ l',l=62::l'->dU s0 t0 l0 (az++at' l' (eK nm (pA ps) sc b)) .data .none l'
 fb:∀ z l',l=z::l'->jR z->dU s0 t0 l0 az .bn (tg b nm ps sc) (l'.dropWhile qz)
 fo:∀ z l',l=z::l'->jR z->oe="invalid-character-in-attribute-name"
 fs:∀ l',l=47::l'->dU s0 t0 l0 az .sc (tg b nm ps sc) l'
 fa:∀ z l',l=z::l'->¬ jR z->z≠62->z≠47->dU s0 t0 l0 (az++at' l' (gt oe kA z)) .an (to b nm ps sc [z] []) l'
variable {b6 oe:String}
theorem dU.ln {l'':cK} {ks:cL} (y:dU s0 t0 l0 az s tok l) (h:ks.length<=u7 s):(az++at' l'' ks).length+4*l.length<=u7 s0+4*l0.length:=by
 rw[bM,cq,Nat.add_assoc];exact dN (bG (Nat.add_le_add_right h _) _) y.len
theorem dU.ln0 (y:dU s0 t0 l0 az s tok l):az.length+4*l.length<=u7 s0+4*l0.length:=dN (bG (Nat.le_add_left _ _) _) y.len
theorem dU.small {T:cK} (y:dU .data t0 T az s tok l) (h:T.length<=100):az.length<=400:=dN (bU _ _) (dN y.len (dN (Nat.le_of_eq (Nat.zero_add _)) (Nat.mul_le_mul_left 4 h)))
theorem lI.small {T:cK} {b6 oe:String} (t:lI .data t0 T b nm ps sc b6 oe az l) (h:T.length<=100):az.length<=400:=dN (bU _ _) (dN t.ln (dN (Nat.le_of_eq (Nat.zero_add _)) (Nat.mul_le_mul_left 4 h)))
theorem lI.psl {T:cK} {b6 oe:String} (t:lI .data .none T b nm ps sc b6 oe az l) (h:T.length<=100):ps.length<=200:=dN (dN (Nat.le_add_left _ nm.length) (bU _ _)) (dN t.sz (dN (Nat.le_of_eq (Nat.zero_add _)) (Nat.mul_le_mul_left 2 h)))
theorem dU.szc {p:cK×cK} (y:dU s0 t0 l0 az s (to b nm ps sc ky vl) l):iR (tg b nm (ps++[p]) sc)+2*l.length<=iR t0+2*l0.length:=dN (Nat.add_le_add_right (by show nm.length+(ps++[p]).length+0<=nm.length+ps.length+(ky.length+vl.length+1);rw[bM,<-Nat.add_assoc];exact bG (bX (cA _)) _) _) y.sz
theorem Jq (y:dU s0 t0 l0 az .tn (tg b nm ps sc) l) (hr:∀ z r',l=z::r'->mE z=false):lI s0 t0 l0 b nm ps sc "eof-in-tag-name" "invalid-character-in-attribute-name" az l where
 ln:=y.ln0
 sz:=y.sz
 fe:=λe=>by subst e;exact y.trans (Md)
 fg:=λl' e=>by subst e;exact y.trans (HB)
 fb:=λz l' e hz=>by subst e;exact(y.thn (It hz)).thn (zr .bn λx x h1=>rO h1)
 fo:=λx x x x=>rfl
 fs:=λl' e=>by subst e;exact y.thn (Jn)
 fa:=λz l' e h1 h2 h3=>by
  subst e;have h4:=hr z l' rfl
  have h5:z∈[9,10,12,32,47,62]:=Decidable.byContradiction λq=>by unfold mE at h4;rw[cc q]at h4;exact nomatch h4
  rw[ip]at h1
  exfalso
  simp at h1 h5
  omega
theorem uf (y:dU s0 t0 l0 az .bn (tg b nm ps sc) l) (hb:l=[]->b6="expected-attribute-name-but-got-eof"):lI s0 t0 l0 b nm ps sc b6 "invalid-character-in-attribute-name" az l where
 ln:=y.ln0
 sz:=y.sz
 fe:=λe=>by refine(hb e)▸?_;subst e;exact y.trans (LM)
 fg:=λl' e=>by subst e;exact y.trans (Hr)
 fb:=λz l' e hz=>by subst e;exact y.thn (rO hz)
 fo:=λx x x x=>rfl
 fs:=λl' e=>by subst e;exact y.thn (G7)
 fa:=λz l' e h1 h2 h3=>by subst e;exact y.trans (IC h1 h2 h3)
theorem DA (y:dU s0 t0 l0 az .sc (tg b nm ps sc) []):lI s0 t0 l0 b nm ps sc "unexpected-EOF-after-solidus-in-tag" oe az [] where
 ln:=y.ln0
 sz:=y.sz
 fe:=λx=>y.trans (Kp)
 fg:=λx e=>nomatch e
 fb:=λx x e=>nomatch e
 fo:=λx x e=>nomatch e
 fs:=λx e=>nomatch e
 fa:=λx x e=>nomatch e
theorem CI (y:dU s0 t0 l0 az .sc (tg b nm ps sc) (62::l)):lI s0 t0 l0 b nm ps true b6 oe az (62::l) where
 ln:=y.ln0
 sz:=y.sz
 fe:=λe=>nomatch e
 fg:=λl' e=>by obtain rfl:=(List.cons.inj e).2;exact y.trans (Ju)
 fb:=λz l' e hz=>by obtain rfl:=(List.cons.inj e).1;exact cI hz (by decide)
 fo:=λz l' e hz=>by obtain rfl:=(List.cons.inj e).1;exact cI hz (by decide)
 fs:=λl' e=>cI (List.cons.inj e).1 (by decide)
 fa:=λz l' e x h2=>cI (List.cons.inj e).1.symm h2
theorem CZ (h2:z≠62) (y:dU s0 t0 l0 az .sc (tg b nm ps sc) (z::l)):lI s0 t0 l0 b nm ps sc b6 "invalid-character-in-attribute-name" (az++at' (z::l) [eE "unexpected-character-after-solidus-in-tag"]) (z::l):=uf (y.trans (Jd h2)) λe=>nomatch e
theorem Ha (y:dU s0 t0 l0 az .nn (to b nm ps sc ky []) l) (hr:∀ z r',l=z::r'->¬ jR z/\z≠61):lI s0 t0 l0 b nm (ps++[(ky,[])]) sc "expected-end-of-tag-but-got-eof" "invalid-character-after-attribute-name" az l where
 ln :=y.ln0
 sz :=y.szc
 fe :=λe=>by subst e;exact y.trans (NQ)
 fg :=λl' e=>by subst e;exact y.trans (Gm)
 fb :=λz l' e hz=>cI hz (hr z l' e).1
 fo :=λz l' e hz=>cI hz (hr z l' e).1
 fs :=λl' e=>by subst e;exact y.thn (JV)
 fa :=λz l' e h1 h2 h3=>by
  have e61:=(hr z l' e).2
  subst e;have w:=y.trans (Iy h1 e61 h2 h3)
  have q:gt "invalid-character-after-attribute-name" kA z=gt "invalid-character-after-attribute-name" kQ z:=by
   unfold gt;have:decide ([z]∈kA)=decide ([z]∈kQ):=by
    rw[Bool.eq_iff_iff];exact(fR (t:=[39,34,61,60])).trans (Iff.trans (by simp[e61]) (fR (t:=[39,34,60])).symm)
   rw[this]
  rw[q];exact w
theorem nJ {p:cK×cK}:pA (ps++[p])=pA ps++[(p.1,.str p.2)]:=ci
theorem Js (y:dU s0 t0 l0 az .an (to b nm ps sc ky []) (z::l)) (hz:z=62\/z=47):lI s0 t0 l0 b nm (ps++[(dM ky,[])]) sc b6 oe (az++at' l (oJ ps ky)) (z::l) where
 ln:=y.ln (dN mI (by decide))
 sz:=y.szc
 fe:=λe=>nomatch e
 fg:=λl' e=>by
  obtain⟨rfl,rfl⟩:=List.cons.inj e;have w:=y.trans (HG)
  rw[at',ci,<-bS]at w
  refine nJ▸?_
  exact w
 fb:=λz' l' e h1=>by
  obtain⟨rfl,rfl⟩:=List.cons.inj e
  rcases hz with rfl | rfl<;>exact cI h1 (by decide)
 fo:=λz' l' e h1=>by
  obtain⟨rfl,rfl⟩:=List.cons.inj e
  rcases hz with rfl | rfl<;>exact cI h1 (by decide)
 fs:=λl' e=>by
  obtain⟨rfl,rfl⟩:=List.cons.inj e;exact y.trans (GX)
 fa:=λz' l' e x h2 h3=>by
  obtain⟨rfl,rfl⟩:=List.cons.inj e;exact(hz.elim h2 h3).elim
theorem D6 (y:dU s0 t0 l0 az .bv (to b nm ps sc ky []) []):lI s0 t0 l0 b nm (ps++[(ky,[])]) sc "expected-attribute-value-but-got-eof" oe az [] where
 ln:=y.ln0
 sz:=y.szc
 fe:=λx=>y.trans (MF)
 fg:=λx e=>nomatch e
 fb:=λx x e=>nomatch e
 fo:=λx x e=>nomatch e
 fs:=λx e=>nomatch e
 fa:=λx x e=>nomatch e
theorem E9 (y:dU s0 t0 l0 az .bv (to b nm ps sc ky []) (62::l)):lI s0 t0 l0 b nm (ps++[(ky,[])]) sc b6 oe (az++at' l [eE "expected-attribute-value-but-got-right-bracket"]) (62::l) where
 ln:=y.ln (cB _)
 sz:=y.szc
 fe:=λe=>nomatch e
 fg:=λl' e=>by
  obtain rfl:=(List.cons.inj e).2
  have w:=y.trans (GF)
  rw[at',ci,<-bS]at w
  refine nJ▸?_
  exact w
 fb:=λz l' e hz=>by obtain rfl:=(List.cons.inj e).1;exact cI hz (by decide)
 fo:=λz l' e hz=>by obtain rfl:=(List.cons.inj e).1;exact cI hz (by decide)
 fs:=λl' e=>cI (List.cons.inj e).1 (by decide)
 fa:=λz l' e x h2=>cI (List.cons.inj e).1.symm h2
theorem DK (y:dU s0 t0 l0 az .dq (to b nm ps sc ky vl) []):lI s0 t0 l0 b nm (ps++[(ky,vl)]) sc "eof-in-attribute-value-double-quote" oe az [] where
 ln:=y.ln0
 sz:=y.szc
 fe:=λx=>y.trans (MJ)
 fg:=λx e=>nomatch e
 fb:=λx x e=>nomatch e
 fo:=λx x e=>nomatch e
 fs:=λx e=>nomatch e
 fa:=λx x e=>nomatch e
theorem Cy (y:dU s0 t0 l0 az .sq (to b nm ps sc ky vl) []):lI s0 t0 l0 b nm (ps++[(ky,vl)]) sc "eof-in-attribute-value-single-quote" oe az [] where
 ln:=y.ln0
 sz:=y.szc
 fe:=λx=>y.trans (Nl)
 fg:=λx e=>nomatch e
 fb:=λx x e=>nomatch e
 fo:=λx x e=>nomatch e
 fs:=λx e=>nomatch e
 fa:=λx x e=>nomatch e
theorem zK (y:dU s0 t0 l0 az .av (tg b nm ps sc) l) (hr:∀ z r',l=z::r'->jR z\/z=62\/z=47):lI s0 t0 l0 b nm ps sc "unexpected-EOF-after-attribute-value" "invalid-character-in-attribute-name" az l where
 ln:=y.ln0
 sz:=y.sz
 fe:=λe=>by subst e;exact y.trans (M3)
 fg:=λl' e=>by subst e;exact y.trans (Jw)
 fb:=λz l' e hz=>by subst e;exact(y.thn (K0 hz)).thn (zr .bn λx x h1=>rO h1)
 fo:=λx x x x=>rfl
 fs:=λl' e=>by subst e;exact y.thn (GH)
 fa:=λz l' e h1 h2 h3=>((hr z l' e).elim h1 λq=>q.elim h2 h3).elim
theorem CA (h1:¬ jR z) (h2:z≠62) (h3:z≠47) (y:dU s0 t0 l0 az .av (tg b nm ps sc) (z::l)):lI s0 t0 l0 b nm ps sc b6 "invalid-character-in-attribute-name" (az++at' (z::l) [eE "unexpected-character-after-attribute-value"]) (z::l):=uf (y.trans (I9 h1 h2 h3)) λe=>nomatch e
theorem FT (y:dU s0 t0 l0 az .uq (to b nm ps sc ky vl) l) (hr:∀ z r',l=z::r'->jR z\/z=62):lI s0 t0 l0 b nm (ps++[(ky,vl)]) sc "eof-in-attribute-value-no-quotes" "invalid-character-in-attribute-name" az l where
 ln:=y.ln0
 sz:=y.szc
 fe:=λe=>by subst e;exact y.trans (Lm)
 fg:=λl' e=>by
  subst e;refine nJ▸?_
  exact y.trans (FY)
 fb:=λz l' e hz=>by subst e;exact(y.thn (IP hz)).thn (zr .bn λx x h1=>rO h1)
 fo:=λx x x x=>rfl
 fs:=λl' e=>cI (hr 47 l' e) (by decide)
 fa:=λz l' e h1 h2 h3=>((hr z l' e).elim h1 h2).elim
end
end
section
def Fj (s:Shared) (x:Str) (v:Value) (s':Shared):Prop:=∃ t k,v=.str x t/\0 < k/\s'={ s with toks:=k }
section
variable {B:dc} {A:Around} {e5:Env} {e:Expr} {s:Shared} {l la lb:cK} {a b:Str} {ap px pa pb:Pos} {ka kb:Nat} {E:Value->Shared->Prop}
theorem vV (ea:a=S la) (eb:b=S lb) (hne:(S la==S lb)=false) (hz:l.length<=1048576) (hlb:lb.length<=14) (h:wpAny B.M A (eval e e5) (Fj s (S l)) E s)
 (hb:autoParam (attributeBase e "replace" e5 (eval e e5)=eval e e5) bR) (bg:autoParam ((ap.endLine==px.line)=true) bR):
 wpAny B.M A (eval (.Call (.Attribute e "replace" ap) [.Constant (.str a) ka pa,.Constant (.str b) kb pb] [] px) e5) (Fj s (S (gQ l la lb))) E s:=by
 subst ea eb
 refine wpAny_Call_method_late hb (by rfl) bg rfl (cD h (λv s5 z=>?_) λw w z=>z)
 obtain⟨t,k,rfl,hk,rfl⟩:=z;refine⟨"str","str.replace",PySem.F.plainAttrs_str,PySem.F.slot_str_replace,PySem.F.type_str_replace,typeIs_str _ _ _,(λw e=>nomatch e),?_⟩
 refine Calls.callWith_builtin rfl (gf rfl ?_)
 refine(show starEach [Expr.Constant (.str (S la)) ka pa,Expr.Constant (.str (S lb)) kb pb] e5=(false,eval (.Constant (.str (S la)) ka pa) e5)::starEach [Expr.Constant (.str (S lb)) kb pb] e5 from rfl)▸?_
 refine spliced_cons (show wpAny _ _ (eval (.Constant (.str (S la)) ka pa) e5) _ _ _ from wpAny_Constant_str ?_)
 refine(show starEach [Expr.Constant (.str (S lb)) kb pb] e5=(false,eval (.Constant (.str (S lb)) kb pb) e5)::starEach [] e5 from rfl)▸?_
 refine spliced_cons (show wpAny _ _ (eval (.Constant (.str (S lb)) kb pb) e5) _ _ _ from wpAny_Constant_str (spliced_nil ?_))
 refine cD (iJ (SC.replaceW (x:=S l) (y:=S la) (z:=S lb) (Q:=λr s'=>∃ t' k,r=.str (Txt.replace (S l) (S la) (S lb)) t'/\s'={ s with toks:=k }) (Nat.pos_iff_ne_zero.mp hk) (Nat.succ_ne_zero _) (Nat.ne_of_lt (Nat.lt_succ_self _)) hne
  (by rw[dI];exact hz) (by rw[dI];exact hlb) λt' k=>⟨t',k,rfl,rfl⟩)) (λr s' z=>?_) λw w z=>z
 obtain⟨hk',t',k',rfl,rfl⟩:=z;exact⟨t',k',by rw[zD],sv (Nat.succ_pos _) (show k+1+1<=k' from hk'),rfl⟩
end
section
variable {B:dc} {n:Nat} {o8:OL} {f:Addr} {ay ds:cL} {Φ:AV->OL->Prop}
theorem MG {n5 qb:Str} {pj:Arguments} {b3 b5:cM} {sf sh:Scope} {dV kV d7 pm c3 ct oc:Value} {an od:Option Addr} {ol:cY} {l9:LL} (ps xs:cQ) (xb:Str) (d5:AV)
 (ho :B.K.lookup f=some ⟨oc,od,.func (fnOf n5 qb pj b3 sf dV kV d7 pm an c3 ct),ol⟩) (ba:codeIn B.K c3 qb=true)
 (hb :fw B (fnOf n5 qb pj b3 sf dV kV d7 pm an c3 ct) ps ay ds) (h:∀ L,GJ B n L (execs b5 (envOf qb sh L f c3)) [] ⟨l9,o8⟩ (qV Φ)) (h0:(xb,some d5)∈fh ps ds)
 (eb :autoParam (b3=b5) bC) (es:autoParam (sf=sh) bC)
 (aR :fh ps ds++bare xs=l9:=by simp only[fh,bare,cv,List.map_nil,c7,List.nil_append]<;>rfl) (hl:autoParam (ps.length=ds.length) bR) (hn:autoParam ((ps++xs).Nodup) bD) (b8:autoParam (ps.all (λy=>sh.names.lookup y==some .local)=true) bR)
 (aT :autoParam (sh.isCoroutine=false) bR) (aQ:autoParam (sh.isGenerator=false) bR) (hk:autoParam (sh.kind=.function) bR) (aB:autoParam (∀ x∈sh.names,x.2≠.cell) bD):de B (n+1) f ay o8 Φ:=by
 subst eb es aR
 intro A F s vs hA x hvs;have up:∀ b o,B.G.get? b=some o->s.heap.get? b=some o:=λb o e=>x.sub _ _ (x.core _ _ e)
 refine dW (hb F s vs hvs (B.X.keeps up) x.core) ?_;rintro v7 hv aS
 have sub:((ps.zip v7).map (·.1)).Nodup:=(lQ).nodup (bO.mp hn).1
 have aR:∀ y∈ps.zip v7,sf.names.lookup y.1=some .local:=λy hy=>beq_iff_eq.mp (List.all_eq_true.mp b8 y.1 (lQ.subset (List.mem_map_of_mem hy)))
 have hl':∀ y d,(y,some d)∈fh ps ds++bare xs->∃ v,(ps.zip v7).reverse.lookup y=some v/\Is B.P F v d:=λy d hy=>by
  rcases cf.mp hy with hy | hy
  . refine dW (qv hv hy) ?_;rintro v hv q
    exact⟨v,kY sub hv,q⟩
  . exact(ku hy).elim
 have hpos:0 < (ps.zip v7).length:=by
  refine dW (hl' xb d5 (bB _ h0)) ?_;rintro v e w
  rcases q:ps.zip v7 with _ | _
  . rw[q]at e;exact nomatch e
  . exact Nat.succ_pos _
 have hnn:((fh ps ds++bare xs).map (·.1)).Nodup:=by rw[ci,nr hl,kn];exact hn
 refine codeAny_call_def (fd:=fnOf n5 qb pj b3 sf dV kV d7 pm an c3 ct) (body:=b3) (binds:=ps.zip v7) (by have:=hA.depth;show A.depth < 1000;omega) ((B.X.keeps up) _ _ ho) rfl (B.nolimit.keeps up)
  (codeRec_of (B.X.keeps up) ba) rfl aS aB aR (λh6 aV h7=>?_) aT aQ hk
 have hL:=wf s.heap
 have there:∀ b∈dj o8,∃ o,s.heap.get? b=some o:=λb hb=>by
  refine dW (ee.mp hb) ?_;rintro p hp hb
  exact(x.objs p hp).there b hb
 have hLo:s.heap.objs.size∉dj o8:=λhm=>by obtain⟨o,ho⟩:=there _ hm;rw[hL]at ho;contradiction
 have hLF:F s.heap.objs.size=none:=bm.mpr λo q=>nomatch (x.sub _ _ q).symm.trans hL
 have X:Holds B.P B.G s.heap.objs.size F [] ⟨fh ps ds++bare xs,o8⟩ h6:=
  ⟨x.core,λb o e=>h7 _ _ (x.sub _ _ e),⟨_,aV,hl'⟩,hnn,λp hp=>(x.objs p hp).move (.refl F) λb o w e=>h7 _ _ e,cg.mpr ⟨hLo,x.nodup⟩,
   λb hb=>by rcases fG hb with rfl | hb;exact hLF;exact x.apart b hb,λw hp=>(nomatch hp),x.big⟩
 have hA':gn n (A.deeper (callEnv (fnOf n5 qb pj b3 sf dV kV d7 pm an c3 ct) s.heap.objs.size f)):=
  ⟨hA.handled,by have:=hA.depth;show A.depth+1+n<=900;omega,by have:=hA.units;show A.units+3+8*n<=9000;omega⟩
 refine cD ((h s.heap.objs.size).run _ F { s with heap:=h6,toks:=s.toks+(ps.zip v7).length } hA' (sv hpos (Nat.le_add_left _ _)) X) (λfl s' z=>?_) λw w z=>z.elim
 obtain⟨F',σ',x',p,e,he,q⟩:=z;refine dW (pD he q) ?_;rintro d hd q
 exact .mk _ d σ'.objs F' rfl hd x'.call ((p.over (λb hb=>(fG hb).elim (λe=>.inr (e▸hL)) .inl) h7 (.refl _) rfl).fewer λw=>.tail _) q
theorem JR {L:Addr} {e5:Env} {x:Str} {l la lb lc ld:cK} {a b c d:Str} {l9:LL} {q ap ap' pi px pr pa pb pc pd:Pos} {ka kb kc kd:Nat} {Φ:PF} (ea:a=S la) (eb:b=S lb) (ec:c=S lc) (ed:d=S ld) (n1:(S la==S lb)=false) (n2:(S lc==S ld)=false)
 (hz:l.length<=1048576) (hz2:(gQ l la lb).length<=1048576) (hb:lb.length<=14) (hd':ld.length<=14) (m:(x,some (.str l))∈l9) (hk:e5.scope.kind=.function) (hx:e5.kindOf x=some .local) (hL:e5.locals=L) (hd:(x==("__debug__":Str))=false)
 (hl1:(ap.endLine==pi.line)=true) (hl2:(ap'.endLine==px.line)=true)
 (hbs:attributeBase (.Call (.Attribute (.Name x q) "replace" ap) [.Constant (.str a) ka pa,.Constant (.str b) kb pb] [] pi) "replace" e5 (eval (.Call (.Attribute (.Name x q) "replace" ap) [.Constant (.str a) ka pa,.Constant (.str b) kb pb] [] pi) e5)=eval (.Call (.Attribute (.Name x q) "replace" ap) [.Constant (.str a) ka pa,.Constant (.str b) kb pb] [] pi) e5)
 (h :Φ (.ret (.str (gQ (gQ l la lb) lc ld))) ⟨l9,o8⟩):
 GJ B n L (execs [.Return (some (.Call (.Attribute (.Call (.Attribute (.Name x q) "replace" ap) [.Constant (.str a) ka pa,.Constant (.str b) kb pb] [] pi) "replace" ap') [.Constant (.str c) kc pc,.Constant (.str d) kd pd] [] px)) pr] e5) [] ⟨l9,o8⟩ Φ:=⟨λA F s hA ht X=>by
 subst hL;rw[execs_cons];refine cC (wpAny_Return_some (cD (vV (s:=s) (l:=gQ l la lb) ec ed n2 hz2 hd' (vV (s:=s) (l:=l) ea eb n1 hz hb ?_ (by rfl) hl1) hbs hl2) (λv s5 z=>?_) λy y z=>z))
 . refine dW (X.loc) ?_;rintro m5 aV r
   refine dW (r x _ m) ?_;rintro v e hv
   obtain⟨t,rfl⟩:=dD hv;exact wpAny_Name (wpAny_loadName_local hk hx aV e ⟨t,s.toks,rfl,ht,rfl⟩) hd
 . obtain⟨t,k,rfl,_,rfl⟩:=z
   exact cE (.toks X ⟨.ret (.str (gQ (gQ l la lb) lc ld)),.str _ _,h⟩)⟩
end
end
section
section
variable {B:dc} {T cs:cK} {o8:OL} {k:Nat}
theorem kG (hB:ej B) (h:gi T) (hk:k<=T.length):de B 1 788 [.str T,.int k,.str cs] o8 λd o=>d=.int (dn (λx=>decide (x∈cs)==false) T k:Nat)/\o=o8:=by
 have hz:=h.size
 generalize hu:(λx=>decide (x∈cs)==false)=u
 have u1:∀ y,u y=true->decide (y∈cs)=false:=λy hy=>by rw[<-hu]at hy;simpa using hy
 have u0:∀ y,u y=false->decide (y∈cs)=true:=λy hy=>by rw[<-hu]at hy;simpa using hy
 have aU:=(show k<=dn u T k from bU _ _)
 have hle:=fy u T hk
 have hm:k+(dn u T k - k)=dn u T k:=Nat.add_sub_of_le aU
 refine pK ["text","place","signs"] [] (by rw[hB.K];rfl) (by rw[hB.K];kernel_rfl) (.three λw w w=>rfl) λL=>?_
 refine⟨.ret (.int (dn u T k:Nat)),_,_,eN (rp (jD.count (λj=>⟨[("text",some (.str T)),("place",some (.int j)),("signs",some (.str cs))],o8⟩) (m:=dn u T k - k) (k:=k) ?_ ?_)) (gT (gS (d9 (d:=.int (dn u T k:Nat)) (.tail _ (List.mem_cons.mpr (.inl (by rw[hm]))))))),rfl,rfl⟩
 . intro j h1 h2
   rw[hm]at h2
   obtain⟨hj,hu'⟩:=rB h1 h2 hk;have hl:=f9 hj
   have hne:=u1 _ hu'
   generalize T[j]=z at hl hne
   exact⟨dR [.br true,.ch z,.br true] (dL hB) (qa (qa (qa (qa (qa trivial hz) (cr (show(j:Int) < (T.length:Int)from cx.mpr hj))) hl) hz) (show(!decide (z∈cs))=true by rw[hne];rfl)),
    EO [] (dL hB) trivial⟩
 . rw[hm]
   by_cases hj:dn u T k < T.length
   . have hl:=f9 hj
     have he:=u0 _ (pX (u:=u) (k:=k) hj)
     generalize T[dn u T k]=z at hl he
     exact dR [.br true,.ch z,.br false] (dL hB) (qa (qa (qa (qa (qa trivial hz) (cr (show((dn u T k:Nat):Int) < (T.length:Int)from cx.mpr hj))) hl) hz) (show(!decide (z∈cs))=false by rw[he];rfl))
   . exact dR [.br false] (dL hB) (qa (qa trivial hz) (cc λh=>hj (cx.mp h)))
theorem rm (hB:ej B) (h:gi T) (hk:k<=T.length):de B 1 795 [.str T,.int k,.str cs] o8 λd o=>d=.int (dn (λx=>decide (x∈cs)) T k:Nat)/\o=o8:=by
 have hz:=h.size
 generalize hu:(λx=>decide (x∈cs))=u
 have aU:=(show k<=dn u T k from bU _ _)
 have hle:=fy u T hk
 have hm:k+(dn u T k - k)=dn u T k:=Nat.add_sub_of_le aU
 have uu:∀ y,decide (y∈cs)=u y:=λy=>congrFun hu y
 refine pK ["text","place","signs"] [] (by rw[hB.K];rfl) (by rw[hB.K];kernel_rfl) (.three λw w w=>rfl) λL=>?_
 refine⟨.ret (.int (dn u T k:Nat)),_,_,eN (rp (jD.count (λj=>⟨[("text",some (.str T)),("place",some (.int j)),("signs",some (.str cs))],o8⟩) (m:=dn u T k - k) (k:=k) ?_ ?_)) (gT (gS (d9 (d:=.int (dn u T k:Nat)) (.tail _ (List.mem_cons.mpr (.inl (by rw[hm]))))))),rfl,rfl⟩
 . intro j h1 h2
   rw[hm]at h2
   obtain⟨hj,hu'⟩:=rB h1 h2 hk;have hl:=f9 hj
   have hne:=(uu _).trans hu'
   generalize T[j]=z at hl hne
   exact⟨dR [.br true,.ch z,.br true] (dL hB) (qa (qa (qa (qa (qa trivial hz) (cr (show(j:Int) < (T.length:Int)from cx.mpr hj))) hl) hz) hne),
    EO [] (dL hB) trivial⟩
 . rw[hm]
   by_cases hj:dn u T k < T.length
   . have hl:=f9 hj
     have he:=(uu _).trans (pX (u:=u) (k:=k) hj)
     generalize T[dn u T k]=z at hl he
     exact dR [.br true,.ch z,.br false] (dL hB) (qa (qa (qa (qa (qa trivial hz) (cr (show((dn u T k:Nat):Int) < (T.length:Int)from cx.mpr hj))) hl) hz) he)
   . exact dR [.br false] (dL hB) (qa (qa trivial hz) (cc λh=>hj (cx.mp h)))
noncomputable def ou (w:cK):cK:=gQ (gQ w [66] [98]) [88] [120]
theorem wz (hB:ej B) {w:cK} (hz:w.length<=1048576) (hz2:(gQ w [66] [98]).length<=1048576):de B 1 781 [.str w] o8 λd o=>d=.str (ou w)/\o=o8:=
 MG ["name"] [] "name" (.str w) (by rw[hB.K];rfl) (by rw[hB.K];kernel_rfl) (.one λy=>rfl) (λL=>JR (l:=w) (la:=[66]) (lb:=[98]) (lc:=[88]) (ld:=[120]) (by kernel_rfl) (by kernel_rfl) (by kernel_rfl) (by kernel_rfl) (by kernel_rfl) (by kernel_rfl) hz hz2 (by decide) (by decide) dP rfl (by kernel_rfl) rfl (by kernel_rfl) (by kernel_rfl) (by kernel_rfl) rfl ⟨rfl,rfl⟩) dP
theorem eZ (hB:ej B) {x:cK}:gD B 1 809 [.str x] (.dct [("type",.int 7),("data",.str x)]):=λo8=>
 jE ["name"] [] [.av (.str x)] [] o8 [] (.av (.dct [("type",.int 7),("data",.str x)])) [] o8 hB trivial
theorem Np {X:Cx} {σ σ':St} {es:cN} {d d':AV} (h:Fm X es σ d σ') (q:d=d'):Fm X es σ d' σ':=q▸h
theorem Ma {X:Cx} {σ:St} {e e':Expr} {es:cN} (h1:Ev X e σ (.bool false) σ):Fm X (e::e'::es) σ (.bool false) σ:=⟨λy y y h=>zY (h1.run _ _ λy=>⟨false,rfl,λy v=>h v,nofun⟩)⟩
noncomputable def lG (z:Nat):Bool:=(97<=z&&z<=122)||(65<=z&&z<=90)
theorem nM {z:Nat}:sy z↔lG z=true:=by
 have:sy z↔z∈List.range' 97 26++List.range' 65 26:=fR (t:=List.range' 97 26++List.range' 65 26)
 rw[this,cf,List.mem_range'_1,List.mem_range'_1];unfold lG;simp only[Bool.or_eq_true,Bool.and_eq_true,decide_eq_true_iff]
 simp+arith
noncomputable def kO (T:cK) (k:Nat):Bool:=match T[k]? with
 | some z=>lG z
 | none=>false
theorem td (hB:ej B) (h:gi T) (hk:k<=T.length):gD B 1 774 [.str T,.int k] (.bool (kO T k)):=λo8=>by
 have hz:=h.size
 refine pK ["text","place"] [] (by rw[hB.K];rfl) (by rw[hB.K];kernel_rfl) (.two λy y=>rfl) λL=>?_
 unfold kO
 by_cases hj:k < T.length
 . have hl:=f9 hj
   refine(bq hj)▸?_
   generalize T[k]=z at hl
   have e:(true&&(decide (97<=z)&&decide (z<=122)||decide (65<=z)&&decide (z<=90)))=lG z:=rfl
   refine⟨.ret (.bool (lG z)),[("text",some (.str T)),("place",some (.int k))],o8,gT (gS (ww (Np (ry (c:=true) (yG (tY (d9 iV) (gG (eG PyProof.Rows.Boot.«len» (by refine hB.K▸?_;kernel_rfl)) gV (dy (d9 dP) dK) (mH hz)) A8) (by rw[cr (show(k:Int) < (T.length:Int)from cx.mpr hj)]))
    (rM (MU (wh (mP (ie (l:=[97]) (by kernel_rfl)) (jz (d9 dP) (d9 iV) (AH hl hz)) tH (ie (l:=[122]) (by kernel_rfl)) tH) (vK (mP (ie (l:=[65]) (by kernel_rfl)) (jz (d9 dP) (d9 iV) (AH hl hz)) tH (ie (l:=[90]) (by kernel_rfl)) tH)))))) (cG AV.bool e)))),rfl,rfl⟩
 . refine(List.getElem?_eq_none (Nat.le_of_not_lt hj))▸?_
   exact⟨.ret (.bool false),[("text",some (.str T)),("place",some (.int k))],o8,gT (gS (ww (Ma (yG (tY (d9 iV) (gG (eG PyProof.Rows.Boot.«len» (by refine hB.K▸?_;kernel_rfl)) gV (dy (d9 dP) dK) (mH hz)) A8) (by rw[cc λq=>hj (cx.mp q)]))))),rfl,rfl⟩
end
end
section
variable {k:Nat} {e1 e2:Expr}
variable {B:dc} {T:cK} {o8:OL}
theorem xm {i:Nat} (h:i < T.length):fc T (i+1)=if T[i]=10 then .tup [.int ((T.take i).count 10+1+1),.int 0] else .tup [.int ((T.take i).count 10+1),.int (gA 0 (T.take i)+1)]:=by
 have e:T.take (i+1)=T.take i++[T[i]]:=by rw[List.take_add_one,bq h];rfl
 unfold fc;rw[e,List.count_append]
 by_cases q:T[i]=10
 . rw[cJ q,q]
   unfold gA;rw[List.foldl_append];simp
 . rw[cH q]
   unfold gA;rw[List.foldl_append];simp[q]
noncomputable def eR (T:cK) (i:Nat):cL:=(List.range i).map (fc T)++[fc T i]
theorem sK (i:Nat):eR T (i+1)=eR T i++[fc T (i+1)]:=by unfold eR;refine List.range_succ▸ci▸?_;rfl
theorem oI {n:Nat} (h:k<=n):(eR T n)[k]? =some (fc T k):=by
 unfold eR;rw[show(List.range n).map (fc T)++[fc T n]=(List.range (n+1)).map (fc T)from by rw[List.range_succ,ci];rfl,bP,List.getElem?_range (by omega)]
 rfl
theorem C5 {X:Cx} {l9:LL} {a:Addr} {i:Nat} (m:(a,AO.list (eR T i))∈o8) (hi:i<=100000) (hs:fL e2=true):
 iI X e1 e2 (.ref a) (.int (-1)) (.tup [.int ((T.take i).count 10+1),.int (gA 0 (T.take i))]) ⟨l9,o8⟩:=Am (l:=(List.range i).map (fc T)) (d:=fc T i) m (by rw[cq,List.length_range];omega) (mR hs)
noncomputable def yK (T:cK) (a:Addr) (i:Nat):LL:=[("text",some (.str T)),("marks",some (.ref a)),("sign",if i=0 then none else some (.str [T.getD (i - 1) 0])),("line",if i=0 then none else some (.int ((T.take (i - 1)).count 10+1))),("column",if i=0 then none else some (.int (gA 0 (T.take (i - 1)))))]
noncomputable def O6 (T:cK) (z:Option Nat) (l c:Option Int) (o:AO) (ls:cL) (ps:cR) (r8:OL):DS:=⟨[("text",some (.av (.str T))),("marks",some (.slot 1)),("sign",z.map λz=>.av (.str [z])),("line",l.map λi=>.av (.int i)),("column",c.map λi=>.av (.int i))],[(0,.ao o),(1,.list ls ps)],r8⟩
theorem CW (hB:ej B) (h:gi T):de B 1 802 [.str T] o8 λd o=>∃ a,d=.ref a/\o=(a,.list (eR T T.length))::o8:=by
 have hz:=h.size
 have aE:=h.len
 refine pU ["text"] ["marks","sign","line","column"] (by rw[hB.K];rfl) (by rw[hB.K];kernel_rfl) (.one λy=>rfl) λL=>?_
 refine iO (dy (rN (dy iP (dy iP dK)) (by decide)) dK) (by decide) λa=>⟨_,.skip .hit,?_⟩
 refine eH (rx (N:=T.length) (i3:=λi=>.str [T.getD i 0]) (d:=.str T) (λi=>yK T a i) (λi=>(a,AO.list (eR T i))::o8) (d9 dP) (λxv=>vg) ?_) ?_
 . intro i hi c p
   have hg:T.getD i 0=T[i]:=by simp[hi]
   have hm:=xm hi
   have hml:(eR T i).length<=16777216:=by unfold eR;rw[bM,cq,List.length_range,bx];omega
   have ei:T.getD (i+1 - 1) 0=T[i]:=by rw[Nat.add_sub_cancel];exact hg
   refine⟨⟨[("text",some (.str T)),("marks",some (.ref a)),("sign",some (.str [T[i]])),("line",if i=0 then none else some (.int ((T.take (i - 1)).count 10+1))),("column",if i=0 then none else some (.int (gA 0 (T.take (i - 1)))))],(c,.is p)::(a,.list (eR T i))::o8⟩,fX (fW (by refine hg▸?_;exact .skip (.skip .hit))),?_⟩
   have fin:(⟨yK T a (i+1),(c,.is p)::(a,.list (eR T (i+1)))::o8⟩:St)=(⟨[("text",some (.str T)),("marks",some (.ref a)),("sign",some (.str [T[i]])),("line",some (.int ((T.take i).count 10+1))),("column",some (.int (gA 0 (T.take i))))],(c,.is p)::(a,.list (eR T i++[if T[i]=10 then AV.tup [.int ((T.take i).count 10+1+1),.int 0] else .tup [.int ((T.take i).count 10+1),.int (gA 0 (T.take i)+1)]]))::o8⟩:St):=by
    rw[sK,hm];unfold yK;rw[cH (Nat.succ_ne_zero i),cH (Nat.succ_ne_zero i),cH (Nat.succ_ne_zero i),ei,Nat.add_sub_cancel]
   refine fin▸?_
   clear fin hm ei hg;have um:=λ(l c':cS) (X:Cx) (_:X.B=B) e1 e2 hs=>C5 (X:=X) (e1:=e1) (e2:=e2) (l9:=[("text",some (.str T)),("marks",some (.ref a)),("sign",some (.str [T[i]])),("line",l),("column",c')]) (o8:=(c,.is p)::(a,.list (eR T i))::o8) (a:=a) (i:=i) (T:=T) iV (by omega) hs
   generalize hA:((T.take i).count 10:Int)+1=A at um |-
   generalize hC:gA 0 (T.take i)=C at um |-
   generalize eR T i=ml at hml um |-
   generalize T[i]=z
   by_cases e10:z=10
   . refine(cJ e10)▸?_
     by_cases i0:i=0
     . refine(cJ i0)▸(cJ i0)▸?_
       exact dQ [c,a] (O6 T (some z) none none (.is p) ml [] o8) [.itm (.tup [.int A,.int C]),.br true] (dL hB) (qa (qa (qa trivial (um none none)) (cr (cG (λz=>[z]) e10))) hml)
     . refine(cH i0)▸(cH i0)▸?_
       exact dQ [c,a] (O6 T (some z) (some ((T.take (i - 1)).count 10+1)) (some (gA 0 (T.take (i - 1)))) (.is p) ml [] o8) [.itm (.tup [.int A,.int C]),.br true] (dL hB) (qa (qa (qa trivial (um (some (.int ((T.take (i - 1)).count 10+1))) (some (.int (gA 0 (T.take (i - 1))))))) (cr (cG (λz=>[z]) e10))) hml)
   . refine(cH e10)▸?_
     by_cases i0:i=0
     . refine(cJ i0)▸(cJ i0)▸?_
       exact dQ [c,a] (O6 T (some z) none none (.is p) ml [] o8) [.itm (.tup [.int A,.int C]),.br false] (dL hB) (qa (qa (qa trivial (um none none)) (fH e10)) hml)
     . refine(cH i0)▸(cH i0)▸?_
       exact dQ [c,a] (O6 T (some z) (some ((T.take (i - 1)).count 10+1)) (some (gA 0 (T.take (i - 1)))) (.is p) ml [] o8) [.itm (.tup [.int A,.int C]),.br false] (dL hB) (qa (qa (qa trivial (um (some (.int ((T.take (i - 1)).count 10+1))) (some (.int (gA 0 (T.take (i - 1))))))) (fH e10)) hml)
 . exact eu (gT (gS (d9 iV))) ⟨_,rfl,a,rfl,rfl⟩
theorem nA (l:cL):∀ n,n<=l.length->eU (λy=>true) (λi=>l.getD i .any) n=l.take n
 | 0,_=>by rw[List.take_zero];rfl
 | n+1,h=>by
  unfold eU;rw[cJ rfl,nA l n (Nat.le_of_succ_le h),List.take_add_one,bp,bq h];rfl
theorem ge (l:cL):eU (λy=>true) (λi=>l.getD i .any) l.length=l:=by rw[nA l _ (cB _),List.take_length]
theorem Qu {X:Cx} {e:Expr} {σ:St} {v:Value} (h:Bo X e σ v (.lit v)):Ev X e σ (.lit v) σ:=⟨λH Φ k=>h.run H Φ (k v)⟩
section
variable {i:Int} {r fs:FL} {nm:AV} {l:cL} {sc:Bool}
theorem wg (hB:ej B) (h3:(!decide (i=3))=true) (h4:(!decide (i=4))=true):gD B 2 826 [.dct (("type",.int i)::r)] (.lst []):=λo8=>
 jE ["token"] [] [.av (.dct (("type",.int i)::r))] [] o8 [.br true,.br true,.cmp true] (.av (.lst [])) [] o8 hB (qa (qa trivial h3) h4)
noncomputable abbrev mF (i:Int) (nm d:AV) (sc:Bool) (r:FL):AV:=.dct (("type",.int i)::("name",nm)::("data",d)::("selfClosing",.bool sc)::r)
theorem uk (hB:ej B) (hz:fs.length<=1000):gD B 2 826 [mF 3 nm (.dct fs) sc r] (.lst (.bool true::fs.map λp=>.str (lz p.1))):=λo8=>by
 refine pK ["token"] [] (by rw[hB.K];rfl) (by rw[hB.K];kernel_rfl) (.one λy=>rfl) λL=>?_
 refine⟨_,[("token",some (mF 3 nm (.dct fs) sc r))],o8,eN (na (dR [.br false] (dL hB) (qa trivial ff)) fO)
  (gT (gS (lY (rq (dy (gG (eG PyProof.Rows.Boot.«isinstance» (by rw[hB.K];kernel_rfl)) gV (dy (jz (d9 dP) (ie (l:=sg "selfClosing") (mq _)) (qD rfl)) (dy (Qu (eG PySem.Pv.boot_bool (by rw[hB.K];kernel_rfl))) dK)) tR) dK) (eP rfl))
   (BO ["key"] (λy=>true) (λi=>(fs.map λp=>AV.str (lz p.1)).getD i .any) (dN hz (by decide)) (jz (d9 dP) (ie (l:=sg "data") (mq _)) (qD rfl)) (λi hi=>?_) rfl) (zu ?_)))),?_,rfl⟩
 . exact⟨λC p q=>⟨[("key",some ((fs.map λp=>AV.str (lz p.1)).getD i .any))],[("key",some ((fs.map λp=>AV.str (lz p.1)).getD i .any))],fX (fW .hit),li,λy=>d9 dP⟩⟩
 . rw[bx,show eU (λy=>true) (λi=>(fs.map λp=>AV.str (lz p.1)).getD i .any) fs.length=fs.map λp=>AV.str (lz p.1)from by rw[show fs.length=(fs.map λp=>AV.str (lz p.1)).length from(cq _).symm];exact ge _,cq]
   exact dN (bG hz 1) (by decide)
 . show AV.lst ([.bool true]++_)= _
   rw[show eU (λy=>true) (λi=>(fs.map λp=>AV.str (lz p.1)).getD i .any) fs.length=fs.map λp=>AV.str (lz p.1)from by rw[show fs.length=(fs.map λp=>AV.str (lz p.1)).length from(cq _).symm];exact ge _]
   rfl
theorem zH (hB:ej B) (hz:l.length<=1000):gD B 2 826 [mF 4 nm (.lst l) sc r] (.lst (.bool true::l)):=λo8=>by
 refine pK ["token"] [] (by rw[hB.K];rfl) (by rw[hB.K];kernel_rfl) (.one λy=>rfl) λL=>?_
 refine⟨_,[("token",some (mF 4 nm (.lst l) sc r))],o8,eN (na (dR [.br true,.br false] (dL hB) (qa (qa trivial tt) ff)) fO)
  (gT (gS (lY (rq (dy (gG (eG PyProof.Rows.Boot.«isinstance» (by rw[hB.K];kernel_rfl)) gV (dy (jz (d9 dP) (ie (l:=sg "selfClosing") (mq _)) (qD rfl)) (dy (Qu (eG PySem.Pv.boot_bool (by rw[hB.K];kernel_rfl))) dK)) tR) dK) (eP rfl))
   (uz (N:=l.length) (d:=.lst l) ["key"] (λy=>true) (λi=>l.getD i .any) (dN hz (by decide)) (jz (d9 dP) (ie (l:=sg "data") (mq _)) (qD rfl)) (λxv=>lq) (λi hi=>?_) rfl) (zu ?_)))),?_,rfl⟩
 . exact⟨λC p q=>⟨[("key",some (l.getD i .any))],[("key",some (l.getD i .any))],fX (fW .hit),li,λy=>d9 dP⟩⟩
 . rw[bx,ge]
   exact dN (bG hz 1) (by decide)
 . show AV.lst ([.bool true]++_)= _
   rw[ge];rfl
end
end
section
noncomputable def By (c d:Nat) (x:Nat):Nat:=if x=c then d else x
theorem th {c d:Nat}:∀ {l:cK},c∉l->l.map (By c d)=l:=by
 intro l
 induction l with
 | nil=>exact λy=>rfl
 | cons x l ih=>
  intro h;rw[cv,ih λm=>h (.tail _ m)];unfold By;rw[cH λe=>h (List.mem_cons.mpr (.inl e.symm))]
theorem sS (c d:Nat):∀ parts:cQ,(∀ p∈parts,c∉p.cps.toList)->(Str.join ⟨#[c]⟩ parts).cps.toList.map (By c d)=(Str.join ⟨#[d]⟩ parts).cps.toList
 | [],_=>rfl
 | [p],h=>th (h p (bL.mpr rfl))
 | p::q::r,h=>by
  have ih:=sS c d (q::r) λa ha=>h a (List.mem_cons_of_mem _ ha)
  show(p++⟨#[c]⟩++Str.join ⟨#[c]⟩ (q::r)).cps.toList.map (By c d)=(p++⟨#[d]⟩++Str.join ⟨#[d]⟩ (q::r)).cps.toList
  simp only[Str.cps_append,Array.toList_append,ci]
  rw[ih,th (h p (List.mem_cons_self ..))];have e:(⟨#[c]⟩:Str).cps.toList.map (By c d)=(⟨#[d]⟩:Str).cps.toList:=by
   show[By c d c]=[d]
   unfold By;rw[cJ rfl]
  rw[e]
theorem me (l:cK) (c d:Nat):gQ l [c] [d]=l.map (By c d):=by
 show(Txt.replace (S l) ⟨#[c]⟩ ⟨#[d]⟩).cps.toList= _
 rw[StrLaws.replace_one,<-sS c d _ (StrLaws.split_free (S l) c),StrLaws.join_split]
noncomputable def gM:cK:=[60,97,47,98,62,32,120,61,34,39,10,66,45,96,88,201,12,49]
theorem yt {w:cK} (h:∀ c∈w,c∈gM):ou w=dM w:=by
 unfold ou;rw[me,me,List.map_map];have k:∀ c∈gM,(By 88 120 ∘ By 66 98) c=lE c:=by decide
 exact List.map_congr_left λc hc=>k c (h c hc)
end
section
section
variable {X:Cx} {σ a6 a9 σ':St} {Q:PF} {R:St->Prop} {f:Fl} {l9:LL} {o8 r8:OL} {pa lb:Addr} {kv as bs:cL}
theorem wX {t:Expr} {b3:cM} {pi:Pos} (Inv:Nat->St->Prop) {n:Nat} (h0:Inv n σ)
 (step:∀ k σ,Inv k σ->(∃ σ',Te X t σ false σ'/\Q .next σ')\/∃ a6,Te X t σ true a6/\dH X b3 a6 λf a9=>(f=.next/\∃ m,m < k/\Inv m a9)\/∃ d,f=.ret d/\Q f a9):xV X (.While t b3 [] pi) σ Q:=⟨λy Φ h=>mz Inv n h0 λk σ r=>by
 rcases step k σ r with⟨σ',ht,q⟩ | ⟨a6,ht,hb⟩
 . exact ht.run _ _ ⟨(λq=>nomatch q),λy=>h _ _ q⟩
 . refine ht.run _ _ ⟨λy=>hb.run _ (lN (λa9=>∃ m,m < k/\Inv m a9) Φ) (λf a9 z=>?_),λq=>nomatch q⟩
   rcases z with⟨e,i⟩ | ⟨d,e,q⟩
   . subst e;exact i
   . subst e;exact h _ _ q⟩
theorem Dn {s:Stmt} {ss:cM} (R:St->Prop) (h1:xV X s σ λf σ'=>(f=.next/\R σ')\/∃ d,f=.ret d/\Q f σ') (h2:∀ σ',R σ'->dH X ss σ' Q):dH X (s::ss) σ Q:=⟨λH Φ h=>gu (h1.run _ (iU X.B X.n X.L ss X.env H Φ) λf σ' z=>by
 rcases z with⟨e,r⟩ | ⟨d,e,q⟩
 . subst e;exact(h2 σ' r).run _ Φ h
 . subst e;exact h _ _ q)⟩
theorem CQ {ss:cM} (h:dH X ss ⟨l9,(pa,.list (as++.lst kv::bs))::r8⟩ Q):dH X ss ⟨l9,(lb,.list kv)::(pa,.list (as++.ref lb::bs))::r8⟩ Q:=
 ⟨λH Φ k=>dg λA F s hA Y=>by
  refine FN Y.freeze ?_;rintro F' le Y' hl back
  have Y2:Holds X.B.P X.B.G X.L F' H ⟨l9,(pa,.list (as++.lst kv::bs))::r8⟩ s.heap:=⟨Y'.core,Y'.sub,Y'.loc,Y'.names,λp hp=>by
   rcases fG hp with rfl | hp
   . refine im (Y'.objs (pa,.list (as++.ref lb::bs)) dP) ?_;rintro ws k g1 g2
     exact⟨ws,k,g1,IsAll.retell (.refl _) (λv q=>by obtain rfl:=dF q;exact hl) as g2⟩
   . exact Y'.objs p (.tail _ hp),Y'.nodup,Y'.apart,Y'.held,Y'.low⟩
  refine cD ((h.run H Φ k).run A F' s hA Y2) (λv s' z=>?_) λy y z=>z
  obtain⟨F1,a9,x1,p5,q⟩:=z;exact⟨F1,a9,x1,eC.trans (s':=s) (O':=X.L::dj ((pa,.list (as++.lst kv::bs))::r8)) (F':=F') ⟨λy y y e=>e,λb hb=>.inl ((fG hb).elim (λe=>e▸.head _) λhb=>.tail _ (.tail _ hb)),λb o e=>(back b o e).elim .inl λz=>.inr (.inl (z▸.tail _ dP)),le,.refl _,rfl⟩ p5,q⟩⟩
end
end
section
section
variable {T:cK} {u:Nat->Bool} {k p:Nat} {l:cK}
theorem jj:∀ {l:cK} {z:Nat} {r':cK},l.dropWhile u=z::r'->u z=false:=by
 intro l
 induction l with
 | nil=>exact λh=>nomatch h
 | cons x l ih=>
  intro z r' h;rw[bH]at h
  by_cases e:u x=true
  . rw[cJ e]at h;exact ih h
  . rw[cH e]at h
    obtain⟨rfl,_⟩:=List.cons.inj h;exact bQ.mpr e
theorem vN:∀ {l:cK},l.take (l.takeWhile u).length=l.takeWhile u:=by
 intro l
 induction l with
 | nil=>rfl
 | cons x l ih=>
  rw[bF]
  by_cases e:u x=true
  . rw[cJ e,bY,List.take_succ_cons,ih]
  . rw[cH e];rfl
theorem lZ (h:k<=T.length):sl T (some (k:Int)) (some ((dn u T k:Nat):Int))=(T.drop k).takeWhile u:=by
 have hle:=fy u T h
 rw[jO,eX hle,eX h,List.drop_take];unfold dn;rw[Nat.add_sub_cancel_left,vN]
theorem At {a b:Nat} (h1:a<=b) (h2:b<=T.length):sl T (some (a:Int)) (some ((b:Nat):Int))=(T.drop a).take (b - a):=by
 rw[jO,eX h2,eX (dN h1 h2),List.drop_take]
noncomputable abbrev dJ (T:cK) (e:Nat×AV):AV:=.tup [.int ((T.length - e.1:Nat):Int),e.2]
theorem jn (h:p<=T.length) {ks:cL}:(at' (T.drop p) ks).map (dJ T)=ks.map λd=>.tup [.int (p:Nat),d]:=by
 rw[at',List.map_map];refine List.map_congr_left λd y=>?_
 show AV.tup [.int ((T.length - (T.drop p).length:Nat):Int),d]= _
 rw[c8,Nat.sub_sub_self h]
end
structure fU (T:cK):Prop where
 len:T.length<=100
 sig:∀ c∈T,c∈gM
section
variable {T:cK} {k:Nat}
theorem fU.plain (h:fU T):gi T:=by
 have k1:∀ c∈gM,c≠13/\El (c:Int)=false/\c < 1114112/\¬ (55296<=c/\c<=56319):=by decide+kernel
 exact⟨dN h.len (by decide),λq=>(k1 _ (h.sig _ q)).1 rfl,λc hc=>(k1 c (h.sig c hc)).2⟩
theorem fU.n13 (h:fU T):∀ c∈T.drop k,c≠13:=λc hc=>by
 have k1:∀ c∈gM,c≠13:=by decide
 exact k1 c (h.sig c ((List.drop_sublist k T).subset hc))
theorem fU.no0 (h:fU T):∀ c∈T,c≠0/\c≠38:=λc hc=>by
 have k1:∀ c∈gM,c≠0/\c≠38:=by decide
 exact k1 c (h.sig c hc)
theorem fU.low (h:fU T) {w:cK} (hw:∀ c∈w,c∈T.drop k):ou w=dM w:=yt λc hc=>h.sig c ((List.drop_sublist k T).subset (hw c hc))
end
inductive yD:LL->LL->Prop
 | nil:yD [] []
 | keep {p:Str×cS} {l l':LL}:yD l l'->yD (p::l) (p::l')
 | drop {x:Str} {o:cS} {l l':LL}:yD l l'->yD ((x,none)::l) ((x,o)::l')
theorem yD.le {l l':LL} (h:yD l l'):∀ x d,(x,some d)∈l->(x,some d)∈l':=by
 induction h with
 | nil=>exact λy y h=>h
 | keep _ ih=>exact λx d h=>(fG h).elim (λe=>e▸.head _) λh=>.tail _ (ih x d h)
 | drop _ ih=>exact λx d h=>(fG h).elim (λe=>nomatch e) λh=>.tail _ (ih x d h)
inductive qj (e:AV) (a:Addr):LL->LL->Prop
 | hit {x:Str} {l l':LL}:yD l l'->qj e a ((x,some e)::l) ((x,some (.ref a))::l')
 | keep {p:Str×cS} {l l':LL}:qj e a l l'->qj e a (p::l) (p::l')
 | drop {x:Str} {o:cS} {l l':LL}:qj e a l l'->qj e a ((x,none)::l) ((x,o)::l')
theorem qj.le {e:AV} {a:Addr} {l l':LL} (h:qj e a l l'):∀ x d,(x,some d)∈l->(x,some d)∈l'\/(d=e/\(x,some (.ref a))∈l'):=by
 induction h with
 | hit h=>exact λx d m=>(fG m).elim (λq=>.inr ⟨by injection q with _ q;injection q,by injection q with q _;exact q▸.head _⟩) λm=>.inl (.tail _ (h.le x d m))
 | keep _ ih=>exact λx d m=>(fG m).elim (λq=>.inl (q▸.head _)) λm=>(ih x d m).imp (.tail _) λz=>⟨z.1,.tail _ z.2⟩
 | drop _ ih=>exact λx d m=>(fG m).elim (λq=>nomatch q) λm=>(ih x d m).imp (.tail _) λz=>⟨z.1,.tail _ z.2⟩
noncomputable abbrev tL (T:cK) (h0:Nat) (cl:Bool) (ra:Addr) (a n p s br od w1 w2 w3 w4 w5 w6:cS):LL:=[("text",some (.str T)),("head",some (.int h0)),("closing",some (.bool cl)),("rows",some (.ref ra)),("at",a),("name",n),("pairs",p),("shut",s),("broken",br),("odd",od),("stop",w1),("spot",w2),("key",w3),("opener",w4),("first",w5),("value",w6)]
noncomputable abbrev tD (T:cK) (h0:Nat) (cl:Bool) (a n p s br od w1 w2 w3 w4 w5 w6:Option DV):cZ:=[("text",some (.av (.str T))),("head",some (.av (.int h0))),("closing",some (.av (.bool cl))),("rows",some (.slot 0)),("at",a),("name",n),("pairs",p),("shut",s),("broken",br),("odd",od),("stop",w1),("spot",w2),("key",w3),("opener",w4),("first",w5),("value",w6)]
noncomputable abbrev eA (B:dc) (L:Addr):Cx:=⟨B,1,L,envOf "_law_tag" (jo gJ) L 814 (.ref 813)⟩
end
section
noncomputable def EY (s:Stmt):cM:=match s with
 | .While _ b _ _=>b
 | _=>[]
noncomputable def jc (s:Stmt):cM:=match s with
 | .If _ a _ _=>a
 | _=>[]
noncomputable def gU (s:Stmt):cM:=match s with
 | .If _ _ b _=>b
 | _=>[]
noncomputable def jZ (l:cM) (i:Nat) (f:Stmt->cM):cM:=match l.drop i with
 | s::_=>f s
 | []=>[]
noncomputable def vM:cM:=jZ (fQ gJ) 6 EY
noncomputable def FJ:cM:=jZ vM 0 jc
noncomputable def wO:cM:=jZ (jZ vM 0 gU) 0 jc
noncomputable def gk:cM:=jZ (jZ vM 0 gU) 0 gU
section
variable {B:dc} {L ra pa:Addr} {T nm br od:cK} {h0 k:Nat} {cl sc:Bool} {al pl:cL} {r8:OL}
noncomputable abbrev u9:cK:=sg "invalid-character-in-attribute-name"
noncomputable abbrev Lu:cK:=sg "invalid-character-after-attribute-name"
noncomputable abbrev nq (T:cK) (h0:Nat) (cl:Bool) (ra pa:Addr) (k:Nat) (nm:cK) (sc:Bool) (br od:cK) (al pl:cL) (r8:OL):St:=⟨tL T h0 cl ra (some (.int k)) (some (.str nm)) (some (.ref pa)) (some (.bool sc)) (some (.str br)) (some (.str od)) none none none none none none,(ra,.list al)::(pa,.list pl)::r8⟩
noncomputable abbrev GU (T:cK) (h0:Nat) (cl:Bool) (k:Nat) (nm:cK) (sc:Bool) (br od:cK) (al:cL) (as:cR) (pl:cL) (r8:OL):DS:=⟨tD T h0 cl (some (.av (.int k))) (some (.av (.str nm))) (some (.slot 1)) (some (.av (.bool sc))) (some (.av (.str br))) (some (.av (.str od))) none none none none none none,[(0,.list al as),(1,.list pl [])],r8⟩
theorem Ph (hB:ej B) (hT:fU T) (hk:k<=T.length):fx (eA B L) FJ (nq T h0 cl ra pa k nm sc br od al pl r8) .next (nq T h0 cl ra pa (dn iS T k) nm sc (sg "expected-attribute-name-but-got-eof") od al pl r8):=
 dQ [ra,pa] (GU T h0 cl k nm sc br od al [] pl r8) [.cs (.av (.int (dn iS T k:Nat))) [] 1] (dL hB) (qa trivial (λR=>rm (cs:=[9,10,12,32]) (o8:=R) hB hT.plain hk))
theorem LG (hB:ej B) (hT:fU T) (hk:k+1=T.length):fx (eA B L) wO (nq T h0 cl ra pa k nm sc br od al pl r8) .next (nq T h0 cl ra pa (k+1) nm sc (sg "unexpected-EOF-after-solidus-in-tag") u9 al pl r8):=
 dQ [ra,pa] (GU T h0 cl k nm sc br od al [] pl r8) [.br false] (dL hB) (qa (qa trivial hT.plain.size) (cc (show ¬ ((k+1:Nat):Int) < (T.length:Int)by omega)))
theorem NR (hB:ej B) (hT:fU T) (hk:k+1 < T.length) (hz:T[k+1]=62):fx (eA B L) wO (nq T h0 cl ra pa k nm sc br od al pl r8) .next (nq T h0 cl ra pa (k+1) nm true (sg "unexpected-EOF-after-solidus-in-tag") u9 al pl r8):=by
 have hl:=f9 hk
 rw[hz]at hl
 exact dQ [ra,pa] (GU T h0 cl k nm sc br od al [] pl r8) [.br true,.ch 62,.br true] (dL hB) (qa (qa (qa (qa (qa trivial hT.plain.size) (cr (show((k+1:Nat):Int) < (T.length:Int)from cx.mpr hk))) hl) hT.plain.size) tt)
theorem Kz (hB:ej B) (hT:fU T) (hk:k+1 < T.length) (hz:T[k+1]≠62) (aC:al.length<=1000):fx (eA B L) wO (nq T h0 cl ra pa k nm false br od al pl r8) .next (nq T h0 cl ra pa (k+1) nm false (sg "unexpected-EOF-after-solidus-in-tag") u9 (al++[.tup [.int ((k+1:Nat):Int),eE "unexpected-character-after-solidus-in-tag"]]) pl r8):=by
 have hl:=f9 hk
 generalize T[k+1]=z at hl hz
 have hf:=eZ (x:=sg "unexpected-character-after-solidus-in-tag") hB
 have e:decide ([z]=[62])=false:=fH hz
 exact eW [ra,pa] (GU T h0 cl k nm false br od al [] pl r8) (GU T h0 cl (k+1) nm (decide ([z]=[62])) (sg "unexpected-EOF-after-solidus-in-tag") u9 al [.av (.tup [.int ((k+1:Nat):Int),eE "unexpected-character-after-solidus-in-tag"])] pl r8) [.br true,.ch z,.br false,.cs (.av (eE "unexpected-character-after-solidus-in-tag")) [] 1] .next (dL hB) (qa (qa (qa (qa (qa (qa (qa trivial hT.plain.size) (cr (show((k+1:Nat):Int) < (T.length:Int)from cx.mpr hk))) hl) hT.plain.size) e) hf) (iu 0 aC)) (h2:=by rw[e];kernel_rfl)
end
end
section
noncomputable def Ff (s:Stmt):cM:=match s with
 | .For _ _ b _ _=>b
 | _=>[]
noncomputable def si:cM:=jZ gk 1 Ff
section
variable {B:dc} {L ra pa c:Addr} {T nm br od:cK} {h0 k j st z:Nat} {cl sc:Bool} {al pl:cL} {r8:OL} {p:Obj->Prop}
noncomputable abbrev xg (T:cK) (h0:Nat) (cl:Bool) (ra pa:Addr) (k:Nat) (nm:cK) (sc:Bool) (br od:cK) (st:Nat) (sp:cS) (pz:OL) (al pl:cL) (r8:OL):St:=⟨tL T h0 cl ra (some (.int k)) (some (.str nm)) (some (.ref pa)) (some (.bool sc)) (some (.str br)) (some (.str od)) (some (.int st)) sp none none none none,pz++(ra,.list al)::(pa,.list pl)::r8⟩
noncomputable abbrev Mx (T:cK) (h0:Nat) (cl:Bool) (k:Nat) (nm:cK) (sc:Bool) (br od:cK) (st:Nat) (sp:Option DV) (pz:cV) (al:cL) (as:cR) (pl:cL) (r8:OL):DS:=⟨tD T h0 cl (some (.av (.int k))) (some (.av (.str nm))) (some (.slot 1)) (some (.av (.bool sc))) (some (.av (.str br))) (some (.av (.str od))) (some (.av (.int st))) sp none none none none,pz++[(0,.list al as),(1,.list pl [])],r8⟩
noncomputable abbrev Fo (x:cK):AV:=.dct [("type",.int 7),("data",.str x)]
theorem Hw (hB:ej B) (hT:fU T) (hk:k < T.length):fx (eA B L) (gk.take 1) (nq T h0 cl ra pa k nm sc br od al pl r8) .next (xg T h0 cl ra pa k nm sc br od (dn qN T (k+1)) none [] al pl r8):=
 dQ [ra,pa] (GU T h0 cl k nm sc br od al [] pl r8) [.cs (.av (.int (dn qN T (k+1):Nat))) [] 1] (dL hB) (qa (qa trivial (FG 7)) (λR=>kG (k:=k+1) (cs:=[9,10,12,32]++[61,62,47]) (o8:=R) hB hT.plain hk))
theorem NM (hB:ej B) (hT:fU T) (hl:qh T (j:Nat)=some z) (h1:decide (z∈[34,39,60])=false) (h2:j≠k):fx (eA B L) si (xg T h0 cl ra pa k nm sc br od st (some (.int j)) [(c,.is p)] al pl r8) .next (xg T h0 cl ra pa k nm sc br od st (some (.int j)) [(c,.is p)] al pl r8):=
 dQ [ra,pa,c] (Mx T h0 cl k nm sc br od st (some (.av (.int j))) [(2,.ao (.is p))] al [] pl r8) [.ch z,.br false,.br false] (dL hB) (qa (qa (qa (qa trivial hl) hT.plain.size) h1) (cc λe:(j:Int)=(k:Int)=>h2 (Int.ofNat.inj e)))
theorem M7 (hB:ej B) (hT:fU T) (hl:qh T (k:Nat)=some z) (h1:decide (z∈[34,39,60])=false) (h2:z≠61):fx (eA B L) si (xg T h0 cl ra pa k nm sc br od st (some (.int k)) [(c,.is p)] al pl r8) .next (xg T h0 cl ra pa k nm sc br od st (some (.int k)) [(c,.is p)] al pl r8):=
 dQ [ra,pa,c] (Mx T h0 cl k nm sc br od st (some (.av (.int k))) [(2,.ao (.is p))] al [] pl r8) [.ch z,.br false,.br true,.ch z,.br false] (dL hB) (qa (qa (qa (qa (qa (qa (qa trivial hl) hT.plain.size) h1) (cr (show(k:Int)=(k:Int)from rfl))) hl) hT.plain.size) (fH h2))
theorem MH (hB:ej B) (hT:fU T) (hl:qh T (j:Nat)=some z) (h1:decide (z∈[34,39,60])=true) (h2:j≠k) (aC:al.length<=1000):fx (eA B L) si (xg T h0 cl ra pa k nm sc br od st (some (.int j)) [(c,.is p)] al pl r8) .next (xg T h0 cl ra pa k nm sc br od st (some (.int j)) [(c,.is p)] (al++[.tup [.int ((j+1:Nat):Int),Fo u9]]) pl r8):=
 dQ [ra,pa,c] (Mx T h0 cl k nm sc br od st (some (.av (.int j))) [(2,.ao (.is p))] al [] pl r8) [.ch z,.br true,.br false,.cs (.av (Fo u9)) [] 1] (dL hB) (qa (qa (qa (qa (qa (qa trivial hl) hT.plain.size) h1) (cc λe:(j:Int)=(k:Int)=>h2 (Int.ofNat.inj e))) (eZ (x:=u9) hB)) (iu 0 aC))
theorem NH (hB:ej B) (hT:fU T) (hl:qh T (k:Nat)=some z) (h1:decide (z∈[34,39,60])=true) (aC:al.length<=1000):fx (eA B L) si (xg T h0 cl ra pa k nm sc br od st (some (.int k)) [(c,.is p)] al pl r8) .next (xg T h0 cl ra pa k nm sc br od st (some (.int k)) [(c,.is p)] (al++[.tup [.int ((k+1:Nat):Int),Fo od]]) pl r8):=
 dQ [ra,pa,c] (Mx T h0 cl k nm sc br od st (some (.av (.int k))) [(2,.ao (.is p))] al [] pl r8) [.ch z,.br true,.br true,.cs (.av (Fo od)) [] 1] (dL hB) (qa (qa (qa (qa (qa (qa trivial hl) hT.plain.size) h1) (cr (show(k:Int)=(k:Int)from rfl))) (eZ (x:=od) hB)) (iu 0 aC))
theorem NP (hB:ej B) (hT:fU T) (hl:qh T (k:Nat)=some 61) (aC:al.length<=1000):fx (eA B L) si (xg T h0 cl ra pa k nm sc br od st (some (.int k)) [(c,.is p)] al pl r8) .next (xg T h0 cl ra pa k nm sc br od st (some (.int k)) [(c,.is p)] (al++[.tup [.int ((k+1:Nat):Int),Fo od]]) pl r8):=
 dQ [ra,pa,c] (Mx T h0 cl k nm sc br od st (some (.av (.int k))) [(2,.ao (.is p))] al [] pl r8) [.ch 61,.br false,.br true,.ch 61,.br true,.br true,.cs (.av (Fo od)) [] 1] (dL hB) (qa (qa (qa (qa (qa (qa (qa (qa (qa (qa trivial hl) hT.plain.size) (by decide:decide (61∈[34,39,60])=false)) (cr (show(k:Int)=(k:Int)from rfl))) hl) hT.plain.size) tt) (cr (show(k:Int)=(k:Int)from rfl))) (eZ (x:=od) hB)) (iu 0 aC))
end
end
section
section
variable {B:dc} {L ra pa:Addr} {T nm br w r:cK} {h0 k z:Nat} {cl sc:Bool} {al pl:cL} {r8:OL}
theorem sn {X:Cx} {σ:St} {i j:Int}:eV X (.type "range") [.int i,.int j] σ (.obj (jP i j)) σ:=kL λy y y y mv mw h=>AX mv mw h
noncomputable def ik (T:cK) (k:Nat) (oe:String) (z:Nat) (w r:cK) (i:Nat):cW:=if i=0 then [] else at' (T.drop (k+1)) (gt oe kA z)++gP "invalid-character-in-attribute-name" kQ (w.take (i - 1)) (w.drop (i - 1)++r)
theorem ya {oe:String}:ik T k oe z w r 1=at' (T.drop (k+1)) (gt oe kA z):=by
 unfold ik;rw[cH (by decide)];exact cm _
theorem ve {oe:String} {i:Nat} (hw:T.drop (k+1)=w++r) (hi:i < w.length):ik T k oe z w r (i+2)=ik T k oe z w r (i+1)++at' (T.drop (k+1+i+1)) (gt "invalid-character-in-attribute-name" kQ w[i]):=by
 have e1:w.take (i+1)=w.take i++[w[i]]:=by rw[List.take_add_one,bq hi];rfl
 have e2:[w[i]]++(w.drop (i+1)++r)=w.drop i++r:=by rw[List.drop_eq_getElem_cons hi];rfl
 have e3:T.drop (k+1+i+1)=w.drop (i+1)++r:=by
  rw[Nat.add_assoc (k+1),<-List.drop_drop,hw,List.drop_append_of_le_length (by omega)]
 unfold ik;rw[cH (Nat.succ_ne_zero _),cH (Nat.succ_ne_zero _)];show _++gP _ kQ (w.take (i+1)) (w.drop (i+1)++r)=(_++gP _ kQ (w.take i) (w.drop i++r))++_
 rw[e1,pG,e2,e3,bS]
 congr 2
 exact cm _
theorem xP {oe:String}:ik T k oe z w r (w.length+1)=at' (T.drop (k+1)) (gt oe kA z)++gP "invalid-character-in-attribute-name" kQ w r:=by
 unfold ik;rw[cH (Nat.succ_ne_zero _),Nat.add_sub_cancel,List.take_length,c9];rfl
theorem oW {x:String} {t:d8}:(gt x t z).length<=1:=by unfold gt;split<;>exact eP rfl
theorem rY {x:String} {t:d8} {r:cK}:∀ {w:cK},(gP x t w r).length<=w.length:=by
 intro w
 induction w with
 | nil=>exact cB _
 | cons y w ih=>
  show(at' (w++r) (gt x t y)++gP x t w r).length<=w.length+1
  rw[bM,cq];have:=oW (x:=x) (t:=t) (z:=y)
  omega
theorem yg {oe:String} {i:Nat}:(ik T k oe z w r i).length<=i:=by
 unfold ik
 split
 . exact cA _
 . rw[bM,cq]
   have h1:=oW (x:=oe) (t:=kA) (z:=z)
   have h2:=rY (x:="invalid-character-in-attribute-name") (t:=kQ) (r:=w.drop (i - 1)++r) (w:=w.take (i - 1))
   rw[List.length_take]at h2
   omega
noncomputable abbrev KL (k i:Nat):cS:=if i=0 then none else some (.int ((k+(i - 1):Nat):Int))
theorem Mq (hB:ej B) (hT:fU T) {oe:String} (hk:k < T.length) (hz:T[k]=z) (hw:T.drop (k+1)=w++r) (aC:al.length<=800):
 fx (eA B L) ((gk.drop 1).take 1) (xg T h0 cl ra pa k nm sc br (sg oe) (k+1+w.length) none [] al pl r8) .next (xg T h0 cl ra pa k nm sc br (sg oe) (k+1+w.length) (some (.int ((k+w.length:Nat):Int))) [] (al++(ik T k oe z w r (w.length+1)).map (dJ T)) pl r8):=by
 have aE :=hT.len
 have hwl :k+1+w.length<=T.length:=by
  have := cG List.length hw
  rw[c8, bM]at this
  omega
 refine eN (a6:=⟨(λi=>tL T h0 cl ra (some (.int k)) (some (.str nm)) (some (.ref pa)) (some (.bool sc)) (some (.str br)) (some (.str (sg oe))) (some (.int ((k+1+w.length:Nat):Int))) (KL k i) none none none none) (w.length+1),(λi=>(ra,.list (al++(ik T k oe z w r i).map (dJ T)))::(pa,.list pl)::r8) (w.length+1)⟩)
  (rx (N :=w.length+1) (i3:=λi=>.int ((k:Int)+(i:Int))) (d:=.obj (jP (k:Int) ((k+1+w.length:Nat):Int))) (λi=>tL T h0 cl ra (some (.int k)) (some (.str nm)) (some (.ref pa)) (some (.bool sc)) (some (.str br)) (some (.str (sg oe))) (some (.int ((k+1+w.length:Nat):Int))) (KL k i) none none none none) (λi=>(ra,.list (al++(ik T k oe z w r i).map (dJ T)))::(pa,.list pl)::r8) ?_ (λxv=>?_) ?_) ?_
 . show Ev _ _ ⟨tL T h0 cl ra (some (.int k)) (some (.str nm)) (some (.ref pa)) (some (.bool sc)) (some (.str br)) (some (.str (sg oe))) (some (.int ((k+1+w.length:Nat):Int))) none none none none none,(ra,.list al)::(pa,.list pl)::r8⟩ _ ⟨_,(ra,.list (al++[]))::(pa,.list pl)::r8⟩
   rw[cm];exact gG (eG PyProof.Rows.Boot.«range» (by rw[hB.K];kernel_rfl)) AK (dy (d9 Bz) (dy (d9 Qw) dK)) sn
 . have e :((k+1+w.length:Nat):Int)=(k:Int)+((w.length+1:Nat):Int):=by simp+arith
   refine e▸?_
   exact tc (by exact Int.natCast_nonneg _) (by omega) (by omega)
 . intro i hi c p
   have hrl:=yg (T:=T) (k:=k) (oe:=oe) (z:=z) (w:=w) (r:=r) (i:=i)
   refine⟨⟨tL T h0 cl ra (some (.int k)) (some (.str nm)) (some (.ref pa)) (some (.bool sc)) (some (.str br)) (some (.str (sg oe))) (some (.int ((k+1+w.length:Nat):Int))) (some (.int ((k+i:Nat):Int))) none none none none,(c,.is p)::(ra,.list (al++(ik T k oe z w r i).map (dJ T)))::(pa,.list pl)::r8⟩,fX (fW (.skip (.skip (.skip (.skip (.skip (.skip (.skip (.skip (.skip (.skip (.skip .hit)))))))))))),?_⟩
   rcases i with _ | i
   . have e0:ik T k oe z w r 0=[]:=rfl
     rw[e0,ya,jn ‹_›,List.map_nil,cm];have hl:=f9 hk
     rw[hz]at hl
     unfold gt
     by_cases h1:decide (z∈[34,39,60])=true
     . have h2:decide ([z]∈kA)=true:=by
        have:=of_decide_eq_true h1
        exact(fR (t:=[39,34,61,60])).mpr (by simp at this |-;omega)
       refine(cJ h2)▸?_
       exact NH (L:=L) (st:=k+1+w.length) hB hT hl h1 (by exact dN ‹_› (Nat.le_add_left _ _))
     . by_cases h3:z=61
       . subst h3
         rw[cJ (by decide)];exact NP (L:=L) (st:=k+1+w.length) hB hT hl (by exact dN ‹_› (Nat.le_add_left _ _))
       . have h2:¬ decide ([z]∈kA)=true:=λq=>by
          have:=(fR (t:=[39,34,61,60])).mp q
          refine h1 (cr ?_)
          simp at this |-
          omega
         rw[cH h2,List.map_nil,cm];exact M7 (L:=L) (st:=k+1+w.length) hB hT hl (bQ.mpr h1) h3
   . have b9:i < w.length:=Nat.lt_of_succ_lt_succ hi
     have hj:k+(i+1) < T.length:=by omega
     have hl:=f9 hj
     have hT1:T[k+(i+1)]=w[i]:=by
      have q1:T[k+(i+1)]? =(T.drop (k+1))[i]?:=by rw[List.getElem?_drop];congr 1;exact(Nat.succ_add _ _).symm
      rw[hw,List.getElem?_append_left b9,bq b9,bq hj]at q1
      exact Option.some.inj q1
     rw[hT1]at hl
     rw[ve hw b9,ci,jn (by omega),<-bS];have aZ:(al++(ik T k oe z w r (i+1)).map (dJ T)).length<=1000:=by rw[bM,cq];omega
     generalize al++(ik T k oe z w r (i+1)).map (dJ T)=al' at aZ |-
     have e9:k+1+i+1=k+(i+1)+1:=by simp+arith
     refine e9▸?_
     unfold gt
     by_cases h1:decide ([w[i]]∈kQ)=true
     . refine(cJ h1)▸?_
       have h2:decide (w[i]∈[34,39,60])=true:=by
        have:=(fR (t:=[39,34,60])).mp h1
        refine cr ?_
        simp at this |-
        omega
       exact MH (L:=L) (st:=k+1+w.length) hB hT hl h2 (by simp+arith) aZ
     . rw[cH h1,List.map_nil,cm]
       have h2:decide (w[i]∈[34,39,60])=false:=cc λq=>h1 ((fR (t:=[39,34,60])).mpr (by simp at q |-;omega))
       exact NM (L:=L) (st:=k+1+w.length) hB hT hl h2 (by simp+arith)
 . exact fO
end
end
section
variable {e6 t4 i5:Expr} {i6:cN} {sf:Scope} {pi:Pos} {cl:List (Str×Addr)}
section
variable {B:dc} {n:Nat} {L:Addr} {H:HL} {σ:St} {e5:Env}
variable {C D a:Addr} {F:Fz} {s:Shared} {o8:OL} {xs:cQ}
theorem BM {M:OL->Prop} {Φ:PV} (xs:cQ) (J:Nat->cL->OL->Prop)
 (h:WV B n L (eval i5 e5) H σ (lx M B n L H t4 e6 i6 (λC=>compEnvC sf cl C e5) xs J λD=>Φ (.ref D) (.ref D)))
 (aP:closureFor sf e5=pure cl) (hx:autoParam (xs.Nodup) bD)
 (aB:autoParam (∀ y∈sf.names,y.2≠.cell) bD) (aL:autoParam (sf.kind=.function) bR) (aI:autoParam (∀ y∈sf.names,y.2=.local->sf.names.lookup y.1=some .local) bD)
 (hs:autoParam (∀ x,foldedSetIterable i5 e5 x=pure x) bI):
 WV B n L (eval (.ListComp e6 [⟨t4,i5,i6,0⟩] sf pi) e5) H σ Φ:=kK λA F s Q hA X fq=>by
 rw[eval_ListComp];exact pN (use:=none) xs (dk h λw w w z=>⟨J,M,z⟩) hA X (λD C s8 F' ys o8 l9 m O1 F2 s6 p hC x p8 aV nC hF q=>⟨m,aV,λh' aW=>fq _ _ ⟨F',_,x.besides hF nC λb o hb e=>(aW.2 b hb).trans e,p.trans (p8.rest hC aW.2),_,.ref _,q⟩⟩) aP hx aB aL aI hs
end
section
variable {X:Cx} {σ a6 a9 σ':St} {l9 lg:LL} {o8 o3:OL} {d:AV} {i3:Nat->AV}
theorem wn {M:OL->Prop} {i5:Expr} {sf:Scope} {cl:List (Str×Addr)} {N:Nat} (xs:cQ) (keep:Nat->Bool) (val:Nat->AV) (hN:N<=16777215) (h1:Ev X i5 σ d ⟨l9,o8⟩) (it:∀ xv,kE X.B X.n X.L xv d M N i3) (hM:∀ D (q:AO),M ((D,q)::o8)) (hM0:M o8)
 (h2:∀ i,i < N->iZ X.B X.n t4 e6 i6 (λC=>compEnvC sf cl C X.env) xs (i3 i) (keep i) (val i) o8)
 (aP:closureFor sf X.env=pure cl) (hx:autoParam (xs.Nodup) bD)
 (aB:autoParam (∀ y∈sf.names,y.2≠.cell) bD) (aL:autoParam (sf.kind=.function) bR) (aI:autoParam (∀ y∈sf.names,y.2=.local->sf.names.lookup y.1=some .local) bD)
 (hs:autoParam (∀ x,foldedSetIterable i5 X.env x=pure x) bI):
 Ev X (.ListComp e6 [⟨t4,i5,i6,0⟩] sf pi) σ (.lst (eU keep val N)) ⟨l9,o8⟩:=⟨λz z h=>jT (BM (M:=M) xs (λi ys o=>ys=eU keep val i/\o=o8) (h1.run _ _ λxv=>⟨N,i3,it xv,(λz z z D e=>e.2▸hM D _),hM0,⟨rfl,rfl⟩,λi hi=>iZ.step (by exact cy (sv ‹_› ‹_›)) (h2 i hi),λys o D ⟨e1,e2⟩=>⟨D,_,l9,o8,rfl,by rw[e1,e2],h _⟩⟩) aP hx aB aL aI hs)⟩
end
section
variable {B:dc} {n:Nat} {L:Addr} {xv:Value} {pa:Addr} {l:cL}
theorem Ar:kE B n L xv (.ref pa) (λo=>(pa,AO.list l)∈o) l.length (λi=>l.getD i .any):=by
 intro H σ m mo;refine dg λA F s hA X=>?_
 obtain rfl:=dF (X.hold m)
 refine im (X.objs _ mo) ?_;rintro vs q e1 e2
 have lst:∀ {s:Shared} {vs:cO} {q:Nat},s.heap.get? pa=some (dZ vs q)->s.heap.IsList pa vs.toArray:=λe=>⟨_,e,rfl,_,rfl⟩
 refine wpAny_pyIter_list (lst e1) (dm.begin (p:=λo=>o.cls=.type "list_iterator"/\o.data=.fields #[.ref pa,.int (0:Nat) 0]) X ⟨rfl,rfl⟩ ⟨_,λi o=>o.cls=.type "list_iterator"/\o.data=.fields #[.ref pa,.int (i:Nat) 0],rfl,rfl,λL' i l9 o8 H hi mm mo=>dg λA F s hA X=>?_,λL' l9 o8 H mm mo=>dg λA F s hA X=>?_,(λL' l9 o8 H=>dg λA F s hA X=>?_),(λi o h=>⟨_,(by first | exact h.1 | exact cG Obj.cls h),rfl⟩)⟩)
 . refine jM (X.objs _ dP) ?_;rintro o ho hc hd
   refine im (X.objs _ (.tail _ mo)) ?_;rintro vs' q' e1 e2
   refine dW (mh.nth e2 (k:=i) (d:=l[i]) (by simp[hi])) ?_;rintro y hy hyd
   refine wpAny_pyNext_list_item (i:=i) ⟨o,ho,hc,hd⟩ (lst e1) (x:=y) (by simpa using hy) λh' hit hs=>?_
   exact dm.turn X hs hit rfl rfl ⟨_,rfl,(by have e:l.getD i .any=l[i]:=(by simp[hi]);show Is B.P F _ (l.getD i .any);rw[e];exact hyd),rfl⟩
 . refine jM (X.objs _ dP) ?_;rintro o ho hc hd
   refine im (X.objs _ (.tail _ mo)) ?_;rintro vs' q' e1 e2
   refine wpAny_pyNext_list_end (i:=l.length) hA.handled ⟨o,ho,hc,hd⟩ (lst e1) (by have:=e2.length;simp;exact Nat.le_of_eq ‹_›) λh' hs=>?_
   exact dm.remove X (λb y hb e=>hs b y hb e) rfl rfl ⟨rfl,rfl⟩
 . refine jM (X.objs _ dP) ?_;rintro o ho hc hd
   exact wpAny_pyIter_listiter (l:=pa) (i:=0) ⟨o,ho,hc,hd⟩ (.here X ⟨rfl,rfl⟩)
end
end
section
section
variable {B:dc} {L ra pa:Addr} {T nm br od ky:cK} {h0 k st:Nat} {cl sc:Bool} {al pl:cL} {r8:OL} {kv op:cS}
theorem EB {X:Cx} {σ:St} {x:cK} {l:cL} {ms:d8} (e:dT l=some ms):fY X .In (.str x) (.lst l) (decide (x∈ms)) σ:=⟨λy y y y ma mb h=>Mp ma mb e h⟩
noncomputable abbrev rt (T:cK) (h0:Nat) (cl:Bool) (ra pa:Addr) (k:Nat) (nm:cK) (sc:Bool) (br od:cK) (st:Nat) (kv op:cS) (al pl:cL) (r8:OL):St:=⟨tL T h0 cl ra (some (.int k)) (some (.str nm)) (some (.ref pa)) (some (.bool sc)) (some (.str br)) (some (.str od)) (some (.int st)) none kv op none none,(ra,.list al)::(pa,.list pl)::r8⟩
noncomputable abbrev Fk (T:cK) (h0:Nat) (cl:Bool) (k:Nat) (nm:cK) (sc:Bool) (br od:cK) (st:Nat) (kv op:Option DV) (al:cL) (as:cR) (pl:cL) (r8:OL):DS:=⟨tD T h0 cl (some (.av (.int k))) (some (.av (.str nm))) (some (.slot 1)) (some (.av (.bool sc))) (some (.av (.str br))) (some (.av (.str od))) (some (.av (.int st))) none kv op none none,[(0,.list al as),(1,.list pl [])],r8⟩
theorem Nk (hB:ej B) (hT:fU T) (aC:al.length<=1000):fx (eA B L) ((gk.drop 2).take 1) (rt T h0 cl ra pa k nm sc br od T.length none none al pl r8) .next (rt T h0 cl ra pa k nm sc br od T.length none none (al++[.tup [.int (T.length:Int),eE "eof-in-attribute-name"]]) pl r8):=
 dQ [ra,pa] (Fk T h0 cl k nm sc br od T.length none none al [] pl r8) [.br true,.cs (.av (eE "eof-in-attribute-name")) [] 1] (dL hB) (qa (qa (qa (qa trivial hT.plain.size) (cr (show(T.length:Int)=(T.length:Int)from rfl))) (eZ (x:=sg "eof-in-attribute-name") hB)) (iu 0 aC))
theorem LA (hB:ej B) (hT:fU T) (h:st≠T.length):fx (eA B L) ((gk.drop 2).take 1) (rt T h0 cl ra pa k nm sc br od st none none al pl r8) .next (rt T h0 cl ra pa k nm sc br od st none none al pl r8):=
 dQ [ra,pa] (Fk T h0 cl k nm sc br od st none none al [] pl r8) [.br false] (dL hB) (qa (qa trivial hT.plain.size) (cc λe:(st:Int)=(T.length:Int)=>h (Int.ofNat.inj e)))
theorem N6 (hB:ej B) (hT:fU T) (h1:k<=st) (h2:st<=T.length):fx (eA B L) ((gk.drop 3).take 1) (rt T h0 cl ra pa k nm sc br od st none none al pl r8) .next (rt T h0 cl ra pa k nm sc br od st (some (.str (dM ((T.drop k).take (st - k))))) none al pl r8):=by
 have e:=At h1 h2
 have hz:((T.drop k).take (st - k)).length<=200:=dN (List.length_take_le' _ _) (dN (by rw[c8];exact Nat.sub_le _ _) (dN hT.len (by decide)))
 have hs:=λR=>wz (o8:=R) (w:=(T.drop k).take (st - k)) hB (dN hz (by decide)) (by rw[me,cq];exact dN hz (by decide))
 rw[hT.low (k:=k) λc hc=>List.mem_of_mem_take hc]at hs
 generalize dM ((T.drop k).take (st - k))=ky at hs
 rw[<-e]at hs
 exact dQ [ra,pa] (Fk T h0 cl k nm sc br od st none none al [] pl r8) [.cs (.av (.str ky)) [] 1] (dL hB) (qa (qa trivial hT.plain.size) hs)
theorem KQ (hB:ej B) (hT:fU T):fx (eA B L) ((gk.drop 5).take 1) (rt T h0 cl ra pa k nm sc br od T.length (some (.str ky)) none al pl r8) (.ret (.int (T.length:Int))) (rt T h0 cl ra pa k nm sc br od T.length (some (.str ky)) none al pl r8):=
 dQ [ra,pa] (Fk T h0 cl k nm sc br od T.length (some (.av (.str ky))) none al [] pl r8) [.br true] (dL hB) (qa (qa trivial hT.plain.size) (cr (show(T.length:Int)=(T.length:Int)from rfl)))
theorem Na (hB:ej B) (hT:fU T) (h:st≠T.length):fx (eA B L) ((gk.drop 5).take 1) (rt T h0 cl ra pa k nm sc br od st (some (.str ky)) none al pl r8) .next (rt T h0 cl ra pa k nm sc br od st (some (.str ky)) none al pl r8):=
 dQ [ra,pa] (Fk T h0 cl k nm sc br od st (some (.av (.str ky))) none al [] pl r8) [.br false] (dL hB) (qa (qa trivial hT.plain.size) (cc λe:(st:Int)=(T.length:Int)=>h (Int.ofNat.inj e)))
noncomputable def NB:cM:=jZ gk 4 jc
theorem FX (hB:ej B) (hT:fU T) (aC:al.length<=1000) {m:Nat} (hm:min (st+1) T.length=m):fx (eA B L) NB (rt T h0 cl ra pa k nm sc br od st (some (.str ky)) none al pl r8) .next (rt T h0 cl ra pa k nm sc br od st (some (.str ky)) none (al++[.tup [.int (m:Int),eE "duplicate-attribute"]]) pl r8):=by
 have hf:=eZ (x:=sg "duplicate-attribute") hB
 have e:min (((st+1:Nat):Int)) (T.length:Int)=(m:Int):=by omega
 refine e▸?_
 exact dQ [ra,pa] (Fk T h0 cl k nm sc br od st (some (.av (.str ky))) none al [] pl r8) [.cs (.av (eE "duplicate-attribute")) [] 1] (dL hB) (qa (qa (qa trivial hT.plain.size) hf) (iu 0 aC))
theorem qe (ps:cU):dT (ps.map λp=>AV.str p.1)=some (ps.map (·.1)):=by
 induction ps with
 | nil=>rfl
 | cons p ps ih=>
  show(dT (ps.map λp=>AV.str p.1)).map (p.1::·)= _
  refine ih▸?_;rfl
theorem Ep {ps:cU}:j4 (pA ps) ky=if decide (ky∈ps.map (·.1))=true then [eE "duplicate-attribute"] else []:=by
 unfold j4;have e:((pA ps).any λp=>decide (p.1=ky))=decide (ky∈ps.map (·.1)):=by
  rw[Bool.eq_iff_iff,List.any_eq_true,decide_eq_true_iff,cw];constructor
  . intro z9;refine dW z9 ?_;clear z9;rintro p hp h
    refine dW (cw.mp hp) ?_;rintro q hq rfl
    exact⟨q,hq,of_decide_eq_true h⟩
  . intro z9;refine dW z9 ?_;clear z9;rintro q hq h
    exact⟨(q.1,.str q.2),cw.mpr ⟨q,hq,rfl⟩,cr h⟩
 rw[e]
theorem FK (hB:ej B) (hT:fU T) (aC:al.length<=1000) {ps:cU} (hp:ps.length<=900) {m:Nat} (hm:min (st+1) T.length=m):fx (eA B L) ((gk.drop 4).take 1) (rt T h0 cl ra pa k nm sc br od st (some (.str ky)) none al ((pA ps).map dh) r8) .next (rt T h0 cl ra pa k nm sc br od st (some (.str ky)) none (al++(at' (T.drop m) (j4 (pA ps) ky)).map (dJ T)) ((pA ps).map dh) r8):=by
 have hml:m<=T.length:=by omega
 have hN:((pA ps).map dh).length=(ps.map λp=>AV.str p.1).length:=by simp
 rw[jn hml,Ep]
 by_cases h:decide (ky∈ps.map (·.1))=true
 . rw[cJ h]
   refine eN (nF (nE (nw (d9 (d:=.str ky) No)
    (yG (wn (M:=λo=>(pa,AO.list ((pA ps).map dh))∈o) (N:=((pA ps).map dh).length) (i3:=λi=>((pA ps).map dh).getD i .any) ["pair"] (λy=>true) (λi=>(ps.map λp=>AV.str p.1).getD i .any) (by simp;omega) (d9 (d:=.ref pa) NX) (λxv=>Ar) (λy y=>.tail _ iV) iV (λi hi=>?_) rfl) (by rw[hN,ge])) (EB (qe ps))) h) (FX hB hT aC hm)) fO
   have b9:i < ps.length:=by simpa using hi
   have e1:((pA ps).map dh).getD i .any=.lst [.str ps[i].1,.str ps[i].2]:=by rw[bp,bP,bP,bq b9];rfl
   have e2:(ps.map λp=>AV.str p.1).getD i .any=.str ps[i].1:=by rw[bp,bP,bq b9];rfl
   rw[e1,e2];exact⟨λC p q=>⟨[("pair",some (.lst [.str ps[i].1,.str ps[i].2]))],[("pair",some (.lst [.str ps[i].1,.str ps[i].2]))],fX (fW .hit),li,λy=>jz (d9 dP) iP (re (i:=0) (j:=0) (by decide) rfl rfl (eP rfl))⟩⟩
 . rw[cH h,List.map_nil,cm]
   refine eN (na (nE (nw (d9 (d:=.str ky) No)
    (yG (wn (M:=λo=>(pa,AO.list ((pA ps).map dh))∈o) (N:=((pA ps).map dh).length) (i3:=λi=>((pA ps).map dh).getD i .any) ["pair"] (λy=>true) (λi=>(ps.map λp=>AV.str p.1).getD i .any) (by simp;omega) (d9 (d:=.ref pa) NX) (λxv=>Ar) (λy y=>.tail _ iV) iV (λi hi=>?_) rfl) (by rw[hN,ge])) (EB (qe ps))) (bQ.mpr h)) fO) fO
   have b9:i < ps.length:=by simpa using hi
   have e1:((pA ps).map dh).getD i .any=.lst [.str ps[i].1,.str ps[i].2]:=by rw[bp,bP,bP,bq b9];rfl
   have e2:(ps.map λp=>AV.str p.1).getD i .any=.str ps[i].1:=by rw[bp,bP,bq b9];rfl
   rw[e1,e2];exact⟨λC p q=>⟨[("pair",some (.lst [.str ps[i].1,.str ps[i].2]))],[("pair",some (.lst [.str ps[i].1,.str ps[i].2]))],fX (fW .hit),li,λy=>jz (d9 dP) iP (re (i:=0) (j:=0) (by decide) rfl rfl (eP rfl))⟩⟩
end
end
section
section
variable {X:Cx} {σ:St} {Q:PF} {R:St->Prop} {ss:cM}
theorem ju (k:Nat) (h1:dH X (ss.take k) σ λf σ'=>(f=.next/\R σ')\/∃ d,f=.ret d/\Q f σ') (h2:∀ σ',R σ'->dH X (ss.drop k) σ' Q):dH X ss σ Q:=by
 refine⟨λH Φ h=>?_⟩
 have w:=h1.run H (iU X.B X.n X.L (ss.drop k) X.env H Φ) λf σ' z=>by
  rcases z with⟨e,r⟩ | ⟨d,e,q⟩
  . subst e;exact(h2 σ' r).run H Φ h
  . subst e;exact h _ _ q
 refine(List.take_append_drop k ss)▸?_
 exact Fs w
end
section
variable {B:dc} {L ra pa lb:Addr} {T nm br od ky vl:cK} {h0 k st z:Nat} {cl sc:Bool} {al pl:cL} {r8:OL} {kv op:cS}
noncomputable abbrev ib (T:cK) (h0:Nat) (cl:Bool) (ra pa lb:Addr) (k:Nat) (nm:cK) (sc:Bool) (br od:cK) (st:Nat) (ky:cK) (op:cS) (al pl:cL) (vl:cK) (r8:OL):St:=⟨tL T h0 cl ra (some (.int k)) (some (.str nm)) (some (.ref pa)) (some (.bool sc)) (some (.str br)) (some (.str od)) (some (.int st)) none (some (.str ky)) op none none,(ra,.list al)::(pa,.list (pl++[.ref lb]))::(lb,.list [.str ky,.str vl])::r8⟩
noncomputable abbrev QR (al:cL) (as:cR) (pl:cL) (ky vl:cK):cV:=[(0,.list al as),(1,.list pl [.slot 2]),(2,.list [] [.av (.str ky),.av (.str vl)])]
noncomputable abbrev ub (T:cK) (h0:Nat) (cl:Bool) (k:Nat) (nm:cK) (sc:Bool) (br od:cK) (st:Nat) (ky:cK) (op:Option DV) (al:cL) (as:cR) (pl:cL) (vl:cK) (r8:OL):DS:=⟨tD T h0 cl (some (.av (.int k))) (some (.av (.str nm))) (some (.slot 1)) (some (.av (.bool sc))) (some (.av (.str br))) (some (.av (.str od))) (some (.av (.int st))) none (some (.av (.str ky))) op none none,QR al as pl ky vl,r8⟩
theorem Mg (hB:ej B) (aX:pl.length<=1000):dH (eA B L) ((gk.drop 6).take 1) (rt T h0 cl ra pa k nm sc br od st (some (.str ky)) none al pl r8) λf σ'=>f=.next/\∃ lb,σ'=ib T h0 cl ra pa lb k nm sc br od st ky none al pl [] r8:=
 Fe [ra,pa] (Fk T h0 cl k nm sc br od st (some (.av (.str ky))) none al [] pl r8) (ub T h0 cl k nm sc br od st ky none al [] pl [] r8) [] 1 .next (dL hB) (qa (qa trivial (tC 2 (Fk T h0 cl k nm sc br od st (some (.av (.str ky))) none al [] pl r8))) (iu 0 aX)) (λf σ' ⟨lb,e1,e2⟩=>⟨e1,lb,e2⟩)
theorem GS (hB:ej B) (hT:fU T) (h2:st<=T.length):fx (eA B L) ((gk.drop 7).take 1) (ib T h0 cl ra pa lb k nm sc br od st ky none al pl vl r8) .next (ib T h0 cl ra pa lb (dn iS T st) nm sc br od st ky none al pl vl r8):=
 dQ [ra,pa,lb] (ub T h0 cl k nm sc br od st ky none al [] pl vl r8) [.cs (.av (.int (dn iS T st:Nat))) [] 1] (dL hB) (qa trivial (λR=>rm (k:=st) (cs:=[9,10,12,32]) (o8:=R) hB hT.plain h2))
noncomputable def Mm:cM:=jZ (jZ gk 8 gU) 0 jc
theorem KE (hB:ej B):fx (eA B L) Mm (ib T h0 cl ra pa lb k nm sc br od st ky none al pl vl r8) .next (ib T h0 cl ra pa lb k nm sc (sg "expected-end-of-tag-but-got-eof") Lu st ky none al pl vl r8):=
 dQ [ra,pa,lb] (ub T h0 cl k nm sc br od st ky none al [] pl vl r8) [] (dL hB) trivial
noncomputable def qJ:cM:=jZ gk 8 jc
noncomputable abbrev yB (T:cK) (k:Nat):cK:=sl T (some (k:Int)) (some ((k:Int)+1))
theorem Al {k:Nat} (h:k < T.length):yB T k=[T[k]]:=by
 have e:yB T k=(T.drop k).take (k+1 - k):=At (Nat.le_succ k) h
 rw[e,Nat.add_sub_cancel_left,List.drop_eq_getElem_cons h];rfl
theorem E8 {k:Nat} (h:k=T.length):yB T k=[]:=by
 show sl T (some (k:Int)) (some (((k+1:Nat):Int)))= _
 rw[jO,show fJ T.length (k:Int)=k from eX (Nat.le_of_eq h)];exact List.drop_eq_nil_of_le (by rw[h];exact List.length_take_le' _ _)
theorem OK (hB:ej B) (hT:fU T) (h2:k+1<=T.length):fx (eA B L) (qJ.take 3) (ib T h0 cl ra pa lb k nm sc br od st ky none al pl vl r8) .next (ib T h0 cl ra pa lb (dn iS T (k+1)) nm sc br u9 st ky (some (.str (yB T (dn iS T (k+1))))) al pl vl r8):=
 dQ [ra,pa,lb] (ub T h0 cl k nm sc br od st ky none al [] pl vl r8) [.cs (.av (.int (dn iS T (k+1):Nat))) [] 1] (dL hB) (qa (qa trivial (λR=>rm (k:=k+1) (cs:=[9,10,12,32]) (o8:=R) hB hT.plain h2)) hT.plain.size)
end
end
section
section
variable {B:dc} {L ra pa lb:Addr} {T nm br od ky vl:cK} {h0 k st z:Nat} {cl sc:Bool} {al pl:cL} {r8:OL}
noncomputable abbrev Kc (T:cK) (k:Nat):cS:=some (.str (yB T k))
noncomputable abbrev QT (T:cK) (k:Nat):Option DV:=some (.av (.str (yB T k)))
theorem Hl {x:cK} {q:Nat} (h:yB T k=[q]) (n:[q]≠x):decide (yB T k=x)=false:=by refine h▸?_;exact cc n
theorem Hy {q:Nat} (h:yB T k=[q]):decide (yB T k=[q])=true:=by refine h▸?_;exact cr rfl
theorem Q5 (hB:ej B) (hT:fU T) (h:k=T.length):fx (eA B L) (qJ.drop 3) (ib T h0 cl ra pa lb k nm sc br od st ky (Kc T k) al pl [] r8) .next (ib T h0 cl ra pa lb k nm sc (sg "expected-attribute-value-but-got-eof") od st ky (Kc T k) al pl [] r8):=
 dQ [ra,pa,lb] (ub T h0 cl k nm sc br od st ky (QT T k) al [] pl [] r8) [.br true] (dL hB) (qa trivial (show decide (yB T k=[])=true from cr (E8 h)))
theorem P1 (hB:ej B) (hT:fU T) (h:yB T k=[62]) (aC:al.length<=1000):fx (eA B L) (qJ.drop 3) (ib T h0 cl ra pa lb k nm sc br od st ky (Kc T k) al pl [] r8) .next (ib T h0 cl ra pa lb k nm sc br od st ky (Kc T k) (al++[.tup [.int ((k+1:Nat):Int),eE "expected-attribute-value-but-got-right-bracket"]]) pl [] r8):=
 dQ [ra,pa,lb] (ub T h0 cl k nm sc br od st ky (QT T k) al [] pl [] r8) [.br false,.br true,.cs (.av (eE "expected-attribute-value-but-got-right-bracket")) [] 1] (dL hB) (qa (qa (qa (qa trivial (Hl (x:=[]) h (by decide))) (Hy h)) (eZ (x:=sg "expected-attribute-value-but-got-right-bracket") hB)) (iu 0 aC))
noncomputable abbrev iY (z:Nat):cS:=some (.str [z])
noncomputable abbrev yF (z:Nat):Option DV:=some (.av (.str [z]))
noncomputable def ni:cM:=jZ (jZ (jZ (qJ.drop 3) 0 gU) 0 gU) 0 jc
theorem Q8 {e q:Nat} (hB:ej B) (hT:fU T) (aX:pl.length<=1000) (hu:gD B 1 788 [.str T,.int ((k+1:Nat):Int),.str [q]] (.int (e:Nat))):fx (eA B L) (ni.take 2) (ib T h0 cl ra pa lb k nm sc br od st ky (iY q) al pl [] r8) .next (ib T h0 cl ra pa lb k nm sc br od e ky (iY q) al pl (sl T (some ((k+1:Nat):Int)) (some (e:Int))) r8):=
 dQ [ra,pa,lb] (ub T h0 cl k nm sc br od st ky (yF q) al [] pl [] r8) [.cs (.av (.int (e:Nat))) [] 1] (dL hB) (qa (qa (qa trivial hu) hT.plain.size) (show pl.length+1<=16777000 from dN (bX aX) (by decide)))
theorem P8 (hB:ej B) (hT:fU T):fx (eA B L) (ni.drop 2) (ib T h0 cl ra pa lb k nm sc br od T.length ky (iY 34) al pl vl r8) .next (ib T h0 cl ra pa lb T.length nm sc (sg "eof-in-attribute-value-double-quote") od T.length ky (iY 34) al pl vl r8):=
 dQ [ra,pa,lb] (ub T h0 cl k nm sc br od T.length ky (yF 34) al [] pl vl r8) [.br true,.br true] (dL hB) (qa (qa (qa trivial hT.plain.size) (cr (show(T.length:Int)=(T.length:Int)from rfl))) tt)
theorem OI (hB:ej B) (hT:fU T):fx (eA B L) (ni.drop 2) (ib T h0 cl ra pa lb k nm sc br od T.length ky (iY 39) al pl vl r8) .next (ib T h0 cl ra pa lb T.length nm sc (sg "eof-in-attribute-value-single-quote") od T.length ky (iY 39) al pl vl r8):=
 dQ [ra,pa,lb] (ub T h0 cl k nm sc br od T.length ky (yF 39) al [] pl vl r8) [.br true,.br false] (dL hB) (qa (qa (qa trivial hT.plain.size) (cr (show(T.length:Int)=(T.length:Int)from rfl))) ff)
theorem Pt {e q:Nat} (hB:ej B) (hT:fU T) (he:e≠T.length) (hl:e+1=T.length):fx (eA B L) (ni.drop 2) (ib T h0 cl ra pa lb k nm sc br od e ky (iY q) al pl vl r8) .next (ib T h0 cl ra pa lb (e+1) nm sc (sg "unexpected-EOF-after-attribute-value") od e ky (iY q) al pl vl r8):=
 dQ [ra,pa,lb] (ub T h0 cl k nm sc br od e ky (yF q) al [] pl vl r8) [.br false,.br false] (dL hB) (qa (qa (qa (qa trivial hT.plain.size) (cc λx:(e:Int)=(T.length:Int)=>he (Int.ofNat.inj x))) hT.plain.size) (cc (show ¬ ((e+1:Nat):Int) < (T.length:Int)by omega)))
theorem P4 {e q:Nat} (hB:ej B) (hT:fU T) (he:e≠T.length) (hl:e+1 < T.length) (hz:qh T ((e+1:Nat):Int)=some z) (hm:decide (z∈[9,10,12,32]++[62,47])=true):fx (eA B L) (ni.drop 2) (ib T h0 cl ra pa lb k nm sc br od e ky (iY q) al pl vl r8) .next (ib T h0 cl ra pa lb (e+1) nm sc (sg "unexpected-EOF-after-attribute-value") od e ky (iY q) al pl vl r8):=
 dQ [ra,pa,lb] (ub T h0 cl k nm sc br od e ky (yF q) al [] pl vl r8) [.br false,.br true,.ch z,.br false] (dL hB) (qa (qa (qa (qa (qa (qa (qa (qa trivial hT.plain.size) (cc λx:(e:Int)=(T.length:Int)=>he (Int.ofNat.inj x))) hT.plain.size) (cr (show((e+1:Nat):Int) < (T.length:Int)from cx.mpr hl))) hz) hT.plain.size) (FG 6)) (show(!decide (z∈[9,10,12,32]++[62,47]))=false by refine hm▸?_;rfl))
theorem PN {e q:Nat} (hB:ej B) (hT:fU T) (he:e≠T.length) (hl:e+1 < T.length) (hz:qh T ((e+1:Nat):Int)=some z) (hm:decide (z∈[9,10,12,32]++[62,47])=false) (aC:al.length<=1000):fx (eA B L) (ni.drop 2) (ib T h0 cl ra pa lb k nm sc br od e ky (iY q) al pl vl r8) .next (ib T h0 cl ra pa lb (e+1) nm sc (sg "unexpected-EOF-after-attribute-value") od e ky (iY q) (al++[.tup [.int ((e+1:Nat):Int),eE "unexpected-character-after-attribute-value"]]) pl vl r8):=
 dQ [ra,pa,lb] (ub T h0 cl k nm sc br od e ky (yF q) al [] pl vl r8) [.br false,.br true,.ch z,.br true,.cs (.av (eE "unexpected-character-after-attribute-value")) [] 1] (dL hB) (qa (qa (qa (qa (qa (qa (qa (qa (qa (qa trivial hT.plain.size) (cc λx:(e:Int)=(T.length:Int)=>he (Int.ofNat.inj x))) hT.plain.size) (cr (show((e+1:Nat):Int) < (T.length:Int)from cx.mpr hl))) hz) hT.plain.size) (FG 6)) (show(!decide (z∈[9,10,12,32]++[62,47]))=true by refine hm▸?_;rfl)) (eZ (x:=sg "unexpected-character-after-attribute-value") hB)) (iu 0 aC))
theorem uT {X:Cx} {σ:St} {t:Expr} {a b:cM} {pi:Pos} {R:St->Prop} (te:Te X t σ false σ) (h:dH X b σ λf σ'=>f=.next/\R σ'):dH X [.If t a b pi] σ λf σ'=>f=.next/\R σ':=jh R (oA te ⟨nofun,λy=>h⟩) λy r=>j5 ⟨rfl,r⟩
theorem thn {X:Cx} {σ:St} {t:Expr} {a b:cM} {pi:Pos} {R:St->Prop} (te:Te X t σ true σ) (h:dH X a σ λf σ'=>f=.next/\R σ'):dH X [.If t a b pi] σ λf σ'=>f=.next/\R σ':=jh R (oA te ⟨λy=>h,nofun⟩) λy r=>j5 ⟨rfl,r⟩
end
end
section
noncomputable def m7:cM:=jZ (jZ (jZ (qJ.drop 3) 0 gU) 0 gU) 0 gU
noncomputable def EH:cM:=jZ m7 3 Ff
section
variable {B:dc} {L ra pa lb c:Addr} {T nm br od ky vl w r:cK} {h0 k st e z y j:Nat} {cl sc:Bool} {al pl:cL} {r8:OL} {p:Obj->Prop} {sp:cS}
noncomputable abbrev Kb (T:cK) (h0:Nat) (cl:Bool) (ra pa lb:Addr) (k:Nat) (nm:cK) (sc:Bool) (br od:cK) (st:Nat) (sp:cS) (ky:cK) (op:cS) (pz:OL) (al pl:cL) (vl:cK) (r8:OL):St:=⟨tL T h0 cl ra (some (.int k)) (some (.str nm)) (some (.ref pa)) (some (.bool sc)) (some (.str br)) (some (.str od)) (some (.int st)) sp (some (.str ky)) op none none,pz++(ra,.list al)::(pa,.list (pl++[.ref lb]))::(lb,.list [.str ky,.str vl])::r8⟩
noncomputable abbrev QH (T:cK) (h0:Nat) (cl:Bool) (k:Nat) (nm:cK) (sc:Bool) (br od:cK) (st:Nat) (sp:Option DV) (ky:cK) (op:Option DV) (pz:cV) (al:cL) (as:cR) (pl:cL) (vl:cK) (r8:OL):DS:=⟨tD T h0 cl (some (.av (.int k))) (some (.av (.str nm))) (some (.slot 1)) (some (.av (.bool sc))) (some (.av (.str br))) (some (.av (.str od))) (some (.av (.int st))) sp (some (.av (.str ky))) op none none,pz++QR al as pl ky vl,r8⟩
theorem PK (hB:ej B) (hT:fU T) (hk:k+1<=T.length) (aX:pl.length<=1000) (he:dn ql T (k+1)=e):fx (eA B L) (m7.take 2) (ib T h0 cl ra pa lb k nm sc br od st ky (iY z) al pl [] r8) .next (ib T h0 cl ra pa lb k nm sc br od e ky (iY z) al pl (sl T (some (k:Int)) (some (e:Int))) r8):=by
 have hu:=λR=>kG (k:=k+1) (cs:=[9,10,12,32]++[62]) (o8:=R) hB hT.plain hk
 rw[show dn (λx=>decide (x∈[9,10,12,32]++[62])==false) T (k+1)=e from he]at hu
 exact dQ [ra,pa,lb] (ub T h0 cl k nm sc br od st ky (yF z) al [] pl [] r8) [.cs (.av (.int (e:Nat))) [] 1] (dL hB) (qa (qa (qa (qa trivial (FG 5)) hu) hT.plain.size) (show pl.length+1<=16777000 from dN (bX aX) (by decide)))
theorem MX (hB:ej B) (hT:fU T) (h:decide (z∈[61,60,96])=false):fx (eA B L) ((m7.drop 2).take 1) (ib T h0 cl ra pa lb k nm sc br od st ky (iY z) al pl vl r8) .next (ib T h0 cl ra pa lb k nm sc br od st ky (iY z) al pl vl r8):=
 dQ [ra,pa,lb] (ub T h0 cl k nm sc br od st ky (yF z) al [] pl vl r8) [.br false] (dL hB) (qa trivial h)
theorem Nd (hB:ej B) (hT:fU T) (h:decide (z∈[61,60,96])=true) (aC:al.length<=1000):fx (eA B L) ((m7.drop 2).take 1) (ib T h0 cl ra pa lb k nm sc br od st ky (iY z) al pl vl r8) .next (ib T h0 cl ra pa lb k nm sc br od st ky (iY z) (al++[.tup [.int ((k+1:Nat):Int),eE "equals-in-unquoted-attribute-value"]]) pl vl r8):=
 dQ [ra,pa,lb] (ub T h0 cl k nm sc br od st ky (yF z) al [] pl vl r8) [.br true,.cs (.av (eE "equals-in-unquoted-attribute-value")) [] 1] (dL hB) (qa (qa (qa trivial h) (eZ (x:=sg "equals-in-unquoted-attribute-value") hB)) (iu 0 aC))
theorem M8 (hB:ej B) (hT:fU T) (hl:qh T (j:Nat)=some y) (h:decide (y∈[34,39,61,60,96])=false):fx (eA B L) EH (Kb T h0 cl ra pa lb k nm sc br od st (some (.int j)) ky (iY z) [(c,.is p)] al pl vl r8) .next (Kb T h0 cl ra pa lb k nm sc br od st (some (.int j)) ky (iY z) [(c,.is p)] al pl vl r8):=
 dQ [ra,pa,lb,c] (QH T h0 cl k nm sc br od st (some (.av (.int j))) ky (yF z) [(3,.ao (.is p))] al [] pl vl r8) [.ch y,.br false] (dL hB) (qa (qa (qa trivial hl) hT.plain.size) h)
theorem M6 (hB:ej B) (hT:fU T) (hl:qh T (j:Nat)=some y) (h:decide (y∈[34,39,61,60,96])=true) (aC:al.length<=1000):fx (eA B L) EH (Kb T h0 cl ra pa lb k nm sc br od st (some (.int j)) ky (iY z) [(c,.is p)] al pl vl r8) .next (Kb T h0 cl ra pa lb k nm sc br od st (some (.int j)) ky (iY z) [(c,.is p)] (al++[.tup [.int ((j+1:Nat):Int),eE "unexpected-character-in-unquoted-attribute-value"]]) pl vl r8):=
 dQ [ra,pa,lb,c] (QH T h0 cl k nm sc br od st (some (.av (.int j))) ky (yF z) [(3,.ao (.is p))] al [] pl vl r8) [.ch y,.br true,.cs (.av (eE "unexpected-character-in-unquoted-attribute-value")) [] 1] (dL hB) (qa (qa (qa (qa (qa trivial hl) hT.plain.size) h) (eZ (x:=sg "unexpected-character-in-unquoted-attribute-value") hB)) (iu 0 aC))
theorem OP (hB:ej B):fx (eA B L) (m7.drop 4) (ib T h0 cl ra pa lb k nm sc br od st ky (iY z) al pl vl r8) .next (ib T h0 cl ra pa lb st nm sc (sg "eof-in-attribute-value-no-quotes") od st ky (iY z) al pl vl r8):=
 dQ [ra,pa,lb] (ub T h0 cl k nm sc br od st ky (yF z) al [] pl vl r8) [] (dL hB) trivial
end
end
section
section
variable {B:dc} {L ra pa lb:Addr} {T nm br od ky vl w r:cK} {h0 k st e z:Nat} {cl sc:Bool} {al pl:cL} {r8:OL}
noncomputable abbrev uE:String:="unexpected-character-in-unquoted-attribute-value"
noncomputable def jy (w r:cK) (i:Nat):cW:=gP uE kU (w.take i) (w.drop i++r)
theorem uC {i:Nat} (hw:T.drop (k+1)=w++r) (hi:i < w.length):jy w r (i+1)=jy w r i++at' (T.drop (k+1+i+1)) (gt uE kU w[i]):=by
 have e1:w.take (i+1)=w.take i++[w[i]]:=by rw[List.take_add_one,bq hi];rfl
 have e2:[w[i]]++(w.drop (i+1)++r)=w.drop i++r:=by rw[List.drop_eq_getElem_cons hi];rfl
 have e3:T.drop (k+1+i+1)=w.drop (i+1)++r:=by
  rw[Nat.add_assoc (k+1),<-List.drop_drop,hw,List.drop_append_of_le_length (by omega)]
 unfold jy;rw[e1,pG,e2,e3]
 congr 1
 exact cm _
theorem xN:jy w r w.length=gP uE kU w r:=by
 unfold jy;refine List.take_length▸c9▸?_;rfl
theorem xj {i:Nat}:(jy w r i).length<=i:=by
 unfold jy;have h2:=rY (x:=uE) (t:=kU) (r:=w.drop i++r) (w:=w.take i)
 rw[List.length_take]at h2
 omega
noncomputable abbrev NJ (k i:Nat):cS:=if i=0 then none else some (.int ((k+i:Nat):Int))
theorem OD (hB:ej B) (hT:fU T) (hk:k < T.length) (hw:T.drop (k+1)=w++r) (aC:al.length<=800):
 fx (eA B L) ((m7.drop 3).take 1) (ib T h0 cl ra pa lb k nm sc br od (k+1+w.length) ky (iY z) al pl vl r8) .next (Kb T h0 cl ra pa lb k nm sc br od (k+1+w.length) (NJ k w.length) ky (iY z) [] (al++(gP uE kU w r).map (dJ T)) pl vl r8):=by
 have aE:=hT.len
 have hwl:k+1+w.length<=T.length:=by
  have:=cG List.length hw
  rw[c8,bM]at this
  omega
 rw[<-xN];refine eN (a6:=⟨(λi=>tL T h0 cl ra (some (.int k)) (some (.str nm)) (some (.ref pa)) (some (.bool sc)) (some (.str br)) (some (.str od)) (some (.int ((k+1+w.length:Nat):Int))) (NJ k i) (some (.str ky)) (iY z) none none) w.length,(λi=>(ra,.list (al++(jy w r i).map (dJ T)))::(pa,.list (pl++[.ref lb]))::(lb,.list [.str ky,.str vl])::r8) w.length⟩)
  (rx (N:=w.length) (i3:=λi=>.int (((k+1:Nat):Int)+(i:Int))) (d:=.obj (jP ((k+1:Nat):Int) ((k+1+w.length:Nat):Int))) (λi=>tL T h0 cl ra (some (.int k)) (some (.str nm)) (some (.ref pa)) (some (.bool sc)) (some (.str br)) (some (.str od)) (some (.int ((k+1+w.length:Nat):Int))) (NJ k i) (some (.str ky)) (iY z) none none) (λi=>(ra,.list (al++(jy w r i).map (dJ T)))::(pa,.list (pl++[.ref lb]))::(lb,.list [.str ky,.str vl])::r8) ?_ (λxv=>?_) ?_) ?_
 . show Ev _ _ ⟨tL T h0 cl ra (some (.int k)) (some (.str nm)) (some (.ref pa)) (some (.bool sc)) (some (.str br)) (some (.str od)) (some (.int ((k+1+w.length:Nat):Int))) none (some (.str ky)) (iY z) none none,(ra,.list al)::(pa,.list (pl++[.ref lb]))::(lb,.list [.str ky,.str vl])::r8⟩ _ ⟨_,(ra,.list (al++[]))::(pa,.list (pl++[.ref lb]))::(lb,.list [.str ky,.str vl])::r8⟩
   rw[cm];exact gG (eG PyProof.Rows.Boot.«range» (by rw[hB.K];kernel_rfl)) AK (dy (lY (d9 (d:=.int (k:Int)) Bz) (iP (i:=1)) tP) (dy (d9 Qw) dK)) sn
 . have e:((k+1+w.length:Nat):Int)=((k+1:Nat):Int)+(w.length:Int):=by omega
   rw[e];exact tc (by omega) (by omega) (by omega)
 . intro i hi c p
   have hrl:=xj (w:=w) (r:=r) (i:=i)
   refine⟨⟨tL T h0 cl ra (some (.int k)) (some (.str nm)) (some (.ref pa)) (some (.bool sc)) (some (.str br)) (some (.str od)) (some (.int ((k+1+w.length:Nat):Int))) (some (.int ((k+1+i:Nat):Int))) (some (.str ky)) (iY z) none none,(c,.is p)::(ra,.list (al++(jy w r i).map (dJ T)))::(pa,.list (pl++[.ref lb]))::(lb,.list [.str ky,.str vl])::r8⟩,fX (fW (.skip (.skip (.skip (.skip (.skip (.skip (.skip (.skip (.skip (.skip (.skip .hit)))))))))))),?_⟩
   have hj:k+1+i < T.length:=by omega
   have hl:=f9 hj
   have hT1:T[k+1+i]=w[i]:=by
    have q1:T[k+1+i]? =(T.drop (k+1))[i]?:=by rw[List.getElem?_drop]
    rw[hw,List.getElem?_append_left hi,bq hi,bq hj]at q1
    exact Option.some.inj q1
   rw[hT1]at hl
   have esp:NJ k (i+1)=some (.int ((k+1+i:Nat):Int)):=by
    unfold NJ;rw[cH (Nat.succ_ne_zero i),show k+(i+1)=k+1+i by omega]
   rw[esp,uC hw hi,ci,jn (by omega),<-bS];have aZ:(al++(jy w r i).map (dJ T)).length<=1000:=by rw[bM,cq];omega
   generalize al++(jy w r i).map (dJ T)=al' at aZ |-
   unfold gt
   by_cases h1:decide ([w[i]]∈kU)=true
   . rw[cJ h1]
     have h2:decide (w[i]∈[34,39,61,60,96])=true:=cr ((fR (t:=[34,39,61,60,96])).mp h1)
     exact M6 (L:=L) (st:=k+1+w.length) hB hT hl h2 aZ
   . rw[cH h1,List.map_nil,cm]
     have h2:decide (w[i]∈[34,39,61,60,96])=false:=cc λq=>h1 ((fR (t:=[34,39,61,60,96])).mpr q)
     exact M8 (L:=L) (st:=k+1+w.length) hB hT hl h2
 . exact fO
end
end
section
section
variable {B:dc} {L ra pa lb:Addr} {T nm n6 br od ky:cK} {h0 k st:Nat} {cl sc b:Bool} {ps:cU} {az:cW} {pl:cL} {r8:OL}
inductive AD (T:cK) (h0:Nat) (cl:Bool) (ra pa lb:Addr) (a:Nat) (n6:cK) (b:Bool) (nm:cK) (ps:cU) (sc:Bool) (ky:cK) (pl:cL) (r8:OL) (σ:St):Prop
 | mk (k':Nat) (vl:cK) (br' oh:String) (st':Nat) (sp op:cS) (aH:cW) (z1:σ=Kb T h0 cl ra pa lb k' n6 sc (sg br') (sg oh) st' sp ky op [] (aH.map (dJ T)) pl vl r8) (z2:lI .data .none T b nm (ps++[(ky,vl)]) sc br' oh aH (T.drop k')) (z3:a < k') (z4:k'<=T.length)
theorem vx (hT:fU T) {l:cK} (h:∀ c∈l,c∈T):l.dropWhile qz=l.dropWhile iS:=by
 induction l with
 | nil=>rfl
 | cons x l ih=>
  have k1:∀ c∈gM,c≠13:=by decide
  rw[bH,bH,G9 (k1 x (hT.sig x (h x dP))),ih λc hc=>h c (.tail _ hc)]
theorem jK {T:cK} {p:Nat} (h:p<=T.length) {az:cW} {d:AV}:(az++at' (T.drop p) [d]).map (dJ T)=az.map (dJ T)++[.tup [.int (p:Nat),d]]:=by
 rw[ci,jn h];rfl
theorem Ie {u:Nat->Bool} {l:cK}:(l.takeWhile u).length<=l.length:=(bt u).length_le
theorem tQ {a n p s br od w1 w2 w3 w4 w5 w6:cS}:((tL T h0 cl ra a n p s br od w1 w2 w3 w4 w5 w6).map (·.1)).Nodup:=eT (by kernel_rfl)
theorem Ey {a n p s br od w1 w2 w3 w4 w5 w6:cS}:∀ x d,(x,some d)∈tL T h0 cl ra a n p s br od w1 none w3 w4 w5 w6->(x,some d)∈tL T h0 cl ra a n p s br od w1 w2 w3 w4 w5 w6:=yD.le (by repeat' first | exact .nil | refine .keep ?_ | refine .drop ?_)
theorem Gf {a n p s br od w1 w2 w3 w4 w5 w6:cS}:∀ x d,(x,some d)∈tL T h0 cl ra a n p s br od none none none none none none->(x,some d)∈tL T h0 cl ra a n p s br od w1 w2 w3 w4 w5 w6:=yD.le (by repeat' first | exact .nil | refine .keep ?_ | refine .drop ?_)
theorem PU (hB:ej B) (hT:fU T) {v e z:Nat} {w r:cK} {br od:cK} (hv:v < T.length) (aX:pl.length<=1000) (hacc:az.length<=700) (he:dn ql T (v+1)=e) (hw:T.drop (v+1)=w++r) (hew:e=v+1+w.length):
 fx (eA B L) m7 (ib T h0 cl ra pa lb v n6 sc br od st ky (iY z) (az.map (dJ T)) pl [] r8) .next (ib T h0 cl ra pa lb e n6 sc (sg "eof-in-attribute-value-no-quotes") od e ky (iY z) ((az++at' (T.drop (v+1)) (gt "equals-in-unquoted-attribute-value" [[61],[60],[96]] z)++gP uE kU w r).map (dJ T)) pl (sl T (some (v:Int)) (some (e:Int))) r8):=by
 have aC:(az.map (dJ T)).length<=700:=by rw[cq];exact hacc
 refine IN (fC 2 (PK (L:=L) hB hT hv aX he) ?_)
 refine fC (a6:=ib T h0 cl ra pa lb v n6 sc br od e ky (iY z) ((az++at' (T.drop (v+1)) (gt "equals-in-unquoted-attribute-value" [[61],[60],[96]] z)).map (dJ T)) pl (sl T (some (v:Int)) (some (e:Int))) r8) 1 ?_ ?_
 . unfold gt
   by_cases h:decide ([z]∈[[61],[60],[96]])=true
   . rw[cJ h,jK (show v+1<=T.length from hv)]
     exact Nd (L:=L) hB hT (cr ((fR (t:=[61,60,96])).mp h)) (by exact dN ‹_› (Nat.le_add_left _ _))
   . rw[cH h,show at' (T.drop (v+1)) []=[]from rfl,cm]
     exact MX (L:=L) hB hT (cc λq=>h ((fR (t:=[61,60,96])).mpr q))
 . rw[ci (l₂:=gP uE kU w r)]
   have hal2:((az++at' (T.drop (v+1)) (gt "equals-in-unquoted-attribute-value" [[61],[60],[96]] z)).map (dJ T)).length<=800:=by
    have:=oW (x:="equals-in-unquoted-attribute-value") (t:=[[61],[60],[96]]) (z:=z)
    rw[cq,bM,cq];exact dN (Nat.add_le_add ‹_› ‹_›) (eP rfl)
   generalize(az++at' (T.drop (v+1)) (gt "equals-in-unquoted-attribute-value" [[61],[60],[96]] z)).map (dJ T)=al at hal2 |-
   generalize sl T (some (v:Int)) (some (e:Int))=vl
   subst hew;show dH _ (m7.drop 3) _ _
   refine fC 1 (OD (L:=L) hB hT hv hw hal2) ?_
   show dH _ (m7.drop 4) _ _
   exact ll (eu (OP (L:=L) hB) ⟨rfl,rfl⟩) Ey tQ
theorem FE (hB:ej B) (hT:fU T) {a v q:Nat} {x br:String} {s:nV} (hv:v < T.length) (hvg:a+1<=v) (aX:pl.length<=1000) (aC:(az.map (dJ T)).length<=1000)
 (y :dU .data .none T az s (to b nm ps sc ky []) (T.drop (v+1)))
 (hp:∀ {w r},(∀ z∈w,z≠q)->(∀ z r',r=z::r'->z=q)->dU s (to b nm ps sc ky []) (w++r) [] s (to b nm ps sc ky w) r)
 (hQ:∀ {w l},dU s (to b nm ps sc ky w) (q::l) [] .av (tg b nm (ps++[(ky,w)]) sc) l)
 (h0':∀ {w},dU .data .none T az s (to b nm ps sc ky w) []->lI .data .none T b nm (ps++[(ky,w)]) sc x "invalid-character-in-attribute-name" az [])
 (hE:∀ {vl},fx (eA B L) (ni.drop 2) (ib T h0 cl ra pa lb v n6 sc (sg br) u9 T.length ky (iY q) (az.map (dJ T)) pl vl r8) .next (ib T h0 cl ra pa lb T.length n6 sc (sg x) u9 T.length ky (iY q) (az.map (dJ T)) pl vl r8)):
 dH (eA B L) ni (ib T h0 cl ra pa lb v n6 sc (sg br) u9 st ky (iY q) (az.map (dJ T)) pl [] r8) λf σ'=>f=.next/\AD T h0 cl ra pa lb a n6 b nm ps sc ky pl r8 σ':=by
 have hve:v+1<=dn (λx=>decide (x∈[q])==false) T (v+1):=bU _ _
 have hel:=fy (λx=>decide (x∈[q])==false) T (show v+1<=T.length from hv)
 have hsl:=lZ (u:=λx=>decide (x∈[q])==false) (show v+1<=T.length from hv)
 have hde:=f8 (T:=T) (u:=λx=>decide (x∈[q])==false) (k:=v+1)
 have hu:=λo8:OL=>kG (k:=v+1) (cs:=[q]) (o8:=o8) hB hT.plain hv
 have hwm:∀ z∈(T.drop (v+1)).takeWhile (λx=>decide (x∈[q])==false),z≠q:=λz hz e=>by
  have:=oY hz
  subst e;rw[cr (bL.mpr rfl)]at this;exact nomatch this
 have hdr:∀ z r',T.drop (dn (λx=>decide (x∈[q])==false) T (v+1))=z::r'->z=q:=λz r' e=>by
  have:=jj (hde.symm.trans e)
  by_cases h:z=q
  . exact h
  . rw[cc (λm=>h (bL.mp m))]at this;exact nomatch this
 have hap:T.drop (v+1)=(T.drop (v+1)).takeWhile (λx=>decide (x∈[q])==false)++T.drop (dn (λx=>decide (x∈[q])==false) T (v+1)):=by rw[hde];exact List.takeWhile_append_dropWhile.symm
 generalize(T.drop (v+1)).takeWhile (λx=>decide (x∈[q])==false)=w at hsl hwm hap
 generalize dn (λx=>decide (x∈[q])==false) T (v+1)=e at hve hel hsl hu hdr hap
 clear hde;rw[hap]at y
 have y6:=y.thn (hp hwm hdr)
 refine fC 2 (Q8 hB hT aX hu) ?_
 rw[hsl]
 by_cases he:e=T.length
 . subst he
   refine eu hE ⟨rfl,T.length,w,x,"invalid-character-in-attribute-name",T.length,none,iY q,az,rfl,?_,Nat.lt_trans hvg hve,hel⟩
   rw[c9]at y6 |-
   exact h0' y6
 have he':e < T.length:=Nat.lt_of_le_of_ne hel he
 have hde2:=eO he'
 have hq:=hdr _ _ hde2
 rw[hde2,hq]at y6
 have y7:=y6.thn hQ
 have hae:a < e+1:=Nat.lt_succ_of_lt (sv (sv hvg (Nat.le_succ v)) hve)
 by_cases hl2:e+1=T.length
 . refine eu (Pt hB hT he hl2) ⟨rfl,e+1,w,"unexpected-EOF-after-attribute-value","invalid-character-in-attribute-name",e,none,iY q,az,rfl,?_,hae,Nat.le_of_eq hl2⟩
   have:T.drop (e+1)=[]:=by rw[hl2];exact c9
   rw[this]at y7 |-
   exact zK y7 (λt t h=>nomatch h)
 have hl3:e+1 < T.length:=Nat.lt_of_le_of_ne he' hl2
 have hz2:=f9 hl3
 have hde3:=eO hl3
 rw[hde3]at y7
 have n13:T[e+1]≠13:=hT.n13 (k:=0) _ (bT hl3)
 by_cases hm:decide (T[e+1]∈[9,10,12,32]++[62,47])=true
 . refine eu (P4 hB hT he hl3 hz2 hm) ⟨rfl,e+1,w,"unexpected-EOF-after-attribute-value","invalid-character-in-attribute-name",e,none,iY q,az,rfl,?_,hae,cy hl3⟩
   rw[hde3];refine zK y7 λz r' h=>?_
   obtain⟨rfl,_⟩:=List.cons.inj h;have:=of_decide_eq_true hm
   rw[ip];simp at this |-
   omega
 . refine eu (PN hB hT he hl3 hz2 (bQ.mpr hm) aC) ⟨rfl,e+1,w,"unexpected-EOF-after-attribute-value","invalid-character-in-attribute-name",e,none,iY q,az++at' (T.drop (e+1)) [eE "unexpected-character-after-attribute-value"],by rw[jK (cy hl3)];rfl,?_,hae,cy hl3⟩
   rw[hde3];have bk:T[e+1]∉[9,10,12,32]++[62,47]:=λq=>hm (cr q)
   refine CA (λq=>?_) (λq=>bk (by rw[q];decide)) (λq=>bk (by rw[q];decide)) y7
   rw[ip]at q
   refine bk ?_
   simp at q |-
   omega
theorem yr (hB:ej B) (hT:fU T) {a:Nat} (ha:a < T.length) (aX:pl.length<=1000) {br oe:String}
 (y :dU .data .none T az .bv (to b nm ps sc ky []) (T.drop (a+1))):
 dH (eA B L) qJ (ib T h0 cl ra pa lb a n6 sc (sg br) (sg oe) st ky none (az.map (dJ T)) pl [] r8) λf σ'=>f=.next/\AD T h0 cl ra pa lb a n6 b nm ps sc ky pl r8 σ':=by
 have hacc:az.length<=700:=dN (y.small hT.len) (by decide)
 have h1:a+1<=T.length:=ha
 have hsub:∀ {j:Nat},∀ c∈T.drop j,c∈T:=λc hc=>(List.drop_sublist _ T).subset hc
 have hva:=fy iS T h1
 have hvg:a+1<=dn iS T (a+1):=bU _ _
 have y4:dU .data .none T az .bv (to b nm ps sc ky []) (T.drop (dn iS T (a+1))):=by
  rw[f8,<-vx hT hsub];exact y.thn (zr .bv λx x h=>Jo h)
 have hh:∀ z r',T.drop (dn iS T (a+1))=z::r'->iS z=false:=λz r' e=>jj (f8.symm.trans e)
 have aC:(az.map (dJ T)).length<=1000:=by rw[cq];exact dN ‹_› (Nat.le_add_left _ _)
 refine fC 3 (OK (L:=L) hB hT h1) ?_
 generalize dn iS T (a+1)=v at y4 hva hvg hh |-
 by_cases hv:v=T.length
 . refine eu (Q5 (L:=L) hB hT hv) ⟨rfl,v,[],"expected-attribute-value-but-got-eof","invalid-character-in-attribute-name",st,none,Kc T v,az,rfl,?_,by assumption,hva⟩
   have:T.drop v=[]:=by rw[hv];exact c9
   rw[this]at y4 |-
   exact D6 y4
 have hv':v < T.length:=Nat.lt_of_le_of_ne hva hv
 have hop:=Al hv'
 have hd:=eO hv'
 rw[hd]at y4 hh
 have hz:=hh _ _ rfl
 clear hh;have hl:=f9 hv'
 by_cases e8:T[v]=62
 . rw[e8]at hop y4 hd
   refine eu (P1 (L:=L) hB hT hop aC) ⟨rfl,v,[],br,"invalid-character-in-attribute-name",st,none,Kc T v,az++at' (T.drop (v+1)) [eE "expected-attribute-value-but-got-right-bracket"],by rw[jK (show v+1<=T.length from hv')];rfl,?_,by assumption,hva⟩
   rw[hd];exact E9 y4
 rw[hop]
 by_cases eq34:T[v]=34
 . rw[eq34]at y4 |-
   exact uT (dR [.br false] (dL hB) (qa trivial ff)) (uT (dR [.br false] (dL hB) (qa trivial ff)) (thn (dR [.br true] (dL hB) (qa trivial tt)) (FE hB hT hv' hvg aX aC (y4.thn IE) (Os (vl:=[])) Me DK (P8 hB hT))))
 by_cases eq39:T[v]=39
 . rw[eq39]at y4 |-
   exact uT (dR [.br false] (dL hB) (qa trivial ff)) (uT (dR [.br false] (dL hB) (qa trivial ff)) (thn (dR [.br false,.br true] (dL hB) (qa (qa trivial ff) tt)) (FE hB hT hv' hvg aX aC (y4.thn Jj) (PM (vl:=[])) NU Cy (OI hB hT))))
 have n13:T[v]≠13:=hT.n13 (k:=0) _ (bT hv')
 have nB:¬ jR T[v]:=λq=>by rw[(j6 n13).mp q]at hz;exact nomatch hz
 have y5:=y4.trans (Ic nB eq34 eq39 e8)
 have hve:v+1<=dn ql T (v+1):=bU _ _
 have hel:=fy ql T (show v+1<=T.length from hv')
 have hde:=f8 (T:=T) (u:=ql) (k:=v+1)
 have hdr:∀ z r',T.drop (dn ql T (v+1))=z::r'->ql z=false:=λz r' e=>jj (hde.symm.trans e)
 have hap:T.drop (v+1)=(T.drop (v+1)).takeWhile ql++T.drop (dn ql T (v+1)):=by rw[hde];exact List.takeWhile_append_dropWhile.symm
 have hwm:∀ z∈(T.drop (v+1)).takeWhile ql,ql z=true/\z≠13:=λz hz=>⟨oY hz,hT.n13 (k:=v+1) z ((bt ql).subset hz)⟩
 have hew:dn ql T (v+1)=v+1+((T.drop (v+1)).takeWhile ql).length:=rfl
 have hee:∃ e,dn ql T (v+1)=e:=⟨_,rfl⟩
 obtain⟨e,hee⟩:=hee;rw[hee]at hve hel hde hdr hap hew
 generalize(T.drop (v+1)).takeWhile ql=w at hap hwm hew
 have hsl:sl T (some (v:Int)) (some (e:Int))=T[v]::w:=by
  rw[At (by exact cy ‹_›) hel,hd,hap,hew,show v+1+w.length - v=w.length+1 by omega,List.take_succ_cons,List.take_left]
 have pq:=Q9 (b:=b) (sc:=sc) (nm:=nm) (ps:=ps) (r:=T.drop e) (w:=w) (vl:=[T[v]]) (ky:=ky) (λz hz=>(hwm z hz).1) (λz hz=>(hwm z hz).2) hdr
 rw[<-hap]at pq
 have y6:=y5.trans pq
 have fin:=PU (L:=L) (h0:=h0) (cl:=cl) (ra:=ra) (pa:=pa) (lb:=lb) (n6:=n6) (ky:=ky) (st:=st) (sc:=sc) (az:=az) (pl:=pl) (r8:=r8) (z:=T[v]) (br:=sg br) (od:=u9) hB hT hv' aX hacc hee hap hew
 generalize hzz:T[v]=z at*
 refine eu (eN (na (a6:=ib T h0 cl ra pa lb v n6 sc (sg br) u9 st ky (iY z) (az.map (dJ T)) pl [] r8) (dR [.br false] (dL hB) (qa trivial ff))
  (eN (na (a6:=ib T h0 cl ra pa lb v n6 sc (sg br) u9 st ky (iY z) (az.map (dJ T)) pl [] r8) (dR [.br false] (dL hB) (qa trivial (fH e8)))
  (eN (na (a6:=ib T h0 cl ra pa lb v n6 sc (sg br) u9 st ky (iY z) (az.map (dJ T)) pl [] r8) (dR [.br false,.br false] (dL hB) (qa (qa trivial (fH eq34)) (fH eq39))) fin) fO)) fO)) fO)
  ⟨rfl,e,sl T (some (v:Int)) (some (e:Int)),"eof-in-attribute-value-no-quotes","invalid-character-in-attribute-name",e,none,iY z,_,rfl,?_,by exact Nat.lt_trans ‹_› ‹_›,hel⟩
 rw[hsl];refine FT y6 λz' r' h=>?_
 have h4:=hdr z' r' h
 have h5:z'∈[9,10,12,32,62]:=Decidable.byContradiction λq=>by unfold ql at h4;rw[cc q]at h4;exact nomatch h4
 rw[ip];simp at h5 |-
 omega
end
end
section
section
variable {B:dc} {L ra pa:Addr} {T nm n6:cK} {h0 k:Nat} {cl sc b:Bool} {ps:cU} {az:cW} {r8:OL}
inductive Cn (T:cK) (h0:Nat) (cl:Bool) (ra pa:Addr) (n6:cK) (b:Bool) (nm:cK) (r8:OL) (m:Nat) (σ:St):Prop
 | mk (k':Nat) (ps':cU) (sc':Bool) (br' oh:String) (aH:cW) (w1 w2 w3 w4:cS) (z1:T.length - k'<=m) (z2:k'<=T.length) (z3:lI .data .none T b nm ps' sc' br' oh aH (T.drop k')) (z7:h0 < k') (z8:(sc'=true->∃ h:k' < T.length,T[k']=62)) (z9:σ=⟨tL T h0 cl ra (some (.int k')) (some (.str n6)) (some (.ref pa)) (some (.bool sc')) (some (.str (sg br'))) (some (.str (sg oh))) w1 w2 w3 w4 none none,(ra,.list (aH.map (dJ T)))::(pa,.list ((pA ps').map dh))::r8⟩)
inductive JE (T:cK) (ra pa:Addr) (r8:OL) (d:AV) (σ:St):Prop
 | mk (z0:d=.int (T.length:Nat)) (aH:cW) (pl':cL) (z1:σ.objs=(ra,.list (aH.map (dJ T)))::(pa,.list pl')::r8) (z2:dU .data .none T aH .data .none [])
theorem ot {lb:Addr} {ps:cU} {ky vl:cK} {al:cL} {l9:LL} {X:Cx} {Q:PF} (h:Q .next ⟨l9,(ra,.list al)::(pa,.list ((pA (ps++[(ky,vl)])).map dh))::r8⟩):dH X [] ⟨l9,(ra,.list al)::(pa,.list ((pA ps).map dh++[.ref lb]))::(lb,.list [.str ky,.str vl])::r8⟩ Q:=by
 refine ko (o3:=(lb,.list [.str ky,.str vl])::(pa,.list ((pA ps).map dh++.ref lb::[]))::(ra,.list al)::r8) (r8:=[]) ?_ (CQ ?_)
 . rw[cm]
   exact((List.Perm.swap _ _ _).trans ((List.Perm.swap _ _ _).cons _)).trans (List.Perm.swap _ _ _)
 . refine ko (o3:=(ra,.list al)::(pa,.list ((pA (ps++[(ky,vl)])).map dh))::r8) (r8:=[]) ?_ (j5 h)
   rw[cm,nJ,ci];exact List.Perm.swap _ _ _
theorem dH.wk {X:Cx} {ss:cM} {σ:St} {Q R:PF} (h:dH X ss σ R) (k:∀ f σ',R f σ'->Q f σ'):dH X ss σ Q:=⟨λH Φ w=>h.run H Φ λf σ' z=>w _ _ (k _ _ z)⟩
theorem D9 {X:Cx} {ss:cM} {σ a6:St} {d:AV} (k:Nat) (h1:fx X (ss.take k) σ (.ret d) a6):dH X ss σ λf σ'=>f=.ret d/\σ'=a6:=
 ju (R:=λy=>False) k (eu h1 (.inr ⟨d,rfl,rfl,rfl⟩)) λy z=>z.elim
def lK (T:cK) (h0:Nat) (cl:Bool) (ra pa:Addr) (n6:cK) (b:Bool) (nm:cK) (r8:OL) (k:Nat):PF:=λf σ'=>(f=.next/\Cn T h0 cl ra pa n6 b nm r8 (T.length - (k+1)) σ')\/∃ d,f=.ret d/\JE T ra pa r8 d σ'
section
variable {lb:Addr} {st a:Nat} {ky:cK} {br oe:String}
theorem zq (hB:ej B) (hT:fU T) (b8:ps.length<=200) (hh:h0 < k) (be:k < a) (ha:a < T.length) (e61:T[a]=61) (aU:sc=false) (y:dU .data .none T az .bv (to b nm ps sc ky []) (T.drop (a+1))):
 dH (eA B L) (gk.drop 8) (ib T h0 cl ra pa lb a n6 sc (sg br) (sg oe) st ky none (az.map (dJ T)) ((pA ps).map dh) [] r8) (lK T h0 cl ra pa n6 b nm r8 k):=by
 have hl:=f9 ha
 rw[e61]at hl
 have aX:((pA ps).map dh).length<=1000:=by rw[cq,cq];exact dN b8 (by decide)
 refine jh (λσ=>AD T h0 cl ra pa lb a n6 b nm ps sc ky ((pA ps).map dh) r8 σ) (wN (a6:=(ib T h0 cl ra pa lb a n6 sc (sg br) (sg oe) st ky none (az.map (dJ T)) ((pA ps).map dh) [] r8)) (dR [.br true,.ch 61,.br true] (dL hB) (qa (qa (qa (qa (qa trivial hT.plain.size) (cr (show(a:Int) < (T.length:Int)from cx.mpr ha))) hl) hT.plain.size) tt)) (yr hB hT ha aX y)) ?_
 rintro σ' ⟨k',vl,br',oh,st',sp,op,aH,rfl,tp,hk1,hk2⟩;exact ot (.inl ⟨rfl,k',_,sc,br',oh,aH,some (.int st'),sp,some (.str ky),op,Nat.sub_le_sub_left (dN be (cy hk1)) _,hk2,tp,Nat.lt_trans (Nat.lt_trans hh be) hk1,(λq=>nomatch aU.symm.trans q),rfl⟩)
theorem H8 (hB:ej B) (hT:fU T) (hh:h0 < k) (be:k < st) (bh:st < a) (ha:a<=T.length) (n61:¬ ∃ h:a < T.length,T[a]=61) (aU:sc=false) (tp:lI .data .none T b nm (ps++[(ky,[])]) sc "expected-end-of-tag-but-got-eof" "invalid-character-after-attribute-name" az (T.drop a)):
 dH (eA B L) (gk.drop 8) (ib T h0 cl ra pa lb a n6 sc (sg br) (sg oe) st ky none (az.map (dJ T)) ((pA ps).map dh) [] r8) (lK T h0 cl ra pa n6 b nm r8 k):=by
 have fin:Cn T h0 cl ra pa n6 b nm r8 (T.length - (k+1)) ⟨tL T h0 cl ra (some (.int a)) (some (.str n6)) (some (.ref pa)) (some (.bool sc)) (some (.str (sg "expected-end-of-tag-but-got-eof"))) (some (.str Lu)) (some (.int st)) none (some (.str ky)) none none none,(ra,.list (az.map (dJ T)))::(pa,.list ((pA (ps++[(ky,[])])).map dh))::r8⟩:=
  ⟨a,_,sc,_,_,az,_,_,_,_,Nat.sub_le_sub_left (dN be (cy bh)) _,ha,tp,Nat.lt_trans hh (Nat.lt_trans be bh),(λq=>nomatch aU.symm.trans q),rfl⟩
 by_cases aC:a < T.length
 . have hz:=f9 aC
   have n:T[a]≠61:=λq=>n61 ⟨aC,q⟩
   generalize T[a]=z at hz n
   exact eH (na (a6:=(ib T h0 cl ra pa lb a n6 sc (sg br) (sg oe) st ky none (az.map (dJ T)) ((pA ps).map dh) [] r8)) (dR [.br true,.ch z,.br false] (dL hB) (qa (qa (qa (qa (qa trivial hT.plain.size) (cr (show(a:Int) < (T.length:Int)from cx.mpr aC))) hz) hT.plain.size) (fH n))) (eN (nF (a6:=(ib T h0 cl ra pa lb a n6 sc (sg br) (sg oe) st ky none (az.map (dJ T)) ((pA ps).map dh) [] r8)) (dR [.br true] (dL hB) (qa trivial (cr (show(st:Int) < (a:Int)from cx.mpr bh)))) (KE (L:=L) hB)) fO)) (ot (.inl ⟨rfl,fin⟩))
 . exact eH (na (a6:=(ib T h0 cl ra pa lb a n6 sc (sg br) (sg oe) st ky none (az.map (dJ T)) ((pA ps).map dh) [] r8)) (dR [.br false] (dL hB) (qa (qa trivial hT.plain.size) (cc λq:(a:Int) < (T.length:Int)=>aC (cx.mp q)))) (eN (nF (a6:=(ib T h0 cl ra pa lb a n6 sc (sg br) (sg oe) st ky none (az.map (dJ T)) ((pA ps).map dh) [] r8)) (dR [.br true] (dL hB) (qa trivial (cr (show(st:Int) < (a:Int)from cx.mpr bh)))) (KE (L:=L) hB)) fO)) (ot (.inl ⟨rfl,fin⟩))
theorem E2 (hB:ej B) (hT:fU T) (hh:h0 < k) (be:k < st) (ha:st < T.length) (n61:T[st]≠61) (aU:sc=false) (tp:lI .data .none T b nm (ps++[(ky,[])]) sc br oe az (T.drop st)):
 dH (eA B L) (gk.drop 8) (ib T h0 cl ra pa lb st n6 sc (sg br) (sg oe) st ky none (az.map (dJ T)) ((pA ps).map dh) [] r8) (lK T h0 cl ra pa n6 b nm r8 k):=by
 have hz:=f9 ha
 generalize T[st]=z at hz n61
 exact eH (na (a6:=(ib T h0 cl ra pa lb st n6 sc (sg br) (sg oe) st ky none (az.map (dJ T)) ((pA ps).map dh) [] r8)) (dR [.br true,.ch z,.br false] (dL hB) (qa (qa (qa (qa (qa trivial hT.plain.size) (cr (show(st:Int) < (T.length:Int)from cx.mpr ha))) hz) hT.plain.size) (fH n61))) (eN (na (a6:=(ib T h0 cl ra pa lb st n6 sc (sg br) (sg oe) st ky none (az.map (dJ T)) ((pA ps).map dh) [] r8)) (dR [.br false] (dL hB) (qa trivial (cc (Int.lt_irrefl (st:Int))))) fO) fO)) (ot (.inl ⟨rfl,st,_,sc,br,oe,az,_,_,_,_,Nat.sub_le_sub_left be _,cy ha,tp,Nat.lt_trans hh be,(λq=>nomatch aU.symm.trans q),rfl⟩))
theorem dU.psl {s:nV} {l:cK} {o:Option (cK×cK)} (y:dU .data .none T az s (.tag b nm ps sc o) l) (h:T.length<=100):ps.length<=200:=dN (dN (dN (Nat.le_add_left _ nm.length) (bU _ _)) (bU _ _)) (dN y.sz (dN (Nat.le_of_eq (Nat.zero_add _)) (Nat.mul_le_mul_left 2 h)))
theorem C8 (hB:ej B) (hT:fU T) (hh:h0 < k) (be:k < st) (hst:st < T.length) (hu5:T[st]∈[9,10,12,32,61,62,47]) {kw:cK} (aU:sc=false) (y1:dU .data .none T az .an (to b nm ps sc kw []) (T.drop st)):
 dH (eA B L) (gk.drop 6) (rt T h0 cl ra pa k n6 sc (sg br) (sg oe) st (some (.str (dM kw))) none ((az++at' (T.drop (st+1)) (oJ ps kw)).map (dJ T)) ((pA ps).map dh) r8) (lK T h0 cl ra pa n6 b nm r8 k):=by
 have b8:=y1.psl hT.len
 have hstl:=cy hst
 have n13:T[st]≠13:=hT.n13 (k:=0) _ (bT hst)
 have hd2:=eO hst
 refine ju (R:=λσ'=>∃ lb,σ'=ib T h0 cl ra pa lb k n6 sc (sg br) (sg oe) st (dM kw) none ((az++at' (T.drop (st+1)) (oJ ps kw)).map (dJ T)) ((pA ps).map dh) [] r8) 1 (dH.wk (Mg (L:=L) hB (by rw[cq,cq];exact dN b8 (by decide))) λf σ' z=>.inl z) ?_
 rintro σ' ⟨lb,rfl⟩;refine fC 1 (GS (L:=L) hB hT hstl) ?_
 by_cases hB1:jR T[st]
 . have ubl:iS T[st]=true:=(j6 n13).mp hB1
   have y3:dU .data .none T (az++at' (T.drop (st+1)) (oJ ps kw)) .nn (to b nm ps sc (dM kw) []) (T.drop (dn iS T st)):=by
    rw[f8,hd2,bH,cJ ubl,<-vx hT λc hc=>(List.drop_sublist (st+1) T).subset hc];exact((hd2▸y1).trans (HQ hB1)).thn (zr .nn λy y h=>Jt h)
   have bh:st < dn iS T st:=by
    unfold dn;rw[hd2,bF,cJ ubl];exact Nat.lt_add_of_pos_right (Nat.succ_pos _)
   have hle2:=fy iS T hstl
   have hh2:∀ z r',T.drop (dn iS T st)=z::r'->iS z=false:=λz r' e=>jj (f8.symm.trans e)
   generalize dn iS T st=a at y3 bh hle2 hh2 |-
   by_cases h61:∃ ha:a < T.length,T[a]=61
   . obtain⟨ha,e61⟩:=h61
     rw[eO ha,e61]at y3
     exact zq hB hT b8 hh (Nat.lt_trans be bh) ha e61 aU (y3.thn Gp)
   . refine H8 hB hT hh be bh hle2 h61 aU (Ha y3 λz r' e=>?_)
     have hb:=hh2 z r' e
     have aC:a < T.length:=Nat.lt_of_not_le λq=>by rw[List.drop_eq_nil_of_le q]at e;exact nomatch e
     obtain⟨rfl,_⟩:=List.cons.inj ((eO aC).symm.trans e);exact⟨λq=>by rw[(j6 (hT.n13 (k:=0) _ (bT aC))).mp q]at hb;exact(nomatch hb),λq=>h61 ⟨aC,q⟩⟩
 . have hscn:dn iS T st=st:=by
    unfold dn;rw[hd2,bF,cH (λq=>hB1 ((j6 n13).mpr q))];rfl
   rw[hscn]
   by_cases e61:T[st]=61
   . rw[hd2,e61]at y1
     exact zq hB hT b8 hh be hst e61 aU (y1.trans Ho)
   . have hor:T[st]=62\/T[st]=47:=by
      rw[ip]at hB1
      simp at hu5 hB1
      omega
     exact E2 hB hT hh be hst e61 aU (hd2▸Js (hd2▸y1) hor)
theorem CX (hB:ej B) (hT:fU T) (hh:h0 < k) (be:k < st) (hst:st<=T.length) (hdr:∀ z r',T.drop st=z::r'->qN z=false) {kw:cK} (hkw:(T.drop k).take (st - k)=kw) (aU:sc=false) (y1:dU .data .none T az .an (to b nm ps sc kw []) (T.drop st)):
 dH (eA B L) (gk.drop 2) (rt T h0 cl ra pa k n6 sc (sg br) (sg oe) st none none (az.map (dJ T)) ((pA ps).map dh) r8) (lK T h0 cl ra pa n6 b nm r8 k):=by
 have b8:ps.length<=900:=dN (y1.psl hT.len) (by decide)
 have aC:∀ m,Nat.ble 400 m=true->(az.map (dJ T)).length<=m:=λm h=>by rw[cq];exact dN (y1.small hT.len) (eP h)
 have hkey:∀ al:cL,fx (eA B L) ((gk.drop 3).take 1) (rt T h0 cl ra pa k n6 sc (sg br) (sg oe) st none none al ((pA ps).map dh) r8) .next (rt T h0 cl ra pa k n6 sc (sg br) (sg oe) st (some (.str (dM kw))) none al ((pA ps).map dh) r8):=λal=>hkw▸N6 hB hT (cy be) hst
 by_cases he:st=T.length
 . subst he
   rw[c9]at y1
   refine fC 1 (Nk (L:=L) hB hT (aC 1000 rfl)) ?_
   refine fC 1 (hkey _) ?_
   refine fC 1 (FK (L:=L) (m:=T.length) hB hT (by rw[bM];exact dN (bX (aC 400 rfl)) (by decide)) b8 (Nat.min_eq_right (Nat.le_succ _))) ?_
   have e9:az.map (dJ T)++[AV.tup [.int (T.length:Int),eE "eof-in-attribute-name"]]++(at' (T.drop T.length) (j4 (pA ps) (dM kw))).map (dJ T)=(az++at' [] (eE "eof-in-attribute-name"::oJ ps kw)).map (dJ T):=by
    rw[c9,ci,bS];rfl
   rw[e9];refine dH.wk (D9 1 (KQ (L:=L) hB hT)) λf σ' z=>.inr ?_
   obtain⟨rfl,rfl⟩:=z;exact⟨_,rfl,rfl,_,_,rfl,y1.trans M0⟩
 . have he':st < T.length:=Nat.lt_of_le_of_ne hst he
   refine fC 1 (LA (L:=L) hB hT he) ?_
   refine fC 1 (hkey _) ?_
   refine fC 1 (FK (L:=L) (m:=st+1) hB hT (aC 1000 rfl) b8 (Nat.min_eq_left he')) ?_
   refine fC 1 (Na (L:=L) hB hT he) ?_
   have hu:=hdr _ _ (eO he')
   rw[<-ci];exact C8 hB hT hh be he' (Decidable.byContradiction λq=>by unfold qN at hu;rw[cc q]at hu;exact nomatch hu) aU y1
end
theorem zj (hB:ej B) (hT:fU T) (hk:k < T.length) (hh:h0 < k) {br oe:String} (t:lI .data .none T b nm ps sc br oe az (T.drop k)) (hz1:¬ jR T[k]) (hz2:T[k]≠62) (hz3:T[k]≠47) (aU:sc=false):
 dH (eA B L) gk (nq T h0 cl ra pa k n6 sc (sg br) (sg oe) (az.map (dJ T)) ((pA ps).map dh) r8) (lK T h0 cl ra pa n6 b nm r8 k):=by
 have hd:=eO hk
 have hde:=f8 (T:=T) (u:=qN) (k:=k+1)
 have hap:T.drop (k+1)=(T.drop (k+1)).takeWhile qN++T.drop (dn qN T (k+1)):=by rw[hde];exact List.takeWhile_append_dropWhile.symm
 have pq:=Qf (b:=b) (sc:=sc) (nm:=nm) (ps:=ps) (r:=T.drop (dn qN T (k+1))) (w:=(T.drop (k+1)).takeWhile qN) (ky:=[T[k]]) (vl:=[]) (λz hz=>oY hz) (λz hz=>hT.n13 (k:=k+1) z ((bt qN).subset hz)) (λz r' e=>jj (hde.symm.trans e))
 have hwf:=Mq (L:=L) (h0:=h0) (cl:=cl) (ra:=ra) (pa:=pa) (nm:=n6) (sc:=sc) (br:=sg br) (pl:=(pA ps).map dh) (r8:=r8) (al:=az.map (dJ T)) (oe:=oe) hB hT hk rfl hap (by rw[cq];exact dN (t.small hT.len) (by decide))
 rw[<-hap]at pq
 have y1:=(t.fa _ _ hd hz1 hz2 hz3).trans pq
 rw[bS,<-xP]at y1
 have hkw:(T.drop k).take (dn qN T (k+1) - k)=[T[k]]++(T.drop (k+1)).takeWhile qN:=by
  rw[hd,show dn qN T (k+1) - k=((T.drop (k+1)).takeWhile qN).length+1 by unfold dn;omega,List.take_succ_cons,vN]
  rfl
 refine fC 1 (Hw (L:=L) hB hT hk) ?_
 refine fC 1 hwf ?_
 refine ll (lg:=tL T h0 cl ra (some (.int k)) (some (.str n6)) (some (.ref pa)) (some (.bool sc)) (some (.str (sg br))) (some (.str (sg oe))) (some (.int (dn qN T (k+1):Nat))) none none none none none) ?_ Ey tQ
 rw[<-ci];exact CX hB hT hh (bU (k+1) _) (fy qN T hk) (λz r' e=>jj (hde.symm.trans e)) hkw aU y1
end
end
section
section
variable {B:dc} {L ra pa:Addr} {T nm n6:cK} {h0 k:Nat} {cl sc b:Bool} {ps:cU} {az:cW} {r8:OL}
inductive zZ (T:cK) (h0:Nat) (cl:Bool) (ra pa:Addr) (n6:cK) (b:Bool) (nm:cK) (r8:OL) (m:Nat) (σ:St):Prop
 | mk (k':Nat) (ps':cU) (sc':Bool) (br' oh:String) (aH:cW) (z1:T.length - k'<=m) (z2:k'<=T.length) (z3:lI .data .none T b nm ps' sc' br' oh aH (T.drop k')) (z7:h0 < k') (z8:(sc'=true->∃ h:k' < T.length,T[k']=62)) (z9:σ=nq T h0 cl ra pa k' n6 sc' (sg br') (sg oh) (aH.map (dJ T)) ((pA ps').map dh) r8)
theorem Cs {X:Cx} {Q:PF} {m:Nat} {σ:St} (h:Cn T h0 cl ra pa n6 b nm r8 m σ) (k:∀ σ',zZ T h0 cl ra pa n6 b nm r8 m σ'->Q .next σ'):dH X [] σ Q:=by
 obtain⟨k',ps',sc',br',oh,aH,w1,w2,w3,w4,a1,a2,a3,a7,a8,rfl⟩:=h;exact ll (lg:=tL T h0 cl ra (some (.int k')) (some (.str n6)) (some (.ref pa)) (some (.bool sc')) (some (.str (sg br'))) (some (.str (sg oh))) none none none none none none) (j5 (k _ ⟨k',ps',sc',br',oh,aH,a1,a2,a3,a7,a8,rfl⟩)) Gf tQ
noncomputable def IS:cM:=(fQ gJ).take 2
noncomputable def Ip:cM:=((fQ gJ).drop 3).take 3
noncomputable abbrev PC (T:cK) (h0:Nat) (cl:Bool) (ra:Addr) (a n p s br od:cS) (o8:OL):St:=⟨tL T h0 cl ra a n p s br od none none none none none none,o8⟩
theorem KO (hB:ej B) (hT:fU T) {al:cL} (hh:h0<=T.length) (hs:gD B 1 781 [.str (sl T (some (h0:Int)) (some ((dn mE T h0:Nat):Int)))] (.str n6)):
 fx (eA B L) IS (PC T h0 cl ra none none none none none none ((ra,.list al)::r8)) .next (PC T h0 cl ra (some (.int (dn mE T h0:Nat))) (some (.str n6)) none none none none ((ra,.list al)::r8)):=
 dQ [ra] ⟨tD T h0 cl none none none none none none none none none none none none,[(0,.list al [])],r8⟩ [.cs (.av (.int (dn mE T h0:Nat))) [] 1,.cs (.av (.str n6)) [] 1] (dL hB) (qa (qa (qa (qa trivial (FG 6)) (λR=>kG (k:=h0) (cs:=[9,10,12,32]++[47,62]) (o8:=R) hB hT.plain hh)) hT.plain.size) hs)
theorem Mw (hB:ej B) {al pl:cL}:fx (eA B L) Ip (PC T h0 cl ra (some (.int k)) (some (.str n6)) (some (.ref pa)) none none none ((ra,.list al)::(pa,.list pl)::r8)) .next (nq T h0 cl ra pa k n6 false (sg "eof-in-tag-name") u9 al pl r8):=
 dQ [ra,pa] ⟨tD T h0 cl (some (.av (.int k))) (some (.av (.str n6))) (some (.slot 1)) none none none none none none none none none,[(0,.list al []),(1,.list pl [])],r8⟩ [] (dL hB) trivial
end
end
section
section
variable {B:dc} {L ra pa:Addr} {T nm n6:cK} {h0 k:Nat} {cl sc b:Bool} {ps:cU} {az:cW} {r8:OL}
theorem mX {X:Cx} {s:Stmt} {σ:St} {R:St->Prop} {D:AV->St->Prop} (h:xV X s σ λf σ'=>(f=.next/\R σ')\/∃ d,f=.ret d/\D d σ'):dH X [s] σ λf σ'=>(f=.next/\R σ')\/∃ d,f=.ret d/\D d σ':=
 Dn R ⟨λH Φ w=>h.run H Φ λf σ' z=>w _ _ (z.imp id λ⟨d,e,q⟩=>⟨d,e,.inr ⟨d,e,q⟩⟩)⟩ λσ' r=>j5 (.inl ⟨rfl,r⟩)
inductive Nz (T:cK) (h0:Nat) (cl:Bool) (ra pa:Addr) (n6:cK) (b:Bool) (nm:cK) (r8:OL) (σ:St):Prop
 | mk (k':Nat) (ps':cU) (sc':Bool) (br' oh:String) (aH:cW) (z1:(k'=T.length\/∃ h:k' < T.length,T[k']=62)) (z2:k'<=T.length) (z3:lI .data .none T b nm ps' sc' br' oh aH (T.drop k')) (z7:h0 < k') (z8:σ=nq T h0 cl ra pa k' n6 sc' (sg br') (sg oh) (aH.map (dJ T)) ((pA ps').map dh) r8)
section
variable {br oe:String} {az:cW}
theorem L6 (hB:ej B) (hT:fU T) (hk:k < T.length) (hh:h0 < k) (t:lI .data .none T b nm ps sc br oe az (T.drop k)) (aU:sc=false) (hb:jR T[k]):dH (eA B L) FJ (nq T h0 cl ra pa k n6 sc (sg br) (sg oe) (az.map (dJ T)) ((pA ps).map dh) r8) (lK T h0 cl ra pa n6 b nm r8 k):=by
 have hd:=eO hk
 have ubl:iS T[k]=true:=(j6 (hT.n13 (k:=0) _ (bT hk))).mp hb
 have y:dU .data .none T az .bn (tg b nm ps sc) (T.drop (dn iS T k)):=by
  rw[f8,hd,bH,cJ ubl,<-vx hT λc hc=>(List.drop_sublist (k+1) T).subset hc];exact t.fb _ _ hd hb
 have bh:k+1<=dn iS T k:=by
  unfold dn;rw[hd,bF,cJ ubl];exact bG (bX (cA _)) k
 exact eu (Ph (L:=L) hB hT (cy hk)) (.inl ⟨rfl,dn iS T k,ps,sc,_,oe,az,none,none,none,none,Nat.sub_le_sub_left bh _,fy iS T (cy hk),t.fo _ _ hd hb▸uf y λx=>rfl,sv hh (cy bh),(λq=>nomatch aU.symm.trans q),rfl⟩)
theorem Lj (hB:ej B) (hT:fU T) (hk:k < T.length) (hh:h0 < k) (t:lI .data .none T b nm ps sc br oe az (T.drop k)) (aU:sc=false) (e47:T[k]=47):dH (eA B L) wO (nq T h0 cl ra pa k n6 sc (sg br) (sg oe) (az.map (dJ T)) ((pA ps).map dh) r8) (lK T h0 cl ra pa n6 b nm r8 k):=by
 have y:=t.fs _ ((eO hk).trans (by rw[e47]))
 have hh1:h0 < k+1:=Nat.lt_succ_of_lt hh
 by_cases hk1:k+1 < T.length
 . have kx:=eO hk1
   rw[kx]at y
   by_cases e1:T[k+1]=62
   . refine eu (NR (L:=L) hB hT hk1 e1) (.inl ⟨rfl,k+1,ps,true,"unexpected-EOF-after-solidus-in-tag","invalid-character-in-attribute-name",az,none,none,none,none,cB _,hk,?_,hh1,(λx=>⟨hk1,e1⟩),rfl⟩)
     rw[kx,e1];rw[e1]at y
     exact CI y
   . obtain rfl:sc=false:=aU
     refine eu (Kz (L:=L) hB hT hk1 e1 (by rw[cq];exact dN (t.small hT.len) (by decide))) (.inl ⟨rfl,k+1,ps,false,"unexpected-EOF-after-solidus-in-tag","invalid-character-in-attribute-name",az++at' (T.drop (k+1)) [eE "unexpected-character-after-solidus-in-tag"],none,none,none,none,cB _,hk,?_,hh1,(λq=>nomatch q),by rw[jK (cy hk1)]⟩)
     rw[kx];exact CZ e1 y
 . have e1:k+1=T.length:=Nat.le_antisymm hk (Nat.le_of_not_lt hk1)
   have hn:T.drop (k+1)=[]:=by rw[e1];exact c9
   rw[hn]at y
   exact eu (LG (L:=L) hB hT e1) (.inl ⟨rfl,k+1,ps,sc,"unexpected-EOF-after-solidus-in-tag","invalid-character-in-attribute-name",az,none,none,none,none,cB _,hk,hn▸DA y,hh1,(λq=>nomatch aU.symm.trans q),rfl⟩)
theorem Du (hB:ej B) (hT:fU T) (hk:k < T.length) (hh:h0 < k) (t:lI .data .none T b nm ps sc br oe az (T.drop k)) (aU:sc=false) (e8:T[k]≠62):dH (eA B L) vM (nq T h0 cl ra pa k n6 sc (sg br) (sg oe) (az.map (dJ T)) ((pA ps).map dh) r8) (lK T h0 cl ra pa n6 b nm r8 k):=by
 have hl:=f9 hk
 have n13:T[k]≠13:=hT.n13 (k:=0) _ (bT hk)
 by_cases hb:jR T[k]
 . have hr:=L6 (L:=L) (ra:=ra) (pa:=pa) (n6:=n6) (cl:=cl) (r8:=r8) hB hT hk hh t aU hb
   have hbm:decide (T[k]∈[9,10,12,32])=true:=(j6 n13).mp hb
   generalize T[k]=z at hl hbm
   exact mX (wN (a6:=(nq T h0 cl ra pa k n6 sc (sg br) (sg oe) (az.map (dJ T)) ((pA ps).map dh) r8)) (dR [.ch z,.br true] (dL hB) (qa (qa (qa trivial hl) hT.plain.size) hbm)) hr)
 . have hbm:decide (T[k]∈[9,10,12,32])=false:=bQ.mpr λq=>hb ((j6 n13).mpr q)
   by_cases e47:T[k]=47
   . have hr:=Lj (L:=L) (ra:=ra) (pa:=pa) (n6:=n6) (cl:=cl) (r8:=r8) hB hT hk hh t aU e47
     rw[e47]at hl hbm
     exact mX (oA (c:=false) (a6:=(nq T h0 cl ra pa k n6 sc (sg br) (sg oe) (az.map (dJ T)) ((pA ps).map dh) r8)) (dR [.ch 47,.br false] (dL hB) (qa (qa (qa trivial hl) hT.plain.size) hbm)) ⟨nofun,λy=>mX (wN (a6:=(nq T h0 cl ra pa k n6 sc (sg br) (sg oe) (az.map (dJ T)) ((pA ps).map dh) r8)) (dR [.ch 47,.br true] (dL hB) (qa (qa (qa trivial hl) hT.plain.size) tt)) hr)⟩)
   . have hr:=zj (L:=L) (ra:=ra) (pa:=pa) (n6:=n6) (cl:=cl) (r8:=r8) hB hT hk hh t hb e8 e47 aU
     generalize T[k]=z at hl hbm e47
     exact mX (oA (c:=false) (a6:=(nq T h0 cl ra pa k n6 sc (sg br) (sg oe) (az.map (dJ T)) ((pA ps).map dh) r8)) (dR [.ch z,.br false] (dL hB) (qa (qa (qa trivial hl) hT.plain.size) hbm)) ⟨nofun,λy=>mX (oA (c:=false) (a6:=(nq T h0 cl ra pa k n6 sc (sg br) (sg oe) (az.map (dJ T)) ((pA ps).map dh) r8)) (dR [.ch z,.br false] (dL hB) (qa (qa (qa trivial hl) hT.plain.size) (fH e47))) ⟨nofun,λy=>hr⟩)⟩)
end
theorem Ir (hB:ej B) (hT:fU T) {m:Nat} {σ:St} (h:zZ T h0 cl ra pa n6 b nm r8 m σ):
 dH (eA B L) (((fQ gJ).drop 6).take 1) σ λf σ'=>(f=.next/\Nz T h0 cl ra pa n6 b nm r8 σ')\/∃ d,f=.ret d/\JE T ra pa r8 d σ':=by
 refine mX (wX (zZ T h0 cl ra pa n6 b nm r8) h ?_)
 rintro m σ ⟨k,ps,sc,br,oe,az,a1,a2,a3,a7,a8,rfl⟩
 by_cases hk:k < T.length
 . have hl:=f9 hk
   have aG:=cr (show(k:Int) < (T.length:Int)from cx.mpr hk)
   by_cases e8:T[k]=62
   . refine .inl ⟨(nq T h0 cl ra pa k n6 sc (sg br) (sg oe) (az.map (dJ T)) ((pA ps).map dh) r8),?_,.inl ⟨rfl,k,ps,sc,br,oe,az,.inr ⟨hk,e8⟩,a2,a3,a7,rfl⟩⟩
     rw[e8]at hl
     exact(dR [.br true,.ch 62,.br false] (dL hB) (qa (qa (qa (qa (qa trivial hT.plain.size) aG) hl) hT.plain.size) ff))
   . have bd:=Du (L:=L) (ra:=ra) (pa:=pa) (n6:=n6) (cl:=cl) (r8:=r8) hB hT hk a7 a3 (bQ.mpr λq=>let ⟨_,e⟩:=a8 q;e8 e) e8
     refine .inr ⟨(nq T h0 cl ra pa k n6 sc (sg br) (sg oe) (az.map (dJ T)) ((pA ps).map dh) r8),?_,ju (R:=Cn T h0 cl ra pa n6 b nm r8 (T.length - (k+1))) 1 (dH.wk bd λf σ' z=>z.imp id λ⟨d,e,q⟩=>⟨d,e,.inr ⟨d,e,.inr ⟨d,e,q⟩⟩⟩) λσ' r=>Cs r λσ'' i=>.inl ⟨rfl,_,sv (Nat.sub_lt_sub_left hk (Nat.lt_succ_self k)) a1,i⟩⟩
     generalize T[k]=z at hl e8
     exact(dR [.br true,.ch z,.br true] (dL hB) (qa (qa (qa (qa (qa trivial hT.plain.size) aG) hl) hT.plain.size) (show(!decide ([z]=[62]))=true by rw[fH e8];rfl)))
 . refine .inl ⟨(nq T h0 cl ra pa k n6 sc (sg br) (sg oe) (az.map (dJ T)) ((pA ps).map dh) r8),(dR [.br false] (dL hB) (qa (qa trivial hT.plain.size) (cc λq:(k:Int) < (T.length:Int)=>hk (cx.mp q)))),.inl ⟨rfl,k,ps,sc,br,oe,az,.inl (Nat.le_antisymm a2 (Nat.le_of_not_lt hk)),a2,a3,a7,rfl⟩⟩
end
end
section
section
variable {B:dc} {L ra pa:Addr} {T nm n6 br od:cK} {h0 k:Nat} {cl sc b:Bool} {ps:cU} {al pl:cL} {r8:OL}
theorem NA (hB:ej B) (hT:fU T) (aC:al.length<=1000):fx (eA B L) (((fQ gJ).drop 7).take 1) (nq T h0 cl ra pa T.length n6 sc br od al pl r8) (.ret (.int (T.length:Int))) (nq T h0 cl ra pa T.length n6 sc br od (al++[.tup [.int (T.length:Int),Fo br]]) pl r8):=
 dQ [ra,pa] (GU T h0 cl T.length n6 sc br od al [] pl r8) [.br true,.cs (.av (Fo br)) [] 1] (dL hB) (qa (qa (qa (qa trivial hT.plain.size) (cr (show(T.length:Int)=(T.length:Int)from rfl))) (eZ (x:=br) hB)) (iu 0 aC))
noncomputable abbrev vW (T:cK) (h0:Nat) (cl:Bool) (ra:Addr) (k:Nat) (nm:cK) (pl:cL) (sc:Bool) (br od:cK) (al:cL) (r8:OL):St:=⟨tL T h0 cl ra (some (.int k)) (some (.str nm)) (some (.lst pl)) (some (.bool sc)) (some (.str br)) (some (.str od)) none none none none none none,(ra,.list al)::r8⟩
noncomputable abbrev MT (T:cK) (h0:Nat) (cl:Bool) (k:Nat) (nm:cK) (pl:cL) (sc:Bool) (br od:cK) (al:cL) (as:cR) (r8:OL):DS:=⟨tD T h0 cl (some (.av (.int k))) (some (.av (.str nm))) (some (.av (.lst pl))) (some (.av (.bool sc))) (some (.av (.str br))) (some (.av (.str od))) none none none none none none,[(0,.list al as)],r8⟩
theorem HE (hB:ej B) (hT:fU T) (hk:k < T.length):fx (eA B L) (((fQ gJ).drop 7).take 2) (vW T h0 cl ra k n6 pl sc br od al r8) .next (vW T h0 cl ra (k+1) n6 pl sc br od al r8):=
 dQ [ra] (MT T h0 cl k n6 pl sc br od al [] r8) [.br false] (dL hB) (qa (qa trivial hT.plain.size) (cc λe:(k:Int)=(T.length:Int)=>cI (Int.ofNat.inj e) (Nat.ne_of_lt hk)))
noncomputable def wr:cM:=jZ (fQ gJ) 9 jc
noncomputable abbrev Od (nm:cK) (pl:cL) (sc:Bool):AV:=.dct [("type",.int 4),("name",.str nm),("data",.lst pl),("selfClosing",.bool sc)]
theorem H2 (hB:ej B) (aC:al.length<=900):fx (eA B L) wr (vW T h0 cl ra k n6 [] false br od al r8) .next (vW T h0 cl ra k n6 [] false br od (al++[.tup [.int (k:Int),Od n6 [] false]]) r8):=
 dQ [ra] (MT T h0 cl k n6 [] false br od al [] r8) [.br false,.br false] (dL hB) (qa (qa (qa (qa trivial (FG 0)) ff) ff) (iu 0 (dN aC (by decide))))
theorem K6 (hB:ej B) (aC:al.length<=900):fx (eA B L) wr (vW T h0 cl ra k n6 [] true br od al r8) .next (vW T h0 cl ra k n6 [] true br od (al++[.tup [.int (k:Int),(eE "self-closing-flag-on-end-tag")],.tup [.int (k:Int),Od n6 [] true]]) r8):=
 dQ [ra] (MT T h0 cl k n6 [] true br od al [] r8) [.br false,.br true,.cs (.av (eE "self-closing-flag-on-end-tag")) [] 1] (dL hB) (qa (qa (qa (qa (qa (qa trivial (FG 0)) ff) tt) (eZ (x:=sg "self-closing-flag-on-end-tag") hB)) (iu 0 (dN aC (by decide)))) (iu 1 (dN aC (by decide))))
theorem I6 (hB:ej B) (aC:al.length<=900) {x:AV} (aX:(x::pl).length<=16777216):fx (eA B L) wr (vW T h0 cl ra k n6 (x::pl) false br od al r8) .next (vW T h0 cl ra k n6 (x::pl) false br od (al++[.tup [.int (k:Int),(eE "attributes-in-end-tag")],.tup [.int (k:Int),Od n6 (x::pl) false]]) r8):=
 dQ [ra] (MT T h0 cl k n6 (x::pl) false br od al [] r8) [.br true,.cs (.av (eE "attributes-in-end-tag")) [] 1,.br false] (dL hB) (qa (qa (qa (qa (qa (qa trivial (show((x::pl):cL).length<=16777216 from aX)) tt) (eZ (x:=sg "attributes-in-end-tag") hB)) (iu 0 (dN aC (by decide)))) ff) (iu 1 (dN aC (by decide))))
theorem Iz (hB:ej B) (aC:al.length<=900) {x:AV} (aX:(x::pl).length<=16777216):fx (eA B L) wr (vW T h0 cl ra k n6 (x::pl) true br od al r8) .next (vW T h0 cl ra k n6 (x::pl) true br od (al++[.tup [.int (k:Int),(eE "attributes-in-end-tag")],.tup [.int (k:Int),(eE "self-closing-flag-on-end-tag")],.tup [.int (k:Int),Od n6 (x::pl) true]]) r8):=
 dQ [ra] (MT T h0 cl k n6 (x::pl) true br od al [] r8) [.br true,.cs (.av (eE "attributes-in-end-tag")) [] 1,.br true,.cs (.av (eE "self-closing-flag-on-end-tag")) [] 1] (dL hB) (qa (qa (qa (qa (qa (qa (qa (qa trivial (show((x::pl):cL).length<=16777216 from aX)) tt) (eZ (x:=sg "attributes-in-end-tag") hB)) (iu 0 (dN aC (by decide)))) tt) (eZ (x:=sg "self-closing-flag-on-end-tag") hB)) (iu 1 (dN aC (by decide)))) (iu 2 (dN aC (by decide))))
end
end
section
theorem KM.miss {P:Params} {F:Fz} {l:FL} {x:Str} {r:cX} (h:KM P F r l) (e:eF x l=none):valueAt r x=none:=by
 induction h with
 | nil=>rfl
 | @cons y v c r l h _ ih=>
  by_cases q:(y==x)=true
  . have z:=cF q
    subst z;exact nomatch (i8 _ c l).symm.trans e
  . have w:=ih ((fM c l q).symm.trans e)
    show Option.map _ (List.find? _ ((y,v)::r))= _
    rw[List.find?_cons];simp only[cc λz=>q (beq_iff_eq.mpr z)]
    exact w
section
variable {B:dc} {n:Nat} {L:Addr} {H:HL} {σ:St} {a:Addr} {l:FL} {x:cK} {c o:Value} {Φ:PV}
theorem Az (mo:(o,.ref a)∈H) (ma:(a,AO.dict l)∈σ.objs) (mc:(c,.str x)∈H) (h:∀ v,Φ v (.bool (!(eF (S x) l).isSome)) σ):WV B n L (compareOp .NotIn c o) H σ Φ:=dg λA F s hA X=>by
 obtain rfl:=dF (X.hold mo)
 refine ud (X.objs _ ma) ?_;rintro ⟨es,k,h1,h2⟩ h3 hsm
 obtain⟨t,rfl⟩:=dD (X.hold mc);refine wpAny_notIn_of (knd:=strKind B.prog B.w) (k:=S x) (bZ _) ?_ (ia h2 h3 h1).mapOf ?_
 . exact hsm
 . refine .toks X ⟨_,.bool _,?_⟩
   induction e:eF (S x) l using Option.casesOn with
   | some d=>
    refine dW (jS h2 e) ?_;rintro v e1 e2
    have:=h (.bool (!(some v).isSome))
    rw[e]at this
    refine e1▸?_
    exact this
   | none=>
    have e1:=(we h2).miss e
    have:=h (.bool (!(none:cT).isSome))
    rw[e]at this
    refine e1▸?_
    exact this
theorem B7 {X:Cx} {l9:LL} {o8:OL} (ma:(a,AO.dict l)∈o8):fY X .NotIn (.str x) (.ref a) (!(eF (S x) l).isSome) ⟨l9,o8⟩:=⟨λy y y y ma' mb h=>Az (σ:=⟨l9,o8⟩) mb ma ma' h⟩
theorem Bn {e5:Env} {pi:Pos} (h:∀ a,Φ (.ref a) (.ref a) ⟨σ.loc,(a,.dict [])::σ.objs⟩):WV B n L (eval (.Dict [] [] pi) e5) H σ Φ:=dg λA F s hA X=>by
 rw[eval_Dict_empty];refine cC (wpAny_standAt ?_)
 have hsm:(s.heap.objs.size==sysModules)=false:=lW (B:=B) (dN X.low (by obtain⟨y,hy⟩:=X.there L dP;exact cy (cz hy)))
 refine wpAny_newObj_type ?_
 exact dm.track (o:=.dict []) X (λb y e=>bw _ e) (λb hb=>by rw[bL.mp hb];exact eJ _) (by simp[AO.more]) ⟨⟨[],0,bE _ rfl,.nil⟩,List.nodup_nil,hsm⟩ rfl rfl ⟨.ref _,.ref _,h _⟩
theorem zG {X:Cx} {Q:PF} {ss:cM} {y:Str} {p lp pi:Pos} {l9:LL} {o8:OL} (h2:∀ a,∃ lg,js y (.ref a) l9 lg/\dH X ss ⟨lg,(a,.dict [])::o8⟩ Q)
 (hs:autoParam (swapsWith (.Dict [] [] lp) (some (.Name y p)) pi.line X.env=pure false) bR) (hl:autoParam (X.env.kindOf y=some .local) bK) (hL:autoParam (X.env.locals=X.L) bR) (hp:autoParam ((X.env.scope.kind==.class||(X.env.scope.kind==.module&&X.env.locals !=X.env.globals))=false) bR):
 dH X (.Assign [.Name y p] (.Dict [] [] lp) pi::ss) ⟨l9,o8⟩ Q:=⟨λH Φ h=>gu (gv (Bn (σ:=⟨l9,o8⟩) λa=>by
 refine dW (h2 a) ?_;rintro lg aW w
 exact lT gO aW (w.run _ Φ h) hl hL hp) hs)⟩
end
section
variable {X:Cx} {l9 lg:LL} {o8:OL} {ss:cM} {QF:PF} {ra:Addr} {l:cL} {fl:FL}
theorem CH (h:dH X ss ⟨lg,o8⟩ QF) (e:∀ y d,(y,some d)∈lg->(y,some d)∈l9\/(d=.lst l/\(y,some (.ref ra))∈l9)) (nd:(lg.map (·.1)).Nodup):dH X ss ⟨l9,(ra,.list l)::o8⟩ QF:=
 ⟨λH Φ k=>dg λA F s hA Y=>by
  refine FN Y.freeze ?_;rintro F' le Y' hl back
  have Y2:Holds X.B.P X.B.G X.L F' H ⟨lg,o8⟩ s.heap:=⟨Y'.core,Y'.sub,let ⟨m,hm,r⟩:=Y'.loc;⟨m,hm,λy d hy=>(e y d hy).elim (r y d) λ⟨e1,e2⟩=>by
   refine dW (r y _ e2) ?_;rintro v h1 h2
   obtain rfl:=dF h2
   exact⟨_,h1,e1▸hl⟩⟩,nd,Y'.objs,Y'.nodup,Y'.apart,Y'.held,Y'.low⟩
  refine cD ((h.run H Φ k).run A F' s hA Y2) (λv s' z=>?_) λx x z=>z
  obtain⟨F1,a9,x1,p5,q⟩:=z;exact⟨F1,a9,x1,eC.trans (s':=s) (O':=X.L::dj o8) (F':=F') ⟨λx x x e=>e,λb hb=>.inl ((fG hb).elim (λe=>e▸.head _) λhb=>.tail _ (.tail _ hb)),λb o e=>(back b o e).elim .inl λz=>.inr (.inl (z▸.tail _ dP)),le,.refl _,rfl⟩ p5,q⟩⟩
theorem sV (h:dH X ss ⟨lg,o8⟩ QF) (e:∀ y d,(y,some d)∈lg->(y,some d)∈l9\/(d=.dct fl/\(y,some (.ref ra))∈l9)) (nd:(lg.map (·.1)).Nodup):dH X ss ⟨l9,(ra,.dict fl)::o8⟩ QF:=
 ⟨λH Φ k=>dg λA F s hA Y=>by
  refine FN Y.freezeD ?_;rintro F' le Y' hl back
  have Y2:Holds X.B.P X.B.G X.L F' H ⟨lg,o8⟩ s.heap:=⟨Y'.core,Y'.sub,let ⟨m,hm,r⟩:=Y'.loc;⟨m,hm,λy d hy=>(e y d hy).elim (r y d) λ⟨e1,e2⟩=>by
   refine dW (r y _ e2) ?_;rintro v h1 h2
   obtain rfl:=dF h2
   exact⟨_,h1,e1▸hl⟩⟩,nd,Y'.objs,Y'.nodup,Y'.apart,Y'.held,Y'.low⟩
  refine cD ((h.run H Φ k).run A F' s hA Y2) (λv s' z=>?_) λx x z=>z
  obtain⟨F1,a9,x1,p5,q⟩:=z;exact⟨F1,a9,x1,eC.trans (s':=s) (O':=X.L::dj o8) (F':=F') ⟨λx x x e=>e,λb hb=>.inl ((fG hb).elim (λe=>e▸.head _) λhb=>.tail _ (.tail _ hb)),λb o e=>(back b o e).elim .inl λz=>.inr (.inl (z▸.tail _ dP)),le,.refl _,rfl⟩ p5,q⟩⟩
end
end
section
section
variable {B:dc} {L ra pa fa:Addr} {T nm n6 br od:cK} {h0 k:Nat} {cl sc b:Bool} {al pl:cL} {r8:OL}
noncomputable def ii (l:FL) (p:cK×AV):FL:=if (eF (S p.1) l).isSome=true then l else f7 (S p.1) p.2 l
noncomputable def FB:cM:=jZ (fQ gJ) 9 gU
theorem xz {x:Str} {d:AV}:∀ {l:FL},mf x d l (f7 x d l):=by
 intro l
 induction l with
 | nil=>exact .new
 | cons q l ih=>
  obtain⟨y,e⟩:=q;unfold f7
  by_cases h:(y==x)=true
  . rw[cJ h]
    obtain rfl:=cF h
    exact .hit
  . rw[cH h]
    exact .skip (bQ.mpr h) ih
theorem yN {l:FL} {p:cK×AV}:(ii l p).length<=l.length+1:=by
 unfold ii
 split
 . exact Nat.le_succ _
 . exact lH
theorem tX {ps:List (cK×AV)}:∀ {l:FL},(ps.foldl ii l).length<=l.length+ps.length:=by
 induction ps with
 | nil=>exact λ{l}=>cB _
 | cons p ps ih=>
  intro l;have h1:=ih (l:=ii l p)
  have h2:=yN (l:=l) (p:=p)
  rw[List.foldl_cons,bY];omega
noncomputable abbrev Og (T:cK) (h0:Nat) (cl:Bool) (ra fa:Addr) (k:Nat) (nm:cK) (pl:cL) (sc:Bool) (br od:cK) (w3 w6:cS) (fl:FL) (al:cL) (r8:OL):St:=⟨tL T h0 cl ra (some (.int k)) (some (.str nm)) (some (.lst pl)) (some (.bool sc)) (some (.str br)) (some (.str od)) none none w3 none (some (.ref fa)) w6,(fa,.dict fl)::(ra,.list al)::r8⟩
theorem CB (hB:ej B) {ps:List (cK×AV)} (hp:ps.length<=800):
 dH (eA B L) ((FB.drop 1).take 1) (Og T h0 cl ra fa k n6 (ps.map dh) sc br od none none [] al r8) λf σ'=>f=.next/\∃ w3 w6,σ'=Og T h0 cl ra fa k n6 (ps.map dh) sc br od w3 w6 (ps.foldl ii []) al r8:=by
 refine jh (λσ'=>∃ w3 w6,σ'=Og T h0 cl ra fa k n6 (ps.map dh) sc br od w3 w6 (ps.foldl ii []) al r8) (vE (N:=(ps.map dh).length) (i3:=λi=>(ps.map dh).getD i .any) (λi σ=>∃ w3 w6,σ=Og T h0 cl ra fa k n6 (ps.map dh) sc br od w3 w6 ((ps.take i).foldl ii []) al r8)
  (d9 (d:=.lst (ps.map dh)) NX) (λxv=>lq) ⟨none,none,rfl⟩ (λσ h=>by rw[cq,List.take_length]at h;exact⟨rfl,h⟩) ?_) λσ' r=>j5 ⟨rfl,r⟩
 intro i l9 o8 c p hi z9;refine OT z9 ?_;clear z9;rintro w3 w6 e0
 obtain⟨rfl,rfl⟩:=St.mk.inj e0;have b9:i < ps.length:=by simpa using hi
 have e1:(ps.map dh).getD i .any=.lst [.str ps[i].1,ps[i].2]:=by refine(bp)▸(bP)▸(bq b9)▸?_;rfl
 have e2:(ps.take (i+1)).foldl ii []=ii ((ps.take i).foldl ii []) ps[i]:=by rw[List.take_add_one,bq b9,Option.toList_some,List.foldl_append];rfl
 have hz:=tX (ps:=ps.take i) (l:=[])
 rw[List.length_take,List.length_nil]at hz
 refine e1▸e2▸?_
 generalize(ps.take i).foldl ii []=fl at hz |-
 generalize ps[i]=q
 obtain⟨ky,vl⟩:=q;refine⟨⟨tL T h0 cl ra (some (.int k)) (some (.str n6)) (some (.lst (ps.map dh))) (some (.bool sc)) (some (.str br)) (some (.str od)) none none (some (.str ky)) none (some (.ref fa)) (some vl),(c,.is p)::(fa,.dict fl)::(ra,.list al)::r8⟩,Ao (fX (fW (.skip (.skip (.skip (.skip (.skip (.skip (.skip (.skip (.skip (.skip (.skip (.skip .hit)))))))))))))) (fX (fW (.skip (.skip (.skip (.skip (.skip (.skip (.skip (.skip (.skip (.skip (.skip (.skip (.skip (.skip (.skip .hit))))))))))))))))),?_⟩
 unfold ii
 by_cases h:(eF (S ky) fl).isSome=true
 . refine(cJ h)▸?_
   exact eu (eN (na (nE (nw (d9 (d:=.str ky) No) (d9 (d:=.ref fa) Oc) (B7 (l:=fl) iV)) (by refine h▸?_;rfl)) fO) fO) (.inl ⟨rfl,_,_,rfl,_,_,rfl⟩)
 . refine(cH h)▸?_
   exact eu (eN (nF (nE (nw (d9 (d:=.str ky) No) (d9 (d:=.ref fa) Oc) (B7 (l:=fl) iV)) (by refine(bQ.mpr h)▸?_;rfl)) (eN (Ba (d9 (d:=vl) (.tail _ Oc)) (d9 (d:=.ref fa) Oc) (d9 (d:=.str ky) No) (xz) (.tail .head) (by omega)) fO)) fO) (.inl ⟨rfl,_,_,rfl,_,_,rfl⟩)
end
end
section
section
variable {B:dc} {L ra:Addr} {T n6 br od:cK} {h0 k:Nat} {cl sc:Bool} {al pl:cL} {r8:OL} {fl:FL}
noncomputable abbrev PH (T:cK) (h0:Nat) (cl:Bool) (ra:Addr) (k:Nat) (nm:cK) (pl:cL) (sc:Bool) (br od:cK) (fl:FL) (al:cL) (r8:OL):St:=⟨tL T h0 cl ra (some (.int k)) (some (.str nm)) (some (.lst pl)) (some (.bool sc)) (some (.str br)) (some (.str od)) none none none none (some (.dct fl)) none,(ra,.list al)::r8⟩
noncomputable abbrev Rb (T:cK) (h0:Nat) (cl:Bool) (k:Nat) (nm:cK) (pl:cL) (sc:Bool) (br od:cK) (fl:FL) (al:cL) (as:cR) (r8:OL):DS:=⟨tD T h0 cl (some (.av (.int k))) (some (.av (.str nm))) (some (.av (.lst pl))) (some (.av (.bool sc))) (some (.av (.str br))) (some (.av (.str od))) none none none none (some (.av (.dct fl))) none,[(0,.list al as)],r8⟩
noncomputable abbrev QK (nm:cK) (fl:FL) (sc:Bool):AV:=.dct [("type",.int 3),("name",.str nm),("data",.dct fl),("selfClosing",.bool sc),("selfClosingAcknowledged",.bool false)]
theorem OY (hB:ej B) (aC:al.length<=900):fx (eA B L) (FB.drop 2) (PH T h0 cl ra k n6 pl sc br od fl al r8) .next (PH T h0 cl ra k n6 pl sc br od fl (al++[.tup [.int (k:Int),QK n6 fl sc]]) r8):=
 dQ [ra] (Rb T h0 cl k n6 pl sc br od fl al [] r8) [] (dL hB) (qa trivial (iu 0 (dN aC (by decide))))
end
end
section
section
variable {x k:Str} {d:AV} {l l':FL} {ps:List (cK×AV)}
theorem sw:(eF x l).isSome=true↔x∈l.map (·.1):=by
 unfold eF;rw[Option.isSome_map,List.find?_isSome,cw];exact⟨λ⟨p,h1,h2⟩=>⟨p,h1,cF h2⟩,λ⟨p,h1,h2⟩=>⟨p,h1,beq_iff_eq.mpr h2⟩⟩
theorem pR:eF x (f7 k d l)=if (k==x)=true then some d else eF x l:=by
 induction l with
 | nil =>
  by_cases h:(k==x)=true
  . rw[cJ h];obtain rfl:=cF h;exact i8 k d []
  . rw[cH h];exact fM d [] h
 | cons p l ih=>
  obtain⟨y,e⟩:=p;unfold f7
  by_cases hy:(y==k)=true
  . rw[cJ hy]
    obtain rfl:=cF hy
    by_cases h:(y==x)=true
    . rw[cJ h];obtain rfl:=cF h;exact i8 y d l
    . rw[cH h,fM d l h,fM e l h]
  . rw[cH hy]
    by_cases h:(y==x)=true
    . obtain rfl:=cF h
      rw[cH λq=>hy (beq_iff_eq.mpr (cF q).symm),i8,i8]
    . rw[fM e _ h,ih,fM e l h]
theorem vh (h:(eF x l).isSome=true):(f7 x d l).map (·.1)=l.map (·.1):=by
 induction l with
 | nil=>exact nomatch h
 | cons p l ih=>
  obtain⟨y,e⟩:=p;unfold f7
  by_cases hy:(y==x)=true
  . rw[cJ hy];obtain rfl:=cF hy;rfl
  . rw[cH hy]
    rw[fM e l hy]at h
    rw[cv,cv,ih h]
theorem rD (h:¬ (eF x l).isSome=true):f7 x d l=l++[(x,d)]:=by
 induction l with
 | nil=>rfl
 | cons p l ih=>
  obtain⟨y,e⟩:=p;unfold f7
  by_cases hy:(y==x)=true
  . obtain rfl:=cF hy;exact cI (by rw[i8];rfl) h
  . rw[cH hy]
    rw[fM e l hy]at h
    rw[ih h,c7]
theorem jU (e:l.map (·.1)=l'.map (·.1)):((eF x l).isSome=true↔(eF x l').isSome=true):=by rw[sw,sw,e]
theorem yl (p:cK×AV) (e:l.map (·.1)=l'.map (·.1)):(gy l p).map (·.1)=(ii l' p).map (·.1):=by
 unfold ii
 by_cases h:(eF (S p.1) l').isSome=true
 . rw[cJ h,vh ((jU e).mpr h),e]
 . rw[cH h,rD h]
   show(f7 (S p.1) p.2 l).map (·.1)= _
   rw[rD λq=>h ((jU e).mp q),ci,ci,e]
theorem zy:∀ {l l':FL},l.map (·.1)=l'.map (·.1)->(ps.foldl gy l).map (·.1)=(ps.foldl ii l').map (·.1):=by
 induction ps with
 | nil=>exact λe=>e
 | cons p r ih=>exact λe=>ih (yl p e)
theorem xh:∀ {l:FL},(∀ p∈ps,(eF (S p.1) l).isSome=true)->(ps.foldl gy l).map (·.1)=l.map (·.1):=by
 induction ps with
 | nil=>exact λy=>rfl
 | cons p r ih=>
  intro l h;have e:=vh (d:=p.2) (h p dP)
  exact(ih λq hq=>(jU e).mpr (h q (.tail _ hq))).trans e
theorem rL:∀ {l:FL},eF x (ps.foldl ii l)=(eF x l).or ((ps.find? λp=>S p.1==x).map (·.2)):=by
 induction ps with
 | nil =>exact λ{l}=>(Option.or_none (o:=eF x l)).symm
 | cons p r ih=>
  intro l;rw[List.foldl_cons,ih,List.find?_cons];unfold ii
  by_cases q:(S p.1==x)=true
  . obtain rfl:=cF q
    rw[q]
    by_cases h:(eF (S p.1) l).isSome=true
    . rw[cJ h]
      obtain⟨v,hv⟩:=Option.isSome_iff_exists.mp h;rw[hv];rfl
    . rw[cH h,pR,cJ q,Option.not_isSome_iff_eq_none.mp h];rfl
  . rw[bQ.mpr q]
    by_cases h:(eF (S p.1) l).isSome=true
    . rw[cJ h]
    . rw[cH h,pR,cH q]
theorem Ds:eF x (ps.reverse.foldl gy l)=((ps.find? λp=>S p.1==x).map (·.2)).or (eF x l):=by
 induction ps with
 | nil=>rfl
 | cons p r ih=>
  rw[List.reverse_cons,List.foldl_append,List.foldl_cons,List.foldl_nil,pR,ih,List.find?_cons]
  by_cases q:(S p.1==x)=true
  . rw[cJ q,q];rfl
  . rw[cH q,bQ.mpr q]
theorem J6 (e:l.map (·.1)=l'.map (·.1)) (nd:(l.map (·.1)).Nodup) (h:∀ x,eF x l=eF x l'):l=l':=by
 have hl:l.length=l'.length:=by have:=cG List.length e;rwa [cq,cq]at this
 refine List.ext_getElem hl λi h1 h2=>?_
 have k:l[i].1=l'[i].1:=by
  have:=cG (λz=>z[i]?) e
  simpa [h1,h2]using this
 have a:=lD nd (bT h1)
 have b:=lD (e▸nd) (bT h2)
 rw[h,k,b]at a
 exact Prod.ext k (Option.some.inj a).symm
theorem K5:∀ {l:FL},(l.map (·.1)).Nodup->((ps.foldl ii l).map (·.1)).Nodup:=by
 induction ps with
 | nil=>exact λh=>h
 | cons p r ih=>
  intro l h;refine ih ?_
  unfold ii
  by_cases q:(eF (S p.1) l).isSome=true
  . rw[cJ q];exact h
  . rw[cH q];exact kq h
theorem Es:∀ {l:FL},l.length+ps.length<=(ps.foldl gy l).length->ps.foldl gy l=ps.foldl ii l:=by
 induction ps with
 | nil=>exact λy=>rfl
 | cons p r ih=>
  intro l h;rw[List.foldl_cons]at h |-
  have h2:=qR r (gy l p)
  have h3:=lH (x:=S p.1) (d:=p.2) (l:=l)
  rw[bY]at h
  have q:¬ (eF (S p.1) l).isSome=true:=λq=>by
   have:=cG List.length (vh (d:=p.2) q)
   rw[cq,cq]at this
   have h4:(gy l p).length=l.length:=this
   omega
  have e:ii l p=gy l p:=cH q
  have h5:(gy l p).length=l.length+1:=by
   show(f7 (S p.1) p.2 l).length= _
   rw[rD q,bM];rfl
  rw[List.foldl_cons,e];exact ih (by omega)
theorem lB:jA ps=ps.foldl ii []:=by
 unfold jA
 by_cases h:(ps.foldl gy []).length < ps.length
 . rw[cJ h]
   have e0:=zy (ps:=ps) (l:=[]) (l':=[]) rfl
   have hs:∀ p∈ps,(eF (S p.1) (ps.foldl gy [])).isSome=true:=λp hp=>(jU e0).mpr (by
    rw[rL];show Option.isSome (Option.map _ _)=true
    rw[Option.isSome_map,List.find?_isSome];exact⟨p,hp,bZ _⟩)
   have e1:=xh (ps:=ps.reverse) (l:=ps.foldl gy []) λp hp=>hs p (List.mem_reverse.mp hp)
   refine J6 (e1.trans e0) (e1.trans e0▸K5 List.nodup_nil) λx=>?_
   rw[Ds,rL];show _ =Option.map _ _
   induction hf:(ps.find? λp=>S p.1==x).map (·.2)using Option.casesOn with
   | some v=>rfl
   | none=>
    have:eF x (ps.foldl ii [])=none:=by rw[rL];exact hf
    show eF x _ =none
    rw[<-Option.not_isSome_iff_eq_none,jU e0,this];exact bN
 . rw[cH h]
   exact Es (by rw[List.length_nil];omega)
end
end
section
section
variable {B:dc} {ra pa:Addr} {T:cK} {h0:Nat} {cl b:Bool} {az:cW} {r8:OL}
theorem Hd {p:Addr} {l:cL} {a n s br od:cS}:∀ y d,(y,some d)∈tL T h0 cl ra a n (some (.lst l)) s br od none none none none none none->(y,some d)∈tL T h0 cl ra a n (some (.ref p)) s br od none none none none none none\/(d=.lst l/\(y,some (.ref p))∈tL T h0 cl ra a n (some (.ref p)) s br od none none none none none none):=qj.le (by repeat' first | exact .nil | refine .hit ?_ | refine .keep ?_ | refine .drop ?_)
theorem CT {p:Addr} {l:FL} {a n q s br od w3 w6:cS}:∀ y d,(y,some d)∈tL T h0 cl ra a n q s br od none none none none (some (.dct l)) none->(y,some d)∈tL T h0 cl ra a n q s br od none none w3 none (some (.ref p)) w6\/(d=.dct l/\(y,some (.ref p))∈tL T h0 cl ra a n q s br od none none w3 none (some (.ref p)) w6):=qj.le (by repeat' first | exact .nil | refine .hit ?_ | refine .keep ?_ | refine .drop ?_)
section
variable {nm br od:cK} {k:Nat} {sc:Bool} {al:cL} {pe:List (cK×AV)} {L:Addr} {Q:PF}
theorem Eu (hB:ej B) (nB:b= !cl) (aC:al.length<=900) (aX:(pe.map dh).length<=800) (hQ:∀ σ:St,σ.objs=(ra,.list (al++(eK nm pe sc b).map λd=>.tup [.int ((k+1:Nat):Int),d]))::r8->Q (.ret (.int ((k+1:Nat):Int))) σ):
 dH (eA B L) ((fQ gJ).drop 9) (vW T h0 cl ra (k+1) (dM nm) (pe.map dh) sc br od al r8) Q:=by
 rcases cl with _ | _
 . obtain rfl:b=true:=nB
   refine jh (λσ=>σ=PH T h0 false ra (k+1) (dM nm) (pe.map dh) sc br od (jA pe) (al++[.tup [.int ((k+1:Nat):Int),QK (dM nm) (jA pe) sc]]) r8) (oA (c:=false) (a6:=vW T h0 false ra (k+1) (dM nm) (pe.map dh) sc br od al r8) (dR [.br false] (dL hB) (qa trivial ff)) ⟨nofun,λy=>?_⟩) ?_
   . refine zG λfa=>⟨_,.skip (.skip (.skip (.skip (.skip (.skip (.skip (.skip (.skip (.skip (.skip (.skip (.skip (.skip .hit))))))))))))),?_⟩
     refine ju 1 (dH.wk (CB (L:=L) hB (by rw[cq]at aX;exact aX)) λf σ' z=>.inl z) ?_
     rintro σ ⟨w3,w6,rfl⟩;rw[<-lB];exact sV (lg:=tL T h0 false ra (some (.int ((k+1:Nat):Int))) (some (.str (dM nm))) (some (.lst (pe.map dh))) (some (.bool sc)) (some (.str br)) (some (.str od)) none none none none (some (.dct (jA pe))) none) (eu (OY (L:=L) hB aC) ⟨rfl,rfl⟩) CT tQ
   . rintro σ rfl
     exact eu (gT (gS (d9 Bz))) (hQ _ rfl)
 . obtain rfl:b=false:=nB
   have te:∀ pl:cL,Te (eA B L) (.Name "closing" ⟨1279,7,1279,14⟩) (vW T h0 true ra (k+1) (dM nm) pl sc br od al r8) true (vW T h0 true ra (k+1) (dM nm) pl sc br od al r8):=λpl=>dR [.br true] (dL hB) (qa trivial tt)
   have hpz:(pe.map dh).length<=16777216:=dN aX (by decide)
   rcases pe with _ | ⟨p,pe⟩<;>rcases sc with _ | _
   . exact eH (nF (te _) (H2 (L:=L) hB aC)) (eu (gT (gS (d9 Bz))) (hQ _ rfl))
   . exact eH (nF (te _) (K6 (L:=L) hB aC)) (eu (gT (gS (d9 Bz))) (hQ _ rfl))
   . exact eH (nF (te _) (I6 (L:=L) hB aC hpz)) (eu (gT (gS (d9 Bz))) (hQ _ rfl))
   . exact eH (nF (te _) (Iz (L:=L) hB aC hpz)) (eu (gT (gS (d9 Bz))) (hQ _ rfl))
end
inductive wm (T:cK) (ra:Addr) (h0:Nat) (r8:OL) (d:AV) (o:OL):Prop
 | mk (k:Nat) (aH:cW) (z1:d=.int k) (z2:h0 < k) (z3:k<=T.length) (z4:o=(ra,.list (aH.map (dJ T)))::r8) (z5:dU .data .none T aH .data .none (T.drop k))
def F8 (T:cK) (ra:Addr) (h0:Nat) (r8:OL):PF:=λf σ'=>∃ d,f=.ret d/\∃ q' g,σ'.objs.Perm (q'++g)/\wm T ra h0 r8 d q'
theorem Da {f:Fl} {σ':St} (hh:h0 < T.length) (z:∃ d,f=.ret d/\JE T ra pa r8 d σ'):F8 T ra h0 r8 f σ':=by
 obtain⟨d,e,e1,aH,pl',e2,y⟩:=z;refine⟨d,e,(ra,.list (aH.map (dJ T)))::r8,[(pa,.list pl')],?_,T.length,aH,e1,hh,cB _,rfl,by rw[c9];exact y⟩
 rw[e2];exact(List.perm_append_singleton _ _).symm.cons _
section
variable {nm:cK} {pa L:Addr}
theorem GP (hB:ej B) (hT:fU T) (nB:b= !cl) (hh:h0 < T.length) {σ:St} (h:Nz T h0 cl ra pa (dM nm) b nm r8 σ):dH (eA B L) ((fQ gJ).drop 7) σ (F8 T ra h0 r8):=by
 obtain⟨k,ps,sc,br,oe,az,hk,hk2,tq,hk0,rfl⟩:=h;have aC:(az.map (dJ T)).length<=900:=by rw[cq];exact dN (tq.small hT.len) (by decide)
 have aX:((pA ps).map dh).length<=800:=by rw[cq,cq];exact dN (tq.psl hT.len) (by decide)
 rcases hk with rfl | ⟨hk,e8⟩
 . refine ju (R:=λy=>False) 1 (eu (NA (L:=L) hB hT (dN aC (by decide))) (.inr ⟨_,rfl,_,rfl,(ra,.list ((az++at' (T.drop T.length) [eE br]).map (dJ T)))::r8,[(pa,.list ((pA ps).map dh))],?_,T.length,_,rfl,hh,cB _,rfl,?_⟩)) λy z=>z.elim
   . rw[jK (cB _)]
     exact(List.perm_append_singleton _ _).symm.cons _
   . rw[c9];exact tq.fe c9
 . have yf:=tq.fg _ ((eO hk).trans (by rw[e8]))
   refine ko (o3:=(pa,.list ((pA ps).map dh))::(ra,.list (az.map (dJ T)))::r8) (r8:=[]) (by rw[cm];exact List.Perm.swap _ _ _) ?_
   refine CH (lg:=tL T h0 cl ra (some (.int k)) (some (.str (dM nm))) (some (.lst ((pA ps).map dh))) (some (.bool sc)) (some (.str (sg br))) (some (.str (sg oe))) none none none none none none) ?_ Hd tQ
   refine fC 2 (HE (L:=L) hB hT hk) (Eu hB nB aC aX λσ e=>⟨_,rfl,_,[],by rw[cm],k+1,_,rfl,Nat.lt_succ_of_lt hk0,hk,?_,yf⟩)
   rw[e,ci,jn hk]
end
theorem FI (hB:ej B) (hT:fU T) (hh:h0 < T.length) (hL:lG T[h0]=true) (nB:b= !cl) (y:dU .data .none T az .tn (tg b [T[h0]] [] false) (T.drop (h0+1))):
 de B 2 814 [.str T,.int h0,.bool cl,.ref ra] ((ra,.list (az.map (dJ T)))::r8) (wm T ra h0 r8):=by
 have hd:=eO hh
 have hle:=cy hh
 have hu:mE T[h0]=true:=by
  have:∀ c∈gM,lG c=true->mE c=true:=by decide
  exact this _ (hT.sig _ (bT hh)) hL
 have htw:(T.drop h0).takeWhile mE=[T[h0]]++(T.drop (h0+1)).takeWhile mE:=by rw[hd,bF,cJ hu];rfl
 have hde:T.drop (dn mE T h0)=(T.drop (h0+1)).dropWhile mE:=by rw[f8,hd,bH,cJ hu]
 have pt:=PZ (ps:=[]) (b:=b) (sc:=false) (nm:=[T[h0]]) (w:=(T.drop (h0+1)).takeWhile mE) (r:=T.drop (dn mE T h0)) (λz hz=>oY hz) (λz hz=>hT.n13 (k:=h0+1) z ((bt mE).subset hz))
 rw[hde,List.takeWhile_append_dropWhile,<-hde,<-htw]at pt
 have bh:h0 < dn mE T h0:=by unfold dn;rw[htw];exact Nat.lt_add_of_pos_right (Nat.succ_pos _)
 have hsl:=lZ (u:=mE) hle
 have hnl:((T.drop h0).takeWhile mE).length<=1048576:=dN Ie (by rw[c8];exact dN (Nat.sub_le _ _) (dN hT.len (by decide)))
 have hlow:ou ((T.drop h0).takeWhile mE)=dM ((T.drop h0).takeWhile mE):=hT.low (k:=h0) λc hc=>(bt mE).subset hc
 have hsm:=λR=>wz (B:=B) (o8:=R) (w:=(T.drop h0).takeWhile mE) hB hnl (by rw[me,cq];exact hnl)
 rw[hlow]at hsm
 refine de.drop (pU (b5:=fQ gJ) (sh:=jo gJ) ["text","head","closing","rows"] ["at","name","pairs","shut","broken","odd","stop","spot","key","opener","first","value"] (by rw[hB.K];rfl) (by rw[hB.K];kernel_rfl) (.four λx x x x=>rfl) (eb:=rfl) (es:=rfl) λL=>?_)
 refine fC 2 (KO (L:=L) (n6:=dM ((T.drop h0).takeWhile mE)) hB hT hle (by rw[hsl];exact hsm)) ?_
 refine iO dK (by decide) λpa=>⟨_,.skip (.skip (.skip (.skip (.skip (.skip .hit))))),?_⟩
 refine ko (o3:=(ra,.list (az.map (dJ T)))::(pa,.list [])::r8) (r8:=[]) (by rw[cm];exact List.Perm.swap _ _ _) ?_
 refine fC 3 (Mw (L:=L) hB) ?_
 exact ju 1 (dH.wk (Ir (L:=L) (b:=b) (nm:=(T.drop h0).takeWhile mE) hB hT (m:=T.length - dn mE T h0) ⟨dn mE T h0,[],false,_,_,az,cB _,fy mE T hle,Jq (y.thn pt) λz r' e=>jj (hde.symm.trans e),bh,(λq=>nomatch q),rfl⟩) λf σ' z=>z.imp id λ⟨d,e,q⟩=>⟨d,e,Da hh ⟨d,e,q⟩⟩) λσ h=>GP hB hT nB hh h
end
end
section
section
variable {T l:cK} {z k:Nat} {u v:Nat->Bool}
theorem FH:∀ {l:cK},(∀ c∈l,u c=v c)->l.takeWhile u=l.takeWhile v:=by
 intro l
 induction l with
 | nil=>exact λy=>rfl
 | cons x l ih=>intro h;rw[bF,bF,h x dP,ih λc hc=>h c (.tail _ hc)]
theorem Ft:∀ {l:cK},(∀ c∈l,u c=v c)->l.dropWhile u=l.dropWhile v:=by
 intro l
 induction l with
 | nil=>exact λy=>rfl
 | cons x l ih=>intro h;rw[bH,bH,h x dP,ih λc hc=>h c (.tail _ hc)]
noncomputable abbrev sT (z:Nat):Bool:=decide (z∈[60])==false
theorem NO (hT:fU T) (hk:k < T.length) (hb:decide (T[k]∈[9,10,12,32])=true):dU .data .none (T.drop k) (at' (T.drop (dn iS T k)) [.dct [("type",.int 2),("data",.str (sl T (some (k:Int)) (some ((dn iS T k:Nat):Int))))]]) .data .none (T.drop (dn iS T k)):=by
 have hd:=eO hk
 have hu:∀ c∈T,qz c=iS c:=λc hc=>by
  have:∀ c∈gM,qz c=iS c:=by decide
  exact this c (hT.sig c hc)
 have hu2:∀ c∈T.drop (k+1),qz c=iS c:=λc hc=>hu c ((List.drop_sublist _ T).subset hc)
 have y:=KP (l:=T.drop (k+1)) ((j6 (hT.n13 (k:=0) _ (bT hk))).mpr hb)
 rw[FH hu2,Ft hu2,<-hd]at y
 refine(lZ (cy hk))▸f8▸hd▸bH▸bF▸(cJ (show iS T[k]=true from hb))▸(cJ (show iS T[k]=true from hb))▸hd▸?_
 exact y
theorem KS (hT:fU T) (hk:k < T.length) (hb:¬ decide (T[k]∈[9,10,12,32])=true) (h60:T[k]≠60):dU .data .none (T.drop k) (at' (T.drop (dn sT T k)) [.dct [("type",.int 1),("data",.str (sl T (some (k:Int)) (some ((dn sT T k:Nat):Int))))]]) .data .none (T.drop (dn sT T k)):=by
 have hd:=eO hk
 have hu:∀ c∈T,GQ c=sT c:=λc hc=>by
  have:∀ c∈gM,GQ c=sT c:=by decide
  exact this c (hT.sig c hc)
 have hu2:∀ c∈T.drop (k+1),GQ c=sT c:=λc hc=>hu c ((List.drop_sublist _ T).subset hc)
 have y:=Ly (l:=T.drop (k+1)) h60 λe=>hb ((j6 (hT.n13 (k:=0) _ (bT hk))).mp e)
 have hul:sT T[k]=true:=by
  have:∀ c:Nat,c≠60->sT c=true:=λc h=>by unfold sT;rw[cc λq=>h (bL.mp q)];rfl
  exact this _ h60
 rw[FH hu2,Ft hu2,<-hd]at y
 refine(lZ (cy hk))▸f8▸hd▸bH▸bF▸(cJ hul)▸(cJ hul)▸hd▸?_
 exact y
end
end
section
noncomputable abbrev AG (T:cK) (ra:Addr) (k:Nat) (w2 w3 w4 w5 w6:cS):LL:=[("text",some (.str T)),("rows",some (.ref ra)),("place",some (.int k)),("second",w2),("third",w3),("end",w4),("fault",w5),("stop",w6)]
noncomputable abbrev QV (T:cK) (k:Nat) (w2 w3 w4 w5 w6:Option DV) (al:cL) (as:cR) (r8:OL):DS:=⟨[("text",some (.av (.str T))),("rows",some (.slot 0)),("place",some (.av (.int k))),("second",w2),("third",w3),("end",w4),("fault",w5),("stop",w6)],[(0,.list al as)],r8⟩
noncomputable abbrev rP (B:dc) (L:Addr):Cx:=⟨B,2,L,envOf "_law_read" (jo pY) L 821 (.ref 820)⟩
noncomputable def DZ:cM:=jZ (fQ pY) 2 EY
noncomputable def QU:cM:=jZ DZ 2 gU
noncomputable def R3:cM:=jZ QU 0 gU
noncomputable def QM:cM:=jZ R3 0 gU
noncomputable def QD:cM:=jZ QM 0 gU
noncomputable def R0:cM:=jZ QD 0 gU
noncomputable def Qi:cM:=jZ R0 0 gU
noncomputable def QI:cM:=jZ Qi 0 gU
noncomputable def Rc:cM:=jZ QI 0 gU
section
variable {B:dc} {L ra:Addr} {T x2 x3:cK} {k:Nat} {az:cW} {al:cL} {r8:OL} {c:Bool}
noncomputable abbrev qU (T:cK) (ra:Addr) (k:Nat) (x2 x3:cK) (w4 w5 w6:cS) (al:cL) (r8:OL):St:=⟨AG T ra k (some (.str x2)) (some (.str x3)) w4 w5 w6,(ra,.list al)::r8⟩
noncomputable abbrev JD (T:cK) (k:Nat) (x2 x3:cK) (w4 w5 w6:Option DV) (al:cL) (as:cR) (r8:OL):DS:=QV T k (some (.av (.str x2))) (some (.av (.str x3))) w4 w5 w6 al as r8
theorem Ak {w2 w3 w4 w5 w6:cS}:((AG T ra k w2 w3 w4 w5 w6).map (·.1)).Nodup:=eT (by kernel_rfl)
theorem HX {w2 w3 w4 w5 w6:cS}:∀ x d,(x,some d)∈AG T ra k none none none none none->(x,some d)∈AG T ra k w2 w3 w4 w5 w6:=yD.le (by repeat' first | exact .nil | refine .keep ?_ | refine .drop ?_)
theorem PG (hB:ej B) (hT:fU T):fx (rP B L) (DZ.take 2) ⟨AG T ra k none none none none none,(ra,.list al)::r8⟩ .next (qU T ra k (sl T (some ((k:Int)+1)) (some ((k:Int)+2))) (sl T (some ((k:Int)+2)) (some ((k:Int)+3))) none none none al r8):=
 dQ [ra] (QV T k none none none none none al [] r8) [] (dL hB) (qa (qa trivial hT.plain.size) hT.plain.size)
theorem PS (hB:ej B) (hT:fU T) (hk:k<=T.length) (aC:al.length<=1000):fx (rP B L) (jZ DZ 2 jc) (qU T ra k x2 x3 none none none al r8) .next (qU T ra k x2 x3 (some (.int (dn iS T k:Nat))) none none (al++[.tup [.int (dn iS T k:Nat),.dct [("type",.int 2),("data",.str (sl T (some (k:Int)) (some ((dn iS T k:Nat):Int))))]]]) r8):=
 dQ [ra] (JD T k x2 x3 none none none al [] r8) [.cs (.av (.int (dn iS T k:Nat))) [] 1] (dL hB) (qa (qa (qa trivial (λR=>rm (cs:=[9,10,12,32]) (o8:=R) hB hT.plain hk)) hT.plain.size) (iu 0 aC))
theorem OG (hB:ej B) (hT:fU T) (hk:k<=T.length) (aC:al.length<=1000):fx (rP B L) (jZ QU 0 jc) (qU T ra k x2 x3 none none none al r8) .next (qU T ra k x2 x3 (some (.int (dn sT T k:Nat))) none none (al++[.tup [.int (dn sT T k:Nat),.dct [("type",.int 1),("data",.str (sl T (some (k:Int)) (some ((dn sT T k:Nat):Int))))]]]) r8):=
 dQ [ra] (JD T k x2 x3 none none none al [] r8) [.cs (.av (.int (dn sT T k:Nat))) [] 1] (dL hB) (qa (qa (qa trivial (λR=>kG (cs:=[60]) (o8:=R) hB hT.plain hk)) hT.plain.size) (iu 0 aC))
theorem Pr (hB:ej B) (aC:al.length<=1000):fx (rP B L) (jZ QM 0 jc) (qU T ra k x2 x3 none none none al r8) .next (qU T ra k x2 x3 (some (.int (k+2:Nat))) none none (al++[.tup [.int (k+2:Nat),eE "expected-tag-name-but-got-right-bracket"],.tup [.int (k+2:Nat),.dct [("type",.int 1),("data",.str [60,62])]]]) r8):=
 dQ [ra] (JD T k x2 x3 none none none al [] r8) [.cs (.av (eE "expected-tag-name-but-got-right-bracket")) [] 1] (dL hB) (qa (qa (qa trivial (eZ (x:=sg "expected-tag-name-but-got-right-bracket") hB)) (iu 0 aC)) (iu 1 aC))
theorem Nw (hB:ej B) (aC:al.length<=1000):fx (rP B L) (jZ QD 0 jc) (qU T ra k x2 x3 none none none al r8) .next (qU T ra k x2 x3 (some (.int (k+1:Nat))) none none (al++[.tup [.int (k+1:Nat),eE "expected-tag-name"],.tup [.int (k+1:Nat),.dct [("type",.int 1),("data",.str [60])]]]) r8):=
 dQ [ra] (JD T k x2 x3 none none none al [] r8) [.cs (.av (eE "expected-tag-name")) [] 1] (dL hB) (qa (qa (qa trivial (eZ (x:=sg "expected-tag-name") hB)) (iu 0 aC)) (iu 1 aC))
theorem Oz (hB:ej B) (aC:al.length<=1000):fx (rP B L) (jZ Qi 0 jc) (qU T ra k x2 x3 none none none al r8) .next (qU T ra k x2 x3 (some (.int (k+2:Nat))) none none (al++[.tup [.int (k+2:Nat),eE "expected-closing-tag-but-got-eof"],.tup [.int (k+2:Nat),.dct [("type",.int 1),("data",.str [60,47])]]]) r8):=
 dQ [ra] (JD T k x2 x3 none none none al [] r8) [.cs (.av (eE "expected-closing-tag-but-got-eof")) [] 1] (dL hB) (qa (qa (qa trivial (eZ (x:=sg "expected-closing-tag-but-got-eof") hB)) (iu 0 aC)) (iu 1 aC))
theorem P3 (hB:ej B) (aC:al.length<=1000):fx (rP B L) (jZ QI 0 jc) (qU T ra k x2 x3 none none none al r8) .next (qU T ra k x2 x3 (some (.int (k+3:Nat))) none none (al++[.tup [.int (k+3:Nat),eE "expected-closing-tag-but-got-right-bracket"]]) r8):=
 dQ [ra] (JD T k x2 x3 none none none al [] r8) [.cs (.av (eE "expected-closing-tag-but-got-right-bracket")) [] 1] (dL hB) (qa (qa trivial (eZ (x:=sg "expected-closing-tag-but-got-right-bracket") hB)) (iu 0 aC))
theorem Aa (hB:ej B) {x:cK} {o8:OL}:de B 1 809 [.str x] o8 λd o=>∃ a,d=.ref a/\o=(a,.dict [("type",.int 7),("data",.str x)])::o8:=by
 refine pU ["name"] [] (by rw[hB.K];rfl) (by rw[hB.K];kernel_rfl) (.one λy=>rfl) λL=>?_
 exact uL (rg (jz (oF (v:=.ref 48) (by refine hB.K▸?_;kernel_rfl) (wT hB)) (ie (l:=sg "ParseError") (mq _)) (qD (d:=.int 7) (by kernel_rfl))) (rg (d9 dP) As)) (by kernel_rfl) λa=>⟨_,rfl,a,rfl,rfl⟩
end
end
section
section
variable {B:dc} {L ra:Addr} {T x2 x3:cK} {k:Nat} {az:cW} {al:cL} {r8:OL} {c:Bool}
inductive O4 (T:cK) (ra:Addr) (k:Nat) (x2 x3:cK) (r8:OL) (σ:St):Prop
 | mk (e:Nat) (aH:cW) (w5 w6:cS) (z1:k < e) (z2:e<=T.length) (z3:dU .data .none T aH .data .none (T.drop e)) (z5:σ=qU T ra k x2 x3 (some (.int e)) w5 w6 (aH.map (dJ T)) r8)
theorem pC {p:Nat} (h:p<=T.length) {ks:cL}:(az++at' (T.drop p) ks).map (dJ T)=az.map (dJ T)++ks.map λd=>.tup [.int (p:Nat),d]:=by rw[ci,jn h]
theorem lA {e:Nat} {ks:cL} {w5 w6:cS} (h1:k < e) (h2:e<=T.length) (y:dU .data .none T (az++at' (T.drop e) ks) .data .none (T.drop e)):O4 T ra k x2 x3 r8 (qU T ra k x2 x3 (some (.int e)) w5 w6 (az.map (dJ T)++ks.map λd=>.tup [.int (e:Nat),d]) r8):=
 ⟨e,_,w5,w6,h1,h2,y,by rw[pC h2]⟩
theorem BK {p:Addr} {l:FL} {w2 w3 w4 w6:cS}:∀ y d,(y,some d)∈AG T ra k w2 w3 w4 (some (.dct l)) w6->(y,some d)∈AG T ra k w2 w3 w4 (some (.ref p)) w6\/(d=.dct l/\(y,some (.ref p))∈AG T ra k w2 w3 w4 (some (.ref p)) w6):=qj.le (by repeat' first | exact .nil | refine .hit ?_ | refine .keep ?_ | refine .drop ?_)
theorem Cg {p:Nat} {u:Nat->Bool} (hp:p<=T.length):T.drop (min (dn u T p+1) T.length)=((T.drop p).dropWhile u).tail:=by
 have hle:=fy u T hp
 refine f8▸List.tail_drop▸?_
 by_cases h:dn u T p+1<=T.length
 . rw[Nat.min_eq_left h]
 . rw[Nat.min_eq_right (by omega),c9,List.drop_eq_nil_of_le (by omega)]
theorem Pi (hB:ej B) (hT:fU T) (hk:k+2<=T.length) (aC:al.length<=1000) {z:Nat}:dH (rP B L) Rc (qU T ra k x2 [z] none none none al r8) λf σ'=>f=.next/\
 σ'=qU T ra k x2 [z] (some (.int (min (dn qH T (k+2)+1) T.length:Nat))) (some (yc z)) (some (.int (dn qH T (k+2):Nat))) (al++[.tup [.int (k+2:Nat),yc z],.tup [.int (min (dn qH T (k+2)+1) T.length:Nat),.dct [("type",.int 6),("data",.str (sl T (some ((k+2:Nat):Int)) (some ((dn qH T (k+2):Nat):Int))))]]]) r8:=by
 refine oy (gj (v:=.ref 809) (by rw[hB.K];kernel_rfl)) (gZ (by rw[hB.K];kernel_rfl)) (dy (ie (mq _)) dK) (Aa hB) (eP rfl) ?_
 intro y y z9;refine dW z9 ?_;clear z9;rintro a rfl rfl
 refine⟨_,.skip (.skip (.skip (.skip (.skip (.skip .hit))))),?_⟩
 refine eH (Ba (l':=[("type",.int 7),("data",.str (sg "expected-closing-tag-but-got-char")),("datavars",.dct [("data",.str [z])])]) (J4 (rg (d9 Bz) As) (by kernel_rfl)) (d9 NX) (ie (mq _)) (by rw[<-mq];exact .skip (by kernel_rfl) (.skip (by kernel_rfl) .new)) nk.head (by decide)) ?_
 refine sV (lg:=AG T ra k (some (.str x2)) (some (.str [z])) none (some (yc z)) none) ?_ BK Ak
 have hn:((min (dn qH T (k+2)+1) T.length:Nat):Int)=min (((dn qH T (k+2):Nat):Int)+1) (T.length:Int):=by omega
 rw[hn];exact eu (dQ [ra] (JD T k x2 [z] none (some (.av (yc z))) none al [] r8) [.cs (.av (.int (dn qH T (k+2):Nat))) [] 1] (dL hB) (qa (qa (qa (qa (qa trivial (iu 0 aC)) (λR=>kG (k:=k+2) (cs:=[62]) (o8:=R) hB hT.plain hk)) hT.plain.size) hT.plain.size) (iu 1 aC))) ⟨rfl,rfl⟩
theorem AT (hB : ej B) (hT:fU T) (hk:k < T.length) (y:dU .data .none T az .data .none (T.drop k)) (h2:x2=T[k+1]?.toList) (h3:x3=T[k+2]?.toList):
 dH (rP B L) ((DZ.drop 2).take 1) (qU T ra k x2 x3 none none none (az.map (dJ T)) r8) λf σ'=>f=.next/\O4 T ra k x2 x3 r8 σ':=by
 have hTl := hT.len
 have hPl := hT.plain
 have hl := f9 hk
 have hd := eO hk
 have hz := hPl.size
 have hk1 : k + 1 <= T.length:=hk
 have aC : (az.map (dJ T)).length<=1000:=by rw[cq];exact dN (y.small hT.len) (by decide)
 by_cases hb : decide (T[k]∈[9,10,12,32])=true
 . have fin := PS (L:=L) (ra:=ra) (x2:=x2) (x3:=x3) (r8:=r8) hB hT (cy hk) aC
   have p := y.trans (NO hT hk hb)
   have bh : k < dn iS T k:=by
    unfold dn;refine hd ▸ bF ▸(cJ (show iS T[k]=true from hb))▸bY▸?_;simp+arith
   have hle := fy iS T (cy hk)
   generalize T[k] =z at hl hb
   exact thn (dR [.ch z,.br true] (dL hB) (qa (qa (qa trivial hl) hz) hb)) (eu fin ⟨rfl,lA (ks:=[_]) bh hle p⟩)
 . have hbf : decide (T[k]∈[9,10,12,32])=false:=bQ.mpr hb
   by_cases h60 : T[k]=60
   . rw[h60]at hl hd
     rw[hd]at y
     have y1 := y.thn KU
     refine uT (dR [.ch 60,.br false] (dL hB) (qa (qa (qa trivial hl) hz) ff)) ?_
     refine uT (dR [.ch 60,.br false] (dL hB) (qa (qa (qa trivial hl) hz) ff)) ?_
     have hlet := td hB hPl hk1
     by_cases hL : kO T (k+1)=true
     . rw[hL]at hlet
       refine thn (dR [.cs (.av (.bool true)) [] 1,.br true] (dL hB) (qa (qa trivial hlet) tt)) ?_
       have aG : k +1 < T.length:=Nat.lt_of_not_le λq=>by unfold kO at hL;rw[List.getElem?_eq_none q]at hL;exact nomatch hL
       have hL' : lG T[k+1]=true:=by unfold kO at hL;rw[bq aG]at hL;exact hL
       rw[eO aG]at y1
       refine oy (gj (v:=.ref 814) (by refine hB.K▸?_;kernel_rfl)) (gZ (by refine hB.K▸?_;kernel_rfl)) (dy (d9 dP) (dy (lY (d9 qf) iP tP) (dy oP (dy (d9 iV) dK)))) (FI (b:=true) (cl:=false) (h0:=k+1) (az:=az) hB hT aG hL' rfl (y1.thn (N0 (nM.mpr hL')))) (eP rfl) ?_
       rintro _ _ ⟨e,aH,rfl,g1,g2,rfl,g3⟩;exact⟨_, .skip (.skip (.skip (.skip (.skip .hit)))),j5 ⟨rfl,e,aH,none,none,Nat.lt_of_succ_lt g1,g2,g3,rfl⟩⟩
     . have hlf := bQ.mpr hL
       rw[hlf]at hlet
       refine uT (dR [.cs (.av (.bool false)) [] 1,.br false] (dL hB) (qa (qa trivial hlet) ff)) ?_
       by_cases aG :k+1 < T.length
       . have kx := eO aG
         rw[bq aG]at h2
         have hLz : ¬ sy T[k+1]:=λq=>by
          unfold kO at hlf;rw[bq aG]at hlf
          exact Bool.noConfusion (hlf.symm.trans (nM.mp q))
         have hsg : T[k+1]≠33/\T[k+1]≠63:=by
          have : ∀ c∈gM,c≠33/\c≠63:=by decide
          exact this _ (hT.sig _ (bT aG))
         rw[kx]at y1
         subst h2;show dH _ _ (qU T ra k [T[k+1]] x3 none none none (az.map (dJ T)) r8) λf σ'=>f=.next/\O4 T ra k [T[k+1]] x3 r8 σ'
         by_cases e8:T[k+1]=62
         . have p :=y1
           rw[e8]at p |-
           exact thn (dR [.br true] (dL hB) (qa trivial tt)) (eu (Pr (L:=L) hB aC) ⟨rfl,lA (ks:=[_,_]) (by exact Nat.le_succ _) aG (p.trans L1)⟩)
         . by_cases e47:T[k+1]=47
           . rw[e47]at y1 |-
             have y2:=y1.thn Lx
             refine uT (dR [.br false] (dL hB) (qa trivial ff)) ?_
             refine uT (dR [.br false] (dL hB) (qa trivial ff)) ?_
             have hlet:=td (k:=k+2) hB hPl aG
             by_cases hL2:kO T (k+2)=true
             . rw[hL2]at hlet
               refine thn (dR [.cs (.av (.bool true)) [] 1,.br true] (dL hB) (qa (qa trivial hlet) tt)) ?_
               have hlt2:k+2 < T.length:=Nat.lt_of_not_le λq=>by unfold kO at hL2;rw[List.getElem?_eq_none q]at hL2;exact nomatch hL2
               have hL':lG T[k+2]=true:=by unfold kO at hL2;rw[bq hlt2]at hL2;exact hL2
               rw[eO hlt2]at y2
               refine oy (gj (v:=.ref 814) (by refine hB.K▸?_;kernel_rfl)) (gZ (by refine hB.K▸?_;kernel_rfl)) (dy (d9 dP) (dy (lY (d9 qf) iP tP) (dy oP (dy (d9 iV) dK)))) (FI (b:=false) (cl:=true) (h0:=k+2) (az:=az) hB hT hlt2 hL' rfl (y2.thn (LR (nM.mpr hL')))) (eP rfl) ?_
               rintro _ _ ⟨e,aH,rfl,g1,g2,rfl,g3⟩;exact⟨_,.skip (.skip (.skip (.skip (.skip .hit)))),j5 ⟨rfl,e,aH,none,none,by omega,g2,g3,rfl⟩⟩
             . have hlf2:=bQ.mpr hL2
               rw[hlf2]at hlet
               refine uT (dR [.cs (.av (.bool false)) [] 1,.br false] (dL hB) (qa (qa trivial hlet) ff)) ?_
               by_cases hlt2:k+2 < T.length
               . have hd2:=eO hlt2
                 rw[bq hlt2]at h3
                 have hLz2:¬ sy T[k+2]:=λq=>by
                  unfold kO at hlf2;rw[bq hlt2]at hlf2
                  exact Bool.noConfusion (hlf2.symm.trans (nM.mp q))
                 rw[hd2]at y2
                 subst h3;show dH _ _ (qU T ra k [47] [T[k+2]] none none none (az.map (dJ T)) r8) λf σ'=>f=.next/\O4 T ra k [47] [T[k+2]] r8 σ'
                 refine uT (dR [.br false] (dL hB) (qa trivial ff)) ?_
                 by_cases e8:T[k+2]=62
                 . have p:=y2
                   rw[e8]at p |-
                   exact thn (dR [.br true] (dL hB) (qa trivial tt)) (eu (P3 (L:=L) hB aC) ⟨rfl,lA (ks:=[_]) (by exact Nat.lt_add_of_pos_right (by decide)) hlt2 (p.trans LJ)⟩)
                 . have p:=(y2.trans (Ls hLz2 e8)).trans NS
                   rw[<-hd2,<-Cg aG,<-lZ aG]at p
                   refine uT (dR [.br false] (dL hB) (qa trivial (fH e8))) (dH.wk (Pi (L:=L) hB hT aG aC) λf σ' q=>⟨q.1,?_⟩)
                   have hge:=bU (k+2) ((T.drop (k+2)).takeWhile qH).length
                   have hee:k+3<=min (dn qH T (k+2)+1) T.length:=Nat.le_min.mpr ⟨by unfold dn;exact Nat.lt_succ_of_le ‹_›,hlt2⟩
                   refine⟨_,_,some (yc T[k+2]),some (.int (dn qH T (k+2):Nat)),sv (Nat.lt_add_of_pos_right (by decide)) hee,Nat.min_le_right _ _,p,q.2.trans ?_⟩
                   rw[pC (Nat.min_le_right _ _),pC aG,bS];rfl
               . have e1:k+2=T.length:=by omega
                 rw[List.getElem?_eq_none (Nat.le_of_not_lt hlt2)]at h3
                 subst h3;rw[show T.drop (k+2)=[]by refine e1▸?_;exact c9]at y2
                 have p:=y2.trans LX
                 exact thn (dR [.br true] (dL hB) (qa trivial tt)) (eu (Oz (L:=L) hB aC) ⟨rfl,lA (ks:=[_,_]) (by exact Nat.le_succ _) aG (by rw[show T.drop (k+2)=[]by rw[e1];exact c9];exact p)⟩)
           . have p:=y1.trans (Kx hsg.1 e47 hLz e8 hsg.2)
             rw[<-kx]at p
             generalize T[k+1]=z at e8 e47
             exact uT (dR [.br false] (dL hB) (qa trivial (fH e8))) (thn (dR [.br true] (dL hB) (qa trivial (show(!decide ([z]=[47]))=true by refine(fH e47)▸?_;rfl))) (eu (Nw (L:=L) hB aC) ⟨rfl,lA (ks:=[_,_]) (by exact Nat.lt_succ_self _) hk1 p⟩))
       . have e1:k+1=T.length:=by omega
         rw[List.getElem?_eq_none (Nat.le_of_not_lt aG)]at h2
         subst h2;have hn:T.drop (k+1)=[]:=by refine e1▸?_;exact c9
         rw[hn]at y1
         have p:=y1.trans Nq
         exact uT (dR [.br false] (dL hB) (qa trivial ff)) (thn (dR [.br true] (dL hB) (qa trivial tt)) (eu (Nw (L:=L) hB aC) ⟨rfl,lA (ks:=[_,_]) (by exact Nat.lt_succ_self _) hk1 (by rw[hn];exact p)⟩))
   . have fin:=OG (L:=L) (ra:=ra) (x2:=x2) (x3:=x3) (r8:=r8) hB hT (cy hk) aC
     have p:=y.trans (KS hT hk hb h60)
     have bh:k < dn sT T k:=by
      have hul:sT T[k]=true:=by unfold sT;rw[cc λq=>h60 (bL.mp q)];rfl
      unfold dn;refine hd▸bF▸(cJ hul)▸bY▸?_;simp+arith
     have hle:=fy sT T (cy hk)
     generalize T[k]=z at hl hbf h60
     exact uT (dR [.ch z,.br false] (dL hB) (qa (qa (qa trivial hl) hz) hbf)) (thn (dR [.ch z,.br true] (dL hB) (qa (qa (qa trivial hl) hz) (show(!decide ([z]=[60]))=true by refine(fH h60)▸?_;rfl))) (eu fin ⟨rfl,lA (ks:=[_]) bh hle p⟩))
end
end
section
section
variable {B:dc} {T:cK} {o8:OL}
theorem QN {k:Nat} {i j:Int} (h1:i=k) (h2:j=i+1):sl T (some i) (some j)=T[k]?.toList:=by
 subst h1 h2
 by_cases h:k < T.length
 . rw[bq h]
   exact Al h
 . rw[List.getElem?_eq_none (Nat.le_of_not_lt h)]
   rw[jO,pS (Int.ofNat_le.mpr (Nat.le_of_not_lt h))];exact List.drop_eq_nil_of_le (List.length_take_le' _ _)
inductive Qn (T:cK) (ra:Addr) (o8:OL) (m:Nat) (σ:St):Prop
 | mk (k:Nat) (w2 w3 w4 w5 w6:cS) (az:cW) (z1:m=T.length - k) (z2:k<=T.length) (z3:dU .data .none T az .data .none (T.drop k)) (z5:σ=⟨AG T ra k w2 w3 w4 w5 w6,(ra,.list (az.map (dJ T)))::o8⟩)
inductive Mt (T:cK) (o8:OL) (l:cL) (o:OL):Prop
 | mk (R:cW) (z1:l=R.map (dJ T)) (z2:o=o8) (z3:dU .data .none T R .data .none [])
theorem Hs (hB:ej B) (hT:fU T):de B 3 821 [.str T] o8 λd o=>∃ (a:Addr) (l:cL) (o3:OL),d=.ref a/\o=(a,.list l)::o3/\Mt T o8 l o3:=by
 have hTl:=hT.len
 have hz:=hT.plain.size
 refine pU (b5:=fQ pY) (sh:=jo pY) ["text"] ["rows","place","second","third","end","fault","stop"] (by rw[hB.K];rfl) (by rw[hB.K];kernel_rfl) (.one λx=>rfl) (eb:=rfl) (es:=rfl) λL=>?_
 refine iO dK (by decide) λra=>⟨_,.skip .hit,?_⟩
 refine eH (oR iP (fW (.skip (.skip .hit)))) ?_
 refine jh (λσ=>∃ m,Qn T ra o8 m σ/\m=0) (Bi (Qn T ra o8) (n:=T.length) ⟨0,none,none,none,none,none,[],rfl,cA _,dU.refl,rfl⟩ ?_) ?_
 . rintro m σ ⟨k,w2,w3,w4,w5,w6,az,rfl,hk,y,rfl⟩
   by_cases aG:k < T.length
   . refine .inr ⟨_,nE (nw (d9 qf) (gG (eG PyProof.Rows.Boot.«len» (by refine hB.K▸?_;kernel_rfl)) gV (dy (d9 dP) dK) (mH hz)) A8) (cr (cx.mpr aG)),?_⟩
     refine ll (lg:=AG T ra k none none none none none) ?_ HX Ak
     refine fC 2 (PG (L:=L) hB hT) ?_
     have e2:sl T (some ((k:Int)+1)) (some ((k:Int)+2))=T[k+1]?.toList:=QN (by rfl) (by rfl)
     have e3:sl T (some ((k:Int)+2)) (some ((k:Int)+3))=T[k+2]?.toList:=QN (by rfl) (by rfl)
     refine ju 1 (dH.wk (AT (L:=L) hB hT aG y e2 e3) λf σ' z=>.inl z) ?_
     rintro σ ⟨e,aH,w5,w6,h1,h2,y',rfl⟩;exact eu (eN (oR (d9 QO) (fW (.skip (.skip .hit)))) fO) ⟨rfl,T.length - e,Nat.sub_lt_sub_left aG h1,e,_,_,_,_,_,aH,rfl,h2,y',rfl⟩
   . obtain rfl:k=T.length:=by omega
     exact .inl ⟨_,nE (nw (d9 qf) (gG (eG PyProof.Rows.Boot.«len» (by refine hB.K▸?_;kernel_rfl)) gV (dy (d9 dP) dK) (mH hz)) A8) (cc λq=>aG (cx.mp q)),rfl,T.length - T.length,⟨T.length,w2,w3,w4,w5,w6,az,rfl,cB _,y,rfl⟩,Nat.sub_self _⟩
 . rintro σ ⟨_,⟨k,w2,w3,w4,w5,w6,az,e1,hk,y,rfl⟩,e0⟩
   obtain rfl:k=T.length:=by omega
   rw[c9]at y
   exact eu (gT (gS (d9 iV))) ⟨_,rfl,ra,_,_,rfl,rfl,az,rfl,rfl,y⟩
end
end
section
section
variable {X:Cx} {σ a6:St} {Q:PF} {R:AV->St->Prop} {l9:LL} {o8:OL} {x:Str} {t4 e6:Expr} {i6:cN} {pi:Pos}
theorem zB {m:Nat} {f:Addr} {fe:Expr} {ay:cN} {cp:Pos} {ds:cL} {dv:AV} {P:cL->OL->Prop} (h1:Bo X fe σ (.ref f) dv) (hk:iL X (.ref f)) (h2:rR X ay σ ds ⟨l9,o8⟩) (c:de X.B m f ds o8 λd o=>∃ a l o3,d=.ref a/\o=(a,.list l)::o3/\P l o3) (hm:m<=X.n)
 (he:autoParam (eval (.Call fe ay [] cp) X.env=(do callWith cp (<-eval fe X.env) [] (backTo cp (starEach ay X.env)) [])) bR) (hp:autoParam ((backTo cp (starEach ay X.env)).any (·.1)=false) bR):xr X (.Call fe ay [] cp) σ λd σ'=>∃ l o3,d=.lst l/\σ'=⟨l9,o3⟩/\P l o3:=
 ⟨λH Φ h=>jT (jJ (h1.run _ _ (hk.run _ _ _ _ _ _ hp (h2.run _ _ _ λvs hl'=>ki c hm hl' (λy hp=>bB _ hp) λd o q v=>by
  refine kI q ?_;clear q;rintro a l o3 rfl rfl q
  exact⟨a,l,l9,o3,rfl,rfl,h v _ _ ⟨l,o3,rfl,rfl,q⟩⟩))) he)⟩
theorem AR {i5:Expr} {sf:Scope} {p px:Pos} {cl:List (Str×Addr)} {ss:cM} (xs:cQ) (h1:xr X i5 σ R)
 (h2:∀ d a6,R d a6->∃ (N:Nat) (i3:Nat->AV) (keep:Nat->Bool) (val:Nat->AV),N<=16777215/\(∀ xv,fF X.B X.n X.L xv d N i3)/\(∀ i,i < N->iZ X.B X.n t4 e6 i6 (λC=>compEnvC sf cl C X.env) xs (i3 i) (keep i) (val i) a6.objs)/\
  ∀ D,∃ a9,Ka X x (.ref D) ⟨a6.loc,(D,.list (eU keep val N))::a6.objs⟩ a9/\dH X ss a9 Q)
 (hsw:swapsWith (.ListComp e6 [⟨t4,i5,i6,0⟩] sf pi) (some (.Name x p)) px.line X.env=pure true)
 (aP:closureFor sf X.env=pure cl) (hx:autoParam (xs.Nodup) bD)
 (aB:autoParam (∀ y∈sf.names,y.2≠.cell) bD) (aL:autoParam (sf.kind=.function) bR) (aI:autoParam (∀ y∈sf.names,y.2=.local->sf.names.lookup y.1=some .local) bD)
 (hs:autoParam (∀ x,foldedSetIterable i5 X.env x=pure x) bI):
 dH X (.Assign [.Name x p] (.ListComp e6 [⟨t4,i5,i6,0⟩] sf pi) px::ss) σ Q:=⟨λH Φ h=>gu (qi xs (h1.run _ _ λxv d a6 r=>by
 refine QX (h2 d a6 r) ?_;rintro N i3 keep val hN it hr h3
 exact⟨λi ys o=>ys=eU keep val i/\o=a6.objs,N,i3,it xv,⟨rfl,rfl⟩,λi hi=>iZ.step (cy (sv hi hN)) (hr i hi),λys o D ⟨e1,e2⟩=>by
  subst e1 e2
  refine dW (h3 D) ?_;rintro a9 w1 w2
  exact w1.run _ _ _ gO (w2.run _ Φ h)⟩) hsw aP hx aB aL aI hs)⟩
end
end
section
def jI (d:AV):Prop:=∃ m,(∀ B,ej B->gD B 2 826 [d] (.lst m))/\gz 10 d/\gz 10 (.lst m)
open Classical in
def K9 (d:AV):cL:=if h:jI d then Classical.choose h else []
theorem DH {d:AV} (h:jI d):(∀ B,ej B->gD B 2 826 [d] (.lst (K9 d)))/\gz 10 d/\gz 10 (.lst (K9 d)):=by
 unfold K9;refine(dif_pos h)▸?_
 exact Classical.choose_spec h
section
variable {i:Int} {x y c nm:cK} {fs:FL} {sc:Bool} {l:cL}
theorem Av (h3:(!decide (i=3))=true) (h4:(!decide (i=4))=true):jI (.dct [("type",.int i),("data",.str x)]):=
 ⟨[],λB hB=>wg hB h3 h4,.dct (dC .int (dC .str dz)),.lst dz⟩
theorem Io:jI (.dct [("type",.int 7),("data",.str x),("datavars",.dct [("data",.str c)])]):=
 ⟨[],λB hB=>wg hB (by decide) (by decide),.dct (dC .int (dC .str (dC (.dct (dC .str dz)) dz))),.lst dz⟩
theorem B4 (hz:fs.length<=1000) (h:∀ p∈fs,gz 8 p.2):jI (mF 3 (.str nm) (.dct fs) sc [("selfClosingAcknowledged",.bool false)]):=
 ⟨.bool true::fs.map λp=>.str (lz p.1),λB hB=>uk hB hz,.dct (dC .int (dC .str (dC (.dct h) (dC .bool (dC .bool dz))))),.lst (dC .bool λd hd=>by
  refine dW (cw.mp hd) ?_;rintro p y rfl
  exact .str)⟩
theorem nQ {n m:Nat} (h:n<=m) {d:AV} (f:gz n d):gz m d:=by
 induction f generalizing m with
 | none=>exact .none
 | bool=>exact .bool
 | int=>exact .int
 | str=>exact .str
 | tup _ ih=>obtain⟨k,rfl⟩:∃ k,m=k+1:=⟨m - 1,by omega⟩;exact .tup λd hd=>ih d hd (Nat.le_of_succ_le_succ h)
 | lst _ ih=>obtain⟨k,rfl⟩:∃ k,m=k+1:=⟨m - 1,by omega⟩;exact .lst λd hd=>ih d hd (Nat.le_of_succ_le_succ h)
 | dct _ ih=>obtain⟨k,rfl⟩:∃ k,m=k+1:=⟨m - 1,by omega⟩;exact .dct λd hd=>ih d hd (Nat.le_of_succ_le_succ h)
theorem zC (hz:l.length<=1000) (h:∀ d∈l,gz 8 d):jI (mF 4 (.str nm) (.lst l) sc []):=
 ⟨.bool true::l,λB hB=>zH hB hz,.dct (dC .int (dC .str (dC (.lst λd hd=>nQ (by decide) (h d hd)) (dC .bool dz)))),.lst (dC .bool λd hd=>nQ (by decide) (h d hd))⟩
end
section
variable {ps:List (cK×AV)}
theorem AQ {m:Nat} {x:Str} {d:AV} {l:FL} (h:∀ p∈l,gz m p.2) (hd:gz m d):∀ p∈f7 x d l,gz m p.2:=by
 induction l with
 | nil=>exact dC hd dz
 | cons q l ih=>
  unfold f7
  split
  . exact dC hd λp hp=>h p (.tail _ hp)
  . exact dC (h q dP) (ih λp hp=>h p (.tail _ hp))
theorem yM {m:Nat}:∀ {l:FL},(∀ p∈l,gz m p.2)->(∀ p∈ps,gz m p.2)->∀ p∈ps.foldl ii l,gz m p.2:=by
 induction ps with
 | nil=>exact λh y=>h
 | cons q ps ih=>
  intro l h hp;refine ih ?_ λp hq=>hp p (.tail _ hq)
  unfold ii
  split
  . exact h
  . exact AQ h (hp q dP)
theorem Ni {x:String}:jI (eE x):=Av (by decide) (by decide)
theorem Iw {d:AV} (h:uY d):jI d:=by
 induction h with
 | tok h3 h4=>exact Av h3 h4
 | erC =>exact Io
 | @emit nm ps sc b d hp hv h=>
  have hv':∀ m,∀ p∈ps,gz m p.2:=λm p hp=>let ⟨_,e⟩:=hv p hp;e▸.str
  revert d
  show ∀ d∈eK nm ps sc b,jI d
  unfold eK
  split
  . refine dC (B4 ?_ ?_) dz
    . rw[lB];exact dN tX (by rw[List.length_nil,Nat.zero_add];exact hp)
    . rw[lB];exact yM dz (hv' 8)
  . refine mU ?_ (mU ?_ (dC (zC (by rw[cq];exact hp) λd hd=>?_) dz))
    . split
      . exact dz
      . exact dC Ni dz
    . split
      . exact dC Ni dz
      . exact dz
    . obtain⟨p,h,rfl⟩:=cw.mp hd
      exact .lst (n:=7) (dC .str (dC (hv' 7 p h) dz))
end
end
section
noncomputable def ix:d8:=[[60,97],[60,47,98],[62],[32],[120],[61],[34],[39],[47],[60],[10],[66],[45],[96],[61,34],[61,39],[32,120,61],[60,47],[60,88,32],[201],[32,98],[12],[49],[32,120]]
theorem rJ {B:dc} (hB:ej B):eS B (.ref 767) (.lst (ix.map .str)):=by
 refine yU (by rw[hB.K];rfl) ?_
 rfl
noncomputable def gL (n:Int):cK:=ix.getD (n.fmod 24).toNat []
theorem oH (k:Int):(ix.map AV.str)[(k.fmod 24).toNat]? =some (.str (gL k)):=by
 have h0:0<=k.fmod 24:=Int.fmod_nonneg_of_pos k (by decide)
 have h1:k.fmod 24 < 24:=Int.fmod_lt_of_pos k (by decide)
 have h2:(k.fmod 24).toNat < ix.length:=by show _ < 24;omega
 unfold gL;rw[bP,bq h2,bp,bq h2];rfl
theorem ym (f:Int->cK) (l:List Int):dT (l.map λn=>AV.str (f n))=some (l.map f):=by
 induction l with
 | nil=>rfl
 | cons a l ih=>
  show(dT (l.map λn=>AV.str (f n))).map (f a::·)= _
  refine ih▸?_;rfl
theorem pI (k:Int):gL k∈ix:=by
 have h:=oH k
 rw[bP]at h
 induction e:ix[(k.fmod 24).toNat]? using Option.casesOn with
 | none=>rw[e]at h;contradiction
 | some x=>
  rw[e]at h
  have:x=gL k:=by simpa using h
  exact(this)▸(List.mem_of_getElem? e)
theorem vc (k:Int):(gL k).length<=3:=by
 have:∀ x∈ix,x.length<=3:=by decide
 exact this _ (pI k)
theorem xy (k:Int):∀ c∈gL k,c∈gM:=by
 have:∀ x∈ix,∀ c∈x,c∈gM:=by decide
 exact this _ (pI k)
noncomputable def ti (ns:List Int):cK:=((ns.take 24).map gL).flatten
theorem zR (ns:List Int):(ti ns).length<=72:=by
 have ke:∀ l:List Int,(l.map gL).flatten.length<=3*l.length:=by
  intro l
  induction l with
  | nil=>simp
  | cons a l ih=>have:=vc a;simp only[cv,List.flatten_cons,bM,bY];omega
 have:=ke (ns.take 24)
 have h2:(ns.take 24).length<=24:=by rw[List.length_take];omega
 unfold ti;omega
theorem Ay (ns:List Int):∀ c∈ti ns,c∈gM:=λc hc=>by
 refine dW (List.mem_flatten.mp hc) ?_;rintro x hx hc
 refine dW (cw.mp hx) ?_;rintro k y rfl
 exact xy k c hc
theorem Eo (ns:List Int):fU (ti ns):=⟨dN (zR ns) (by decide),Ay ns⟩
theorem fU.txtD {T:cK} (h:fU T):N3 T:=⟨h.plain,h.no0⟩
theorem yH {X:Cx} {σ:St} {pi:Pos} (hB:ej X.B) (e:nsIn X.B.K mainGlobals "_law_PIECES"=some (some (.ref 767))) (hk:autoParam (X.env.scope.kind=.function) bR) (hl:autoParam (X.env.kindOf "_law_PIECES"=some .globalImplicit) bK) (hg:autoParam (X.env.globals=mainGlobals) bR):Ev X (.Name "_law_PIECES" pi) σ (.lst (ix.map .str)) σ:=
 oF e (rJ hB) hk hl hg
theorem EE {X:Cx} {σ:St} {l:cL} {d:AV} {e1 e2:Expr} {k:Nat} (hd:l[k]? =some d) (hz:l.length<=16777000) (hs:∀ o i,∃ ops,subscripted e2 false o i=operate ops (getItem o i):=by exact λy y=>⟨_,rfl⟩):iI X e1 e2 (.lst l) (.int k) d σ:=re (Int.natCast_nonneg _) rfl hd (dN hz (by decide)) hs
theorem OX {n:Nat} (h:n<=16777000):n+0<=16777216:=dN h (by decide)
theorem EU {B:dc} (hB:ej B) {st dx tx t5 er:Addr} {t:cK} {q:SS} {d5:AV} (e:mn q=d5) (pz r8:OL):de B 2 126 [.ref st] (pz++oS st dx tx t5 er t q r8) λd o=>d=d5/\o=pz++oS st dx tx t5 er t q r8:=by
 refine de.perm (o5:=oS st dx tx t5 er t q (r8++pz)) (bA (l₂:=oS st dx tx t5 er t q r8)) (uP hB) λd o ⟨e1,e2⟩=>⟨pz++oS st dx tx t5 er t q r8,?_,e1.trans e,rfl⟩
 rw[e2];exact bA (l₁:=oS st dx tx t5 er t q r8)
noncomputable abbrev rG (ns:List Int) (w1 w2 w3 w4 w5:cS):LL:=[("script",some (.obj (oD ns))),("text",w1),("due",w2),("tokenizer",w3),("got",w4),("token",w5)]
theorem Ca {ns:List Int} {w1 w2 w3 w4 w5:cS}:∀ x d,(x,some d)∈rG ns w1 w2 w3 w4 none->(x,some d)∈rG ns w1 w2 w3 w4 w5:=yD.le (by repeat' first | exact .nil | refine .keep ?_ | refine .drop ?_)
theorem Dh {ns:List Int} {w1 w2 w3 w4 w5:cS}:((rG ns w1 w2 w3 w4 w5).map (·.1)).Nodup:=eT (by kernel_rfl)
theorem ER {cells:List (Str×Addr)} {ρ:cP} {a:Str} {i:Nat} (h1:cells.lookup a=some (el ρ i)) (hi:Nat.blt i ρ.length=true):∀ x k,gR x [(a,i)]=some k->cells.lookup x=some (el ρ k)/\k < ρ.length:=λx k e=>by
 refine dW (bu.mp e) ?_;rintro p h q
 obtain rfl:=bL.mp (List.mem_of_find?_eq_some h)
 have e1:=cF (List.find?_some (p:=λp:Str×Nat=>p.1==x) h)
 subst q e1
 exact⟨h1,mQ hi⟩
section
variable {n:Nat}
theorem zw {B:dc} {o8:OL} {n5 qb:Str} {pj:Arguments} {b3 b5:cM} {sf sh:Scope} {dV kV d7 pm c3 ct oc:Value} {an od:Option Addr} {ol:cY} {f:Addr} {ay ds:cL} {P:AV->OL->Prop} (ps:cQ) (l9:LL) (cn:LL)
 (ho:B.K.lookup f=some ⟨oc,od,.func (fnOf n5 qb pj b3 sf dV kV d7 pm an c3 ct),ol⟩) (ba:codeIn B.K c3 qb=true)
 (aS:∀ vs,vs.length=ay.length->bindArgs (fnOf n5 qb pj b3 sf dV kV d7 pm an c3 ct) ⟨vs,[]⟩=pure (ps.zip vs)) (aE:ps.length=ay.length) (aY:ds=ay)
 (h:∀ L,dH ⟨B,n,L,envOfC qb sh L f c3⟩ b5 ⟨l9,ft (L+1) cn++o8⟩ λf σ'=>∃ d,f=.ret d/\P d σ'.objs)
 (eb:autoParam (b3=b5) bC) (es:autoParam (sf=sh) bC)
 (aR:∀ x d,(x,some d)∈l9->sh.names.lookup x=some .local/\(x,d)∈ps.zip ds) (hln:(l9.map (·.1)).Nodup)
 (hcs:∀ L,(fP (L+1) cn).reverse=cellsFrom (L+1) sh.names []) (hcn:(cn.map (·.1)).Nodup)
 (hck:∀ x d,(x,d)∈cn->sh.names.lookup x=some .cell/\(match d with | some d=>(x,d)∈ps.zip ds | none=>x∉ps)) (hpn:ps.Nodup)
 (hpk:∀ x∈ps,sh.names.lookup x=some .local\/(sh.names.lookup x=some .cell/\x∈cn.map (·.1)))
 (aT:autoParam (sh.isCoroutine=false) bR) (aQ:autoParam (sh.isGenerator=false) bR) (hk:autoParam (sh.kind=.function) bR):de B (n+1) f ay o8 P:=
 Eh ps l9 cn ho ba aS aE aY (λL=>(h L).run _ _ λf σ' ⟨d,e,q⟩=>by subst e;exact q) aR hln hcs hcn hck hpn hpk aT aQ hk eb es
end
abbrev iq (T:cK) (e:Nat×AV):AV:=.tup [fc T (T.length - e.1),e.2,.lst (K9 e.2)]
theorem yb {T:cK} {e:Nat×AV} (h:jI e.2):gz 50 (iq T e):=.tup (n:=49) (dC (.tup (n:=48) (dC .int (dC .int dz))) (dC (nQ (by decide) (DH h).2.1) (dC (nQ (by decide) (DH h).2.2) dz)))
noncomputable abbrev AU (rs:cW) (i:Nat):cS:=if i=0 then none else some (rs.getD (i - 1) (0,.none)).2
noncomputable abbrev Ol (ns:List Int) (w1 w2 w3 w4 w5:Option DV):cZ:=[("script",some (.av (.obj (oD ns)))),("text",w1),("due",w2),("tokenizer",w3),("got",w4),("token",w5)]
theorem iZ.cast {B:dc} {n:Nat} {t4 e6:Expr} {i6:cN} {c6:Addr->Env} {xs:cQ} {a a' d d':AV} {k:Bool} {o8:OL} (e1:a=a') (e2:d=d') (h:iZ B n t4 e6 i6 c6 xs a' k d' o8):iZ B n t4 e6 i6 c6 xs a k d o8:=e1▸e2▸h
section
variable {B:dc}
theorem FZ (hB:ej B) (ns:List Int) (aV:ns.length<=63):de B 12 831 [.obj (oD ns)] [] λd y=>d=.bool true:=by
 refine zw (ds:=[.obj (oD ns)]) ["script"] (rG ns none none none none none) [("marks",none)] (by rw[hB.K];rfl) (by rw[hB.K];kernel_rfl) (OR λy=>rfl) rfl rfl (λL=>?_) (aR:=?_) (hln:=?_) (hcs:=?_) (hcn:=?_) (hck:=?_) (hpn:=?_) (hpk:=?_)
 . dsimp only[ft,c7,List.nil_append]
   have hN :((ns.take 24).map AV.int).length=((ns.take 24).map λn=>AV.str (gL n)).length:=by rw[cq,cq]
   have hTx:=Eo ns
   have h24:((ns.take 24).map AV.int).length<=24:=by rw[cq];exact List.length_take_le _ _
   refine eH (a6:=⟨rG ns (some (.str (ti ns))) none none none none,[(L+1,.cell none)]⟩) (oR (qX (ie CR) (wl PySem.F.slot_str_join PySem.F.type_str_join) gV (dy
    (uz (N :=((ns.take 24).map AV.int).length) (d:=.lst ((ns.take 24).map AV.int)) ["n"] (λy=>true) (λi=>((ns.take 24).map λn=>AV.str (gL n)).getD i .any) (dN h24 (by decide)) (sQ (j:=24) (d9 dP) iP (by decide) (dN aV (by decide))) (λxv=>lq) ?_ rfl) dK)
    (vF (ms:=(ns.take 24).map gL) (by rw[hN,ge];exact ym gL _) (show(ti ns).length<=_ from dN hTx.len (by decide)))) (fW (d:=.str (ti ns)) (.skip .hit))) ?_
   . intro i hi
     have b9:i < (ns.take 24).length:=by rw[cq]at hi;exact hi
     have e1:((ns.take 24).map AV.int).getD i .any=.int ((ns.take 24)[i]):=by rw[bp,bP,bq b9];rfl
     have e2:((ns.take 24).map λn=>AV.str (gL n)).getD i .any=.str (gL (ns.take 24)[i]):=by rw[bp,bP,bq b9];rfl
     rw[e1,e2]
     generalize(ns.take 24)[i]=k
     exact⟨λC p q=>⟨[("n",some (.int k))],[("n",some (.int k))],fX (fW .hit),li,λy=>
      jz (yH hB (by rw[hB.K];kernel_rfl)) (lY (d9 dP) iP (EM (by decide))) (re (Int.fmod_nonneg_of_pos k (by decide)) rfl (oH k) (by decide))⟩⟩
   . clear hN h24
     generalize ti ns=T at hTx |-
     have hPl:=hTx.plain
     have hTl:=hTx.len
     have hTz:=hPl.size
     refine eH (a6:=⟨rG ns (some (.str T)) none none none none,[(L+1,.cell (some (.lst (eR T T.length))))]⟩) (oR (CY (gj (v:=.ref 802) (by rw[hB.K];kernel_rfl)) (gZ (by rw[hB.K];kernel_rfl)) (dy (d9 iV) dK) (CW hB hPl) (eP rfl)) (JQ rfl nk.head)) ?_
     have hml:∀ k,(eR T k).length=k+1:=λk=>by unfold eR;simp
     refine AR ["place","token"] (zB (gj (v:=.ref 821) (by rw[hB.K];kernel_rfl)) (gZ (by rw[hB.K];kernel_rfl)) (dy (d9 iV) dK) (Hs hB hTx) (eP rfl)) ?_ rfl rfl
     intro y y z9;refine jk z9 ?_;clear z9;rintro _ _ rfl rfl ⟨R,rfl,rfl,bc⟩
     have hRl:R.length<=400:=bc.small hTl
     have hro:∀ e∈R,jI e.2:=λe he=>Iw (bc.ok (show 0+2*T.length<=900 by omega) e he)
     have hrl:(R.map (dJ T)).length=R.length:=cq _
     have hri:∀ i (hi:i < R.length),(R.map (dJ T)).getD i .any=.tup [.int ((T.length - R[i].1:Nat):Int),R[i].2]:=λi hi=>by rw[bp,bP,bq hi];rfl
     have hN:(R.map (dJ T)).length=(R.map (iq T)).length:=by rw[hrl,cq]
     refine⟨(R.map (dJ T)).length,_,λy=>true,λi=>(R.map (iq T)).getD i .any,by rw[hrl];exact dN hRl (by decide),λxv=>lq,?_,?_⟩
     . intro i hi
       rw[hrl]at hi
       have e2:(R.map (iq T)).getD i .any=iq T R[i]:=by rw[bp,bP,bq hi];rfl
       have hr:=hro _ (bT hi)
       refine iZ.cast (hri i hi) e2 ?_
       generalize R[i]=e at hr |-
       have hp:T.length - e.1<=T.length:=Nat.sub_le _ _
       have hmo:=(DH hr).1 B hB
       exact⟨λC p q=>⟨[("place",some (.int ((T.length - e.1:Nat):Int))),("token",some e.2)],[("place",some (.int ((T.length - e.1:Nat):Int))),("token",some e.2)],L3 (fX (fW .hit)) (fX (fW (.skip .hit))),li,λy=>
        rN (dy (jz (Bj rfl qf) (d9 dP) (EE (k:=T.length - e.1) (oI hp) (by rw[hml];exact Nat.lt_of_le_of_lt hTl (eP rfl)))) (dy (d9 iV) (dy (gG (gj (v:=.ref 826) (by rw[hB.K];kernel_rfl)) (gZ (by rw[hB.K];kernel_rfl)) (dy (d9 iV) dK) (Ra (hmo _) (eP rfl))) dK))) (eP rfl)⟩⟩
     . intro D
       rw[hN,ge];refine⟨_,fW (.skip (.skip .hit)),?_⟩
       refine yI (m:=6) (n':=10) (gj (v:=.ref 762) (by rw[hB.K];kernel_rfl)) (gZ (by rw[hB.K];kernel_rfl)) (dy (d9 iV) dK) (by rw[hB.K];kernel_rfl) (by rw[hB.K];kernel_rfl) (by rw[hB.K];kernel_rfl) (λx dx=>Ec hB) rfl (by decide) ?_
       rintro tk k9 _ _ ⟨rfl,st,dx,tx',t5,er',lf,rfl⟩;refine⟨rfl,_,(.skip (.skip (.skip .hit))),?_⟩
       obtain⟨m,hD⟩:=bc.does (dN hTl (by decide)) ⟨B,st,dx,tx',t5,er',tk,k9,lf,tk,T,pH T,hB,Lb hB hTx.txtD⟩
       refine iO dK (by decide) λG=>⟨_,(.skip (.skip (.skip (.skip .hit)))),?_⟩
       refine ko (o3:=oS st dx tx' t5 er' T wD [(tk,.inst 762 k9 (Cz st 304 tk lf .none))]++[(G,.list []),(D,.list (R.map (iq T))),(L+1,.cell (some (.lst (eR T T.length))))]) (r8:=[]) (by rw[cm];exact(List.perm_middle (l₁:=[_,_,_,_])).symm) ?_
       refine xX (m:=6) (Qt st dx tx' t5 er' tk k9 lf T wj) (Qq st dx tx' t5 er' tk k9 lf T (pH T true [])) (R.map (yo T)) (λi=>rG ns (some (.str T)) (some (.ref D)) (some (.ref tk)) (some (.ref G)) (AU R i))
        (λi=>[(G,.list ((R.map (iq T)).take i)),(D,.list (R.map (iq T))),(L+1,.cell (some (.lst (eR T T.length))))]) (eP rfl) (d9 Bu) (Ej hB (λy y y=>rfl) (λqa=>hD qa false wD .none _ (λy=>rfl) .start kW)) ?_ ?_
       . intro i x d g9 a p hx z9;refine Qs z9 ?_;clear z9;rintro qa q f c1 ks r9 hg rfl
         obtain⟨e,he,rfl⟩:∃ e,R[i]? =some e/\x=yo T e:=by
          rw[bP]at hx
          induction h:R[i]? using Option.casesOn with
          | none=>rw[h]at hx;contradiction
          | some e=>rw[h]at hx;exact⟨e,rfl,(Option.some.inj hx).symm⟩
         have hg':AV.tup [fc T (T.length - e.1),e.2]=.tup [mn q,d]:=hg
         injection hg' with h1
         injection h1 with h1 h2
         injection h2 with h2 _
         subst h2;have hr:=hro _ (List.mem_of_getElem? he)
         have hp:=EU (B:=B) hB (dx:=dx) (tx:=tx') (t5:=t5) (er:=er') (st:=st) (t:=T) h1.symm [(a,.is p),(G,.list ((R.map (iq T)).take i)),(D,.list (R.map (iq T))),(L+1,.cell (some (.lst (eR T T.length))))] (Pn st f tk k9 lf qa c1::(qa,.list ks)::r9)
         have hmo:=(DH hr).1 B hB ([(a,.is p),(G,.list ((R.map (iq T)).take i)),(D,.list (R.map (iq T))),(L+1,.cell (some (.lst (eR T T.length))))]++tS st dx tx' t5 er' tk k9 lf qa T q f c1 ks r9)
         have htk:((R.map (iq T)).take (i+1))=(R.map (iq T)).take i++[.tup [fc T (T.length - e.1),e.2,.lst (K9 e.2)]]:=by
          rw[List.take_add_one,bP,he];rfl
         have hte:AU R (i+1)=some e.2:=by unfold AU;rw[cH (Nat.succ_ne_zero i),Nat.add_sub_cancel,bp,he];rfl
         have aZ:((R.map (iq T)).take i).length<=16777000:=by rw[List.length_take,cq];omega
         refine⟨⟨rG ns (some (.str T)) (some (.ref D)) (some (.ref tk)) (some (.ref G)) (some e.2),(a,.is p)::(G,.list ((R.map (iq T)).take i))::(D,.list (R.map (iq T)))::(L+1,.cell (some (.lst (eR T T.length))))::tS st dx tx' t5 er' tk k9 lf qa T q f c1 ks r9⟩,fX (fW (.skip (.skip (.skip (.skip (.skip .hit)))))),?_⟩
         rw[htk,hte];clear hD hx he hg htk hte h1 hTx hPl hTl hri hml hN aV hro hr bc
         generalize(R.map (iq T)).take i=gl at hp hmo aZ |-
         generalize R.map (iq T)=dl at hp hmo |-
         generalize fc T (T.length - e.1)=mk at hp |-
         generalize K9 e.2=mo at hmo |-
         generalize e.2=tk' at hp hmo |-
         generalize eR T T.length=ml at hp hmo |-
         exact dQ [tk,st,tx',er',qa,G,D,L+1,a] ⟨Ol ns (some (.av (.str T))) (some (.slot 6)) (some (.slot 0)) (some (.slot 5)) (some (.av tk')),(8,.ao (.is p))::(5,.list gl [])::(6,.list dl [])::(7,.cell (some (.av (.lst ml))))::gB dx t5 k9 lf T q f (.av c1) ks [] [],r9⟩ [.call 0 (.av mk) ((8,.ao (.is p))::(5,.list gl [])::(6,.list dl [])::(7,.cell (some (.av (.lst ml))))::gB dx t5 k9 lf T q f (.av c1) ks [] []) r9 2,.call 0 (.av (.lst mo)) ((8,.ao (.is p))::(5,.list gl [])::(6,.list dl [])::(7,.cell (some (.av (.lst ml))))::gB dx t5 k9 lf T q f (.av c1) ks [] []) r9 2] (Qk (cl:=[("marks",7)]) hB (ER (by kernel_rfl) rfl)) (_root_.Mine.qa (_root_.Mine.qa (_root_.Mine.qa trivial hp) hmo) (OX aZ))
       . intro y z9;refine Qs z9 ?_;clear z9;rintro qa q f c1 ks r9 hq rfl
         rw[cq,<-show(R.map (iq T)).length=R.length from cq _,List.take_length];have hp:=EU (B:=B) hB (dx:=dx) (tx:=tx') (t5:=t5) (er:=er') (st:=st) (t:=T) (show mn q=fc T T.length from vI hq) [(G,.list (R.map (iq T))),(D,.list (R.map (iq T))),(L+1,.cell (some (.lst (eR T T.length))))] (Pn st f tk k9 lf qa c1::(qa,.list ks)::r9)
         have hf:∀ d∈R.map (iq T),gz 50 d:=λd hd=>by
          refine dW (cw.mp hd) ?_;rintro e he rfl
          exact yb (hro e he)
         have hmg:=oI (T:=T) (cB T.length)
         have hmz:(eR T T.length).length<=16777000:=by rw[hml];exact Nat.lt_of_le_of_lt hTl (eP rfl)
         clear hD hTx hPl hTl hri hml hN aV hro bc hq;refine ll (lg:=rG ns (some (.str T)) (some (.ref D)) (some (.ref tk)) (some (.ref G)) none) ?_ Ca Dh
         generalize R.map (iq T)=dl at hp hf |-
         generalize eR T T.length=ml at hp hmg hmz |-
         unfold fc at hp hmg;refine eu (gT (gS (ww (ry (tY (d9 Bz) (d9 qf) (Bq (l:=dl) dP iV hf)) (rM (tY (tf (d:=(.tup [.int ((T.take T.length).count 10+1),.int (gA 0 (T.take T.length))])) [tk,st,tx',er',qa,G,D,L+1] ⟨Ol ns (some (.av (.str T))) (some (.slot 6)) (some (.slot 0)) (some (.slot 5)) none,(5,.list dl [])::(6,.list dl [])::(7,.cell (some (.av (.lst ml))))::gB dx t5 k9 lf T q f (.av c1) ks [] [],r9⟩ ⟨Ol ns (some (.av (.str T))) (some (.slot 6)) (some (.slot 0)) (some (.slot 5)) none,(5,.list dl [])::(6,.list dl [])::(7,.cell (some (.av (.lst ml))))::gB dx t5 k9 lf T q f (.av c1) ks [] [],r9⟩ [.call 0 (.av (.tup [.int ((T.take T.length).count 10+1),.int (gA 0 (T.take T.length))])) ((5,.list dl [])::(6,.list dl [])::(7,.cell (some (.av (.lst ml))))::gB dx t5 k9 lf T q f (.av c1) ks [] []) r9 2] (.av (.tup [.int ((T.take T.length).count 10+1),.int (gA 0 (T.take T.length))])) (Qk (cl:=[("marks",7)]) hB (ER (by kernel_rfl) rfl)) (_root_.Mine.qa trivial hp)) (jz (Bj rfl qf) (gG (eG PyProof.Rows.Boot.«len» (by rw[hB.K];kernel_rfl)) gV (dy (d9 iV) dK) (mH hTz)) (EE (k:=T.length) hmg hmz)) (B3 (i:=(T.take T.length).count 10+1) (j:=gA 0 (T.take T.length)) (k:=(T.take T.length).count 10+1) (m:=gA 0 (T.take T.length))))))))) ⟨_,rfl,?_⟩
         simp
 . intro x d hm
   simp at hm
   obtain⟨rfl,rfl⟩:=hm;exact⟨by kernel_rfl,by simp⟩
 . exact eT (by kernel_rfl)
 . intro L;rfl
 . exact eT (by kernel_rfl)
 . intro x d hm
   simp at hm
   obtain⟨rfl,rfl⟩:=hm;exact⟨by kernel_rfl,by show ¬ (("marks":Str)∈(["script"]:cQ));decide⟩
 . decide
 . intro x hx
   simp at hx
   subst hx;exact .inl (by kernel_rfl)
end
end
section
theorem PW:PySem.Challenge.rw_te0034_02.Holds:=E5 λd kwd hdn=>(by
 intro w sa s5 mg mb G Y fa o pm cd d7 dV kV ho hdd ba hD hmg hg ay v7 as hpre hlay hrd hwl hlo;have KX:=kIn_of Y
 refine Ground.open G ?_
 intro T B D TE TW
 wrow_args hpre hlay hrd hwl hlo
 refine enter_call ?_
 refine Ee (n:=12) (fl:=831) KX hmg T.g T.b T.builtins T.nolimit (by refine hdn▸?_;kernel_rfl) ‹_› ‹_› hg (by decide) (λB e1 e2 e3=>?_) λs' hk hos hb=>?_
 . refine FZ (B:=B) ⟨by rw[e3,<-e2]⟩ _ ?_
   omega
 . refine⟨.inl ⟨_,_,[],rfl,λy=>rfl,ReadsW.bool true,?_,λy=>⟨List.nodup_nil,λy hm=>(nomatch hm)⟩⟩,.of_keep hk,hos,hb⟩
   first | rfl | wrow_post)
end
end
end Mine

theorem PySem.Challenge.cw_te0034_02_holds : PySem.Challenge.rw_te0034_02.Holds := by
 exact Mine.PW
