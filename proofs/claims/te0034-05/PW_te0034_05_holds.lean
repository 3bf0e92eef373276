import PyProof.Rows.All
import Wide.All
import OpenK.AllK
import Wide.FinOn
import KE.KEqDict
import Lean
import PySem.Challenge.RW_te0034_05
open PySem PySem.W PySem.Calls PyProof.Rows
set_option Elab.async false
set_option maxRecDepth 100000
set_option maxHeartbeats 8000000
set_option linter.all false
set_option compiler.extract_closed false
set_option genSizeOf false
namespace Mine
set_option genInjectivity false
abbrev aZ:=@Option.eq_none_iff_forall_ne_some
abbrev b7:=@List.eq_nil_of_length_eq_zero
abbrev b8:=@List.getD_eq_getElem?_getD
abbrev b9:=@List.getElem?_eq_getElem
abbrev bb:=@Option.map_eq_some_iff
abbrev bc:=@Heap.get?_push_of_some
abbrev bd:=@List.length_singleton
abbrev be:=@List.mem_append_right
abbrev bg:=@List.perm_append_comm
abbrev bh:=@List.mem_append_left
abbrev bk:=@Nat.add_le_add_right
abbrev bm:=@Heap.get?_push_size
abbrev bo:=@Nat.add_le_add_left
abbrev bp:=@Int.natCast_nonneg
abbrev bq:=@List.mem_singleton
abbrev bt:=@List.length_append
abbrev bu:=@List.prefix_append
abbrev bw:=@Bool.false_ne_true
abbrev bx:=@List.nodup_append
abbrev bz:=@List.getElem?_map
abbrev bA:=@Bool.eq_false_iff
abbrev bB:=@List.append_assoc
abbrev bE:=@Nat.le_add_right
abbrev bF:=@List.prefix_refl
abbrev bG:=@List.take_length
abbrev bH:=@Nat.succ_le_succ
abbrev bL:=@List.length_cons
abbrev bM:=@beq_self_eq_true
abbrev bN:=@List.cons_ne_nil
abbrev bO:=@List.cons_append
abbrev bP:=@List.length_drop
abbrev bQ:=@Nat.lt_succ_self
abbrev bS:=@decide_eq_false
abbrev bT:=@List.mem_append
abbrev bU:=@List.nodup_cons
abbrev bV:=@List.map_append
abbrev bX:=@List.append_nil
abbrev bY:=@Nat.le_add_left
abbrev bZ:=@List.length_map
abbrev cc:=@decide_eq_true
abbrev cf:=@List.map_cons
abbrev cg:=@List.mem_map
abbrev ci:=@Int.ofNat_le
abbrev cm:=@Nat.le_of_lt
abbrev cq:=@Nat.le_of_eq
abbrev cr:=@Nat.zero_le
abbrev cv:=@Nat.le_refl
abbrev cw:=@wpAny_bind
abbrev cx:=@wpAny_mono
abbrev cy:=@wpAny_pure
abbrev cz:=@eq_of_beq
abbrev cB:=@congrArg
abbrev cC:=@if_neg
abbrev cD:=@absurd
abbrev cE:=@if_pos
abbrev cF:=List Nat
abbrev cH:=List Stmt
abbrev cI:=List Expr
abbrev cJ:=List Value
abbrev cK:=List Addr
abbrev cL:=List Str
abbrev cO:=Option Value
abbrev cP:=List (cF×cF)
abbrev cS:=List (Str×Value)
abbrev cT:=Array (cO)
abbrev cV:=List (cF)
theorem dH {α:Type u} {b:α} {l:List α}:b∈b::l:=.head _
theorem iL {α:Type u} {a0 b:α} {l:List α}:b∈a0::b::l:=.tail _ (.head _)
theorem qB {α:Type u} {a0 a1 b:α} {l:List α}:b∈a0::a1::b::l:=.tail _ (.tail _ (.head _))
theorem uD {α:Type u} {a0 a1 a2 b:α} {l:List α}:b∈a0::a1::a2::b::l:=.tail _ (.tail _ (.tail _ (.head _)))
theorem Cm {α:Type u} {a0 a1 a2 a3 b:α} {l:List α}:b∈a0::a1::a2::a3::b::l:=.tail _ (.tail _ (.tail _ (.tail _ (.head _))))
theorem FA {α:Type u} {a0 a1 a2 a3 a4 b:α} {l:List α}:b∈a0::a1::a2::a3::a4::b::l:=.tail _ (.tail _ (.tail _ (.tail _ (.tail _ (.head _)))))
theorem Jt {α:Type u} {a0 a1 a2 a3 a4 a5 b:α} {l:List α}:b∈a0::a1::a2::a3::a4::a5::b::l:=.tail _ (.tail _ (.tail _ (.tail _ (.tail _ (.tail _ (.head _))))))
theorem Pk {α:Type u} {a0 a1 a2 a3 a4 a5 a6 b:α} {l:List α}:b∈a0::a1::a2::a3::a4::a5::a6::b::l:=.tail _ (.tail _ (.tail _ (.tail _ (.tail _ (.tail _ (.tail _ (.head _)))))))
theorem Ri {α:Type u} {a0 a1 a2 a3 a4 a5 a6 a7 b:α} {l:List α}:b∈a0::a1::a2::a3::a4::a5::a6::a7::b::l:=.tail _ (.tail _ (.tail _ (.tail _ (.tail _ (.tail _ (.tail _ (.tail _ (.head _))))))))
theorem Rb {α:Type u} {a0 a1 a2 a3 a4 a5 a6 a7 a8 b:α} {l:List α}:b∈a0::a1::a2::a3::a4::a5::a6::a7::a8::b::l:=.tail _ (.tail _ (.tail _ (.tail _ (.tail _ (.tail _ (.tail _ (.tail _ (.tail _ (.head _)))))))))
theorem dR {a b:Nat} (h:Nat.ble a b=true):a<=b:=Nat.le_of_ble_eq_true h
theorem dt {a b c:Nat} (h:a<=b) (k:b<=c):a<=c:=Nat.le_trans h k
theorem fD {α:Type u} {a b:α} {l:List α} (h:a∈b::l):a=b\/a∈l:=List.mem_cons.mp h
theorem tB {a b c:Nat} (h:a < b) (k:b<=c):a < c:=Nat.lt_of_lt_of_le h k
noncomputable section
set_option genCtorIdx false
def pQ (l:Array Lean.Syntax):Lean.Syntax:=.node .none `Lean.Parser.Tactic.tacticSeq #[.node .none `Lean.Parser.Tactic.tacticSeq1Indented #[.node .none `null l]]
def I3:Lean.Syntax:=.node .none `Lean.Parser.Tactic.tacticRfl #[.atom .none "rfl"]
def A2:Lean.Syntax:=.node .none `Lean.Parser.Term.hole #[.atom .none "_"]
def Ro (l:Array Lean.Syntax):Lean.Syntax:=.node .none `Lean.Parser.Tactic.intro #[.atom .none "intro",.node .none `null l]
def bR:Lean.Syntax:=pQ #[I3]
def bK:Lean.Syntax:=pQ #[.node .none `tacticKernel_rfl #[.atom .none "kernel_rfl"]]
def bW:Lean.Syntax:=pQ #[.node .none `Lean.Parser.Tactic.withUnfoldingAll #[.atom .none "with_unfolding_all",bR]]
def bI:Lean.Syntax:=pQ #[Ro #[A2],.atom .none ";",I3]
def bJ:Lean.Syntax:=pQ #[Ro #[A2,A2],.atom .none ";",I3]
def bD:Lean.Syntax:=pQ #[.node .none `Lean.Parser.Tactic.decide #[.atom .none "decide",.node .none `Lean.Parser.Tactic.optConfig #[.node .none `null #[]]]]
def bC:Lean.Syntax:=pQ #[.node .none `Lean.Parser.Tactic.Conv.conv #[.atom .none "conv",.node .none `null #[],.node .none `null #[],.atom .none "=>",.node .none `Lean.Parser.Tactic.Conv.convSeq #[.node .none `Lean.Parser.Tactic.Conv.convSeq1Indented #[.node .none `null #[.node .none `Lean.Parser.Tactic.Conv.lhs #[.atom .none "lhs"],.atom .none ";",.node .none `Lean.Parser.Tactic.Conv.whnf #[.atom .none "whnf"]]]]]]
section
variable {α:Type} {p:Program}
section
theorem tH (t:Thread):through t=(endAt 0 t).isSome:=by
 cases t with
 | mk c5 code pn st=>
  induction st using List.casesOn with
  | cons fr st=>rfl
  | nil=>
   cases c5 with
   | pure x=>rcases x with _ | _<;>rfl
   | _=>rfl
abbrev yK:=Flow×Shared×PySem.Code×PySem.Pos
noncomputable abbrev EH (X:Option yK) (o:Option Flow) (t:Thread) (s:Shared):Option yK:=Option.casesOn o X λf=>some (f,s,t.code,t.pos)
noncomputable abbrev CZ (Y:Option Shared) (b:Bool) (s:Shared):Option Shared:=Bool.casesOn b Y (some s)
noncomputable abbrev Gz (k:Bool) (X:Option α):Option α:=Bool.casesOn k none X
noncomputable abbrev Gl (x:Step) (S:Shared->Thread->Option α):Option α:=Step.casesOn x S λy y=>none
theorem Am {o:Option Flow} {b k:Bool} {x:Step} {S:Shared->Thread->Option yK} {T:Shared->Thread->Option Shared} {t:Thread} {s:Shared} {r:yK} (e:b=o.isSome) (ih:∀ s t,S s t=some r->T s t=some r.2.1):
 EH (Gz k (Gl x S)) o t s=some r->CZ (Gz k (Gl x T)) b s=some r.2.1:=by
 subst e
 induction o using Option.casesOn with
 | some g=>exact λh=>cB (λz:yK=>some z.2.1) (Option.some.inj h)
 | none=>
  induction k using Bool.casesOn with
  | false=>exact nofun
  | true=>
   induction x using Step.casesOn with
   | halt=>exact nofun
   | go s t=>exact ih s t
theorem vy {tb:String->Option Builtin} {w:World} {n4:Nat} {ann:cO} {r:yK} (n:Nat):∀ (s:Shared) (t:Thread),segRun tb p w n4 ann 0 n s t=some r->topRun tb p w n4 ann n s t=some r.2.1:=by
 induction n with
 | zero=>exact λy y h=>nomatch h
 | succ n ih=>
  intro s t;exact Eq.mp (by kernel_rfl) (Am (o:=endAt 0 t) (b:=through t) (k:=stepOk n4 ann t) (x:=step (denote tb) p w s t) (s:=s) (t:=t) (tH t) ih)
def tC (P:Params):BT:=
 .node (boot_o_0 P) (.node (boot_o_1 P) (.node (boot_o_3 P) (.node (boot_o_7 P) .nil .nil) .nil) (.node (boot_o_5 P) (.node (boot_o_9 P) .nil .nil) .nil))
  (.node (boot_o_2 P) (.node (boot_o_4 P) (.node (boot_o_8 P) .nil .nil) .nil) (.node (boot_o_6 P) (.node (boot_o_10 P) .nil .nil) .nil))
theorem zV (P:Params):absHeap (tC P) 11 {}=boot_heap P:=by kernel_rfl
abbrev ub (w:World) (os:OsState):SharedT:=⟨tC w.params,11,{},#[],boot_drawn,boot_toks,os⟩
def mU (p q:Program) (loose:cL) (Xt:Shared->Bool) (Yf:Shared->α) (P:Params) (s:Shared):=
 ((staticsOk (importedModules p.main.body) (boot_heap P) s.heap&&namesBound p s.heap&&gensDone s&&laidKept (boot_heap P) s.heap),openSeen q loose (importedModules p.main.body) Xt true s,Yf s)
noncomputable abbrev Bi (p:Program) (s s':Shared):Bool:=staticsOk (importedModules p.main.body) s.heap s'.heap&&namesBound p s'.heap&&gensDone s'&&laidKept s.heap s'.heap
noncomputable abbrev ME (s':Shared) (b:Bool):Option Shared:=Bool.casesOn b none (some s')
noncomputable abbrev Gn (p:Program) (s:Shared) (o:Option Shared):Option Shared:=o.bind λs'=>ME s' (Bi p s s')
noncomputable abbrev O4 (p:Program) (w:World) (N:Nat) (s:Shared) (z:Bool×Nat×cO):Option Shared:=Bool.casesOn z.1 none (Gn p s (topRun treeTable p w z.2.1 z.2.2 N s (topStub p)))
theorem ER {w:World} {N:Nat} {s s':Shared} {z:Nat×cO} (e:(s.heap.isNs mainGlobals&&s.gens.size==0,s.heap.objs.size,s.heap.nsMap mainGlobals "__annotations__")=(true,z)) (r:topRun treeTable p w z.1 z.2 N s (topStub p)=some s') (l:Bi p s s'=true):topFrom treeTable p w N s=some s':=
 Eq.trans (by kernel_rfl) ((cB (O4 p w N s) e).trans ((cB (Gn p s) r).trans (cB (ME s') l)))
theorem DZ {q:Program} {loose:cL} {Xt:Shared->Bool} {Yf:Shared->α} {Ya:World->α} {N M:Nat} {ann:cO}
 (e:opening p=plainProg p.main.scope.names) (hN:Nat.ble 600 N=true) (f:∀ s,fenceModules? p s=some s)
 (size:∀ w:World,((boot_heap w.params).isNs mainGlobals&&(#[]:Array GenState).size==0,(boot_heap w.params).objs.size,(boot_heap w.params).nsMap mainGlobals "__annotations__")=(true,11,ann))
 (run:∀ w:World,(λos=>(segRunT treeTable p w 11 ann 0 M (ub w os) (topStub p)).map λr=>mU p q loose Xt Yf w.params r.2.1.abs)=λy=>some (true,openGood q loose,Ya w))
 (le:Nat.ble M N=true):LeftO p q loose Xt Yf Ya N:=λw=>by
 obtain⟨s,e,e'⟩:=bb.mp (boot_open e hN f w);have es:s=⟨boot_heap w.params,#[],boot_drawn,boot_toks,s.os⟩:=cB (λz=>Shared.mk z.1 z.2.1 z.2.2.1 z.2.2.2 s.os) e'
 obtain⟨r,hr,hl⟩:=bb.mp (congrFun (run w) s.os);have r1:=topRun_mono (N - M) _ _ _ _ (vy _ _ _ (segRun_of hr))
 have r2:=(congr (cB (λn s=>topRun treeTable p w 11 ann n s (topStub p)) (Nat.add_sub_of_le (dR le)).symm) (es.trans (cB (λh=>Shared.mk h #[] boot_drawn boot_toks s.os) (zV w.params).symm))).trans r1
 have t:=ER (p:=p) (z:=(11,ann)) ((cB (λs:Shared=>(s.heap.isNs mainGlobals&&s.gens.size==0,s.heap.objs.size,s.heap.nsMap mainGlobals "__annotations__")) es).trans (size w)) r2 ((cB (λs':Shared=>Bi p s' r.2.1.abs) es).trans (cB Prod.fst hl))
 exact(cB (Option.map _) ((cB (λz:Option Shared=>z.bind (topFrom treeTable p w N)) e).trans t)).trans (cB (λz=>some z.2) hl:some (mU p q loose Xt Yf w.params r.2.1.abs).2= _)
end
end
section
section
noncomputable abbrev pw:Program:=PySem.Challenge.pw_te0034_05
noncomputable abbrev LV:OpenLaw:=PySem.Challenge.rw_te0034_05
noncomputable def nI (i:Nat):Stmt:=pw.main.body.getD i (.Pass default)
noncomputable def fj (s:Stmt):cH:=by
 cases s with
 | FunctionDef _ _ b=>exact b
 | ClassDef _ _ _ b=>exact b
 | For _ _ b=>exact b
 | _=>exact[]
noncomputable def K2 (s:Stmt):Arguments:=by
 cases s with
 | FunctionDef _ a=>exact a
 | _=>exact⟨[],[],none,[],[],none,[]⟩
noncomputable def il (s:Stmt):Scope:=by
 cases s with
 | FunctionDef _ _ _ _ _ _ c=>exact c
 | _=>exact default
noncomputable def fX (i j:Nat):Stmt:=(fj (nI i)).getD j (.Pass default)
noncomputable def LU:Stmt:=nI 7
noncomputable def LN:Stmt:=fX 13 0
noncomputable def MB:Stmt:=fX 13 1
noncomputable def Mp:Stmt:=nI 14
noncomputable def Ml:Stmt:=fX 15 1
noncomputable def Ks:Stmt:=fX 15 2
noncomputable def Hb:Stmt:=fX 15 3
noncomputable def Hr:Stmt:=fX 15 4
noncomputable def Hy:Stmt:=fX 15 5
noncomputable def L1:Stmt:=fX 15 6
noncomputable def vq:Stmt:=fX 15 7
noncomputable def KT:Stmt:=fX 15 8
noncomputable def Ha:Stmt:=fX 15 9
noncomputable def IY:Stmt:=fX 15 10
noncomputable def K8:Stmt:=fX 21 0
noncomputable def IL:Stmt:=fX 21 1
noncomputable def Hs:Stmt:=fX 21 5
noncomputable def KO:Stmt:=fX 21 6
noncomputable def JQ:Stmt:=fX 21 13
noncomputable def I7:Stmt:=fX 21 14
noncomputable def JE:Stmt:=fX 21 15
noncomputable def KS:Stmt:=fX 21 39
noncomputable def rJ:Stmt:=fX 21 40
noncomputable def Hu:Stmt:=fX 21 41
noncomputable def Iy:Stmt:=fX 21 42
noncomputable def Jg:Stmt:=fX 21 43
noncomputable def Hv:Stmt:=fX 21 44
noncomputable def Ir:Stmt:=fX 21 45
noncomputable def Kl:Stmt:=fX 21 46
noncomputable def K4:Stmt:=fX 21 47
noncomputable def HT:Stmt:=fX 21 48
noncomputable def Jr:Stmt:=fX 21 49
noncomputable def KH:Stmt:=fX 21 50
noncomputable def JN:Stmt:=fX 21 51
noncomputable def Ka:Stmt:=fX 21 52
noncomputable def Iq:Stmt:=fX 21 53
noncomputable def Ic:Stmt:=fX 21 54
noncomputable def Jx:Stmt:=fX 21 55
noncomputable def KF:Stmt:=nI 25
noncomputable def JJ:Stmt:=nI 26
noncomputable def GN:Stmt:=nI 27
noncomputable def Kk:Stmt:=nI 28
noncomputable def KN:Stmt:=nI 29
noncomputable def Iw:Stmt:=nI 30
noncomputable def iB:Stmt:=nI 31
noncomputable def oT:Stmt:=nI 32
noncomputable def kC:Stmt:=nI 33
noncomputable def eR (s:String) (t:Nat):Value:=.str (Str.ofString s) t
noncomputable def dM (P:Params) (s:String) (t:Nat) (v:Value):DictEntry:=⟨PyData.keyHash P (Str.ofString s),.str (Str.ofString s) t,v⟩
noncomputable abbrev MU (l:List DictEntry) (n:Nat):Obj:={ cls:=.type "dict",dict:=none,data:=.dict l.toArray n,slots:=#[] }
noncomputable abbrev Gm (k:String) (l:cJ):Obj:={ cls:=.type k,dict:=none,data:=.seq l.toArray 0,slots:=#[] }
noncomputable def Gg (n:Nat):Value:=.int n 0
noncomputable def L9 (nm qn:String) (t ln ac fl:Nat) (r1 r2 r3 r4 r5 r6:Value) (x:Nat):Obj:={ cls:=.type "code",dict:=none,data:=.fields #[eR nm t,eR qn (t+1),eR "/claim/cut.py" (t+2),Gg ln,Gg ac,Gg 0,Gg 0,Gg fl,r1,.bool true,Gg 181,r2,r3,r4,r5,r6,Gg x,Gg ln,eR "/claim/cut.py" (x+1)],slots:=#[] }
noncomputable def La (st:Stmt) (nm qn:String) (df md:Value) (c:Addr):Obj:={ cls:=.type "function",dict:=none,data:=.func { name:=Str.ofString nm,qualname:=Str.ofString qn,params:=K2 st,body:=.stmts (fj st),scope:=il st,globals:=3,closure:=[],defaults:=df,kwdefaults:=.none,doc:=.none,pyModule:=md,annotations:=none,code:=.ref c,closureTuple:=.none,builtins:=0 },slots:=#[] }
noncomputable def j4 (a:Addr) (st:Stmt) (nm qn:String) (t ln ac fl x:Nat) (df md:Value) (r:Frag):Frag:=(a,L9 nm qn t ln ac fl (.ref (a - 5)) (.ref (a - 4)) .none (.ref (a - 3)) (.ref (a - 2)) (.ref (a - 1)) x)::(a+1,La st nm qn df md a)::r
noncomputable def QK (a ns m t1 t2:Addr) (nm:String):Obj:={ cls:=.type "type",dict:=none,data:=.cls { name:=Str.ofString nm,bases:=[.type "object"],mro:=[.ref a,.type "object"],ns:=ns,qualname:=Str.ofString nm,hasDict:=true,slotNames:=[],subclasses:=[],abstract:=false,collection:=none,hasDel:=false },slots:=#[some (.ref m),none,some (eR nm t1),some (eR nm t2),some (.builtin "object.__new__"),some (.bool true)] }
noncomputable def RU:Value:=eR "html5lib.constants" 194
noncomputable def yn:Value:=eR "html5lib._inputstream" 564
noncomputable def oo:Value:=eR "html5lib._tokenizer" 827
noncomputable def DD:Value:=eR "law_te0034_05" 1444
noncomputable def fN (P:Params):Frag:=
 (3,MU [dM P "__name__" 165 (eR "law_te0034_05" 1444),dM P "__doc__" 166 .none,dM P "__package__" 167 .none,dM P "__loader__" 168 (.builtin "__main__.__loader__#opaque"),dM P "__spec__" 169 .none,dM P "__annotations__" 170 (.ref 6),dM P "__builtins__" 171 (.ref 4),dM P "__file__" 173 (eR "/claim/cut.py" 172),dM P "__cached__" 174 .none,dM P "_wall" 193 (.ref 21),dM P "EOF" 196 .none,dM P "spaceCharacters" 202 (.ref 22),dM P "asciiLetters" 256 (.ref 27),dM P "digits" 268 (.ref 32),dM P "hexDigits" 292 (.ref 37),dM P "asciiLower" 298 (.ref 42),dM P "entities" 428 (.ref 43),dM P "replacementCharacters" 531 (.ref 46),dM P "tokenTypes" 556 (.ref 48),dM P "tagTokenTypes" 563 (.ref 49),dM P "Text" 604 (.ref 73),dM P "_is_invalid" 611 (.ref 84),dM P "HTMLUnicodeInputStream" 737 (.ref 166),dM P "bisect_left" 751 (.ref 178),dM P "Trie" 826 (.ref 230),dM P "entitiesTrie" 843 (.ref 236),dM P "HTMLTokenizer" 1443 (.ref 762),dM P "_law_PIECES" 1470 (.ref 767),dM P "_law_LETTERS" 1475 (.ref 768),dM P "_law_marks" 1486 (.ref 775),dM P "_law_run" 1496 (.ref 782),dM P "_law_moved" 1504 (.ref 789),dM P "_law_behind" 1513 (.ref 796),dM P "_law_kind" 1520 (.ref 803),dM P "_law_bare" 1526 (.ref 808),dM P "_law_tag" 1532 (.ref 813),dM P "_law_holds" 1538 (.ref 818),dM P "law" 1544 (.ref 823)] 38)::
 (22,Gm "tuple" [eR "\t" 197,eR "\n" 198,eR "\x0c" 199,eR " " 200,eR "\r" 201])::
 (27,Gm "tuple" [eR "a" 204,eR "b" 205,eR "c" 206,eR "d" 207,eR "e" 208,eR "f" 209,eR "g" 210,eR "h" 211,eR "i" 212,eR "j" 213,eR "k" 214,eR "l" 215,eR "m" 216,eR "n" 217,eR "o" 218,eR "p" 219,eR "q" 220,eR "r" 221,eR "s" 222,eR "t" 223,eR "u" 224,eR "v" 225,eR "w" 226,eR "x" 227,eR "y" 228,eR "z" 229,eR "A" 230,eR "B" 231,eR "C" 232,eR "D" 233,eR "E" 234,eR "F" 235,eR "G" 236,eR "H" 237,eR "I" 238,eR "J" 239,eR "K" 240,eR "L" 241,eR "M" 242,eR "N" 243,eR "O" 244,eR "P" 245,eR "Q" 246,eR "R" 247,eR "S" 248,eR "T" 249,eR "U" 250,eR "V" 251,eR "W" 252,eR "X" 253,eR "Y" 254,eR "Z" 255])::
 (41,L9 "asciiLower" "asciiLower" 293 10 1 3 (.ref 38) (.ref 39) .none .none .none (.ref 40) 296)::
 (42,La LU "asciiLower" "asciiLower" .none RU 41)::
 (48,MU [dM P "Doctype" 532 (.int 0 533),dM P "Characters" 534 (.int 1 535),dM P "SpaceCharacters" 536 (.int 2 537),dM P "StartTag" 538 (.int 3 539),dM P "EndTag" 540 (.int 4 541),dM P "EmptyTag" 542 (.int 5 543),dM P "Comment" 544 (.int 6 545),dM P "ParseError" 546 (.int 7 547)] 8)::
 (49,Gm "tuple" [.int 3 539,.int 4 541,.int 5 543])::
 j4 62 LN "__init__" "Text.__init__" 578 19 2 3 583 .none yn (
 j4 69 MB "read" "Text.read" 586 23 2 3 592 .none yn (
 (72,MU [dM P "__module__" 573 (eR "html5lib._inputstream" 564),dM P "__firstlineno__" 577 (.int 17 576),dM P "__init__" 585 (.ref 63),dM P "read" 594 (.ref 70),dM P "__static_attributes__" 597 (.ref 71),dM P "__dict__" 599 (.ref 74),dM P "__weakref__" 601 (.ref 75),dM P "__doc__" 602 .none] 4)::
 (73,QK 73 72 50 566 574 "Text")::
 j4 83 Mp "_is_invalid" "_is_invalid" 605 27 1 3 609 .none yn (
 j4 97 Ml "__init__" "HTMLUnicodeInputStream.__init__" 626 32 2 3 631 .none yn (
 j4 104 Ks "reset" "HTMLUnicodeInputStream.reset" 634 38 1 3 638 .none yn (
 j4 111 Hb "openStream" "HTMLUnicodeInputStream.openStream" 641 47 2 3 647 .none yn (
 j4 118 Hr "_position" "HTMLUnicodeInputStream._position" 650 51 2 3 660 .none yn (
 j4 125 Hy "position" "HTMLUnicodeInputStream.position" 663 62 1 3 669 .none yn (
 j4 132 L1 "char" "HTMLUnicodeInputStream.char" 672 66 1 3 678 .none yn (
 (134,Gm "tuple" [.none])::
 j4 140 vq "readChunk" "HTMLUnicodeInputStream.readChunk" 681 75 2 3 688 (.ref 134) yn (
 j4 147 KT "characterErrorsUCS4" "HTMLUnicodeInputStream.characterErrorsUCS4" 691 101 2 3 697 .none yn (
 (149,Gm "tuple" [.bool false])::
 j4 155 Ha "charsUntil" "HTMLUnicodeInputStream.charsUntil" 700 106 3 3 709 (.ref 149) yn (
 j4 162 IY "unget" "HTMLUnicodeInputStream.unget" 712 125 2 3 717 .none yn (
 (165,MU [dM P "__module__" 619 (eR "html5lib._inputstream" 564),dM P "__firstlineno__" 623 (.int 29 622),dM P "_defaultChunkSize" 625 (.int 10240 624),dM P "__init__" 633 (.ref 98),dM P "reset" 640 (.ref 105),dM P "openStream" 649 (.ref 112),dM P "_position" 662 (.ref 119),dM P "position" 671 (.ref 126),dM P "char" 680 (.ref 133),dM P "readChunk" 690 (.ref 141),dM P "characterErrorsUCS4" 699 (.ref 148),dM P "charsUntil" 711 (.ref 156),dM P "unget" 719 (.ref 163),dM P "__static_attributes__" 730 (.ref 164),dM P "__dict__" 732 (.ref 167),dM P "__weakref__" 734 (.ref 168),dM P "__doc__" 735 .none] 4)::
 (166,QK 166 165 85 612 620 "HTMLUnicodeInputStream")::
 (254,Gm "tuple" [.none])::
 j4 260 K8 "__init__" "HTMLTokenizer.__init__" 856 184 3 3 862 (.ref 254) oo (
 j4 267 IL "__iter__" "HTMLTokenizer.__iter__" 865 193 1 35 869 .none oo (
 j4 296 Hs "emitCurrentToken" "HTMLTokenizer.emitCurrentToken" 910 286 1 3 917 .none oo (
 j4 303 KO "dataState" "HTMLTokenizer.dataState" 920 304 1 3 926 .none oo (
 j4 352 JQ "tagOpenState" "HTMLTokenizer.tagOpenState" 971 342 1 3 976 .none oo (
 j4 359 I7 "closeTagOpenState" "HTMLTokenizer.closeTagOpenState" 979 366 1 3 984 .none oo (
 j4 366 JE "tagNameState" "HTMLTokenizer.tagNameState" 987 384 1 3 992 .none oo (
 j4 534 KS "beforeAttributeNameState" "HTMLTokenizer.beforeAttributeNameState" 1156 471 1 3 1161 .none oo (
 j4 541 rJ "attributeNameState" "HTMLTokenizer.attributeNameState" 1164 498 1 3 1173 .none oo (
 j4 548 Hu "afterAttributeNameState" "HTMLTokenizer.afterAttributeNameState" 1176 537 1 3 1181 .none oo (
 j4 555 Iy "beforeAttributeValueState" "HTMLTokenizer.beforeAttributeValueState" 1184 566 1 3 1189 .none oo (
 j4 562 Jg "attributeValueDoubleQuotedState" "HTMLTokenizer.attributeValueDoubleQuotedState" 1192 596 1 3 1197 .none oo (
 j4 569 Hv "attributeValueSingleQuotedState" "HTMLTokenizer.attributeValueSingleQuotedState" 1200 612 1 3 1205 .none oo (
 j4 576 Ir "attributeValueUnQuotedState" "HTMLTokenizer.attributeValueUnQuotedState" 1208 628 1 3 1213 .none oo (
 j4 583 Kl "afterAttributeValueState" "HTMLTokenizer.afterAttributeValueState" 1216 649 1 3 1221 .none oo (
 j4 590 K4 "selfClosingStartTagState" "HTMLTokenizer.selfClosingStartTagState" 1224 667 1 3 1229 .none oo (
 j4 597 HT "bogusCommentState" "HTMLTokenizer.bogusCommentState" 1232 682 1 3 1237 .none oo (
 j4 604 Jr "markupDeclarationOpenState" "HTMLTokenizer.markupDeclarationOpenState" 1240 690 1 3 1247 .none oo (
 j4 611 KH "commentStartState" "HTMLTokenizer.commentStartState" 1250 715 1 3 1255 .none oo (
 j4 618 JN "commentStartDashState" "HTMLTokenizer.commentStartDashState" 1258 735 1 3 1263 .none oo (
 j4 625 Ka "commentState" "HTMLTokenizer.commentState" 1266 755 1 3 1271 .none oo (
 j4 632 Iq "commentEndDashState" "HTMLTokenizer.commentEndDashState" 1274 770 1 3 1279 .none oo (
 j4 639 Ic "commentEndState" "HTMLTokenizer.commentEndState" 1282 787 1 3 1287 .none oo (
 j4 646 Jx "commentEndBangState" "HTMLTokenizer.commentEndBangState" 1290 812 1 3 1295 .none oo (
 (761,MU [dM P "__module__" 851 (eR "html5lib._tokenizer" 827),dM P "__firstlineno__" 855 (.int 182 854),dM P "__init__" 864 (.ref 261),dM P "__iter__" 871 (.ref 268),dM P "consumeNumberEntity" 886 (.ref 275),dM P "consumeEntity" 901 (.ref 283),dM P "processEntityInAttribute" 909 (.ref 290),dM P "emitCurrentToken" 919 (.ref 297),dM P "dataState" 928 (.ref 304),dM P "entityDataState" 935 (.ref 311),dM P "rcdataState" 942 (.ref 318),dM P "characterReferenceInRcdata" 949 (.ref 325),dM P "rawtextState" 956 (.ref 332),dM P "scriptDataState" 963 (.ref 339),dM P "plaintextState" 970 (.ref 346),dM P "tagOpenState" 978 (.ref 353),dM P "closeTagOpenState" 986 (.ref 360),dM P "tagNameState" 994 (.ref 367),dM P "rcdataLessThanSignState" 1001 (.ref 374),dM P "rcdataEndTagOpenState" 1008 (.ref 381),dM P "rcdataEndTagNameState" 1015 (.ref 388),dM P "rawtextLessThanSignState" 1022 (.ref 395),dM P "rawtextEndTagOpenState" 1029 (.ref 402),dM P "rawtextEndTagNameState" 1036 (.ref 409),dM P "scriptDataLessThanSignState" 1043 (.ref 416),dM P "scriptDataEndTagOpenState" 1050 (.ref 423),dM P "scriptDataEndTagNameState" 1057 (.ref 430),dM P "scriptDataEscapeStartState" 1064 (.ref 437),dM P "scriptDataEscapeStartDashState" 1071 (.ref 444),dM P "scriptDataEscapedState" 1078 (.ref 451),dM P "scriptDataEscapedDashState" 1085 (.ref 458),dM P "scriptDataEscapedDashDashState" 1092 (.ref 465),dM P "scriptDataEscapedLessThanSignState" 1099 (.ref 472),dM P "scriptDataEscapedEndTagOpenState" 1106 (.ref 479),dM P "scriptDataEscapedEndTagNameState" 1113 (.ref 486),dM P "scriptDataDoubleEscapeStartState" 1120 (.ref 493),dM P "scriptDataDoubleEscapedState" 1127 (.ref 500),dM P "scriptDataDoubleEscapedDashState" 1134 (.ref 507),dM P "scriptDataDoubleEscapedDashDashState" 1141 (.ref 514),dM P "scriptDataDoubleEscapedLessThanSignState" 1148 (.ref 521),dM P "scriptDataDoubleEscapeEndState" 1155 (.ref 528),dM P "beforeAttributeNameState" 1163 (.ref 535),dM P "attributeNameState" 1175 (.ref 542),dM P "afterAttributeNameState" 1183 (.ref 549),dM P "beforeAttributeValueState" 1191 (.ref 556),dM P "attributeValueDoubleQuotedState" 1199 (.ref 563),dM P "attributeValueSingleQuotedState" 1207 (.ref 570),dM P "attributeValueUnQuotedState" 1215 (.ref 577),dM P "afterAttributeValueState" 1223 (.ref 584),dM P "selfClosingStartTagState" 1231 (.ref 591),dM P "bogusCommentState" 1239 (.ref 598),dM P "markupDeclarationOpenState" 1249 (.ref 605),dM P "commentStartState" 1257 (.ref 612),dM P "commentStartDashState" 1265 (.ref 619),dM P "commentState" 1273 (.ref 626),dM P "commentEndDashState" 1281 (.ref 633),dM P "commentEndState" 1289 (.ref 640),dM P "commentEndBangState" 1297 (.ref 647),dM P "doctypeState" 1305 (.ref 654),dM P "beforeDoctypeNameState" 1313 (.ref 661),dM P "doctypeNameState" 1321 (.ref 668),dM P "afterDoctypeNameState" 1331 (.ref 675),dM P "afterDoctypePublicKeywordState" 1339 (.ref 682),dM P "beforeDoctypePublicIdentifierState" 1347 (.ref 689),dM P "doctypePublicIdentifierDoubleQuotedState" 1355 (.ref 696),dM P "doctypePublicIdentifierSingleQuotedState" 1363 (.ref 703),dM P "afterDoctypePublicIdentifierState" 1371 (.ref 710),dM P "betweenDoctypePublicAndSystemIdentifiersState" 1379 (.ref 717),dM P "afterDoctypeSystemKeywordState" 1387 (.ref 724),dM P "beforeDoctypeSystemIdentifierState" 1395 (.ref 731),dM P "doctypeSystemIdentifierDoubleQuotedState" 1403 (.ref 738),dM P "doctypeSystemIdentifierSingleQuotedState" 1411 (.ref 745),dM P "afterDoctypeSystemIdentifierState" 1419 (.ref 752),dM P "bogusDoctypeState" 1427 (.ref 759),dM P "__static_attributes__" 1436 (.ref 760),dM P "__dict__" 1438 (.ref 763),dM P "__weakref__" 1440 (.ref 764),dM P "__doc__" 1441 .none] 4)::
 (762,QK 762 761 247 844 852 "HTMLTokenizer")::
 (767, Gm "list" [eR "<" 1446, eR ">" 1447, eR "/" 1448, eR "a" 1449, eR " " 1450, eR "\n" 1451, eR "!" 1452, eR "-" 1453, eR "--" 1454, eR "<!--" 1455, eR "-->" 1456, eR "=" 1457, eR "\"" 1458, eR "'" 1459, eR "<b " 1460, eR "</" 1461, eR "?" 1462, eR "x=" 1463, eR "<!" 1464, eR "</b>" 1465, eR "<a" 1466, eR "Q" 1467, eR "1" 1468, eR "é" 1469]) ::
 (768,Gm "tuple" [eR "a" 1471,eR "b" 1472,eR "x" 1473,eR "Q" 1474])::
 j4 774 KF "_law_marks" "_law_marks" 1476 1188 1 3 1484 .none DD (
 j4 781 JJ "_law_run" "_law_run" 1487 1194 1 3 1494 .none DD (
 j4 788 GN "_law_moved" "_law_moved" 1497 1200 2 3 1502 .none DD (
 j4 795 Kk "_law_behind" "_law_behind" 1505 1204 3 3 1511 .none DD (
 j4 802 KN "_law_kind" "_law_kind" 1514 1208 1 3 1518 .none DD (
 (807,L9 "_law_bare" "_law_bare" 1521 1222 1 3 (.ref 804) (.ref 805) .none .none .none (.ref 806) 1524)::
 (808,La Iw "_law_bare" "_law_bare" .none DD 807)::
 (812,L9 "_law_tag" "_law_tag" 1527 1224 5 3 (.ref 809) (.ref 810) .none .none .none (.ref 811) 1530)::
 (813,La iB "_law_tag" "_law_tag" .none DD 812)::
 (817,L9 "_law_holds" "_law_holds" 1533 1237 3 3 (.ref 814) (.ref 815) .none .none .none (.ref 816) 1536)::
 (818,La oT "_law_holds" "_law_holds" .none DD 817)::
 (822,L9 "law" "law" 1539 1247 1 3 (.ref 819) (.ref 820) .none .none .none (.ref 821) 1542)::
 (823,La kC "law" "law" .none DD 822)::
 []))))))))))))))))))))))))))))))))))))))))))
noncomputable def Gc:cK:=[3,22,27,41,42,48,49,62,63,69,70,72,73,83,84,97,98,104,105,111,112,118,119,125,126,132,133,134,140,141,147,148,149,155,156,162,163,165,166,254,260,261,267,268,296,297,303,304,352,353,359,360,366,367,534,535,541,542,548,549,555,556,562,563,569,570,576,577,583,584,590,591,597,598,604,605,611,612,618,619,625,626,632,633,639,640,646,647,761,762,767,768,774,775,781,782,788,789,795,796,802,803,807,808,812,813,817,818,822,823]
noncomputable def iG:cL:=[Str.ofString "_wall",Str.ofString "EOF",Str.ofString "spaceCharacters",Str.ofString "asciiLetters",Str.ofString "digits",Str.ofString "hexDigits",Str.ofString "asciiLower",Str.ofString "entities",Str.ofString "replacementCharacters",Str.ofString "tokenTypes",Str.ofString "tagTokenTypes",Str.ofString "Text",Str.ofString "_is_invalid",Str.ofString "HTMLUnicodeInputStream",Str.ofString "bisect_left",Str.ofString "Trie",Str.ofString "entitiesTrie",Str.ofString "HTMLTokenizer",Str.ofString "_law_PIECES",Str.ofString "_law_LETTERS",Str.ofString "_law_marks",Str.ofString "_law_run",Str.ofString "_law_moved",Str.ofString "_law_behind",Str.ofString "_law_kind",Str.ofString "_law_bare",Str.ofString "_law_tag",Str.ofString "_law_holds"]
noncomputable def fJ:Program:=PySem.W.view pw [33]
theorem Lz (P:Params):Gc=(fN P).map (·.1):=by kernel_rfl
noncomputable def fw:Hook:=kHook fN Gc Lz
noncomputable abbrev qP (s:Shared):Bool:=xlAt fJ [] s&&recOk (RowW.records (OpenRow.toRowW LV.row)) s
end
end
section
theorem Mg (w:World):(λos=>(PySem.W.Fast.tw10110043849684766642 PySem.W.Fast.tw14364793385576792824 pw (w.withFollow "special-get-raises" false) 11 (some (.ref 6)) 0 8540 (ub (w.withFollow "special-get-raises" false) os) (topStub pw)).map λr=>mU pw fJ iG qP fw.obs (w.withFollow "special-get-raises" false).params r.2.1.abs)=λy=>some (true,openGood fJ iG,fw.val (w.withFollow "special-get-raises" false)):=by kernel_rfl
theorem OI (w:World):(λos=>(PySem.W.Fast.tw10110043849684766642 PySem.W.Fast.tw14364793385576792824 pw (w.withFollow "special-get-raises" true) 11 (some (.ref 6)) 0 8540 (ub (w.withFollow "special-get-raises" true) os) (topStub pw)).map λr=>mU pw fJ iG qP fw.obs (w.withFollow "special-get-raises" true).params r.2.1.abs)=λy=>some (true,openGood fJ iG,fw.val (w.withFollow "special-get-raises" true)):=by kernel_rfl
end
section
theorem I9:namesResolve pw=true:=by
 rw[PySem.W.Fast.te8377067652309620493];kernel_rfl
theorem K1:noRoadLSs { strict:= !(importedModules pw.main.body).all cThrough.contains,foot:=none,bare:=(["vars","dir","locals"]:cL).filter (readsOut pw pw.main.body) } pw.main.body=true:=by
 rw[PySem.W.Fast.te8326940854005059898];kernel_rfl
theorem ID:(namesMeet pw pw.main.body λy n=>attrL n)=true:=by
 rw[PySem.W.Fast.te17119622794617984870];kernel_rfl
theorem LK:looksOpen LV.row.prog=true:=by
 unfold looksOpen
 repeat' (with_reducible refine look_both ?_ ?_)
 . rw[PySem.W.Fast.te11788848310118352699];kernel_rfl
 . kernel_rfl
 . exact I9
 . rw[PySem.W.Fast.te18344453789297297638];kernel_rfl
 . exact K1
 . exact ID
theorem NT:LV.wellSaid=true:=by
 unfold OpenLaw.wellSaid OpenRow.wellSaid OpenRow.partSaid
 repeat' (with_reducible first | exact LK | refine look_both ?_ ?_)
 all_goals first
  | (rw[PySem.W.Fast.te17119622794617984870];kernel_rfl)
  | (rw[PySem.W.Fast.te8326940854005059898];kernel_rfl)
  | (rw[PySem.W.Fast.te8179353310426384613];kernel_rfl)
  | (rw[PySem.W.Fast.te9558739934217749035];kernel_rfl)
  | (rw[PySem.W.Fast.te16286561074155671207];kernel_rfl)
  | (rw[PySem.W.Fast.te5318747976498570220];kernel_rfl)
  | (rw[PySem.W.Fast.te18344453789297297638];kernel_rfl)
  | (rw[PySem.W.Fast.te797321630700447069];kernel_rfl)
  | (rw[PySem.W.Fast.te10501279942588096481];kernel_rfl)
  | kernel_rfl
end
section
theorem Fv (w:World):(λos=>(segRunT treeTable pw w 11 (some (.ref 6)) 0 8540 (ub w os) (topStub pw)).map λr=>mU pw fJ iG qP fw.obs w.params r.2.1.abs)=λy=>some (true,openGood fJ iG,fw.val w):=by
 rw[PySem.W.Fast.te10110043849684766642,PySem.W.Fast.te14364793385576792824];exact byRow2 "special-get-raises" (P:=λw=>(λos=>(PySem.W.Fast.tw10110043849684766642 PySem.W.Fast.tw14364793385576792824 pw w 11 (some (.ref 6)) 0 8540 (ub w os) (topStub pw)).map λr=>mU pw fJ iG qP fw.obs w.params r.2.1.abs)=λy=>some (true,openGood fJ iG,fw.val w)) Mg OI w
theorem Ly:opening pw=plainProg pw.main.scope.names:=by kernel_rfl
theorem Jy (s:Shared):fenceModules? pw s=some s:=by kernel_rfl
theorem Ob (w:World):((boot_heap w.params).isNs mainGlobals&&(#[]:Array GenState).size==0,(boot_heap w.params).objs.size,(boot_heap w.params).nsMap mainGlobals "__annotations__")=(true,11,some (.ref 6)):=by kernel_rfl
theorem Mw:LeftO pw fJ iG qP fw.obs fw.val 8540:=DZ Ly (by decide) Jy Ob Fv (by decide)
theorem Du (h:∀ d kwd,d.name=LV.row.name->WalkO fJ iG (XL fJ []) fw.says LV.row.toRowW d kwd λf vs=>PySem.call f vs):PySem.Challenge.rw_te0034_05.Holds:=by
 refine holds_law NT λsaid=>?_
 refine holds_open (q:=fJ) (loose:=iG) (Xt:=qP) (XP:=XL fJ []) (Yf:=fw.obs) (Ya:=fw.val) (YP:=fw.says) (N:=8540) Mw fw.of fw.keeps (λs e=>xl_of s (Bool.and_eq_true_iff.mp e).1) XL.keeps (by rfl) (by rfl) (by rfl) (λs e=>recFacts_of (Bool.and_eq_true_iff.mp e).2) ?d said ?e ?f ?hw (h _ _ (defOf_name (p:=fJ) (by rfl)))
 case d=>rfl
 case e=>decide+kernel
 case f=>exact⟨rfl,rfl,rfl,rfl,rfl,by decide+kernel⟩
 case hw=>w_witness2
end
section
section
universe u0 u1 u2 u3 u4 u5
variable {α:Sort u0} {β:Sort u1} {γ:Sort u2} {δ:Sort u3} {ε:Sort u4} {ζ:Sort u5} {G:Prop}
theorem xr {p q r:Prop} (h:p/\q/\r) (k:p->q->r->G):G:=k h.1 h.2.1 h.2.2
theorem Rw {p q r s:Prop} (h:p/\q/\r/\s) (k:p->q->r->s->G):G:=k h.1 h.2.1 h.2.2.1 h.2.2.2
theorem dQ {p q:α->Prop} (h:∃ a,p a/\q a) (k:∀ a,p a->q a->G):G:=h.elim λa y0=>k a y0.1 y0.2
theorem kW {p q r:α->Prop} (h:∃ a,p a/\q a/\r a) (k:∀ a,p a->q a->r a->G):G:=h.elim λa y0=>k a y0.1 y0.2.1 y0.2.2
theorem Lc {p q r s:α->Prop} (h:∃ a,p a/\q a/\r a/\s a) (k:∀ a,p a->q a->r a->s a->G):G:=h.elim λa y0=>k a y0.1 y0.2.1 y0.2.2.1 y0.2.2.2
theorem Rm {p:α->β->Prop} (h:∃ a b,p a b) (k:∀ a b,p a b->G):G:=h.elim λa y0=>y0.elim λb y1=>k a b y1
theorem iM {p q:α->β->Prop} (h:∃ a b,p a b/\q a b) (k:∀ a b,p a b->q a b->G):G:=h.elim λa y0=>y0.elim λb y1=>k a b y1.1 y1.2
theorem jJ {p q r:α->β->Prop} (h:∃ a b,p a b/\q a b/\r a b) (k:∀ a b,p a b->q a b->r a b->G):G:=h.elim λa y0=>y0.elim λb y1=>k a b y1.1 y1.2.1 y1.2.2
theorem FO {p q r s:α->β->Prop} (h:∃ a b,p a b/\q a b/\r a b/\s a b) (k:∀ a b,p a b->q a b->r a b->s a b->G):G:=h.elim λa y0=>y0.elim λb y1=>k a b y1.1 y1.2.1 y1.2.2.1 y1.2.2.2
theorem RP {p:α->β->γ->Prop} (h:∃ a b c,p a b c) (k:∀ a b c,p a b c->G):G:=h.elim λa y0=>y0.elim λb y1=>y1.elim λc y2=>k a b c y2
theorem Ry {p q:α->β->γ->Prop} (h:∃ a b c,p a b c/\q a b c) (k:∀ a b c,p a b c->q a b c->G):G:=h.elim λa y0=>y0.elim λb y1=>y1.elim λc y2=>k a b c y2.1 y2.2
theorem jS {p q r:α->β->γ->Prop} (h:∃ a b c,p a b c/\q a b c/\r a b c) (k:∀ a b c,p a b c->q a b c->r a b c->G):G:=h.elim λa y0=>y0.elim λb y1=>y1.elim λc y2=>k a b c y2.1 y2.2.1 y2.2.2
theorem Pi {p q r s:α->β->γ->Prop} (h:∃ a b c,p a b c/\q a b c/\r a b c/\s a b c) (k:∀ a b c,p a b c->q a b c->r a b c->s a b c->G):G:=h.elim λa y0=>y0.elim λb y1=>y1.elim λc y2=>k a b c y2.1 y2.2.1 y2.2.2.1 y2.2.2.2
theorem RH {p q r s t:α->β->γ->Prop} (h:∃ a b c,p a b c/\q a b c/\r a b c/\s a b c/\t a b c) (k:∀ a b c,p a b c->q a b c->r a b c->s a b c->t a b c->G):G:=h.elim λa y0=>y0.elim λb y1=>y1.elim λc y2=>k a b c y2.1 y2.2.1 y2.2.2.1 y2.2.2.2.1 y2.2.2.2.2
theorem R8 {p q r s t u:α->β->γ->Prop} (h:∃ a b c,p a b c/\q a b c/\r a b c/\s a b c/\t a b c/\u a b c) (k:∀ a b c,p a b c->q a b c->r a b c->s a b c->t a b c->u a b c->G):G:=h.elim λa y0=>y0.elim λb y1=>y1.elim λc y2=>k a b c y2.1 y2.2.1 y2.2.2.1 y2.2.2.2.1 y2.2.2.2.2.1 y2.2.2.2.2.2
theorem Rh {p q r:α->β->γ->δ->ε->Prop} (h:∃ a b c d e,p a b c d e/\q a b c d e/\r a b c d e) (k:∀ a b c d e,p a b c d e->q a b c d e->r a b c d e->G):G:=h.elim λa y0=>y0.elim λb y1=>y1.elim λc y2=>y2.elim λd y3=>y3.elim λe y4=>k a b c d e y4.1 y4.2.1 y4.2.2
theorem Sc {p q r s:α->β->γ->δ->ε->Prop} (h:∃ a b c d e,p a b c d e/\q a b c d e/\r a b c d e/\s a b c d e) (k:∀ a b c d e,p a b c d e->q a b c d e->r a b c d e->s a b c d e->G):G:=h.elim λa y0=>y0.elim λb y1=>y1.elim λc y2=>y2.elim λd y3=>y3.elim λe y4=>k a b c d e y4.1 y4.2.1 y4.2.2.1 y4.2.2.2
theorem Rk {p:α->β->γ->δ->ε->ζ->Prop} (h:∃ a b c d e f,p a b c d e f) (k:∀ a b c d e f,p a b c d e f->G):G:=h.elim λa y0=>y0.elim λb y1=>y1.elim λc y2=>y2.elim λd y3=>y3.elim λe y4=>y4.elim λf y5=>k a b c d e f y5
theorem Rp {p q:α->β->γ->δ->ε->ζ->Prop} (h:∃ a b c d e f,p a b c d e f/\q a b c d e f) (k:∀ a b c d e f,p a b c d e f->q a b c d e f->G):G:=h.elim λa y0=>y0.elim λb y1=>y1.elim λc y2=>y2.elim λd y3=>y3.elim λe y4=>y4.elim λf y5=>k a b c d e f y5.1 y5.2
theorem Rl {p q r:α->β->γ->δ->ε->ζ->Prop} (h:∃ a b c d e f,p a b c d e f/\q a b c d e f/\r a b c d e f) (k:∀ a b c d e f,p a b c d e f->q a b c d e f->r a b c d e f->G):G:=h.elim λa y0=>y0.elim λb y1=>y1.elim λc y2=>y2.elim λd y3=>y3.elim λe y4=>y4.elim λf y5=>k a b c d e f y5.1 y5.2.1 y5.2.2
end
theorem MO {α:Type} {P:List α->Prop} (h:P []) (vs:List α) (e:vs.length=0):P vs:=b7 e▸h
theorem Fi {α:Type} {n:Nat} {P:List α->Prop} (h:∀ a vs,vs.length=n->P (a::vs)) (vs:List α):vs.length=n+1->P vs:=List.casesOn vs (λe=>nomatch e) λa vs e=>h a vs (Nat.succ.inj e)
theorem Q7 {α:Type} {P:List α->Prop} (h:∀ a,P [a]):∀ vs:List α,vs.length=1->P vs:=Fi λa=>MO (P:=λl=>P (a::l)) (h a)
theorem Qf {α:Type} {P:List α->Prop} (h:∀ a b c,P [a,b,c]):∀ vs:List α,vs.length=3->P vs:=Fi λa=>Fi (P:=λl=>P (a::l)) λb=>Fi (P:=λl=>P (a::b::l)) λc=>MO (P:=λl=>P (a::b::c::l)) (h a b c)
end
local macro_rules | `(tactic| omega)=> `(tactic| first | assumption | exact dR rfl | exact dt ‹_› (dR rfl) | lia)
set_option bootstrap.genMatcherCode false
section
noncomputable abbrev S (l:cF):Str:=⟨l.toArray⟩
set_option genCtorIdx true in
set_option genInjectivity true in
inductive AV where
 | none | bool (b:Bool) | int (i:Int) | str (l:cF) | lit (v:Value) | ref (a:Addr)
 | tup (l:List AV) | lst (l:List AV) | dct (l:List (Str×AV)) | meth (f self:Addr) | obj (p:Obj->Prop) | any
abbrev cR:=List (Nat×AV)
abbrev cN:=Option AV
abbrev cG:=List AV
abbrev HL:=List (Value×AV)
abbrev FL:=List (Str×AV)
abbrev LL:=List (Str×cN)
abbrev Fz:=Addr->Option Obj
noncomputable abbrev lr (vs:cJ) (n:Nat):Obj:={ cls:=.type "tuple",data:=.seq vs.toArray n }
noncomputable abbrev dU (vs:cJ) (n:Nat):Obj:={ cls:=.type "list",data:=.seq vs.toArray n }
mutual
inductive Is (P:Params) (F:Fz):Value->AV->Prop
 | none:Is P F .none .none
 | bool (b):Is P F (.bool b) (.bool b)
 | int (i t):Is P F (.int i t) (.int i)
 | str (l t):Is P F (.str (S l) t) (.str l)
 | lit (v):Is P F v (.lit v)
 | ref (a):Is P F (.ref a) (.ref a)
 | tup {a vs n l}:F a=some (lr vs n)->IsAll P F vs l->Is P F (.ref a) (.tup l)
 | lst {a vs n l}:F a=some (dU vs n)->IsAll P F vs l->Is P F (.ref a) (.lst l)
 | dct {a es n l}:F a=some (dictOf es n)->IsEnts P F es l->(l.map (·.1)).Nodup->(a==sysModules)=false->Is P F (.ref a) (.dct l)
 | meth {a f self}:F a=some (methodObj (.ref f) (.ref self))->Is P F (.ref a) (.meth f self)
 | obj {a o p}:F a=some o->p o->Is P F (.ref a) (.obj p)
 | any (v):Is P F v .any
inductive IsAll (P:Params) (F:Fz):cJ->cG->Prop
 | nil:IsAll P F [] []
 | cons {v d vs l}:Is P F v d->IsAll P F vs l->IsAll P F (v::vs) (d::l)
inductive IsEnts (P:Params) (F:Fz):List DictEntry->FL->Prop
 | nil:IsEnts P F [] []
 | cons {x t v d es l}:Is P F v d->IsEnts P F es l->IsEnts P F (⟨PyData.keyHash P x,.str x t,v⟩::es) ((x,d)::l)
end
def Fz.le (F F':Fz):Prop:=∀ b o,F b=some o->F' b=some o
theorem Fz.le.refl (F:Fz):F.le F:=λy y e=>e
theorem Fz.le.trans {F G H:Fz} (a:F.le G) (b:G.le H):F.le H:=λx o e=>b x o (a x o e)
section
variable {P:Params} {F F':Fz}
theorem Is.mono (k:F.le F') {v:Value} {d:AV} (h:Is P F v d):Is P F' v d:=
 Is.rec (motive_1:=λv d y=>Is P F' v d) (motive_2:=λvs l y=>IsAll P F' vs l) (motive_3:=λes l y=>IsEnts P F' es l) .none .bool .int .str .lit .ref (λh y r=>.tup (k _ _ h) r) (λh y r=>.lst (k _ _ h) r) (λh y n q r=>.dct (k _ _ h) r n q) (λh=>.meth (k _ _ h)) (λh q=>.obj (k _ _ h) q) .any .nil (λy y a b=>.cons a b) .nil (λy y a b=>.cons a b) h
theorem IsAll.ind {C:cJ->cG->Prop} (nil:C [] []) (cons:∀ v d vs l,Is P F v d->IsAll P F vs l->C vs l->C (v::vs) (d::l)) {vs:cJ} {l:cG} (h:IsAll P F vs l):C vs l:=
 IsAll.rec (motive_1:=λy y y=>True) (motive_2:=λvs l y=>C vs l) (motive_3:=λy y y=>True) trivial (λy=>trivial) (λy y=>trivial) (λy y=>trivial) (λy=>trivial) (λy=>trivial) (λy y y=>trivial) (λy y y=>trivial) (λy y y y y=>trivial) (λy=>trivial) (λy y=>trivial) (λy=>trivial) nil (λh r y c=>cons _ _ _ _ h r c) trivial (λy y y y=>trivial) h
theorem IsEnts.ind {C:List DictEntry->FL->Prop} (nil:C [] []) (cons:∀ x t v d es l,Is P F v d->IsEnts P F es l->C es l->C (⟨PyData.keyHash P x,.str x t,v⟩::es) ((x,d)::l)) {es:List DictEntry} {l:FL} (h:IsEnts P F es l):C es l:=
 IsEnts.rec (motive_1:=λy y y=>True) (motive_2:=λy y y=>True) (motive_3:=λes l y=>C es l) trivial (λy=>trivial) (λy y=>trivial) (λy y=>trivial) (λy=>trivial) (λy=>trivial) (λy y y=>trivial) (λy y y=>trivial) (λy y y y y=>trivial) (λy=>trivial) (λy y=>trivial) (λy=>trivial) trivial (λy y y y=>trivial) nil (λh r y c=>cons _ _ _ _ _ _ h r c) h
theorem IsAll.mono (k:F.le F') {vs:cJ} {l:cG} (h:IsAll P F vs l):IsAll P F' vs l:=h.ind .nil λy y y y q y c=>.cons (q.mono k) c
theorem IsEnts.mono (k:F.le F') {es:List DictEntry} {l:FL} (h:IsEnts P F es l):IsEnts P F' es l:=h.ind .nil λy y y y y y q y c=>.cons (q.mono k) c
end
inductive AO where
 | inst (C dx:Addr) (fs:FL)
 | list (l:cG)
 | dict (l:FL)
 | cell (v:cN)
 | is (p:Obj->Prop)
noncomputable def AO.ctorIdx (x:AO):Nat:=AO.casesOn x (λy y y=>0) (λy=>1) (λy=>2) (λy=>3) (λy=>4)
abbrev OL:=List (Addr×AO)
noncomputable def AO.more:AO->cK
 | .inst _ dx _=>[dx]
 | _=>[]
noncomputable def dg:OL->cK
 | []=>[]
 | p::r=>p.1::(p.2.more++dg r)
def zt (P:Params) (F:Fz) (h:Heap) (a:Addr):AO->Prop
 | .inst C dx fs=>h.get? a=some (instObj C dx)/\∃ es n,h.get? dx=some (dictOf es n)/\IsEnts P F es fs
 | .list l=>∃ vs n,h.get? a=some (dU vs n)/\IsAll P F vs l
 | .dict l=>(∃ es n,h.get? a=some (dictOf es n)/\IsEnts P F es l)/\(l.map (·.1)).Nodup/\(a==sysModules)=false
 | .cell none=>h.IsCell a none
 | .cell (some d)=>∃ v,h.IsCell a (some v)/\Is P F v d
 | .is p=>∃ o,h.get? a=some o/\p o
set_option genInjectivity true in
structure St where
 loc:LL
 objs:OL
structure Holds (P:Params) (G:Heap) (L:Addr) (F:Fz) (H:HL) (σ:St) (h:Heap):Prop where
 core:∀ b o,G.get? b=some o->F b=some o
 sub:∀ b o,F b=some o->h.get? b=some o
 loc:∃ m,h.Ns L m/\∀ x d,(x,some d)∈σ.loc->∃ v,m x=some v/\Is P F v d
 names:(σ.loc.map (·.1)).Nodup
 objs:∀ p∈σ.objs,zt P F h p.1 p.2
 nodup:(L::dg σ.objs).Nodup
 apart:∀ b∈L::dg σ.objs,F b=none
 held:∀ p∈H,Is P F p.1 p.2
 low:G.objs.size<=L
structure gq (a b:Array GenState):Prop where
 keep:∀ (g:Nat) (x:GenState),a[g]? =some x->b[g]? =some x
 bare:∀ (g:Nat) (x:GenState),b[g]? =some x->a[g]? =some x\/x.bare=true
theorem gq.refl (a:Array GenState):gq a a:=⟨λy y e=>e,λy y e=>.inl e⟩
theorem gq.of {a b:Array GenState} (h:b=a):gq a b:=h▸.refl a
theorem gq.trans {a b c:Array GenState} (x:gq a b) (y:gq b c):gq a c:=⟨λg z e=>y.keep g z (x.keep g z e),λg z e=>(y.bare g z e).elim (x.bare g z) .inr⟩
structure eu (O:cK) (F:Fz) (s:Shared) (O':cK) (F':Fz) (s':Shared):Prop where
 keep:∀ b o,b∉O->s.heap.get? b=some o->s'.heap.get? b=some o
 own:∀ b∈O',b∈O\/s.heap.get? b=none
 frz:∀ b o,F' b=some o->F b=some o\/b∈O\/s.heap.get? b=none
 mono:F.le F'
 gens:gq s.gens s'.gens
 os:s'.os=s.os
theorem eu.refl (O:cK) (F:Fz) (s:Shared):eu O F s O F s:=
 ⟨λy y y e=>e,λy h=>.inl h,λy y e=>.inl e,.refl F,.refl _,rfl⟩
theorem wS {h h':Heap} (k:∀ b o,h.get? b=some o->h'.get? b=some o) {b:Addr} (e:h'.get? b=none):h.get? b=none:=
 aZ.mpr λo w=>nomatch (k b o w).symm.trans e
theorem eu.trans {O F s O' F' s' O'' F'' s''} (a:eu O F s O' F' s') (b:eu O' F' s' O'' F'' s''):eu O F s O'' F'' s'':=
 have kc:∀ x,s'.heap.get? x=none->x∈O\/s.heap.get? x=none:=λx hx=>
  (Classical.em (x∈O)).imp_right λhm=>aZ.mpr λo w=>nomatch (a.keep x o hm w).symm.trans hx
 ⟨λx o hx e=>b.keep x o (λhm=>(a.own x hm).elim hx λh=>nomatch h.symm.trans e) (a.keep x o hx e),λx hx=>(b.own x hx).elim (a.own x) (kc x),
  λx o e=>(b.frz x o e).elim (a.frz x o) λh=>.inr (h.elim (a.own x) (kc x)),a.mono.trans b.mono,a.gens.trans b.gens,b.os.trans a.os⟩
theorem eu.over {O O0 O':cK} {F F':Fz} {s s0 s':Shared} (p:eu O0 F s0 O' F' s') (low:∀ b∈O0,b∈O\/s.heap.get? b=none) (k:∀ b o,s.heap.get? b=some o->s0.heap.get? b=some o) (g:gq s.gens s0.gens) (os:s0.os=s.os):eu O F s O' F' s':=
 ⟨λb o hb e=>p.keep b o (λhm=>(low b hm).elim hb λz=>nomatch z.symm.trans e) (k _ _ e),λb hb=>(p.own b hb).elim (low b) λz=>.inr (wS k z),
  λb o e=>(p.frz b o e).imp_right λz=>z.elim (low b) λz=>.inr (wS k z),p.mono,g.trans p.gens,p.os.trans os⟩
theorem eu.fewer {O O' O'':cK} {F F':Fz} {s s':Shared} (p:eu O F s O' F' s') (h:∀ b∈O'',b∈O'):eu O F s O'' F' s':=⟨p.keep,λb hb=>p.own b (h b hb),p.frz,p.mono,p.gens,p.os⟩
theorem dK {oe:OL} {b:Addr}:b∈dg oe↔∃ p∈oe,b=p.1\/b∈p.2.more:=by
 induction oe with
 | nil =>simp[dg]
 | cons p r ih=>
  simp only[dg,List.mem_cons,bT,ih]
  constructor
  . rintro (h | h | ⟨q,hq,h⟩)
    . exact⟨p,.inl rfl,.inl h⟩
    . exact⟨p,.inl rfl,.inr h⟩
    . exact⟨q,.inr hq,h⟩
  . intro z9;refine dQ z9 ?_;clear z9;rintro q (rfl | hq) h
    . rcases h with h | h
      . exact .inl h
      . exact .inr (.inl h)
    . exact .inr (.inr ⟨q,hq,h⟩)
theorem fg (a b:OL):dg (a++b)=dg a++dg b:=by
 induction a with
 | nil=>rfl
 | cons p r ih=>simp[dg,ih]
theorem zt.there {P:Params} {F:Fz} {h:Heap} {a:Addr} {o:AO} (H:zt P F h a o):∀ b,b=a\/b∈o.more->∃ x,h.get? b=some x:=by
 intro b hb
 cases o with
 | inst C dx fs=>
  obtain⟨h1,es,n,h2,_⟩:=H
  rcases hb with rfl | hb
  . exact⟨_,h1⟩
  . exact(bq.mp hb)▸(⟨_,h2⟩)
 | list l=>refine iM (H) ?_;clear H;rintro vs n h1 y;rcases hb with rfl | hb;exact⟨_,h1⟩;contradiction
 | dict l=>obtain⟨⟨vs,n,h1,_⟩,_⟩:=H;rcases hb with rfl | hb;exact⟨_,h1⟩;contradiction
 | cell v=>
  induction v using Option.casesOn with
  | none=>refine dQ (H) ?_;clear H;rintro o h1 y;rcases hb with rfl | hb;exact⟨_,h1⟩;contradiction
  | some d=>refine dQ (H) ?_;clear H;rintro v ⟨o,h1,_⟩ _;rcases hb with rfl | hb;exact⟨_,h1⟩;contradiction
 | is p=>refine dQ (H) ?_;clear H;rintro o h1 y;rcases hb with rfl | hb;exact⟨_,h1⟩;contradiction
theorem zt.move {P:Params} {F F':Fz} {h h':Heap} {a:Addr} {o:AO} (H:zt P F h a o) (k:F.le F') (e:∀ b x,b=a\/b∈o.more->h.get? b=some x->h'.get? b=some x):zt P F' h' a o:=by
 cases o with
 | inst C dx fs=>
  obtain⟨h1,es,n,h2,h3⟩:=H;exact⟨e _ _ (.inl rfl) h1,es,n,e _ _ (.inr (bq.mpr rfl)) h2,h3.mono k⟩
 | list l=>refine iM (H) ?_;clear H;rintro vs n h1 h2;exact⟨vs,n,e _ _ (.inl rfl) h1,h2.mono k⟩
 | dict l=>obtain⟨⟨vs,n,h1,h2⟩,h3⟩:=H;exact⟨⟨vs,n,e _ _ (.inl rfl) h1,h2.mono k⟩,h3⟩
 | cell v=>
  induction v using Option.casesOn with
  | none=>refine dQ (H) ?_;clear H;rintro o h1 h2;exact⟨o,e _ _ (.inl rfl) h1,h2⟩
  | some d=>refine dQ (H) ?_;clear H;rintro v ⟨o,h1,h3⟩ h2;exact⟨v,⟨o,e _ _ (.inl rfl) h1,h3⟩,h2.mono k⟩
 | is p=>refine dQ (H) ?_;clear H;rintro o h1 h2;exact⟨o,e _ _ (.inl rfl) h1,h2⟩
section
variable {P:Params} {G:Heap} {L:Addr} {F F':Fz} {H:HL} {σ:St} {h h':Heap}
theorem Holds.there (x:Holds P G L F H σ h):∀ b∈L::dg σ.objs,∃ o,h.get? b=some o:=by
 intro b hb
 rcases fD hb with rfl | hb
 . obtain⟨m,⟨o,_,_,ho,_⟩,_⟩:=x.loc;exact⟨o,ho⟩
 . obtain⟨p,hp,hb⟩:=dK.mp hb
   exact(x.objs p hp).there b hb
theorem Holds.grow (x:Holds P G L F H σ h) (k:∀ b o,h.get? b=some o->h'.get? b=some o):Holds P G L F H σ h':=
 ⟨x.core,λb o e=>k _ _ (x.sub b o e),let ⟨m,hm,r⟩:=x.loc;⟨m,hm.keeps k,r⟩,x.names,λp hp=>(x.objs p hp).move (.refl F) λb o y e=>k _ _ e,x.nodup,x.apart,x.held,x.low⟩
noncomputable def Fz.put (F:Fz) (a:Addr) (o:Obj):Fz:=λb=>if b=a then some o else F b
theorem Fz.put_self (F:Fz) (a:Addr) (o:Obj):F.put a o a=some o:=by simp[Fz.put]
theorem Fz.le_put {F:Fz} {a:Addr} {o:Obj} (n:F a=none):F.le (F.put a o):=λb o' e=>by
 unfold Fz.put
 split
 . rename_i q;rw[q,n]at e;contradiction
 . exact e
theorem Holds.frozen (x:Holds P G L F H σ h) (k:∀ b o,h.get? b=some o->h'.get? b=some o) {a:Addr} {o:Obj} (hn:h.get? a=none) (ha:h'.get? a=some o):
 Holds P G L (F.put a o) H σ h'/\F.le (F.put a o):=by
 have hF:F a=none:=by
  induction q:F a using Option.casesOn with
  | none=>rfl
  | some o'=>rw[x.sub _ _ q]at hn;contradiction
 have le:=Fz.le_put (o:=o) hF
 refine⟨⟨λb o' e=>le _ _ (x.core b o' e),λb o' e=>?_,?_,x.names,λp hp=>(x.objs p hp).move le λb o' _ e=>k _ _ e,x.nodup,λb hb=>?_,λp hp=>(x.held p hp).mono le,x.low⟩,le⟩
 . unfold Fz.put at e
   split at e
   . rename_i q;subst q;obtain rfl:=Option.some.inj e;exact ha
   . exact k _ _ (x.sub _ _ e)
 . refine dQ (x.loc) ?_;rintro m hm r
   exact⟨m,hm.keeps k,λy d hy=>let ⟨v,e,q⟩:=r y d hy;⟨v,e,q.mono le⟩⟩
 . unfold Fz.put
   split
   . rename_i q
     obtain⟨o',ho'⟩:=x.there b hb;rw[q,hn]at ho';contradiction
   . exact x.apart b hb
theorem Holds.weaken (x:Holds P G L F H σ h) {H':HL} (e:∀ p∈H',p∈H):Holds P G L F H' σ h:=
 ⟨x.core,x.sub,x.loc,x.names,x.objs,x.nodup,x.apart,λp hp=>x.held p (e p hp),x.low⟩
theorem Holds.push (x:Holds P G L F H σ h) {v:Value} {d:AV} (q:Is P F v d):Holds P G L F ((v,d)::H) σ h:=
 ⟨x.core,x.sub,x.loc,x.names,x.objs,x.nodup,x.apart,λp hp=>by rcases fD hp with rfl | hp;exact q;exact x.held p hp,x.low⟩
theorem Holds.hold (x:Holds P G L F H σ h) {v:Value} {d:AV} (q:(v,d)∈H):Is P F v d:=x.held _ q
end
section
variable {P:Params} {F:Fz} {v:Value} {d:AV} {l:cG} {vs:cJ}
def GG (P:Params) (F:Fz) (v:Value) (d:AV):Prop:=AV.casesOn d (v=.none) (λb=>v=.bool b) (λi=>∃ t,v=.int i t) (λx=>∃ t,v=.str (S x) t) (λw=>v=w) (λa=>v=.ref a) (λl=>∃ a vs n,v=.ref a/\F a=some (lr vs n)/\IsAll P F vs l) (λl=>∃ a vs n,v=.ref a/\F a=some (dU vs n)/\IsAll P F vs l)
 (λl=>∃ a es n,v=.ref a/\F a=some (dictOf es n)/\IsEnts P F es l/\(l.map (·.1)).Nodup/\(a==sysModules)=false) (λf self=>∃ a,v=.ref a/\F a=some (methodObj (.ref f) (.ref self))) (λp=>∃ a o,v=.ref a/\F a=some o/\p o) True
theorem gS (h:Is P F v d):GG P F v d:=
 @Is.casesOn P F (λv d y=>GG P F v d) v d h rfl (λy=>rfl) (λy t=>⟨t,rfl⟩) (λy t=>⟨t,rfl⟩) (λy=>rfl) (λy=>rfl) (λe k=>⟨_,_,_,rfl,e,k⟩) (λe k=>⟨_,_,_,rfl,e,k⟩) (λe k n q=>⟨_,_,_,rfl,e,k,n,q⟩) (λe=>⟨_,rfl,e⟩) (λe k=>⟨_,_,rfl,e,k⟩) λy=>trivial
theorem dk {i:Int} (h:Is P F v (.int i)):∃ t,v=.int i t:=gS h
theorem dy {x:cF} (h:Is P F v (.str x)):∃ t,v=.str (S x) t:=gS h
theorem lW {x:Bool} (h:Is P F v (.bool x)):v=.bool x:=gS h
theorem gD (h:Is P F v .none):v=.none:=gS h
theorem dG {a:Addr} (h:Is P F v (.ref a)):v=.ref a:=gS h
theorem xg {w:Value} (h:Is P F v (.lit w)):v=w:=gS h
theorem gG (h:Is P F v (.tup l)):∃ a vs n,v=.ref a/\F a=some (lr vs n)/\IsAll P F vs l:=gS h
theorem eU (h:Is P F v (.lst l)):∃ a vs n,v=.ref a/\F a=some (dU vs n)/\IsAll P F vs l:=gS h
theorem ou {l:FL} (h:Is P F v (.dct l)):∃ a es n,v=.ref a/\F a=some (dictOf es n)/\IsEnts P F es l/\(l.map (·.1)).Nodup:=RH (gS h) λa es n e k q d y=>⟨a,es,n,e,k,q,d⟩
theorem Af {l:FL} (h:Is P F v (.dct l)):∃ a es n,v=.ref a/\F a=some (dictOf es n)/\IsEnts P F es l/\(l.map (·.1)).Nodup/\(a==sysModules)=false:=gS h
theorem lT {f self:Addr} (h:Is P F v (.meth f self)):∃ a,v=.ref a/\F a=some (methodObj (.ref f) (.ref self)):=gS h
theorem jq {p:Obj->Prop} (h:Is P F v (.obj p)):∃ a o,v=.ref a/\F a=some o/\p o:=gS h
def Ac (P:Params) (F:Fz) (vs:cJ) (l:cG):Prop:=List.casesOn l (vs=[]) λd l=>∃ v ws,vs=v::ws/\Is P F v d/\IsAll P F ws l
theorem iq (h:IsAll P F vs l):Ac P F vs l:=h.ind (C:=λvs l=>Ac P F vs l) rfl λv y ws y q r y=>⟨v,ws,rfl,q,r⟩
theorem ES {d1:AV} (h:IsAll P F vs [d1]):∃ v1,vs=[v1]/\Is P F v1 d1:=jJ (iq h) λv y e q r=>⟨v,e.trans (cB (v::·) (iq r)),q⟩
theorem Cg {d1 d2:AV} (h:IsAll P F vs [d1,d2]):∃ v1 v2,vs=[v1,v2]/\Is P F v1 d1/\Is P F v2 d2:=jJ (iq h) λv y e q r=>dQ (ES r) λw e2 q2=>⟨v,w,e.trans (cB (v::·) e2),q,q2⟩
theorem IQ {d1 d2 d3:AV} (h:IsAll P F vs [d1,d2,d3]):∃ v1 v2 v3,vs=[v1,v2,v3]/\Is P F v1 d1/\Is P F v2 d2/\Is P F v3 d3:=jJ (iq h) λv y e q r=>jJ (Cg r) λw u e2 q2 q3=>⟨v,w,u,e.trans (cB (v::·) e2),q,q2,q3⟩
theorem Pq {d1 d2 d3 d4:AV} (h:IsAll P F vs [d1,d2,d3,d4]):∃ v1 v2 v3 v4,vs=[v1,v2,v3,v4]/\Is P F v1 d1/\Is P F v2 d2/\Is P F v3 d3/\Is P F v4 d4:=jJ (iq h) λv y e q r=>Pi (IQ r) λw u z e2 q2 q3 q4=>⟨v,w,u,z,e.trans (cB (v::·) e2),q,q2,q3,q4⟩
end
end
section
variable {A:Around} {F:Fz} {s s':Shared} {Ψ:Fz->St->Prop} {vs:cJ} {v:Value} {d:AV}
structure cX where
 prog:Program
 w:World
 G:Heap
 K:Frag
 X:K.In G
 g:∃ mg,G.Ns mainGlobals mg
 b:∃ mb,G.Ns builtinsNs mb/\∀ x,x≠("__name__":Str)->mb x=bootBuiltins x
 nolimit:G.NoLimit
noncomputable abbrev cX.M (B:cX):Model:=model B.prog B.w
noncomputable abbrev cX.P (B:cX):Params:=B.w.params
structure gk (n:Nat) (A:Around):Prop where
 handled:A.handled=none
 depth:A.depth+n<=900
 units:A.units+8*n<=9000
theorem gk.le {n m:Nat} (h:gk n A) (e:m<=n):gk m A:=⟨h.1,by have:=h.2;omega,by have:=h.3;omega⟩
abbrev PV:=Value->AV->St->Prop
inductive di (B:cX) (L:Addr) (H:HL) (σ:St) (F:Fz) (s s':Shared) (Ψ:Fz->St->Prop):Prop
 | mk (F':Fz) (σ':St) (x:Holds B.P B.G L F' H σ' s'.heap) (p:eu (L::dg σ.objs) F s (L::dg σ'.objs) F' s') (q:Ψ F' σ')
structure W {α:Type} (B:cX) (n:Nat) (L:Addr) (t:Sem α) (H:HL) (σ:St) (Ψ:α->Fz->St->Prop):Prop where
 run:∀ A F s,gk n A->Holds B.P B.G L F H σ s.heap->wpAny B.M A t (λa s'=>di B L H σ F s s' (Ψ a)) (λy y=>False) s
theorem d9 {α:Type} {B:cX} {n:Nat} {L:Addr} {t:Sem α} {H:HL} {σ:St} {Ψ:α->Fz->St->Prop}
 (h:∀ A F s,gk n A->Holds B.P B.G L F H σ s.heap->wpAny B.M A t (λa s'=>di B L H σ F s s' (Ψ a)) (λy y=>False) s):W B n L t H σ Ψ:=⟨h⟩
abbrev WV (B:cX) (n:Nat) (L:Addr) (t:Sem Value) (H:HL) (σ:St) (Φ:PV):Prop:=
 W B n L t H σ (λv F' σ'=>∃ d,Is B.P F' v d/\Φ v d σ')
abbrev WB (B:cX) (n:Nat) (L:Addr) (t:Sem Bool) (H:HL) (σ:St) (Φ:Bool->St->Prop):Prop:=
 W B n L t H σ (λb y σ'=>Φ b σ')
abbrev WU (B:cX) (n:Nat) (L:Addr) (t:Sem Unit) (H:HL) (σ:St) (Φ:St->Prop):Prop:=
 W B n L t H σ (λy y σ'=>Φ σ')
inductive Fl where
 | next | brk | cont | ret (d:AV)
noncomputable def Fl.ctorIdx (x:Fl):Nat:=Fl.casesOn x 0 1 2 (λy=>3)
def qe (P:Params) (F:Fz):Flow->Fl->Prop
 | .next,.next=>True
 | .brk,.brk=>True
 | .cont,.cont=>True
 | .ret v,.ret d=>Is P F v d
 | _,_=>False
abbrev WF (B:cX) (n:Nat) (L:Addr) (t:Sem Flow) (H:HL) (σ:St) (Φ:Fl->St->Prop):Prop:=
 W B n L t H σ (λf F' σ'=>∃ e,qe B.P F' f e/\Φ e σ')
abbrev PF:=Fl->St->Prop
section
variable {B:cX} {n:Nat} {L:Addr} {H:HL} {σ:St} {α β:Type}
theorem di.here (h:Holds B.P B.G L F H σ s.heap) (q:Ψ F σ):di B L H σ F s s Ψ:=⟨F,σ,h,.refl _ _ _,q⟩
theorem di.mono {Ψ':Fz->St->Prop} (h:di B L H σ F s s' Ψ) (k:∀ F' σ',Ψ F' σ'->Ψ' F' σ'):di B L H σ F s s' Ψ':=
 let ⟨F',σ',a,b,c⟩:=h;⟨F',σ',a,b,k _ _ c⟩
theorem oX {t:Sem α} {Ψ:α->Fz->St->Prop} (h:∀ A F s (Q:α->Shared->Prop),gk n A->Holds B.P B.G L F H σ s.heap->(∀ a s',di B L H σ F s s' (Ψ a)->Q a s')->wpAny B.M A t Q (λy y=>False) s):W B n L t H σ Ψ:=
 ⟨λA F s hA X=>h A F s _ hA X λy y z=>z⟩
theorem W.then {t:Sem α} {Ψ:α->Fz->St->Prop} (w:W B n L t H σ Ψ) {Q:α->Shared->Prop} {E:Value->Shared->Prop} (hA:gk n A) (X:Holds B.P B.G L F H σ s.heap)
 (k:∀ a s' F' σ',Holds B.P B.G L F' H σ' s'.heap->eu (L::dg σ.objs) F s (L::dg σ'.objs) F' s'->Ψ a F' σ'->Q a s'):wpAny B.M A t Q E s:=
 cx (w.run A F s hA X) (λa s' z=>by cases z with | mk F' σ' x p q=>exact k a s' F' σ' x p q) λy y z=>z.elim
theorem pY {t:Sem α} {Ψ Ψ':α->Fz->St->Prop} (h:W B n L t H σ Ψ) (k:∀ a F σ,Ψ a F σ->Ψ' a F σ):W B n L t H σ Ψ':=
 d9 λA F s hA x=>cx (h.run A F s hA x) (λw w y=>y.mono λw w z=>k _ _ _ z) λw w y=>y
theorem BQ {t:Sem α} {m:Nat} {Ψ:α->Fz->St->Prop} (h:W B m L t H σ Ψ) (e:m<=n):W B n L t H σ Ψ:=
 d9 λA F s hA x=>h.run A F s (hA.le e) x
theorem gh {t:Sem α} {k:α->Sem β} {a7:α->Fz->St->Prop} {Ψ:β->Fz->St->Prop} (h:W B n L t H σ a7)
 (hk:∀ a F a1,a7 a F a1->∃ H',(∀ p∈H,p∈H')/\(∀ p∈H',p∈H\/Is B.P F p.1 p.2)/\W B n L (k a) H' a1 Ψ):W B n L (t >>= k) H σ Ψ:=by
 refine d9 λA F s hA x=>?_
 refine cw (cx (h.run A F s hA x) (λa s0 y=>?_) λz z y=>y)
 obtain⟨F0,a1,x0,p0,q⟩:=y;refine kW (hk a F0 a1 q) ?_;rintro H' e1 e2 w
 have x7:Holds B.P B.G L F0 H' a1 s0.heap:=⟨x0.core,x0.sub,x0.loc,x0.names,x0.objs,x0.nodup,x0.apart,λp hp=>(e2 p hp).elim (x0.held p) id,x0.low⟩
 refine cx (w.run A F0 s0 hA x7) (λb s6 y=>?_) λz z y=>y
 obtain⟨F1,a2,x1,p6,q7⟩:=y;exact⟨F1,a2,x1.weaken e1,p0.trans p6,q7⟩
theorem dm {t:Sem Value} {k:Value->Sem β} {Ψ:β->Fz->St->Prop} (h:WV B n L t H σ (λv d a1=>W B n L (k v) ((v,d)::H) a1 Ψ)):W B n L (t >>= k) H σ Ψ:=
 gh h λa F a1 q=>by
  refine dQ (q) ?_;clear q;rintro d hd w
  exact⟨(a,d)::H,λp hp=>.tail _ hp,λp hp=>by rcases fD hp with rfl | hp;exact .inr hd;exact .inl hp,w⟩
theorem gx {t:Sem Bool} {k:Bool->Sem β} {Ψ:β->Fz->St->Prop} (h:WB B n L t H σ (λb a1=>W B n L (k b) H a1 Ψ)):W B n L (t >>= k) H σ Ψ:=
 gh h λa F a1 q=>⟨H,λy h=>h,λy h=>.inl h,q⟩
theorem fU {t:Sem Unit} {k:Unit->Sem β} {Ψ:β->Fz->St->Prop} (h:WU B n L t H σ (λa1=>W B n L (k ()) H a1 Ψ)):W B n L (t >>= k) H σ Ψ:=
 gh h λa F a1 q=>⟨H,λy h=>h,λy h=>.inl h,q⟩
theorem dc {t:Sem α} {Ψ:α->Fz->St->Prop} (h:W B n L t H σ Ψ):W B n L (holding vs t) H σ Ψ:=d9 λA F s hA x=>wpAny_holding (h.run A F s hA x)
theorem dr {p:Pos} {k:Unit->Sem β} {Ψ:β->Fz->St->Prop} (h:W B n L (k ()) H σ Ψ):W B n L (standAt p >>= k) H σ Ψ:=d9 λA F s hA x=>cw (wpAny_standAt (h.run A F s hA x))
theorem di.toks {tk:Nat} (h:Holds B.P B.G L F H σ s.heap) (q:Ψ F σ):di B L H σ F s { s with toks:=tk } Ψ:=
 ⟨F,σ,h,⟨λy y y e=>e,λy h=>.inl h,λy y e=>.inl e,.refl F,.refl _,rfl⟩,q⟩
theorem di.more (h:Holds B.P B.G L F H σ s.heap) (k:∀ b o,s.heap.get? b=some o->s'.heap.get? b=some o) (g:s'.gens=s.gens) (o:s'.os=s.os) (q:Ψ F σ):di B L H σ F s s' Ψ:=
 ⟨F,σ,h.grow k,⟨λb o y e=>k b o e,λy h=>.inl h,λy y e=>.inl e,.refl F,.of g,o⟩,q⟩
theorem di.fresh (h:Holds B.P B.G L F H σ s.heap) {a:Addr} {o:Obj} (k:∀ b o,s.heap.get? b=some o->s'.heap.get? b=some o)
 (hn:s.heap.get? a=none) (ha:s'.heap.get? a=some o) (g:s'.gens=s.gens) (os:s'.os=s.os) (q:F.le (F.put a o)->Ψ (F.put a o) σ):di B L H σ F s s' Ψ:=by
 obtain⟨x,le⟩:=h.frozen k hn ha;refine⟨_,σ,x,⟨λb o _ e=>k b o e,λ_ h=>.inl h,λb o' e=>?_,le,.of g,os⟩,q le⟩
 unfold Fz.put at e
 split at e
 . rename_i z;subst z;exact .inr (.inr hn)
 . exact .inl e
end
variable {A:Around} {F:Fz} {s s':Shared} {Ψ:Fz->St->Prop} {vs:cJ} {v:Value} {d:AV}
section
variable {B:cX} {n:Nat} {L:Addr} {H:HL} {σ:St} {α β:Type}
theorem di.weaken {H':HL} (y:di B L H' σ F s s' Ψ) (e:∀ p∈H,p∈H'):di B L H σ F s s' Ψ:=
 let ⟨F',σ',a,b,c⟩:=y;⟨F',σ',a.weaken e,b,c⟩
theorem di.then {t:Sem β} {s0:Shared} {a7:Fz->St->Prop} {Ψ:β->Fz->St->Prop} (y:di B L H σ F s s0 a7)
 (k:∀ F0 a1,Holds B.P B.G L F0 H a1 s0.heap->a7 F0 a1->wpAny B.M A t (λb s6=>di B L H a1 F0 s0 s6 (Ψ b)) (λx x=>False) s0):
 wpAny B.M A t (λb s6=>di B L H σ F s s6 (Ψ b)) (λx x=>False) s0:=by
 obtain⟨F0,a1,x0,p0,q⟩:=y;refine cx (k F0 a1 x0 q) (λb s6 y=>?_) λx x z=>z
 obtain⟨F1,a2,x1,p6,q7⟩:=y;exact⟨F1,a2,x1,p0.trans p6,q7⟩
theorem di.fin {s0 s6:Shared} {a7:Fz->St->Prop} (y:di B L H σ F s s0 a7)
 (k:∀ F0 a1,Holds B.P B.G L F0 H a1 s0.heap->a7 F0 a1->di B L H a1 F0 s0 s6 Ψ):di B L H σ F s s6 Ψ:=by
 obtain⟨F0,a1,x0,p0,q⟩:=y;obtain⟨F1,a2,x1,p6,q7⟩:=k F0 a1 x0 q;exact⟨F1,a2,x1,p0.trans p6,q7⟩
theorem oq {t:Sem β} {Ψ:β->Fz->St->Prop} (w:W B n L t H σ Ψ):W B n L t ((v,d)::H) σ Ψ:=
 d9 λA F s hA x=>by
  have y:=w.run A F s hA (x.weaken λu hp=>.tail _ hp)
  refine cx y (λb s' z=>?_) λu u z=>z
  obtain⟨F',σ',a,b',c⟩:=z;exact⟨F',σ',⟨a.core,a.sub,a.loc,a.names,a.objs,a.nodup,a.apart,λp hp=>(x.held p hp).mono b'.mono,x.low⟩,b',c⟩
end
variable {A:Around} {F:Fz} {s s':Shared} {Ψ:Fz->St->Prop} {vs:cJ} {v:Value} {d:AV}
section
variable {B:cX} {n:Nat} {L:Addr} {H:HL} {σ:St} {α β:Type}
theorem dh {t:Sem Value} {Φ Φ':PV} (h:WV B n L t H σ Φ) (k:∀ v d σ,Φ v d σ->Φ' v d σ):WV B n L t H σ Φ':=
 pY h λ_ _ _ ⟨d,hd,q⟩=>⟨d,hd,k _ _ _ q⟩
theorem gC {t:Sem Bool} {Φ Φ':Bool->St->Prop} (h:WB B n L t H σ Φ) (k:∀ b σ,Φ b σ->Φ' b σ):WB B n L t H σ Φ':=pY h λy y y q=>k _ _ q
theorem gX {t:Sem Unit} {Φ Φ':St->Prop} (h:WU B n L t H σ Φ) (k:∀ σ,Φ σ->Φ' σ):WU B n L t H σ Φ':=pY h λy y y q=>k _ q
theorem sK {t:Sem Flow} {Φ Φ':PF} (h:WF B n L t H σ Φ) (k:∀ f σ,Φ f σ->Φ' f σ):WF B n L t H σ Φ':=pY h λ_ _ _ ⟨d,hd,q⟩=>⟨d,hd,k _ _ q⟩
theorem gu {m:Sem Value} {Ψ:Value->Fz->St->Prop} (h:W B n L m H σ Ψ):W B n L (operate vs m) H σ Ψ:=d9 λA F s hA x=>wpAny_operateT (h.run A F s hA x)
theorem rp {ks:cJ} {k:Unit->Sem β} {Ψ:β->Fz->St->Prop} (h:W B n L (k ()) H σ Ψ):W B n L (release vs ks >>= k) H σ Ψ:=d9 λA F s hA x=>cw (wpAny_release (h.run A F s hA x))
theorem jx {ks:cJ} {Φ:St->Prop} (h:Φ σ):WU B n L (release vs ks) H σ Φ:=d9 λA F s hA x=>wpAny_release (.here x h)
theorem wB {Φ:PV} (m:(v,d)∈H) (h:Φ v d σ):WV B n L (pure v) H σ Φ:=d9 λy y y y x=>cy (.here x ⟨d,x.hold m,h⟩)
theorem pG {a:α} {Φ:α->St->Prop} (h:Φ a σ):W B n L (pure a) H σ (λa y σ=>Φ a σ):=d9 λy y y y x=>cy (.here x h)
theorem lG {Φ:PF} (h:Φ .next σ):WF B n L (pure .next) H σ Φ:=d9 λy y y y x=>cy (.here x ⟨.next,trivial,h⟩)
theorem z5 {H':HL} {t:Sem α} {Ψ:α->Fz->St->Prop} (h:W B n L t H' σ Ψ) (e:∀ p∈H',p∈H):W B n L t H σ Ψ:=d9 λA F s hA x=>by
 refine cx (h.run A F s hA (x.weaken e)) (λb s' z=>?_) λy y z=>z
 obtain⟨F',σ',a,b',c⟩:=z;exact⟨F',σ',⟨a.core,a.sub,a.loc,a.names,a.objs,a.nodup,a.apart,λp hp=>(x.held p hp).mono b'.mono,x.low⟩,b',c⟩
end
end
section
variable {Φ:PV} {x l r e t:Expr} {v:Value} {r8:cI}
def eF (B:cX) (v:Value) (d:AV):Prop:=∀ F:Fz,(∀ b o,B.G.get? b=some o->F b=some o)->Is B.P F v d
theorem eF.lit (B:cX) (v:Value):eF B v (.lit v):=λy y=>.lit v
section
variable {B:cX} {n:Nat} {L:Addr} {H:HL} {σ:St} {e9:Env}
theorem HS {k pn} (h:Φ .none .none σ):WV B n L (eval (.Constant .none k pn) e9) H σ Φ:=
 d9 λy y y y x=>wpAny_Constant_none (.here x ⟨_,.none,h⟩)
theorem K3 {b k pn} (h:Φ (.bool b) (.bool b) σ):WV B n L (eval (.Constant (.bool b) k pn) e9) H σ Φ:=
 d9 λy y y y x=>wpAny_Constant_bool (.here x ⟨_,.bool b,h⟩)
theorem LO {i k pn} (h:∀ v,Φ v (.int i) σ):WV B n L (eval (.Constant (.int i) k pn) e9) H σ Φ:=
 d9 λy y y y x=>wpAny_Constant_int (.toks x ⟨_,.int i _,h _⟩)
theorem MW {x:Str} {l:cF} {k pn} (e:x=S l) (h:∀ v,Φ v (.str l) σ):WV B n L (eval (.Constant (.str x) k pn) e9) H σ Φ:=
 d9 λz z z z y=>wpAny_Constant_str (.toks y ⟨_,e▸.str l _,h _⟩)
theorem EY {x:Str} {pn d} (hm:(x,some d)∈σ.loc) (h:∀ v,Φ v d σ) (hk:autoParam (e9.scope.kind=.function) bR) (hl:autoParam (e9.kindOf x=some .local) bR)
 (hL:autoParam (e9.locals=L) bR) (hd:autoParam ((x==("__debug__":Str))=false) bD):WV B n L (eval (.Name x pn) e9) H σ Φ:=by
 refine d9 λA F s hA X=>?_
 refine dQ (X.loc) ?_;rintro m aJ r
 refine dQ (r x d hm) ?_;rintro v e q
 exact wpAny_Name (wpAny_loadName_local hk hl (hL.symm▸aJ) e (.here X ⟨d,q,h v⟩)) hd
theorem ul {x:Str} {pn} {d:AV} (e:nsIn B.K mainGlobals x=some (some v)) (c:eF B v d) (h:Φ v d σ) (hk:autoParam (e9.scope.kind=.function) bR)
 (hl:autoParam (e9.kindOf x=some .globalImplicit) bR) (hg:autoParam (e9.globals=mainGlobals) bR) (hd:autoParam ((x==("__debug__":Str))=false) bD):WV B n L (eval (.Name x pn) e9) H σ Φ:=by
 refine d9 λA F s hA X=>?_
 obtain⟨mg,g⟩:=B.g;refine Calls.Name_function_global hk hl (Calls.loadGlobal_global (hg.symm▸(g.keeps λb o e=>X.sub _ _ (X.core b o e))) (mg_of B.X g e) ?_) hd
 exact .here X ⟨d,c F X.core,h⟩
theorem zl {x:Str} {pn} (e:nsIn B.K mainGlobals x=some none) (hb:bootBuiltins x=some v) (h:Φ v (.lit v) σ) (hk:autoParam (e9.scope.kind=.function) bR)
 (hl:autoParam (e9.kindOf x=some .globalImplicit) bR) (hg:autoParam (e9.globals=mainGlobals) bR) (aA:autoParam (e9.builtins=builtinsNs) bR) (hn:autoParam (x≠("__name__":Str)) bD)
 (hd:autoParam ((x==("__debug__":Str))=false) bD):WV B n L (eval (.Name x pn) e9) H σ Φ:=by
 refine d9 λA F s hA X=>?_
 obtain⟨mg,g⟩:=B.g;refine dQ (B.b) ?_;rintro mb b hmb
 have up:∀ b o,B.G.get? b=some o->s.heap.get? b=some o:=λb o e=>X.sub _ _ (X.core b o e)
 refine Calls.Name_function_global hk hl (Calls.loadGlobal_builtin (hg.symm▸(g.keeps up)) (mg_none_of B.X g e) (aA.symm▸(b.keeps up)) ((hmb x hn).trans hb) ?_) hd
 exact .here X ⟨_,.lit v,h⟩
theorem xe {op pn}
 (h:WV B n L (eval l e9) H σ λa x a1=>WV B n L (eval r e9) ((a,x)::H) a1 λb y a2=>WV B n L (binaryOp op a b) ((b,y)::(a,x)::H) a2 Φ):
 WV B n L (eval (.BinOp l op r pn) e9) H σ Φ:=by
 rw[eval_BinOp];exact dm (dh h λa x a1 w=>dm (dc (dh w λb y a2 w0=>dr (gu w0))))
theorem rA {op pn}
 (h:WV B n L (eval l e9) H σ λa x a1=>WV B n L (eval r e9) ((a,x)::H) a1 λb y a2=>WV B n L (compareOp op a b) ((b,y)::(a,x)::H) a2 Φ)
 (hm:autoParam (behindInMarks op r=false) bW):WV B n L (eval (.Compare l [op] [r] pn) e9) H σ Φ:=by
 rw[eval_Compare1,markedBehindIn_of_false hm];exact dm (dh h λa x a1 w=>dm (dc (dh w λb y a2 w0=>dr (gu w0))))
theorem lK {b:Bool} {Φ:Bool->St->Prop} (m:(v,.bool b)∈H) (h:Φ b σ):WB B n L (truthy v) H σ Φ:=d9 λA F s hA x=>by
 obtain rfl:=lW (x.hold m)
 exact wpAny_truthy_bool (.here x h)
theorem qV {op pn wd} {Φ:Bool->St->Prop}
 (h:WV B n L (eval l e9) H σ λa x a1=>WV B n L (eval r e9) ((a,x)::H) a1 λb y a2=>WV B n L (compareOp op a b) ((b,y)::(a,x)::H) a2 λv z a3=>∃ c,z=.bool c/\Φ c a3)
 (hm:autoParam (behindInMarks op r=false) bW):WB B n L (isTrue (.Compare l [op] [r] pn) e9 wd) H σ Φ:=by
 rw[isTrue_Compare1,markedBehindIn_of_false hm];exact dm (dh h λa x a1 w=>dm (dc (dh w λb y a2 w0=>dr (dm (gu (dh w0 λc z a3 ⟨k,e,q⟩=>by
  subst e;exact dc (lK dH q)))))))
theorem sS {Φ:Bool->St->Prop} (h:WV B n L (eval e e9) H σ λv d a1=>WB B n L (truthy v) ((v,d)::H) a1 Φ)
 (hs:∀ wd,isTrue e e9 wd=(do let v <-wd;standAt e.pos;holding [v] (truthy v)):=by with_unfolding_all exact λy=>rfl):
 WB B n L (isTrue e e9 (eval e e9)) H σ Φ:=by
 rw[hs];exact dm (dh h λv d a1 w=>dr (dc w))
theorem GF {pn wd} {Φ:Bool->St->Prop} (h:WB B n L (isTrue x e9 (eval x e9)) H σ λb a1=>Φ (!b) a1):WB B n L (isTrue (.UnaryOp .Not x pn) e9 wd) H σ Φ:=
 gx (k:=λb=>pure !b) (gC h λy y q=>pG q)
theorem FF {pn wd} {Φ:Bool->St->Prop} (h:WB B n L (allTrue .And (x::r8) e9) H σ Φ):WB B n L (isTrue (.BoolOp .And (x::r8) pn) e9 wd) H σ Φ:=h
theorem Md {pn wd} {Φ:Bool->St->Prop} (h:WB B n L (allTrue .Or (x::r8) e9) H σ Φ):WB B n L (isTrue (.BoolOp .Or (x::r8) pn) e9 wd) H σ Φ:=h
theorem tK {Φ:Bool->St->Prop} (h:Φ true σ):WB B n L (allTrue .And [] e9) H σ Φ:=pG h
theorem xu {Φ:Bool->St->Prop} (h:Φ false σ):WB B n L (allTrue .Or [] e9) H σ Φ:=pG h
theorem jl {Φ:Bool->St->Prop} (h:WB B n L (isTrue x e9 (eval x e9)) H σ λb a1=>(b=true->WB B n L (allTrue .And r8 e9) H a1 Φ)/\(b=false->Φ false a1)):
 WB B n L (allTrue .And (x::r8) e9) H σ Φ:=by
 rw[arm_allTrue_cons];refine gx (gC h λb a1 q=>?_)
 induction b using Bool.casesOn with
 | true=>exact q.1 rfl
 | false=>exact pG (q.2 rfl)
theorem lX {Φ:Bool->St->Prop} (h:WB B n L (isTrue x e9 (eval x e9)) H σ λb a1=>(b=true->Φ true a1)/\(b=false->WB B n L (allTrue .Or r8 e9) H a1 Φ)):
 WB B n L (allTrue .Or (x::r8) e9) H σ Φ:=by
 rw[arm_allTrue_cons];refine gx (gC h λb a1 q=>?_)
 induction b using Bool.casesOn with
 | false=>exact q.2 rfl
 | true=>exact pG (q.1 rfl)
theorem wP {b o:Expr} {pn} (h:WB B n L (isTrue t e9 (eval t e9)) H σ λc a1=>(c=true->WV B n L (eval b e9) H a1 Φ)/\(c=false->WV B n L (eval o e9) H a1 Φ)):
 WV B n L (eval (.IfExp t b o pn) e9) H σ Φ:=by
 rw[arm_eval_IfExp];refine gx (gC h λb a1 q=>?_)
 induction b using Bool.casesOn with
 | true=>exact q.1 rfl
 | false=>exact q.2 rfl
theorem MY {pn} (h:WV B n L (eval x e9) H σ λv d a1=>WB B n L (truthy v) ((v,d)::H) a1 λb a2=>Φ (.bool (!b)) (.bool (!b)) a2):
 WV B n L (eval (.UnaryOp .Not x pn) e9) H σ Φ:=by
 rw[arm_eval_UnaryOp];refine dm (dh h λv d a1 w=>dr (dc<|d9 λA F s hA x=>?_))
 exact not_value (cx (w.run A F s hA x) (λb s6 z=>z.fin λF1 a2 x1 q=>.here x1 ⟨_,.bool _,q⟩) λy y z=>z)
theorem Ga {pn} (h:WV B n L (eval x e9) H σ λy d a1=>∃ i,d=.int i/\∀ v,Φ v (.int (-i)) a1):
 WV B n L (eval (.UnaryOp .USub x pn) e9) H σ Φ:=by
 rw[arm_eval_UnaryOp];refine dm (dh h λv d a1 ⟨i,e,q⟩=>dr (dc<|d9 λA F s hA x=>?_))
 subst e;obtain⟨t,rfl⟩:=dk (x.hold dH);exact neg_int (.toks x ⟨_,.int _ _,q _⟩)
theorem G8 {Φ:PF} (h:Φ .next σ):WF B n L (execs [] e9) H σ Φ:=d9 λy y y y x=>wpAny_execs_nil (.here x ⟨.next,trivial,h⟩)
theorem Hk {st:Stmt} {r8:cH} {Φ:PF} (h:WF B n L (exec st e9) H σ λf a1=>match f with | .next=>WF B n L (execs r8 e9) H a1 Φ | f=>Φ f a1):
 WF B n L (execs (st::r8) e9) H σ Φ:=d9 λA F s hA x=>by
 rw[execs_cons];refine cw (cx (h.run A F s hA x) (λf s0 z=>z.then λF0 a1 x0 ⟨e,he,q⟩=>?_) λy y z=>z)
 cases f with
 | next=>rcases e with _ | _<;>first | exact he.elim | exact q.run A F0 s0 hA x0
 | brk=>rcases e with _ | _<;>first | exact he.elim | exact cy (.here x0 ⟨.brk,trivial,q⟩)
 | cont=>rcases e with _ | _<;>first | exact he.elim | exact cy (.here x0 ⟨.cont,trivial,q⟩)
 | ret v=>rcases e with _ | _<;>first | exact he.elim | exact cy (.here x0 ⟨.ret _,he,q⟩)
theorem KA {pn} {Φ:PF} (h:Φ .next σ):WF B n L (exec (.Pass pn) e9) H σ Φ:=d9 λy y y y x=>wpAny_Pass (.here x ⟨.next,trivial,h⟩)
theorem xH {pn} {Φ:PF} (h:Φ .brk σ):WF B n L (exec (.Break pn) e9) H σ Φ:=d9 λy y y y x=>wpAny_Break (.here x ⟨.brk,trivial,h⟩)
theorem wL {pn} {Φ:PF} (h:Φ .cont σ):WF B n L (exec (.Continue pn) e9) H σ Φ:=d9 λy y y y x=>wpAny_Continue (.here x ⟨.cont,trivial,h⟩)
theorem ua {pn} {Φ:PF} (h:WV B n L (eval e e9) H σ λy d a1=>Φ (.ret d) a1):WF B n L (exec (.Return (some e) pn) e9) H σ Φ:=d9 λA F s hA x=>
 wpAny_Return_some (cx (h.run A F s hA x) (λv s0 z=>z.fin λF0 a1 x0 ⟨d,hd,q⟩=>.here x0 ⟨.ret d,hd,q⟩) λy y z=>z)
theorem rP {pn} {Φ:PF} (h:Φ (.ret .none) σ):WF B n L (exec (.Return none pn) e9) H σ Φ:=d9 λy y y y x=>wpAny_Return_none (.here x ⟨.ret .none,.none,h⟩)
theorem DY {b0 oj:cH} {pn} {Φ:PF}
 (h:WB B n L (isTrue t e9 (eval t e9)) H σ λb a1=>(b=true->WF B n L (execs b0 e9) H a1 Φ)/\(b=false->WF B n L (execs oj e9) H a1 Φ)):WF B n L (exec (.If t b0 oj pn) e9) H σ Φ:=by
 rw[arm_exec_If];refine dr (gx (gC h λb a1 q=>?_))
 induction b using Bool.casesOn with
 | true=>exact q.1 rfl
 | false=>exact q.2 rfl
theorem uY {pn} {Φ:PF} (h:WV B n L (eval e e9) H σ λy y a1=>Φ .next a1) (hi:autoParam (interactive e9=false) bR) (hs:autoParam (swapsWith e none pn.line e9=pure false) bR):
 WF B n L (exec (.Expr e pn) e9) H σ Φ:=by
 rw[exec_Expr e9 e pn hi hs];refine dr (dm (dh h λv d a1 q=>d9 λA F s hA x=>?_))
 exact wpAny_dropValue (.here x ⟨.next,trivial,q⟩)
theorem AU {msg pn} {Φ:PF} (h:WB B n L (isTrue t e9 (eval t e9)) H σ λb a1=>b=true/\Φ .next a1):WF B n L (exec (.Assert t msg pn) e9) H σ Φ:=by
 rw[arm_exec_Assert];refine dr (gx (gC h λb a1 q=>?_))
 obtain⟨rfl,q⟩:=q;exact lG q
theorem lL {x:Str} {Φ:St->Prop} (h:WU B n L (storeName e9 x v) H σ Φ):WU B n L (bindName e9 x v) H σ Φ:=d9 λA F s hA x=>wpAny_bindName (h.run A F s hA x)
theorem iy {x:Str} {p pn} {Φ:PF} (h:WV B n L (eval e e9) H σ λv d a1=>WU B n L (storeName e9 x v) ((v,d)::H) a1 λa2=>Φ .next a2)
 (hs:autoParam (swapsWith e (some (.Name x p)) pn.line e9=pure false) bR):WF B n L (exec (.Assign [.Name x p] e pn) e9) H σ Φ:=by
 rw[exec_Assign_Name e9 x p e pn hs];exact dr (dm (dh h λv d a1 w=>dr (fU (lL (gX w λa2 q=>lG q)))))
theorem A7 {x:Str} {p pn op} {Φ:PF}
 (h:WV B n L (loadName e9 x) H σ λa d a1=>WV B n L (eval e e9) ((a,d)::H) a1 λb y a2=>WV B n L (inplaceOp op a b) ((b,y)::(a,d)::H) a2 λc z a3=>WU B n L (storeName e9 x c) ((c,z)::H) a3 λa4=>Φ .next a4):
 WF B n L (exec (.AugAssign (.Name x p) op e pn) e9) H σ Φ:=by
 rw[exec_AugAssign_Name];refine dr (dm (dh h λa d a1 w=>?_))
 refine dm (dc (dh w λb y a2 w0=>?_))
 refine dr (dm (gu (dh w0 λc z a3 w7=>?_)))
 refine dr (fU (lL (z5 (gX w7 λa4 q=>lG q) λq hq=>?_)))
 rcases fD hq with rfl | hq
 . exact .head _
 . exact .tail _ (.tail _ (.tail _ hq))
end
end
section
variable {d:AV} {l:cG} {ms:cV} {P:Params} {F:Fz} {vs:cJ} {h:Heap} {v:Value} {p:PyData} {Ψ:Bool->St->Prop}
theorem dP:sizeLine=16777216:=by decide
theorem tL (a b:cF):S a++S b=S (a++b):=by
 show Str.append (S a) (S b)= _
 simp[Str.append,S]
theorem dF (a:cF):(S a).length=a.length:=by simp[Str.length,S]
theorem Gv {a b:cF}:S a=S b↔a=b:=by
 constructor
 . intro e;injection e with e;simpa using e
 . rintro rfl;rfl
theorem Ap (a b:cF):(S a==S b)=decide (a=b):=by
 rw[Bool.eq_iff_iff];simp[Gv]
noncomputable def dN:cG->Option (cV)
 | []=>some []
 | .str x::r=>(dN r).map (x::·)
 | _=>none
theorem qi (e:dN (d::l)=some ms):∃ x m,d=.str x/\dN l=some m/\ms=x::m:=by
 rcases d with _ | _<;>try contradiction
 refine dQ (bb.mp e) ?_;rintro m e1 e2
 exact⟨_,m,rfl,e1,e2.symm⟩
theorem ju (h:IsAll P F vs l) (e:dN l=some ms):StrsAre vs (ms.map S):=
 h.ind (C:=λvs l=>∀ ms,dN l=some ms->StrsAre vs (ms.map S)) (λms e=>Option.some.inj e▸.nil) (λv d vs l q r ih ms e=>by
  refine jJ (qi e) ?_;rintro x m rfl e1 rfl
  obtain⟨t,rfl⟩:=dy q;exact .cons (S x) _ (ih m e1)) ms e
theorem Gj (ms:cV) (x:cF):((ms.map S).any λy=>y==S x)=decide (x∈ms):=by
 induction ms with
 | nil=>exact(bS (nomatch ·)).symm
 | cons m r ih=>
  rw[cf,List.any_cons,ih,Ap,Bool.eq_iff_iff,Bool.or_eq_true,decide_eq_true_iff,decide_eq_true_iff,decide_eq_true_iff];constructor
  . rintro (h | h)
    . exact h▸.head _
    . exact .tail _ h
  . intro h
    cases h with
    | head=>exact .inl rfl
    | tail _ h=>exact .inr h
mutual
noncomputable def iZ:AV->Option PyData
 | .none=>some .none
 | .bool b=>some (.bool b)
 | .int i=>some (.int i)
 | .str x=>some (.str (S x))
 | .tup l=>(dataAll l).map .tuple
 | .lst l=>(dataAll l).map .list
 | _=>none
noncomputable def dataAll:cG->Option (List PyData)
 | []=>some []
 | d::r=>(iZ d).bind λa=>(dataAll r).map (a::·)
end
theorem ym {ps:List PyData} (e:dataAll (d::l)=some ps):∃ a b,iZ d=some a/\dataAll l=some b/\ps=a::b:=by
 refine dQ (Option.bind_eq_some_iff.mp (show(iZ d).bind (λa=>(dataAll l).map (a::·))=some ps from e)) ?_;rintro a e1 e2
 refine dQ (bb.mp e2) ?_;rintro b e3 e4
 exact⟨a,b,e1,e3,e4.symm⟩
theorem jm (k:∀ b o,F b=some o->h.get? b=some o) (i:Is P F v d) (e:iZ d=some p):∃ as,Reads h v p as:=
 Is.rec (motive_1:=λv d y=>∀ p,iZ d=some p->∃ as,Reads h v p as) (motive_2:=λvs l y=>∀ ps,dataAll l=some ps->∃ as,ReadsAll h vs ps as) (motive_3:=λy y y=>True)
  (λy e=>Option.some.inj e▸⟨_,.none⟩) (λb y e=>Option.some.inj e▸⟨_,.bool b⟩) (λi t y e=>Option.some.inj e▸⟨_,.int i t⟩) (λx t y e=>Option.some.inj e▸⟨_,.str _ t⟩) (λy y e=>nomatch e) (λy y e=>nomatch e)
  (λh y ih p e=>by
   refine dQ (bb.mp (show(dataAll _).map PyData.tuple=some p from e)) ?_;rintro qs e1 rfl
   obtain⟨as,q⟩:=ih qs e1;exact⟨as,.tuple (k _ _ h) rfl rfl q⟩)
  (λh y ih p e=>by
   refine dQ (bb.mp (show(dataAll _).map PyData.list=some p from e)) ?_;rintro qs e1 rfl
   obtain⟨as,q⟩:=ih qs e1;exact⟨_,.list (k _ _ h) rfl rfl q⟩)
  (λy y y y y y e=>nomatch e) (λy y e=>nomatch e) (λy y y e=>nomatch e) (λy y e=>nomatch e)
  (λy e=>Option.some.inj e▸⟨_,.nil⟩)
  (λy y i1 i2 ps e=>by
   refine jJ (ym e) ?_;rintro a b ea eb rfl
   obtain⟨as,q⟩:=i1 a ea;obtain⟨bs,q'⟩:=i2 b eb;exact⟨_,.cons q q'⟩)
  trivial (λy y y y=>trivial) i p e
theorem IsAll.length (h:IsAll P F vs l):vs.length=l.length:=h.ind (C:=λvs l=>vs.length=l.length) rfl λy y y y y y c=>cB (·+1) c
section
variable {B:cX} {n:Nat} {L:Addr} {H:HL} {σ:St} {a b:Value} {i j:Int} {x y:cF} {Φ:PV}
theorem OS (ma:(a,.int i)∈H) (mb:(b,.int j)∈H) (h:∀ v,Φ v (.int (i+j)) σ):WV B n L (binaryOp .Add a b) H σ Φ:=d9 λA F s hA X=>by
 obtain⟨t1,rfl⟩:=dk (X.hold ma);obtain⟨t2,rfl⟩:=dk (X.hold mb)
 with_reducible exact P.add_int (.toks X ⟨_,.int _ _,h _⟩)
theorem NV (ma:(a,.int i)∈H) (mb:(b,.int j)∈H) (h:∀ v,Φ v (.int (i - j)) σ):WV B n L (binaryOp .Sub a b) H σ Φ:=d9 λA F s hA X=>by
 obtain⟨t1,rfl⟩:=dk (X.hold ma);obtain⟨t2,rfl⟩:=dk (X.hold mb)
 with_reducible exact P.sub_int (.toks X ⟨_,.int _ _,h _⟩)
theorem NU (ma:(a,.int i)∈H) (mb:(b,.int j)∈H) (hb:j≠0) (h:∀ v,Φ v (.int (i.fmod j)) σ):WV B n L (binaryOp .Mod a b) H σ Φ:=d9 λA F s hA X=>by
 obtain⟨t1,rfl⟩:=dk (X.hold ma);obtain⟨t2,rfl⟩:=dk (X.hold mb)
 with_reducible exact mod_int' hb (.toks X ⟨_,.int _ _,h _⟩)
theorem JT (ma:(a,.int i)∈H) (mb:(b,.int j)∈H) (h:∀ v,Φ v (.int (i+j)) σ):WV B n L (inplaceOp .Add a b) H σ Φ:=d9 λA F s hA X=>by
 obtain⟨t1,rfl⟩:=dk (X.hold ma);obtain⟨t2,rfl⟩:=dk (X.hold mb)
 with_reducible exact P.iadd_int (.toks X ⟨_,.int _ _,h _⟩)
theorem Kt (ma:(a,.int i)∈H) (mb:(b,.int j)∈H) (h:∀ v,Φ v (.int (i - j)) σ):WV B n L (inplaceOp .Sub a b) H σ Φ:=d9 λA F s hA X=>by
 obtain⟨t1,rfl⟩:=dk (X.hold ma);obtain⟨t2,rfl⟩:=dk (X.hold mb)
 with_reducible exact P.isub_int (.toks X ⟨_,.int _ _,h _⟩)
theorem R0 (ma:(a,.int i)∈H) (mb:(b,.int j)∈H) (h:∀ v,Φ v (.bool (decide (i < j))) σ):WV B n L (compareOp .Lt a b) H σ Φ:=d9 λA F s hA X=>by
 obtain⟨t1,rfl⟩:=dk (X.hold ma);obtain⟨t2,rfl⟩:=dk (X.hold mb)
 with_reducible exact P.lt_int (.here X ⟨_,.bool _,h _⟩)
theorem PZ (ma:(a,.int i)∈H) (mb:(b,.int j)∈H) (h:∀ v,Φ v (.bool (decide (i<=j))) σ):WV B n L (compareOp .LtE a b) H σ Φ:=d9 λA F s hA X=>by
 obtain⟨t1,rfl⟩:=dk (X.hold ma);obtain⟨t2,rfl⟩:=dk (X.hold mb)
 with_reducible exact P.le_int (.here X ⟨_,.bool _,h _⟩)
theorem Qn (ma:(a,.int i)∈H) (mb:(b,.int j)∈H) (h:∀ v,Φ v (.bool (decide (j < i))) σ):WV B n L (compareOp .Gt a b) H σ Φ:=d9 λA F s hA X=>by
 obtain⟨t1,rfl⟩:=dk (X.hold ma);obtain⟨t2,rfl⟩:=dk (X.hold mb)
 with_reducible exact P.gt_int (.here X ⟨_,.bool _,h _⟩)
theorem QJ (ma:(a,.int i)∈H) (mb:(b,.int j)∈H) (h:∀ v,Φ v (.bool (decide (j<=i))) σ):WV B n L (compareOp .GtE a b) H σ Φ:=d9 λA F s hA X=>by
 obtain⟨t1,rfl⟩:=dk (X.hold ma);obtain⟨t2,rfl⟩:=dk (X.hold mb)
 with_reducible exact P.ge_int (.here X ⟨_,.bool _,h _⟩)
theorem Qy (ma:(a,.int i)∈H) (mb:(b,.int j)∈H) (h:∀ v,Φ v (.bool (decide (i=j))) σ):WV B n L (compareOp .Eq a b) H σ Φ:=d9 λA F s hA X=>by
 obtain⟨t1,rfl⟩:=dk (X.hold ma);obtain⟨t2,rfl⟩:=dk (X.hold mb);have e:(i==j)=decide (i=j):=by rw[Bool.eq_iff_iff];simp
 with_reducible exact P.eq_int (.here X ⟨_,.bool _,e▸h _⟩)
theorem QQ (ma:(a,.int i)∈H) (mb:(b,.int j)∈H) (h:∀ v,Φ v (.bool (!decide (i=j))) σ):WV B n L (compareOp .NotEq a b) H σ Φ:=d9 λA F s hA X=>by
 obtain⟨t1,rfl⟩:=dk (X.hold ma);obtain⟨t2,rfl⟩:=dk (X.hold mb);have e:(i !=j)= !decide (i=j):=by rw[Bool.eq_iff_iff];simp
 with_reducible exact P.ne_int (.here X ⟨_,.bool _,e▸h _⟩)
theorem Op (ma:(a,.int i)∈H) (h:Ψ (!decide (i=0)) σ):WB B n L (truthy a) H σ Ψ:=d9 λA F s hA X=>by
 obtain⟨t1,rfl⟩:=dk (X.hold ma);have e:(i !=0)= !decide (i=0):=by rw[Bool.eq_iff_iff];simp
 with_reducible exact P.truthy_int (.here X (e▸h))
theorem J1 (ma:(a,.none)∈H) (h:Ψ false σ):WB B n L (truthy a) H σ Ψ:=d9 λA F s hA X=>by
 obtain rfl:=gD (X.hold ma)
 with_reducible exact truthy_none (.here X h)
theorem KU (ma:(a,.str x)∈H) (mb:(b,.str y)∈H) (hz:x.length+y.length<=16777216) (h:∀ v,Φ v (.str (x++y)) σ):WV B n L (binaryOp .Add a b) H σ Φ:=d9 λA F s hA X=>by
 obtain⟨t1,rfl⟩:=dy (X.hold ma);obtain⟨t2,rfl⟩:=dy (X.hold mb)
 with_reducible exact add_str (λz z=>.toks X ⟨_,tL x y▸.str _ _,h _⟩) (by rw[dF,dF,dP];exact hz)
theorem Dh (ma:(a,.str x)∈H) (mb:(b,.str y)∈H) (hz:x.length+y.length<=16777216) (h:∀ v,Φ v (.str (x++y)) σ):WV B n L (inplaceOp .Add a b) H σ Φ:=d9 λA F s hA X=>by
 obtain⟨t1,rfl⟩:=dy (X.hold ma);obtain⟨t2,rfl⟩:=dy (X.hold mb)
 with_reducible exact iadd_str (λz z=>.toks X ⟨_,tL x y▸.str _ _,h _⟩) (by rw[dF,dF,dP];exact hz)
theorem Ow (ma:(a,.str x)∈H) (mb:(b,.str y)∈H) (h:∀ v,Φ v (.bool (decide (x=y))) σ):WV B n L (compareOp .Eq a b) H σ Φ:=d9 λA F s hA X=>by
 obtain⟨t1,rfl⟩:=dy (X.hold ma);obtain⟨t2,rfl⟩:=dy (X.hold mb)
 with_reducible exact eq_str (.here X ⟨_,.bool _,Ap x y▸h _⟩)
theorem NI (ma:(a,.str x)∈H) (mb:(b,.str y)∈H) (h:∀ v,Φ v (.bool (!decide (x=y))) σ):WV B n L (compareOp .NotEq a b) H σ Φ:=d9 λA F s hA X=>by
 obtain⟨t1,rfl⟩:=dy (X.hold ma);obtain⟨t2,rfl⟩:=dy (X.hold mb);have e:(S x !=S y)= !decide (x=y):=by rw[bne,Ap]
 with_reducible exact ne_str (.here X ⟨_,.bool _,e▸h _⟩)
theorem OQ (ma:(a,.str x)∈H) (hz:x.length<=16777216) (h:Ψ (!decide (x=[])) σ):WB B n L (truthy a) H σ Ψ:=d9 λA F s hA X=>by
 obtain⟨t1,rfl⟩:=dy (X.hold ma);have e:(((S x).length:Int) !=0)= !decide (x=[]):=by rw[dF,Bool.eq_iff_iff];simp
 with_reducible exact P.truthy_str (by rw[dF];omega) (.toks X (e▸h))
theorem Ai (ma:(a,d)∈H) (mb:(b,.none)∈H) (hd:∀ P F v,Is P F v d->(v==Value.none)=c) (h:∀ v,Φ v (.bool c) σ):WV B n L (compareOp .Is a b) H σ Φ:=d9 λA F s hA X=>by
 have p:=X.hold ma;obtain rfl:=gD (X.hold mb)
 with_reducible exact is_none (.here X ⟨_,.bool _,hd _ _ _ p▸h _⟩)
theorem uR (ma:(a,d)∈H) (mb:(b,.none)∈H) (hd:∀ P F v,Is P F v d->(v==Value.none)=c) (h:∀ v,Φ v (.bool (!c)) σ):WV B n L (compareOp .IsNot a b) H σ Φ:=d9 λA F s hA X=>by
 have p:=X.hold ma;obtain rfl:=gD (X.hold mb)
 with_reducible exact isNot_none (.here X ⟨_,.bool _,hd _ _ _ p▸h _⟩)
theorem rG (P:Params) (F:Fz) (v:Value) (h:Is P F v .none):(v==Value.none)=true:=(gD h).symm▸rfl
theorem zY {x:cF} (P:Params) (F:Fz) (v:Value) (h:Is P F v (.str x)):(v==Value.none)=false:=(dy h).elim λy e=>e.symm▸rfl
theorem Al {x:Int} (P:Params) (F:Fz) (v:Value) (h:Is P F v (.int x)):(v==Value.none)=false:=(dk h).elim λy e=>e.symm▸rfl
theorem An {x:Addr} (P:Params) (F:Fz) (v:Value) (h:Is P F v (.ref x)):(v==Value.none)=false:=(dG h).symm▸rfl
theorem qd {x} (P:Params) (F:Fz) (v:Value) (h:Is P F v (.dct x)):(v==Value.none)=false:=(ou h).elim λy e=>e.elim λy e=>e.elim λy e=>e.1.symm▸rfl
theorem jc (k:∀ b o,F b=some o->h.get? b=some o) {t:Addr} {m:Nat} (e:F t=some (lr vs m)):IsTup h t vs.toArray:=⟨_,k _ _ e,rfl,m,rfl⟩
theorem fy (k:∀ b o,F b=some o->h.get? b=some o) {t:Addr} {m:Nat} (e:F t=some (dU vs m)):h.IsList t vs.toArray:=⟨_,k _ _ e,rfl,m,rfl⟩
theorem G7 (ma:(a,.str x)∈H) (mb:(b,.tup l)∈H) (e:dN l=some ms) (h:∀ v,Φ v (.bool (decide (x∈ms))) σ):WV B n L (compareOp .In a b) H σ Φ:=d9 λA F s hA X=>by
 obtain⟨t1,rfl⟩:=dy (X.hold ma);refine jS (gG (X.hold mb)) ?_;rintro r2 vs n1 rfl h1 h2
 with_reducible exact in_tuple_strs (jc X.sub h1) (by simpa using ju h2 e) (.here X ⟨_,.bool _,Gj ms x▸h _⟩)
theorem zK (ma:(a,.str x)∈H) (mb:(b,.tup l)∈H) (e:dN l=some ms) (h:∀ v,Φ v (.bool (!decide (x∈ms))) σ):WV B n L (compareOp .NotIn a b) H σ Φ:=d9 λA F s hA X=>by
 obtain⟨t1,rfl⟩:=dy (X.hold ma);refine jS (gG (X.hold mb)) ?_;rintro r2 vs n1 rfl h1 h2
 with_reducible exact notin_tuple_strs (jc X.sub h1) (by simpa using ju h2 e) (.here X ⟨_,.bool _,Gj ms x▸h _⟩)
theorem zE {e:AV} {q:PyData} {c:Bool} (ma:(a,d)∈H) (mb:(b,e)∈H) (hd:iZ d=some p) (he:iZ e=some q) (sp:SeqAt.shaped p=true) (sq:SeqAt.shaped q=true) (hc:PyData.eqv p q=c)
 (h:∀ v,Φ v (.bool c) σ):WV B n L (compareOp .Eq a b) H σ Φ:=d9 λA F s hA X=>by
 obtain⟨as,ra⟩:=jm X.sub (X.hold ma) hd;obtain⟨bs,rb⟩:=jm X.sub (X.hold mb) he;refine eq_dataH ra rb sp sq ?_ (.here X ⟨_,.bool _,hc▸h _⟩)
 have:=hA.units
 show A.units+64 < 9900
 omega
theorem Ca {ps:List PyData} {c:Bool} (ma:(a,d)∈H) (mb:(b,.tup l)∈H) (hd:iZ d=some p) (he:dataAll l=some ps) (sp:p.canLay0=true) (sq:PyData.canLayAll0 ps=true)
 (dp:p.depth<=64) (hc:(ps.any λy=>PyData.eqv y p)=c) (h:∀ v,Φ v (.bool c) σ):WV B n L (compareOp .In a b) H σ Φ:=d9 λA F s hA X=>by
 obtain⟨as,ra⟩:=jm X.sub (X.hold ma) hd;obtain⟨bs,rb⟩:=jm (p:=.tuple ps) X.sub (X.hold mb) (show(dataAll l).map PyData.tuple=some (.tuple ps)by refine he▸?_;rfl)
 refine SeqAt.in_tuple_reads rb ra sq sp ?_ (.here X ⟨_,.bool _,hc▸h _⟩)
 have:=hA.units
 show A.units+1+min (PyData.depthAll ps) p.depth < 9900
 omega
end
end
section
variable {x:Str} {v:Value} {es:List DictEntry} {fs:FL} {d:AV} {ex:cK}
noncomputable def ew (x:Str) (fs:FL):cN:=(fs.find? (λp=>p.1==x)).map (·.2)
noncomputable def fT (x:Str) (d:AV):FL->FL
 | []=>[(x,d)]
 | p::r=>if p.1==x then (x,d)::r else p::fT x d r
theorem fR {x:Str} {d:AV} {p:Str×AV} {r:FL}:fT x d (p::r)=if (p.1==x)=true then (x,d)::r else p::fT x d r:=rfl
section
variable {P:Params} {F:Fz}
theorem ip (x:Str) (d:AV) (r:FL):ew x ((x,d)::r)=some d:=by unfold ew;rw[List.find?_cons,bM];rfl
theorem fZ {y:Str} (d:AV) (r:FL) (q:¬(y==x)=true):ew x ((y,d)::r)=ew x r:=by unfold ew;rw[List.find?_cons];simp only[q]
theorem BJ {y:Str} {t:Tok} {w:Value} (q:¬(y==x)=true) (e:getL x es=some (some w)):getL x (⟨PyData.keyHash P y,.str y t,v⟩::es)=some (some w):=by
 simp only[getL,List.find?_cons,Value.isStr,q]at e |-
 split at e
 . rename_i h;cases e;rw[h]
 . split at e<;>cases e
theorem tV (h:IsEnts P F es fs) (e:ew x fs=some d):∃ v,getL x es=some (some v)/\Is P F v d:=
 h.ind (C:=λes fs=>ew x fs=some d->∃ v,getL x es=some (some v)/\Is P F v d) nofun (λy t v c es l h r ih e=>by
  by_cases q:(y==x)=true
  . have z:=cz q
    subst z;exact⟨v,by simp[getL,Value.isStr],Option.some.inj ((ip _ c l).symm.trans e)▸h⟩
  . refine dQ (ih ((fZ c l q).symm.trans e)) ?_;rintro w e1 e2
    exact⟨w,BJ q e1,e2⟩) e
theorem wJ (h:IsEnts P F es fs):es.any (·.refKey)=false:=h.ind (C:=λes y=>es.any (·.refKey)=false) rfl λy y y y y y y y c=>c
theorem yx (h:IsEnts P F es fs) (e:ew x fs=none):es.find? (·.key.isStr x)=none:=
 h.ind (C:=λes fs=>ew x fs=none->es.find? (·.key.isStr x)=none) (λw=>rfl) (λy t v d es l w w ih e=>by
  by_cases q:(y==x)=true
  . have z:=cz q
    subst z;exact nomatch (ip _ d l).symm.trans e
  . rw[List.find?_cons]
    simp only[Value.isStr,q]
    exact ih ((fZ d l q).symm.trans e)) e
theorem kR (h:IsEnts P F es fs) (e:ew x fs=none):getL x es=some none:=by
 unfold getL;rw[yx h e];dsimp only;rw[wJ h];rfl
theorem zm (h:IsEnts P F es fs):(getL x es).isSome=true:=by
 induction e:ew x fs using Option.casesOn with
 | none=>rw[kR h e];rfl
 | some d=>refine dQ (tV h e) ?_;rintro v e1 y;rw[e1];rfl
theorem uf {t:Tok} (q:Is P F v d):∀ {es:List DictEntry} {fs:FL},IsEnts P F es fs->IsEnts P F (putL x (PyData.keyHash P x) (.str x t) v es) (fT x d fs):=λ{_} {_} h=>
 h.ind (C:=λes fs=>IsEnts P F (putL x (PyData.keyHash P x) (.str x t) v es) (fT x d fs)) (.cons q .nil) λy u w e es fs h r ih=>by
  unfold putL fT
  by_cases c:(y==x)=true
  . rw[cE c]
    have c2:(⟨PyData.keyHash P y,.str y u,w⟩:DictEntry).key==.str x t->True:=λ_=>trivial
    clear c2
    split
    . obtain rfl:=beq_iff_eq.mp c
      exact .cons q r
    . rename_i n;exact cD c n
  . rw[cC c]
    split
    . rename_i n;exact cD n c
    . exact .cons h ih
theorem nu {es:List DictEntry} {fs:FL} (h:IsEnts P F es fs):es.length=fs.length:=h.ind (C:=λes fs=>es.length=fs.length) rfl λy y y y y y y y ih=>cB Nat.succ ih
end
noncomputable def ik (K:Frag) (C:Addr) (x:Str):Bool:=plainGet K C x&&hasDictIn K C&&(match findIn K (.ref C) x with | some a=>noGet K a | none=>false)
noncomputable def j9 (K:Frag) (C:Addr) (x:Str):Bool:=(findIn K (.ref C) "__setattr__"==some (some (.builtin "object.__setattr__")))&&plainOver K C&&(takerIn K C x==some none)&&hasDictIn K C
noncomputable def gj (K:Frag) (C:Addr) (x:Str) (f:Addr):Bool:=
 plainGet K C x&&hasDictIn K C&&(findIn K (.ref C) x==some (some (.ref f)))&&isFn K (.ref f)&&(specialIn K (.ref f) "__get__"==some (some (.builtin "function.__get__")))&&(takesIn K (.ref f)==some false)&& !(copiedNames.contains x)
noncomputable def ja:AV->Bool
 | .lit v=>handedIn v
 | .any=>false
 | _=>true
theorem za {P:Params} {F:Fz} (h:Is P F v d) (e:ja d=true):handedIn v=true:=by
 induction d using AV.casesOn with
 | none=>exact(gD h).symm▸rfl
 | bool=>exact(lW h).symm▸rfl
 | int=>exact(dk h).elim λy q=>q.symm▸rfl
 | str=>exact(dy h).elim λy q=>q.symm▸rfl
 | lit=>exact(xg h).symm▸e
 | ref=>exact(dG h).symm▸rfl
 | tup=>exact jS (gG h) λy y y q y y=>q.symm▸rfl
 | lst=>exact jS (eU h) λy y y q y y=>q.symm▸rfl
 | dct=>exact Pi (ou h) λy y y q y y y=>q.symm▸rfl
 | meth=>exact dQ (lT h) λy q y=>q.symm▸rfl
 | obj=>exact jJ (jq h) λy y q y y=>q.symm▸rfl
 | any=>exact Bool.noConfusion e
noncomputable def oU (G h:Heap) (L:Addr) (ex:cK):List (Addr×Obj):=
 (List.range h.objs.size).filterMap λa=>if a=L\/a∈ex\/(G.get? a).isSome=true then none else (h.get? a).map (a,·)
theorem lM {a:Addr} {o:Obj}:(a,o)∈oU G h L ex↔h.get? a=some o/\a≠L/\a∉ex/\G.get? a=none:=by
 unfold oU;rw[List.mem_filterMap];constructor
 . intro z9;refine dQ z9 ?_;clear z9;rintro b hb e
   split at e
   . contradiction
   . rename_i q
     refine dQ (bb.mp e) ?_;rintro o' h1 h2
     cases h2
     simp only[not_or,Bool.not_eq_true,Option.isSome_eq_false_iff,Option.isNone_iff_eq_none]at q
     exact⟨h1,q.1,q.2.1,q.2.2⟩
 . intro z9;refine Rw z9 ?_;clear z9;rintro h1 h2 h3 h4
   refine⟨a,List.mem_range.mpr (Heap.lt_size h1),?_⟩
   rw[cC (by simp only[not_or,Bool.not_eq_true,Option.isSome_eq_false_iff,Option.isNone_iff_eq_none];exact⟨h2,h3,h4⟩),h1];rfl
theorem tD:News G L h (oU G h L ex):=λp hp=>by
 obtain⟨a,o⟩:=p;refine Rw (lM.mp hp) ?_;rintro h1 h2 y h4
 exact⟨h1,h2,h4⟩
theorem Ft {h':Heap} {m:Str->cO} {news:List (Addr×Obj)} (low:∀ b o,G.get? b=some o->h.get? b=some o) (F':Fr G L h' m) (N':News G L h' news) (sub:∀ p∈oU G h L ex,p∈news):
 ∀ b o,b≠L->b∉ex->h.get? b=some o->h'.get? b=some o:=by
 intro b o h1 h2 h3
 induction q:G.get? b using Option.casesOn with
 | none=>exact(N' _ (sub (b,o) (lM.mpr ⟨h3,h1,h2,q⟩))).1
 | some o'=>
  have:=low _ _ q
  rw[h3]at this
  obtain rfl:=Option.some.inj this
  exact F'.keep _ _ q
section
variable {P:Params} {G:Heap} {L:Addr} {F:Fz} {H:HL} {h:Heap} {l8:LL} {oe pB px:OL} {a:Addr} {o o':AO}
theorem Holds.frame (x:Holds P G L F H ⟨l8,oe⟩ h):∃ m,Fr G L h m/\∀ y d,(y,some d)∈l8->∃ v,m y=some v/\Is P F v d:=by
 refine dQ (x.loc) ?_;rintro m hm r
 exact⟨m,⟨hm,λb o e=>x.sub _ _ (x.core _ _ e),x.low⟩,r⟩
theorem Holds.outG (x:Holds P G L F H ⟨l8,oe⟩ h) {b:Addr} (hb:b∈L::dg oe):G.get? b=none:=by
 induction q:G.get? b using Option.casesOn with
 | none=>rfl
 | some o=>have:=x.apart b hb;rw[x.core _ _ q]at this;contradiction
theorem Holds.obj (x:Holds P G L F H ⟨l8,oe⟩ h) (m:(a,o)∈oe):zt P F h a o:=x.objs _ m
theorem gN:dg (pB++(a,o)::px)=dg pB++(a::(o.more++dg px)):=by rw[fg];rfl
theorem Holds.change (x:Holds P G L F H ⟨l8,pB++(a,o)::px⟩ h) {h':Heap} {c:Addr} (hc:c=a\/c∈o.more) (em:o'.more=o.more)
 (k : ∀ b y,b≠L->b≠c->h.get? b=some y->h'.get? b=some y) (hl:∃ m,h'.Ns L m/\∀ x d,(x,some d)∈l8->∃ v,m x=some v/\Is P F v d) (q:zt P F h' a o'):Holds P G L F H ⟨l8,pB++(a,o')::px⟩ h':=by
 have hcm:c∈a::o.more:=by rcases hc with rfl | hc;exact .head _;exact .tail _ hc
 have hnd:=x.nodup
 have eo:dg (pB++(a,o')::px)=dg (pB++(a,o)::px):=by rw[gN,gN,em]
 have aH:c∈dg (pB++(a,o)::px):=dK.mpr ⟨(a,o),by simp,by rcases hc with h | h;exact .inl h;exact .inr h⟩
 have other:∀ p:Addr×AO,p∈pB\/p∈px->∀ b,b=p.1\/b∈p.2.more->b≠c:=by
  intro p hp b hb e;rw[bU]at hnd
  have nd:=hnd.2
  rw[show(⟨l8,pB++(a,o)::px⟩:St).objs=pB++(a,o)::px from rfl,gN]at nd
  have nd2:=(bx.mp nd)
  rcases hp with hp | hp
  . exact nd2.2.2 b (dK.mpr ⟨p,hp,hb⟩) c (by
     rw[show a::(o.more++dg px)=(a::o.more)++dg px from rfl];exact bh _ hcm) e
  . have nd3:=nd2.2.1
    rw[show a::(o.more++dg px)=(a::o.more)++dg px from rfl,bx]at nd3
    exact nd3.2.2 c hcm b (dK.mpr ⟨p,hp,hb⟩) e.symm
 have neO:∀ p:Addr×AO,p∈pB\/p∈px->∀ b,b=p.1\/b∈p.2.more->b≠L:=by
  intro p hp b hb e;rw[bU]at hnd
  exact hnd.1 (e▸dK.mpr ⟨p,by rcases hp with hp | hp;exact bh _ hp;exact be _ (.tail _ hp),hb⟩)
 refine⟨x.core,λb y e=>k b y (λz=>?_) (λz=>?_) (x.sub _ _ e),hl,x.names,λp hp=>?_,by rw[eo];exact x.nodup,by rw[eo];exact x.apart,x.held,x.low⟩
 . subst z
   have:=x.apart b dH
   rw[e]at this;contradiction
 . subst z
   have:=x.apart b (.tail _ aH)
   rw[e]at this;contradiction
 . rcases bT.mp hp with hp | hp
   . exact(x.objs p (bh _ hp)).move (.refl F) λb y hb e=>k _ _ (neO p (.inl hp) b hb) (other p (.inl hp) b hb) e
   . rcases fD hp with rfl | hp
     . exact q
     . exact(x.objs p (be _ (.tail _ hp))).move (.refl F) λb y hb e=>k _ _ (neO p (.inr hp) b hb) (other p (.inr hp) b hb) e
end
section
variable {B:cX} {n:Nat} {L:Addr} {H:HL} {l8:LL} {oe pB px:OL} {a:Addr} {o o':AO}
theorem di.change {F:Fz} {s s':Shared} {Ψ:Fz->St->Prop} (x:Holds B.P B.G L F H ⟨l8,pB++(a,o)::px⟩ s.heap) {c:Addr} (hc:c=a\/c∈o.more) (em:o'.more=o.more)
 (k:∀ b y,b≠L->b≠c->s.heap.get? b=some y->s'.heap.get? b=some y) (hl:∃ m,s'.heap.Ns L m/\∀ x d,(x,some d)∈l8->∃ v,m x=some v/\Is B.P F v d) (q:zt B.P F s'.heap a o') (g:s'.gens=s.gens) (os:s'.os=s.os) (z:Ψ F ⟨l8,pB++(a,o')::px⟩):
 di B L H ⟨l8,pB++(a,o)::px⟩ F s s' Ψ:=by
 have aH:c∈L::dg (pB++(a,o)::px):=.tail _ (dK.mpr ⟨(a,o),by simp,by rcases hc with h | h;exact .inl h;exact .inr h⟩)
 refine⟨F,_,x.change hc em k hl q,⟨λb y hb e=>k b y (λz=>hb (z▸.head _)) (λz=>hb (z▸aH)) e,λb hb=>.inl ?_,λb y e=>.inl e,.refl F,.of g,os⟩,z⟩
 rw[show dg (pB++(a,o')::px)=dg (pB++(a,o)::px)from by rw[gN,gN,em]]at hb
 exact hb
end
end
section
variable {f:Addr} {ah:cG} {Φ:AV->OL->Prop}
structure gp (P:Params) (G:Heap) (F:Fz) (os:OL) (h:Heap):Prop where
 core:∀ b o,G.get? b=some o->F b=some o
 sub:∀ b o,F b=some o->h.get? b=some o
 objs:∀ p∈os,zt P F h p.1 p.2
 nodup:(dg os).Nodup
 apart:∀ b∈dg os,F b=none
 big:G.objs.size<=h.objs.size
inductive Eg (B:cX) (oe:OL) (F:Fz) (s:Shared) (Φ:AV->OL->Prop) (r:Result) (s':Shared):Prop
 | mk (v:Value) (d:AV) (o5:OL) (F':Fz) (e:r=.ok (.ret v)) (i:Is B.P F' v d) (y:gp B.P B.G F' o5 s'.heap) (p:eu (dg oe) F s (dg o5) F' s') (q:Φ d o5)
def cY (B:cX) (n:Nat) (f:Addr) (ah:cG) (oe:OL) (Φ:AV->OL->Prop):Prop:=
 ∀ A F s vs,gk n A->gp B.P B.G F oe s.heap->IsAll B.P F vs ah->
  codeAny B.M A (.call (.ref f) ⟨vs,[]⟩) (Eg B oe F s Φ) s
theorem cY.mono {n:Nat} {oe:OL} {Φ':AV->OL->Prop} (h:cY B n f ah oe Φ) (k:∀ d o,Φ d o->Φ' d o):cY B n f ah oe Φ':=
 λA F s vs hA x hv=>codeAny_mono (h A F s vs hA x hv) λ_ _ ⟨v,d,o,F',a,b,c,e,q⟩=>⟨v,d,o,F',a,b,c,e,k _ _ q⟩
theorem cY.room {n m:Nat} {oe:OL} (h:cY B m f ah oe Φ) (e:m<=n):cY B n f ah oe Φ:=
 λA F s vs hA x hv=>h A F s vs (hA.le e) x hv
section
variable {P:Params} {G:Heap} {L:Addr} {F:Fz} {H:HL} {h:Heap} {σ:St}
theorem Holds.big (x:Holds P G L F H σ h):G.objs.size<=h.objs.size:=by
 obtain⟨m,⟨o,_,_,ho,_⟩,_⟩:=x.loc;exact cm (Nat.lt_of_le_of_lt x.low (Heap.lt_size ho))
theorem Holds.call (x:Holds P G L F H σ h):gp P G F σ.objs h:=
 ⟨x.core,x.sub,x.objs,(bU.mp x.nodup).2,λb hb=>x.apart b (.tail _ hb),x.big⟩
theorem Holds.back {B:cX} {s s':Shared} {F':Fz} {o5:OL} (x:Holds B.P B.G L F H σ s.heap) (y:gp B.P B.G F' o5 s'.heap) (p:eu (dg σ.objs) F s (dg o5) F' s'):
 Holds B.P B.G L F' H ⟨σ.loc,o5⟩ s'.heap/\eu (L::dg σ.objs) F s (L::dg o5) F' s':=by
 have hL:L∉dg σ.objs:=(bU.mp x.nodup).1
 obtain⟨oL,hoL⟩:=x.there L dH;have hL':L∉dg o5:=λhm=>by
  rcases p.own L hm with q | q
  . exact hL q
  . rw[hoL]at q;contradiction
 refine⟨⟨y.core,y.sub,?_,x.names,y.objs,bU.mpr ⟨hL',y.nodup⟩,λb hb=>?_,λq hq=>(x.held q hq).mono p.mono,x.low⟩,⟨λb o hb e=>p.keep b o (λhm=>hb (.tail _ hm)) e,λb hb=>?_,λb o e=>?_,p.mono,p.gens,p.os⟩⟩
 . obtain⟨m,⟨o,es,ep,e1,r1⟩,r⟩:=x.loc
   exact⟨m,⟨o,es,ep,p.keep _ _ hL e1,r1⟩,λz d hz=>let ⟨v,e,q⟩:=r z d hz;⟨v,e,q.mono p.mono⟩⟩
 . rcases fD hb with rfl | hb
   . induction q:F' b using Option.casesOn with
     | none=>rfl
     | some o=>
      rcases p.frz b o q with z | z | z
      . rw[x.apart b dH]at z;contradiction
      . exact cD z hL
      . rw[hoL]at z;contradiction
   . exact y.apart b hb
 . rcases fD hb with rfl | hb
   . exact .inl dH
   . exact(p.own b hb).imp_left (.tail _)
 . rcases p.frz b o e with z | z | z
   . exact .inl z
   . exact .inr (.inl (.tail _ z))
   . exact .inr (.inr z)
end
section
variable {B:cX} {n:Nat} {L:Addr} {H:HL} {σ:St} {e9:Env}
theorem mf {P:Params} {F:Fz} {G:Heap} {h:Heap} (x:Holds P G L F H σ h):∀ {vs:cJ} {ds:cG},vs.length=ds.length->(∀ p∈vs.zip ds,p∈H)->IsAll P F vs ds
 | [],[],_,_=>.nil
 | v::vs,d::ds,e,k=>.cons (x.held _ (k _ dH)) (mf x (Nat.succ.inj e) λp hp=>k p (.tail _ hp))
theorem DP {f:Addr} {vs:cJ} {ds:cG} {Φ:PV} (e:vs.length=ds.length) (k:∀ p∈vs.zip ds,p∈H)
 (c:cY B n f ds σ.objs λd o5=>∀ v,Φ v d ⟨σ.loc,o5⟩):WV B n L (call (.ref f) vs) H σ Φ:=d9 λA F s hA x=>by
 refine wpAny_call (codeAny_mono (c A F s vs hA x.call (mf x e k)) λr s' z=>?_)
 obtain⟨v,d,o5,F',rfl,hd,y,p,q⟩:=z;obtain⟨x',p'⟩:=x.back y p;exact⟨F',_,x',p',d,hd,q v⟩
abbrev WL (B:cX) (n:Nat) (L:Addr) (t:Sem (cJ)) (H:HL) (σ:St) (Φ:cJ->cG->St->Prop):Prop:=
 W B n L t H σ (λvs F' σ'=>∃ ds,IsAll B.P F' vs ds/\Φ vs ds σ')
theorem wY {pn} {Φ:cJ->cG->St->Prop} (h:Φ [] [] σ):WL B n L (spliced (backTo pn (starEach [] e9))) H σ Φ:=d9 λy y y y x=>spliced_nil (.here x ⟨[],.nil,h⟩)
theorem xy {e:Expr} {r8:cI} {pn} {Φ:cJ->cG->St->Prop}
 (h:WV B n L (eval e e9) H σ λv d a1=>WL B n L (spliced (backTo pn (starEach r8 e9))) ((v,d)::H) a1 λvs ds a2=>Φ (v::vs) (d::ds) a2)
 (he:autoParam (starEach (e::r8) e9=(false,eval e e9)::starEach r8 e9) bR):WL B n L (spliced (backTo pn (starEach (e::r8) e9))) H σ Φ:=d9 λA F s hA x=>by
 refine he▸?_
 refine spliced_cons (cx (h.run A F s hA x) (λv s0 z=>z.then λF0 a1 x0 ⟨d,hd,w⟩=>?_) λy y z=>z)
 refine cx (w.run A F0 s0 hA (x0.push hd)) (λvs s6 z=>?_) λy y z=>z
 exact(z.fin λF1 a2 x1 ⟨ds,aL,q⟩=>.here x1 ⟨d::ds,.cons (x1.hold dH) aL,q⟩).weaken λy hp=>.tail _ hp
theorem gI {M:Model} {A:Around} {E:Value->Shared->Prop} {s:Shared} {f:Value} {ah:List (Bool×Sem Value)} {Q:Args->Shared->Prop} (hp:ah.any (·.1)=false)
 (h:wpAny M A (spliced ah) (λvs s'=>Q ⟨vs,[]⟩ s') E s):wpAny M A (evalArgs f true ah []) Q E s:=by
 induction ah using List.casesOn with
 | nil=>
  unfold evalArgs;exact cw (cx h (λvs s' z=>cw (cy (wpAny_holding (cw (cy (cw (cy (cy z)))))))) λy y z=>z)
 | cons a r=>
  obtain⟨b,x⟩:=a
  induction b using Bool.casesOn with
  | true=>simp at hp
  | false=>exact evalArgs_plain h
theorem nQ {first:cJ} {ah:cI} {pn} {Φ:PV} (hk:keepIn B.K (.ref f)=true)
 (h :WL B n L (spliced (backTo pn (starEach ah e9))) H σ λvs ds a1=>WV B n L (call (.ref f) (first++vs)) (vs.zip ds++H) a1 Φ)
 (hp :autoParam ((backTo pn (starEach ah e9)).any (·.1)=false) bR):WV B n L (callWith pn (.ref f) first (backTo pn (starEach ah e9)) []) H σ Φ:=d9 λA F s hA x=>by
 refine callWith_of (by rw[hp];rfl) (keeps_K hk) (gI hp (cx (h.run A F s hA x) (λvs s0 z=>⟨?_,?_⟩) λv v z=>z))
 . obtain⟨_,_,x0,_⟩:=z
   exact B.X.keeps λb o e=>x0.sub _ _ (x0.core _ _ e)
 . refine z.then λF0 a1 x0 ⟨ds,aL,w⟩=>?_
   have x1:Holds B.P B.G L F0 (vs.zip ds++H) a1 s0.heap:=⟨x0.core,x0.sub,x0.loc,x0.names,x0.objs,x0.nodup,x0.apart,λp hp=>by
    rcases bT.mp hp with hp | hp
    . exact zip_is aL p hp
    . exact x0.held p hp,x0.low⟩
   exact cx (w.run A F0 s0 hA x1) (λv v y=>y.weaken λv hp=>be _ hp) λv v z=>z
where
 zip_is {P:Params} {F:Fz} {vs:cJ} {ds:cG} (h:IsAll P F vs ds):∀ p∈vs.zip ds,Is P F p.1 p.2:=h.ind (C:=λvs ds=>∀ p∈vs.zip ds,Is P F p.1 p.2) (λy hp=>nomatch hp) λy y y y h y c=>List.forall_mem_cons.mpr ⟨h,c⟩
end
section
variable {B:cX} {n:Nat} {oe:OL}
def rg (Φ:AV->OL->Prop):PF
 | .ret d,σ=>Φ d σ.objs
 | .next,σ=>Φ .none σ.objs
 | _,_=>False
theorem oE {P:Params} {F:Fz} {fl:Flow} {e:Fl} {σ':St} (he:qe P F fl e) (q:rg Φ e σ'):∃ d,Is P F (match fl with | .ret v=>v | _=>.none) d/\Φ d σ'.objs:=by
 rcases fl with _ | _<;>rcases e with _ | _<;>first | exact he.elim | exact q.elim | exact⟨_,he,q⟩ | exact⟨_,.none,q⟩
theorem yg (h:Heap):h.get? h.objs.size=none:=aZ.mpr λy q=>cD (Heap.lt_size q) (Nat.lt_irrefl _)
theorem LH {n5 qc:Str} {pt:Arguments} {b0:cH} {se:Scope} {dV kV d8 pm c6 ct oc:Value} {an od:Option Addr} {ol:cT} {l8:LL}
 (ho:B.K.lookup f=some ⟨oc,od,.func (fnOf n5 qc pt b0 se dV kV d8 pm an c6 ct),ol⟩) (aP:codeIn B.K c6 qc=true)
 (hb:∀ (F:Fz) (s:Shared) (vs:cJ),IsAll B.P F vs ah->B.K.In s.heap->(∀ b o,B.G.get? b=some o->F b=some o)->∃ b5,BindsTo s (fnOf n5 qc pt b0 se dV kV d8 pm an c6 ct) ⟨vs,[]⟩ b5/\(∀ y∈b5,se.names.lookup y.1=some .local)/\
  ∀ x d,(x,some d)∈l8->∃ v,b5.reverse.lookup x=some v/\Is B.P F v d)
 (hn:(l8.map (·.1)).Nodup) (h:∀ L,WF B n L (execs b0 (envOf qc se L f c6)) [] ⟨l8,oe⟩ (rg Φ))
 (aH:autoParam (se.isCoroutine=false) bR) (aC:autoParam (se.isGenerator=false) bR) (hk:autoParam (se.kind=.function) bR) (aj:autoParam (∀ x∈se.names,x.2≠.cell) bD):cY B (n+1) f ah oe Φ:=by
 intro A F s vs hA x hvs;have up:∀ b o,B.G.get? b=some o->s.heap.get? b=some o:=λb o e=>x.sub _ _ (x.core _ _ e)
 refine kW (hb F s vs hvs (B.X.keeps up) x.core) ?_;rintro b5 aG aE hl
 refine codeAny_call_def (fd:=fnOf n5 qc pt b0 se dV kV d8 pm an c6 ct) (body:=b0) (binds:=b5) (by have:=hA.depth;show A.depth < 1000;omega) ((B.X.keeps up) _ _ ho) rfl (B.nolimit.keeps up)
  (codeRec_of (B.X.keeps up) aP) rfl aG aj aE (λh6 aJ h7=>?_) aH aC hk
 have hL:=yg s.heap
 have there:∀ b∈dg oe,∃ o,s.heap.get? b=some o:=λb hb=>by
  refine dQ (dK.mp hb) ?_;rintro p hp hb
  exact(x.objs p hp).there b hb
 have hLo:s.heap.objs.size∉dg oe:=λhm=>by obtain⟨o,ho⟩:=there _ hm;rw[hL]at ho;contradiction
 have hLF:F s.heap.objs.size=none:=aZ.mpr λo q=>nomatch (x.sub _ _ q).symm.trans hL
 have X:Holds B.P B.G s.heap.objs.size F [] ⟨l8,oe⟩ h6:=
  ⟨x.core,λb o e=>h7 _ _ (x.sub _ _ e),⟨_,aJ,hl⟩,hn,λp hp=>(x.objs p hp).move (.refl F) λb o w e=>h7 _ _ e,bU.mpr ⟨hLo,x.nodup⟩,
   λb hb=>by rcases fD hb with rfl | hb;exact hLF;exact x.apart b hb,λw hp=>(nomatch hp),x.big⟩
 have hA':gk n (A.deeper (callEnv (fnOf n5 qc pt b0 se dV kV d8 pm an c6 ct) s.heap.objs.size f)):=
  ⟨hA.handled,by have:=hA.depth;show A.depth+1+n<=900;omega,by have:=hA.units;show A.units+3+8*n<=9000;omega⟩
 refine cx ((h s.heap.objs.size).run _ F { s with heap:=h6,toks:=s.toks+b5.length } hA' X) (λfl s' z=>?_) λw w z=>z.elim
 obtain⟨F',σ',x',p,e,he,q⟩:=z;refine dQ (oE he q) ?_;rintro d hd q
 exact .mk _ d σ'.objs F' rfl hd x'.call ((p.over (λb hb=>(fD hb).elim (λe=>.inr (e▸hL)) .inl) h7 (.refl _) rfl).fewer λw=>.tail _) q
end
end
section
variable {x C dx:Addr} {fs:FL} {n5:Str} {v6:Value} {d:AV}
inductive oB (a:Addr) (o o':AO):OL->OL->Prop
 | head {r}:oB a o o' ((a,o)::r) ((a,o')::r)
 | tail {p r r'}:oB a o o' r r'->oB a o o' (p::r) (p::r')
theorem oB.split {a:Addr} {o o':AO} {l l':OL} (h:oB a o o' l l'):∃ pB px,l=pB++(a,o)::px/\l'=pB++(a,o')::px:=by
 induction h with
 | head=>exact⟨[],_,rfl,rfl⟩
 | @tail p _ _ _ ih=>
  refine iM (ih) ?_;clear ih;rintro pB px e e'
  exact⟨p::pB,px,cB (List.cons p) e,cB (List.cons p) e'⟩
section
variable {B:cX} {n:Nat} {L:Addr} {H:HL} {σ:St} {e9:Env}
theorem Holds.K {F:Fz} {h:Heap} (x:Holds B.P B.G L F H σ h):B.K.In h:=B.X.keeps λb o e=>x.sub _ _ (x.core _ _ e)
theorem G2 {expr:Bool} {Φ:PV} (mv:(v6,.ref x)∈H) (m:(x,AO.inst C dx fs)∈σ.objs) (ho:ik B.K C n5=true)
 (hf:ew n5 fs=some d) (hd:ja d=true) (h:∀ v,Φ v d σ):WV B n L (getAttr v6 n5 expr) H σ Φ:=by
 refine d9 λA F s hA X=>?_
 obtain rfl:=dG (X.hold mv)
 obtain⟨h1,es,k,h2,h3⟩:=X.objs _ m;refine dQ (tV h3 hf) ?_;rintro v e1 e2
 simp only[ik,Bool.and_eq_true]at ho
 obtain⟨⟨hg,hh⟩,hn⟩:=ho
 induction ha:findIn B.K (.ref C) n5 using Option.casesOn with
 | none=>rw[ha]at hn;exact Bool.noConfusion hn
 | some aq=>
  rw[ha]at hn
  exact get_value X.K (⟨h1,rfl,rfl,h2⟩:InstAt s.heap x (instObj C dx) C (some (dictOf es k))) (plainGet_of hg).1 (findObj_own hh ha hn (by rw[lookIn_dict];exact e1)) (za e2 hd) (.toks X ⟨d,e2,h v⟩)
theorem EJ {f:Addr} {expr:Bool} {Φ:PV} (mv:(v6,.ref x)∈H) (m:(x,AO.inst C dx fs)∈σ.objs) (ho:gj B.K C n5 f=true)
 (hf:ew n5 fs=none) (h:∀ v,Φ v (.meth f x) σ):WV B n L (getAttr v6 n5 expr) H σ Φ:=by
 refine d9 λA F s hA X=>?_
 obtain rfl:=dG (X.hold mv)
 obtain⟨h1,es,k,h2,h3⟩:=X.objs _ m;simp only[gj,Bool.and_eq_true,beq_iff_eq,Bool.not_eq_true']at ho
 obtain⟨⟨⟨⟨⟨⟨hg,hh⟩,ha⟩,hfn⟩,hgf⟩,ht⟩,hc⟩:=ho;refine get_bind X.K (⟨h1,rfl,rfl,h2⟩:InstAt s.heap x (instObj C dx) C (some (dictOf es k))) (plainGet_of hg).1 (findObj_fn hh ha hgf ht hc (by rw[lookIn_dict];exact kR h3 hf)) (plainGet_of hg).2
  (wpAny_call (fn_get (s:={ s with toks:=s.toks+1 }) X.K (beq_iff_eq.mp hfn) (handed_on rfl ?_)))
 exact di.fresh X (λb o e=>bc _ e) (by
  induction q:s.heap.get? s.heap.objs.size using Option.casesOn with
  | none=>rfl
  | some o=>exact cD (Heap.lt_size q) (Nat.lt_irrefl _)) (bm _ rfl) rfl rfl λle=>⟨_,.meth (Fz.put_self ..),h _⟩
theorem Cd {f:Addr} {pl:Sem Bool} {Ψ:Value×cJ->Fz->St->Prop} (mv:(v6,.ref x)∈H) (m:(x,AO.inst C dx fs)∈σ.objs) (ho:gj B.K C n5 f=true)
 (hf:ew n5 fs=none) (h:∀ F,Ψ (.ref f,[v6]) F σ):W B n L (getMethod v6 n5 pl) H σ Ψ:=by
 refine d9 λA F s hA X=>?_
 obtain rfl:=dG (X.hold mv)
 obtain⟨h1,es,k,h2,h3⟩:=X.objs _ m;simp only[gj,Bool.and_eq_true,beq_iff_eq,Bool.not_eq_true']at ho
 obtain⟨⟨⟨⟨⟨⟨hg,hh⟩,ha⟩,hfn⟩,hgf⟩,ht⟩,hc⟩:=ho;exact method_fn X.K (⟨h1,rfl,rfl,h2⟩:InstAt s.heap x (instObj C dx) C (some (dictOf es k))) (plainGet_of hg).1 (plainGet_of hg).2 ha (beq_iff_eq.mp hfn) (by
  show(lookIn n5 (dictOf es k)).map _ = _
  rw[lookIn_dict,kR h3 hf];rfl) (.here X (h F))
theorem nD {pl:Sem Bool} {Ψ:Value×cJ->Fz->St->Prop} (mv:(v6,.ref x)∈H) (m:(x,AO.inst C dx fs)∈σ.objs)
 (ho:ik B.K C n5=true) (hn:findIn B.K (.ref C) n5=some none) (hf:ew n5 fs=some d) (hd:ja d=true) (h:∀ v F,Is B.P F v d->Ψ (v,[]) F σ):W B n L (getMethod v6 n5 pl) H σ Ψ:=by
 refine d9 λA F s hA X=>?_
 have mv':=mv
 obtain rfl:=dG (X.hold mv)
 obtain⟨h1,es,k,h2,h3⟩:=X.objs _ m;have hg:plainGet B.K C n5=true:=by
  simp only[ik,Bool.and_eq_true]at ho
  exact ho.1.1
 refine method_usual X.K (⟨h1,rfl,rfl,h2⟩:InstAt s.heap x (instObj C dx) C (some (dictOf es k))) (plainGet_of hg).1 (plainGet_of hg).2 hn rfl ?_
 refine cx ((G2 (n:=n) (Φ:=λy e σ'=>e=d/\σ'=σ) mv m ho hf hd (λy=>⟨rfl,rfl⟩)).run A F s hA X) (λv s' z=>?_) λy y z=>z
 obtain⟨F',σ',X',p,e,he,rfl,rfl⟩:=z;exact⟨F',_,X',p,h v F' he⟩
theorem FY {v:Value} {o5:OL} {Φ:St->Prop} (mv:(v6,.ref x)∈H) (md:(v,d)∈H) (m:oB x (.inst C dx fs) (.inst C dx (fT n5 d fs)) σ.objs o5)
 (ho :j9 B.K C n5=true) (hz:fs.length<=900) (h:Φ ⟨σ.loc,o5⟩):WU B n L (setAttr v6 n5 v) H σ Φ:=by
 refine d9 λA F s hA X=>?_
 obtain⟨l8,oe⟩:=σ;refine iM (m.split) ?_;rintro pB px rfl rfl
 obtain rfl:=dG (X.hold mv)
 have hd:=X.hold md
 obtain⟨h1,es,k,h2,h3⟩:=X.objs (x,.inst C dx fs) (by simp)
 simp only[j9,Bool.and_eq_true,beq_iff_eq]at ho
 obtain⟨⟨⟨hs,hp⟩,ht⟩,hh⟩:=ho;refine dQ (X.frame) ?_;rintro m5 FR hl
 have hdo:dx∈dg (pB++(x,AO.inst C dx fs)::px):=dK.mpr ⟨(x,.inst C dx fs),by simp,.inr dH⟩
 have hdx:dx∈L::dg (pB++(x,AO.inst C dx fs)::px):=.tail _ hdo
 have neL:dx≠L:=λe=>(bU.mp X.nodup).1 (e▸hdo)
 have nex:x≠dx:=λe=>by
  have:=(bU.mp X.nodup).2
  rw[show(⟨l8,pB++(x,AO.inst C dx fs)::px⟩:St).objs= _ from rfl,gN]at this
  have:=(bx.mp this).2.1
  exact(bU.mp this).1 (by exact(e)▸dH)
 have nxL:x≠L:=λe=>(bU.mp X.nodup).1 (e▸dK.mpr ⟨(x,.inst C dx fs),by simp,.inl rfl⟩)
 have N:News B.G L s.heap ((dx,dictOf es k)::oU B.G s.heap L [dx]):=λp hp=>by
  rcases fD hp with rfl | hp
  . exact⟨h2,neL,X.outG hdx⟩
  . exact tD _ hp
 refine set_dict FR B.X N (⟨h1,rfl,rfl,h2⟩:InstAt s.heap x (instObj C dx) C (some (dictOf es k))) rfl hs hp ht hh (zm h3) (es':=_) (n':=_) rfl
  (Upd.head λp hp=>by
   obtain⟨a,o⟩:=p;exact λe=>(lM.mp hp).2.2.1 (e▸.head _)) ?_ λh' F' N'=>?_
 . have e1:=nu h3
   have e2:(putL n5 (PyData.keyHash B.w.params n5) (.str n5 (s.toks+1)) v es).length= _:=nu (uf (x:=n5) (t:=s.toks+1) hd h3)
   have:∀ fs:FL,(fT n5 d fs).length<=fs.length+1:=by
    intro fs
    induction fs with
    | nil=>simp[fT]
    | cons p r ih=>
     rw[fR]
     split
     . simp
     . simp only[bL];exact Nat.lt_succ_of_le ‹_›
   have:=this fs
   omega
 . have keep:∀ b o,b≠L->b≠dx->s.heap.get? b=some o->h'.get? b=some o:=λb o q1 q2 e=>
    Ft (λb o e=>X.sub _ _ (X.core _ _ e)) F' N' (ex:=[dx]) (h:=s.heap) (λp hp=>.tail _ hp) b o q1 (λhm=>q2 (bq.mp hm)) e
   exact di.change (o':=.inst C dx (fT n5 d fs)) X (c:=dx) (.inr dH) rfl (λb o q1 q2 e=>keep b o q1 q2 e) ⟨m5,F'.ns,hl⟩ ⟨keep _ _ nxL nex h1,_,_,(N' _ dH).1,uf hd h3⟩ rfl rfl h
end
end
section
variable {x aq:Str} {d:AV} {l l':LL} {Φ:PV} {e o:Expr}
inductive jV (x:Str) (d:AV):LL->LL->Prop
 | hit {o r}:jV x d ((x,o)::r) ((x,some d)::r)
 | skip {p r r'}:jV x d r r'->jV x d (p::r) (p::r')
theorem jV.keys (h:jV x d l l'):l'.map (·.1)=l.map (·.1):=by
 induction h with
 | hit=>rfl
 | skip _ ih=>exact cB (List.cons _) ih
theorem jV.isKey (h:jV x d l l'):x∈l.map (·.1):=by
 induction h with
 | hit=>exact .head _
 | skip _ ih=>exact .tail _ ih
theorem jV.mem {y:Str} {e:AV} (s:jV x d l l') (n:(l.map (·.1)).Nodup) (h:(y,some e)∈l'):(y=x/\e=d)\/(y≠x/\(y,some e)∈l):=by
 induction s with
 | hit=>
  rcases fD h with h | h
  . cases h;exact .inl ⟨rfl,rfl⟩
  . exact .inr ⟨λz=>(bU.mp n).1 (cg.mpr ⟨(y,some e),h,z⟩),.tail _ h⟩
 | skip s ih=>
  rcases fD h with h | h
  . subst h;exact .inr ⟨λz=>(bU.mp n).1 (z▸s.isKey),.head _⟩
  . exact(ih (bU.mp n).2 h).imp_right λq=>⟨q.1,.tail _ q.2⟩
section
variable {B:cX} {n:Nat} {L:Addr} {H:HL} {σ:St} {e9:Env}
theorem CU {v:Value} {l9:LL} {Φ:St->Prop} (md:(v,d)∈H) (m:jV x d σ.loc l9) (h:Φ ⟨l9,σ.objs⟩) (hl:autoParam (e9.kindOf x=some .local) bR)
 (hL :autoParam (e9.locals=L) bR) (hp:autoParam ((e9.scope.kind==.class||(e9.scope.kind==.module&&e9.locals !=e9.globals))=false) bR):WU B n L (storeName e9 x v) H σ Φ:=by
 refine d9 λA F s hA X=>?_
 subst hL;refine dQ (X.loc) ?_;rintro m5 aJ r
 refine wpAny_storeName_local hl aJ (λh' hn hs=>?_) hp
 have keep:∀ b o,b≠e9.locals->s.heap.get? b=some o->h'.get? b=some o:=λb o q e=>(hs.2 b q).trans e
 refine⟨F,⟨l9,σ.objs⟩,⟨X.core,λb o e=>keep b o (λz=>?_) (X.sub _ _ e),⟨_,hn,λy e hy=>?_⟩,by refine m.keys▸?_;exact X.names,λp hp=>(X.objs p hp).move (.refl F) λb o hb e=>keep b o (λz=>?_) e,
  X.nodup,X.apart,X.held,X.low⟩,⟨λb o hb e=>keep b o (λz=>hb (z▸.head _)) e,λb hb=>.inl hb,λb o e=>.inl e,.refl F,.refl _,rfl⟩,h⟩
 . have:=X.apart b (z▸.head _)
   rw[e]at this;contradiction
 . rcases m.mem X.names hy with⟨rfl,rfl⟩ | ⟨q,hy⟩
   . exact⟨v,cE rfl,X.hold md⟩
   . refine dQ (r y e hy) ?_;rintro w e1 e2
     exact⟨w,by refine(cC q)▸?_;exact e1,e2⟩
 . exact(bU.mp X.nodup).1 (z▸dK.mpr ⟨p,hp,hb⟩)
theorem AM {d} (hm:(x,some d)∈σ.loc) (h:∀ v,Φ v d σ) (hk:autoParam (e9.scope.kind=.function) bR) (hl:autoParam (e9.kindOf x=some .local) bR)
 (hL:autoParam (e9.locals=L) bR):WV B n L (loadName e9 x) H σ Φ:=by
 refine d9 λA F s hA X=>?_
 refine dQ (X.loc) ?_;rintro m aJ r
 refine dQ (r x d hm) ?_;rintro v e q
 exact wpAny_loadName_local hk hl (hL.symm▸aJ) e (.here X ⟨d,q,h v⟩)
theorem L6 {pn} (h:WV B n L (eval e e9) H σ λo d a1=>WV B n L (getAttr o aq true) ((o,d)::H) a1 Φ)
 (he:autoParam (eval (.Attribute e aq pn) e9=(do
  let o <-eval e e9
  standAt pn.atName
  let r <-holding [o] (getAttr o aq true)
  letTemporaryGo e o r
  pure r)) bW):WV B n L (eval (.Attribute e aq pn) e9) H σ Φ:=by
 rw[he];refine dm (dh h λo d a1 w=>dr (dm (dc (dh w λr d7 a2 q=>?_))))
 exact d9 λA F s hA x=>cw (wpAny_letTemporaryGo (cy (.here x ⟨_,x.hold dH,q⟩)))
theorem wC {n5:Str} {ar pn} {ah:cI} {pl:Sem Bool}
 (h:WV B n L (eval o e9) H σ λov d a1=>W B n L (getMethod ov n5 pl) ((ov,d)::H) a1 λp y a2=>WV B n L (callWith pn p.1 p.2 (backTo pn (starEach ah e9)) []) ((ov,d)::H) a2 Φ)
 (he:autoParam (eval (.Call (.Attribute o n5 ar) ah [] pn) e9=(do
  let ov <-eval o e9
  standAt ar.atName
  let (f,first) <-holding [ov] (getMethod ov n5 pl)
  callWith pn f first (backTo pn (starEach ah e9)) [])) bR):WV B n L (eval (.Call (.Attribute o n5 ar) ah [] pn) e9) H σ Φ:=by
 rw[he];refine dm (dh h λov d a1 w=>dr ?_)
 exact gh (dc w) λp F a2 q=>⟨(ov,d)::H,λy h=>h,λy h=>.inl h,q⟩
theorem mM {f:Expr} {ah:cI} {pn}
 (h:WV B n L (eval f e9) H σ λfv d a1=>WV B n L (callWith pn fv [] (backTo pn (starEach ah e9)) []) ((fv,d)::H) a1 Φ)
 (he:autoParam (eval (.Call f ah [] pn) e9=(do callWith pn (<-eval f e9) [] (backTo pn (starEach ah e9)) [])) bR):WV B n L (eval (.Call f ah [] pn) e9) H σ Φ:=by
 rw[he];exact dm h
theorem ig {p pn} {Φ:PF}
 (h:WV B n L (eval e e9) H σ λv d a1=>WV B n L (eval o e9) ((v,d)::H) a1 λov od a2=>WU B n L (setAttr ov aq v) ((ov,od)::(v,d)::H) a2 λa3=>Φ .next a3)
 (hs:autoParam (swapsWith e (some (.Attribute o aq p)) pn.line e9=pure false) bR):WF B n L (exec (.Assign [.Attribute o aq p] e pn) e9) H σ Φ:=by
 rw[plainObj_exec_Assign_Attribute o aq p e pn hs];refine dr (dm (dh h λv d a1 w=>?_))
 rw[arm_assign_Attribute];refine fU (dm (dc (dh w λov od a2 w0=>dr (fU (dc (gX w0 λa3 q=>?_))))))
 exact jx (lG q)
theorem z6 {p pn op} {Φ:PF}
 (h:WV B n L (eval o e9) H σ λov od a1=>WV B n L (getAttr ov aq true) ((ov,od)::H) a1 λa d a2=>WV B n L (eval e e9) ((a,d)::(ov,od)::H) a2 λb y a3=>
  WV B n L (inplaceOp op a b) ((b,y)::(a,d)::(ov,od)::H) a3 λc z a4=>WU B n L (setAttr ov aq c) ((c,z)::(ov,od)::H) a4 λa5=>Φ .next a5):
 WF B n L (exec (.AugAssign (.Attribute o aq p) op e pn) e9) H σ Φ:=by
 rw[arm_exec_AugAssign_2];refine dr (dm (dh h λov od a1 w=>dm (dc ?_)))
 refine dr (dm (dh w λa d a2 w0=>dm (dc (dh w0 λb y a3 w7=>dr (gu (dh w7 λc z a4 w9=>?_))))))
 refine dr (fU (dc (gX w9 λa5 q=>?_)))
 exact d9 λA F s hA x=>cw (wpAny_release (cy (.here x ⟨.next,trivial,q⟩)))
end
end
section
variable {M:Model} {p pn:Pos} {s s':Shared} {α:Type} {elts:cI} {Φ:PV} {l8:LL} {oe:OL}
theorem jZ (s:Shared) (g:Nat) (x:GenState):(s.setGen g x).toks=s.toks:=rfl
theorem na {Γ:Ctx} {t:Sem Fin} {fs:List Frame} {e:End} (h:Runs M Γ p t fs s e s'):s.toks<=s'.toks:=by
 induction h<;>(try simp only[jZ]at*)<;>(try dsimp only at*)<;>omega
theorem vg {Γ:Ctx} {g:Nat} {r:Resume} {res:GenResult} (h:Wakes M Γ p g r s res s'):s.toks<=s'.toks:=by
 unfold Wakes at h
 split at h
 . exact h.elim
 . split at h
   . refine FO (h) ?_;clear h;rintro e s0 h1 y y rfl
     have:=na h1
     simpa only[jZ]using this
   . obtain⟨_,rfl⟩:=h;exact cv _
   . obtain⟨_,rfl⟩:=h;exact cv _
 . refine FO (h) ?_;clear h;rintro e s0 h1 y y rfl
   have:=na h1
   simpa only[jZ]using this
 . obtain⟨_,rfl⟩:=h;exact cv _
 . obtain⟨_,rfl⟩:=h;exact cv _
theorem xJ (M:Model) (Γ:Ctx) (t:Sem α) {Q:α->Pos->Shared->Prop} {E:Value->Pos->Shared->Prop} (n:Nat) (hn:n<=s.toks) (h:Sem.wp M Γ t Q E p s):Sem.wp M Γ t (λa p' s'=>n<=s'.toks/\Q a p' s') E p s:=by
 induction t generalizing p s with
 | pure a=>exact⟨hn,h⟩
 | raise e=>exact h
 | call c hd g l k ih=>
  refine iM (h) ?_;clear h;rintro r s0 h1 h2
  exact⟨r,s0,h1,ih r (dt hn (na h1)) h2⟩
 | resume g r l k ih=>
  refine iM (h) ?_;clear h;rintro r s0 h1 h2
  exact⟨r,s0,h1,ih r (dt hn (vg h1)) h2⟩
 | fresh k ih=>exact ih _ (Nat.le_succ_of_le hn) h
 | load a part k ih=>refine dQ (h) ?_;clear h;rintro o h1 h2;exact⟨o,h1,ih _ hn h2⟩
 | genState g k ih=>refine dQ (h) ?_;clear h;rintro o h1 h2;exact⟨o,h1,ih _ hn h2⟩
 | update a part f k ih=>exact⟨h.1,ih _ hn h.2⟩
 | choose src m k ih=>exact⟨h.1,ih _ hn h.2⟩
 | rule _ k ih=>exact ih _ hn h
 | «at» _ k ih=>exact ih _ hn h
 | loadIfAlive _ k ih=>exact ih _ hn h
 | point _ k ih=>exact ih _ hn h
 | alloc _ k ih=>exact ih _ hn h
 | ask k ih=>exact ih _ hn h
 | os _ _ k ih=>exact ih _ hn h
 | handled _ k ih=>exact ih _ hn h
 | newGen _ k ih=>exact ih _ hn h
 | stack k ih=>exact ih _ hn h
 | thread k ih=>exact ih _ hn h
 | _=>exact h.elim
theorem jw {A:Around} {t:Sem α} {Q:α->Shared->Prop} {E:Value->Shared->Prop} (h:wpAny M A t Q E s):wpAny M A t (λa s'=>s.toks<=s'.toks/\Q a s') E s:=
 λΓ p hΓ=>xJ M Γ t s.toks (cv _) (h Γ p hΓ)
theorem eI (h:Heap):h.get? h.objs.size=none:=by
 induction q:h.get? h.objs.size using Option.casesOn with
 | none=>rfl
 | some o=>exact cD (Heap.lt_size q) (Nat.lt_irrefl _)
section
variable {B:cX} {n:Nat} {L:Addr} {H:HL} {σ:St} {e9:Env}
theorem di.track {F:Fz} {Ψ:Fz->St->Prop} (x:Holds B.P B.G L F H σ s.heap) {a:Addr} {o:AO} (k:∀ b y,s.heap.get? b=some y->s'.heap.get? b=some y)
 (hn :∀ b∈a::o.more,s.heap.get? b=none) (nd:(a::o.more).Nodup) (q:zt B.P F s'.heap a o) (g:s'.gens=s.gens) (os:s'.os=s.os) (z:Ψ F ⟨σ.loc,(a,o)::σ.objs⟩):di B L H σ F s s' Ψ:=by
 have old:∀ b∈L::dg σ.objs,b∉a::o.more:=λb hb hm=>by obtain⟨y,hy⟩:=x.there b hb;rw[hn b hm]at hy;contradiction
 have x':=x.grow k
 have eo:dg ((a,o)::σ.objs)=(a::o.more)++dg σ.objs:=rfl
 refine⟨F,⟨σ.loc,(a,o)::σ.objs⟩,⟨x.core,x'.sub,x'.loc,x.names,λp hp=>?_,?_,λb hb=>?_,x.held,x.low⟩,⟨λb o v e=>k b o e,λb hb=>?_,λb o e=>.inl e,.refl F,.of g,os⟩,z⟩
 . rcases fD hp with rfl | hp
   . exact q
   . exact x'.objs p hp
 . have xn:=bU.mp x.nodup
   rw[eo,bU,bx];refine⟨λhm=>?_,nd,xn.2,λb hb c hc e=>old c (.tail _ hc) (e▸hb)⟩
   rcases bT.mp hm with hm | hm
   . exact old L dH hm
   . exact xn.1 hm
 . rw[eo]at hb
   rcases fD hb with rfl | hb
   . exact x.apart b dH
   rcases bT.mp hb with hb | hb
   . induction w:F b using Option.casesOn with
     | none=>rfl
     | some y=>have:=x.sub _ _ w;rw[hn b hb]at this;contradiction
   . exact x.apart b (.tail _ hb)
 . rw[eo]at hb
   rcases fD hb with rfl | hb
   . exact .inl dH
   rcases bT.mp hb with hb | hb
   . exact .inr (hn b hb)
   . exact .inl (.tail _ hb)
theorem xF {k:Nat} (h:WL B n L (spliced (backTo pn (starEach elts e9))) H σ λy ds a1=>ds.length<=16777216/\∀ v,Φ v (.tup ds) a1):
 WV B n L (eval (.Tuple elts k pn) e9) H σ Φ:=d9 λA F s hA x=>by
 refine wpAny_Tuple (cx (h.run A F s hA x) (λvs s0 z=>⟨?_,?_⟩) λy y z=>z)
 . obtain⟨_,_,_,_,ds,aL,hz,_⟩:=z
   refine aL.length▸dP▸?_;exact hz
 . refine z.fin λF0 a1 x0 ⟨ds,aL,_,q⟩=>?_
   exact di.fresh x0 (λb o e=>bc _ e) (eI _) (bm _ rfl) rfl rfl λle=>⟨.tup ds,.tup (Fz.put_self ..) (aL.mono le),q _⟩
theorem xU (h:WL B n L (spliced (backTo pn (starEach elts e9))) H σ λy ds a1=>ds.length<=16777216/\∀ v,Φ v (.lst ds) a1):
 WV B n L (eval (.List elts pn) e9) H σ Φ:=d9 λA F s hA x=>by
 refine wpAny_List (cx (h.run A F s hA x) (λvs s0 z=>⟨?_,?_⟩) λy y z=>z)
 . obtain⟨_,_,_,_,ds,aL,hz,_⟩:=z
   refine aL.length▸dP▸?_;exact hz
 . refine z.fin λF0 a1 x0 ⟨ds,aL,_,q⟩=>?_
   exact di.fresh x0 (λb o e=>bc _ e) (eI _) (bm _ rfl) rfl rfl λle=>⟨.lst ds,.lst (Fz.put_self ..) (aL.mono le),q _⟩
theorem vI (h:WL B n L (spliced (backTo pn (starEach elts e9))) H σ λy ds a1=>ds.length<=16777216/\∀ a,Φ (.ref a) (.ref a) ⟨a1.loc,(a,.list ds)::a1.objs⟩):
 WV B n L (eval (.List elts pn) e9) H σ Φ:=d9 λA F s hA x=>by
 refine wpAny_List (cx (h.run A F s hA x) (λvs s0 z=>⟨?_,?_⟩) λy y z=>z)
 . obtain⟨_,_,_,_,ds,aL,hz,_⟩:=z
   refine aL.length▸dP▸?_;exact hz
 . refine z.fin λF0 a1 x0 ⟨ds,aL,_,q⟩=>?_
   exact di.track (a:=s0.heap.objs.size) (o:=.list ds) x0 (λb o e=>bc _ e) (λb hb=>by refine(bq.mp hb)▸?_;exact eI _) (by simp[AO.more]) ⟨_,_,bm _ rfl,aL⟩ rfl rfl ⟨_,.ref _,q _⟩
theorem fC {a b:OL} (h:a.Perm b):(dg a).Perm (dg b):=by
 induction h with
 | nil=>exact .refl _
 | cons p _ ih=>exact(List.Perm.append_left (p.1::p.2.more) ih)
 | swap p q r=>
  show((q.1::q.2.more)++((p.1::p.2.more)++dg r)).Perm ((p.1::p.2.more)++((q.1::q.2.more)++dg r))
  rw[<-bB,<-bB];exact List.Perm.append_right _ bg
 | trans _ _ ih1 ih2=>exact ih1.trans ih2
theorem Holds.drop {P:Params} {G:Heap} {F:Fz} {h:Heap} {o5 r8:OL} (x:Holds P G L F H ⟨l8,oe⟩ h) (e:oe.Perm (o5++r8)):Holds P G L F H ⟨l8,o5⟩ h:=by
 have pe:=fC e
 rw[fg]at pe
 have sub:∀ b∈dg o5,b∈dg oe:=λb hb=>pe.mem_iff.mpr (bh _ hb)
 have nd:=bU.mp x.nodup
 refine⟨x.core,x.sub,x.loc,x.names,λp hp=>x.objs p (e.mem_iff.mpr (bh _ hp)),bU.mpr ⟨λhm=>nd.1 (sub _ hm),?_⟩,λb hb=>?_,x.held,x.low⟩
 . exact(bx.mp (pe.nodup_iff.mp nd.2)).1
 . rcases fD hb with rfl | hb
   . exact x.apart b dH
   . exact x.apart b (.tail _ (sub b hb))
theorem vP {t:Sem α} {Ψ:α->Fz->St->Prop} {o5 r8:OL} (e:oe.Perm (o5++r8)) (h:W B n L t H ⟨l8,o5⟩ Ψ):W B n L t H ⟨l8,oe⟩ Ψ:=d9 λA F s hA x=>by
 have pe:=fC e
 rw[fg]at pe
 have sub:∀ b∈L::dg o5,b∈L::dg oe:=λb hb=>by
  rcases fD hb with rfl | hb
  . exact .head _
  . exact .tail _ (pe.mem_iff.mpr (bh _ hb))
 refine cx (h.run A F s hA (x.drop e)) (λa s' z=>?_) λy y z=>z
 obtain⟨F',σ',x',p,q⟩:=z;refine⟨F',σ',x',⟨λb o hb=>p.keep b o λhm=>hb (sub b hm),λb hb=>(p.own b hb).imp_left (sub b),λb o e=>?_,p.mono,p.gens,p.os⟩,q⟩
 rcases p.frz b o e with z | z | z
 . exact .inl z
 . exact .inr (.inl (sub b z))
 . exact .inr (.inr z)
end
end
section
variable {id:String} {v6:Value}
noncomputable def fF (n:Nat) (i:Int):Nat:=Int.casesOn i (λk=>min k n) λk=>n - (k+1)
noncomputable def sl (l:cF) (lo hi:Option Int):cF:=(l.take ((hi.map (fF l.length)).getD l.length)).drop ((lo.map (fF l.length)).getD 0)
theorem uG {n m:Int} (h0:0<=m) (h1:m<=n):max 0 (min m n)=m:=by rw[Int.min_eq_left h1,Int.max_eq_right h0]
theorem yI {n m:Int} (h:m < 0):max 0 (min m n)=0:=Int.max_eq_left (Int.le_trans (Int.min_le_left _ _) (Int.le_of_lt h))
theorem yu (k n:Nat):max 0 (min (k:Int) (n:Int))=((min k n:Nat):Int):=
 (Nat.le_total k n).elim (λh=>(uG (bp k) (ci.mpr h)).trans (cB Int.ofNat (Nat.min_eq_left h).symm)) λh=>(cB (max 0) (Int.min_eq_right (ci.mpr h))).trans ((Int.max_eq_right (bp n)).trans (cB Int.ofNat (Nat.min_eq_right h).symm))
theorem yH (k n:Nat):max 0 (min (Int.subNatNat n (k+1)) (n:Int))=((n - (k+1):Nat):Int):=
 (Nat.lt_or_ge n (k+1)).elim (λh=>(cB (λz:Int=>max 0 (min z (n:Int))) (Int.subNatNat_of_lt h)).trans ((yI (Int.negSucc_lt_zero _)).trans (cB Int.ofNat (Nat.sub_eq_zero_of_le (cm h)).symm))) λh=>(cB (λz:Int=>max 0 (min z (n:Int))) (Int.subNatNat_of_le h)).trans (uG (bp _) (ci.mpr (Nat.sub_le _ _)))
theorem lu (l:cF) (i j:Int):sl l (some i) (some j)=(l.take (fF l.length j)).drop (fF l.length i):=rfl
theorem qU (l:cF) (i:Int):sl l (some i) none=(l.take l.length).drop (fF l.length i):=rfl
theorem Ma (l:cF) (j:Int):sl l none (some j)=(l.take (fF l.length j)).drop 0:=rfl
theorem js (n:Nat) (i:Int):max 0 (min (if i < 0 then i+n else i) (n:Int))=((fF n i:Nat):Int):=by
 induction i using Int.casesOn with
 | ofNat k=>exact(cB (λz:Int=>max 0 (min z (n:Int))) (cC (Int.not_lt.mpr (bp k)))).trans (yu k n)
 | negSucc k=>exact(cB (λz:Int=>max 0 (min z (n:Int))) (cE (Int.negSucc_lt_zero k))).trans (yH k n)
theorem oA (n:Nat) (i:Int):fF n i<=n:=by
 induction i using Int.casesOn with
 | ofNat k=>exact Nat.min_le_right _ _
 | negSucc k=>exact Nat.sub_le _ _
theorem eK {n i:Nat} (h:i<=n):fF n (i:Int)=i:=Nat.min_eq_left h
theorem iJ {n:Nat} {i:Int} (h:(n:Int)<=i):fF n i=n:=by
 induction i using Int.casesOn with
 | ofNat k=>exact Nat.min_eq_right (ci.mp h)
 | negSucc k=>exact cD h (Int.not_le.mpr (Int.lt_of_lt_of_le (Int.negSucc_lt_zero k) (bp n)))
theorem rt (v:Option Int) (d n:Nat):(Option.casesOn v (d:Int) λi=>max 0 (min (if i < 0 then i+n else i) (n:Int)):Int)=((v.map (fF n)).getD d:Nat):=by
 induction v using Option.casesOn with
 | none=>rfl
 | some i=>exact js n i
theorem lg (lo hi:Option Int) (n:Nat):Builtin.Str.strSliceIndices lo hi 1 n=sliceRange ((lo.map (fF n)).getD 0:Nat) ((hi.map (fF n)).getD n:Nat) 1:=
 Eq.trans (by kernel_rfl) ((cB (λx=>sliceRange x (Option.casesOn hi (n:Int) λi=>max 0 (min (if i < 0 then i+n else i) (n:Int))) 1) (rt lo 0 n)).trans (cB (λy=>sliceRange ((lo.map (fF n)).getD 0:Nat) y 1) (rt hi n n)))
theorem Dk (l:cF) (lo hi:Option Int):Txt.slice (S l) lo hi=S (sl l lo hi):=by
 have e:=lg lo hi (S l).length
 have hb:(hi.map (fF l.length)).getD l.length<=l.length:=by rcases hi with _ | _;exact cv _;exact oA _ _
 unfold Txt.slice sl;rw[e,dF]
 generalize(lo.map (fF l.length)).getD 0=a
 generalize(hi.map (fF l.length)).getD l.length=b at hb |-
 by_cases hab:a<=b
 . have e2:=lg (some a) (some b) (S l).length
   have:=StrLaws.sliceText_nat (S l) hab (by rw[dF];exact hb)
   unfold StrLaws.sliceText at this;rw[e2,dF]at this
   have e3:((some (a:Int)).map (fF l.length)).getD 0=a:=eK (dt hab hb)
   have e4:((some (b:Int)).map (fF l.length)).getD l.length=b:=eK hb
   rw[e3,e4]at this
   rw[List.drop_take];exact this
 . have h1:(l.take b).drop a=[]:=List.drop_eq_nil_of_le (dt (List.length_take_le ..) (Nat.le_of_not_le hab))
   have h2:sliceRange (a:Int) (b:Int) 1=[]:=by
    unfold sliceRange;rw[cE (by decide),cC (Int.not_lt.mpr (ci.mpr (Nat.le_of_not_le hab)))];rfl
   rw[h1,h2]
   rcases l with _ | _<;>rfl
noncomputable def zc (l:cF) (i:Int):Option Nat:=(seqIndex? i l.length).bind (l[·]?)
theorem mQ {l:cF} {k:Nat} (h:k < l.length):zc l k=some l[k]:=by
 unfold zc seqIndex?
 rw[cC (show ¬ ((k:Nat):Int) < 0 by simp+arith)];simp[h]
section
variable {B:cX} {n:Nat} {L:Addr} {H:HL} {σ:St} {e9:Env}
theorem CD {first:cJ} {ah:cI} {pn} {Φ:PV}
 (h:WL B n L (spliced (backTo pn (starEach ah e9))) H σ λvs ds a1=>WV B n L (call (.builtin id) (first++vs)) (vs.zip ds++H) a1 Φ)
 (hp:autoParam ((backTo pn (starEach ah e9)).any (·.1)=false) bR):WV B n L (callWith pn (.builtin id) first (backTo pn (starEach ah e9)) []) H σ Φ:=d9 λA F s hA x=>by
 refine Calls.callWith_builtin hp (gI hp (cx (h.run A F s hA x) (λvs s0 z=>?_) λv v z=>z))
 refine z.then λF0 a1 x0 ⟨ds,aL,w⟩=>?_
 have x1:Holds B.P B.G L F0 (vs.zip ds++H) a1 s0.heap:=⟨x0.core,x0.sub,x0.loc,x0.names,x0.objs,x0.nodup,x0.apart,λp hp=>by
  rcases bT.mp hp with hp | hp
  . exact nQ.zip_is aL p hp
  . exact x0.held p hp,x0.low⟩
 exact cx (w.run A F0 s0 hA x1) (λv v y=>y.weaken λv hp=>be _ hp) λv v z=>z
theorem N3 {n5:Str} {x:cF} {pl:Sem Bool} {Ψ:Value×cJ->Fz->St->Prop} (mv:(v6,.str x)∈H) (slot:Slot "str" n5 id) (ty:typeOf (.builtin id)=pure (.type "method_descriptor"))
 (h:∀ F,Ψ (.builtin id,[v6]) F σ):W B n L (getMethod v6 n5 pl) H σ Ψ:=d9 λA F s hA X=>by
 obtain⟨t,rfl⟩:=dy (X.hold mv);exact getMethod_builtin (typeIs_str _ _ _) PySem.F.plainAttrs_str slot ty (λy e=>nomatch e) (.here X (h _))
theorem Kf {n5:Str} {a:Addr} {l:cG} {pl:Sem Bool} {Ψ:Value×cJ->Fz->St->Prop} (mv:(v6,.ref a)∈H) (m:(a,AO.list l)∈σ.objs) (slot:Slot "list" n5 id) (ty:typeOf (.builtin id)=pure (.type "method_descriptor"))
 (h:∀ F,Ψ (.builtin id,[v6]) F σ):W B n L (getMethod v6 n5 pl) H σ Ψ:=d9 λA F s hA X=>by
 obtain rfl:=dG (X.hold mv)
 refine iM (X.objs _ m) ?_;rintro vs k h1 y
 exact getMethod_builtin (T:="list") ⟨_,h1,rfl⟩ PySem.F.plainAttrs_list slot ty (λb e=>by cases e;exact⟨_,h1,rfl⟩) (.here X (h _))
theorem lQ {a:Addr} {l:cG} {v:Value} {d:AV} {o5:OL} {Φ:PV} (mv:(v6,.ref a)∈H) (md:(v,d)∈H) (m:oB a (.list l) (.list (l++[d])) σ.objs o5) (hz:l.length<=16777216)
 (h:Φ .none .none ⟨σ.loc,o5⟩):WV B n L (call (.builtin "list.append") [v6,v]) H σ Φ:=d9 λA F s hA X=>by
 obtain⟨l8,oe⟩:=σ;refine iM (m.split) ?_;rintro pB px rfl rfl
 obtain rfl:=dG (X.hold mv)
 have hd:=X.hold md
 refine iM (X.objs (a,.list l) (by simp)) ?_;rintro vs k h1 h2
 refine append_at h1 (λh' hs ho=>?_) (by rw[dP];simpa [h2.length]using hz)
 refine di.change (o':=.list (l++[d])) X (c:=a) (.inl rfl) rfl (λb y x q e=>(hs.2 b q).trans e) ?_ ⟨vs++[v],k+1,by rw[ho];simp[dU],snoc h2 hd⟩ rfl rfl ⟨_,.none,h⟩
 refine dQ (X.frame) ?_;rintro m5 FR hl
 exact⟨m5,FR.ns.sameBut hs (λe=>(bU.mp X.nodup).1 (by rw[e];exact dK.mpr ⟨_,be _ dH,.inl rfl⟩)),hl⟩
where
 snoc {P:Params} {F:Fz} {v:Value} {d:AV} {vs:cJ} {l:cG} (h:IsAll P F vs l) (q:Is P F v d):IsAll P F (vs++[v]) (l++[d]):=h.ind (C:=λvs l=>IsAll P F (vs++[v]) (l++[d])) (.cons q .nil) λy y y y h y c=>.cons h c
end
end
section
variable {a:Addr} {l:cG} {v6 v:Value} {Φ:PV} {x:cF} {c:Nat}
noncomputable def fO (c:Nat) (l:cF) (hi:Int):Nat:=(Builtin.Str.occurrences (S l) (S [c]) 0 (min (fF l.length hi) l.length) (l.length+1)).length
noncomputable def iz (c:Nat) (l:cF) (hi:Int):Int:=match Builtin.Str.lastOccurrence (S l) (S [c]) 0 (min (fF l.length hi) l.length)with | some i=>(i:Int) | none=> -1
section
variable {B:cX} {n:Nat} {L:Addr} {H:HL} {σ:St} {e9:Env}
theorem kY {l':cG} {d:AV} {k:Nat} {i:Int} {o5:OL} (mv:(v6,.ref a)∈H) (md:(v,.int i)∈H) (hi:Builtin.List.listFitsIndex i=true) (hk:seqIndex? i l.length=some k) (hd:l[k]? =some d)
 (hl :l.eraseIdx k=l') (m:oB a (.list l) (.list l') σ.objs o5) (hz:l.length<=16777216)
 (h : ∀ v,Φ v d ⟨σ.loc,o5⟩):WV B n L (call (.builtin "list.pop") [v6,v]) H σ Φ:=d9 λA F s hA X=>by
 obtain⟨l8,oe⟩:=σ;refine iM (m.split) ?_;rintro pB px rfl rfl
 obtain rfl:=dG (X.hold mv)
 obtain⟨t,rfl⟩:=dk (X.hold md);refine iM (X.objs (a,.list l) (by simp)) ?_;rintro vs q h1 h2
 have am:=h2.length
 refine dQ (nth h2 hd) ?_;rintro y hy hyd
 have hkl:k < l.length:=(List.getElem?_eq_some_iff.mp hd).1
 refine call_meets PySem.F.slot_list_pop ⟨_,h1,rfl⟩ PySem.F.entry_list_pop (PySem.F.args_list_pop_2 _ _) (MeetsSeq.list_pop_at a vs.toArray q i t k y hi (by simpa [am]using hk) (by simpa using hy) (by rw[dP];simpa [am]using hz)) ⟨h1,?_⟩
 have er:vs.toArray.eraseIdxIfInBounds k=(vs.eraseIdx k).toArray:=by
  unfold Array.eraseIdxIfInBounds;rw[dif_pos (by simpa [am]using hkl)]
  simp
 refine di.change (o':=.list l') X (c:=a) (.inl rfl) rfl (λb y x q e=>((Heap.SameBut.update (h:=s.heap) (a:=a) (f:=Obj.mapSeq λxs=>xs.eraseIdxIfInBounds k)).2 b q).trans e) ?_ ⟨vs.eraseIdx k,q+1,?_,hl▸era h2 k⟩ rfl rfl ⟨d,hyd,h _⟩
 . refine dQ (X.frame) ?_;rintro m5 FR hl
   exact⟨m5,FR.ns.sameBut (Heap.SameBut.update ..) (λe=>(bU.mp X.nodup).1 (by rw[e];exact dK.mpr ⟨_,be _ dH,.inl rfl⟩)),hl⟩
 . have e:Obj.mapSeq (λxs=>xs.eraseIdxIfInBounds k) (dU vs q)=dU (vs.eraseIdx k) (q+1):=by
    show(⟨_,_,.seq (vs.toArray.eraseIdxIfInBounds k) (if (vs.toArray.eraseIdxIfInBounds k).size==vs.toArray.size then q else q+1),_⟩:Obj)= _
    rw[er];have:((vs.eraseIdx k).toArray.size==vs.toArray.size)=false:=by
     simp only[List.size_toArray,List.length_eraseIdx]
     rw[cE (by omega)];exact beq_eq_false_iff_ne.mpr (by omega)
    rw[this];rfl
   rw[Heap.get?_update_self _ h1 (by rw[e];rfl),e]
where
 nth {P:Params} {F:Fz} {vs:cJ} {l:cG} {k:Nat} {d:AV} (h:IsAll P F vs l) (e:l[k]? =some d):∃ y,vs[k]? =some y/\Is P F y d:=
  h.ind (C:=λvs l=>∀ k,l[k]? =some d->∃ y,vs[k]? =some y/\Is P F y d) (λk e=>by contradiction) (λv d vs l h r ih k e=>by
   induction k using Nat.casesOn with
   | zero=>exact⟨v,rfl,Option.some.inj e▸h⟩
   | succ k=>exact ih k e) k e
 era {P:Params} {F:Fz} {vs:cJ} {l:cG} (h:IsAll P F vs l) (k:Nat):IsAll P F (vs.eraseIdx k) (l.eraseIdx k):=
  h.ind (C:=λvs l=>∀ k,IsAll P F (vs.eraseIdx k) (l.eraseIdx k)) (λx=>.nil) (λv d vs l h r ih k=>Nat.casesOn (motive:=λk=>IsAll P F ((v::vs).eraseIdx k) ((d::l).eraseIdx k)) k r λk=>.cons h (ih k)) k
theorem wM {ms:cV} (mv:(v6,.str x)∈H) (md:(v,.ref a)∈H) (m:(a,AO.list l)∈σ.objs) (e:dN l=some ms)
 (hz:(ms.map (·.length)).sum+ms.length*x.length<=16777216) (h:∀ v,Φ v (.str (List.intercalate x ms)) σ):WV B n L (call (.builtin "str.join") [v6,v]) H σ Φ:=d9 λA F s hA X=>by
 obtain⟨t,rfl⟩:=dy (X.hold mv);obtain rfl:=dG (X.hold md)
 refine iM (X.objs _ m) ?_;rintro vs k h1 h2
 exact join_list (s:=s) (D:=a) (items:=vs.toArray) ⟨_,h1,rfl,_,rfl⟩ (by simpa using ju h2 e) (by rw[lens,dF,bZ];exact hz) λt' k=>.toks X ⟨_,by rw[joined];exact .str _ _,h _⟩
where
 lens {ms:cV}:(ms.map S).map (·.length)=ms.map (·.length):=by rw[List.map_map];exact List.map_congr_left λa y=>dF a
 inter {x a b:cF} {r:cV}:List.intercalate x ((a++x++b)::r)=List.intercalate x (a::b::r):=by
  rcases r with _ | _<;>simp[List.intercalate,List.intersperse]
 joined {x:cF} {ms:cV}:Txt.join (S x) (ms.map S)=S (List.intercalate x ms):=by
  show Builtin.Str.glued _ _ = _
  rw[StrLaws.glued_eq_join]
  induction ms using List.casesOn with
  | nil=>rfl
  | cons a r=>
   rw[cf,<-StrLaws.glued_cons]
   induction r generalizing a with
   | nil=>simp[List.intercalate]
   | cons b r ih=>
    rw[cf,List.foldl_cons];have:=ih (a++x++b)
    simp only[S,List.append_toArray]at this |-
    rw[this,inter]
theorem Cr {ms:cV} (mv:(v6,.str x)∈H) (md:(v,.lst l)∈H) (e:dN l=some ms)
 (hz:(ms.map (·.length)).sum+ms.length*x.length<=16777216) (h:∀ v,Φ v (.str (List.intercalate x ms)) σ):WV B n L (call (.builtin "str.join") [v6,v]) H σ Φ:=d9 λA F s hA X=>by
 obtain⟨t,rfl⟩:=dy (X.hold mv);refine jS (eU (X.hold md)) ?_;rintro a vs k rfl h1 h2
 exact join_list (s:=s) (D:=a) (items:=vs.toArray) (fy X.sub h1) (by simpa using ju h2 e) (by rw[wM.lens,dF,bZ];exact hz) λt' k=>.toks X ⟨_,by rw[wM.joined];exact .str _ _,h _⟩
theorem Hw (mv:(v,.str x)∈H) (hz:x.length<=16777216) (h:∀ v,Φ v (.int x.length) σ):WV B n L (call (.builtin "len") [v]) H σ Φ:=d9 λA F s hA X=>by
 obtain⟨t,rfl⟩:=dy (X.hold mv);exact PyProof.Rows.len_str (by rw[dF];omega) (.toks X ⟨_,by rw[dF];exact .int _ _,h _⟩)
theorem Hx (mv:(v,.ref a)∈H) (m:(a,AO.list l)∈σ.objs) (hz:l.length<=16777216) (h:∀ v,Φ v (.int l.length) σ):WV B n L (call (.builtin "len") [v]) H σ Φ:=d9 λA F s hA X=>by
 obtain rfl:=dG (X.hold mv)
 refine iM (X.objs _ m) ?_;rintro vs k h1 h2
 have am:=h2.length
 exact Calls.call_len_list (l:=a) (items:=vs.toArray) ⟨_,h1,rfl,_,rfl⟩ (by simp[am];omega) (.toks X ⟨.int l.length,by simp only[List.size_toArray,am];exact .int _ _,h _⟩)
theorem Od (mv:(v,.str [c])∈H) (h:∀ v,Φ v (.int c) σ):WV B n L (call (.builtin "ord") [v]) H σ Φ:=d9 λA F s hA X=>by
 obtain⟨t,rfl⟩:=dy (X.hold mv);exact PySem.P.ord_of_char (c:=c) (.toks X ⟨_,.int _ _,h _⟩)
theorem IM {Ψ:Bool->St->Prop} (mv:(v,.ref a)∈H) (m:(a,AO.list l)∈σ.objs) (hz:l.length<=16777216) (h:Ψ (!l.isEmpty) σ):WB B n L (truthy v) H σ Ψ:=d9 λA F s hA X=>by
 obtain rfl:=dG (X.hold mv)
 refine iM (X.objs _ m) ?_;rintro vs k h1 h2
 have am:=h2.length
 have e:vs.toArray.isEmpty=l.isEmpty:=by
  induction vs using List.casesOn with
  | nil=>induction l using List.casesOn with
   | nil=>rfl
   | cons _ _=>cases am
  | cons _ _=>induction l using List.casesOn with
   | nil=>cases am
   | cons _ _=>simp[Array.isEmpty]
 exact wpAny_truthy_list (l:=a) (items:=vs.toArray) ⟨_,h1,rfl,_,rfl⟩ (by simp[am];omega) (.toks X (e▸h))
theorem yL (y:Int) (n:Nat):min (max 0 y).toNat n=(max 0 (min y n)).toNat:=by
 rcases Int.le_total y 0 with h | h
 . rw[Int.max_eq_left h,Int.max_eq_left (Int.le_trans (Int.min_le_left _ _) h)];exact Nat.zero_min n
 . obtain⟨m,rfl⟩:=Int.eq_ofNat_of_zero_le h
   rw[Int.max_eq_right h]
   rcases Nat.le_total m n with q | q
   . rw[Int.min_eq_left (ci.mpr q),Int.max_eq_right h];exact Nat.min_eq_left q
   . rw[Int.min_eq_right (ci.mpr q),Int.max_eq_right (bp n)];exact Nat.min_eq_right q
theorem qM (n:Nat) (hi:Int):min (fromIndex n hi) n=min (fF n hi) n:=(yL _ n).trans ((cB Int.toNat (js n hi)).trans (Nat.min_eq_left (oA n hi)).symm)
theorem AA {hi:Int} {v1 v2 v3:Value} (m0:(v6,.str x)∈H) (m1:(v1,.str [c])∈H) (m2:(v2,.int 0)∈H) (m3:(v3,.int hi)∈H) (h:∀ v,Φ v (.int (fO c x hi)) σ):
 WV B n L (call (.builtin "str.count") [v6,v1,v2,v3]) H σ Φ:=d9 λA F s hA X=>by
 obtain⟨t0,rfl⟩:=dy (X.hold m0);obtain⟨t1,rfl⟩:=dy (X.hold m1);obtain⟨t2,rfl⟩:=dk (X.hold m2);obtain⟨t3,rfl⟩:=dk (X.hold m3);refine call_gives (m:=.int (fO c x hi)) PySem.F.slot_str_count (typeIs_str _ _ _) PySem.F.entry_str_count (PySem.F.args_str_count_4 _ _ _ _) ?_ (.toks X ⟨_,.int _ _,h _⟩)
 have e:fromIndex (S x).length 0=0:=by simp[fromIndex]
 have e2:min (fromIndex (S x).length hi) (S x).length=min (fF x.length hi) x.length:=by rw[dF];exact qM _ _
 show Gives (retInt (Builtin.Str.occurrences (S x) (S [c]) (fromIndex (S x).length 0) (min (fromIndex (S x).length hi) (S x).length) ((S x).length+1)).length) _
 rw[e,e2,dF];exact .of_eq rfl
theorem zG {hi:Int} {v1 v2 v3:Value} (m0:(v6,.str x)∈H) (m1:(v1,.str [c])∈H) (m2:(v2,.int 0)∈H) (m3:(v3,.int hi)∈H) (h:∀ v,Φ v (.int (iz c x hi)) σ):
 WV B n L (call (.builtin "str.rfind") [v6,v1,v2,v3]) H σ Φ:=d9 λA F s hA X=>by
 obtain⟨t0,rfl⟩:=dy (X.hold m0);obtain⟨t1,rfl⟩:=dy (X.hold m1);obtain⟨t2,rfl⟩:=dk (X.hold m2);obtain⟨t3,rfl⟩:=dk (X.hold m3);refine call_gives (m:=.int (iz c x hi)) PySem.F.slot_str_rfind (typeIs_str _ _ _) PySem.F.entry_str_rfind (PySem.F.args_str_rfind_4 _ _ _ _) ?_ (.toks X ⟨_,.int _ _,h _⟩)
 have e:fromIndex (S x).length 0=0:=by simp[fromIndex]
 have e2:min (fromIndex (S x).length hi) (S x).length=min (fF x.length hi) x.length:=by rw[dF];exact qM _ _
 show Gives (match Builtin.Str.lastOccurrence (S x) (S [c]) (fromIndex (S x).length 0) (min (fromIndex (S x).length hi) (S x).length)with | some i=>retInt i | none=>(do rule "str.rfind.not-found";retInt (-1))) _
 rw[e,e2];unfold iz
 induction Builtin.Str.lastOccurrence (S x) (S [c]) 0 (min (fF x.length hi) x.length)using Option.casesOn with
 | none=>exact .rule (.of_eq rfl)
 | some i=>exact .of_eq rfl
end
end
section
variable {k:Int} {j:Nat} {v7 slice:Expr} {o i:Value} {Φ:PV} {d:AV}
theorem ko {n:Nat} (h:seqIndex? k n=some j): -(n:Int)<=k/\k < n:=by
 unfold seqIndex? at h
 by_cases hk:k < 0
 . simp only[hk,if_true]at h
   split at h
   . rename_i q
     simp only[Bool.and_eq_true,decide_eq_true_eq]at q
     omega
   . contradiction
 . simp only[hk,if_false]at h
   split at h
   . rename_i q
     simp only[Bool.and_eq_true,decide_eq_true_eq]at q
     omega
   . contradiction
section
variable {B:cX} {n:Nat} {L:Addr} {H:HL} {σ:St} {e9:Env}
theorem gv {T id:String} (hT:∀ F (s:Shared),Holds B.P B.G L F H σ s.heap->s.TypeIs o T) (hl:typeLookup (.type T) "__getitem__"=pure (some (.builtin id)))
 (h:WV B n L (getItem o i) H σ Φ) (hs:∃ ops,subscripted slice false o i=operate ops (getItem o i):=by exact⟨_,rfl⟩):WV B n L (subscriptTail v7 slice o i) H σ Φ:=d9 λA F s hA X=>by
 obtain⟨ops,hs⟩:=hs;unfold subscriptTail;refine cw ?_
 rw[getitemInPython_of_ne (hT F s X).not_modules];refine cw (wpAny_specialOf (hT F s X) hl ?_)
 have fin:wpAny B.M A (subscripted slice false o i) (λr s5=>wpAny B.M A (letTemporaryGo v7 o r >>= λy=>pure r) (λa s'=>di B L H σ F s s' ((λv F' σ'=>∃ d,Is B.P F' v d/\Φ v d σ') a)) (λy y=>False) s5) (λy y=>False) s:=by
  rw[hs];exact wpAny_operateT (cx (h.run A F s hA X) (λr s5 hJ=>cw (wpAny_letTemporaryGo (cy hJ))) λy y x=>x)
 first
  | exact cy (cw fin)
  | exact cw (cy (cw fin))
  | exact cw fin
theorem Gd {pn} (h:WV B n L (eval v7 e9) H σ λo d a1=>WV B n L (eval slice e9) ((o,d)::H) a1 λi e a2=>WV B n L (subscriptTail v7 slice o i) ((i,e)::(o,d)::H) a2 Φ):
 WV B n L (eval (.Subscript v7 slice pn) e9) H σ Φ:=by
 rw[eval_Subscript];exact dm (dh h λo d a1 w=>dm (dc (dh w λi e a2 w0=>dr w0)))
theorem Ng {x:cF} {c:Nat} (mo:(o,.str x)∈H) (mi:(i,.int k)∈H) (hc:zc x k=some c) (hz:x.length<=16777216) (h:∀ v,Φ v (.str [c]) σ)
 (hs : ∃ ops,subscripted slice false o i=operate ops (getItem o i):=by exact⟨_,rfl⟩):WV B n L (subscriptTail v7 slice o i) H σ Φ:=by
 refine gv (T:="str") (λF s X=>?_) PySem.F.slot_str_getitem.lookup (d9 λA F s hA X=>?_) hs
 . obtain⟨t,rfl⟩:=dy (X.hold mo);exact typeIs_str _ _ _
 . obtain⟨t,rfl⟩:=dy (X.hold mo)
   obtain⟨u,rfl⟩:=dk (X.hold mi);refine PyProof.Rows.getItem_str (c:=c) ?_ ?_ (.toks X ⟨_,.str [c] _,h _⟩)
   . have:∃ j,seqIndex? k x.length=some j:=by
      unfold zc at hc
      induction q:seqIndex? k x.length using Option.casesOn with
      | none=>rw[q]at hc;contradiction
      | some j=>exact⟨j,rfl⟩
     obtain⟨j,hj⟩:=this;have:=ko hj
     simp only[Bool.or_eq_false_iff,decide_eq_false_iff_not]
     omega
   . rw[dF]
     unfold zc at hc
     simpa [S]using hc
theorem Ou {l:cG} (mo:(o,.tup l)∈H) (mi:(i,.int k)∈H) (hj:seqIndex? k l.length=some j) (hd:l[j]? =some d) (hz:l.length<=16777216) (h:∀ v,Φ v d σ)
 (hs:∃ ops,subscripted slice false o i=operate ops (getItem o i):=by exact⟨_,rfl⟩):WV B n L (subscriptTail v7 slice o i) H σ Φ:=by
 refine gv (T:="tuple") (λF s X=>?_) slot_tuple_getitem.lookup (d9 λA F s hA X=>?_) hs
 . refine jS (gG (X.hold mo)) ?_;rintro a vs m rfl h1 h2;exact(jc X.sub h1).typeIs
 . refine jS (gG (X.hold mo)) ?_;rintro a vs m rfl h1 h2
   obtain⟨u,rfl⟩:=dk (X.hold mi);refine dQ (kY.nth h2 hd) ?_;rintro y hy hyd
   have am:=h2.length
   have rng:=ko hj
   exact getItem_tuple (jc X.sub h1) (by omega) (by omega) (by simpa [am]using hj) (by simpa using hy) (.here X ⟨d,hyd,h _⟩)
theorem Nn {l:cG} (mo:(o,.lst l)∈H) (mi:(i,.int k)∈H) (hk:0<=k) (hj:k.toNat=j) (hd:l[j]? =some d) (hz:l.length<=16777216) (h:∀ v,Φ v d σ)
 (hs:∃ ops,subscripted slice false o i=operate ops (getItem o i):=by exact⟨_,rfl⟩):WV B n L (subscriptTail v7 slice o i) H σ Φ:=by
 refine gv (T:="list") (λF s X=>?_) slot_list_getitem.lookup (d9 λA F s hA X=>?_) hs
 . refine jS (eU (X.hold mo)) ?_;rintro a vs m rfl h1 h2;exact(fy X.sub h1).typeIs
 . refine jS (eU (X.hold mo)) ?_;rintro a vs m rfl h1 h2
   obtain⟨u,rfl⟩:=dk (X.hold mi);refine dQ (kY.nth h2 hd) ?_;rintro y hy hyd
   have am:=h2.length
   have hjl:j < l.length:=(List.getElem?_eq_some_iff.mp hd).1
   exact wpAny_getItem_list (l:=a) (items:=vs.toArray) (fy X.sub h1) (by omega) (by omega) (by simpa [hj]using hy) (.here X ⟨d,hyd,h _⟩)
noncomputable def mn:AV->Option (Option Int)
 | .none=>some none
 | .int i=>some (some i)
 | _=>none
theorem qZ {P:Params} {F:Fz} {v:Value} {i:Option Int} (h:Is P F v d) (e:mn d=some i):∃ p:Option (Int×Tok),v=partValue p/\p.map (·.1)=i:=by
 induction d using AV.casesOn with
 | none=>obtain rfl:=gD h;obtain rfl:=Option.some.inj e;exact⟨none,rfl,rfl⟩
 | int k=>obtain⟨t,rfl⟩:=dk h;obtain rfl:=Option.some.inj e;exact⟨some (k,t),rfl,rfl⟩
 | _=>contradiction
theorem uC (l:cF) (i j:Option Int):(sl l i j).length<=l.length:=by
 unfold sl;rw[bP,List.length_take];omega
theorem vj {x:Str} {t:Tok} {pl pu:Option (Int×Tok)} {s:Shared} {Q:Value->Shared->Prop} (hl:(Txt.slice x (pl.map (·.1)) (pu.map (·.1))).length<=sizeLine)
 (h:∀ t' k,Q (.str (Txt.slice x (pl.map (·.1)) (pu.map (·.1))) t') { s with toks:=k }):(sliceMade x t pl pu none).post Q s:=by
 unfold sliceMade;unfold Txt.slice at hl h;exact post_val_or_str ⟨hl,h⟩
theorem yk (h:Φ .none .none σ):WV B n L (evalPart none e9) H σ Φ:=d9 λy y y y x=>cy (.here x ⟨_,.none,h⟩)
theorem wW {e:Expr} (h:WV B n L (eval e e9) H σ Φ):WV B n L (evalPart (some e) e9) H σ Φ:=h
theorem yh {lo hi:Option Expr} {p pn}
 (h :WV B n L (eval v7 e9) H σ λo d a1=>WV B n L (evalPart lo e9) ((o,d)::H) a1 λl dl a2=>WV B n L (evalPart hi e9) ((l,dl)::(o,d)::H) a2 λy du a3=>
  ∃ x i j,d=.str x/\mn dl=some i/\mn du=some j/\x.length<=16777216/\∀ v,Φ v (.str (sl x i j)) a3):
 WV B n L (eval (.Subscript v7 (.Slice lo hi none p) pn) e9) H σ Φ:=oX λA F s Q hA X fq=>by
 rw[eval_Subscript];refine cw (h.then hA X λo s0 F0 a1 x0 p0 z=>dQ z λd hd w8=>?_)
 refine cw (wpAny_holding (wpAny_Slice (w8.then hA (x0.push hd) λl s6 F1 a2 x1 p6 z=>dQ z λdl hdl w0=>?_)))
 refine w0.then hA (x1.push hdl) λu s5 F2 a3 x2 p7 z=>?_
 refine dQ z ?_;clear z;rintro du hdu z;refine RH z ?_;clear z;rintro x i j rfl bi bj hz q
 refine cy (cw (wpAny_standAt ?_))
 obtain⟨t,rfl⟩:=dy (x2.hold iL);refine dQ (qZ (x2.hold dH) bi) ?_;rintro pl rfl e1
 refine dQ (qZ hdu bj) ?_;rintro pu rfl e2
 have x5:=x2.weaken (H':=H) λp hp=>.tail _ (.tail _ hp)
 have fin:wpAny B.M A (operate [.ref s5.heap.objs.size,.str (S x) t] (getItem (.str (S x) t) (.ref s5.heap.objs.size))) (λr s8=>wpAny B.M A (letTemporaryGo v7 (.str (S x) t) r >>= λy=>pure r) Q (λy y=>False) s8) (λy y=>False)
  { s5 with heap:=s5.heap.push { cls:=.type "slice",data:=.fields #[partValue pl,partValue pu,.none] } }:=by
  refine wpAny_operateT (wpAny_getItem_str_slice (l:=pl) (u:=pu) (st:=none) ⟨_,bm _ rfl,rfl,rfl⟩ rfl ?_)
  have e:Txt.slice (S x) (pl.map (·.1)) (pu.map (·.1))=S (sl x i j):=by rw[Dk,e1,e2]
  refine vj (Q:=λr s8=>wpAny B.M A (letTemporaryGo v7 (.str (S x) t) r >>= λy=>pure r) Q (λy y=>False) s8) ?_ λt' k=>?_
  . rw[e,dF,dP]
    exact dt (uC x i j) hz
  . refine cw (wpAny_letTemporaryGo (cy ?_))
    refine e▸?_
    exact fq _ _ ⟨F2,a3,x5.grow λb o e=>bc _ e,p0.trans (p6.trans (p7.trans ⟨λb o y e=>bc _ e,λy h=>.inl h,λy y e=>.inl e,.refl _,.refl _,rfl⟩)),.str (sl x i j),.str _ _,q _⟩
 refine cw ?_
 refine(getitemInPython_of_ne (typeIs_str s5 (S x) t).not_modules)▸?_
 refine cw (wpAny_specialOf (typeIs_str _ (S x) t) PySem.F.slot_str_getitem.lookup ?_)
 first
  | exact cy (cw fin)
  | exact cw (cy (cw fin))
  | exact cw fin
end
end
section
variable {P:Params} {F:Fz} {vs:List (Value×Value)} {l:FL} {pv:Program} {w:World} {es:List DictEntry}
noncomputable def eB (e9:Env) (pn:Pos):List (Option Expr)->cI->List (Sem Value×Sem Value)
 | some k::ks,v::vs=>(eval k e9,do let x <-eval v e9;standAt pn;pure x)::eB e9 pn ks vs
 | _,_=>[]
inductive KV (P:Params) (F:Fz):List (Value×Value)->FL->Prop
 | nil:KV P F [] []
 | cons {x t v d vs l}:Is P F v d->KV P F vs l->KV P F ((.str x t,v)::vs) ((x,d)::l)
theorem KV.mono {F':Fz} (k:F.le F') (h:KV P F vs l):KV P F' vs l:=by
 induction h with
 | nil=>exact .nil
 | cons h _ ih=>exact .cons (h.mono k) ih
noncomputable def KV.vals:List (Value×Value)->FL->cS
 | (_,v)::vs,(x,_)::l=>(x,v)::KV.vals vs l
 | _,_=>[]
theorem KV.carries (h:KV P F vs l):Carries (strKind pv w) vs (KV.vals vs l):=by
 induction h with
 | nil=>exact trivial
 | cons _ _ ih=>exact⟨bM _,rfl,ih⟩
theorem KV.keys (h:KV P F vs l):(KV.vals vs l).map (·.1)=l.map (·.1):=by
 induction h with
 | nil=>rfl
 | cons _ _ ih=>exact cB (List.cons _) ih
inductive KM (P:Params) (F:Fz):cS->FL->Prop
 | nil:KM P F [] []
 | cons {x v d r l}:Is P F v d->KM P F r l->KM P F ((x,v)::r) ((x,d)::l)
theorem E9 {x:Str} {v:Value} {d:AV} {e:DictEntry} (h1:(strKind pv w).is x e.key=true) (h2:e.val=v) (hk:∃ k,(strKind pv w).is k e.key=true/\e.hash=(strKind pv w).hash k) (h:Is w.params F v d) (r:IsEnts w.params F es l):IsEnts w.params F (e::es) ((x,d)::l):=by
 obtain⟨hh,kc,val⟩:=e;obtain⟨t,ht⟩:=Value.isStrOf_shape h1;refine dQ (hk) ?_;clear hk;rintro k k1 k2
 have ek:k=x:=(strKind pv w).inj _ _ _ k1 h1
 subst ek;dsimp only at ht k2 h2
 subst ht k2 h2
 exact .cons h r
theorem KM.ents {kvs:cS} (h:KM w.params F kvs l) (p:Pairs (strKind pv w) es kvs)
 (hk:∀ e∈es,∃ k,(strKind pv w).is k e.key=true/\e.hash=(strKind pv w).hash k):IsEnts w.params F es l:=by
 induction h generalizing es with
 | nil=>cases p;exact .nil
 | cons h r ih=>cases p with | cons h1 h2 r8=>exact E9 h1 h2 (hk _ dH) h (ih r8 λe he=>hk e (.tail _ he))
theorem KV.km (h:KV P F vs l):KM P F (KV.vals vs l) l:=by
 induction h with
 | nil=>exact .nil
 | cons h _ ih=>exact .cons h ih
theorem KV.ents (h:KV w.params F vs l) (p:Pairs (strKind pv w) es (KV.vals vs l))
 (hk:∀ e∈es,∃ k,(strKind pv w).is k e.key=true/\e.hash=(strKind pv w).hash k):IsEnts w.params F es l:=h.km.ents p hk
section
variable {B:cX} {n:Nat} {L:Addr} {H:HL} {σ:St} {e9:Env}
abbrev WD (B:cX) (n:Nat) (L:Addr) (t:Sem (List (Value×Value))) (H:HL) (σ:St) (Φ:FL->St->Prop):Prop:=
 W B n L t H σ (λvs F' σ'=>∃ l,KV B.P F' vs l/\Φ l σ')
theorem N4 {pn} {Φ:FL->St->Prop} (h:Φ [] σ):WD B n L (evalPairs (eB e9 pn [] [])) H σ Φ:=d9 λy y y y x=>evalPairs_nil (.here x ⟨[],.nil,h⟩)
theorem Jo {x:Str} {kk kp pn} {ks:List (Option Expr)} {v:Expr} {vs:cI} {Φ:FL->St->Prop}
 (h:WV B n L (eval v e9) H σ λa d a1=>WD B n L (evalPairs (eB e9 pn ks vs)) ((a,d)::H) a1 λl a2=>Φ ((x,d)::l) a2):
 WD B n L (evalPairs (eB e9 pn (some (.Constant (.str x) kk kp)::ks) (v::vs))) H σ Φ:=d9 λA F s hA X=>by
 refine evalPairs_cons (wpAny_Constant_str (cw ?_))
 refine cx (h.run A F { s with toks:=s.toks+1 } hA X) (λa s0 z=>cw (wpAny_standAt (cy ?_))) λy y z=>z
 obtain⟨F0,a1,x0,p0,d,hd,w⟩:=z;refine cx (w.run A F0 s0 hA (x0.push hd)) (λb s6 z=>?_) λy y z=>z
 obtain⟨F1,a2,x1,p6,l,hl,q⟩:=z;have pr:=p0.trans p6
 exact⟨F1,a2,x1.weaken λy hp=>.tail _ hp,⟨pr.keep,pr.own,pr.frz,pr.mono,pr.gens,pr.os⟩,(x,d)::l,.cons (x1.hold dH) hl,q⟩
theorem kP {kvs:cS} {h:Heap} {a:Addr} (x:h.DictOf (strKind B.prog B.w) a kvs):∃ es m,h.get? a=some (dictOf es m)/\Pairs (strKind B.prog B.w) es kvs/\
 ∀ e∈es,∃ k,(strKind B.prog B.w).is k e.key=true/\e.hash=(strKind B.prog B.w).hash k:=by
 refine R8 (x) ?_;clear x;rintro ⟨cls,dict,data,slots⟩ es ep ho ⟨h1,h2,h3⟩ hd hk hp _
 dsimp only at h1 h2 h3 hd
 subst h1 h2 h3 hd
 exact⟨es.toList,ep,ho,hp,λe he=>hk e (Array.mem_toList_iff.mp he)⟩
theorem Holds.frozenAt {G:Heap} {h h':Heap} {a:Addr} {o:Obj} (x:Holds P G L F H σ h) (hF:F a=none) (hO:a∉L::dg σ.objs) (k:∀ b o,b≠a->h.get? b=some o->h'.get? b=some o) (ha:h'.get? a=some o):
 Holds P G L (F.put a o) H σ h'/\F.le (F.put a o):=by
 have le:=Fz.le_put (o:=o) hF
 have sub:∀ b o,F b=some o->h'.get? b=some o:=λb o e=>k b o (λz=>by rw[z,hF]at e;contradiction) (x.sub _ _ e)
 refine⟨⟨λb o' e=>le _ _ (x.core b o' e),λb o' e=>?_,?_,x.names,λp hp=>(x.objs p hp).move le λb o' hb e=>k _ _ (λz=>hO (z▸.tail _ (dK.mpr ⟨p,hp,hb⟩))) e,x.nodup,λb hb=>?_,λp hp=>(x.held p hp).mono le,x.low⟩,le⟩
 . unfold Fz.put at e
   split at e
   . rename_i q;subst q;obtain rfl:=Option.some.inj e;exact ha
   . exact sub _ _ e
 . obtain⟨m,⟨o',es,ep,e1,e2⟩,r⟩:=x.loc
   exact⟨m,⟨o',es,ep,k _ _ (λz=>hO (z▸.head _)) e1,e2⟩,λy d hy=>let ⟨v,e,q⟩:=r y d hy;⟨v,e,q.mono le⟩⟩
 . unfold Fz.put
   split
   . rename_i q;exact cD (q▸hb) hO
   . exact x.apart b hb
theorem nS {n:Nat} (h:B.G.objs.size<=n):(n==sysModules)=false:=by
 obtain⟨mg,g⟩:=B.g;have:=g.lt
 have h2:mainGlobals=3:=rfl
 rw[h2]at this
 refine beq_eq_false_iff_ne.mpr λe=>?_
 have h3:sysModules=1:=rfl
 rw[h3]at e
 have h':3 < B.G.objs.size:=this
 omega
theorem HU {keys:List (Option Expr)} {v9:cI} {pn:Pos} {Φ:PV}
 (h : WD B n L (evalPairs (eB e9 pn keys v9)) H σ λl a1=>(l.map (·.1)).Nodup/\∀ v,Φ v (.dct l) a1)
 (hs :autoParam ((evalEachOpt keys e9).zip ((evalEach v9 e9).map λv=>do let x <-v;standAt pn;pure x)=(eB e9 pn keys v9).map λp=>(some p.1,p.2)) bR)
 (h0 :eB e9 pn keys v9≠[]:=by exact bN _ _) (hl:autoParam ((eB e9 pn keys v9).length<=15) bD):WV B n L (eval (.Dict keys v9 pn) e9) H σ Φ:=d9 λA F s hA X=>by
 refine wpAny_Dict_pairs (knd:=strKind B.prog B.w) hs h0 hl ?_
 have hn:=eI s.heap
 have up:∀ b o,s.heap.get? b=some o->(s.heap.push { cls:=.type "dict",data:=.dict #[] }).get? b=some o:=λb o e=>bc _ e
 have aO:s.heap.objs.size∉L::dg σ.objs:=λhm=>by obtain⟨o,ho⟩:=X.there _ hm;rw[hn]at ho;contradiction
 refine cx (h.run A F _ hA (X.grow up)) (λvs s0 z=>?_) λ_ _ z=>z
 obtain⟨F0,a1,x0,p0,l,hl,hnd,q⟩:=z;have a0:s0.heap.get? s.heap.objs.size=some { cls:=.type "dict",data:=.dict #[] }:=p0.keep _ _ aO (bm _ rfl)
 refine⟨KV.vals vs l,KV.carries hl,⟨_,#[],_,a0,⟨rfl,rfl,rfl⟩,rfl,(λe he=>by simp at he),.nil,List.nodup_nil⟩,λh' hd aQ=>?_⟩
 rw[merged_nil_of_nodup _ (by rw[KV.keys hl];exact hnd)]at hd
 refine jJ (kP hd) ?_;rintro es m e1 e2 e3
 have aF:F0 s.heap.objs.size=none:=by
  induction w:F0 s.heap.objs.size using Option.casesOn with
  | none=>rfl
  | some o=>
   rcases p0.frz _ _ w with z | z | z
   . have:=X.sub _ _ z;rw[hn]at this;contradiction
   . exact cD z aO
   . rw[bm _ rfl]at z;contradiction
 have aO':s.heap.objs.size∉L::dg a1.objs:=λhm=>by
  rcases p0.own _ hm with z | z
  . exact aO z
  . rw[bm _ rfl]at z;contradiction
 obtain⟨x1,le⟩:=x0.frozenAt (h':=h') (o:=dictOf es m) aF aO' (λb o hb e=>(aQ.2 b hb).trans e) e1
 refine⟨_,a1,x1,⟨λb o hb e=>(aQ.2 b (λz=>by rw[z,hn]at e;contradiction)).trans (p0.keep _ _ hb (up _ _ e)),λb hb=>(p0.own b hb).imp_right λe=>?_,λb o e=>?_,p0.mono.trans le,p0.gens,p0.os⟩,.dct l,.dct (Fz.put_self ..) ((KV.ents hl e2 e3).mono le) hnd (nS X.big),q _⟩
 . induction w:s.heap.get? b using Option.casesOn with
   | none=>rfl
   | some o=>rw[up _ _ w]at e;contradiction
 . unfold Fz.put at e
   split at e
   . rename_i z;exact .inr (.inr (by rw[z];exact hn))
   . refine(p0.frz _ _ e).imp_right (Or.imp_right λe=>?_)
     induction w:s.heap.get? b using Option.casesOn with
     | none=>rfl
     | some o=>rw[up _ _ w]at e;contradiction
end
end
section
variable {t6:Expr} {a:Addr} {v:Value} {Φ:PF} {b0:cH}
def Ax (o:Obj):Prop:=∃ n,o.cls=.type n/\["enumerate","zip","dict_itemiterator","dict_reverseitemiterator","odict_iterator","itertools.zip_longest","itertools.pairwise"].contains n=false
section
variable {pv:Program} {w:World} {A:Around} {E:Value->Shared->Prop} {s:Shared}
theorem nv {o:Obj} {Q:Unit->Shared->Prop} (h:s.heap.get? a=some o) (q:Ax o) (hQ:Q () s):wpAny (model pv w) A (letOwnedTupleGo t6 (.ref a) v) Q E s:=by
 refine dQ (q) ?_;clear q;rintro n hc hn
 unfold letOwnedTupleGo;have kc:∀ r:Addr,wpAny (model pv w) A (load a >>= λo=>match o.cls,o.data with
  | .type n,.fields vs=>if (["enumerate","zip","dict_itemiterator","dict_reverseitemiterator","odict_iterator","itertools.zip_longest","itertools.pairwise"].contains n&&vs[0]? ==some (rawInt r))=true then (do rule "for.unpacks-the-owned-tuple";updateField a 0 .none) else pure ()
  | _,_=>pure ()) Q E s:=λr=>by
  refine cw (wpAny_load h ?_)
  rw[hc]
  cases o.data<;>first | exact cy hQ | (dsimp only;rw[hn,Bool.false_and,cC bw];exact cy hQ)
 induction t6 using Expr.casesOn<;>first
  | exact cy hQ
  | (rcases v with _ | _<;>first | exact cy hQ | exact kc _)
end
section
variable {B:cX} {n:Nat} {L:Addr} {H:HL} {σ:St} {e9:Env}
theorem sU {x:Str} {p} {Φ:St->Prop} (h:WU B n L (storeName e9 x v) H σ Φ):WU B n L (assign (.Name x p) e9 v) H σ Φ:=d9 λA F s hA X=>wpAny_assign_Name (h.run A F s hA X)
theorem He {o:Expr} {aq:Str} {p} {Φ:St->Prop} (h:WV B n L (eval o e9) H σ λov d a1=>WU B n L (setAttr ov aq v) ((ov,d)::H) a1 Φ):WU B n L (assign (.Attribute o aq p) e9 v) H σ Φ:=by
 rw[arm_assign_Attribute];refine dm (dc (dh h λov od a2 w=>dr (fU (dc (W_dropU w λa3 q=>?_)))))
 exact jx q
where
 W_dropU {t:Sem Unit} {H':HL} {Φ:St->Prop} {Ψ:St->Prop} {σ:St} (h:WU B n L t H' σ Φ) (k:∀ σ,Φ σ->Ψ σ):WU B n L t H' σ Ψ:=gX h k
theorem nb {t1 t2 e:Expr} {k p pn}
 (h:WV B n L (eval e e9) H σ λv d a1=>∃ d1 d2,d=.tup [d1,d2]/\∀ v1 v2,WU B n L (assign t1 e9 v1) ((v1,d1)::(v2,d2)::H) a1 λa2=>WU B n L (assign t2 e9 v2) ((v1,d1)::(v2,d2)::H) a2 λa3=>Φ .next a3)
 (hs:autoParam (swapsWithSole [.Tuple [t1,t2] k p] e pn.line e9=pure false) bR) (hw:autoParam (swappedStores [.Tuple [t1,t2] k p] e e9=pure none) bR)
 (he:autoParam (assignEach [t1,t2] e9=[(false,assign t1 e9),(false,assign t2 e9)]) bR):WF B n L (exec (.Assign [.Tuple [t1,t2] k p] e pn) e9) H σ Φ:=d9 λA F s hA X=>by
 refine PyProof.Rows.Assign_Tuple (cx (h.run A F s hA X) (λv s0 z=>?_) λy y z=>z) hs hw
 obtain⟨F0,a1,x0,p0,d,hd,d1,d2,rfl,w⟩:=z;refine jS (gG hd) ?_;rintro a vs m rfl e1 e2
 refine jJ (two e2) ?_;rintro v1 v2 rfl q1 q2
 refine assign_Tuple_tuple hA.handled (jc x0.sub e1) (by rw[he];rfl) (by rw[he];rfl) λh' hk=>?_
 rw[he];have keep:∀ b o,s0.heap.get? b=some o->h'.get? b=some o:=λb o e=>hk b o (Nat.ne_of_lt (Heap.lt_size e)) e
 have x1:=((x0.grow keep).push q2).push q1
 refine assignInOrder_cons ?_
 refine cx ((w v1 v2).run A F0 { s0 with heap:=h' } hA x1) (λy s5 z=>?_) λy y z=>z
 obtain⟨F2,a3,x2,p7,w7⟩:=z;refine assignInOrder_cons (cx (w7.run A F2 s5 hA x2) (λy s8 z=>?_) λy y z=>z)
 obtain⟨F3,a4,x3,p8,q⟩:=z;refine assignInOrder_nil ⟨F3,a4,x3.weaken λy hp=>.tail _ (.tail _ hp),p0.trans (eu.trans (s':={ s0 with heap:=h' }) ⟨λb o y e=>keep b o e,λy h=>.inl h,λy y e=>.inl e,.refl F0,.refl _,rfl⟩ (p7.trans p8)),.next,trivial,q⟩
where
 two {P:Params} {F:Fz} {vs:cJ} {d1 d2:AV} (h:IsAll P F vs [d1,d2]):∃ v1 v2,vs=[v1,v2]/\Is P F v1 d1/\Is P F v2 d2:=by
  exact Cg h
def sH (J:St->Prop) (Φ:PF):PF
 | .next,σ=>J σ
 | .cont,σ=>J σ
 | .brk,σ=>Φ .next σ
 | .ret d,σ=>Φ (.ret d) σ
theorem sL {t9:Expr} {pn} (J:Nat->St->Prop) (k:Nat) (h0:J k σ)
 (h:∀ k σ,J k σ->WB B n L (isTrue t9 e9 (eval t9 e9)) H σ λb a1=>(b=true->WF B n L (execs b0 e9) H a1 (sH (λa2=>∃ m,m < k/\J m a2) Φ))/\(b=false->Φ .next a1)):
 WF B n L (exec (.While t9 b0 [] pn) e9) H σ Φ:=d9 λA F s hA X=>by
 refine wpAny_While ?_
 refine codeAny_whileLoop (λk s'=>∃ F' σ',Holds B.P B.G L F' H σ' s'.heap/\eu (L::dg σ.objs) F s (L::dg σ'.objs) F' s'/\J k σ') (λk s0 hI=>?_) k ⟨F,σ,X,.refl _ _ _,h0⟩
 refine jJ (hI) ?_;clear hI;rintro F0 a1 x0 p0 j3
 refine cx ((h k a1 j3).run A F0 s0 hA x0) (λb s6 z=>?_) λy y z=>z.elim
 obtain⟨F1,a2,x1,p6,q⟩:=z
 induction b using Bool.casesOn with
 | false=>exact wpAny_execs_nil ⟨F1,a2,x1,p0.trans p6,.next,trivial,q.2 rfl⟩
 | true=>
  refine cx ((q.1 rfl).run A F1 s6 hA x1) (λf s5 z=>?_) λy y z=>z.elim
  obtain⟨F2,a3,x2,p7,e,he,q⟩:=z;have pp:=p0.trans (p6.trans p7)
  cases f with
  | next=>rcases e with _ | _<;>first | exact he.elim | (refine dQ (q) ?_;clear q;rintro m hm j;exact⟨m,hm,F2,a3,x2,pp,j⟩)
  | cont=>rcases e with _ | _<;>first | exact he.elim | (refine dQ (q) ?_;clear q;rintro m hm j;exact⟨m,hm,F2,a3,x2,pp,j⟩)
  | brk=>rcases e with _ | _<;>first | exact he.elim | exact⟨F2,a3,x2,pp,.next,trivial,q⟩
  | ret v=>rcases e with _ | _<;>first | exact he.elim | exact⟨F2,a3,x2,pp,.ret _,he,q⟩
inductive oQ (B:cX) (n:Nat) (xv:Value) (d:AV) (N:Nat) (i3:Nat->AV) (a:Addr) (K:Nat->Obj->Prop):Prop
 | mk (next:∀ L' i l8 oe H,i < N->(xv,d)∈H->W B n L' (pyNext (.ref a)) H ⟨l8,(a,.is (K i))::oe⟩ λr F σ'=>∃ v,r=some v/\Is B.P F v (i3 i)/\σ'=⟨l8,(a,.is (K (i+1)))::oe⟩)
  (stop:∀ L' l8 oe H,(xv,d)∈H->W B n L' (pyNext (.ref a)) H ⟨l8,(a,.is (K N))::oe⟩ λr y σ'=>r=none/\σ'=⟨l8,oe⟩)
  (self:∀ L' l8 oe H,W B n L' (pyIter (.ref a)) H ⟨l8,(a,.is (K 0))::oe⟩ λr y σ'=>r=.ref a/\σ'=⟨l8,(a,.is (K 0))::oe⟩) (quiet:∀ i o,K i o->Ax o)
def fb (B:cX) (n:Nat) (L:Addr) (xv:Value) (d:AV) (N:Nat) (i3:Nat->AV):Prop:=
 ∀ H σ,(xv,d)∈H->W B n L (pyIter xv) H σ λr y σ'=>∃ (a:Addr) (K:Nat->Obj->Prop),r=.ref a/\σ'=⟨σ.loc,(a,.is (K 0))::σ.objs⟩/\oQ B n xv d N i3 a K
def lx (a:Addr) (p:Obj->Prop) (J:St->Prop) (Φ:PF):PF
 | .next,σ=>∃ l8 oe,σ=⟨l8,(a,.is p)::oe⟩/\J ⟨l8,oe⟩
 | .cont,σ=>∃ l8 oe,σ=⟨l8,(a,.is p)::oe⟩/\J ⟨l8,oe⟩
 | .brk,σ=>Φ .next σ
 | .ret d,σ=>Φ (.ret d) σ
theorem uE {p:Obj->Prop} {J:St->Prop} {H':HL} (st:WU B n L (assign t6 e9 v) H' σ λa2=>WF B n L (execs b0 e9) H a2 (lx a p J Φ))
 {A:Around} {F:Fz} {s:Shared} {C:Flow->Shared->Prop} {E E':Value->Shared->Prop} (hA:gk n A) (X:Holds B.P B.G L F H' σ s.heap) (hH:∀ q∈H,q∈H')
 (k:∀ f s' F' σ' e,Holds B.P B.G L F' H σ' s'.heap->eu (L::dg σ.objs) F s (L::dg σ'.objs) F' s'->qe B.P F' f e->lx a p J Φ e σ'->C f s'):wpAny B.M A (assign t6 e9 v) (λy s6=>wpAny B.M A (execs b0 e9) C E s6) E' s:=
 st.then hA X λy y y y x0 p0 w=>w.then hA (x0.weaken hH) λy y y y x1 p6 q=>Exists.elim q λy q=>k _ _ _ _ _ x1 (p0.trans p6) q.1 q.2
def Py (G:Prop) (Q:Flow->Prop):Flow->Prop
 | .next | .cont=>G
 | .brk=>Q .next
 | .ret v=>Q (.ret v)
theorem wV {P:Params} {F:Fz} {f:Flow} {e:Fl} {σ':St} {p:Obj->Prop} {J:St->Prop} {G:Prop} {Q:Flow->Prop} (he:qe P F f e) (q:lx a p J Φ e σ')
 (go:∀ l8 oe,σ'=⟨l8,(a,.is p)::oe⟩->J ⟨l8,oe⟩->G) (out:∀ f e,qe P F f e->Φ e σ'->Q f):Py G Q f:=by
 have g:(∃ l8 oe,σ'=⟨l8,(a,.is p)::oe⟩/\J ⟨l8,oe⟩)->G:=λ⟨l8,oe,e,j⟩=>go l8 oe e j
 rcases f with _ | _<;>rcases e with _ | _<;>first | exact he.elim | exact g q | exact out .next .next trivial q | exact out (.ret _) (.ret _) he q
inductive MH (B:cX) (L:Addr) (H:HL) (σ:St) (F:Fz) (s:Shared) (a:Addr) (K:Nat->Obj->Prop) (N:Nat) (J:Nat->St->Prop) (k:Nat) (s':Shared):Prop
 | mk (i:Nat) (F':Fz) (l8:LL) (oe:OL) (e:k=N - i) (hi:i<=N) (j:J i ⟨l8,oe⟩) (x:Holds B.P B.G L F' H ⟨l8,(a,.is (K i))::oe⟩ s'.heap) (p:eu (L::dg σ.objs) F s (L::dg ((a,AO.is (K i))::oe)) F' s')
inductive tN (B:cX) (n:Nat) (L:Addr) (H:HL) (e9:Env) (t6:Expr) (b0:cH) (J:Nat->St->Prop) (Φ:PF) (xv:Value) (d:AV) (a1:St):Prop
 | mk (N:Nat) (i3:Nat->AV) (it:fb B n L xv d N i3) (j0:J 0 a1) (fin:∀ σ,J N σ->Φ .next σ) (step:∀ i l8 oe a p v,i < N->J i ⟨l8,oe⟩->WU B n L (assign t6 e9 v) ((v,i3 i)::(xv,d)::H) ⟨l8,(a,.is p)::oe⟩ λa2=>WF B n L (execs b0 e9) H a2 (lx a p (J (i+1)) Φ))
theorem wu {i4:Expr} {pn:Pos} (J:Nat->St->Prop) (h:WV B n L (eval i4 e9) H σ (tN B n L H e9 t6 b0 J Φ))
 (hs:autoParam (∀ x,foldedSetIterable i4 e9 x=pure x) bI):WF B n L (exec (.For t6 i4 b0 [] pn) e9) H σ Φ:=oX λA F s Q hA X fq=>by
 refine wpAny_For (h.then hA X λxv s0 F0 a1 x0 p0 q=>?_) hs
 refine dQ (q) ?_;clear q;rintro d hd ⟨N,i3,it,j0,fin,step⟩
 refine(it _ a1 dH).then hA (x0.push hd) λr s6 F1 a2 x1 p6 q=>?_
 refine jJ (q) ?_;clear q;rintro a K rfl rfl ⟨next,stop,_,quiet⟩
 refine codeAny_forLoop_any (MH B L ((xv,d)::H) σ F s a K N J) (λk s5 hI=>?_) N ⟨0,F1,a1.loc,a1.objs,rfl,cr _,j0,x1,p0.trans p6⟩
 obtain⟨i,F2,l8,oe,e,hi,j,x2,p7⟩:=hI
 by_cases hN:i=N
 . subst hN
   refine(stop L l8 oe _ dH).then hA x2 λr s8 F3 a4 x3 p8 q=>?_
   obtain⟨rfl,rfl⟩:=q;exact wpAny_execs_nil (fq _ _ ⟨F3,_,x3.weaken λy hp=>.tail _ hp,p7.trans p8,.next,trivial,fin _ j⟩)
 . have au:i < N:=Nat.lt_of_le_of_ne hi hN
   refine(next L i l8 oe _ au dH).then hA x2 λr s8 F3 a4 x3 p8 q=>?_
   refine kW (q) ?_;clear q;rintro v rfl hv rfl
   refine dQ (x3.objs _ dH) ?_;rintro o ho hk
   refine nv ho (quiet _ _ hk) ?_
   refine uE (step i l8 oe a (K (i+1)) v au j) hA (x3.push hv) (λy hp=>.tail _ (.tail _ hp)) λf s7 F4 a5 fe x4 p9 he q=>?_
   have pp:=p7.trans (p8.trans p9)
   refine wV (G:=∃ m,m < k/\MH B L ((xv,d)::H) σ F s a K N J m s7) (Q:=λf=>Q f s7) he q (λl9 o5 e' j'=>?_) λf e he q=>fq _ _ ⟨F4,a5,x4,pp,e,he,q⟩
   subst e';exact⟨N - (i+1),e▸Nat.sub_succ_lt_self _ _ au,i+1,F4,l9,o5,rfl,au,j',x4.push ((x3.hold dH).mono p9.mono),pp⟩
theorem MT {i4:Expr} {pn} (J:Nat->St->Prop) (h:WV B n L (eval i4 e9) H σ (tN B n L H e9 t6 b0 J Φ))
 (hs:autoParam (∀ x,foldedSetIterable i4 e9 x=pure x) bI) (ht:autoParam (∀ it v,letOwnedTupleGo t6 it v=pure ()) bJ):WF B n L (exec (.For t6 i4 b0 [] pn) e9) H σ Φ:=wu J h hs
end
end
section
variable {F:Fz} {oe:OL} {l8:LL} {s s':Shared} {Ψ:Fz->St->Prop} {xv:Value}
section
variable {B:cX} {n:Nat} {L:Addr} {H:HL} {σ:St} {e9:Env}
theorem Holds.add {P:Params} {G:Heap} {h:Heap} {H':HL} (x:Holds P G L F H σ h) (k:∀ p∈H',Is P F p.1 p.2):Holds P G L F (H'++H) σ h:=
 ⟨x.core,x.sub,x.loc,x.names,x.objs,x.nodup,x.apart,λp hp=>(bT.mp hp).elim (k p) (x.held p),x.low⟩
theorem gp.enter {P:Params} {G:Heap} {h h6:Heap} {C:Addr} (x:gp P G F oe h) (hC:h.get? C=none) (big:G.objs.size<=C)
 (k : ∀ b o,h.get? b=some o->h6.get? b=some o) (hl:∃ m,h6.Ns C m/\∀ y d,(y,some d)∈l8->∃ v,m y=some v/\Is P F v d) (hn:(l8.map (·.1)).Nodup) (hH:∀ p∈H,Is P F p.1 p.2):Holds P G C F H ⟨l8,oe⟩ h6:=by
 have there:∀ b∈dg oe,∃ o,h.get? b=some o:=λb hb=>by
  refine dQ (dK.mp hb) ?_;rintro p hp hb
  exact(x.objs p hp).there b hb
 refine⟨x.core,λb o e=>k _ _ (x.sub _ _ e),hl,hn,λp hp=>(x.objs p hp).move (.refl F) λb o z e=>k _ _ e,bU.mpr ⟨λhm=>?_,x.nodup⟩,λb hb=>?_,hH,big⟩
 . obtain⟨o,ho⟩:=there _ hm;rw[hC]at ho;contradiction
 . rcases fD hb with rfl | hb
   . induction q:F b using Option.casesOn with
     | none=>rfl
     | some o=>have:=x.sub _ _ q;rw[hC]at this;contradiction
   . exact x.apart b hb
theorem eu.leave {F':Fz} {s0:Shared} {O O':cK} {C:Addr} (p:eu (C::O) F s0 (C::O') F' s') (hC:s.heap.get? C=none) (k:∀ b o,s.heap.get? b=some o->s0.heap.get? b=some o) (g:gq s.gens s0.gens) (os:s0.os=s.os) (nC:C∉O'):eu O F s O' F' s':=
 (p.over (λb hb=>(fD hb).elim (λe=>.inr (e▸hC)) .inl) k g os).fewer λy=>.tail _
theorem di.remove {a:Addr} {o:AO} (x:Holds B.P B.G L F H ⟨l8,(a,o)::oe⟩ s.heap)
 (k :∀ b y,b≠a->s.heap.get? b=some y->s'.heap.get? b=some y) (g:s'.gens=s.gens) (os:s'.os=s.os) (z:Ψ F ⟨l8,oe⟩):di B L H ⟨l8,(a,o)::oe⟩ F s s' Ψ:=by
 have x':=x.drop (o5:=oe) (r8:=[(a,o)]) (bg (l₁:=[(a,o)]))
 have aO:a∈L::dg ((a,o)::oe):=.tail _ dH
 have nd:=x.nodup
 have nL:a≠L:=λe=>(bU.mp nd).1 (e▸.head _)
 have nO:a∉dg oe:=λhm=>(bU.mp (bU.mp nd).2).1 (be _ hm)
 have keep:∀ b y,b≠a->s.heap.get? b=some y->s'.heap.get? b=some y:=k
 refine⟨F,⟨l8,oe⟩,⟨x.core,λb y e=>keep b y (λq=>?_) (x.sub _ _ e),?_,x'.names,λp hp=>(x'.objs p hp).move (.refl F) λb y hb e=>keep b y (λq=>nO (q▸dK.mpr ⟨p,hp,hb⟩)) e,x'.nodup,x'.apart,x'.held,x.low⟩,
  ⟨λb y hb e=>keep b y (λq=>hb (q▸aO)) e,λb hb=>.inl ?_,λw w e=>.inl e,.refl F,.of g,os⟩,z⟩
 . have:=x.apart a aO;rw[<-q,e]at this;contradiction
 . obtain⟨m,⟨o',es,ep,e1,e2⟩,r⟩:=x.loc
   exact⟨m,⟨o',es,ep,keep _ _ (λq=>nL q.symm) e1,e2⟩,r⟩
 . rcases fD hb with rfl | hb
   . exact .head _
   . exact .tail _ (.tail _ (be _ hb))
theorem di.turn {a:Addr} {p p':Obj->Prop} (x:Holds B.P B.G L F H ⟨l8,(a,.is p)::oe⟩ s.heap)
 (k:Heap.SameBut a s.heap s'.heap) (q:∃ o,s'.heap.get? a=some o/\p' o) (g:s'.gens=s.gens) (os:s'.os=s.os) (z:Ψ F ⟨l8,(a,.is p')::oe⟩):di B L H ⟨l8,(a,.is p)::oe⟩ F s s' Ψ:=by
 have nL:L≠a:=λe=>(bU.mp x.nodup).1 (e▸.head _)
 refine di.change (pB:=[]) (o':=.is p') x (c:=a) (.inl rfl) rfl (λb y w h e=>(k.2 b h).trans e) ?_ q g os z
 refine dQ (x.loc) ?_;rintro m hm r
 exact⟨m,hm.sameBut k nL,r⟩
theorem di.begin (x:Holds B.P B.G L F H σ s.heap) {o:Obj} {p:Obj->Prop} {tk:Nat} (hp:p o) (z:Ψ F ⟨σ.loc,(s.heap.objs.size,.is p)::σ.objs⟩)
 (hf:(s.heap.push o).get? s.heap.objs.size=some o:=by exact bm _ rfl):di B L H σ F s { s with heap:=s.heap.push o,toks:=tk } Ψ:=
 di.track (o:=.is p) x (λb y e=>bc _ e) (λb hb=>by rw[bq.mp hb];exact eI _) (by simp[AO.more]) ⟨o,hf,hp⟩ rfl rfl z
def xV (T:String) (l:cF) (t:Tok) (i:Nat) (o:Obj):Prop:=o.cls=.type T/\o.data=.fields #[.str (S l) t,.int i 0]
theorem sX {l:cF}:fb B n L xv (.str l) l.length (λi=>.str [l.getD i 0]):=by
 intro H σ m;refine d9 λA F s hA X=>?_
 obtain⟨t,rfl⟩:=dy (X.hold m);have cps:∀ i:Nat,(S l).cps[i]? =l[i]?:=λi=>by simp
 induction ha:(S l).cps.all (· < 128)using Bool.casesOn with
 | true=>
  refine wpAny_pyIter_ascii ha (di.begin (p:=xV "str_ascii_iterator" l t 0) X ⟨rfl,rfl⟩ ⟨_,λi=>xV "str_ascii_iterator" l t i,rfl,rfl,λL' i l8 oe H hi z=>d9 λA F s hA X=>?_,λL' l8 oe H z=>d9 λA F s hA X=>?_,(λL' l8 oe H=>d9 λA F s hA X=>?_),λi o ho=>⟨_,(by first | exact ho.1 | exact cB Obj.cls ho),rfl⟩⟩)
  . refine kW (X.objs _ dH) ?_;rintro o ho hc hd
    refine wpAny_pyNext_ascii_item (x:=S l) (t:=t) (i:=i) (c:=l[i]) ⟨o,ho,hc,hd⟩ (by rw[cps];simp[hi]) λh' hit hs=>?_
    exact di.turn X hs hit rfl rfl ⟨_,rfl,(by have e:l.getD i 0=l[i]:=(by simp[hi]);show Is B.P F _ (.str [l.getD i 0]);rw[e];exact .str _ _),rfl⟩
  . refine kW (X.objs _ dH) ?_;rintro o ho hc hd
    refine wpAny_pyNext_ascii_end (x:=S l) (t:=t) (i:=l.length) hA.handled ⟨o,ho,hc,hd⟩ (by rw[cps];simp) λh' hs=>?_
    exact di.remove X (λb y hb e=>hs b y hb e) rfl rfl ⟨rfl,rfl⟩
  . refine kW (X.objs _ dH) ?_;rintro o ho hc hd
    exact wpAny_pyIter_striter_ascii (i:=0) ⟨o,ho,hc,hd⟩ (.here X ⟨rfl,rfl⟩)
 | false=>
  refine wpAny_pyIter_wide ha (di.begin (p:=xV "str_iterator" l t 0) X ⟨rfl,rfl⟩ ⟨_,λi=>xV "str_iterator" l t i,rfl,rfl,λL' i l8 oe H hi z=>d9 λA F s hA X=>?_,λL' l8 oe H z=>d9 λA F s hA X=>?_,(λL' l8 oe H=>d9 λA F s hA X=>?_),λi o ho=>⟨_,(by first | exact ho.1 | exact cB Obj.cls ho),rfl⟩⟩)
  . refine kW (X.objs _ dH) ?_;rintro o ho hc hd
    refine wpAny_pyNext_wide_item (x:=S l) (t:=t) (i:=i) (c:=l[i]) ⟨o,ho,hc,hd⟩ (by rw[cps];simp[hi]) λh' hit hs=>?_
    exact di.turn X hs hit rfl rfl ⟨_,rfl,(by have e:l.getD i 0=l[i]:=(by simp[hi]);show Is B.P F _ (.str [l.getD i 0]);rw[e];exact .str _ _),rfl⟩
  . refine kW (X.objs _ dH) ?_;rintro o ho hc hd
    refine wpAny_pyNext_wide_end (x:=S l) (t:=t) (i:=l.length) hA.handled ⟨o,ho,hc,hd⟩ (by rw[cps];simp) λh' hs=>?_
    exact di.remove X (λb y hb e=>hs b y hb e) rfl rfl ⟨rfl,rfl⟩
  . refine kW (X.objs _ dH) ?_;rintro o ho hc hd
    exact wpAny_pyIter_striter_wide (i:=0) ⟨o,ho,hc,hd⟩ (.here X ⟨rfl,rfl⟩)
def pK (a b:Int) (o:Obj):Prop:=∃ t u v,o={ cls:=.type "range",dict:=none,data:=.fields #[.int a t,.int b u,.int 1 v],slots:=#[] }
theorem BI {a:Int} {N:Nat} (ha: -1099511627776<=a) (ha':a<=1099511627776) (hN:N<=1099511627776):fb B n L xv (.obj (pK a (a+N))) N (λi=>.int (a+i)):=by
 intro H σ m;refine d9 λA F s hA X=>?_
 have hh:=X.hold m
 refine jJ (jq hh) ?_;clear hh;rintro r o rfl e1 e2
 refine RP (e2) ?_;clear e2;rintro t u v rfl
 have hr:IsRange s.heap r a (a+N) 1 t u v:=X.sub _ _ e1
 have size:Builtin.Range.rangeSize a (a+N) 1=N:=by rw[rangeSize_one];split<;>omega
 let K:Nat->Obj->Prop:=λi o=>o={ cls:=.type "range_iterator",dict:=none,data:=.fields #[rawInt (a+i),rawInt (N - i),rawInt 1],slots:=#[] }
 refine wpAny_pyIter_range hr (small_one (by omega) (by omega) (by omega) (by omega)) (di.begin (p:=K 0) X (by rw[size];simp[K]) ⟨_,K,rfl,rfl,λL' i l8 oe H hi z=>d9 λA F s hA X=>?_,λL' l8 oe H z=>d9 λA F s hA X=>?_,(λL' l8 oe H=>d9 λA F s hA X=>?_),λi o ho=>⟨_,(by first | exact ho.1 | exact cB Obj.cls ho),rfl⟩⟩)
 . refine dQ (X.objs _ dH) ?_;rintro o ho rfl
   refine wpAny_pyNext_range_item (x:=a+i) (left:=N - i) (step:=1) ho (by omega) λh' hit hs=>?_
   exact di.turn X hs ⟨_,hit,by show _ = _;rw[show a+(i:Int)+1=a+((i+1:Nat):Int)from by omega,show(N:Int) - i - 1=N - ((i+1:Nat):Int)from by omega]⟩ rfl rfl ⟨_,rfl,.int _ _,rfl⟩
 . refine dQ (X.objs _ dH) ?_;rintro o ho rfl
   refine wpAny_pyNext_range_end (x:=a+N) (left:=N - N) (step:=1) hA.handled ho (by omega) λh' hs=>?_
   exact di.remove X (λb y hb e=>hs b y hb e) rfl rfl ⟨rfl,rfl⟩
 . refine dQ (X.objs _ dH) ?_;rintro o ho rfl
   exact wpAny_pyIter_rangeiter (x:=a+(0:Nat)) (left:=N - (0:Nat)) (step:=1) ho (.here X ⟨rfl,rfl⟩)
theorem jY {l:cG}:fb B n L xv (.lst l) l.length (λi=>l.getD i .any):=by
 intro H σ m;refine d9 λA F s hA X=>?_
 refine jS (eU (X.hold m)) ?_;rintro t vs q rfl e1 e2
 have am:=e2.length
 refine wpAny_pyIter_list (fy X.sub e1) (di.begin (p:=λo=>o.cls=.type "list_iterator"/\o.data=.fields #[.ref t,.int (0:Nat) 0]) X ⟨rfl,rfl⟩ ⟨_,λi o=>o.cls=.type "list_iterator"/\o.data=.fields #[.ref t,.int (i:Nat) 0],rfl,rfl,λL' i l8 oe H hi mm=>d9 λA F s hA X=>?_,λL' l8 oe H mm=>d9 λA F s hA X=>?_,(λL' l8 oe H=>d9 λA F s hA X=>?_),λi o ho=>⟨_,(by first | exact ho.1 | exact cB Obj.cls ho),rfl⟩⟩)
 . refine kW (X.objs _ dH) ?_;rintro o ho hc hd
   refine jS (eU (X.hold mm)) ?_;rintro t' vs' q' et e1 e2
   cases et
   refine dQ (kY.nth e2 (k:=i) (d:=l[i]) (by simp[hi])) ?_;rintro y hy hyd
   refine wpAny_pyNext_list_item (i:=i) ⟨o,ho,hc,hd⟩ (fy X.sub e1) (x:=y) (by simpa using hy) λh' hit hs=>?_
   exact di.turn X hs hit rfl rfl ⟨_,rfl,(by have e:l.getD i .any=l[i]:=(by simp[hi]);show Is B.P F _ (l.getD i .any);rw[e];exact hyd),rfl⟩
 . refine kW (X.objs _ dH) ?_;rintro o ho hc hd
   refine jS (eU (X.hold mm)) ?_;rintro t' vs' q' et e1 e2
   cases et
   refine wpAny_pyNext_list_end (i:=l.length) hA.handled ⟨o,ho,hc,hd⟩ (fy X.sub e1) (by have:=e2.length;simp;omega) λh' hs=>?_
   exact di.remove X (λb y hb e=>hs b y hb e) rfl rfl ⟨rfl,rfl⟩
 . refine kW (X.objs _ dH) ?_;rintro o ho hc hd
   exact wpAny_pyIter_listiter (l:=t) (i:=0) ⟨o,ho,hc,hd⟩ (.here X ⟨rfl,rfl⟩)
end
end
section
variable {Φ:PV}
section
variable {B:cX} {n:Nat} {L:Addr} {H:HL} {σ:St} {e9:Env}
theorem ur (C:Value) (vs:cJ) (kw:cS) (C':Addr) (e:C=.ref C'):(Code.builtin "type.__call__" ⟨C::vs,kw⟩).weight=1:=by subst e;kernel_rfl
theorem J8 {C fI:Addr} {vs:cJ} {ds:cG} (hm:makesIn B.K C=true) (hi:findIn B.K (.ref C) "__init__"=some (some (.ref fI))) (hf:isFn B.K (.ref fI)=true)
 (e :vs.length=ds.length) (k:∀ p∈vs.zip ds,p∈H) (c:∀ x dx,cY B n fI (.ref x::ds) ((x,.inst C dx [])::σ.objs) λd o5=>d=.none/\Φ (.ref x) (.ref x) ⟨σ.loc,o5⟩):
 WV B (n+1) L (call (.ref C) vs) H σ Φ:=d9 λA F s hA X=>by
 obtain⟨hh,g,d,t,os⟩:=s;refine wpAny_call (make_core (makes_of X.K hm) (looks_findIn X.K hi) (λself=>bind_fn X.K self (beq_iff_eq.mp hf)) (.inl rfl) ?_)
 have T:di B L H σ F ⟨hh,g,d,t,os⟩ ⟨(hh.push emptyDict).push (instObj C hh.objs.size),g,d,t,os⟩ (λF' σ'=>F'=F/\σ'=⟨σ.loc,(hh.objs.size+1,.inst C hh.objs.size [])::σ.objs⟩):=by
  have h1:((hh.push emptyDict).push (instObj C hh.objs.size)).get? (hh.objs.size+1)=some (instObj C hh.objs.size):=by heap_get
  have h2:((hh.push emptyDict).push (instObj C hh.objs.size)).get? hh.objs.size=some (dictOf [] 0):=bc _ (bm _ rfl)
  refine di.track (o:=.inst C hh.objs.size []) X (λb y e=>bc _ (bc _ e)) (λb hb=>?_) (by simp[AO.more]) ⟨h1,[],0,h2,.nil⟩ rfl rfl ⟨rfl,rfl⟩
  induction q:hh.get? b using Option.casesOn with
  | none=>rfl
  | some o=>
   have:b < hh.objs.size:=Heap.lt_size q
   rcases fD hb with rfl | hb
   . exact cD this (Nat.not_lt.mpr (Nat.le_succ _))
   . rw[bq.mp hb]at this;exact cD this (Nat.lt_irrefl _)
 obtain⟨F0,a1,X0,p0,rfl,rfl⟩:=T;have hA':gk n (A.under (.builtin "type.__call__" ⟨.ref C::vs,[]⟩)):=by
  refine⟨hA.handled,?_,?_⟩
  . have:=hA.depth
    show A.depth+(Code.builtin "type.__call__" ⟨.ref C::vs,[]⟩).weight+n<=900
    rw[ur (.ref C) vs [] C rfl];omega
  . have:=hA.units
    show A.units+(Code.builtin "type.__call__" ⟨.ref C::vs,[]⟩).cUnits+8*n<=9000
    have:(Code.builtin "type.__call__" ⟨.ref C::vs,[]⟩).cUnits=1:=by kernel_rfl
    omega
 refine codeAny_mono (c _ _ _ F0 _ _ hA' X0.call (.cons (.ref _) (mf X e k))) λr s' z=>?_
 obtain⟨v,d',o5,F',rfl,hd,y,p,rfl,q⟩:=z;obtain⟨x',p'⟩:=X0.back y p;exact⟨gD hd,F',_,x',p0.trans p',_,.ref _,q⟩
theorem EQ {T:String} {first:cJ} {ah:cI} {pn}
 (h:WL B n L (spliced (backTo pn (starEach ah e9))) H σ λvs ds a1=>WV B n L (call (.type T) (first++vs)) (vs.zip ds++H) a1 Φ)
 (hp:autoParam ((backTo pn (starEach ah e9)).any (·.1)=false) bR):WV B n L (callWith pn (.type T) first (backTo pn (starEach ah e9)) []) H σ Φ:=d9 λA F s hA x=>by
 refine PyProof.Rows.callWith_type hp (gI hp (cx (h.run A F s hA x) (λvs s0 z=>?_) λv v z=>z))
 refine z.then λF0 a1 x0 ⟨ds,aL,w⟩=>?_
 exact cx (w.run A F0 s0 hA (x0.add (nQ.zip_is aL))) (λv v y=>y.weaken λv hp=>be _ hp) λv v z=>z
theorem Ao {v u:Value} {a b:Int} (mv:(v,.int a)∈H) (mu:(u,.int b)∈H) (h:∀ v,Φ v (.obj (pK a b)) σ):WV B n L (call (.type "range") [v,u]) H σ Φ:=d9 λA F s hA X=>by
 obtain⟨t,rfl⟩:=dk (X.hold mv);obtain⟨t',rfl⟩:=dk (X.hold mu);refine call_range_2 (di.fresh X (λb o e=>bc _ e) (eI _) (bm _ rfl) rfl rfl λle=>⟨_,.obj (Fz.put_self ..) ⟨_,_,_,rfl⟩,h _⟩)
theorem Holds.freeze {P:Params} {G:Heap} {F:Fz} {h:Heap} {l8:LL} {oe:OL} {a:Addr} {l:cG} (x:Holds P G L F H ⟨l8,(a,.list l)::oe⟩ h):
 ∃ F',F.le F'/\Holds P G L F' H ⟨l8,oe⟩ h/\Is P F' (.ref a) (.lst l)/\∀ b o,F' b=some o->F b=some o\/b=a:=by
 refine iM (x.objs _ dH) ?_;rintro vs m h1 h2
 have aF:F a=none:=x.apart a iL
 have le:=Fz.le_put (o:=dU vs m) aF
 have x':=x.drop (o5:=oe) (r8:=[(a,AO.list l)]) (bg (l₁:=[(a,AO.list l)]))
 have nd:=x.nodup
 have nL:a≠L:=λe=>(bU.mp nd).1 (e▸.head _)
 have nO:a∉dg oe:=λhm=>(bU.mp (bU.mp nd).2).1 (be _ hm)
 refine⟨F.put a (dU vs m),le,⟨λb o' e=>le _ _ (x.core b o' e),λb o' e=>?_,let ⟨m,hm,r⟩:=x.loc;⟨m,hm,λy d hy=>let ⟨v,e,q⟩:=r y d hy;⟨v,e,q.mono le⟩⟩,x'.names,
  λp hp=>(x'.objs p hp).move le λ_ _ _ e=>e,x'.nodup,λb hb=>?_,λp hp=>(x.held p hp).mono le,x.low⟩,.lst (Fz.put_self ..) (h2.mono le),λb o e=>?_⟩
 . unfold Fz.put at e
   split at e
   . rename_i q;subst q;obtain rfl:=Option.some.inj e;exact h1
   . exact x.sub _ _ e
 . unfold Fz.put
   split
   . rename_i q
     subst q
     rcases fD hb with h | hb
     . exact cD h nL
     . exact cD hb nO
   . exact x'.apart b hb
 . unfold Fz.put at e
   split at e
   . exact .inr ‹_›
   . exact .inl e
theorem qg {t:Sem Value} (h:WV B n L t H σ λv d a1=>∃ a l l8 oe,d=.ref a/\a1=⟨l8,(a,.list l)::oe⟩/\Φ v (.lst l) ⟨l8,oe⟩):WV B n L t H σ Φ:=d9 λA F s hA X=>by
 refine cx (h.run A F s hA X) (λv s0 z=>?_) λy y z=>z
 obtain⟨F0,a1,x0,p0,d,hd,a,l,l8,oe,rfl,rfl,q⟩:=z;refine Lc (x0.freeze) ?_;rintro F1 le x1 hl back
 obtain rfl:=dG hd
 have aO:a∈L::dg σ.objs\/s.heap.get? a=none:=p0.own a iL
 refine⟨F1,_,x1,⟨p0.keep,λb hb=>p0.own b ?_,λb o e=>?_,p0.mono.trans le,p0.gens,p0.os⟩,_,hl,q⟩
 . rcases fD hb with rfl | hb
   . exact .head _
   . exact .tail _ (.tail _ hb)
 . rcases back b o e with z | rfl
   . exact p0.frz b o z
   . rcases aO with z | z
     . exact .inr (.inl z)
     . exact .inr (.inr z)
end
end
section
variable {xs:cL} {F:Fz} {C a D:Addr} {oe:OL}
noncomputable def bare (xs:cL):LL:=xs.map (·,none)
theorem iw (xs:cL):(bare xs).map (·.1)=xs:=by
 unfold bare;rw[List.map_map];exact(List.map_congr_left λy y=>rfl).trans (List.map_id _)
theorem jh {y:Str} {d:AV} (h:(y,some d)∈bare xs):False:=by
 unfold bare at h;refine dQ (cg.mp h) ?_;rintro x x e
 cases e
noncomputable abbrev m8 (i5:cI) (e9:Env):Sem Bool:=forIn i5 true λc r=>if r=true then do let ok <-isTrue c e9 (eval c e9);pure (ForInStep.yield ok) else pure (ForInStep.yield r)
section
variable {B:cX} {n:Nat} {L:Addr} {H:HL} {σ:St} {e9:Env}
theorem GQ {Φ:Bool->St->Prop} (h:Φ true σ):WB B n L (m8 [] e9) H σ Φ:=d9 λy y y y x=>by
 exact cy (.here x h)
theorem Ot {c:Expr} {Φ:Bool->St->Prop} (h:WB B n L (isTrue c e9 (eval c e9)) H σ Φ):WB B n L (m8 [c] e9) H σ Φ:=d9 λA F s hA x=>wpAny_tests_one (h.run A F s hA x)
theorem Holds.besides {P:Params} {G:Heap} {h h':Heap} (x:Holds P G L F H σ h) (hF:F C=none) (hO:C∉L::dg σ.objs) (k:∀ b o,b≠C->h.get? b=some o->h'.get? b=some o):Holds P G L F H σ h':=by
 refine⟨x.core,λb o e=>k b o (λz=>by rw[z,hF]at e;contradiction) (x.sub _ _ e),?_,x.names,λp hp=>(x.objs p hp).move (.refl F) λb o' hb e=>k _ _ (λz=>hO (z▸.tail _ (dK.mpr ⟨p,hp,hb⟩))) e,x.nodup,x.apart,x.held,x.low⟩
 refine dQ (x.loc) ?_;rintro m ⟨o',es,ep,e1,e2⟩ r
 exact⟨m,⟨o',es,ep,k _ _ (λz=>hO (z▸.head _)) e1,e2⟩,r⟩
end
section
variable {pv:Program} {w:World} {A:Around} {E:Value->Shared->Prop} {s:Shared}
variable {R:Result->Shared->Prop}
theorem M1 {ee t6 i4:Expr} {i5:cI} {se:Scope} {pn:Pos} {it ak:Value} {e9:Env} (I:Nat->Shared->Prop)
 (turn:∀ n s,I n s->wpAny (model pv w) A (pyNext it) (λr s0=>match r with
  | none=>R (.ok .next) s0
  | some v=>wpAny (model pv w) A (letOwnedTupleGo t6 it v) (λy s9=>wpAny (model pv w) A (assign t6 e9 v) (λy s6=>
   wpAny (model pv w) A (m8 i5 e9) (λok s5=>
    if ok=true then wpAny (model pv w) A (eval ee e9) (λx s8=>
     wpAny (model pv w) A (call (.builtin "list.append") [ak,x]) (λy s7=>∃ m,m < n/\I m s7) (notedBy (model pv w) A e9 λe s'=>R (.error e) s') s8) (notedBy (model pv w) A e9 λe s'=>R (.error e) s') s5
    else ∃ m,m < n/\I m s5) (notedBy (model pv w) A e9 λe s'=>R (.error e) s') s6) (notedBy (model pv w) A e9 λe s'=>R (.error e) s') s9) (notedBy (model pv w) A e9 λe s'=>R (.error e) s') s0) (notedBy (model pv w) A e9 λe s'=>R (.error e) s') s)
 (n:Nat) (h:I n s):codeAny (model pv w) A (.compLoop (.ListComp ee [⟨t6,i4,i5,0⟩] se pn) 0 it ak e9) R s:=by
 refine codeAny_loop rfl I (λn s hI=>?_) n h
 show wpAny _ A ((compTurn (.ListComp ee [⟨t6,i4,i5,0⟩] se pn) 0 it ak e9).onRaise (λx=>do noteFrame x e9;theTreesLotGoes x)) _ _ s
 refine wpAny_noted ?_
 rw[compTurn_list];refine cw (wpAny_standAt (cw (cx (turn n s hI) (λr s0 h6=>?_) λy y h'=>h')))
 induction r using Option.casesOn with
 | none=>exact cy h6
 | some v=>
  refine cw (cx h6 (λy s9 ad=>?_) λy y h'=>h')
  refine cw (cx ad (λy s6 hG=>cw (cx hG (λok s5 hJ=>?_) λy y h'=>h')) λy y h'=>h')
  induction ok using Bool.casesOn with
  | false=>exact cy ⟨rfl,hJ⟩
  | true=>exact cw (cw (cx hJ (λx s8 ae=>cw (cx ae (λy s7 af=>cy (cy ⟨rfl,af⟩)) λy y h'=>h')) λy y h'=>h'))
end
section
variable {B:cX} {n:Nat} {L:Addr} {H:HL} {σ:St} {e9:Env}
def lS (B:cX) (n:Nat) (t6 ee:Expr) (i5:cI) (c9:Addr->Env) (H:HL) (xs:cL) (i3:AV) (J J':cG->OL->Prop):Prop:=
 ∀ C ys oe D a p v,J ys oe->WU B n C (assign t6 (c9 C) v) ((v,i3)::H) ⟨bare xs,(D,.list ys)::(a,.is p)::oe⟩ λa2=>WB B n C (m8 i5 (c9 C)) H a2 λok a3=>
  (ok=true->WV B n C (eval ee (c9 C)) H a3 λy e a4=>∃ l8 o5,a4=⟨l8,(D,.list ys)::(a,.is p)::o5⟩/\ys.length<=16777215/\J' (ys++[e]) o5)/\
  (ok=false->∃ l8 o5,a3=⟨l8,(D,.list ys)::(a,.is p)::o5⟩/\J' ys o5)
theorem eu.less {o o' r8:OL} (h:o.Perm (o'++r8)):eu (C::dg o) F s (C::dg o') F s:=by
 have pe:=fC h
 rw[fg]at pe
 refine⟨λy y y e=>e,λb hb=>.inl ?_,λy y e=>.inl e,.refl F,.refl _,rfl⟩
 rcases fD hb with rfl | hb
 . exact .head _
 . exact .tail _ (pe.mem_iff.mpr (bh _ hb))
theorem eu.rest {O O':cK} {F':Fz} {s':Shared} {h':Heap} (p:eu O F s O' F' s') (hC:s.heap.get? C=none) (k:∀ b,b≠C->h'.get? b=s'.heap.get? b):eu O F s O' F' { s' with heap:=h' }:=
 ⟨λb o hb e=>(k b (λz=>nomatch (z▸e).symm.trans hC)).trans (p.keep b o hb e),p.own,p.frz,p.mono,p.gens,p.os⟩
inductive FH (B:cX) (C:Addr) (H:HL) (O:cK) (F:Fz) (s:Shared) (xs:cL) (a D:Addr) (K:Nat->Obj->Prop) (N:Nat) (J:Nat->cG->OL->Prop) (k:Nat) (s':Shared):Prop
 | mk (i:Nat) (F':Fz) (ys:cG) (o5:OL) (e:k=N - i) (hi:i<=N) (j:J i ys o5) (x:Holds B.P B.G C F' H ⟨bare xs,(a,.is (K i))::(D,.list ys)::o5⟩ s'.heap) (p:eu O F s (C::dg ((a,AO.is (K i))::(D,.list ys)::o5)) F' s')
inductive Fp (B:cX) (L:Addr) (H:HL) (O:cK) (F:Fz) (s:Shared) (l8:LL) (D:Addr) (J:cG->OL->Prop) (C:Addr) (s7:Shared):Prop
 | mk (ys:cG) (o5:OL) (F':Fz) (m:Str->cO) (aJ:s7.heap.Ns C m) (j:J ys o5) (x:Holds B.P B.G L F' H ⟨l8,(D,.list ys)::o5⟩ s7.heap) (p:eu O F s (L::dg ((D,AO.list ys)::o5)) F' s7) (hC:C∉L::dg ((D,AO.list ys)::o5)) (hF:F' C=none)
theorem gm {p:Obj->Prop} {ys:cG}:((D,AO.list ys)::(a,AO.is p)::oe).Perm (((a,AO.is p)::(D,AO.list ys)::oe)++[]):=by rw[bX];exact .swap _ _ _
theorem vk {p:Obj->Prop} {ys:cG}:((a,AO.is p)::(D,AO.list ys)::oe).Perm (((D,AO.list ys)::(a,AO.is p)::oe)++[]):=by rw[bX];exact .swap _ _ _
theorem Holds.forget {P:Params} {G:Heap} {l8:LL} {h:Heap} (hx:xs.Nodup) (x:Holds P G C F H ⟨l8,oe⟩ h):Holds P G C F H ⟨bare xs,oe⟩ h:=
 ⟨x.core,x.sub,x.loc.imp λm q=>⟨q.1,λy d h=>(jh h).elim⟩,by rw[iw];exact hx,x.objs,x.nodup,x.apart,x.held,x.low⟩
inductive sY (B:cX) (n:Nat) (xv:Value) (d:AV) (M:OL->Prop) (N:Nat) (i3:Nat->AV) (a:Addr) (K:Nat->Obj->Prop):Prop
 | mk (next:∀ L' i l8 oe H,i < N->(xv,d)∈H->M oe->W B n L' (pyNext (.ref a)) H ⟨l8,(a,.is (K i))::oe⟩ λr F σ'=>∃ v,r=some v/\Is B.P F v (i3 i)/\σ'=⟨l8,(a,.is (K (i+1)))::oe⟩)
  (stop:∀ L' l8 oe H,(xv,d)∈H->M oe->W B n L' (pyNext (.ref a)) H ⟨l8,(a,.is (K N))::oe⟩ λr y σ'=>r=none/\σ'=⟨l8,oe⟩)
  (self:∀ L' l8 oe H,W B n L' (pyIter (.ref a)) H ⟨l8,(a,.is (K 0))::oe⟩ λr y σ'=>r=.ref a/\σ'=⟨l8,(a,.is (K 0))::oe⟩) (quiet:∀ i o,K i o->Ax o)
def qO (B:cX) (n:Nat) (L:Addr) (xv:Value) (d:AV) (M:OL->Prop) (N:Nat) (i3:Nat->AV):Prop:=
 ∀ H σ,(xv,d)∈H->M σ.objs->W B n L (pyIter xv) H σ λr y σ'=>∃ (a:Addr) (K:Nat->Obj->Prop),r=.ref a/\σ'=⟨σ.loc,(a,.is (K 0))::σ.objs⟩/\sY B n xv d M N i3 a K
theorem oQ.toM {B:cX} {n:Nat} {xv:Value} {d:AV} {N:Nat} {i3:Nat->AV} {a:Addr} {K:Nat->Obj->Prop} (h:oQ B n xv d N i3 a K):sY B n xv d (λy=>True) N i3 a K:=by
 obtain⟨next,stop,self,hq⟩:=h;exact⟨λL i l8 oe H hi hm y=>next L i l8 oe H hi hm,λL l8 oe H hm y=>stop L l8 oe H hm,self,hq⟩
theorem fb.toM {B:cX} {n:Nat} {L:Addr} {xv:Value} {d:AV} {N:Nat} {i3:Nat->AV} (h:fb B n L xv d N i3):qO B n L xv d (λy=>True) N i3:=λH σ hm y=>pY (h H σ hm) λ_ _ _ ⟨a,K,e1,e2,it⟩=>⟨a,K,e1,e2,it.toM⟩
theorem z8 {M:OL->Prop} {ee t6 i4:Expr} {i5:cI} {se:Scope} {pn:Pos} {cl:List (Str×Addr)} {N:Nat} {i3:Nat->AV} {K:Nat->Obj->Prop} {xv:Value} {d:AV} {J:Nat->cG->OL->Prop}
 {l8 :LL} {A:Around} {R:Addr->Result->Shared->Prop} {E:Value->Shared->Prop} (hA:gk n A) (hx:xs.Nodup) (hm:(xv,d)∈H)
 (X : Holds B.P B.G L F H ⟨l8,(D,.list [])::(a,.is (K 0))::oe⟩ s.heap) (it:sY B n xv d M N i3 a K) (hM:∀ i ys o D,J i ys o->M ((D,AO.list ys)::o))
 (h0 :J 0 [] oe) (step:∀ i,i < N->lS B n t6 ee i5 (λC=>compEnvC se cl C e9) H xs (i3 i) (J i) (J (i+1)))
 (aj :∀ y∈se.names,y.2≠.cell) (aB:se.kind=.function)
 (hR :∀ C s7,s.heap.get? C=none->Fp B L H (L::dg ((D,AO.list [])::(a,AO.is (K 0))::oe)) F s l8 D (J N) C s7->R C (.ok .next) s7):
 wpAny B.M A (newFunctionEnv se e9.globals cl [] e9.qual none .none (some e9)) (λc9 s8=>
  codeAny B.M A (.compStart (.ListComp ee [⟨t6,i4,i5,0⟩] se pn) 0 (.ref a) (.ref D) { c9 with scope:=relabel se e9 }) (R c9.locals) s8) E s:=by
 obtain⟨next,stop,self,hq⟩:=it;refine wpAny_newFunctionEnv aj (λx hy=>nomatch hy) (λh6 h8 h9=>?_) aB
 have hC:=eI s.heap
 generalize hCe:s.heap.objs.size=C at*
 have up:∀ b o,s.heap.get? b=some o->h6.get? b=some o:=λb o e=>h9.extBut b o (λz=>by rw[z,hC]at e;contradiction) (bc _ e)
 have big:B.G.objs.size<=C:=hCe▸X.big
 have X0:Holds B.P B.G C F H ⟨bare xs,(D,.list [])::(a,.is (K 0))::oe⟩ h6:=X.call.enter hC big up ⟨_,h8,λy d h=>(jh h).elim⟩ (by rw[iw];exact hx) X.held
 show codeAny B.M A (.compStart (.ListComp ee [⟨t6,i4,i5,0⟩] se pn) 0 (.ref a) (.ref D) (compEnvC se cl C e9)) (R C) { s with heap:=h6,toks:=s.toks+([]:cS).length }
 have hR:=hR C
 generalize R C=R at*
 obtain⟨s0,es⟩:∃ s0:Shared,s0={ s with heap:=h6,toks:=s.toks+([]:cS).length }:=⟨_,rfl⟩
 have eh:s0.heap=h6:=cB Shared.heap es
 have eg:s0.gens=s.gens:=by rw[es]
 have eo:s0.os=s.os:=by rw[es]
 refine es▸?_
 clear es;subst eh;have loop:∀ k s',FH B C H (C::dg ((D,AO.list [])::(a,AO.is (K 0))::oe)) F s0 xs a D K N J k s'->codeAny B.M A (.compLoop (.ListComp ee [⟨t6,i4,i5,0⟩] se pn) 0 (.ref a) (.ref D) (compEnvC se cl C e9)) R s':=λk s' hI=>by
  refine M1 _ (λk s6 hI=>?_) k hI
  obtain⟨i,F1,ys,o6,e,hi,j,x1,p6⟩:=hI
  by_cases hN:i=N
  . subst hN
    refine(stop C _ _ _ hm (hM _ _ _ _ j)).then hA x1 λr s5 F2 a3 x2 p7 z=>?_
    obtain⟨rfl,rfl⟩:=z;have nC:C∉dg ((D,AO.list ys)::o6):=(bU.mp x2.nodup).1
    obtain⟨y,py⟩:=X.back x2.call (eu.leave (s:=s) (p6.trans p7) hC up (.of eg) eo nC)
    refine dQ (x2.loc) ?_;rintro m aS x
    exact hR _ hC ⟨ys,o6,F2,m,aS,j,y,py,λhm=>(fD hm).elim (λz=>by obtain⟨o,ho⟩:=X.there C (z▸.head _);rw[hC]at ho;contradiction) nC,x2.apart _ dH⟩
  . have au:i < N:=Nat.lt_of_le_of_ne hi hN
    refine(next C i _ _ _ au hm (hM _ _ _ _ j)).then hA x1 λr s5 F2 a3 x2 p7 z=>?_
    refine kW (z) ?_;clear z;rintro v rfl hv rfl
    refine dQ (x2.objs _ dH) ?_;rintro o9 hW hY
    refine nv hW (hq _ _ hY) ?_
    refine(vP vk (step i au C ys o6 D a (K (i+1)) v j)).then hA (x2.push hv) λx s8 F3 a4 x3 p8 w=>?_
    refine w.then hA (x3.weaken λx hp=>.tail _ hp) λok s7 F4 a5 x4 p9 z=>?_
    have pp:=p6.trans (p7.trans (p8.trans p9))
    induction ok using Bool.casesOn with
    | false=>
     refine iM (z.2 rfl) ?_;rintro l9 o5 rfl j'
     exact⟨N - (i+1),e▸Nat.sub_succ_lt_self _ _ au,i+1,F4,ys,o5,rfl,au,j',(x4.forget hx).drop gm,pp.trans (eu.less gm)⟩
    | true=>
     refine(z.1 rfl).then hA x4 λy sa F6 a8 x6 pf z=>?_
     refine dQ (z) ?_;clear z;intro e' he z9;refine jJ z9 ?_;clear z9;rintro l9 o5 rfl hz j'
     refine(lQ (v6:=.ref D) (v:=y) (d:=e') (H:=(y,e')::(.ref D,.ref D)::H) (Φ:=λx x σ'=>σ'=⟨l9,(D,.list (ys++[e']))::(a,.is (K (i+1)))::o5⟩) iL dH .head (Nat.le_succ_of_le hz) rfl).then hA ((x6.push (.ref D)).push he) λx sd F7 ag xa pj z=>?_
     refine dQ (z) ?_;clear z;rintro x x rfl
     exact⟨N - (i+1),e▸Nat.sub_succ_lt_self _ _ au,i+1,F7,ys++[e'],o5,rfl,au,j',((xa.weaken λx hp=>.tail _ (.tail _ hp)).forget hx).drop gm,pp.trans (pf.trans (pj.trans (eu.less gm)))⟩
 have begin_:FH B C H (C::dg ((D,AO.list [])::(a,AO.is (K 0))::oe)) F s0 xs a D K N J N s0:=⟨0,F,[],oe,rfl,cr _,h0,X0.drop gm,eu.less gm⟩
 refine codeAny_compStart_list (loop _ _ begin_) ?_
 refine(vP gm (self C (bare xs) ((D,.list [])::oe) H)).then hA X0 λr s' F1 a2 x1 p6 z=>?_
 obtain⟨rfl,rfl⟩:=z;exact loop N s' ⟨0,F1,[],oe,rfl,cr _,h0,x1,p6⟩
end
end
section
variable {ee t6 i4:Expr} {i5:cI} {se:Scope} {pn:Pos} {cl:List (Str×Addr)}
section
variable {B:cX} {n:Nat} {L:Addr} {H:HL} {σ:St} {e9:Env}
inductive jk (B:cX) (n:Nat) (L:Addr) (H:HL) (t6 ee:Expr) (i5:cI) (c9:Addr->Env) (xs:cL) (J:Nat->cG->OL->Prop) (Q:Addr->St->Prop) (xv:Value) (d:AV) (a1:St):Prop
 | mk (N:Nat) (i3:Nat->AV) (it:fb B n L xv d N i3) (j0:J 0 [] a1.objs) (step:∀ i,i < N->lS B n t6 ee i5 c9 ((xv,d)::H) xs (i3 i) (J i) (J (i+1))) (fin:∀ ys oe D,J N ys oe->Q D ⟨a1.loc,(D,.list ys)::oe⟩)
inductive oJ (M:OL->Prop) (B:cX) (n:Nat) (L:Addr) (H:HL) (t6 ee:Expr) (i5:cI) (c9:Addr->Env) (xs:cL) (J:Nat->cG->OL->Prop) (Q:Addr->St->Prop) (xv:Value) (d:AV) (a1:St):Prop
 | mk (N:Nat) (i3:Nat->AV) (it:qO B n L xv d M N i3) (hM:∀ i ys o D,J i ys o->M ((D,AO.list ys)::o)) (hM0:M a1.objs) (j0:J 0 [] a1.objs) (step:∀ i,i < N->lS B n t6 ee i5 c9 ((xv,d)::H) xs (i3 i) (J i) (J (i+1))) (fin:∀ ys oe D,J N ys oe->Q D ⟨a1.loc,(D,.list ys)::oe⟩)
theorem tJ {ps:Pos} {use:Option (Value->Sem Unit)} {P:Addr->St->Prop} {A:Around} {F:Fz} {s:Shared} {E:Value->Shared->Prop} {Q:Value->Shared->Prop} (xs:cL)
 (h:WV B n L (eval i4 e9) H σ λv d a1=>∃ J M,oJ M B n L H t6 ee i5 (λC=>compEnvC se cl C e9) xs J P v d a1) (hA:gk n A) (X:Holds B.P B.G L F H σ s.heap)
 (k:∀ D C s7 F' ys oe l8 m O1 F2 s5,eu (L::dg σ.objs) F s O1 F2 s5->s5.heap.get? C=none->Holds B.P B.G L F' H ⟨l8,(D,.list ys)::oe⟩ s7.heap->eu O1 F2 s5 (L::dg ((D,AO.list ys)::oe)) F' s7->s7.heap.Ns C m->C∉L::dg ((D,AO.list ys)::oe)->F' C=none->P D ⟨l8,(D,.list ys)::oe⟩->compPost B.M A E use Q (.ref D) C (.ok .next) s7)
 (aD:closureFor se e9=pure cl) (hx:xs.Nodup) (aj:∀ y∈se.names,y.2≠.cell) (aB:se.kind=.function) (aw:∀ y∈se.names,y.2=.local->se.names.lookup y.1=some .local)
 (hs:∀ x,foldedSetIterable i4 e9 x=pure x):wpAny B.M A (comprehension (.ListComp ee [⟨t6,i4,i5,0⟩] se pn) se e9 ps (newList []) false (eval i4 e9) use) Q E s:=by
 refine wpAny_comprehension_free rfl hs aD aB aw (h.then hA X λxv s0 F0 a1 x0 p0 z=>?_)
 refine dQ (z) ?_;clear z;rintro d hd ⟨J,M,N,i3,it,hM,hM0,j0,step,fin⟩
 refine(it _ a1 dH hM0).then hA (x0.push hd) λr s6 F1 a2 x1 p6 z=>?_
 refine jJ (z) ?_;clear z;rintro a K rfl rfl it
 refine wpAny_newObj_type ?_
 have T:di B L ((xv,d)::H) ⟨a1.loc,(a,.is (K 0))::a1.objs⟩ F1 s6 { s6 with heap:=s6.heap.push (dU [] 0) } (λF' σ'=>F'=F1/\σ'=⟨a1.loc,(s6.heap.objs.size,.list [])::(a,.is (K 0))::a1.objs⟩):=
  di.track (o:=.list []) x1 (λb y e=>bc _ e) (λb hb=>by refine(bq.mp hb)▸?_;exact eI _) (by simp[AO.more]) ⟨[],0,bm _ rfl,.nil⟩ rfl rfl ⟨rfl,rfl⟩
 obtain⟨F2,a3,x2,p7,rfl,rfl⟩:=T;have up:=p0.trans (p6.trans p7)
 refine z8 (R:=λC=>compPost B.M A E use Q (.ref s6.heap.objs.size) C) hA hx dH x2 it hM j0 step aj aB λC s7 hC z=>?_
 obtain⟨ys,o5,F4,m,aJ,j,x4,p9,nC,hF⟩:=z;exact k _ C s7 F4 ys o5 _ m _ _ _ up hC (x4.weaken λw hp=>.tail _ hp) p9 aJ nC hF (fin ys o5 _ j)
theorem jk.toM {c9:Addr->Env} {xs:cL} {J:Nat->cG->OL->Prop} {Q:Addr->St->Prop} {xv:Value} {d:AV} {a1:St} (h:jk B n L H t6 ee i5 c9 xs J Q xv d a1):∃ J M,oJ M B n L H t6 ee i5 c9 xs J Q xv d a1:=by
 obtain⟨N,i3,it,j0,step,fin⟩:=h;exact⟨J,_,N,i3,it.toM,λy y y y y=>trivial,trivial,j0,step,fin⟩
theorem A4 {Φ:PV} (xs:cL) (J:Nat->cG->OL->Prop)
 (h:WV B n L (eval i4 e9) H σ (jk B n L H t6 ee i5 (λC=>compEnvC se cl C e9) xs J λD=>Φ (.ref D) (.ref D)))
 (aD:closureFor se e9=pure cl) (hx:autoParam (xs.Nodup) bD)
 (aj:autoParam (∀ y∈se.names,y.2≠.cell) bD) (aB:autoParam (se.kind=.function) bR) (aw:autoParam (∀ y∈se.names,y.2=.local->se.names.lookup y.1=some .local) bD)
 (hs:autoParam (∀ x,foldedSetIterable i4 e9 x=pure x) bI):
 WV B n L (eval (.ListComp ee [⟨t6,i4,i5,0⟩] se pn) e9) H σ Φ:=oX λA F s Q hA X fq=>by
 rw[eval_ListComp];exact tJ (use:=none) xs (dh h λw w w z=>z.toM) hA X (λD C s7 F' ys oe l8 m O1 F2 s5 p hC x p9 aJ nC hF q=>⟨m,aJ,λh' aQ=>fq _ _ ⟨F',_,x.besides hF nC λb o hb e=>(aQ.2 b hb).trans e,p.trans (p9.rest hC aQ.2),_,.ref _,q⟩⟩) aD hx aj aB aw hs
theorem qE {p pz:Pos} {x:Str} {Φ:PF} (xs:cL)
 (h:WV B n L (eval i4 e9) H σ λv d σ'=>∃ J,jk B n L H t6 ee i5 (λC=>compEnvC se cl C e9) xs J (λD a1=>WU B n L (storeName e9 x (.ref D)) ((.ref D,.ref D)::H) a1 λa2=>Φ .next a2) v d σ')
 (hsw:swapsWith (.ListComp ee [⟨t6,i4,i5,0⟩] se pn) (some (.Name x p)) pz.line e9=pure true)
 (aD:closureFor se e9=pure cl) (hx:autoParam (xs.Nodup) bD)
 (aj:autoParam (∀ y∈se.names,y.2≠.cell) bD) (aB:autoParam (se.kind=.function) bR) (aw:autoParam (∀ y∈se.names,y.2=.local->se.names.lookup y.1=some .local) bD)
 (hs:autoParam (∀ x,foldedSetIterable i4 e9 x=pure x) bI):
 WF B n L (exec (.Assign [.Name x p] (.ListComp ee [⟨t6,i4,i5,0⟩] se pn) pz) e9) H σ Φ:=oX λA F s Q hA X fq=>by
 rw[exec_Assign_Name_used _ _ _ _ hsw];refine cw (wpAny_standAt (cw (cw (tJ (ps:=firstIterPos [⟨t6,i4,i5,0⟩] pn) (use:=some (assign (.Name x p) e9)) xs (dh h λ_ _ _ ⟨_,z⟩=>z.toM) hA X (λD C s7 F' ys oe l8 m O1 F2 s5 ph hC x p9 aJ nC hF q=>?_) aD hx aj aB aw hs))))
 refine(sU (p:=p) q).then hA (x.push (.ref D)) λu sa F6 a8 x6 pf q=>?_
 refine Ry (aJ) ?_;clear aJ;rintro oC es ep e1 r
 refine⟨m,⟨oC,es,ep,pf.keep C _ nC e1,r⟩,λh' aQ=>cy (cy (fq _ _ ⟨F6,a8,(x6.weaken λu hp=>.tail _ hp).besides ?_ (λhm=>(pf.own _ hm).elim nC λz=>nomatch z.symm.trans e1) λb o hb e=>(aQ.2 b hb).trans e,ph.trans ((p9.trans pf).rest hC aQ.2),.next,trivial,q⟩))⟩
 exact aZ.mpr λo w=>(pf.frz _ _ w).elim (λz=>nomatch z.symm.trans hF) λz=>z.elim nC λz=>nomatch z.symm.trans e1
theorem sW {p pz:Pos} {x:Str} {Φ:PF} (xs:cL) (J:Nat->cG->OL->Prop)
 (h:WV B n L (eval i4 e9) H σ (jk B n L H t6 ee i5 (λC=>compEnvC se cl C e9) xs J λD a1=>WU B n L (storeName e9 x (.ref D)) ((.ref D,.ref D)::H) a1 λa2=>Φ .next a2))
 (hsw:swapsWith (.ListComp ee [⟨t6,i4,i5,0⟩] se pn) (some (.Name x p)) pz.line e9=pure true)
 (aD:closureFor se e9=pure cl) (hx:autoParam (xs.Nodup) bD)
 (aj:autoParam (∀ y∈se.names,y.2≠.cell) bD) (aB:autoParam (se.kind=.function) bR) (aw:autoParam (∀ y∈se.names,y.2=.local->se.names.lookup y.1=some .local) bD)
 (hs:autoParam (∀ x,foldedSetIterable i4 e9 x=pure x) bI):
 WF B n L (exec (.Assign [.Name x p] (.ListComp ee [⟨t6,i4,i5,0⟩] se pn) pz) e9) H σ Φ:=qE xs (dh h λw w w z=>⟨J,z⟩) hsw aD hx aj aB aw hs
end
end
section
variable {ps:cL} {fd:FuncData} {p1 p2:Str} {d1 d2:AV}
noncomputable def eP:cL->cG->LL
 | x::xs,d::ds=>(x,some d)::eP xs ds
 | _,_=>[]
theorem kG:∀ {ds:cG},ps.length=ds.length->(eP ps ds).map (·.1)=ps:=by
 induction ps with
 | nil=>intro ds h;cases ds with | nil=>rfl | cons=>contradiction
 | cons p ps ih=>intro ds h;cases ds with | nil=>cases h | cons d ds=>exact cB (p::·) (ih (Nat.succ.inj h))
theorem lJ {x:Str} {v:Value}:∀ {l:cS},(l.map (·.1)).Nodup->(x,v)∈l->l.reverse.lookup x=some v
 | (y,w)::r,n,h=>by
  rw[cf,bU]at n
  rw[List.reverse_cons,List.lookup_append]
  cases h with
  | head=>
   have:r.reverse.lookup x=none:=by
    rw[List.lookup_eq_none_iff];intro p hp;refine bne_iff_ne.mpr λe=>n.1 ?_
    exact cg.mpr ⟨p,List.mem_reverse.mp hp,e.symm⟩
   rw[this];simp
  | tail _ h=>rw[lJ n.2 h];rfl
theorem ri {P:Params} {F:Fz} {x:Str} {d:AV}:∀ {v8:cJ} {ds:cG},IsAll P F v8 ds->(x,some d)∈eP ps ds->∃ v,(x,v)∈ps.zip v8/\Is P F v d:=by
 induction ps with
 | nil=>intro v8 ds y m;rcases ds with _ | _<;>contradiction
 | cons p ps ih=>
  intro v8 ds h m
  induction ds using List.casesOn with
  | nil=>contradiction
  | cons d0 ds0=>
   refine jJ (iq h) ?_;clear h;rintro v0 vs0 rfl h r
   have m:(x,some d)∈(p,some d0)::eP ps ds0:=m
   rcases fD m with e | m
   . rw[(Prod.mk.inj e).1,Option.some.inj (Prod.mk.inj e).2];exact⟨_,.head _,h⟩
   . refine dQ (ih r m) ?_;rintro v a b;exact⟨v,.tail _ a,b⟩
theorem mc:∀ {v8:cJ},((ps.zip v8).map (·.1)).Sublist ps:=by
 induction ps with
 | nil=>intro v8;rcases v8 with _ | _<;>exact .slnil
 | cons p r ih=>
  intro v8
  induction v8 using List.casesOn with
  | nil=>exact List.nil_sublist _
  | cons v vs=>exact(ih (v8:=vs)).cons_cons p
section
variable {B:cX} {n:Nat} {oe:OL}
def fE (B:cX) (fd:FuncData) (ps:cL) (ah ds:cG):Prop:=
 ∀ (F:Fz) (s:Shared) (vs:cJ),IsAll B.P F vs ah->B.K.In s.heap->(∀ b o,B.G.get? b=some o->F b=some o)->∃ v8,IsAll B.P F v8 ds/\BindsTo s fd ⟨vs,[]⟩ (ps.zip v8)
theorem fE.one (h:∀ v1,bindArgs fd ⟨[v1],[]⟩=pure [(p1,v1)]):fE B fd [p1] [d1] [d1]:=λF s vs hv y y=>by
 obtain⟨v1,rfl,q1⟩:=ES hv;exact⟨_,.cons q1 .nil,.of_eq (h _)⟩
theorem fE.two (h:∀ v1 v2,bindArgs fd ⟨[v1,v2],[]⟩=pure [(p1,v1),(p2,v2)]):fE B fd [p1,p2] [d1,d2] [d1,d2]:=λF s vs hv y y=>by
 obtain⟨v1,v2,rfl,q1,q2⟩:=Cg hv;exact⟨_,.cons q1 (.cons q2 .nil),.of_eq (h _ _)⟩
theorem fE.three {p3:Str} {d3:AV} (h:∀ v1 v2 v3,bindArgs fd ⟨[v1,v2,v3],[]⟩=pure [(p1,v1),(p2,v2),(p3,v3)]):fE B fd [p1,p2,p3] [d1,d2,d3] [d1,d2,d3]:=λF s vs hv y y=>by
 obtain⟨v1,v2,v3,rfl,q1,q2,q3⟩:=IQ hv;exact⟨_,.cons q1 (.cons q2 (.cons q3 .nil)),.of_eq (h _ _ _)⟩
theorem fE.dflt {T:Addr} {o:Obj} {w:Value} {m:Nat} {k:Value->Option (Array Value)->Sem (cS)} (hd:fd.defaults=.ref T) (ho:B.K.lookup T=some o) (hs:o.data=.seq #[w] m)
 (h6:∀ v1,bindArgs fd ⟨[v1],[]⟩=seqItems? fd.defaults >>= k v1) (hG:∀ v1,k v1 (some #[w])=pure [(p1,v1),(p2,w)]) (c:eF B w d2):fE B fd [p1,p2] [d1] [d1,d2]:=λF s vs hv X core=>by
 obtain⟨v1,rfl,q1⟩:=ES hv;exact⟨_,.cons q1 (.cons (c F core) .nil),.of_defaults hd (X _ _ ho) hs (h6 _) (hG _)⟩
theorem fE.dflt3 {p3:Str} {d3:AV} {T:Addr} {o:Obj} {w:Value} {m:Nat} {k:Value->Value->Option (Array Value)->Sem (cS)} (hd:fd.defaults=.ref T) (ho:B.K.lookup T=some o) (hs:o.data=.seq #[w] m)
 (h6:∀ v1 v2,bindArgs fd ⟨[v1,v2],[]⟩=seqItems? fd.defaults >>= k v1 v2) (hG:∀ v1 v2,k v1 v2 (some #[w])=pure [(p1,v1),(p2,v2),(p3,w)]) (c:eF B w d3):fE B fd [p1,p2,p3] [d1,d2] [d1,d2,d3]:=λF s vs hv X core=>by
 obtain⟨v1,v2,rfl,q1,q2⟩:=Cg hv;exact⟨_,.cons q1 (.cons q2 (.cons (c F core) .nil)),.of_defaults hd (X _ _ ho) hs (h6 _ _) (hG _ _)⟩
theorem Q4 {n5 qc:Str} {pt:Arguments} {b0:cH} {se:Scope} {dV kV d8 pm c6 ct oc:Value} {an od:Option Addr} {ol:cT} {f:Addr} {ah ds:cG} {Φ:AV->OL->Prop} {l8:LL} (ps xs:cL)
 (ho :B.K.lookup f=some ⟨oc,od,.func (fnOf n5 qc pt b0 se dV kV d8 pm an c6 ct),ol⟩) (aP:codeIn B.K c6 qc=true)
 (hb :fE B (fnOf n5 qc pt b0 se dV kV d8 pm an c6 ct) ps ah ds) (h:∀ L,WF B n L (execs b0 (envOf qc se L f c6)) [] ⟨l8,oe⟩ (rg Φ))
 (aE :eP ps ds++bare xs=l8:=by simp only[eP,bare,cf,List.map_nil,bO,List.nil_append];rfl) (hl:autoParam (ps.length=ds.length) bR) (hn:autoParam ((ps++xs).Nodup) bD) (aR:autoParam (ps.all (λy=>se.names.lookup y==some .local)=true) bR)
 (aH :autoParam (se.isCoroutine=false) bR) (aC:autoParam (se.isGenerator=false) bR) (hk:autoParam (se.kind=.function) bR) (aj:autoParam (∀ x∈se.names,x.2≠.cell) bD):cY B (n+1) f ah oe Φ:=by
 subst aE;refine LH (l8:=eP ps ds++bare xs) ho aP (λF s vs hvs X core=>?_) (by rw[bV,kG hl,iw];exact hn) h aH aC hk aj
 refine dQ (hb F s vs hvs X core) ?_;rintro v8 hv aG
 have sub:((ps.zip v8).map (·.1)).Nodup:=(mc).nodup (bx.mp hn).1
 refine⟨_,aG,λy hy=>?_,λy d hy=>?_⟩
 . exact beq_iff_eq.mp (List.all_eq_true.mp aR y.1 (mc.subset (List.mem_map_of_mem hy)))
 . rcases bT.mp hy with hy | hy
   . refine dQ (ri hv hy) ?_;rintro v hv q
     exact⟨v,lJ sub hv,q⟩
   . exact(jh hy).elim
end
end
section
variable {Φ:PV} {x y:Expr} {r8:cI}
theorem E3 (a b:Int):PyData.eqv (.int a) (.int b)=decide (a=b):=by
 first | rfl | (simp[PyData.eqv];done) | (unfold PyData.eqv;simp)
section
variable {B:cX} {n:Nat} {L:Addr} {H:HL} {σ:St} {e9:Env}
noncomputable def qp:cG->Option (List Int)
 | []=>some []
 | .int i::r=>(qp r).map (i::·)
 | _=>none
theorem ti {l:cG}:∀ {ks:List Int},qp l=some ks->dataAll l=some (ks.map .int):=by
 induction l with
 | nil=>intro ks e;obtain rfl:=Option.some.inj e;rfl
 | cons d r ih=>
  intro ks e
  rcases d with _ | _<;>try contradiction
  refine dQ (bb.mp e) ?_;rintro m e1 rfl
  show(dataAll r).map (PyData.int _::·)= _
  refine(ih e1)▸?_;rfl
theorem tW:∀ ks:List Int,PyData.canLayAll0 (ks.map .int)=true
 | []=>rfl
 | k::r=>by simp only[cf,PyData.canLayAll0,PyData.canLay0,tW r,Bool.and_true]
theorem tw (i:Int):∀ ks:List Int,((ks.map PyData.int).any λy=>PyData.eqv y (.int i))=decide (i∈ks)
 | []=>(bS (nomatch ·)).symm
 | k::r=>by
  rw[cf,List.any_cons,tw i r,E3,Bool.eq_iff_iff,Bool.or_eq_true,decide_eq_true_iff,decide_eq_true_iff,decide_eq_true_iff,List.mem_cons];exact⟨λh=>h.imp_left Eq.symm,λh=>h.imp_left Eq.symm⟩
theorem OB {a b:Value} {i:Int} {l:cG} {ks:List Int} (ma:(a,.int i)∈H) (mb:(b,.tup l)∈H) (e:qp l=some ks) (h:∀ v,Φ v (.bool (decide (i∈ks))) σ):WV B n L (compareOp .In a b) H σ Φ:=
 Ca ma mb rfl (ti e) rfl (tW ks) (by simp[PyData.depth]) (tw i ks) h
theorem vr {l m r:Expr} {op oi pn}
 (h :WV B n L (eval l e9) H σ λa x a1=>WV B n L (eval m e9) ((a,x)::H) a1 λb y a2=>WV B n L (compareOp op a b) ((b,y)::(a,x)::H) a2 λu z a3=>∃ c,z=.bool c/\(c=false->∀ v,Φ v (.bool false) a3)/\
  (c=true->WV B n L (eval r e9) ((b,y)::(a,x)::H) a3 λd w a4=>WV B n L (compareOp oi b d) ((d,w)::(b,y)::(a,x)::H) a4 Φ))
 (hm:autoParam (markedEach [op,oi] [m,r] (evalEach [m,r] e9)=[eval m e9,eval r e9]) bW):WV B n L (eval (.Compare l [op,oi] [m,r] pn) e9) H σ Φ:=by
 rw[arm_eval_Compare,hm];refine dm (dh h λa x a1 w=>?_)
 show W B n L (do
  let rv <-holding [a] (eval m e9)
  standAt pn
  let c <-holding [a,rv] (compareOp op a rv)
  release [a,rv] [c]
  if <-holding [c,rv] (truthy c) then compareChain pn rv [oi] [eval r e9] else pure c) ((a,x)::H) a1 _
 refine dm (dc (dh w λb y a2 w=>dr (dm (dc (dh w λc z a3 ⟨k,e,q0,q1⟩=>?_)))))
 subst e;refine rp (gx (dc (lK dH ?_)))
 induction k using Bool.casesOn with
 | false=>exact wB dH (q0 rfl _)
 | true=>
  refine oq ?_
  show W B n L (do
   let rv <-holding [b] (eval r e9)
   standAt pn
   operate [b,rv] (compareOp oi b rv)) _ _ _
  exact dm (dc (dh (q1 rfl) λd w a4 w=>dr (gu w)))
theorem yW {l m r:Expr} {op oi pn}
 (h:WV B n L (eval l e9) H σ λa x a1=>WV B n L (eval m e9) ((a,x)::H) a1 λb y a2=>WV B n L (compareOp op a b) ((b,y)::(a,x)::H) a2 λu z a3=>∃ c c',z=.bool c/\
  WV B n L (eval r e9) ((b,y)::(a,x)::H) a3 (λd w a4=>WV B n L (compareOp oi b d) ((d,w)::(b,y)::(a,x)::H) a4 λu z a5=>z=.bool c'/\a5=a3)/\∀ v,Φ v (.bool (c&&c')) a3)
 (hm:autoParam (markedEach [op,oi] [m,r] (evalEach [m,r] e9)=[eval m e9,eval r e9]) bW):WV B n L (eval (.Compare l [op,oi] [m,r] pn) e9) H σ Φ:=
 vr (dh h λa x a1 w=>dh w λb y a2 w=>dh w λ_ z a3 ⟨c,c',e,w,q⟩=>⟨c,e,λhc v=>by subst hc;exact q v,λhc=>by
  subst hc;exact dh w λd w a4 q8=>dh q8 λv z a5 ⟨e,e'⟩=>by subst e e';exact q v⟩) hm
theorem rI {op:BoolOp} {v9:cI} {pn} (h:WV B n L (boolOp pn op (evalEach v9 e9)) H σ Φ):WV B n L (eval (.BoolOp op v9 pn) e9) H σ Φ:=h
theorem rS {op:BoolOp} {pn} (h:WV B n L (eval x e9) H σ Φ):WV B n L (boolOp pn op (evalEach [x] e9)) H σ Φ:=h
theorem zH {pn}
 (h:WV B n L (eval x e9) H σ λv d a1=>WB B n L (truthy v) ((v,d)::H) a1 λc a2=>(c=true->Φ v d a2)/\(c=false->WV B n L (boolOp pn .Or (evalEach (y::r8) e9)) H a2 Φ)):
 WV B n L (boolOp pn .Or (evalEach (x::y::r8) e9)) H σ Φ:=by
 show W B n L (do
  let v <-eval x e9
  standAt pn
  let t <-holding [v] (truthy v)
  match BoolOp.Or,t with
  | .And,false | .Or,true=>pure v
  | _,_=>boolOp pn .Or (evalEach (y::r8) e9)) H σ _
 refine dm (dh h λv d a1 w=>dr (gx (dc (gC w λc a2 q=>?_))))
 induction c using Bool.casesOn with
 | false=>exact oq (q.2 rfl)
 | true=>exact wB dH (q.1 rfl)
theorem vf {pn}
 (h:WV B n L (eval x e9) H σ λv d a1=>WB B n L (truthy v) ((v,d)::H) a1 λc a2=>(c=false->Φ v d a2)/\(c=true->WV B n L (boolOp pn .And (evalEach (y::r8) e9)) H a2 Φ)):
 WV B n L (boolOp pn .And (evalEach (x::y::r8) e9)) H σ Φ:=by
 show W B n L (do
  let v <-eval x e9
  standAt pn
  let t <-holding [v] (truthy v)
  match BoolOp.And,t with
  | .And,false | .Or,true=>pure v
  | _,_=>boolOp pn .And (evalEach (y::r8) e9)) H σ _
 refine dm (dh h λv d a1 w=>dr (gx (dc (gC w λc a2 q=>?_))))
 induction c using Bool.casesOn with
 | true=>exact oq (q.2 rfl)
 | false=>exact wB dH (q.1 rfl)
theorem Oo {pn}
 (h:WV B n L (eval x e9) H σ λz d a1=>∃ c,d=.bool c/\(c=true->∀ v,Φ v (.bool true) a1)/\(c=false->WV B n L (boolOp pn .Or (evalEach (y::r8) e9)) H a1 Φ)):
 WV B n L (boolOp pn .Or (evalEach (x::y::r8) e9)) H σ Φ:=
 zH (dh h λv d a1 ⟨c,e,q1,q2⟩=>by
  subst e;exact lK dH ⟨λhc=>by subst hc;exact q1 rfl v,q2⟩)
theorem Ie {pn}
 (h:WV B n L (eval x e9) H σ λz d a1=>∃ c,d=.bool c/\(c=false->∀ v,Φ v (.bool false) a1)/\(c=true->WV B n L (boolOp pn .And (evalEach (y::r8) e9)) H a1 Φ)):
 WV B n L (boolOp pn .And (evalEach (x::y::r8) e9)) H σ Φ:=
 vf (dh h λv d a1 ⟨c,e,q1,q2⟩=>by
  subst e;exact lK dH ⟨λhc=>by subst hc;exact q1 rfl v,q2⟩)
end
end
section
inductive nK (x:Str) (d:AV):FL->FL->Prop
 | hit {e r}:nK x d ((x,e)::r) ((x,d)::r)
 | skip {y e r r'}:(y==x)=false->nK x d r r'->nK x d ((y,e)::r) ((y,e)::r')
 | new:nK x d [] [(x,d)]
theorem nK.eq {x:Str} {d:AV} {l l':FL} (h:nK x d l l'):fT x d l=l':=by
 induction h with
 | hit=>rw[fR];rw[cE (bM _)]
 | skip h _ ih=>rw[fR];rw[cC (by rw[h];exact bw),ih]
 | new=>rfl
inductive yM (x:Str) (d:AV):FL->Prop
 | hit {r}:yM x d ((x,d)::r)
 | skip {y e r}:(y==x)=false->yM x d r->yM x d ((y,e)::r)
theorem yM.eq {x:Str} {d:AV} {l:FL} (h:yM x d l):ew x l=some d:=by
 induction h with
 | hit=>exact ip _ _ _
 | skip h _ ih=>exact(fZ _ _ (by refine h▸?_;exact bw)).trans ih
section
variable {B:cX} {n:Nat} {L:Addr} {H:HL} {σ:St} {e9:Env}
def j6 (B:cX) (n:Nat) (L:Addr) (r8:cH) (e9:Env) (H:HL) (Φ:PF):PF
 | .next,σ=>WF B n L (execs r8 e9) H σ Φ
 | .brk,σ=>Φ .brk σ
 | .cont,σ=>Φ .cont σ
 | .ret d,σ=>Φ (.ret d) σ
theorem gY {st:Stmt} {r8:cH} {Φ:PF} (h:WF B n L (exec st e9) H σ (j6 B n L r8 e9 H Φ)):WF B n L (execs (st::r8) e9) H σ Φ:=
 Hk (sK h λf σ q=>by rcases f with _ | _<;>exact q)
theorem pX {x:Str} {v:Value} {d:AV} {l8 l9:LL} {oe:OL} {Φ:St->Prop} (md:(v,d)∈H) (m:jV x d l8 l9) (h:Φ ⟨l9,oe⟩) (hl:autoParam (e9.kindOf x=some .local) bK)
 (hL:autoParam (e9.locals=L) bR) (hp:autoParam ((e9.scope.kind==.class||(e9.scope.kind==.module&&e9.locals !=e9.globals))=false) bR):WU B n L (storeName e9 x v) H ⟨l8,oe⟩ Φ:=CU (σ:=⟨l8,oe⟩) md m h hl hL hp
theorem OD {x:Addr} {C dx:Addr} {fs fs':FL} {n5:Str} {v6 v:Value} {d:AV} {l8:LL} {oe o5:OL} {Φ:St->Prop} (mv:(v6,.ref x)∈H) (md:(v,d)∈H) (mx:(x,AO.inst C dx fs)∈oe) (hp:nK n5 d fs fs')
 (m:oB x (.inst C dx fs) (.inst C dx fs') oe o5) (ho:j9 B.K C n5=true) (hz:fs.length<=900:=by simp) (h:Φ ⟨l8,o5⟩):WU B n L (setAttr v6 n5 v) H ⟨l8,oe⟩ Φ:=by
 obtain rfl:=hp.eq
 exact FY (σ:=⟨l8,oe⟩) mv md m ho hz h
theorem nW {m:Nat} {f:Addr} {vs:cJ} {ds:cG} {l8:LL} {oe:OL} {Φ:PV} {a6:AV->OL->Prop} (c:cY B m f ds oe a6) (hm:m<=n) (e:vs.length=ds.length) (k:∀ p∈vs.zip ds,p∈H)
 (h:∀ d o5,a6 d o5->∀ v,Φ v d ⟨l8,o5⟩):WV B n L (call (.ref f) vs) H ⟨l8,oe⟩ Φ:=DP (σ:=⟨l8,oe⟩) e k ((c.room hm).mono λd o q v=>h d o q v)
end
noncomputable def sg (s:String):cF:=(Str.ofString s).cps.toList
theorem qr (s:String):Str.ofString s=S (sg s):=by unfold sg S;cases Str.ofString s;rfl
theorem su:Str.ofString ""=S []:=by kernel_rfl
def Go {α:Type} (_:α) (p:Prop):Prop:=p
def S9 {α:Type} (_:α) (p:Prop):Prop:=p
def Rs {α:Type} (_:α) (p:Prop):Prop:=p
noncomputable def iY:cL->Bool
 | []=>true
 | x::r=>r.all (λy=> !(y==x))&&iY r
theorem fQ:∀ {l:cL},iY l=true->l.Nodup
 | [],_=>List.nodup_nil
 | x::r,h=>by
  simp only[iY,Bool.and_eq_true,List.all_eq_true,Bool.not_eq_true',beq_eq_false_iff_ne]at h
  exact bU.mpr ⟨λm=>h.1 x m rfl,fQ h.2⟩
def Br (b:Bool) (p q:Prop):Prop:=(b=true->p)/\(b=false->q)
section
variable {B:cX} {n:Nat} {L:Addr} {H:HL} {σ:St} {e9:Env}
theorem Cs {oe:OL} {n5 qc:Str} {pt:Arguments} {b0 b3:cH} {se si:Scope} {dV kV d8 pm c6 ct oc:Value} {an od:Option Addr} {ol:cT} {f:Addr} {ah ds:cG} {Φ:AV->OL->Prop} {l8:LL} (ps xs:cL)
 (ho:B.K.lookup f=some ⟨oc,od,.func (fnOf n5 qc pt b0 se dV kV d8 pm an c6 ct),ol⟩) (aP:codeIn B.K c6 qc=true)
 (hb:fE B (fnOf n5 qc pt b0 se dV kV d8 pm an c6 ct) ps ah ds) (h:∀ L,Rs b3 (WF B n L (execs b3 (envOf qc si L f c6)) [] ⟨l8,oe⟩ (rg Φ)))
 (eb:autoParam (b0=b3) bC) (es:autoParam (se=si) bC)
 (aE:eP ps ds++bare xs=l8:=by simp only[eP,bare,cf,List.map_nil,bO,List.nil_append]<;>rfl) (hl:autoParam (ps.length=ds.length) bR) (hn:autoParam ((ps++xs).Nodup) bD) (aR:autoParam (ps.all (λy=>si.names.lookup y==some .local)=true) bR)
 (aH:autoParam (si.isCoroutine=false) bR) (aC:autoParam (si.isGenerator=false) bR) (hk:autoParam (si.kind=.function) bR) (aj:autoParam (∀ x∈si.names,x.2≠.cell) bD):cY B (n+1) f ah oe Φ:=by
 subst eb es
 exact Q4 ps xs ho aP hb h aE hl hn aR aH aC hk aj
end
end
section
variable {i:Int} {Φ:PF} {v:Value} {f self:Addr} {l8:LL} {oe:OL} {r8:cH}
noncomputable def pP (K:Frag) (C:Addr) (x:Str):Option Int:=match findIn K (.ref C) x with
 | some (some (.int i t))=>if plainGet K C x&&hasDictIn K C&&(specialIn K (.int i t) "__get__"==some none)&& !(copiedNames.contains x) then some i else none
 | _=>none
noncomputable def gZ (x y z:cF):cF:=(Txt.replace (S x) (S y) (S z)).cps.toList
theorem Ih (x y z:cF):Txt.replace (S x) (S y) (S z)=S (gZ x y z):=by unfold gZ S;cases Txt.replace _ _ _;rfl
section
variable {B:cX} {n:Nat} {L:Addr} {H:HL} {σ:St} {e9:Env}
theorem zN {x:Addr} {C dx:Addr} {fs:FL} {n5:Str} {expr:Bool} {v6:Value} {Φ:PV} (mv:(v6,.ref x)∈H) (m:(x,AO.inst C dx fs)∈σ.objs) (ho:pP B.K C n5=some i)
 (hf :ew n5 fs=none) (h:∀ v,Φ v (.int i) σ):WV B n L (getAttr v6 n5 expr) H σ Φ:=by
 refine d9 λA F s hA X=>?_
 obtain rfl:=dG (X.hold mv)
 obtain⟨h1,es,k,h2,h3⟩:=X.objs _ m;unfold pP at ho
 split at ho
 . rename_i j t e
   split at ho
   . rename_i hc
     obtain rfl:=Option.some.inj ho
     simp only[Bool.and_eq_true,beq_iff_eq,Bool.not_eq_true']at hc
     obtain⟨⟨⟨hg,hh⟩,hs⟩,hcp⟩:=hc;exact get_value X.K (⟨h1,rfl,rfl,h2⟩:InstAt s.heap x (instObj C dx) C (some (dictOf es k))) (plainGet_of hg).1 (findObj_cls hh e hs rfl hcp (by rw[lookIn_dict];exact kR h3 hf)) rfl (.toks X ⟨_,.int _ _,h _⟩)
   . contradiction
 . contradiction
theorem lq:typeLookup (.type "method") "__bool__"=pure none:=by rw[typeLookup_type,builtinLookup_eq_fast];kernel_rfl
theorem m9:typeLookup (.type "method") "__len__"=pure none:=by rw[typeLookup_type,builtinLookup_eq_fast];kernel_rfl
theorem JU {Ψ:Bool->St->Prop} (mv:(v,.meth f self)∈H) (h:Ψ true σ):WB B n L (truthy v) H σ Ψ:=d9 λA F s hA X=>by
 refine dQ (lT (X.hold mv)) ?_;rintro a rfl ha
 have hT:s.TypeIs (.ref a) "method":=⟨_,X.sub _ _ ha,rfl⟩
 unfold truthy
 first
  | refine cw (wpAny_callSpecial?_none (name:=Str.ofString "__bool__") hT lq ?_)
  | refine cw (cy (cw (wpAny_callSpecial?_none (name:=Str.ofString "__bool__") hT lq ?_)))
 first
  | refine cw (wpAny_specialOf (name:=Str.ofString "__len__") hT m9 ?_)
  | refine cw (cy (cw (wpAny_specialOf (name:=Str.ofString "__len__") hT m9 ?_)))
 exact cy (.here X h)
theorem xw {ah:cI} {pn} {Φ:PV} (mv:(v,.meth f self)∈H) (hf:fnIn B.K f=true)
 (h :WL B n L (spliced (backTo pn (starEach ah e9))) H σ λvs ds a1=>WV B n L (call v ([]++vs)) (vs.zip ds++H) a1 Φ)
 (hp:autoParam ((backTo pn (starEach ah e9)).any (·.1)=false) bR):WV B n L (callWith pn v [] (backTo pn (starEach ah e9)) []) H σ Φ:=d9 λA F s hA x=>by
 refine dQ (lT (x.hold mv)) ?_;rintro q rfl hq
 refine callWith_of (P:=MethP B.K q f (.ref self)) (by rw[hp];rfl) (keeps_M hf) (gI hp (cx (h.run A F s hA x) (λvs s0 z=>⟨?_,?_⟩) λu u z=>z))
 . obtain⟨F0,_,x0,p0,_⟩:=z
   exact⟨x0.sub _ _ (p0.mono _ _ hq),x0.K⟩
 . refine z.then λF0 a1 x0 ⟨ds,aL,w⟩=>?_
   exact cx (w.run A F0 s0 hA (x0.add (nQ.zip_is aL))) (λu u y=>y.weaken λu hp=>be _ hp) λu u z=>z
theorem uu {m:Nat} {vs:cJ} {ds:cG} {Φ:PV} {a6:AV->OL->Prop} (mv:(v,.meth f self)∈H) (c:cY B m f (.ref self::ds) oe a6) (hm:m<=n) (e:vs.length=ds.length)
 (k:∀ p∈vs.zip ds,p∈H) (h:∀ d o5,a6 d o5->∀ v,Φ v d ⟨l8,o5⟩):WV B n L (call v vs) H ⟨l8,oe⟩ Φ:=d9 λA F s hA X=>by
 refine dQ (lT (X.hold mv)) ?_;rintro q rfl hq
 refine wpAny_call (method_call (X.sub _ _ hq) (codeAny_mono (c A F s _ (hA.le hm) X.call (.cons (.ref self) (mf X e k))) λr s' z=>?_))
 obtain⟨w,d,o5,F',rfl,hd,y,p,q⟩:=z;obtain⟨x',p'⟩:=X.back y p;exact⟨F',_,x',p',d,hd,h d o5 q w⟩
structure WP {α:Type} (B:cX) (n:Nat) (L:Addr) (t:Sem α) (H:HL) (σ:St) (Ψ:α->Fz->St->Prop):Prop where
 run:∀ A F s,gk n A->0 < s.toks->Holds B.P B.G L F H σ s.heap->wpAny B.M A t (λa s'=>di B L H σ F s s' (Ψ a)) (λy y=>False) s
abbrev IR (B:cX) (n:Nat) (L:Addr) (t:Sem Flow) (H:HL) (σ:St) (Φ:PF):Prop:=
 WP B n L t H σ (λf F' σ'=>∃ e,qe B.P F' f e/\Φ e σ')
def jK (B:cX) (n:Nat) (L:Addr) (r8:cH) (e9:Env) (H:HL) (Φ:PF):PF
 | .next,σ=>IR B n L (execs r8 e9) H σ Φ
 | .brk,σ=>Φ .brk σ
 | .cont,σ=>Φ .cont σ
 | .ret d,σ=>Φ (.ret d) σ
theorem G9 {α:Type} {t:Sem α} {Ψ:α->Fz->St->Prop} (h:W B n L t H σ Ψ):WP B n L t H σ Ψ:=⟨λA F s hA y x=>h.run A F s hA x⟩
theorem kO {A:Around} {e9:Env} {F:Fz} {s s0:Shared} {f:Flow} (hA:gk n A) (ht:0 < s0.toks)
 (z:di B L H σ F s s0 λF' σ'=>∃ e,qe B.P F' f e/\jK B n L r8 e9 H Φ e σ'):
 wpAny B.M A (match f with | .next=>execs r8 e9 | f=>pure f) (λb s6=>di B L H σ F s s6 λF' σ'=>∃ e,qe B.P F' b e/\Φ e σ') (λy y=>False) s0:=by
 refine z.then λF0 a1 x0 ⟨e,he,q⟩=>?_
 cases f with
 | next=>rcases e with _ | _<;>first | exact he.elim | exact q.run A F0 s0 hA ht x0
 | brk=>rcases e with _ | _<;>first | exact he.elim | exact cy (.here x0 ⟨.brk,trivial,q⟩)
 | cont=>rcases e with _ | _<;>first | exact he.elim | exact cy (.here x0 ⟨.cont,trivial,q⟩)
 | ret v=>rcases e with _ | _<;>first | exact he.elim | exact cy (.here x0 ⟨.ret _,he,q⟩)
theorem OH {st:Stmt} (h:WF B n L (exec st e9) H σ (jK B n L r8 e9 H Φ)):IR B n L (execs (st::r8) e9) H σ Φ:=⟨λA F s hA ht x=>by
 rw[execs_cons];refine cw (cx (jw (h.run A F s hA x)) (λf s0 z=>?_) λy y z=>z)
 have:=kO (s0:=s0) hA (tB ht z.1) z.2
 rcases f with _ | _<;>exact this⟩
theorem D5 {kk kp} {o:Expr} {aq:Str} {p pn}
 (h:∀ v,WV B n L (eval o e9) ((v,.int i)::H) σ λov od a2=>WU B n L (setAttr ov aq v) ((ov,od)::(v,.int i)::H) a2 λa3=>jK B n L r8 e9 H Φ .next a3):
 WF B n L (execs (.Assign [.Attribute o aq p] (.Constant (.int i) kk kp) pn::r8) e9) H σ Φ:=d9 λA F s hA x=>by
 rw[execs_cons,plainObj_exec_Assign_Attribute o aq p (.Constant (.int i) kk kp) pn rfl];refine cw (cw (wpAny_standAt (cw (wpAny_Constant_int ?_))))
 have w:WF B n L (do assign (.Attribute o aq p) e9 (.int i s.toks);pure Flow.next) ((.int i s.toks,.int i)::H) σ (jK B n L r8 e9 H Φ):=by
  rw[arm_assign_Attribute];refine fU (dm (dc (dh (h _) λov od a2 w0=>dr (fU (dc (gX w0 λa3 q=>?_))))))
  exact jx (lG q)
 have x':Holds B.P B.G L F ((.int i s.toks,.int i)::H) σ { s with toks:=s.toks+1 }.heap:=x.push (.int i _)
 refine cx (jw (w.run A F { s with toks:=s.toks+1 } hA x')) (λf s0 z=>?_) λy y z=>z
 have ht:0 < s0.toks:=tB (Nat.succ_pos _) z.1
 obtain⟨F0,a1,x0,p0,e,he,q⟩:=z.2;have z':di B L H σ F s s0 λF' σ'=>∃ e,qe B.P F' f e/\jK B n L r8 e9 H Φ e σ':=⟨F0,a1,x0.weaken λy hp=>.tail _ hp,⟨p0.keep,p0.own,p0.frz,p0.mono,p0.gens,p0.os⟩,e,he,q⟩
 have:=kO (s0:=s0) hA ht z'
 rcases f with _ | _<;>exact this
theorem xd {pv:Program} {w:World} {A:Around} {e9:Env} {s:Shared} {l la lb:cF} {t:Tok} {pn pa pb:Pos} {ka kb:Nat} {Q:Value->Shared->Prop} {E:Value->Shared->Prop} (hz:l.length<=1048576) (hb:lb.length<=14) (hne:(S la==S lb)=false) (ht:0 < s.toks)
 (h:∀ t' k,s.toks < k->Q (.str (S (gZ l la lb)) t') { s with toks:=k }):MethodOn pv w A "replace" pn (.str (S l) t) (backTo pn (starEach [.Constant (.str (S la)) ka pa,.Constant (.str (S lb)) kb pb] e9)) Q E s:=by
 refine⟨"str","str.replace",PySem.F.plainAttrs_str,PySem.F.slot_str_replace,PySem.F.type_str_replace,typeIs_str _ _ _,(λv e=>nomatch e),?_⟩
 refine Calls.callWith_builtin rfl (gI rfl ?_)
 refine(show starEach [Expr.Constant (.str (S la)) ka pa,Expr.Constant (.str (S lb)) kb pb] e9=(false,eval (.Constant (.str (S la)) ka pa) e9)::starEach [Expr.Constant (.str (S lb)) kb pb] e9 from rfl)▸?_
 refine spliced_cons (show wpAny _ _ (eval (.Constant (.str (S la)) ka pa) e9) _ _ _ from wpAny_Constant_str ?_)
 refine(show starEach [Expr.Constant (.str (S lb)) kb pb] e9=(false,eval (.Constant (.str (S lb)) kb pb) e9)::starEach [] e9 from rfl)▸?_
 refine spliced_cons (show wpAny _ _ (eval (.Constant (.str (S lb)) kb pb) e9) _ _ _ from wpAny_Constant_str (spliced_nil ?_))
 refine cx (jw (SC.replaceW (x:=S l) (y:=S la) (z:=S lb) (Q:=λr s'=>∃ t' k,r=.str (Txt.replace (S l) (S la) (S lb)) t'/\s'={ s with toks:=k }) (Nat.pos_iff_ne_zero.mp ht) (Nat.succ_ne_zero _) (Nat.ne_of_lt (bQ _)) hne
  (by rw[dF];exact hz) (by rw[dF];exact hb) λt' k=>⟨t',k,rfl,rfl⟩)) (λr s' z=>?_) λv v z=>z
 obtain⟨hk',t',k,rfl,rfl⟩:=z;rw[Ih];exact h t' k (tB (Nat.lt_succ_of_lt (bQ _)) hk')
theorem rk {x y:Str} {a b:Str} {la lb l:cF} {p q ap pn pz ka kb pa pb} {l9:LL} (ea:a=S la) (eb:b=S lb) (m:(y,some (.str l))∈l8) (sl:jV x (.str (gZ l la lb)) l8 l9)
 (hz:l.length<=1048576) (hb:lb.length<=14) (hk:e9.scope.kind=.function) (hy:e9.kindOf y=some .local) (hx:e9.kindOf x=some .local) (hL:e9.locals=L) (hd:(y==("__debug__":Str))=false)
 (hp:(e9.scope.kind==.class||(e9.scope.kind==.module&&e9.locals !=e9.globals))=false) (hne:(S la==S lb)=false)
 (aM:(ap.endLine==pz.line)=true) (h:IR B n L (execs r8 e9) H ⟨l9,oe⟩ Φ) (hs:autoParam (swapsWith (.Call (.Attribute (.Name y q) "replace" ap) [.Constant (.str a) ka pa,.Constant (.str b) kb pb] [] pz) (some (.Name x p)) pn.line e9=pure false) bR):
 IR B n L (execs (.Assign [.Name x p] (.Call (.Attribute (.Name y q) "replace" ap) [.Constant (.str a) ka pa,.Constant (.str b) kb pb] [] pz) pn::r8) e9) H ⟨l8,oe⟩ Φ:=⟨λA F s hA ht X=>by
 subst ea eb hL
 rw[execs_cons,exec_Assign_Name e9 x p _ pn hs];refine cw (cw (wpAny_standAt (cw ?_)))
 refine dQ (X.loc) ?_;rintro m5 aJ r
 refine dQ (r y _ m) ?_;rintro v e hv
 obtain⟨t,rfl⟩:=dy hv;refine wpAny_Call_method_late rfl (by rfl) aM rfl (wpAny_Name (wpAny_loadName_local hk hy aJ e (xd hz hb hne ht λt' k hk=>?_)) hd)
 have q:Is B.P F (.str (S (gZ l la lb)) t') (.str (gZ l la lb)):=.str _ _
 have w:WF B n e9.locals (do standAt p;bindName e9 x (.str (S (gZ l la lb)) t');pure Flow.next) ((.str (S (gZ l la lb)) t',.str (gZ l la lb))::H) ⟨l8,oe⟩ (jK B n e9.locals r8 e9 H Φ):=
  dr (fU (lL (pX dH sl (lG (Φ:=jK B n e9.locals r8 e9 H Φ) h) hx rfl hp)))
 refine cx (jw (w.run A F { s with toks:=k } hA (X.push q))) (λf s0 z=>?_) λu u z=>z
 obtain⟨F0,a1,x0,p0,e,he,q⟩:=z.2;have z':di B e9.locals H ⟨l8,oe⟩ F s s0 λF' σ'=>∃ e,qe B.P F' f e/\jK B n e9.locals r8 e9 H Φ e σ':=⟨F0,a1,x0.weaken λu hp=>.tail _ hp,⟨p0.keep,p0.own,p0.frz,p0.mono,p0.gens,p0.os⟩,e,he,q⟩
 have:=kO (s0:=s0) hA (tB (Nat.lt_of_le_of_lt (cr _) hk) z.1) z'
 rcases f with _ | _<;>exact this⟩
def Qq (p:Prop):Prop:=p
end
section
variable {B:cX} {n:Nat} {L:Addr} {H:HL} {σ:St} {e9:Env} {s:Stmt} {R:PF}
theorem cY.of {ah:cG} {P:AV->OL->Prop} (h:∀ Φ:AV->OL->Prop,(∀ d o,P d o->Φ d o)->cY B n f ah oe Φ):cY B n f ah oe P:=h P λy y h=>h
end
end
section
variable {es:List DictEntry} {l:FL} {d:AV} {a:Addr} {Φ:PV} {vs:cJ} {m:Nat}
noncomputable def jT:List DictEntry->FL->cS
 | e::es,(x,_)::l=>(x,e.val)::jT es l
 | _,_=>[]
section
variable {pv:Program} {w:World} {F:Fz}
theorem ie (h:IsEnts w.params F es l):(jT es l).map (·.1)=l.map (·.1):=h.ind (C:=λes l=>(jT es l).map (·.1)=l.map (·.1)) rfl λy y y y y y y y c=>cB (List.cons _) c
theorem tU (h:IsEnts w.params F es l):Pairs (strKind pv w) es (jT es l):=h.ind (C:=λes l=>Pairs (strKind pv w) es (jT es l)) .nil λy y y y y y y y c=>.cons (bM _) rfl c
theorem xS (h:IsEnts w.params F es l):∀ e∈es,∃ k,(strKind pv w).is k e.key=true/\e.hash=(strKind pv w).hash k:=
 h.ind (C:=λes y=>∀ e∈es,∃ k,(strKind pv w).is k e.key=true/\e.hash=(strKind pv w).hash k) (λy h=>nomatch h) λx y y y y y y y c=>List.forall_mem_cons.mpr ⟨⟨x,bM _,rfl⟩,c⟩
theorem zM (h:IsEnts w.params F es l):KM w.params F (jT es l) l:=h.ind (C:=λes l=>KM w.params F (jT es l) l) .nil λy y y y y y h y c=>.cons h c
theorem KM.value {P:Params} {x:Str} {r:cS} (h:KM P F r l) (e:ew x l=some d):∃ v,valueAt r x=some v/\Is P F v d:=by
 induction h with
 | nil=>contradiction
 | @cons y v c r l h _ ih=>
  by_cases q:(y==x)=true
  . have z:=cz q
    subst z;exact⟨v,by simp[valueAt],Option.some.inj ((ip _ c l).symm.trans e)▸h⟩
  . refine dQ (ih ((fZ c l q).symm.trans e)) ?_;rintro w e1 e2
    refine⟨w,?_,e2⟩
    show Option.map _ (List.find? _ ((y,v)::r))= _
    rw[List.find?_cons];simp only[bS λz=>q (beq_iff_eq.mpr z)]
    exact e1
theorem mA {x:Str} (h:IsEnts w.params F es l) (e:ew x l=some d):∃ v,valueAt (jT es l) x=some v/\Is w.params F v d:=(zM h).value e
theorem im {h:Heap} (e:IsEnts w.params F es l) (nd:(l.map (·.1)).Nodup) (hg:h.get? a=some (dictOf es n)):h.DictOf (strKind pv w) a (jT es l):=
 ⟨_,es.toArray,n,hg,⟨rfl,rfl,rfl⟩,rfl,λx hx=>xS e x (by simpa using hx),tU e,by rw[ie e];exact nd⟩
end
section
variable {B:cX} {n:Nat} {L:Addr} {H:HL} {σ:St} {e9:Env}
theorem Oc {v7 slice:Expr} {o i:Value} {x:cF} (mo:(o,.dct l)∈H) (mi:(i,.str x)∈H) (hd:ew (S x) l=some d) (h:∀ v,Φ v d σ)
 (hs:∃ ops,subscripted slice false o i=operate ops (getItem o i):=by exact⟨_,rfl⟩):WV B n L (subscriptTail v7 slice o i) H σ Φ:=by
 refine gv (T:="dict") (λF s X=>?_) slot_dict_getitem.lookup (d9 λA F s hA X=>?_) hs
 . refine Pi (ou (X.hold mo)) ?_;rintro a es k rfl h1 h2 h3;exact⟨_,X.sub _ _ h1,rfl⟩
 . refine Pi (ou (X.hold mo)) ?_;rintro a es k rfl h1 h2 h3
   obtain⟨t,rfl⟩:=dy (X.hold mi);refine dQ (mA h2 hd) ?_;rintro v e1 e2
   exact wpAny_getItem_of (knd:=strKind B.prog B.w) (k:=S x) (bM _) (im h2 h3 (X.sub _ _ h1)).mapOf e1 (.toks X ⟨d,e2,h _⟩)
noncomputable def mZ:Value->AV
 | .none=>.none
 | .bool b=>.bool b
 | .int i _=>.int i
 | .str x _=>.str x.cps.toList
 | v=>.lit v
theorem sR (P:Params) (F:Fz):∀ v,Is P F v (mZ v)
 | .none=>.none
 | .bool b=>.bool b
 | .int i t=>.int i t
 | .str x t=>by
  have e:S x.cps.toList=x:=by cases x;rfl
  have q:Is P F (.str (S x.cps.toList) t) (.str x.cps.toList):=.str _ _
  rw[e]at q
  exact q
 | .float .. =>.lit _
 | .bytes .. =>.lit _
 | .type _=>.lit _
 | .builtin _=>.lit _
 | .ref _=>.lit _
 | .ellipsis=>.lit _
 | .notImplemented=>.lit _
theorem pT (P:Params) (F:Fz):∀ vs,IsAll P F vs (vs.map mZ)
 | []=>.nil
 | v::r=>.cons (sR P F v) (pT P F r)
theorem m7 {l:cG} (h:B.K.lookup a=some (lr vs m)) (e:vs.map mZ=l):eF B (.ref a) (.tup l):=λF core=>e▸.tup (core _ _ (B.X _ _ h)) (pT B.P F vs)
theorem Be {l:cG} (h:B.K.lookup a=some (dU vs m)) (e:vs.map mZ=l):eF B (.ref a) (.lst l):=λF core=>e▸.lst (core _ _ (B.X _ _ h)) (pT B.P F vs)
noncomputable def mB:List DictEntry->FL
 | ⟨_,.str x _,v⟩::r=>(x,mZ v)::mB r
 | _=>[]
def sG (P:Params):List DictEntry->Prop
 | []=>True
 | e::r=>(∃ x t,e.key=.str x t/\e.hash=PyData.keyHash P x)/\sG P r
theorem rf (P:Params) (F:Fz):∀ es,sG P es->IsEnts P F es (mB es)
 | [],_=>.nil
 | ⟨hs,kc,v⟩::r,⟨⟨x,t,e1,e2⟩,q⟩=>by
  dsimp only at e1 e2
  subst e1 e2
  exact .cons (sR P F v) (rf P F r q)
theorem Bg (h:B.K.lookup a=some (dictOf es m)) (ok:sG B.P es) (e:mB es=l) (nd:(l.map (·.1)).Nodup) (ha:autoParam ((a==sysModules)=false) bD):eF B (.ref a) (.dct l):=
 λF core=>e▸.dct (core _ _ (B.X _ _ h)) (rf B.P F es ok) (by rw[e];exact nd) ha
end
theorem gp.perm {P:Params} {G:Heap} {F:Fz} {o o':OL} {h:Heap} (e:o.Perm o') (x:gp P G F o h):gp P G F o' h:=
 ⟨x.core,x.sub,λp hp=>x.objs p (e.mem_iff.mpr hp),(fC e).nodup_iff.mp x.nodup,λb hb=>x.apart b ((fC e).mem_iff.mpr hb),x.big⟩
theorem eu.perm {O O0 O' O2:cK} {F F':Fz} {s s':Shared} (e:O.Perm O0) (e':O'.Perm O2) (p:eu O F s O' F' s'):eu O0 F s O2 F' s':=
 ⟨λb o hb=>p.keep b o λh=>hb (e.mem_iff.mp h),λb hb=>(p.own b (e'.mem_iff.mpr hb)).imp_left e.mem_iff.mp,λb o h=>(p.frz b o h).imp_right (Or.imp_left e.mem_iff.mp),p.mono,p.gens,p.os⟩
theorem cY.perm {B:cX} {f:Addr} {ah:cG} {o o7:OL} {Φ a9:AV->OL->Prop} (e:o.Perm o7) (c:cY B n f ah o7 a9) (k:∀ d q,a9 d q->∃ q',q.Perm q'/\Φ d q'):cY B n f ah o Φ:=
 λA F s vs hA x hv=>codeAny_mono (c A F s vs hA (x.perm e) hv) λr s' ⟨v,d,o5,F',a,b,y,p,q⟩=>by
  refine dQ (k d o5 q) ?_;rintro q' e' hq
  exact⟨v,d,q',F',a,b,y.perm e',p.perm (fC e).symm (fC e'),hq⟩
theorem cY.second {B:cX} {f:Addr} {ah:cG} {a a' b:Addr×AO} {r8:OL} {d6:AV} (c:cY B n f ah (a::b::r8) λd o=>d=d6/\o=a'::b::r8):cY B n f ah (b::a::r8) λd o=>d=d6/\o=b::a'::r8:=
 c.perm (.swap _ _ _) λd q ⟨e1,e2⟩=>⟨b::a'::r8,by rw[e2];exact .swap _ _ _,e1,rfl⟩
section
variable {B:cX} {n:Nat} {L:Addr} {H:HL} {σ:St} {e9:Env}
theorem vU {l m r:Expr} {op oi pn wd} {Φ:Bool->St->Prop}
 (h :Go l (WV B n L (eval l e9) H σ λa x a1=>Go m (WV B n L (eval m e9) ((a,x)::H) a1 λb y a2=>Go op (WV B n L (compareOp op a b) ((b,y)::(a,x)::H) a2 λv z a3=>∃ c,z=.bool c/\∃ c',
  Go r (WV B n L (eval r e9) ((b,y)::(a,x)::H) a3 (λd w a4=>Go oi (WV B n L (compareOp oi b d) ((d,w)::(b,y)::(a,x)::H) a4 λv z a5=>z=.bool c'/\a5=a3)))/\Φ (c&&c') a3))))
 (hm:autoParam (markedEach [op,oi] [m,r] (evalEach [m,r] e9)=[eval m e9,eval r e9]) bW):S9 (Expr.Compare l [op,oi] [m,r] pn) (WB B n L (isTrue (.Compare l [op,oi] [m,r] pn) e9 wd) H σ Φ):=by
 show WB B n L (isTrue (.Compare l [op,oi] [m,r] pn) e9 wd) H σ Φ
 rw[arm_isTrue_Compare,hm];refine dm (dh h λa x a1 w=>?_)
 show W B n L (do
  let rv <-holding [a] (eval m e9)
  standAt pn
  let c <-holding [a,rv] (compareOp op a rv)
  release [a,rv] [c]
  if <-holding [c,rv] (truthy c) then testChain pn rv [oi] [eval r e9] else pure false) ((a,x)::H) a1 _
 refine dm (dc (dh w λb y a2 w=>dr (dm (dc (dh w λc z a3 ⟨k,e,c',w,q⟩=>?_)))))
 subst e;refine rp (gx (dc (lK dH ?_)))
 induction k using Bool.casesOn with
 | false=>exact pG q
 | true=>
  refine oq ?_
  show W B n L (do
   let rv <-holding [b] (eval r e9)
   standAt pn
   let c <-operate [b,rv] (compareOp oi b rv)
   holding [c] (truthy c)) _ _ _
  refine dm (dc (dh w λd w' a4 w=>dr (dm (gu (dh w λv z a5 ⟨e,e'⟩=>?_)))))
  subst e e'
  exact dc (lK dH q)
end
section
variable {B:cX} {n:Nat} {L:Addr} {H:HL} {σ:St} {e9:Env}
end
section
variable {B:cX} {n:Nat} {L:Addr} {H:HL} {σ:St} {e9:Env}
theorem Gb {C fI:Addr} {ds:cG} {l8:LL} {oe:OL} {a6:Addr->Addr->AV->OL->Prop} (hm:makesIn B.K C=true) (hi:findIn B.K (.ref C) "__init__"=some (some (.ref fI))) (hf:isFn B.K (.ref fI)=true)
 (c:∀ x dx,cY B m fI (.ref x::ds) ((x,.inst C dx [])::oe) (a6 x dx)) (hn:m<=n) (e:vs.length=ds.length) (k:∀ p∈vs.zip ds,p∈H)
 (h:∀ x dx d o5,a6 x dx d o5->d=.none/\Φ (.ref x) (.ref x) ⟨l8,o5⟩):WV B (n+1) L (call (.ref C) vs) H ⟨l8,oe⟩ Φ:=
 J8 (σ:=⟨l8,oe⟩) hm hi hf e k λx dx=>((c x dx).room hn).mono λd o q=>h x dx d o q
end
end
section
section
variable {B:cX} {n:Nat} {L:Addr} {H:HL} {σ:St} {e9:Env}
theorem FZ {a b:Value} {c:Nat} {x:cF} {Φ:PV} (ma:(a,.str [c])∈H) (mb:(b,.str x)∈H) (h:∀ v,Φ v (.bool (decide (c∈x))) σ):WV B n L (compareOp .In a b) H σ Φ:=d9 λA F s hA X=>by
 obtain⟨t1,rfl⟩:=dy (X.hold ma);obtain⟨t2,rfl⟩:=dy (X.hold mb);have e:(!(Builtin.Str.occurrences (S x) (S [c]) 0 (S x).length 1).isEmpty)=decide (c∈x):=StrLaws.found_one (S x) c
 with_reducible exact in_str (.here X ⟨_,.bool _,e▸h _⟩)
theorem uS (a b:Bool):PyData.eqv (.bool a) (.bool b)=(a==b):=by rcases a with _ | _<;>rcases b with _ | _<;>first | rfl | simp[PyData.eqv]
theorem MJ {a b:Value} {x y:Bool} {Φ:PV} (ma:(a,.bool x)∈H) (mb:(b,.bool y)∈H) (h:∀ v,Φ v (.bool (x==y)) σ):WV B n L (compareOp .Eq a b) H σ Φ:=
 zE ma mb rfl rfl rfl rfl (uS x y) h
end
theorem cY.drop {B:cX} {n:Nat} {f:Addr} {ah:cG} {o:OL} {Φ:AV->OL->Prop} (c:cY B n f ah o λd q=>∃ q' g,q.Perm (q'++g)/\Φ d q'):cY B n f ah o Φ:=
 λA F s vs hA x hv=>codeAny_mono (c A F s vs hA x hv) λr s' ⟨v,d,o5,F',a,b,y,p,q',g,e,hq⟩=>by
  have pe:=fC e
  rw[fg]at pe
  have sub:∀ b∈dg q',b∈dg o5:=λb hb=>pe.mem_iff.mpr (bh _ hb)
  exact⟨v,d,q',F',a,b,⟨y.core,y.sub,λp hp=>y.objs p (e.mem_iff.mpr (bh _ hp)),(bx.mp (pe.nodup_iff.mp y.nodup)).1,λb hb=>y.apart b (sub b hb),y.big⟩,
   ⟨p.keep,λb hb=>p.own b (sub b hb),p.frz,p.mono,p.gens,p.os⟩,hq⟩
end
section
theorem cY.dropH {B:cX} {n:Nat} {f:Addr} {ah:cG} {o:OL} {Φ:AV->OL->Prop} (c:cY B n f ah o λd q=>Qq (∃ q' g,q.Perm (q'++g)/\Φ d q')):cY B n f ah o Φ:=cY.drop c
theorem cY.ahead {B:cX} {n:Nat} {f:Addr} {ah:cG} {a:Addr×AO} {o o':OL} {d6:AV} (c:cY B n f ah (o++[a]) λd q=>d=d6/\q=o'++[a]):cY B n f ah (a::o) λd q=>d=d6/\q=a::o':=
 c.perm (bg (l₁:=[a])) λd q ⟨e1,e2⟩=>⟨a::o',by rw[e2];exact bg (l₂:=[a]),e1,rfl⟩
theorem qy (ms:cV):List.intercalate [] ms=ms.flatten:=by
 induction ms with
 | nil=>rfl
 | cons a r ih=>induction r using List.casesOn with
  | nil=>simp[List.intercalate,List.intersperse]
  | cons b r=>simp only[List.intercalate,List.intersperse_cons_cons,List.flatten_cons]at ih |-;refine ih▸?_;simp
theorem jv {l:cG} {ms:cV} {x:cF} (h:dN l=some ms):dN (l++[.str x])=some (ms++[x]):=by
 induction l generalizing ms with
 | nil=>obtain rfl:=Option.some.inj h;rfl
 | cons d r ih=>
  refine jJ (qi h) ?_;rintro y m rfl e1 rfl
  show(dN (r++[.str x])).map (y::·)= _
  refine(ih e1)▸?_
  rfl
theorem KJ {l:cF} {i j:Nat} (h:i<=l.length) (h':j<=l.length):sl l (some i) (some j)=(l.take j).drop i:=by
 rw[lu];rw[eK h,eK h']
theorem CF {l:cF} {i:Nat} (h:i<=l.length):sl l (some i) (some i)=[]:=by rw[KJ h h];simp
theorem tT (ms:cV):(ms.map (·.length)).sum=ms.flatten.length:=by rw[List.length_flatten]
section
variable {B:cX} {n:Nat} {L:Addr} {H:HL} {σ:St} {e9:Env}
theorem Il {a:Addr} {l:cG} {ms:cV} {v6 v:Value} {Φ:PV} (mv:(v6,.str [])∈H) (md:(v,.ref a)∈H) (m:(a,AO.list l)∈σ.objs) (e:dN l=some ms)
 (hz:ms.flatten.length<=16777216) (h:∀ v,Φ v (.str ms.flatten) σ):WV B n L (call (.builtin "str.join") [v6,v]) H σ Φ:=
 wM mv md m e (by rw[tT];simpa using hz) (by rw[qy];exact h)
end
end
section
section
variable {M:Model} {A:Around} {c:Code} {fs:List Frame} {s:Shared} {Q:End->Shared->Prop} {K:Flow->Sem Fin} {Hh:Value->Sem Fin} {gd:Bool->Bool} {lv:cJ->cJ} {e9:Env}
def Sg (M:Model) (A:Around) (c:Code) (t:Sem Fin) (fs:List Frame) (s:Shared) (Q:End->Shared->Prop):Prop:=
 ∀ Γ p,Γ.code=c->Γ.Woken A->∃ e s',Runs M Γ p t fs s e s'/\(e.quiet=true/\Q e s')
theorem Sg.tree {α:Type} {m:Sem α} {K:α->Sem Fin} {Hh:Value->Sem Fin} (h:wpAny M (A.over c fs) m (λa s'=>Sg M A c (K a) fs s' Q) (λx s'=>Sg M A c (Hh x) fs s' Q) s):Sg M A c (m.wrap K Hh gd lv) fs s Q:=by
 rintro Γ p rfl hΓ;exact runs_wrap_of_wp K Hh gd lv m (h (Γ.over fs) p (hΓ.over fs)) (λa p' s' w=>w Γ p' rfl hΓ) λx p' s' w=>w Γ p' rfl hΓ
theorem Sg.stand {p':Pos} {k:Unit->Sem Fin} (h:Sg M A c (k ()) fs s Q):Sg M A c (.at p' k) fs s Q:=Sg.tree (m:=standAt p') (K:=k) (Hh:=.raise) (gd:=id) (lv:=id) (wpAny_standAt h)
theorem Sg.spot {l:cJ} {k:Unit->Sem Fin} (h:Sg M A c (k ()) fs s Q):Sg M A c (.point l k) fs s Q:=Sg.tree (m:=point) (K:=k) (Hh:=.raise) (gd:=id) (lv:=λy=>l) (wpAny_point h)
theorem Sg.into {c':Code} {h g l} {k:Result->Sem Fin} (w:∀ p,Sg M A c' (M.den c') (.ret k h g l c p []::fs) s Q):Sg M A c (.call c' h g l k) fs s Q:=by
 rintro Γ p rfl hΓ;refine iM (w p (Γ.goto c') p rfl (hΓ.goto c')) ?_;rintro e s' hr q
 exact⟨e,s',runs_call_seg hr,q⟩
theorem Sg.back {k h g l c₁ p0 kp} (r:Result) (w:Sg M A c₁ (k r) fs s Q):Sg M A c (leafOf r) (.ret k h g l c₁ p0 kp::fs) s Q:=by
 rintro Γ p rfl hΓ;refine iM (w (Γ.goto c₁) p0 rfl (hΓ.goto c₁)) ?_;rintro e s' hr q
 exact⟨e,s',Runs.pop r hr,q⟩
theorem Sg.turn {c':Code} (hq:c'.quiet=true) (w:Sg M A c' (M.den c') fs s Q):Sg M A c (.pure (.again c')) fs s Q:=by
 rintro Γ p rfl hΓ;refine iM (w (Γ.goto c') p rfl (hΓ.goto c')) ?_;rintro e s' hr q
 exact⟨e,s',Runs.head (c₁:=c') (λy y x=>.again hq x) hr,q⟩
theorem Sg.over (r:Result) (h:Q (.ret r) s):Sg M A c (leafOf r) [] s Q:=by
 rintro Γ p rfl y;exact⟨.ret r,s,Runs.leaf r,rfl,h⟩
theorem Sg.give {v g l} {k:Resume->Sem Fin} (hfs:splitAtGen fs=none) (hg:g=false) (hfg:fs.any Frame.guarded=false) (h:∀ p,Q (.susp v g l k c p fs) s):Sg M A c (.yield v g l k) fs s Q:=by
 rintro Γ p rfl y;exact⟨_,s,Runs.yield' fs hfs,by simp[End.quiet,hg,hfg],h p⟩
def Wk (M:Model) (A:Around) (gs:GenState) (s:Shared) (Q:End->Shared->Prop):Prop:=
 match gs with
 | .fresh c=>Sg M A c (M.den c) [] s Q
 | .suspended k _ c _ fs _=>Sg M A c (k (.send .none)) fs s Q
 | _=>False
theorem ve {E:Value->Shared->Prop} {g:Nat} {gs:GenState} {l:cJ} {α:Type} {k:GenResult->Sem α} {R:α->Shared->Prop} (hg:s.gens[g]? =some gs) (w:Wk M A gs (s.setGen g .running) Q)
 (h:∀ e s0,e.quiet=true->Q e s0->wpAny M A (k e.result) R E (s0.setGen g e.genState)):wpAny M A (.resume g (.send .none) l k) R E s:=by
 intro Γ p hΓ;rw[Sem.wp_resume]
 cases gs with
 | running=>exact w.elim
 | finished=>exact w.elim
 | fresh c=>
  refine jJ (w (Γ.wake c p) p rfl (hΓ.wake c p)) ?_;rintro e s' hr q z
  exact⟨_,_,by unfold Wakes;rw[hg];exact⟨e,s',hr,q,rfl,rfl⟩,h e s' q z Γ p hΓ⟩
 | suspended k6 l7 c ph fs cl=>
  refine jJ (w (Γ.wake c p) ph rfl (hΓ.wake c p)) ?_;rintro e s' hr q z
  exact⟨_,_,by unfold Wakes;rw[hg];exact⟨e,s',hr,q,rfl,rfl⟩,h e s' q z Γ p hΓ⟩
theorem Sg.steps {st:Stmt} {r8:cH} (h:Sg M A c ((exec st e9).wrap (λf=>match f with | .next=>(execs r8 e9).wrap K Hh gd lv | f=>K f) Hh gd lv) fs s Q):Sg M A c ((execs (st::r8) e9).wrap K Hh gd lv) fs s Q:=by
 rw[execs_cons_wrap];exact h
theorem Sg.yields {e:Expr} {yp pn:Pos} (hfs:splitAtGen fs=none) (hgd:gd false=false) (hfg:fs.any Frame.guarded=false)
 (h:wpAny M (A.over c fs) (eval e e9) (λv s'=>∀ l k p,k (.send .none)=K .next->Q (.susp v (gd false) l k c p fs) s') (λy y=>False) s) (aH:e9.scope.isCoroutine=false) (hi:interactive e9=false):
 Sg M A c ((exec (.Expr (.Yield (some e) yp) pn) e9).wrap K Hh gd lv) fs s Q:=by
 rw[exec_Expr e9 _ pn hi rfl];have hy:∀ v,yieldOut e9 v=yieldValue v:=λv=>by simp only[yieldOut,aH,Bool.false_eq_true,if_false]
 show Sg M A c (.at pn λy=>((eval e e9 >>= λv=>(standAt yp >>= λy=>yieldOut e9 v)) >>= λx=>dropValue (.Yield (some e) yp) pn x).wrap K Hh gd lv) fs s Q
 simp only[hy]
 refine Sg.stand ?_
 rw[Sem.bind_eq_wrap',Sem.bind_eq_wrap',Sem.wrap_wrap,Sem.wrap_wrap];refine Sg.tree (cx h (λv s' z=>?_) λy y z=>z.elim)
 exact Sg.stand (Sg.give hfs hgd hfg λp=>z _ _ p rfl)
theorem Sg.whiles {t9:Expr} {b0:cH} {pn:Pos}
 (h:∀ p k,(∀ f,k (.ok f)=K f)->Sg M A (.whileLoop t9 b0 [] e9) (M.den (.whileLoop t9 b0 [] e9)) (.ret k none (gd false) (lv []) c p []::fs) s Q):Sg M A c ((exec (.While t9 b0 [] pn) e9).wrap K Hh gd lv) fs s Q:=
 Sg.stand (Sg.into λp=>h p _ λf=>rfl)
end
section
variable {pv:Program} {w:World} {A:Around} {fs:List Frame} {s:Shared} {Q:End->Shared->Prop} {e9:Env}
theorem Sg.round {t9:Expr} {b0:cH} (h:wpAny (model pv w) (A.over (.whileLoop t9 b0 [] e9) fs) (isTrue t9 e9 (eval t9 e9)) (λb s'=>
 (b =true->∀ Hh,Sg (model pv w) A (.whileLoop t9 b0 [] e9) ((execs b0 e9).wrap (λf=>match f with
  | .next | .cont=>.pure (.again (.whileLoop t9 b0 [] e9))
  | .brk=>.pure (.done .next)
  | .ret v=>.pure (.done (.ret v))) Hh id id) fs s' Q)/\
 (b =false->Sg (model pv w) A (.whileLoop t9 b0 [] e9) (.pure (.done .next)) fs s' Q)) (λy y=>False) s):
 Sg (model pv w) A (.whileLoop t9 b0 [] e9) ((model pv w).den (.whileLoop t9 b0 [] e9)) fs s Q:=by
 show Sg _ A _ ((whileTurn t9 b0 [] e9).onRaise (λx=>do noteFrame x e9;theTreesLotGoes x)) fs s Q
 unfold whileTurn;rw[Sem.onRaise_eq_wrap,Sem.bind_eq_wrap',Sem.wrap_wrap];refine Sg.tree (cx h (λb s' z=>?_) λy y z=>z.elim)
 induction b using Bool.casesOn with
 | true=>
  show Sg _ A _ (Sem.wrap _ _ _ _ (execs b0 e9 >>= _)) fs s' Q
  rw[Sem.bind_eq_wrap',Sem.wrap_wrap];rw[Sem.wrap_congr (execs b0 e9) (K':=λf=>match f with
   | .next | .cont=>.pure (.again (.whileLoop t9 b0 [] e9))
   | .brk=>.pure (.done .next)
   | .ret v=>.pure (.done (.ret v))) _ _ (λf=>by rcases f with _ | _<;>rfl) (λe=>rfl)]
  exact z.1 rfl _
 | false=>exact z.2 rfl
theorem Sg.body {b0:cH} (h:∀ Hh,Sg (model pv w) A (.func b0 e9) ((execs b0 e9).wrap (λf=>.pure (.done (.ret (match f with | .ret v=>v | _=>.none)))) Hh id id) fs s Q):
 Sg (model pv w) A (.func b0 e9) ((model pv w).den (.func b0 e9)) fs s Q:=by
 show Sg _ A _ (.point [] λy=>((execs b0 e9).onRaise (leaving e9)) >>= _) fs s Q
 refine Sg.spot ?_
 rw[Sem.onRaise_eq_wrap,Sem.bind_eq_wrap',Sem.wrap_wrap];rw[Sem.wrap_congr (execs b0 e9) (K':=λf=>.pure (.done (.ret (match f with | .ret v=>v | _=>.none)))) _ _ (λf=>by rcases f with _ | _<;>rfl) (λe=>rfl)]
 exact h _
end
end
section
variable {st:Stmt} {pn:Pos} {t9:Expr}
theorem Sg.mono {M:Model} {A:Around} {c:Code} {t:Sem Fin} {fs:List Frame} {s:Shared} {Q Q':End->Shared->Prop} (h:Sg M A c t fs s Q) (k:∀ e s',Q e s'->Q' e s'):Sg M A c t fs s Q':=λΓ p e hΓ=>
 let ⟨x,s',hr,q,z⟩:=h Γ p e hΓ;⟨x,s',hr,q,k _ _ z⟩
section
variable {γ:Type}
def zi (B:cX) (m:Nat) (L:Addr) (YJ:γ->AV->OL->Prop) (RJ:OL->Prop):List γ->cK->Fz->Shared->End->Shared->Prop
 | []=>λO F s e s0=>e=.ret (.ok (.ret .none))/\∃ F' σ',Holds B.P B.G L F' [] σ' s0.heap/\eu O F s (L::dg σ'.objs) F' s0/\RJ σ'.objs
 | x::tr=>λO F s e s0=>∃ v g l k c p fs F' σ' d,e=.susp v g l k c p fs/\Holds B.P B.G L F' [(v,d)] σ' s0.heap/\eu O F s (L::dg σ'.objs) F' s0/\YJ x d σ'.objs/\
  ∀ A F1 s6,gk m A->Holds B.P B.G L F1 [] σ' s6.heap->Sg B.M A c (k (.send .none)) fs s6 (zi B m L YJ RJ tr (L::dg σ'.objs) F1 s6)
variable {B:cX} {m n:Nat} {L:Addr} {YJ:γ->AV->OL->Prop} {RJ:OL->Prop}
theorem zi.trans {tr:List γ} {O O':cK} {F F':Fz} {s s' s0:Shared} {e:End} (p:eu O F s O' F' s') (h:zi B m L YJ RJ tr O' F' s' e s0):zi B m L YJ RJ tr O F s e s0:=by
 induction tr using List.casesOn with
 | nil=>
  obtain⟨rfl,F0,a1,x,q,r⟩:=h;exact⟨rfl,F0,a1,x,p.trans q,r⟩
 | cons x tr=>
  refine Rk (h) ?_;clear h;rintro v g l k c p' ⟨fs,F0,a1,d,rfl,x,q,r⟩
  exact⟨v,g,l,k,c,p',fs,F0,a1,d,rfl,x,p.trans q,r⟩
structure GW (B:cX) (m:Nat) (L:Addr) (YJ:γ->AV->OL->Prop) (RJ:OL->Prop) (c:Code) (fs:List Frame) (t:Sem Fin) (tr:List γ) (σ:St):Prop where
 run:∀ A F s,gk m A->Holds B.P B.G L F [] σ s.heap->Sg B.M A c t fs s (zi B m L YJ RJ tr (L::dg σ.objs) F s)
variable {c:Code} {fs:List Frame} {tr:List γ} {σ:St} {K:Flow->Sem Fin} {Hh:Value->Sem Fin} {gd:Bool->Bool} {lv:cJ->cJ} {e9:Env}
def ge (m n:Nat) (c:Code) (fs:List Frame):Prop:=∀ A,gk m A->gk n (A.over c fs)
theorem GW.bind {α:Type} {t:Sem α} {K:α->Sem Fin} (hr:ge m n c fs) (h:W B n L t [] σ λa y σ'=>GW B m L YJ RJ c fs (K a) tr σ'):GW B m L YJ RJ c fs (t.wrap K Hh gd lv) tr σ:=⟨λA F s hA X=>
 Sg.tree (cx (h.run _ F s (hr A hA) X) (λa s' ⟨F',σ',X',p,w⟩=>(w.run A F' s' hA X').mono λy y z=>z.trans p) λy y z=>z.elim)⟩
theorem GW.stmt (hr:ge m n c fs) (h:WF B n L (exec st e9) [] σ λe σ'=>e=.next/\GW B m L YJ RJ c fs (K .next) tr σ'):GW B m L YJ RJ c fs ((exec st e9).wrap K Hh gd lv) tr σ:=
 GW.bind hr ⟨λA F s hA X=>cx (h.run A F s hA X) (λf s' ⟨F',σ',X',p,e,he,q,w⟩=>⟨F',σ',X',p,by subst q;rcases f with _ | _<;>first | exact w | exact he.elim⟩) λy y z=>z⟩
theorem GW.steps {r8:cH} (h:GW B m L YJ RJ c fs ((exec st e9).wrap (λf=>match f with | .next=>(execs r8 e9).wrap K Hh gd lv | f=>K f) Hh gd lv) tr σ):GW B m L YJ RJ c fs ((execs (st::r8) e9).wrap K Hh gd lv) tr σ:=
 ⟨λA F s hA X=>Sg.steps (h.run A F s hA X)⟩
theorem GW.yields {x:γ} {e:Expr} {yp:Pos} (hr:ge m n c fs) (hfs:splitAtGen fs=none) (hgd:gd false=false) (hfg:fs.any Frame.guarded=false)
 (h:WV B n L (eval e e9) [] σ λv d σ'=>YJ x d σ'.objs/\GW B m L YJ RJ c fs (K .next) tr σ') (aH:e9.scope.isCoroutine=false) (hi:interactive e9=false):
 GW B m L YJ RJ c fs ((exec (.Expr (.Yield (some e) yp) pn) e9).wrap K Hh gd lv) (x::tr) σ:=⟨λA F s hA X=>
 Sg.yields hfs hgd hfg (cx (h.run _ F s (hr A hA) X) (λv s' ⟨F',σ',X',p,d,hd,y,w⟩ l k p' hk=>⟨v,gd false,l,k,c,p',fs,F',σ',d,rfl,X'.push hd,p,y,λA F1 s6 hA X1=>by rw[hk];exact w.run A F1 s6 hA X1⟩) λu u z=>z) aH hi⟩
theorem GW.whiles {b0:cH}
 (h:∀ p k,(∀ f,k (.ok f)=K f)->GW B m L YJ RJ (.whileLoop t9 b0 [] e9) (.ret k none (gd false) (lv []) c p []::fs) (B.M.den (.whileLoop t9 b0 [] e9)) tr σ):GW B m L YJ RJ c fs ((exec (.While t9 b0 [] pn) e9).wrap K Hh gd lv) tr σ:=
 ⟨λA F s hA X=>Sg.whiles λp k e=>(h p k e).run A F s hA X⟩
theorem GW.round {b0:cH} (hr:ge m n (.whileLoop t9 b0 [] e9) fs) (h:WB B n L (isTrue t9 e9 (eval t9 e9)) [] σ λb σ'=>
 (b=true->∀ Hh,GW B m L YJ RJ (.whileLoop t9 b0 [] e9) fs ((execs b0 e9).wrap (λf=>match f with
  | .next | .cont=>.pure (.again (.whileLoop t9 b0 [] e9))
  | .brk=>.pure (.done .next)
  | .ret v=>.pure (.done (.ret v))) Hh id id) tr σ')/\
 (b=false->GW B m L YJ RJ (.whileLoop t9 b0 [] e9) fs (.pure (.done .next)) tr σ')):GW B m L YJ RJ (.whileLoop t9 b0 [] e9) fs (B.M.den (.whileLoop t9 b0 [] e9)) tr σ:=
 ⟨λA F s hA X=>Sg.round (cx (h.run _ F s (hr A hA) X) (λb s' ⟨F',σ',X',p,w⟩=>⟨λe Hh=>((w.1 e Hh).run A F' s' hA X').mono λy y z=>z.trans p,λe=>((w.2 e).run A F' s' hA X').mono λy y z=>z.trans p⟩) λy y z=>z)⟩
theorem GW.turn {c':Code} (hq:c'.quiet=true) (h:GW B m L YJ RJ c' fs (B.M.den c') tr σ):GW B m L YJ RJ c fs (.pure (.again c')) tr σ:=⟨λA F s hA X=>Sg.turn hq (h.run A F s hA X)⟩
theorem GW.back {k:Result->Sem Fin} {h' g l c₁ p0 kp} {f:Flow} (h:GW B m L YJ RJ c₁ fs (k (.ok f)) tr σ):GW B m L YJ RJ c (.ret k h' g l c₁ p0 kp::fs) (.pure (.done f)) tr σ:=⟨λA F s hA X=>Sg.back (.ok f) (h.run A F s hA X)⟩
theorem GW.body {b0:cH} (h:∀ Hh,GW B m L YJ RJ (.func b0 e9) fs ((execs b0 e9).wrap (λf=>.pure (.done (.ret (match f with | .ret v=>v | _=>.none)))) Hh id id) tr σ):
 GW B m L YJ RJ (.func b0 e9) fs (B.M.den (.func b0 e9)) tr σ:=⟨λA F s hA X=>Sg.body λHh=>(h Hh).run A F s hA X⟩
theorem GW.over (h:RJ σ.objs):GW B m L YJ RJ c [] (.pure (.done (.ret .none))) [] σ:=⟨λA F s hA X=>Sg.over (.ok (.ret .none)) ⟨rfl,F,σ,X,.refl _ _ _,h⟩⟩
theorem ix {b0:cH}:ge (n+1) n (.func b0 e9) []:=λA hA=>by
 have h1:(Code.func b0 e9).weight=1:=by rfl
 have h2:(Code.func b0 e9).cUnits=3:=by rfl
 refine⟨hA.handled,?_,?_⟩
 . have:=hA.depth
   show A.depth+frameCount ([].map Frame.where_)+(Code.func b0 e9).weight+n<=900
   rw[h1];simp[frameCount];omega
 . have:=hA.units
   show A.units+unitsOf ([].map Frame.where_)+(Code.func b0 e9).cUnits+8*n<=9000
   rw[h2];simp[unitsOf];omega
theorem fK {b0:cH} {env':Env} {k:Result->Sem Fin} {g l p kp} (h:ge m n c fs):ge m n (.whileLoop t9 b0 [] env') (.ret k none g l c p kp::fs):=λA hA=>by
 obtain⟨r1,r2,r3⟩:=h A hA;have h1:(Code.whileLoop t9 b0 [] env').weight=0:=by rfl
 have h2:(Code.whileLoop t9 b0 [] env').cUnits=0:=by rfl
 refine⟨?_,?_,?_⟩
 . exact r1
 . have:A.depth+frameCount (fs.map Frame.where_)+c.weight+n<=900:=r2
   show A.depth+frameCount ((Frame.ret k none g l c p kp::fs).map Frame.where_)+(Code.whileLoop t9 b0 [] env').weight+n<=900
   rw[h1,cf,show(Frame.ret k none g l c p kp).where_ =(c,p)from rfl,frameCount_cons];omega
 . have:A.units+unitsOf (fs.map Frame.where_)+c.cUnits+8*n<=9000:=r3
   show A.units+unitsOf ((Frame.ret k none g l c p kp::fs).map Frame.where_)+(Code.whileLoop t9 b0 [] env').cUnits+8*n<=9000
   rw[h2,cf,show(Frame.ret k none g l c p kp).where_ =(c,p)from rfl,unitsOf_cons];omega
end
variable {st:Stmt} {pn:Pos} {t9:Expr}
section
variable {γ:Type} {B:cX} {m n:Nat} {L:Addr} {YJ:γ->AV->OL->Prop} {RJ:OL->Prop} {c:Code} {fs:List Frame} {tr:List γ} {K:Flow->Sem Fin} {Hh:Value->Sem Fin} {gd:Bool->Bool} {lv:cJ->cJ} {e9:Env} {t:Sem Fin}
theorem GW.perm {l8:LL} {oe o5 r8:OL} (e:oe.Perm (o5++r8)) (h:GW B m L YJ RJ c fs t tr ⟨l8,o5⟩):GW B m L YJ RJ c fs t tr ⟨l8,oe⟩:=⟨λA F s hA X=>by
 refine(h.run A F s hA (X.drop e)).mono λx s' z=>z.trans ?_
 have pe:=fC e
 rw[fg]at pe
 refine⟨λy y y e=>e,λb hb=>.inl ?_,λy y e=>.inl e,.refl F,.refl _,rfl⟩
 rcases fD hb with rfl | hb
 . exact .head _
 . exact .tail _ (pe.mem_iff.mpr (bh _ hb))⟩
end
end
section
variable {g:Nat} {gs:GenState} {F':Fz}
section
variable {pv:Program} {w:World} {A:Around} {E:Value->Shared->Prop} {s:Shared}
theorem yv {a:Addr} {Q0:End->Shared->Prop} {Q:cO->Shared->Prop} (hh:A.handled=none) (hl:s.heap.NoLimit) (hroom:A.depth < recursionLimit) (hg:s.heap.IsGen a g) (hgs:s.gens[g]? =some gs)
 (wk:Wk (model pv w) A.in1 gs (s.setGen g .running) Q0)
 (h :∀ e s0,e.quiet=true->Q0 e s0->match e with
  | .susp v g5 l k c p fs=>Q (some v) (s0.setGen g (End.susp v g5 l k c p fs).genState)
  | .ret r=>r=.ok (.ret .none)/\∀ h',(∀ b o,s0.heap.get? b=some o->h'.get? b=some o)->Q none { s0.setGen g .finished with heap:=h' }):
 wpAny (model pv w) A (pyNext (.ref a)) Q E s:=by
 unfold pyNext;refine cw (wpAny_attempt (wpAny_callSpecial?_slot (name:=Str.ofString "__next__") hg.typeIs slot_gen_next (wpAny_call_entry slot_gen_next hg.typeIs entry_gen_next ?_ (args_gen_next _))))
 show wpAny _ _ (Builtin.Generator.genWake (.ref a) (.send .none)) _ _ s
 unfold Builtin.Generator.genWake;refine cw (wpAny_holding (wpAny_genNumber hg (cw (wpAny_genState hgs ?_))))
 cases gs with
 | running=>exact wk.elim
 | finished=>exact wk.elim
 | _=>
  refine cw (wpAny_roomToWake hl hroom ?_)
  refine ve hgs wk (λe s0 hq z=>?_)
  cases e with
  | susp v g5 l k c p fs=>exact cy ⟨v,rfl,cy (h _ s0 hq z)⟩
  | ret r=>
   obtain⟨rfl,z'⟩:=h _ s0 hq z;show wpAny _ _ (newExc (.type "StopIteration") [] >>= _) _ _ _
   refine cw ?_
   simp only[newExc,newTuple]
   refine cw (wpAny_newObj_type ?_ (by size_fits))
   refine cw (m:=firstArgMember _ _) (wpAny_of_eq (a:=Value.none) (by first | rfl | (simp only[firstArgMember];rfl)) ?_)
   refine wpAny_newObj_type ?_ (by size_fits)
   simp only[raiseNew]
   refine cw (cw (wpAny_handled ?_))
   rw[show A.in1.handled=none from hh];refine wpAny_throw ?_
   refine cw (wpAny_isInstance (T:="StopIteration") (b:=true) ⟨_,bm _ rfl,rfl⟩ isSubtype_stop ?_)
   exact cy (z' _ λb o hb=>bc _ (bc _ hb))
end
theorem Shared.set_set (s:Shared) (g:Nat) (x y:GenState):(s.setGen g x).setGen g y=s.setGen g y:=by
 unfold Shared.setGen;simp
theorem gq.fin {a b:Array GenState} {x:GenState} (h:gq a b) (hg:a[g]? =some x):gq (a.setIfInBounds g .finished) (b.setIfInBounds g .finished):=by
 have ha:g < a.size:=by by_cases q:g < a.size;exact q;simp[q]at hg
 have hb:g < b.size:=by
  have:=h.keep g x hg
  by_cases q:g < b.size;exact q;simp[q]at this
 refine⟨λi y e=>?_,λi y e=>?_⟩
 . rw[Array.getElem?_setIfInBounds]at e |-
   by_cases q:g=i
   . subst q;rw[cE rfl,cE ha]at e;rw[cE rfl,cE hb];exact e
   . rw[cC q]at e;rw[cC q];exact h.keep i y e
 . rw[Array.getElem?_setIfInBounds]at e
   by_cases q:g=i
   . subst q;rw[cE rfl,cE hb]at e;obtain rfl:=Option.some.inj e;exact .inr rfl
   . rw[cC q]at e
     rw[Array.getElem?_setIfInBounds,cC q];exact h.bare i y e
noncomputable abbrev fin (g:Nat) (s:Shared):Shared:=s.setGen g .finished
theorem eu.fin {O O':cK} {F:Fz} {s':Shared} {x:GenState} (p:eu O F s O' F' s') (hg:s.gens[g]? =some x):eu O F (fin g s) O' F' (fin g s'):=
 ⟨p.keep,p.own,p.frz,p.mono,p.gens.fin hg,p.os⟩
section
variable {γ:Type} {B:cX} {m n:Nat} {L:Addr} {YJ:γ->AV->OL->Prop} {RJ:OL->Prop} {tr:List γ}
structure vu (B:cX) (m:Nat) (Lg:Addr) (YJ:γ->AV->OL->Prop) (RJ:OL->Prop) (tr:List γ) (o:Obj) (g9:OL) (F:Fz) (gs:GenState):Prop where
 it:∃ gc:LL,(∃ mm,(∀ h:Heap,h.get? Lg=some o->h.Ns Lg mm)/\∀ x d,(x,some d)∈gc->∃ v,mm x=some v/\Is B.P F v d)/\(gc.map (·.1)).Nodup/\
  ∀ A F s,gk m A->Holds B.P B.G Lg F [] ⟨gc,g9⟩ s.heap->Wk B.M A gs s (zi B m Lg YJ RJ tr (Lg::dg g9) F s)
 low:B.G.objs.size<=Lg
theorem vu.mono {Lg:Addr} {o:Obj} {g9:OL} {F:Fz} (h:vu B m Lg YJ RJ tr o g9 F gs) (k:F.le F'):vu B m Lg YJ RJ tr o g9 F' gs:=by
 obtain⟨⟨gc,⟨mm,a,b⟩,c,d⟩,e⟩:=h;exact⟨⟨gc,⟨mm,a,λx d hx=>let ⟨v,q,r⟩:=b x d hx;⟨v,q,r.mono k⟩⟩,c,d⟩,e⟩
noncomputable abbrev jW (Lg:Addr) (o:Obj):Addr×AO:=(Lg,.is (·=o))
variable {H:HL} {l8:LL} {g9 own:OL} {Lg:Addr} {o:Obj} {F:Fz}
theorem Holds.inner {h:Heap} {gc:LL} (X:Holds B.P B.G L F H ⟨l8,jW Lg o::(g9++own)⟩ h) (low:B.G.objs.size<=Lg) (nd:(gc.map (·.1)).Nodup)
 (hl:∃ mm,(∀ h:Heap,h.get? Lg=some o->h.Ns Lg mm)/\∀ x d,(x,some d)∈gc->∃ v,mm x=some v/\Is B.P F v d):Holds B.P B.G Lg F [] ⟨gc,g9⟩ h:=by
 refine dQ (X.objs _ dH) ?_;rintro o' e1 e2
 have nd2:=(bU.mp X.nodup).2
 have e:dg (jW Lg o::(g9++own))=(Lg::dg g9)++dg own:=by simp[dg,AO.more,fg]
 rw[show dg (⟨l8,jW Lg o::(g9++own)⟩:St).objs= _ from e]at nd2
 refine⟨X.core,X.sub,?_,nd,λp hp=>X.objs p (.tail _ (bh _ hp)),(bx.mp nd2).1,λb hb=>X.apart b (.tail _ (by rw[show dg (⟨l8,jW Lg o::(g9++own)⟩:St).objs= _ from e];exact bh _ hb)),λy hp=>(nomatch hp),low⟩
 refine dQ (hl) ?_;clear hl;rintro mm a b
 exact⟨mm,a h (by rw[e1,e2]),b⟩
theorem Holds.outer {s0:Shared} {H':HL} {σ':St} (X:Holds B.P B.G L F H ⟨l8,jW Lg o::(g9++own)⟩ s.heap) (Y:Holds B.P B.G Lg F' H' σ' s0.heap) (p:eu (Lg::dg g9) F s (Lg::dg σ'.objs) F' s0):
 ∃ o', (∃ mm,(∀ h:Heap,h.get? Lg=some o'->h.Ns Lg mm)/\∀ x d,(x,some d)∈σ'.loc->∃ v,mm x=some v/\Is B.P F' v d)/\
  Holds B.P B.G L F' H ⟨l8,jW Lg o'::(σ'.objs++own)⟩ s0.heap/\eu (L::dg (jW Lg o::(g9++own))) F s (L::dg (jW Lg o'::(σ'.objs++own))) F' s0:=by
 refine dQ (Y.loc) ?_;rintro mm ⟨o',es,ep,e1,e2⟩ e3
 have e:∀ o (g:OL),dg (jW Lg o::(g++own))=(Lg::dg g)++dg own:=λo g=>by simp[dg,AO.more,fg]
 have nd:=X.nodup
 rw[show dg (⟨l8,jW Lg o::(g9++own)⟩:St).objs= _ from e o g9]at nd
 obtain⟨nL,nd2⟩:=bU.mp nd;refine xr (bx.mp nd2) ?_;rintro n1 n2 n3
 have there:∀ b∈L::dg own,∃ y,s.heap.get? b=some y:=λb hb=>X.there b (by
  refine(show dg (⟨l8,jW Lg o::(g9++own)⟩:St).objs= _ from e o g9)▸?_
  rcases fD hb with rfl | hb
  . exact .head _
  . exact .tail _ (be _ hb))
 -- what the asker has is none of the generator's
 have apart:∀ b∈L::dg own,b∉Lg::dg g9:=λb hb hm=>by
  rcases fD hb with rfl | hb
  . exact nL (bh _ hm)
  . exact n3 b hm b hb rfl
 have apart':∀ b∈L::dg own,b∉Lg::dg σ'.objs:=λb hb hm=>by
  rcases p.own b hm with z | z
  . exact apart b hb z
  . obtain⟨y,hy⟩:=there b hb;rw[hy]at z;contradiction
 have keep:∀ b∈L::dg own,∀ y,s.heap.get? b=some y->s0.heap.get? b=some y:=λb hb y hy=>p.keep b y (apart b hb) hy
 have noF:∀ b∈L::dg own,F' b=none:=λb hb=>by
  induction q:F' b using Option.casesOn with
  | none=>rfl
  | some y=>
   rcases p.frz b y q with z | z | z
   . rw[X.apart b (by
      refine(show dg (⟨l8,jW Lg o::(g9++own)⟩:St).objs= _ from e o g9)▸?_
      rcases fD hb with rfl | hb
      . exact .head _
      . exact .tail _ (be _ hb))]at z;contradiction
   . exact cD z (apart b hb)
   . obtain⟨y',hy⟩:=there b hb;rw[hy]at z;contradiction
 refine⟨o',⟨mm,λh eh=>⟨o',es,ep,eh,e2⟩,e3⟩,⟨Y.core,Y.sub,?_,X.names,λq hq=>?_,?_,λb hb=>?_,λq hq=>(X.held q hq).mono p.mono,X.low⟩,⟨λb y hb=>p.keep b y λhm=>hb ?_,λb hb=>?_,λb y h=>?_,p.mono,p.gens,p.os⟩⟩
 . refine dQ (X.loc) ?_;rintro mL ⟨oL,esL,epL,l1,l2⟩ l3
   exact⟨mL,⟨oL,esL,epL,keep L dH _ l1,l2⟩,λx d hx=>let ⟨v,a,b⟩:=l3 x d hx;⟨v,a,b.mono p.mono⟩⟩
 . rcases fD hq with rfl | hq
   . exact⟨o',e1,rfl⟩
   . rcases bT.mp hq with hq | hq
     . exact Y.objs q hq
     . exact(X.objs q (.tail _ (be _ hq))).move p.mono λb y hb=>keep b (.tail _ (dK.mpr ⟨q,hq,hb⟩)) y
 . show(L::dg (jW Lg o'::(σ'.objs++own))).Nodup
   rw[e];refine bU.mpr ⟨λhm=>?_,bx.mpr ⟨Y.nodup,n2,λa ha b hb q=>apart' b (.tail _ hb) (q▸ha)⟩⟩
   rcases bT.mp hm with hm | hm
   . exact apart' L dH hm
   . exact nL (be _ hm)
 . rw[show dg (⟨l8,jW Lg o'::(σ'.objs++own)⟩:St).objs= _ from e o' σ'.objs]at hb
   rcases fD hb with rfl | hb
   . exact noF _ dH
   . rcases bT.mp hb with hb | hb
     . exact Y.apart b hb
     . exact noF b (.tail _ hb)
 . rw[e];exact .tail _ (bh _ hm)
 . rw[e]at hb
   rw[e]
   rcases fD hb with rfl | hb
   . exact .inl dH
   . rcases bT.mp hb with hb | hb
     . exact(p.own b hb).imp_left λh=>.tail _ (bh _ h)
     . exact .inl (.tail _ (be _ hb))
 . rw[e]
   exact(p.frz b y h).imp_right (Or.imp_left λh=>.tail _ (bh _ h))
def Oa (B:cX) (m:Nat) (L Lg:Addr) (YJ:γ->AV->OL->Prop) (RJ:OL->Prop) (H:HL) (l8:LL) (own:OL) (O:cK) (F:Fz) (g:Nat) (s:Shared):List γ->cO->Shared->Prop
 | [],r,s'=>r=none/\∃ F' gb o',Holds B.P B.G L F' H ⟨l8,jW Lg o'::(gb++own)⟩ s'.heap/\eu O F (fin g s) (L::dg (jW Lg o'::(gb++own))) F' s'/\RJ gb
 | x::tr,r,s'=>∃ v d F' gb o' gs',r=some v/\Is B.P F' v d/\YJ x d gb/\Holds B.P B.G L F' H ⟨l8,jW Lg o'::(gb++own)⟩ s'.heap/\eu O F (fin g s) (L::dg (jW Lg o'::(gb++own))) F' (fin g s')/\s'.gens[g]? =some gs'/\vu B m Lg YJ RJ tr o' gb F' gs'
theorem ask {A:Around} {a:Addr} (hA:gk (m+1) A) (X:Holds B.P B.G L F H ⟨l8,jW Lg o::(g9++own)⟩ s.heap) (hg:s.heap.IsGen a g) (hgs:s.gens[g]? =some gs) (lv:vu B m Lg YJ RJ tr o g9 F gs):
 wpAny B.M A (pyNext (.ref a)) (Oa B m L Lg YJ RJ H l8 own (L::dg (jW Lg o::(g9++own))) F g s tr) (λw w=>False) s:=by
 obtain⟨⟨gc,hl,hn,wk⟩,low⟩:=lv;have X0:Holds B.P B.G L F H ⟨l8,jW Lg o::(g9++own)⟩ (s.setGen g .running).heap:=X
 have aI:g < s.gens.size:=by by_cases q:g < s.gens.size;exact q;simp[q]at hgs
 have aU:(s.setGen g .running).gens[g]? =some .running:=by unfold Shared.setGen;simp[aI]
 refine yv hA.handled (B.nolimit.keeps λb o e=>X.sub _ _ (X.core _ _ e)) (by have:=hA.depth;show A.depth < 1000;omega) hg hgs
  (wk A.in1 F (s.setGen g .running) ⟨hA.handled,by have:=hA.depth;show A.depth+m<=900;exact cm ‹_›,by have:=hA.units;show A.units+1+8*m<=9000;omega⟩ (X0.inner low hn hl)) λe s0 hq z=>?_
 induction tr using List.casesOn with
 | nil=>
  obtain⟨rfl,F',σ',Y,p,r⟩:=z;refine⟨rfl,λh' hk=>?_⟩
  refine kW (X0.outer Y p) ?_;rintro o' w X' p'
  have p'':=p'.fin aU
  rw[show fin g (s.setGen g .running)=fin g s from Shared.set_set s g _ _]at p''
  exact⟨rfl,F',σ'.objs,o',X'.grow hk,⟨λb y hb e=>hk _ _ (p''.keep b y hb e),p''.own,p''.frz,p''.mono,p''.gens,p''.os⟩,r⟩
 | cons x tr=>
  refine Rk (z) ?_;clear z;rintro v g5 l k c ph ⟨fs,F',σ',d,rfl,Y,p,y,nx⟩
  refine kW (X0.outer Y p) ?_;rintro o' hl' X' p'
  have p'':=p'.fin aU
  rw[show fin g (s.setGen g .running)=fin g s from Shared.set_set s g _ _]at p''
  have h1:s0.gens[g]? =some .running:=p'.gens.keep _ _ aU
  have hV:g < s0.gens.size:=by by_cases q:g < s0.gens.size;exact q;simp[q]at h1
  refine⟨v,d,F',σ'.objs,o',(End.susp v g5 l k c ph fs).genState,rfl,Y.hold dH,y,X',?_,by unfold Shared.setGen;simp[hV],⟨⟨σ'.loc,hl',Y.names,λA0 F1 s6 hP X1=>nx A0 F1 s6 hP X1⟩,low⟩⟩
  rw[show fin g (s0.setGen g (End.susp v g5 l k c ph fs).genState)=fin g s0 from Shared.set_set s0 g _ _];exact p''
end
end
section
def vn (g:Nat) (o:Obj):Prop:=o.cls=.type "generator"/\(∃ nm qn,o.data=.fields #[.int g 0,nm,qn])/\o.slots=#[]
theorem zU (a:Array GenState) (x:GenState):gq a ((a.push x).setIfInBounds a.size .finished):=by
 refine⟨λi y e=>?_,λi y e=>?_⟩
 . have:i < a.size:=by by_cases q:i < a.size;exact q;simp[q]at e
   rw[Array.getElem?_setIfInBounds,cC (by exact Nat.ne_of_gt ‹_›),Array.getElem?_push,cC (by exact Nat.ne_of_lt ‹_›)];exact e
 . rw[Array.getElem?_setIfInBounds]at e
   by_cases q:a.size=i
   . subst q;simp at e;subst e;exact .inr rfl
   . rw[cC q,Array.getElem?_push,cC (λz=>q z.symm)]at e;exact .inl e
section
variable {B:cX} {n:Nat} {L:Addr} {H:HL} {l8:LL} {oe:OL}
theorem vY {F:Fz} {a:Addr} {g:Nat} {P:Params} {h:Heap} (x:Is P F (.ref a) (.obj (vn g))) (sub:∀ b o,F b=some o->h.get? b=some o):h.IsGen a g:=
 jJ (jq x) λy y q e p=>xr p λp1 p2 p3=>Rm p2 λnm qn p2=>by cases q;exact⟨_,nm,qn,sub _ _ e,p1,p2,p3⟩
theorem B6 {A:Around} {F:Fz} {s:Shared} {x C dx f:Addr} {fs:FL} {n5 qc:Str} {pt:Arguments} {b0:cH} {se:Scope} {dV kV d8 pm c6 ct oc:Value} {an od:Option Addr} {ol:cT} {pC:Str} (hA:gk n A)
 (X : Holds B.P B.G L F H ⟨l8,oe⟩ s.heap) (mo:(x,AO.inst C dx fs)∈oe) (hi:findIn B.K (.ref C) "__iter__"=some (some (.ref f))) (hfn:isFn B.K (.ref f)=true)
 (ho : B.K.lookup f=some ⟨oc,od,.func (fnOf n5 qc pt b0 se dV kV d8 pm an c6 ct),ol⟩) (aP:codeIn B.K c6 qc=true) (hb:fE B (fnOf n5 qc pt b0 se dV kV d8 pm an c6 ct) [pC] [.ref x] [.ref x])
 (aR : se.names.lookup pC=some .local) (aH:autoParam (se.isCoroutine=false) bR) (aC:autoParam (se.isGenerator=true) bR) (hk:autoParam (se.kind=.function) bR) (aj:autoParam (∀ x∈se.names,x.2≠.cell) bD):
 wpAny B.M A (pyIter (.ref x)) (λr s'=>∃ a g Lg o F',r=.ref a/\Holds B.P B.G L F' H ⟨l8,jW Lg o::oe⟩ s'.heap/\eu (L::dg oe) F s (L::dg (jW Lg o::oe)) F' (fin g s')/\Is B.P F' (.ref a) (.obj (vn g))/\
  s'.gens[g]? =some (.fresh (.func b0 (envOf qc se Lg f c6)))/\(∃ mm,(∀ h:Heap,h.get? Lg=some o->h.Ns Lg mm)/\∀ y d,(y,some d)∈[(pC,some (AV.ref x))]->∃ v,mm y=some v/\Is B.P F' v d)/\B.G.objs.size<=Lg) (λ_ _=>False) s:=by
 obtain⟨h1,es,k,h2,h3⟩:=X.objs _ mo;have I:InstAt s.heap x (instObj C dx) C (some (dictOf es k)):=⟨h1,rfl,rfl,h2⟩
 have spec:Looks B.M s.heap (specialOf (.ref x) "__iter__") (some (.ref f)):=I.type.andThen (looks_findIn X.K hi)
 have bnd:Looks B.M s.heap (bindSpecial (.ref f) (.ref x)) (.ref f,[.ref x]):=bind_fn X.K _ (beq_iff_eq.mp hfn)
 unfold pyIter;refine cw (spec.here ?_)
 refine cw ?_
 simp only[callSpecialIfBoundUnlessNone?,bindSpecialIfBound?]
 refine wpAny_holding (cw (cw (spec.here ?_)))
 refine cw (wpAny_askSetting (wpAny_ite ?_))
 have nn:(Value.ref f==Value.none)=false:=by rfl
 have fin_:∀ (Q:cO->Shared->Prop) (refuse:Sem Value),wpAny B.M A (call (.ref f) [.ref x]) (λv=>Q (some v)) (λ_ _=>False) s->
  wpAny B.M A (if (Value.ref f==Value.none)=true then (refuse >>= λv=>pure (some v)) else (call (.ref f) [.ref x] >>= λv=>pure (some v))) Q (λ_ _=>False) s:=λQ refuse w=>by
  refine nn▸(cC bw)▸?_
  exact cw (cx w (λv s' z=>cy z) λ_ _ z=>z)
 have main:wpAny B.M A (call (.ref f) [.ref x]) (λv s'=>∃ a g Lg o F',v=.ref a/\Holds B.P B.G L F' H ⟨l8,jW Lg o::oe⟩ s'.heap/\eu (L::dg oe) F s (L::dg (jW Lg o::oe)) F' (fin g s')/\Is B.P F' (.ref a) (.obj (vn g))/\
  s'.gens[g]? =some (.fresh (.func b0 (envOf qc se Lg f c6)))/\(∃ mm,(∀ h:Heap,h.get? Lg=some o->h.Ns Lg mm)/\∀ y d,(y,some d)∈[(pC,some (AV.ref x))]->∃ v,mm y=some v/\Is B.P F' v d)/\B.G.objs.size<=Lg) (λ_ _=>False) s:=by
  refine dQ (hb F s [.ref x] (.cons (.ref x) .nil) X.K X.core) ?_;rintro v8 hv aG
  obtain⟨v1,q1,rfl⟩:∃ v1,Is B.P F v1 (.ref x)/\v8=[v1]:=by obtain⟨v1,rfl,q1⟩:=ES hv;exact⟨_,q1,rfl⟩
  have hlim:s.heap.NoLimit:=B.nolimit.keeps λb o e=>X.sub _ _ (X.core _ _ e)
  refine wpAny_call (codeAny_call_generator (body:=b0) (by have:=hA.depth;show A.depth < 1000;omega) (X.K _ _ ho) rfl aH aC rfl (codeRec_of X.K aP) (aG _ _ _ _ ?_))
  refine wpAny_newFunctionEnv aj (λy hy=>by rcases bq.mp hy with rfl;exact aR) (λh6 h8 h9=>⟨hlim.fresh _ h9,?_⟩) hk
  have hC:=eI s.heap
  have up:∀ b o,s.heap.get? b=some o->h6.get? b=some o:=λb o e=>h9.extBut b o (λz=>by rw[z,hC]at e;contradiction) (bc _ e)
  refine Ry (h8) ?_;clear h8;rintro oL ej ep l1 l2
  have T:di B L H ⟨l8,oe⟩ F s { s with heap:=h6 } (λF' σ'=>F'=F/\σ'=⟨l8,jW s.heap.objs.size oL::oe⟩):=
   di.track (o:=.is (·=oL)) X up (λb hb=>by refine(bq.mp hb)▸?_;exact hC) (by simp[AO.more]) ⟨oL,l1,rfl⟩ rfl rfl ⟨rfl,rfl⟩
  obtain⟨F0,a1,X0,p0,rfl,rfl⟩:=T;obtain⟨go,hgo⟩:∃ go:Obj,go={ cls:=.type "generator",data:=.fields #[.int s.gens.size 0,.str n5 (s.toks+([pC].zip [v1]).length),.str qc (s.toks+([pC].zip [v1]).length+1)] }:=⟨_,rfl⟩
  have pg:vn s.gens.size go:=by subst hgo;exact⟨rfl,⟨_,_,rfl⟩,rfl⟩
  have hga:(h6.push go).get? h6.objs.size=some go:=bm _ (by subst hgo;rfl)
  obtain⟨X1,le⟩:=X0.frozen (h':=h6.push go) (λb o e=>bc _ e) (eI h6) hga
  refine⟨h6.objs.size,s.gens.size,s.heap.objs.size,oL,F0.put h6.objs.size go,rfl,?_⟩
  refine⟨by rw[hgo]at X1 |-;exact X1,⟨λb o hb e=>bc _ (p0.keep b o hb e),p0.own,λb o e=>?_,p0.mono.trans le,zU _ _,rfl⟩,.obj (Fz.put_self ..) pg,?_,⟨_,λh e=>⟨oL,ej,ep,e,l2⟩,λy d hy=>?_⟩,X.big⟩
  . unfold Fz.put at e
    split at e
    . rename_i z
      refine .inr (.inr ?_)
      refine z▸?_
      induction w:s.heap.get? h6.objs.size using Option.casesOn with
      | none=>rfl
      | some o=>have:=up _ _ w;rw[eI h6]at this;contradiction
    . exact p0.frz b o e
  . show(s.gens.push _)[s.gens.size]? =some _
    rw[Array.getElem?_push_size];rfl
  . rcases bq.mp hy with e
    cases e
    exact⟨v1,by simp,q1.mono le⟩
 split
 . refine cw (bnd.here (cy (fin_ _ _ (cx main (λv s' z=>?_) λ_ _ z=>z))))
   refine Rh (z) ?_;clear z;rintro a g Lg o F' rfl X' r
   exact cw (wpAny_specialOf (vY r.2.1 X'.sub).typeIs slot_gen_next.lookup (cy ⟨a,g,Lg,o,F',rfl,X',r⟩))
 . refine wpAny_tryCatch (cw (bnd.here (cy (fin_ _ _ (cx main (λv s' z=>?_) λ_ _ z=>z.elim)))))
   refine Rh (z) ?_;clear z;rintro a g Lg o F' rfl X' r
   exact cw (wpAny_specialOf (vY r.2.1 X'.sub).typeIs slot_gen_next.lookup (cy ⟨a,g,Lg,o,F',rfl,X',r⟩))
end
end
section
section
variable {γ:Type} {B:cX} {m n:Nat} {L:Addr} {YJ:γ->AV->OL->Prop} {RJ:OL->Prop} {tr:List γ} {H:HL} {e9:Env} {own:OL} {fi:γ->AV}
end
end
section
section
variable {γ:Type} {B:cX} {m n:Nat} {L:Addr} {YJ:γ->AV->OL->Prop} {RJ:OL->Prop} {tr:List γ} {H:HL} {e9:Env} {σ:St}
def kQ (B:cX) (n m:Nat) (x:Addr) (g9:OL) (YJ:γ->AV->OL->Prop) (RJ:OL->Prop) (tr:List γ):Prop:=
 ∀ A F s L H l8 own,gk n A->Holds B.P B.G L F H ⟨l8,g9++own⟩ s.heap->wpAny B.M A (pyIter (.ref x)) (λr s'=>∃ a g Lg o F' gs,r=.ref a/\Holds B.P B.G L F' H ⟨l8,jW Lg o::(g9++own)⟩ s'.heap/\
  eu (L::dg (g9++own)) F s (L::dg (jW Lg o::(g9++own))) F' (fin g s')/\Is B.P F' (.ref a) (.obj (vn g))/\s'.gens[g]? =some gs/\vu B m Lg YJ RJ tr o g9 F' gs) (λy y=>False) s
theorem kQ.of {x C dx f:Addr} {fs:FL} {g9:OL} {n5 qc:Str} {pt:Arguments} {b0 b3:cH} {se si:Scope} {dV kV d8 pm c6 ct oc:Value} {an od:Option Addr} {ol:cT} {pC:Str}
 (ho:B.K.lookup f=some ⟨oc,od,.func (fnOf n5 qc pt b0 se dV kV d8 pm an c6 ct),ol⟩) (mo:(x,AO.inst C dx fs)∈g9) (hi:findIn B.K (.ref C) "__iter__"=some (some (.ref f))) (hfn:isFn B.K (.ref f)=true)
 (aP:codeIn B.K c6 qc=true) (hb:fE B (fnOf n5 qc pt b0 se dV kV d8 pm an c6 ct) [pC] [.ref x] [.ref x])
 (hw:∀ Lg,GW B m Lg YJ RJ (.func b3 (envOf qc si Lg f c6)) [] (B.M.den (.func b3 (envOf qc si Lg f c6))) tr ⟨[(pC,some (.ref x))],g9⟩)
 (eb:autoParam (b0=b3) bC) (es:autoParam (se=si) bC)
 (aR:autoParam (si.names.lookup pC=some .local) bR) (aH:autoParam (si.isCoroutine=false) bR) (aC:autoParam (si.isGenerator=true) bR) (hk:autoParam (si.kind=.function) bR) (aj:autoParam (∀ x∈si.names,x.2≠.cell) bD):kQ B n m x g9 YJ RJ tr:=λA F s L H l8 own hA X=>by
 subst eb es
 refine cx (B6 hA X (bh _ mo) hi hfn ho aP hb aR aH aC hk aj) (λr s' z=>?_) λy y z=>z
 refine Sc (z) ?_;clear z;rintro a g Lg o F' rfl X' p ⟨ga,hg,hl,low⟩
 exact⟨a,g,Lg,o,F',_,rfl,X',p,ga,hg,⟨⟨_,hl,by simp,λA0 F1 s6 hP X1=>(hw Lg).run A0 F1 s6 hP X1⟩,low⟩⟩
end
end
section
def qz (ns:List Int) (o:Obj):Prop:=o.cls=.type "list"/\∃ vs n,o.data=.seq vs.toArray n/\IntsAre vs ns
theorem AF {P:Params} {F:Fz} {vs:cJ} {ns:List Int} (h:IntsAre vs ns):IsAll P F vs (ns.map .int):=by
 induction h with
 | nil=>exact .nil
 | cons n t _ ih=>exact .cons (.int n t) ih
section
variable {B:cX} {n:Nat} {L:Addr} {H:HL} {σ:St} {e9:Env}
end
end
section
theorem Eu {pv:Program} {w:World} {K:Frag} {s0:Shared} {mg mb:Str->cO} {x:Str} {fa fl l:Addr} {vs:cJ} {ns:List Int} {n:Nat} {Q:Result->Shared->Prop}
 (KX :K.In s0.heap) (hmg:mg x=some (.ref fa)) (g:s0.heap.Ns mainGlobals mg) (b:s0.heap.Ns builtinsNs mb) (hb:∀ x,x≠("__name__":Str)->mb x=bootBuiltins x) (nl:s0.heap.NoLimit) (e:nsIn K mainGlobals x=some (some (.ref fl)))
 (hL :s0.heap.IsList l vs.toArray) (hI:IntsAre vs ns) (hg:s0.gens=#[]) (hn:n<=500)
 (c :∀ B:cX,B.prog=pv->B.w=w->B.K=K->cY B n fl [.obj (qz ns)] [] λd u=>d=.bool true)
 (hQ :∀ s',(∀ b o,s0.heap.get? b=some o->s'.heap.get? b=some o)->s'.os=s0.os->AllBare s'.gens->Q (.ok (.ret (.bool true))) s'):
 codeAny (model pv w) callerA (.call (.ref fa) ⟨[.ref l],[]⟩) Q s0:=by
 have ef:=mg_of KX g e
 obtain rfl:=Value.ref.inj (Option.some.inj (hmg.symm.trans ef))
 let B:cX:=⟨pv,w,s0.heap,K,KX,⟨mg,g⟩,⟨mb,b,hb⟩,nl⟩
 refine kW (hL) ?_;clear hL;rintro o ho hc ⟨m,hd⟩
 have hA:gk n callerA:=by
  refine⟨rfl,?_,?_⟩
  . have:callerA.depth=301:=by decide+kernel
    rw[this];omega
  . show 4+8*n<=9000;omega
 refine codeAny_mono (c B rfl rfl rfl callerA (s0.heap.get? ·) s0 [.ref l] hA ⟨λu u e=>e,λu u e=>e,(λp hp=>nomatch hp),List.nodup_nil,(λb hb=>nomatch hb),cv _⟩ (.cons (.obj ho ⟨hc,vs,m,hd,hI⟩) .nil)) λr s' z=>?_
 obtain⟨v,d,o5,F',rfl,hv,x,p,rfl⟩:=z;have:v=.bool true:=by cases hv;rfl
 subst this;refine hQ s' (λb o e=>p.keep b o (λh=>nomatch h) e) p.os λy hy=>?_
 obtain⟨i,hi,e⟩:=Array.getElem_of_mem hy
 rcases p.gens.bare i y (by rw[Array.getElem?_eq_getElem hi,e])with z | z
 . rw[hg]at z;simp at z
 . exact z
end
section
section
variable {B:cX} {n:Nat} {L:Addr} {H:HL} {σ:St} {e9:Env}
end
end
section
variable {A:Around} {s:Shared} {l b:Addr}
def uT (pv:Program) (w:World) (A:Around) (s:Shared) (v y:Value):Prop:=∀ (E:Value->Shared->Prop) (Q:Bool->Shared->Prop),Q true s->wpAny (model pv w) A (eqBool v y) Q E s
section
variable {pv:Program} {w:World}
theorem uT.of {v y:Value} (h:SeqAt.EqAt A s v y true):uT pv w A s v y:=λE Q q=>h pv w E Q q
theorem uT.refs (h:∀ (E:Value->Shared->Prop) (Q:Value->Shared->Prop),Q (.bool true) s->wpAny (model pv w) A (richCompare .Eq (.ref l) (.ref b)) Q E s):uT pv w A s (.ref l) (.ref b):=λE Q q=>by
 by_cases e:l=b
 . subst e;exact SeqAt.EqAt.same _ pv w E Q q
 . unfold eqBool
   refine wpAny_holding ?_
   refine wpAny_ite_split (λhab=>cD (by have:=cz hab;injection this) e) (λy=>?_)
   exact cw (h E _ (wpAny_truthy_bool q))
theorem CG {items items2:Array Value} {n n2:Nat} {dd dd2:Option Addr} {sl sl2:cT} (aI:items.size=items2.size) (k:Nat):
 ∀ i:Nat,items.size - i=k->∀ (A:Around) (R:Result->Shared->Prop) (s:Shared),s.heap.get? l=some { cls:=.type "list",dict:=dd,data:=.seq items n,slots:=sl }->s.heap.get? b=some { cls:=.type "list",dict:=dd2,data:=.seq items2 n2,slots:=sl2 }->
  (∀ j (h1:j < items.size) (h2:j < items2.size),uT pv w A.in1 s items[j] items2[j])->R (.ok (.ret (.bool true))) s->
  wpAny (model pv w) A.in1 (Builtin.«list.__eq__.loop» ⟨[.ref l,.ref b,rawInt i,rawInt 2],[]⟩) (λfin s'=>match fin with | .done f=>R (.ok f) s' | .again c'=>c'.quiet=true/\codeAny (model pv w) A c' R s') (λe s'=>R (.error e) s') s:=by
 induction k with
 | zero=>
  intro i hk A R s hl hb he h;obtain⟨hp,g,d,tk,os⟩:=s
  wp_walk using AutoSeq1.wpAny_loadPart' hl,AutoSeq1.wpAny_loadPart' hb
  have hi1:items[((i:Nat):Int).toNat]? =none:=by simp;omega
  have hi2:items2[((i:Nat):Int).toNat]? =none:=by simp;omega
  rw[hi1,hi2]
  wp_walk using AutoSeq1.wpAny_loadPart' hl,AutoSeq1.wpAny_loadPart' hb
  show R (.ok (.ret (.bool (items.size==items2.size)))) _
  rw[aI]
  simpa using h
 | succ k ih=>
  intro i hk A R s hl hb he h;obtain⟨hp,g,d,tk,os⟩:=s
  wp_walk using AutoSeq1.wpAny_loadPart' hl,AutoSeq1.wpAny_loadPart' hb
  have au:i < items.size:=by omega
  have hlt2:i < items2.size:=by omega
  have hi1:items[((i:Nat):Int).toNat]? =some items[i]:=by simp[au]
  have hi2:items2[((i:Nat):Int).toNat]? =some items2[i]:=by simp[hlt2]
  have hc:((i:Int)+1)=((i+1:Nat):Int):=by push_cast;rfl
  rw[hi1,hi2];refine cw (he i au hlt2 _ _ ?_)
  wp_walk
  rw[hc];exact⟨plainId_quiet MeetsSeq3.plain_eq_loop _,codeAny_builtin MeetsSeq3.entry_eq_loop (by
   rw[Around.under_plainId MeetsSeq3.plain_eq_loop _];exact ih (i+1) (by omega) A R _ hl hb he h)⟩
theorem Aa {E:Value->Shared->Prop} {items items2:Array Value} {Q:Value->Shared->Prop} (hl:s.heap.IsList l items) (hb:s.heap.IsList b items2) (aI:items.size=items2.size) (hu:A.units < cLine)
 (he:∀ j (h1:j < items.size) (h2:j < items2.size),uT pv w A.in1 s items[j] items2[j]) (h:Q (.bool true) s):wpAny (model pv w) A (richCompare .Eq (.ref l) (.ref b)) Q E s:=by
 refine kW (id hl) ?_;rintro ⟨cls,dd,data,sl⟩ ho hc ⟨n,hd⟩
 refine kW (id hb) ?_;rintro ⟨cls2,dd2,data2,sl2⟩ ho2 hc2 ⟨n2,hd2⟩
 simp only at hc hd hc2 hd2
 subst hc hd hc2 hd2
 have f3:=AutoSeq1.sub_list_list
 have hne:¬ (items.size !=items2.size)=true:=by simp[aI]
 have hT:s.TypeIs (.ref l) "list":=⟨_,ho,rfl⟩
 refine wpAny_richCompare_same_room (op:=.Eq) hT ⟨_,ho2,rfl⟩ F.slot_list_eq (wpAny_call (codeAny_call_builtin F.slot_list_eq.plain F.entry_list_eq (F.slot_list_eq.check _ _ _ _ _ _ _ _ hT (F.args_list_eq_2 _ _) ?_))) hu
 obtain⟨hp,g,d,tk,os⟩:=s
 wp_walk using AutoSeq1.wpAny_loadPart' ho,AutoSeq1.wpAny_loadPart' ho2
 exact⟨plainId_quiet MeetsSeq3.plain_eq_loop _,codeAny_builtin MeetsSeq3.entry_eq_loop (by
  rw[Around.under_plainId MeetsSeq3.plain_eq_loop _];exact CG aI _ 0 rfl A (wants (λv s'=>v≠.notImplemented/\Q v s') E) _ ho ho2 he ⟨(λx=>nomatch x),h⟩)⟩
end
end
section
noncomputable def GB:AV->Bool
 | .none=>true | .bool _=>true | .int _=>true | .str _=>true | _=>false
theorem DH {P:Params} {F:Fz} {A:Around} {s:Shared} {v y:Value} {d:AV} (h:Is P F v d) (k:Is P F y d) (f:GB d=true):SeqAt.EqAt A s v y true:=by
 induction d using AV.casesOn with
 | none=>exact(gD h).symm▸(gD k).symm▸SeqAt.EqAt.same _
 | bool b=>exact(lW h).symm▸(lW k).symm▸SeqAt.EqAt.same _
 | int i=>
  obtain⟨t,rfl⟩:=dk h;obtain⟨u,rfl⟩:=dk k;exact bM i▸SeqAt.EqAt.int_int (A:=A) (s:=s) i t i u
 | str l=>
  obtain⟨t,rfl⟩:=dy h;obtain⟨u,rfl⟩:=dy k;exact bM (S l)▸SeqAt.EqAt.str_str (A:=A) (s:=s) (S l) t (S l) u
 | _=>exact Bool.noConfusion f
theorem jr {l:FL} (nd:(l.map (·.1)).Nodup) {p:Str×AV} (hp:p∈l):ew p.1 l=some p.2:=by
 induction l with
 | nil=>contradiction
 | cons q r ih=>
  rw[cf,bU]at nd
  unfold ew;rw[List.find?_cons]
  rcases fD hp with rfl | hp
  . simp
  . have:(q.1==p.1)=false:=beq_eq_false_iff_ne.mpr λe=>nd.1 (e▸List.mem_map_of_mem hp)
    exact(this)▸(ih nd.2 hp)
section
variable {pv:Program} {w:World} {F:Fz} {A:Around} {s:Shared}
end
section
variable {B:cX} {n:Nat} {L:Addr} {H:HL} {σ:St} {e9:Env}
end
end
section
section
variable {γ:Type} {B:cX} {m n:Nat} {L:Addr} {H:HL} {e9:Env} {σ:St}
theorem Bu {a b:Value} {i j k l:Int} {Φ:PV} (ma:(a,.tup [.int i,.int j])∈H) (mb:(b,.tup [.int k,.int l])∈H) (h:∀ v,Φ v (.bool (i==k&&j==l)) σ):WV B n L (compareOp .Eq a b) H σ Φ:=
 zE ma mb rfl rfl (by simp[SeqAt.shaped,PyData.canLay0,PyData.canLayAll0,PyData.depth,PyData.depthAll]) (by simp[SeqAt.shaped,PyData.canLay0,PyData.canLayAll0,PyData.depth,PyData.depthAll]) (by simp[PyData.eqv,PyData.eqvAll]) h
end
end
section
section
variable {pv:Program} {w:World}
theorem yD {A:Around} {E:Value->Shared->Prop} {s:Shared} {l b:Addr} {items items2:Array Value} {Q:Value->Shared->Prop} (hl:s.heap.IsTuple l items) (hb:s.heap.IsTuple b items2) (aI:items.size=items2.size) (hu:A.units < cLine)
 (he :∀ j (h1:j < items.size) (h2:j < items2.size),uT pv w A.in1 s items[j] items2[j]) (h:Q (.bool true) s):wpAny (model pv w) A (richCompare .Eq (.ref l) (.ref b)) Q E s:=by
 refine kW (id hl) ?_;rintro ⟨cls,dd,data,sl⟩ ho hc ⟨n,hd⟩
 refine kW (id hb) ?_;rintro ⟨cls2,dd2,data2,sl2⟩ ho2 hc2 ⟨n2,hd2⟩
 simp only at hc hd hc2 hd2
 subst hc hd hc2 hd2
 have f2:=AutoSeq1.sub_tuple_tuple
 have hT:s.TypeIs (.ref l) "tuple":=⟨_,ho,rfl⟩
 refine wpAny_richCompare_same_room (op:=.Eq) hT ⟨_,ho2,rfl⟩ F.slot_tuple_eq (wpAny_call (codeAny_call_builtin F.slot_tuple_eq.plain F.entry_tuple_eq (F.slot_tuple_eq.check _ _ _ _ _ _ _ _ hT (F.args_tuple_eq_2 _ _) ?_))) hu
 obtain⟨hp,g,d,tk,os⟩:=s;have hZ:(items.toList.zip items2.toList).length=min items.size items2.size:=by simp
 have main:wpAny (model pv w) A.in1 (Builtin.«tuple.__eq__» ⟨[.ref l,.ref b],[]⟩) (λfin s'=>∃ v,fin=.done (.ret v)/\(v≠.notImplemented/\Q v s')) (λe s'=>E e s') ⟨hp,g,d,tk,os⟩:=by
  wp_walk using AutoSeq1.wpAny_loadPart' ho,AutoSeq1.wpAny_loadPart' ho2,wpAny_forIn_list _ (λr8 b s'=>b.1=none/\s'=⟨hp,g,d,tk,os⟩/\∃ i,r8=(items.toList.zip items2.toList).drop i) _
  case turn=>
   rintro ⟨y,x⟩ r8 b s' ⟨hb',rfl,i,hz⟩;have au:i < (items.toList.zip items2.toList).length:=by
    rcases Nat.lt_or_ge i (items.toList.zip items2.toList).length with h' | h'
    . exact h'
    . rw[List.drop_of_length_le h']at hz;contradiction
   have hm:i < min items.size items2.size:=hZ▸au
   have h1:i < items.size:=tB hm (Nat.min_le_left _ _)
   have h2:i < items2.size:=tB hm (Nat.min_le_right _ _)
   rw[List.drop_eq_getElem_cons au]at hz
   injection hz with hyx hrest
   have hy:y=items[i]:=by have:=cB Prod.fst hyx;simpa using this
   have hx:x=items2[i]:=by have:=cB Prod.snd hyx;simpa using this
   subst hy hx
   refine cw (he i h1 h2 _ _ ?_)
   wp_walk
   exact⟨rfl,rfl,i+1,hrest⟩
  case fin=>
   rintro ⟨b1,b2⟩ s' ⟨hb',rfl,i,hz⟩;simp only at hb'
   subst hb'
   wp_walk
   refine⟨_,rfl,?_⟩
   have:Builtin.Tuple.tupleCompareSizes .Eq items.size items2.size=.bool true:=by rw[aI];simp[Builtin.Tuple.tupleCompareSizes]
   first
    | (exact(this)▸(⟨(λx=>nomatch x),h⟩))
    | (simp only[aI,Builtin.Tuple.tupleCompareSizes,bM];exact⟨(λx=>nomatch x),h⟩)
  case h=>
   exact⟨rfl,rfl,0,rfl⟩
 refine cx main (λfin s' z=>?_) λu u z=>z
 refine dQ (z) ?_;clear z;rintro v rfl q
 exact q
end
end
section
section
variable {pv:Program} {w:World} {A:Around} {E:Value->Shared->Prop} {s:Shared}
inductive kd (pv:Program) (w:World) (A:Around) (s:Shared) (kb:cS):cS->Prop
 | nil:kd pv w A s kb []
 | cons {k:Str} {v y:Value} {r:cS}:valueAt kb k=some y->uT pv w A s v y->kd pv w A s kb r->kd pv w A s kb ((k,v)::r)
theorem wt {nm:String} {a b:Addr} {ka kb:cS} {Q:Bool->Shared->Prop} (ha:(a==sysModules)=false) (hb:(b==sysModules)=false)
 (da :s.heap.DictOf (strKind pv w) a ka) (db:s.heap.DictOf (strKind pv w) b kb) (am:ka.length=kb.length) (hits:kd pv w A s kb ka) (h:Q true s):
 wpAny (model pv w) A (Builtin.Dict.samePairs nm a b) Q E s:=by
 refine R8 (da) ?_;clear da;rintro oa es ep hoa z hda aY hpa z
 refine R8 (db) ?_;clear db;rintro ob ej ep' hob z hdb hkb hpb z
 have hla:ka.length=es.size:=by rw[<-hpa.length];exact Array.length_toList
 have hlb:kb.length=ej.size:=by rw[<-hpb.length];exact Array.length_toList
 have aI:es.size=ej.size:=by omega
 have hfind:∀ k,findBy (strKind pv w).is ej k=valueAt kb k:=λk=>by
  rw[<-hpb.find k];clear hlb hpb hkb hdb hob aI;obtain⟨l⟩:=ej;simp[findBy]
 unfold Builtin.Dict.samePairs Builtin.Dict.showsAll;rw[cC (show ¬ (a==sysModules)=true by rw[ha];exact bw),cC (show ¬ (b==sysModules)=true by rw[hb];exact bw)]
 refine cw (cy (cw (cy ?_)))
 refine cw (wpAny_dictEntries hoa hda ?_)
 dsimp only;refine cw (wpAny_dictEntries hob hdb ?_)
 rw[cC (by rw[aI];simp)]
 refine cw (wpAny_dictEpoch hoa hda ?_)
 refine cw ?_
 rw[Std.Legacy.Range.forIn_eq_forIn_range'];simp only[Std.Legacy.Range.size,Nat.sub_zero,Nat.add_sub_cancel,Nat.div_one]
 refine wpAny_forIn_list _ (λr8 q s'=>s'=s/\q=(none,())/\∃ i,r8=List.range' i (es.size - i)/\i<=es.size/\kd pv w A s kb (ka.drop i)) _ ?_ ?_ _ _ ⟨rfl,rfl,0,by rfl,cr _,hits⟩
 . intro x r8 q s' z9;refine xr z9 ?_;clear z9;rintro rfl rfl ⟨i,hr,hi,hpre⟩
   have au:i < es.size:=by
    rcases Nat.lt_or_ge i es.size with h | h
    . exact h
    . rw[Nat.sub_eq_zero_of_le h]at hr;simp at hr
   obtain⟨rfl,hrest⟩:x=i/\r8=List.range' (i+1) (es.size - (i+1)):=by
    have e:es.size - i=(es.size - (i+1))+1:=by omega
    rw[e,List.range'_succ]at hr
    injection hr with h1 h2
    exact⟨h1,h2⟩
   refine cw (wpAny_dictEntries hoa hda ?_)
   rw[Array.getElem?_eq_getElem au];have hlt':x < ka.length:=by rw[hla];exact au
   refine Rm (show ∃ k v,ka[x]=(k,v)from⟨_,_,rfl⟩) ?_;rintro k v hkv
   have hdrop:ka.drop x=(k,v)::ka.drop (x+1):=by rw[<-hkv];exact List.drop_eq_getElem_cons hlt'
   obtain⟨hkey,hval⟩:=hpa.get? (i:=x) (e:=es[x]) (k:=k) (v:=v) (by rw[Array.getElem?_toList];exact Array.getElem?_eq_getElem au) (by rw[b9 hlt',hkv])
   refine dQ (aY es[x] (Array.getElem_mem au)) ?_;rintro k' hk' hh
   have ekk:k'=k:=(strKind pv w).inj _ _ _ hk' hkey
   rw[ekk]at hh
   rw[hdrop]at hpre
   show wpAny _ _ (holding [es[x].key,es[x].val] _ >>= _) _ _ _
   rw[hh];refine cw (wpAny_holding (cw (wpAny_dictFind_of hkey hob hdb hkb ?_)))
   cases hpre with
   | @cons _ _ y _ hy he hrr=>
   induction hj:ej.findIdx? λe=>(strKind pv w).is k e.key using Option.casesOn with
   | none=>
    have hn:valueAt kb k=none:=by rw[<-hfind k,findBy_of_findIdx?,hj]
    rw[hn]at hy;exact nomatch hy
   | some j=>
    refine dQ (Array.findIdx?_eq_some_iff_getElem.mp hj) ?_;rintro hjlt z z
    have hv':valueAt kb k=some ej[j].val:=by
     rw[<-hfind k,findBy_of_findIdx?,hj];simp[Array.getElem?_eq_getElem hjlt]
    refine cw (wpAny_dictEntries hob hdb ?_)
    rw[Array.getElem?_eq_getElem hjlt];have ey:ej[j].val=y:=Option.some.inj (hv'.symm.trans hy)
    rw[<-ey,<-hval]at he
    refine wpAny_holding (he _ _ ?_)
    show wpAny _ _ (if (!true)=true then _ else _) _ _ _
    rw[cC (by decide)];refine cw (wpAny_dictEpoch hoa hda ?_)
    rw[cC (by simp)];exact cy ⟨rfl,rfl,x+1,hrest,au,hrr⟩
 . intro q s' z9;refine xr z9 ?_;clear z9;rintro rfl rfl ⟨i,hr,hi,hpre⟩
   refine cy ?_
   exact h
theorem Bx {a b:Addr} {ka kb:cS} {Q:Value->Shared->Prop} (ha:(a==sysModules)=false) (hb:(b==sysModules)=false)
 (da:s.heap.DictOf (strKind pv w) a ka) (db:s.heap.DictOf (strKind pv w) b kb) (hu:A.units < cLine) (am:ka.length=kb.length) (hits:kd pv w A.in1 s kb ka) (h:Q (.bool true) s):
 wpAny (model pv w) A (richCompare .Eq (.ref a) (.ref b)) Q E s:=by
 refine wpAny_richCompare_same_room (op:=.Eq) da.typeIs db.typeIs PySem.F.slot_dict_eq (wpAny_call_entry PySem.F.slot_dict_eq da.typeIs PySem.F.entry_dict_eq ?_ (PySem.F.args_dict_eq_2 _ _)) hu
 refine cw ?_
 unfold Builtin.Dict.dictSlotArgs;refine cw (wpAny_notOrdered_dict da.typeIs ?_)
 refine cy ?_
 refine cw (wpAny_isInstance (T:="dict") db.typeIs PySem.F.sub_dict_dict ?_)
 simp only[Bool.not_true,Bool.false_eq_true,if_false]
 refine cw (cy (cw (cy ?_)))
 refine cw (wt ha hb da db am hits ?_)
 refine cy ⟨_,rfl,?_,?_⟩
 . exact λx=>nomatch x
 . simpa using h
end
inductive kF:Nat->AV->Prop
 | none {n}:kF n .none
 | bool {n b}:kF n (.bool b)
 | int {n i}:kF n (.int i)
 | str {n l}:kF n (.str l)
 | tup {n l}:(∀ d∈l,kF n d)->kF (n+1) (.tup l)
 | lst {n l}:(∀ d∈l,kF n d)->kF (n+1) (.lst l)
 | dct {n l}:(∀ p∈l,kF n p.2)->kF (n+1) (.dct l)
section
variable {pv:Program} {w:World} {F:Fz} {s:Shared}
theorem IsAll.get {P:Params} {vs:cJ} {l:cG} (h:IsAll P F vs l) {j:Nat} (hj:j < l.length) (h1:j < vs.length):Is P F vs[j] l[j]:=by
 refine dQ (kY.nth h (k:=j) (d:=l[j]) (by simp[hj])) ?_;rintro v e q
 have:vs[j]=v:=by rw[b9 h1]at e;exact Option.some.inj e
 exact(this)▸(q)
theorem Fc (sub:∀ b o,F b=some o->s.heap.get? b=some o):∀ (n:Nat) {d:AV},kF n d->∀ {A:Around} {v y:Value},Is w.params F v d->Is w.params F y d->A.units+2*n < cLine->uT pv w A s v y:=by
 have leaf :∀ {d:AV} {A:Around} {v y:Value},GB d=true->Is w.params F v d->Is w.params F y d->uT pv w A s v y:=λf h k=>uT.of (DH h k f)
 intro n
 induction n with
 | zero =>
  intro d hf A v y h k hu
  cases hf with
  | none => exact leaf rfl h k
  | bool => exact leaf rfl h k
  | int => exact leaf rfl h k
  | str => exact leaf rfl h k
 | succ n ih=>
  intro d hf A v y h k hu
  cases hf with
  | none => exact leaf rfl h k
  | bool => exact leaf rfl h k
  | int => exact leaf rfl h k
  | str => exact leaf rfl h k
  | @tup _ l f=>
   refine jS (gG h) ?_;rintro a vs m rfl h1 h2
   refine jS (gG k) ?_;rintro b us m' rfl k1 k2
   have e1 :=h2.length
   have e2 :=k2.length
   refine uT.refs λE Q q=>yD (items:=vs.toArray) (items2:=us.toArray) ⟨_,sub _ _ h1,rfl,m,rfl⟩ ⟨_,sub _ _ k1,rfl,m',rfl⟩ (by simp;omega) (by omega) (λj j1 j2=>?_) q
   have hj :j < l.length:=by simp at j1;omega
   have g1 :=h2.get hj (by simpa using j1)
   have g2 :=k2.get hj (by simpa using j2)
   simp only[List.getElem_toArray]
   exact ih (f _ (List.getElem_mem hj)) g1 g2 (by show A.units+1+2*n < cLine;omega)
  | @lst _ l f=>
   refine jS (eU h) ?_;rintro a vs m rfl h1 h2
   refine jS (eU k) ?_;rintro b us m' rfl k1 k2
   have e1 :=h2.length
   have e2 :=k2.length
   refine uT.refs λE Q q=>Aa (items:=vs.toArray) (items2:=us.toArray) ⟨_,sub _ _ h1,rfl,m,rfl⟩ ⟨_,sub _ _ k1,rfl,m',rfl⟩ (by simp;omega) (by omega) (λj j1 j2=>?_) q
   have hj :j < l.length:=by simp at j1;omega
   have g1 :=h2.get hj (by simpa using j1)
   have g2 :=k2.get hj (by simpa using j2)
   simp only[List.getElem_toArray]
   exact ih (f _ (List.getElem_mem hj)) g1 g2 (by show A.units+1+2*n < cLine;omega)
  | @dct _ l f=>
   cases h with
   | dct h1 h2 h3 h4=>
    cases k with
    | dct k1 k2 k3 k4=>
     rename_i a es m b ej m'
     refine uT.refs λE Q q=>Bx (pv:=pv) (w:=w) h4 k4 (im h2 h3 (sub _ _ h1)) (im k2 h3 (sub _ _ k1)) (by omega) ?_ ?_ q
     . have e1:=cB List.length (ie h2)
       have e2:=cB List.length (ie k2)
       simp only[bZ]at e1 e2
       omega
     . have go:∀ {es:List DictEntry} {l':FL},IsEnts w.params F es l'->(∀ p∈l',p∈l)->kd pv w A.in1 s (jT ej l) (jT es l'):=by
        intro es l' hh
        induction es generalizing l' with
        | nil=>intro _;cases hh;exact .nil
        | cons e es ihh=>
         cases hh with
         | @cons x t v d _ l'' hv r=>
          intro sb;refine dQ (mA k2 (jr h3 (sb (x,d) dH))) ?_;rintro y e1 e2
          exact kd.cons (k:=x) e1 (ih (f _ (sb (x,d) dH)) hv e2 (by show A.units+1+2*n < cLine;omega)) (ihh r λp hp=>sb p (.tail _ hp))
       exact go h2 λp hp=>hp
end
section
variable {B:cX} {n:Nat} {L:Addr} {H:HL} {σ:St} {e9:Env}
end
end
section
variable {k:Str->Option NameKind} {x:Str}
noncomputable def fA:Addr->LL->OL
 | _,[]=>[]
 | c,(_,d)::r=>(c,.cell d)::fA (c+1) r
noncomputable def fP:Addr->LL->List (Str×Addr)
 | _,[]=>[]
 | c,(x,_)::r=>(x,c)::fP (c+1) r
theorem Ag {v:Value} (hx:k x=some .local):∀ {b:cS} {m:Str->cO},(b.map (·.1)).Nodup->(x,v)∈b->bindL k b m x=some v:=by
 have out:∀ {b:cS} {m:Str->cO},x∉b.map (·.1)->bindL k b m x=m x:=by
  intro b
  induction b with
  | nil=>intro m y;rfl
  | cons p r ih=>
   intro m h;rw[cf,List.mem_cons,not_or]at h
   unfold bindL;rw[ih h.2]
   split
   . exact cC h.1
   . rfl
 intro b
 induction b with
 | nil=>intro m y h;contradiction
 | cons p r ih=>
  intro m nd h;rw[cf,bU]at nd
  unfold bindL
  rcases fD h with e | h
  . subst e
    rw[out nd.1];rw[cE hx];simp
  . exact ih nd.2 h
theorem qY:∀ {b:cS} {m:Str->cO},x∉b.map (·.1)->bindC k b m x=m x:=by
 intro b
 induction b with
 | nil=>intro m y;rfl
 | cons p r ih=>
  intro m h;rw[cf,List.mem_cons,not_or]at h
  unfold bindC;rw[ih h.2]
  split
  . rfl
  . exact cC h.1
theorem BM {v:Value} (hx:k x≠some .local):∀ {b:cS} {m:Str->cO},(b.map (·.1)).Nodup->(x,v)∈b->bindC k b m x=some v:=by
 intro b
 induction b with
 | nil=>intro m y h;contradiction
 | cons p r ih=>
  intro m nd h;rw[cf,bU]at nd
  unfold bindC
  rcases fD h with e | h
  . subst e
    rw[qY nd.1];rw[cC hx];simp
  . exact ih nd.2 h
theorem iD:∀ (c:Addr) (cn:LL),(fP c cn).map (·.1)=cn.map (·.1)
 | _,[]=>rfl
 | c,(x,d)::r=>by rw[fP,cf,iD (c+1) r];rfl
theorem mh:∀ {c:Addr} {cn:LL} {p:Addr×AO},p∈fA c cn->∃ x d,(x,d)∈cn/\(x,p.1)∈fP c cn/\p.2=.cell d/\c<=p.1
 | _,[],_,h=>nomatch h
 | c,(x,d)::r,p,h=>by
  rcases fD h with rfl | h
  . exact⟨x,d,.head _,.head _,rfl,cv _⟩
  . refine FO (mh h) ?_;rintro y e h1 h2 h3 h4
    exact⟨y,e,.tail _ h1,.tail _ h2,h3,dt (Nat.le_succ _) h4⟩
theorem lm:∀ (c:Addr) (cn:LL),(dg (fA c cn)).Nodup/\∀ b∈dg (fA c cn),c<=b
 | _,[]=>⟨List.nodup_nil,λy h=>nomatch h⟩
 | c,(x,d)::r=>by
  obtain⟨h1,h2⟩:=lm (c+1) r
  have e:dg (fA c ((x,d)::r))=c::dg (fA (c+1) r):=rfl
  rw[e];refine⟨bU.mpr ⟨λh=>cD (h2 c h) (Nat.not_le.mpr (bQ c)),h1⟩,λb hb=>?_⟩
  rcases fD hb with rfl | hb
  . exact cv _
  . exact dt (Nat.le_succ _) (h2 b hb)
section
variable {B:cX} {n:Nat} {oe:OL}
theorem E4 {n5 qc:Str} {pt:Arguments} {b0 b3:cH} {se si:Scope} {dV kV d8 pm c6 ct oc:Value} {an od:Option Addr} {ol:cT} {f:Addr} {ah ds:cG} {Φ:AV->OL->Prop} (ps:cL) (l8:LL) (cn:LL)
 (ho : B.K.lookup f=some ⟨oc,od,.func (fnOf n5 qc pt b0 se dV kV d8 pm an c6 ct),ol⟩) (aP:codeIn B.K c6 qc=true)
 (aG : ∀ vs,vs.length=ah.length->bindArgs (fnOf n5 qc pt b0 se dV kV d8 pm an c6 ct) ⟨vs,[]⟩=pure (ps.zip vs)) (am:ps.length=ah.length) (aL:ds=ah)
 (h : ∀ L,Rs b3 (WF B n L (execs b3 (envOfC qc si L f c6)) [] ⟨l8,fA (L+1) cn++oe⟩ (rg Φ)))
 (aE : ∀ x d,(x,some d)∈l8->si.names.lookup x=some .local/\(x,d)∈ps.zip ds) (hln:(l8.map (·.1)).Nodup)
 (hcs : ∀ L,(fP (L+1) cn).reverse=cellsFrom (L+1) si.names []) (hcn:(cn.map (·.1)).Nodup)
 (hck : ∀ x d,(x,d)∈cn->si.names.lookup x=some .cell/\(match d with | some d=>(x,d)∈ps.zip ds | none=>x∉ps)) (hpn:ps.Nodup)
 (hpk : ∀ x∈ps,si.names.lookup x=some .local\/(si.names.lookup x=some .cell/\x∈cn.map (·.1)))
 (aH : autoParam (si.isCoroutine=false) bR) (aC:autoParam (si.isGenerator=false) bR) (hk:autoParam (si.kind=.function) bR) (eb:autoParam (b0=b3) bC) (es:autoParam (se=si) bC):cY B (n+1) f ah oe Φ:=by
 subst eb es
 subst aL;intro A F s vs hA x hvs;have up:∀ b o,B.G.get? b=some o->s.heap.get? b=some o:=λb o e=>x.sub _ _ (x.core _ _ e)
 have hvl:=hvs.length
 have keys:(ps.zip vs).map (·.1)=ps:=by rw[List.map_fst_zip];omega
 have look:∀ L y c,(y,c)∈fP (L+1) cn->(cellsFrom (L+1) se.names []).lookup y=some c:=by
  intro L y c hm;rw[<- hcs L];have nd:((fP (L+1) cn).reverse.map (·.1)).Nodup:=by rw[List.map_reverse,iD];exact(List.reverse_perm _).nodup_iff.mpr hcn
  have aS:(y,c)∈(fP (L+1) cn).reverse:=List.mem_reverse.mpr hm
  generalize(fP (L+1) cn).reverse=l at nd aS
  induction l with
  | nil =>contradiction
  | cons p r ih=>
   rw[cf,bU]at nd
   rw[List.lookup_cons]
   rcases fD aS with e | aS
   . subst e;simp
   . have:(y==p.1)=false:=beq_eq_false_iff_ne.mpr λe=>nd.1 (e▸List.mem_map_of_mem aS)
     rw[this];exact ih nd.2 aS
 have val:∀ y d,(y,d)∈ps.zip ds->∃ v,(y,v)∈ps.zip vs/\Is B.P F v d:=by
  intro y d hm;have :∀ {ps:cL} {vs:cJ} {ds:cG},IsAll B.P F vs ds->(y,d)∈ps.zip ds->∃ v,(y,v)∈ps.zip vs/\Is B.P F v d:=by
   intro ps vs ds hh
   induction ps generalizing vs ds with
   | nil=>intro h;simp at h
   | cons p r ih=>
    intro h
    cases hh with
    | nil=>simp at h
    | cons a b=>
     rw[List.zip_cons_cons]at h
     rcases fD h with e | h
     . cases e;exact⟨_,.head _,a⟩
     . refine dQ (ih b h) ?_;rintro v h1 h2;exact⟨v,.tail _ h1,h2⟩
  exact this hvs hm
 refine codeAny_call_cells (fd:=fnOf n5 qc pt b0 se dV kV d8 pm an c6 ct) (body:=b0) (binds:=ps.zip vs) (by have:=hA.depth;show A.depth < 1000;omega) ((B.X.keeps up) _ _ ho) rfl (B.nolimit.keeps up)
  (codeRec_of (B.X.keeps up) aP) rfl (aG vs hvl) rfl (λy hy=>?_) (λs0 z=>?_) aH aC hk
 . have hy1:y.1∈ps:=keys▸List.mem_map_of_mem hy
   rcases hpk y.1 hy1 with q | ⟨q,q2⟩
   . exact .inl q
   . refine .inr ⟨q,?_⟩
     rw[<-iD (s.heap.objs.size+1) cn]at q2
     refine dQ (cg.mp q2) ?_;rintro p hp e
     rw[<-e,look _ _ _ (show(p.1,p.2)∈_ from hp)];rfl
 have hL:s.heap.get? s.heap.objs.size=none:=eI _
 have there:∀ b∈dg oe,∃ o,s.heap.get? b=some o:=λb hb=>by
  refine dQ (dK.mp hb) ?_;rintro p hp hb
  exact(x.objs p hp).there b hb
 have below:∀ b∈dg oe,b < s.heap.objs.size:=λb hb=>by obtain⟨o,e⟩:=there b hb;exact Heap.lt_size e
 obtain⟨z1,z2,z3,z4⟩:=z;refine iM (z1.done) ?_;rintro h6 tk rfl keep
 have aJ:=z1.ns
 have big:B.G.objs.size<=s.heap.objs.size:=x.big
 obtain⟨cn1,cn2⟩:=lm (s.heap.objs.size+1) cn
 have noneF:∀ b,s.heap.objs.size<=b->F b=none:=λb hb=>by
  induction q:F b using Option.casesOn with
  | none=>rfl
  | some o=>exact cD (Heap.lt_size (x.sub _ _ q)) (Nat.not_lt.mpr hb)
 have eo:dg (fA (s.heap.objs.size+1) cn++oe)=dg (fA (s.heap.objs.size+1) cn)++dg oe:=fg _ _
 have X :Holds B.P B.G s.heap.objs.size F [] ⟨l8,fA (s.heap.objs.size+1) cn++oe⟩ h6:=by
  refine⟨x.core,λb o e=>keep _ _ (x.sub _ _ e),⟨_,aJ,λy d hy=>?_⟩,hln,λp hp=>?_,?_,λb hb=>?_,λu hp=>(nomatch hp),big⟩
  . obtain⟨k1,k2⟩:=aE y d hy
    refine dQ (val y d k2) ?_;rintro v hv q
    exact⟨v,Ag (k:=(callEnvC (fnOf n5 qc pt b0 se dV kV d8 pm an c6 ct) s.heap.objs.size f).kindOf) k1 (by rw[keys];exact hpn) hv,q⟩
  . rcases bT.mp hp with hp | hp
    . refine FO (mh hp) ?_;rintro y d m1 m2 m3 u
      have hc:=z2 y p.1 (look _ _ _ m2)
      obtain⟨k1,k2⟩:=hck y d m1;rw[m3]
      induction d using Option.casesOn with
      | none=>
       have:bindC (callEnvC (fnOf n5 qc pt b0 se dV kV d8 pm an c6 ct) s.heap.objs.size f).kindOf (ps.zip vs) (λu=>none) y=none:=qY (by rw[keys];exact k2)
       rw[this]at hc
       exact hc
      | some d=>
       refine dQ (val y d k2) ?_;rintro v hv q
       have:bindC (callEnvC (fnOf n5 qc pt b0 se dV kV d8 pm an c6 ct) s.heap.objs.size f).kindOf (ps.zip vs) (λu=>none) y=some v:=BM (by show se.names.lookup y≠_;rw[k1];decide) (by rw[keys];exact hpn) hv
       rw[this]at hc
       exact⟨v,hc,q⟩
    . exact(x.objs p hp).move (.refl F) λb o u e=>keep _ _ e
  . show(s.heap.objs.size::dg (fA (s.heap.objs.size+1) cn++oe)).Nodup
    rw[eo];refine bU.mpr ⟨λhm=>?_,bx.mpr ⟨cn1,x.nodup,λa ha b hb e=>?_⟩⟩
    . rcases bT.mp hm with hm | hm
      . exact cD (cn2 _ hm) (Nat.not_le.mpr (bQ _))
      . exact cD (below _ hm) (Nat.lt_irrefl _)
    . have g1:=cn2 a ha
      have g2:=below b hb
      rw[<-e]at g2
      exact cD (tB g2 (Nat.le_succ _)) (Nat.not_lt.mpr g1)
  . rcases fD hb with rfl | hb
    . exact noneF _ (cv _)
    . rw[show dg (⟨l8,fA (s.heap.objs.size+1) cn++oe⟩:St).objs= _ from eo]at hb
      rcases bT.mp hb with hb | hb
      . exact noneF _ (dt (Nat.le_succ _) (cn2 _ hb))
      . exact x.apart b hb
 have hA':gk n (A.deeper (callEnvC (fnOf n5 qc pt b0 se dV kV d8 pm an c6 ct) s.heap.objs.size f)):=
  ⟨hA.handled,by have:=hA.depth;show A.depth+1+n<=900;omega,by have:=hA.units;show A.units+3+8*n<=9000;omega⟩
 refine cx ((h s.heap.objs.size).run _ F { s with heap:=h6,toks:=tk } hA' X) (λfl s' z=>?_) λu u z=>z.elim
 obtain⟨F',σ',x',p,e,he,q⟩:=z;refine dQ (oE he q) ?_;rintro d hd q
 exact .mk _ d σ'.objs F' rfl hd x'.call ((p.over (λb hb=>(fD hb).elim (λe=>.inr (e▸hL)) λhb=>by
  rw[eo]at hb
  exact(bT.mp hb).elim (λhb=>.inr (aZ.mpr λo w=>cD (Heap.lt_size w) (Nat.not_lt.mpr (dt (Nat.le_succ _) (cn2 _ hb))))) .inl) keep (.refl _) rfl).fewer λu=>.tail _) q
end
end
section
variable {x:Str} {c a:Addr} {d:AV} {l8:LL} {oe o5:OL} {Φ:PV} {v:Value} {P:Params} {G h:Heap} {F:Fz} {v7:Expr} {l:FL}
section
variable {B:cX} {n:Nat} {L:Addr} {H:HL} {σ:St} {e9:Env}
theorem zI {pn} (hc:e9.cells.lookup x=some c) (m:(c,AO.cell (some d))∈oe) (h:∀ v,Φ v d ⟨l8,oe⟩)
 (hk:e9.scope.kind=.function) (hl:e9.kindOf x=some .cell) (hd:(x==("__debug__":Str))=false):WV B n L (eval (.Name x pn) e9) H ⟨l8,oe⟩ Φ:=d9 λA F s hA X=>by
 refine dQ (X.objs _ m) ?_;rintro v h1 h2
 exact wpAny_Name (wpAny_loadName_cell hk hl hc h1 (.here X ⟨d,h2,h v⟩)) hd
theorem AL {o:cN} {Φ:St->Prop} (hc:e9.cells.lookup x=some c) (md:(v,d)∈H) (m:oB c (.cell o) (.cell (some d)) oe o5) (h:Φ ⟨l8,o5⟩)
 (hk:e9.scope.kind=.function) (hl:e9.kindOf x=some .cell):WU B n L (storeName e9 x v) H ⟨l8,oe⟩ Φ:=d9 λA F s hA X=>by
 refine iM (m.split) ?_;rintro pB px rfl rfl
 have hd:=X.hold md
 have:∃ v6,s.heap.IsCell c v6:=by
  have:=X.objs (c,.cell o) (by simp)
  induction o using Option.casesOn with
  | none=>exact⟨_,this⟩
  | some e=>refine dQ (this) ?_;clear this;rintro v h1 z;exact⟨_,h1⟩
 obtain⟨v6,h1⟩:=this;refine wpAny_storeName_cell hk hl hc h1 λh' hc' hs=>?_
 refine di.change (o':=.cell (some d)) X (c:=c) (.inl rfl) rfl (λb y z q e=>(hs.2 b q).trans e) ?_ ⟨v,hc',hd⟩ rfl rfl h
 refine dQ (X.frame) ?_;rintro m5 FR hl
 exact⟨m5,FR.ns.sameBut hs (λe=>(bU.mp X.nodup).1 (by rw[e];exact dK.mpr ⟨_,be _ dH,.inl rfl⟩)),hl⟩
theorem Holds.trackAt {h':Heap} {o:AO} (x:Holds P G L F H σ h) (hF:F a=none) (hO:a∉L::dg σ.objs) (k:∀ b o,b≠a->h.get? b=some o->h'.get? b=some o) (em:o.more=[]) (q:zt P F h' a o):
 Holds P G L F H ⟨σ.loc,(a,o)::σ.objs⟩ h':=by
 have x':=x.besides hF hO k
 have eo:dg ((a,o)::σ.objs)=a::dg σ.objs:=by show a::(o.more++dg σ.objs)= _;refine em▸?_;rfl
 refine⟨x'.core,x'.sub,x'.loc,x'.names,λp hp=>?_,?_,λb hb=>?_,x'.held,x'.low⟩
 . rcases fD hp with rfl | hp
   . exact q
   . exact x'.objs p hp
 . show(L::dg ((a,o)::σ.objs)).Nodup
   refine eo▸?_
   have nd:=bU.mp x'.nodup
   have h1:L≠a:=λe=>hO (e▸.head _)
   have h2:a∉dg σ.objs:=λhm=>hO (.tail _ hm)
   refine bU.mpr ⟨λhm=>?_,bU.mpr ⟨h2,nd.2⟩⟩
   rcases fD hm with e | hm
   . exact h1 e
   . exact nd.1 hm
 . rw[show dg (⟨σ.loc,(a,o)::σ.objs⟩:St).objs= _ from eo]at hb
   rcases fD hb with rfl | hb
   . exact x'.apart _ dH
   rcases fD hb with rfl | hb
   . exact hF
   . exact x'.apart _ (.tail _ hb)
theorem Dv {keys:List (Option Expr)} {v9:cI} {pn:Pos}
 (h :WD B n L (evalPairs (eB e9 pn keys v9)) H σ λl a1=>(l.map (·.1)).Nodup/\∀ a,Φ (.ref a) (.ref a) ⟨a1.loc,(a,.dict l)::a1.objs⟩)
 (hs:autoParam ((evalEachOpt keys e9).zip ((evalEach v9 e9).map λv=>do let x <-v;standAt pn;pure x)=(eB e9 pn keys v9).map λp=>(some p.1,p.2)) bR)
 (h0:eB e9 pn keys v9≠[]:=by exact bN _ _) (hl:autoParam ((eB e9 pn keys v9).length<=15) bD):WV B n L (eval (.Dict keys v9 pn) e9) H σ Φ:=d9 λA F s hA X=>by
 refine wpAny_Dict_pairs (knd:=strKind B.prog B.w) hs h0 hl ?_
 have hn:=eI s.heap
 have up:∀ b o,s.heap.get? b=some o->(s.heap.push { cls:=.type "dict",data:=.dict #[] }).get? b=some o:=λb o e=>bc _ e
 have aO:s.heap.objs.size∉L::dg σ.objs:=λhm=>by obtain⟨o,ho⟩:=X.there _ hm;rw[hn]at ho;contradiction
 refine cx (h.run A F _ hA (X.grow up)) (λvs s0 z=>?_) λy y z=>z
 obtain⟨F0,a1,x0,p0,l,hl,hnd,q⟩:=z;have a0:s0.heap.get? s.heap.objs.size=some { cls:=.type "dict",data:=.dict #[] }:=p0.keep _ _ aO (bm _ rfl)
 refine⟨KV.vals vs l,KV.carries hl,⟨_,#[],_,a0,⟨rfl,rfl,rfl⟩,rfl,(λe he=>by simp at he),.nil,List.nodup_nil⟩,λh' hd aQ=>?_⟩
 rw[merged_nil_of_nodup _ (by refine(KV.keys hl)▸?_;exact hnd)]at hd
 refine jJ (kP hd) ?_;rintro es m e1 e2 e3
 have aF:F0 s.heap.objs.size=none:=by
  induction w:F0 s.heap.objs.size using Option.casesOn with
  | none=>rfl
  | some o=>
   rcases p0.frz _ _ w with z | z | z
   . have:=X.sub _ _ z;rw[hn]at this;contradiction
   . exact cD z aO
   . rw[bm _ rfl]at z;contradiction
 have aO':s.heap.objs.size∉L::dg a1.objs:=λhm=>by
  rcases p0.own _ hm with z | z
  . exact aO z
  . rw[bm _ rfl]at z;contradiction
 have x1:=x0.trackAt (h':=h') (o:=.dict l) aF aO' (λb o hb e=>(aQ.2 b hb).trans e) rfl ⟨⟨es,m,e1,KV.ents hl e2 e3⟩,hnd,nS X.big⟩
 have old:∀ b,(s.heap.push { cls:=.type "dict",data:=.dict #[] }).get? b=none->s.heap.get? b=none:=λb e=>by
  induction w:s.heap.get? b using Option.casesOn with
  | none=>rfl
  | some o=>rw[up _ _ w]at e;contradiction
 refine⟨F0,_,x1,⟨λb o hb e=>(aQ.2 b (λz=>by rw[z,hn]at e;contradiction)).trans (p0.keep _ _ hb (up _ _ e)),λb hb=>?_,λb o e=>(p0.frz _ _ e).imp_right (Or.imp_right (old b)),p0.mono,p0.gens,p0.os⟩,.ref _,.ref _,q _⟩
 rcases fD hb with rfl | hb
 . exact .inl dH
 have hb':b∈s.heap.objs.size::dg a1.objs:=hb
 rcases fD hb' with rfl | hb'
 . exact .inr hn
 . exact(p0.own b (.tail _ hb')).imp_right (old b)
theorem Kz {slice:Expr} {o i:Value} {x:cF} (mo:(o,.ref a)∈H) (ma:(a,AO.dict l)∈σ.objs) (mi:(i,.str x)∈H) (hd:ew (S x) l=some d) (h:∀ v,Φ v d σ)
 (hs:∃ ops,subscripted slice false o i=operate ops (getItem o i):=by exact⟨_,rfl⟩):WV B n L (subscriptTail v7 slice o i) H σ Φ:=by
 refine gv (T:="dict") (λF s X=>?_) slot_dict_getitem.lookup (d9 λA F s hA X=>?_) hs
 . obtain rfl:=dG (X.hold mo);obtain⟨⟨es,k,h1,_⟩,_⟩:=X.objs _ ma;exact⟨_,h1,rfl⟩
 . obtain rfl:=dG (X.hold mo)
   refine xr (X.objs _ ma) ?_;rintro ⟨es,k,h1,h2⟩ h3 _
   obtain⟨t,rfl⟩:=dy (X.hold mi);refine dQ (mA h2 hd) ?_;rintro v e1 e2
   exact wpAny_getItem_of (knd:=strKind B.prog B.w) (k:=S x) (bM _) (im h2 h3 h1).mapOf e1 (.toks X ⟨d,e2,h _⟩)
theorem JZ {o i:Value} {x:cF} (mo:(o,.ref a)∈H) (ma:(a,AO.dict l)∈σ.objs) (mi:(i,.str x)∈H) (hd:ew (S x) l=some d) (h:∀ v,Φ v d σ):WV B n L (getItem o i) H σ Φ:=d9 λA F s hA X=>by
 obtain rfl:=dG (X.hold mo)
 refine xr (X.objs _ ma) ?_;rintro ⟨es,k,h1,h2⟩ h3 _
 obtain⟨t,rfl⟩:=dy (X.hold mi);refine dQ (mA h2 hd) ?_;rintro v e1 e2
 exact wpAny_getItem_of (knd:=strKind B.prog B.w) (k:=S x) (bM _) (im h2 h3 h1).mapOf e1 (.toks X ⟨d,e2,h _⟩)
end
theorem KM.keys {r:cS} (h:KM P F r l):r.map (·.1)=l.map (·.1):=by
 induction h with
 | nil=>rfl
 | cons _ _ ih=>exact cB (List.cons _) ih
theorem KM.stored {k:Str} (q:Is P F v d) {kvs:cS} {l:FL} (m:KM P F kvs l):(l.map (·.1)).Nodup->KM P F (stored kvs k v) (fT k d l):=by
 induction m with
 | nil=>exact λx=>.cons q .nil
 | @cons y u e r l h hr ih=>
  intro nd;rw[cf,bU]at nd
  by_cases hy:y=k
  . subst hy
    have hnot:∀ p∈r,p.1≠y:=λp hp e=>nd.1 (by rw[<-hr.keys,<-e];exact List.mem_map_of_mem hp)
    have e1:PySem.stored ((y,u)::r) y v=(y,v)::r:=by
     unfold PySem.stored;rw[cE (by simp)];rw[cf,cE rfl]
     congr 1
     have:r.map (λkv=>if kv.1=y then (kv.1,v) else kv)=r.map id:=List.map_congr_left λp hp=>by rw[cC (hnot p hp)];rfl
     rw[this,List.map_id]
    have e2:fT y d ((y,e)::l)=(y,d)::l:=by rw[fR,cE (bM _)]
    rw[e1,e2];exact .cons q hr
  . have e1:PySem.stored ((y,u)::r) k v=(y,u)::PySem.stored r k v:=by
     unfold PySem.stored;rw[List.any_cons,cf,cC hy];simp only[hy,decide_false,Bool.false_or]
     split<;>rfl
    have e2:fT k d ((y,e)::l)=(y,e)::fT k d l:=by
     rw[fR,cC (by simpa using hy)]
    rw[e1,e2];exact .cons h (ih nd.2)
theorem kN {k:Str}:∀ {l:FL},(l.map (·.1)).Nodup->((fT k d l).map (·.1)).Nodup
 | [], _ =>by simp[fT]
 | (y, e)::l,nd=>by
  have nd':=nd
  rw[cf,bU]at nd
  rw[fR]
  split
  . rename_i h
    have h:y=k:=by simpa using h
    subst h;exact nd'
  . rename_i h
    have h:y≠k:=by simpa using h
    rw[cf,bU];refine⟨λhm=>?_,kN nd.2⟩
    have :∀ {l:FL},y∈(fT k d l).map (·.1)->y=k\/y∈l.map (·.1):=by
     intro l
     induction l with
     | nil=>intro h;simp[fT]at h;exact .inl h
     | cons p r ih=>
      intro h;rw[fR]at h
      split at h
      . rename_i hp
        have hp:p.1=k:=by simpa using hp
        rw[cf,List.mem_cons]at h
        rcases h with h | h
        . exact .inl h
        . exact .inr (.tail _ h)
      . rw[cf,List.mem_cons]at h
        rcases h with h | h
        . exact .inr (by rw[h];exact .head _)
        . exact(ih h).imp_right (.tail _)
    rcases this hm with h' | h'
    . exact h h'
    . exact nd.1 h'
section
variable {B:cX} {n:Nat} {L:Addr} {H:HL} {σ:St} {e9:Env}
theorem B9 {l':FL} {x:cF} {ov iv:Value} {Φ:St->Prop} (mo:(ov,.ref a)∈H) (mi:(iv,.str x)∈H) (md:(v,d)∈H) (hp:nK (S x) d l l')
 (m :oB a (.dict l) (.dict l') oe o5) (hz:l.length<=900) (h:Φ ⟨l8,o5⟩):WU B n L (setItem ov iv v) H ⟨l8,oe⟩ Φ:=d9 λA F s hA X=>by
 refine iM (m.split) ?_;rintro pB px rfl rfl
 obtain rfl:=hp.eq
 obtain rfl:=dG (X.hold mo)
 obtain⟨t,rfl⟩:=dy (X.hold mi);have hd:=X.hold md
 refine xr (X.objs (a,.dict l) (by simp)) ?_;rintro ⟨es,k,h1,h2⟩ h3 h4
 refine wpAny_setItem_pairs (knd:=strKind B.prog B.w) (k:=S x) (bM _) (im h2 h3 h1) (λh' hm hs=>?_) ?_
 . refine jJ (kP hm) ?_;rintro ej m' e1 e2 e3
   refine di.change (o':=.dict (fT (S x) d l)) X (c:=a) (.inl rfl) rfl (λb y z q e=>(hs.2 b q).trans e) ?_ ⟨⟨ej,m',e1,KM.ents ((zM h2).stored hd h3) e2 e3⟩,kN h3,h4⟩ rfl rfl h
   refine dQ (X.frame) ?_;rintro m5 FR hl
   exact⟨m5,FR.ns.sameBut hs (λe=>(bU.mp X.nodup).1 (by rw[e];exact dK.mpr ⟨_,be _ dH,.inl rfl⟩)),hl⟩
 . have:=cB List.length (ie h2)
   simp only[bZ]at this
   rw[this,dP];omega
theorem nh {o i:Expr} {p pn} {Φ:PF}
 (h:WV B n L (eval v7 e9) H σ λv d a1=>WV B n L (eval o e9) ((v,d)::H) a1 λov od a2=>WV B n L (eval i e9) ((ov,od)::(v,d)::H) a2 λiv e a3=>WU B n L (setItem ov iv v) ((iv,e)::(ov,od)::(v,d)::H) a3 λa4=>Φ .next a4)
 (hs:swapsWith v7 (some (.Subscript o i p)) pn.line e9=pure false):WF B n L (exec (.Assign [.Subscript o i p] v7 pn) e9) H σ Φ:=by
 rw[exec_Assign_Subscript o i p v7 pn hs];refine dr (dm (dh h λv d a1 w=>?_))
 rw[assign_Subscript];refine fU (dm (dc (dh w λov od a2 w=>dm (dc (dh w λiv e a3 w=>dr (fU (dc (gX w λa4 q=>jx (lG q)))))))))
theorem BU {o i:Expr} {p pn op} {Φ:PF}
 (h:WV B n L (eval o e9) H σ λov od a1=>WV B n L (eval i e9) ((ov,od)::H) a1 λiv e a2=>WV B n L (getItem ov iv) ((iv,e)::(ov,od)::H) a2 λa d a3=>WV B n L (eval v7 e9) ((a,d)::(iv,e)::(ov,od)::H) a3 λb y a4=>
  WV B n L (inplaceOp op a b) ((b,y)::(a,d)::(iv,e)::(ov,od)::H) a4 λc z a5=>WU B n L (setItem ov iv c) ((c,z)::(iv,e)::(ov,od)::H) a5 λa8=>Φ .next a8)
 (hi:∀ ov iv c,augStore i ov iv c=(do holding [c,ov,iv] (setItem ov iv c);release [c,ov,iv] [];pure .next)):
 WF B n L (exec (.AugAssign (.Subscript o i p) op v7 pn) e9) H σ Φ:=by
 rw[arm_exec_AugAssign_3];refine dr (dm (dh h λov od a1 w=>dm (dc (dh w λiv e a2 w=>dm (dc ?_)))))
 refine dr (dm (dh w λa d a3 w=>dm (dc (dh w λb y a4 w=>dr (gu (dh w λc z a5 w=>?_))))))
 refine dr ?_
 rw[hi];refine fU (dc (gX w λa8 q=>?_))
 exact d9 λA F s hA x=>cw (wpAny_release (cy (.here x ⟨.next,trivial,q⟩)))
inductive lh (a:Addr) (o:AO):OL->OL->Prop
 | head {r}:lh a o ((a,o)::r) r
 | tail {p r r'}:lh a o r r'->lh a o (p::r) (p::r')
theorem lh.perm {o:AO} {l l':OL} (h:lh a o l l'):l.Perm ((a,o)::l'):=by
 induction h with
 | head=>exact .refl _
 | tail _ ih=>exact(List.Perm.cons _ ih).trans (.swap _ _ _)
theorem Holds.freezeD (x:Holds P G L F H ⟨l8,(a,.dict l)::oe⟩ h):
 ∃ F',F.le F'/\Holds P G L F' H ⟨l8,oe⟩ h/\Is P F' (.ref a) (.dct l)/\∀ b o,F' b=some o->F b=some o\/b=a:=by
 refine xr (x.objs _ dH) ?_;rintro ⟨es,m,h1,h2⟩ h3 h4
 have aF:F a=none:=x.apart a iL
 have le:=Fz.le_put (o:=dictOf es m) aF
 have x':=x.drop (o5:=oe) (r8:=[(a,AO.dict l)]) (bg (l₁:=[(a,AO.dict l)]))
 have nd:=x.nodup
 have nL:a≠L:=λe=>(bU.mp nd).1 (e▸.head _)
 have nO:a∉dg oe:=λhm=>(bU.mp (bU.mp nd).2).1 (be _ hm)
 refine⟨F.put a (dictOf es m),le,⟨λb o' e=>le _ _ (x.core b o' e),λb o' e=>?_,let ⟨m,hm,r⟩:=x.loc;⟨m,hm,λy d hy=>let ⟨v,e,q⟩:=r y d hy;⟨v,e,q.mono le⟩⟩,x'.names,
  λp hp=>(x'.objs p hp).move le λ_ _ _ e=>e,x'.nodup,λb hb=>?_,λp hp=>(x.held p hp).mono le,x.low⟩,.dct (Fz.put_self ..) (h2.mono le) h3 h4,λb o e=>?_⟩
 . unfold Fz.put at e
   split at e
   . rename_i q;subst q;obtain rfl:=Option.some.inj e;exact h1
   . exact x.sub _ _ e
 . unfold Fz.put
   split
   . rename_i q
     subst q
     rcases fD hb with h | hb
     . exact cD h nL
     . exact cD hb nO
   . exact x'.apart b hb
 . unfold Fz.put at e
   split at e
   . exact .inr ‹_›
   . exact .inl e
theorem Holds.perm (e:oe.Perm o5) (x:Holds P G L F H ⟨l8,oe⟩ h):Holds P G L F H ⟨l8,o5⟩ h:=
 x.drop (r8:=[]) (by rw[bX];exact e)
theorem Gs {α:Type} {t:Sem α} {Ψ:α->Fz->St->Prop} (mv:(v,.ref a)∈H) (tk:lh a (.dict l) oe o5) (w:W B n L t ((v,.dct l)::H) ⟨l8,o5⟩ Ψ):W B n L t H ⟨l8,oe⟩ Ψ:=d9 λA F s hA X=>by
 refine Lc ((X.perm tk.perm).freezeD) ?_;rintro F' le x' hd back
 obtain rfl:=dG (X.hold mv)
 refine cx (w.run A F' s hA (x'.push hd)) (λr s' z=>?_) λy y z=>z
 obtain⟨F1,a2,x1,p6,q⟩:=z;have po:=fC tk.perm
 refine⟨F1,a2,x1.weaken λy hp=>.tail _ hp,eu.trans (s':=s) (O':=L::dg o5) (F':=F') ⟨λy y y e=>e,λb hb=>.inl ?_,λb o e=>?_,le,.refl _,rfl⟩ p6,q⟩
 . rcases fD hb with rfl | hb
   . exact .head _
   . exact .tail _ (po.mem_iff.mpr (.tail _ hb))
 . rcases back b o e with z | rfl
   . exact .inl z
   . exact .inr (.inl (.tail _ (po.mem_iff.mpr dH)))
end
end
section
variable {H:HL} {x:Str} {ds:cG} {e t:Expr} {pn p:Pos} {c:Bool} {es:cI} {s:Stmt} {ss:cH}
structure Cx where
 B:cX
 n:Nat
 L:Addr
 env:Env
structure Ev (X:Cx) (e:Expr) (σ:St) (d:AV) (σ':St):Prop where
 run:∀ (H:HL) (Φ:PV),(∀ v,Φ v d σ')->WV X.B X.n X.L (eval e X.env) H σ Φ
structure Do (X:Cx) (e:Expr) (σ:St) (v:Value) (d:AV):Prop where
 run:∀ (H:HL) (Φ:PV),Φ v d σ->WV X.B X.n X.L (eval e X.env) H σ Φ
structure Te (X:Cx) (e:Expr) (σ:St) (b:Bool) (σ':St):Prop where
 run:∀ (H:HL) (Φ:Bool->St->Prop),Φ b σ'->WB X.B X.n X.L (isTrue e X.env (eval e X.env)) H σ Φ
structure IS (X:Cx) (es:cI) (σ:St) (b:Bool) (σ':St):Prop where
 run:∀ (H:HL) (Φ:Bool->St->Prop),Φ b σ'->WB X.B X.n X.L (allTrue .And es X.env) H σ Φ
structure Lf (X:Cx) (es:cI) (σ:St) (b:Bool) (σ':St):Prop where
 run:∀ (H:HL) (Φ:Bool->St->Prop),Φ b σ'->WB X.B X.n X.L (allTrue .Or es X.env) H σ Φ
structure ON (X:Cx) (es:cI) (σ:St) (d:AV) (σ':St):Prop where
 run:∀ pn (H:HL) (Φ:PV),(∀ v,Φ v d σ')->WV X.B X.n X.L (boolOp pn .Or (evalEach es X.env)) H σ Φ
structure Mu (X:Cx) (es:cI) (σ:St) (d:AV) (σ':St):Prop where
 run:∀ pn (H:HL) (Φ:PV),(∀ v,Φ v d σ')->WV X.B X.n X.L (boolOp pn .And (evalEach es X.env)) H σ Φ
structure uU (X:Cx) (es:cI) (σ:St) (ds:cG) (σ':St):Prop where
 run:∀ pn (H:HL) (Φ:cJ->cG->St->Prop),(∀ vs,vs.length=ds.length->Φ vs ds σ')->WL X.B X.n X.L (spliced (backTo pn (starEach es X.env))) H σ Φ
structure Pd (X:Cx) (e:Option Expr) (σ:St) (d:AV) (σ':St):Prop where
 run:∀ (H:HL) (Φ:PV),(∀ v,Φ v d σ')->WV X.B X.n X.L (evalPart e X.env) H σ Φ
structure fW (X:Cx) (op:CmpOp) (a b:AV) (c:Bool) (σ:St):Prop where
 run:∀ (H:HL) va vb (Φ:PV),(va,a)∈H->(vb,b)∈H->(∀ v,Φ v (.bool c) σ)->WV X.B X.n X.L (compareOp op va vb) H σ Φ
structure sV (X:Cx) (op:Operator) (a b d:AV) (σ:St):Prop where
 run:∀ (H:HL) va vb (Φ:PV),(va,a)∈H->(vb,b)∈H->(∀ v,Φ v d σ)->WV X.B X.n X.L (binaryOp op va vb) H σ Φ
structure vp (X:Cx) (op:Operator) (a b d:AV) (σ:St):Prop where
 run:∀ (H:HL) va vb (Φ:PV),(va,a)∈H->(vb,b)∈H->(∀ v,Φ v d σ)->WV X.B X.n X.L (inplaceOp op va vb) H σ Φ
structure nM (X:Cx) (a:AV) (c:Bool) (σ:St):Prop where
 run:∀ (H:HL) va (Φ:Bool->St->Prop),(va,a)∈H->Φ c σ->WB X.B X.n X.L (truthy va) H σ Φ
structure wF (X:Cx) (o:AV) (n5:Str) (d:AV) (σ:St):Prop where
 run:∀ (H:HL) vo (Φ:PV),(vo,o)∈H->(∀ v,Φ v d σ)->WV X.B X.n X.L (getAttr vo n5 true) H σ Φ
structure uQ (X:Cx) (o:AV) (n5:Str) (d:AV) (σ σ':St):Prop where
 run:∀ (H:HL) vo vd (Φ:St->Prop),(vo,o)∈H->(vd,d)∈H->Φ σ'->WU X.B X.n X.L (setAttr vo n5 vd) H σ Φ
structure lR (X:Cx) (o:AV) (n5:Str) (f:Value) (σ:St):Prop where
 run:∀ (H:HL) vo pl (Ψ:Value×cJ->Fz->St->Prop),(vo,o)∈H->(∀ F,Ψ (f,[vo]) F σ)->W X.B X.n X.L (getMethod vo n5 pl) H σ Ψ
structure Aq (X:Cx) (o:AV) (n5:Str) (d:AV) (σ:St):Prop where
 run:∀ (H:HL) vo pl (Ψ:Value×cJ->Fz->St->Prop),(vo,o)∈H->(∀ v F,Is X.B.P F v d->Ψ (v,[]) F σ)->W X.B X.n X.L (getMethod vo n5 pl) H σ Ψ
structure gL (X:Cx) (v7 slice:Expr) (o i d:AV) (σ:St):Prop where
 run:∀ (H:HL) vo vi (Φ:PV),(vo,o)∈H->(vi,i)∈H->(∀ v,Φ v d σ)->WV X.B X.n X.L (subscriptTail v7 slice vo vi) H σ Φ
structure eO (X:Cx) (f:Value) (ds:cG) (σ:St) (d:AV) (σ':St):Prop where
 run:∀ (H:HL) vs (Φ:PV),vs.length=ds.length->(∀ p∈vs.zip ds,p∈H)->(∀ v,Φ v d σ')->WV X.B X.n X.L (call f vs) H σ Φ
structure jf (X:Cx) (f:Value):Prop where
 run:∀ (H:HL) (σ:St) first ah pn (Φ:PV),(backTo pn (starEach ah X.env)).any (·.1)=false->
  WL X.B X.n X.L (spliced (backTo pn (starEach ah X.env))) H σ (λvs ds a1=>WV X.B X.n X.L (call f (first++vs)) (vs.zip ds++H) a1 Φ)->WV X.B X.n X.L (callWith pn f first (backTo pn (starEach ah X.env)) []) H σ Φ
structure Ex (X:Cx) (s:Stmt) (σ:St) (f:Fl) (σ':St):Prop where
 run:∀ (H:HL) (Φ:PF),Φ f σ'->WF X.B X.n X.L (exec s X.env) H σ Φ
structure jC (X:Cx) (ss:cH) (σ:St) (f:Fl) (σ':St):Prop where
 run:∀ (H:HL) (Φ:PF),Φ f σ'->WF X.B X.n X.L (execs ss X.env) H σ Φ
structure Ey (X:Cx) (ss:cH) (σ:St) (f:Fl) (σ':St):Prop where
 run:∀ (H:HL) (Φ:PF),Φ f σ'->IR X.B X.n X.L (execs ss X.env) H σ Φ
structure I6 (X:Cx) (x:Str) (d:AV) (σ σ':St):Prop where
 run:∀ (H:HL) v (Φ:St->Prop),(v,d)∈H->Φ σ'->WU X.B X.n X.L (storeName X.env x v) H σ Φ
structure tI (X:Cx) (t:Expr) (d:AV) (σ σ':St):Prop where
 run:∀ (H:HL) v (Φ:St->Prop),(v,d)∈H->Φ σ'->WU X.B X.n X.L (assign t X.env v) H σ Φ
section
variable {X:Cx} {σ a1 a2 a3 σ':St} {d o a b:AV} {f:Value}
theorem gA {v:Value} {d:AV}:(v,d)∈(v,d)::H:=List.mem_cons_self
theorem mH {p:Value×AV} {v:Value} {d:AV}:(v,d)∈p::(v,d)::H:=.tail _ dH
theorem lF {k pn}:Ev X (.Constant .none k pn) σ .none σ:=⟨λy y h=>HS (h _)⟩
theorem wh {c k pn}:Ev X (.Constant (.bool c) k pn) σ (.bool c) σ:=⟨λy y h=>K3 (h _)⟩
theorem f6 {i k pn}:Ev X (.Constant (.int i) k pn) σ (.int i) σ:=⟨λy y h=>LO h⟩
theorem eN {l:cF} {k pn} (e:x=S l):Ev X (.Constant (.str x) k pn) σ (.str l) σ:=⟨λy y h=>MW e h⟩
theorem cW {pn d l8 oe} (hm:(x,some d)∈l8) (hk:autoParam (X.env.scope.kind=.function) bR) (hl:autoParam (X.env.kindOf x=some .local) bK) (hL:autoParam (X.env.locals=X.L) bR) (hd:autoParam ((x==("__debug__":Str))=false) bK):
 Ev X (.Name x pn) ⟨l8,oe⟩ d ⟨l8,oe⟩:=⟨λy y h=>EY (σ:=⟨l8,oe⟩) hm h hk hl hL hd⟩
theorem ku {pn v d} (e:nsIn X.B.K mainGlobals x=some (some v)) (c:eF X.B v d) (hk:autoParam (X.env.scope.kind=.function) bR) (hl:autoParam (X.env.kindOf x=some .globalImplicit) bK) (hg:autoParam (X.env.globals=mainGlobals) bR) (hd:autoParam ((x==("__debug__":Str))=false) bK):
 Ev X (.Name x pn) σ d σ:=⟨λy y h=>ul e c (h _) hk hl hg hd⟩
theorem eZ {pn v} (e:nsIn X.B.K mainGlobals x=some (some v)) (hk:autoParam (X.env.scope.kind=.function) bR) (hl:autoParam (X.env.kindOf x=some .globalImplicit) bK) (hg:autoParam (X.env.globals=mainGlobals) bR) (hd:autoParam ((x==("__debug__":Str))=false) bK):
 Do X (.Name x pn) σ v (.lit v):=⟨λy y h=>ul e (eF.lit _ _) h hk hl hg hd⟩
theorem eJ {pn v} (hb:bootBuiltins x=some v) (e:nsIn X.B.K mainGlobals x=some none) (hk:autoParam (X.env.scope.kind=.function) bR) (hl:autoParam (X.env.kindOf x=some .globalImplicit) bK) (hg:autoParam (X.env.globals=mainGlobals) bR) (aA:autoParam (X.env.builtins=builtinsNs) bR)
 (hn:x≠("__name__":Str):=by(refine bne_iff_ne.mp ?_;kernel_rfl)) (hd:autoParam ((x==("__debug__":Str))=false) bK):Do X (.Name x pn) σ v (.lit v):=⟨λy y h=>zl e hb h hk hl hg aA hn hd⟩
theorem oW {l r op pn c} (h1:Ev X l σ a a1) (h2:Ev X r a1 b a2) (h3:fW X op a b c a2) (hm:autoParam (behindInMarks op r=false) bW):Ev X (.Compare l [op] [r] pn) σ (.bool c) a2:=
 ⟨λy y h=>rA (h1.run _ _ λy=>h2.run _ _ λy=>h3.run _ _ _ _ mH gA h) hm⟩
theorem ze {l m r op oi pn c c'} {y:AV} (h1:Ev X l σ a a1) (h2:Ev X m a1 b a2) (h3:fW X op a b c a2) (h4:Ev X r a2 y a2) (h5:fW X oi b y c' a2)
 (hm:autoParam (markedEach [op,oi] [m,r] (evalEach [m,r] X.env)=[eval m X.env,eval r X.env]) bW):Ev X (.Compare l [op,oi] [m,r] pn) σ (.bool (c&&c')) a2:=
 ⟨λx x h=>yW (h1.run _ _ λx=>h2.run _ _ λx=>h3.run _ _ _ _ mH gA λx=>⟨c,c',rfl,h4.run _ _ λx=>h5.run _ _ _ _ mH gA λx=>⟨rfl,rfl⟩,h⟩) hm⟩
theorem nf {l r op pn} (h1:Ev X l σ a a1) (h2:Ev X r a1 b a2) (h3:sV X op a b d a2):Ev X (.BinOp l op r pn) σ d a2:=⟨λy y h=>xe (h1.run _ _ λy=>h2.run _ _ λy=>h3.run _ _ _ _ mH gA h)⟩
theorem Qm {es pn} (h1:ON X es σ d σ'):Ev X (.BoolOp .Or es pn) σ d σ':=⟨λy y h=>rI (h1.run _ _ _ h)⟩
theorem tM {es pn} (h1:Mu X es σ d σ'):Ev X (.BoolOp .And es pn) σ d σ':=⟨λy y h=>rI (h1.run _ _ _ h)⟩
theorem Dt {e} (h1:Ev X e σ d σ'):ON X [e] σ d σ':=⟨λy y y h=>rS (h1.run _ _ h)⟩
theorem E7 {e e' es c c'} (h1:Ev X e σ (.bool c) σ) (h2:ON X (e'::es) σ (.bool c') σ):ON X (e::e'::es) σ (.bool (c||c')) σ:=⟨λy y y h=>Oo (h1.run _ _ λy=>⟨c,rfl,λq v=>by subst q;exact h v,λq=>by subst q;exact h2.run _ _ _ h⟩)⟩
theorem lZ {e} (h1:Ev X e σ d σ'):Mu X [e] σ d σ':=⟨λy y y h=>rS (h1.run _ _ h)⟩
theorem kI {e e' es c c'} (h1:Ev X e σ (.bool c) σ) (h2:Mu X (e'::es) σ (.bool c') σ):Mu X (e::e'::es) σ (.bool (c&&c')) σ:=⟨λy y y h=>Ie (h1.run _ _ λy=>⟨c,rfl,λq v=>by subst q;exact h v,λq=>by subst q;exact h2.run _ _ _ h⟩)⟩
theorem qo {e pn i} (h1:Ev X e σ (.int i) a1):Ev X (.UnaryOp .USub e pn) σ (.int (-i)) a1:=⟨λy y h=>Ga (h1.run _ _ λy=>⟨i,rfl,h⟩)⟩
theorem kJ {es k pn ds} (h1:uU X es σ ds a1) (hz:ds.length<=16777216):Ev X (.Tuple es k pn) σ (.tup ds) a1:=⟨λy y h=>xF (h1.run _ _ _ λy y=>⟨hz,h⟩)⟩
theorem xI {es pn ds} (h1:uU X es σ ds a1) (hz:ds.length<=16777216):Ev X (.List es pn) σ (.lst ds) a1:=⟨λy y h=>xU (h1.run _ _ _ λy y=>⟨hz,h⟩)⟩
theorem dD:uU X [] σ [] σ:=⟨λy y y h=>wY (h [] rfl)⟩
theorem de {e es ds} (h1:Ev X e σ d a1) (h2:uU X es a1 ds a2) (he:autoParam (starEach (e::es) X.env=(false,eval e X.env)::starEach es X.env) bR):uU X (e::es) σ (d::ds) a2:=
 ⟨λy y y h=>xy (h1.run _ _ λy=>h2.run _ _ _ λy hl=>h _ (cB (·+1) hl)) he⟩
theorem i8 {e s pn} {i:AV} (h1:Ev X e σ o a1) (h2:Ev X s a1 i a2) (h3:gL X e s o i d a2):Ev X (.Subscript e s pn) σ d a2:=⟨λy y h=>Gd (h1.run _ _ λy=>h2.run _ _ λy=>h3.run _ _ _ _ mH gA h)⟩
theorem gg {e lo hi p pn x i j} {dl du:AV} (h1:Ev X e σ (.str x) a1) (h2:Pd X lo a1 dl a2) (h3:Pd X hi a2 du a3) (e1:mn dl=some i) (e2:mn du=some j) (hz:x.length<=16777216):
 Ev X (.Subscript e (.Slice lo hi none p) pn) σ (.str (sl x i j)) a3:=⟨λy y h=>yh (h1.run _ _ λy=>h2.run _ _ λy=>h3.run _ _ λy=>⟨x,i,j,rfl,e1,e2,hz,h⟩)⟩
theorem gW:Pd X none σ .none σ:=⟨λy y h=>yk (h _)⟩
theorem fo {e} (h1:Ev X e σ d a1):Pd X (some e) σ d a1:=⟨λy y h=>wW (h1.run _ _ h)⟩
theorem f8 {e ah pn ds dv} (h1:Do X e σ f dv) (hk:jf X f) (h2:uU X ah σ ds a1) (h3:eO X f ds a1 d a2)
 (he:autoParam (eval (.Call e ah [] pn) X.env=(do callWith pn (<-eval e X.env) [] (backTo pn (starEach ah X.env)) [])) bR) (hp:autoParam ((backTo pn (starEach ah X.env)).any (·.1)=false) bR):Ev X (.Call e ah [] pn) σ d a2:=
 ⟨λy y h=>mM (h1.run _ _ (hk.run _ _ _ _ _ _ hp (h2.run _ _ _ λy hl=>h3.run _ _ _ hl (λy hp=>bh _ hp) h))) he⟩
theorem mY {vo:Value} {o:AV} {vs:cJ}:∀ p∈([vo]++vs).zip (o::ds),p∈vs.zip ds++((vo,o)::H):=λp hp=>by
 rw[List.singleton_append,List.zip_cons_cons]at hp
 rcases fD hp with rfl | hp
 . exact be _ dH
 . exact bh _ hp
theorem n8 {n5:Str} {ar:Pos} {ah:cI} {pl:Sem Bool} (h1:Ev X e σ o a1) (hm:lR X o n5 f a1) (hk:jf X f) (h2:uU X ah a1 ds a2) (h3:eO X f (o::ds) a2 d a3)
 (he:autoParam (eval (.Call (.Attribute e n5 ar) ah [] pn) X.env=(do
  let ov <-eval e X.env
  standAt ar.atName
  let (f,first) <-holding [ov] (getMethod ov n5 pl)
  callWith pn f first (backTo pn (starEach ah X.env)) [])) bR) (hp:autoParam ((backTo pn (starEach ah X.env)).any (·.1)=false) bR):Ev X (.Call (.Attribute e n5 ar) ah [] pn) σ d a3:=
 ⟨λy y h=>wC (h1.run _ _ λy=>hm.run _ _ _ _ gA λy=>hk.run _ _ _ _ _ _ hp (h2.run _ _ _ λy hl=>h3.run _ _ _ (by rw[bt,bd,bL,hl,Nat.add_comm]) mY h)) he⟩
theorem eY {l r:Expr} {op:CmpOp} (h1:Ev X l σ a a1) (h2:Ev X r a1 b a2) (h3:fW X op a b c a2) (hm:autoParam (behindInMarks op r=false) bW):Te X (.Compare l [op] [r] pn) σ c a2:=
 ⟨λy y h=>qV (h1.run _ _ λy=>h2.run _ _ λy=>h3.run _ _ _ _ mH gA λy=>⟨c,rfl,h⟩) hm⟩
theorem nq (h1:Ev X e σ d a1) (h2:nM X d c a1) (hs:∀ wd,isTrue e X.env wd=(do let v <-wd;standAt e.pos;holding [v] (truthy v)):=by with_unfolding_all exact λy=>rfl):Te X e σ c a1:=
 ⟨λy y h=>sS (h1.run _ _ λy=>h2.run _ _ _ gA h) hs⟩
theorem uz (h1:Te X e σ c a1):Te X (.UnaryOp .Not e pn) σ (!c) a1:=⟨λy y h=>GF (h1.run _ _ h)⟩
theorem iV (h1:IS X (e::es) σ c a1):Te X (.BoolOp .And (e::es) pn) σ c a1:=⟨λy y h=>FF (h1.run _ _ h)⟩
theorem vA (h1:Lf X (e::es) σ c a1):Te X (.BoolOp .Or (e::es) pn) σ c a1:=⟨λy y h=>Md (h1.run _ _ h)⟩
theorem wl:IS X [] σ true σ:=⟨λy y h=>tK h⟩
theorem lz:Lf X [] σ false σ:=⟨λy y h=>xu h⟩
theorem kH {c':Bool} (h1:Te X e σ c σ) (h2:IS X es σ c' σ):IS X (e::es) σ (c&&c') σ:=⟨λy y h=>jl (h1.run _ _ ⟨λq=>by subst q;exact h2.run _ _ h,λq=>by subst q;exact h⟩)⟩
theorem mq {c':Bool} (h1:Te X e σ c σ) (h2:Lf X es σ c' σ):Lf X (e::es) σ (c||c') σ:=⟨λy y h=>lX (h1.run _ _ ⟨λq=>by subst q;exact h,λq=>by subst q;exact h2.run _ _ h⟩)⟩
theorem M7:Ex X (.Break pn) σ .brk σ:=⟨λy y h=>xH h⟩
theorem jG (h1:Ev X e σ d a1):Ex X (.Return (some e) pn) σ (.ret d) a1:=⟨λy y h=>ua (h1.run _ _ λy=>h)⟩
theorem NE {x y:cH} {fl:Fl} (h1:Te X t σ c a1) (h2:Br c (jC X x a1 fl a2) (jC X y a1 fl a2)):Ex X (.If t x y pn) σ fl a2:=⟨λz z h=>DY (h1.run _ _ ⟨λq=>(h2.1 q).run _ _ h,λq=>(h2.2 q).run _ _ h⟩)⟩
theorem Kj (h1:Ev X e σ d a1) (hi:autoParam (interactive X.env=false) bR) (hs:autoParam (swapsWith e none pn.line X.env=pure false) bR):Ex X (.Expr e pn) σ .next a1:=⟨λy y h=>uY (h1.run _ _ λy=>h) hi hs⟩
theorem lN (h1:Ev X e σ d a1) (h2:I6 X x d a1 a2) (hs:autoParam (swapsWith e (some (.Name x p)) pn.line X.env=pure false) bR):Ex X (.Assign [.Name x p] e pn) σ .next a2:=
 ⟨λy y h=>iy (h1.run _ _ λy=>h2.run _ _ _ gA h) hs⟩
theorem J3 {aq:Str} (h1:Ev X e σ d a1) (h2:Ev X t a1 o a2) (h3:uQ X o aq d a2 a3) (hs:autoParam (swapsWith e (some (.Attribute t aq p)) pn.line X.env=pure false) bR):Ex X (.Assign [.Attribute t aq p] e pn) σ .next a3:=
 ⟨λy y h=>ig (h1.run _ _ λy=>h2.run _ _ λy=>h3.run _ _ _ _ gA mH h) hs⟩
theorem MD {op:Operator} {l8:LL} {oe:OL} (hm:(x,some a)∈l8) (h1:Ev X e ⟨l8,oe⟩ b a1) (h2:vp X op a b d a1) (h3:I6 X x d a1 a2) (hk:autoParam (X.env.scope.kind=.function) bR) (hl:autoParam (X.env.kindOf x=some .local) bK) (hL:autoParam (X.env.locals=X.L) bR):
 Ex X (.AugAssign (.Name x p) op e pn) ⟨l8,oe⟩ .next a2:=⟨λy y h=>A7 (AM (σ:=⟨l8,oe⟩) hm (λy=>h1.run _ _ λy=>h2.run _ _ _ _ mH gA λy=>h3.run _ _ _ gA h) hk hl hL)⟩
theorem gM:jC X [] σ .next σ:=⟨λy y h=>G8 h⟩
theorem gQ {fl:Fl} (h1:Ex X s σ .next a1) (h2:jC X ss a1 fl a2):jC X (s::ss) σ fl a2:=⟨λy Φ h=>gY (h1.run _ _ (h2.run _ Φ h))⟩
theorem jN (h1:Ex X s σ (.ret d) a1):jC X (s::ss) σ (.ret d) a1:=⟨λH Φ h=>gY (h1.run _ (j6 X.B X.n X.L ss X.env H Φ) h)⟩
theorem Of (h1:Ex X s σ .brk a1):jC X (s::ss) σ .brk a1:=⟨λH Φ h=>gY (h1.run _ (j6 X.B X.n X.L ss X.env H Φ) h)⟩
end
end
section
variable {c:Nat} {id:String} {p:Pos} {d1:AV} {ss:cH}
section
variable {X:Cx} {σ a1 a2 a3 σ':St} {d o a b:AV} {f:Value} {l8 l9:LL} {oe o5:OL} {x y:cF} {i j:Int} {ms:cV} {l:cG}
theorem EW:fW X .Lt (.int i) (.int j) (decide (i < j)) σ:=⟨λy y y y ma mb h=>R0 ma mb h⟩
theorem Qw:fW X .LtE (.int i) (.int j) (decide (i<=j)) σ:=⟨λy y y y ma mb h=>PZ ma mb h⟩
theorem Ij:fW X .Gt (.int i) (.int j) (decide (j < i)) σ:=⟨λy y y y ma mb h=>Qn ma mb h⟩
theorem R9:fW X .GtE (.int i) (.int j) (decide (j<=i)) σ:=⟨λy y y y ma mb h=>QJ ma mb h⟩
theorem KE:fW X .Eq (.int i) (.int j) (decide (i=j)) σ:=⟨λy y y y ma mb h=>Qy ma mb h⟩
theorem MQ:fW X .NotEq (.int i) (.int j) (!decide (i=j)) σ:=⟨λy y y y ma mb h=>QQ ma mb h⟩
theorem iT:fW X .Eq (.str x) (.str y) (decide (x=y)) σ:=⟨λz z z z ma mb h=>Ow ma mb h⟩
theorem wZ:fW X .NotEq (.str x) (.str y) (!decide (x=y)) σ:=⟨λz z z z ma mb h=>NI ma mb h⟩
theorem Oh {p q:Bool}:fW X .Eq (.bool p) (.bool q) (p==q) σ:=⟨λy y y y ma mb h=>MJ ma mb h⟩
theorem Ia (hy:PyData.strOk (S y)=true):fW X .Eq .none (.str y) false σ:=⟨λx x x x ma mb h=>zE ma mb rfl rfl (by simp[SeqAt.shaped,PyData.canLay0,PyData.depth]) (by simp[SeqAt.shaped,PyData.canLay0,PyData.depth,hy]) (by simp[PyData.eqv]) h⟩
theorem Ju {c:Bool} (hd:∀ P F v,Is P F v a->(v==Value.none)=c):fW X .Is a .none c σ:=⟨λy y y y ma mb h=>Ai ma mb hd h⟩
theorem wn {c:Bool} (hd:∀ P F v,Is P F v a->(v==Value.none)=c):fW X .IsNot a .none (!c) σ:=⟨λy y y y ma mb h=>uR ma mb hd h⟩
theorem AK (e:dN l=some ms):fW X .In (.str x) (.tup l) (decide (x∈ms)) σ:=⟨λy y y y ma mb h=>G7 ma mb e h⟩
theorem Bf (e:dN l=some ms):fW X .NotIn (.str x) (.tup l) (!decide (x∈ms)) σ:=⟨λy y y y ma mb h=>zK ma mb e h⟩
theorem MM {ks:List Int} (e:qp l=some ks):fW X .In (.int i) (.tup l) (decide (i∈ks)) σ:=⟨λy y y y ma mb h=>OB ma mb e h⟩
theorem M9:fW X .In (.str [c]) (.str x) (decide (c∈x)) σ:=⟨λy y y y ma mb h=>FZ ma mb h⟩
theorem Gk:sV X .Add (.int i) (.int j) (.int (i+j)) σ:=⟨λy y y y ma mb h=>OS ma mb h⟩
theorem GC:sV X .Sub (.int i) (.int j) (.int (i - j)) σ:=⟨λy y y y ma mb h=>NV ma mb h⟩
theorem G0 (hj:j≠0):sV X .Mod (.int i) (.int j) (.int (i.fmod j)) σ:=⟨λy y y y ma mb h=>NU ma mb hj h⟩
theorem rK (hz:x.length+y.length<=16777216):sV X .Add (.str x) (.str y) (.str (x++y)) σ:=⟨λz z z z ma mb h=>KU ma mb hz h⟩
theorem LF:vp X .Add (.int i) (.int j) (.int (i+j)) σ:=⟨λy y y y ma mb h=>JT ma mb h⟩
theorem Ne:vp X .Sub (.int i) (.int j) (.int (i - j)) σ:=⟨λy y y y ma mb h=>Kt ma mb h⟩
theorem B5 (hz:x.length+y.length<=16777216):vp X .Add (.str x) (.str y) (.str (x++y)) σ:=⟨λz z z z ma mb h=>Dh ma mb hz h⟩
theorem kf {c:Bool}:nM X (.bool c) c σ:=⟨λy y y m h=>lK m h⟩
theorem IE:nM X .none false σ:=⟨λy y y m h=>J1 m h⟩
theorem M0:nM X (.int i) (!decide (i=0)) σ:=⟨λy y y m h=>Op m h⟩
theorem OV (hz:x.length<=16777216):nM X (.str x) (!decide (x=[])) σ:=⟨λy y y m h=>OQ m hz h⟩
theorem KK {s:Addr}:nM X (.meth g s) true σ:=⟨λy y y m h=>JU m h⟩
theorem B4 {c:Addr} (m:(c,AO.list l)∈oe) (hz:l.length<=16777216):nM X (.ref c) (!l.isEmpty) ⟨l8,oe⟩:=⟨λy y y mv h=>IM (σ:=⟨l8,oe⟩) mv m hz h⟩
variable {s:Addr} {C dx:Addr} {fs fs':FL} {n5:Str} {g:Addr}
theorem Os (m:(s,AO.inst C dx fs)∈oe) (hf:ew n5 fs=none) (ho:gj X.B.K C n5 g=true):wF X (.ref s) n5 (.meth g s) ⟨l8,oe⟩:=⟨λy y y mv h=>EJ (σ:=⟨l8,oe⟩) mv m ho hf h⟩
theorem LZ (m:(s,AO.inst C dx fs)∈oe) (hf:ew n5 fs=none) (ho:pP X.B.K C n5=some i):wF X (.ref s) n5 (.int i) ⟨l8,oe⟩:=⟨λy y y mv h=>zN (σ:=⟨l8,oe⟩) mv m ho hf h⟩
theorem tQ (m:(s,AO.inst C dx fs)∈oe) (hp:nK n5 d fs fs') (hc:oB s (.inst C dx fs) (.inst C dx fs') oe o5) (ho:j9 X.B.K C n5=true) (hz:fs.length<=900:=by simp):uQ X (.ref s) n5 d ⟨l8,oe⟩ ⟨l8,o5⟩:=
 ⟨λy y y y mv md h=>OD mv md m hp hc ho hz h⟩
theorem wG (m:(s,AO.inst C dx fs)∈oe) (hf:ew n5 fs=none) (ho:gj X.B.K C n5 g=true):lR X (.ref s) n5 (.ref g) ⟨l8,oe⟩:=⟨λy y y y mv h=>Cd (σ:=⟨l8,oe⟩) mv m ho hf h⟩
theorem qR (slot:Slot "str" n5 id) (ty:typeOf (.builtin id)=pure (.type "method_descriptor")):lR X (.str x) n5 (.builtin id) σ:=⟨λy y y y mv h=>N3 mv slot ty h⟩
theorem Jc {c:Addr} (m:(c,AO.list l)∈oe) (slot:Slot "list" n5 id) (ty:typeOf (.builtin id)=pure (.type "method_descriptor")):lR X (.ref c) n5 (.builtin id) ⟨l8,oe⟩:=⟨λy y y y mv h=>Kf (σ:=⟨l8,oe⟩) mv m slot ty h⟩
theorem MS (m:(s,AO.inst C dx fs)∈oe) (hf:yM n5 d fs) (ho:ik X.B.K C n5=true) (hn:findIn X.B.K (.ref C) n5=some none) (hd:ja d=true):Aq X (.ref s) n5 d ⟨l8,oe⟩:=⟨λy y y y mv h=>nD (σ:=⟨l8,oe⟩) mv m ho hn hf.eq hd h⟩
theorem fc {nm:Str} (m:jV nm d l8 l9) (hl:autoParam (X.env.kindOf nm=some .local) bK) (hL:autoParam (X.env.locals=X.L) bR) (hp:autoParam ((X.env.scope.kind==.class||(X.env.scope.kind==.module&&X.env.locals !=X.env.globals))=false) bR):I6 X nm d ⟨l8,oe⟩ ⟨l9,oe⟩:=
 ⟨λy y y md h=>pX md m h hl hL hp⟩
theorem eV {nm:Str} (h1:I6 X nm d σ σ'):tI X (.Name nm p) d σ σ':=⟨λy y y md h=>sU (h1.run _ _ _ md h)⟩
variable {e1 e2:Expr} {k:Nat}
theorem y7 (hc:zc x i=some c) (hz:x.length<=16777216) (hs:∀ o i,∃ ops,subscripted e2 false o i=operate ops (getItem o i):=by exact λy y=>⟨_,rfl⟩):gL X e1 e2 (.str x) (.int i) (.str [c]) σ:=⟨λy y y y mo mi h=>Ng mo mi hc hz h (hs _ _)⟩
theorem pH {fs:FL} (hd:ew (S x) fs=some d) (hs:∀ o i,∃ ops,subscripted e2 false o i=operate ops (getItem o i):=by exact λy y=>⟨_,rfl⟩):gL X e1 e2 (.dct fs) (.str x) d σ:=⟨λy y y y mo mi h=>Oc mo mi hd h (hs _ _)⟩
theorem fS (hk:keepIn X.B.K (.ref g)=true):jf X (.ref g):=⟨λy y y y y y hp h=>nQ hk h hp⟩
theorem gt:jf X (.builtin id):=⟨λy y y y y y hp h=>CD h hp⟩
theorem FX {T:String}:jf X (.type T):=⟨λy y y y y y hp h=>EQ h hp⟩
theorem Co {m:Nat} {ds:cG} (c:cY X.B m g ds oe λd' o'=>d'=d/\o'=o5) (hm:m<=X.n):eO X (.ref g) ds ⟨l8,oe⟩ d ⟨l8,o5⟩:=⟨λy y y hl hp h=>nW c hm hl hp λd' o' e v=>by obtain⟨rfl,rfl⟩:=e;exact h v⟩
theorem i6 {α:Type} {n:Nat} {l:List α} (e:l.length=n+1):∃ a r,l=a::r/\r.length=n:=by
 induction l using List.casesOn with
 | nil=>contradiction
 | cons a r=>exact⟨a,r,rfl,Nat.succ.inj e⟩
theorem ow {α:Type} {l:List α} (e:l.length=0):l=[]:=b7 e
theorem nE (h:∀ (H:HL) v (Φ:PV),(v,d1)∈H->(∀ w,Φ w d σ')->WV X.B X.n X.L (call f [v]) H σ Φ):eO X f [d1] σ d σ':=⟨λH vs Φ hl hp k=>by
 refine iM (i6 hl) ?_;rintro v r rfl hl1
 cases ow hl1
 exact h H v Φ (hp _ dH) k⟩
theorem kZ {d2:AV} (h:∀ (H:HL) v w (Φ:PV),(v,d1)∈H->(w,d2)∈H->(∀ w,Φ w d σ')->WV X.B X.n X.L (call f [v,w]) H σ Φ):eO X f [d1,d2] σ d σ':=⟨λH vs Φ hl hp k=>by
 refine iM (i6 hl) ?_;rintro v r rfl hl1
 refine iM (i6 hl1) ?_;rintro w r rfl hl2
 cases ow hl2
 exact h H v w Φ (hp _ dH) (hp _ iL) k⟩
theorem FB {d2 d3 d4:AV} (h:∀ (H:HL) v1 v2 v3 v4 (Φ:PV),(v1,d1)∈H->(v2,d2)∈H->(v3,d3)∈H->(v4,d4)∈H->(∀ w,Φ w d σ')->WV X.B X.n X.L (call f [v1,v2,v3,v4]) H σ Φ):eO X f [d1,d2,d3,d4] σ d σ':=⟨λH vs Φ hl hp k=>by
 refine iM (i6 hl) ?_;rintro v1 r rfl hl1
 refine iM (i6 hl1) ?_;rintro v2 r rfl hl2
 refine iM (i6 hl2) ?_;rintro v3 r rfl hl3
 refine iM (i6 hl3) ?_;rintro v4 r rfl hl4
 cases ow hl4
 exact h H v1 v2 v3 v4 Φ (hp _ dH) (hp _ iL) (hp _ qB) (hp _ uD) k⟩
theorem oZ (hz:x.length<=16777216):eO X (.builtin "len") [.str x] σ (.int x.length) σ:=nE λy y y m h=>Hw m hz h
theorem At {c:Addr} (m:(c,AO.list l)∈oe) (hz:l.length<=16777216):eO X (.builtin "len") [.ref c] ⟨l8,oe⟩ (.int l.length) ⟨l8,oe⟩:=nE λy y y mv h=>Hx (σ:=⟨l8,oe⟩) mv m hz h
theorem Nu:eO X (.builtin "ord") [.str [c]] σ (.int c) σ:=nE λy y y m h=>Od m h
theorem D6:eO X (.builtin "str.count") [.str x,.str [c],.int 0,.int i] σ (.int (fO c x i)) σ:=FB λy y y y y y m1 m2 m3 m4 h=>AA m1 m2 m3 m4 h
theorem E0:eO X (.builtin "str.rfind") [.str x,.str [c],.int 0,.int i] σ (.int (iz c x i)) σ:=FB λy y y y y y m1 m2 m3 m4 h=>zG m1 m2 m3 m4 h
theorem C6 {c:Addr} (m:oB c (.list l) (.list (l++[d])) oe o5) (hz:l.length<=16777216):eO X (.builtin "list.append") [.ref c,d] ⟨l8,oe⟩ .none ⟨l8,o5⟩:=kZ λy y y y mv md h=>lQ (σ:=⟨l8,oe⟩) mv md m hz (h _)
theorem zT {c:Addr} (m:(c,AO.list l)∈oe) (e:dN l=some ms) (hz:ms.flatten.length<=16777216):eO X (.builtin "str.join") [.str [],.ref c] ⟨l8,oe⟩ (.str ms.flatten) ⟨l8,oe⟩:=kZ λy y y y mv md h=>Il (σ:=⟨l8,oe⟩) mv md m e hz h
theorem qA {st:Stmt} (h1:Ex X st σ .next a1) (h2:Ey X ss a1 fl a2):Ey X (st::ss) σ fl a2:=⟨λH Φ h=>OH (h1.run _ (jK X.B X.n X.L ss X.env H Φ) (h2.run _ Φ h))⟩
theorem MF (h1:jC X ss σ fl a1):Ey X ss σ fl a1:=⟨λy y h=>G9 (h1.run _ _ h)⟩
theorem CP {i:Int} {kk:Nat} {kp:Pos} {t:Expr} {aq:Str} {pn:Pos} (h1:Ev X t σ o a1) (h2:uQ X o aq (.int i) a1 a2) (h3:Ey X ss a2 fl a3):jC X (.Assign [.Attribute t aq p] (.Constant (.int i) kk kp) pn::ss) σ fl a3:=
 ⟨λH Φ h=>D5 λy=>h1.run _ _ λy=>h2.run _ _ _ _ gA mH (h3.run H Φ h)⟩
theorem wK {u v:Str} {ca cb:Str} {la lb l:cF} {q ap pn pz:Pos} {ka kb:Nat} {pa pb:Pos} (ea:ca=S la) (eb:cb=S lb) (m:(v,some (.str l))∈l8) (sl:jV u (.str (gZ l la lb)) l8 l9)
 (hz:l.length<=1048576) (h:Ey X ss ⟨l9,oe⟩ fl σ') (hb:autoParam (lb.length<=14) bD) (hk:autoParam (X.env.scope.kind=.function) bR) (hy:autoParam (X.env.kindOf v=some .local) bK) (hx:autoParam (X.env.kindOf u=some .local) bK) (hL:autoParam (X.env.locals=X.L) bR) (hd:autoParam ((v==("__debug__":Str))=false) bK)
 (hp:autoParam ((X.env.scope.kind==.class||(X.env.scope.kind==.module&&X.env.locals !=X.env.globals))=false) bR) (hne:autoParam ((S la==S lb)=false) bD) (aM:autoParam ((ap.endLine==pz.line)=true) bR)
 (hs:autoParam (swapsWith (.Call (.Attribute (.Name v q) "replace" ap) [.Constant (.str ca) ka pa,.Constant (.str cb) kb pb] [] pz) (some (.Name u p)) pn.line X.env=pure false) bR):
 Ey X (.Assign [.Name u p] (.Call (.Attribute (.Name v q) "replace" ap) [.Constant (.str ca) ka pa,.Constant (.str cb) kb pb] [] pz) pn::ss) ⟨l8,oe⟩ fl σ':=⟨λH Φ k=>rk ea eb m sl hz hb hk hy hx hL hd hp hne aM (h.run H Φ k) hs⟩
end
section
variable {X:Cx} {σ a1 σ':St} {d:AV} {fl f0:Fl}
def RE (X:Cx) (ss:cH):Fl->St->PF
 | .next,σ,fl,σ'=>jC X ss σ fl σ'
 | f,σ,fl,σ'=>fl=f/\σ'=σ
theorem tR {s:Stmt} (h1:Ex X s σ f0 a1) (h2:RE X ss f0 a1 fl σ'):jC X (s::ss) σ fl σ':=⟨λH Φ h=>gY (h1.run _ (j6 X.B X.n X.L ss X.env H Φ) (by
 induction f0 using Fl.casesOn with
 | next=>exact h2.run _ Φ h
 | ret d=>obtain⟨rfl,rfl⟩:=h2;exact h
 | brk=>obtain⟨rfl,rfl⟩:=h2;exact h
 | cont=>obtain⟨rfl,rfl⟩:=h2;exact h))⟩
theorem xO:RE X ss (.ret d) σ (.ret d) σ:=⟨rfl,rfl⟩
def NX:Fl->AV->Prop
 | .ret d,e=>d=e
 | .next,e=>e=.none
 | _,_=>False
end
theorem uk {B:cX} {n:Nat} {oe o5:OL} {n5 qc:Str} {pt:Arguments} {b0 b3:cH} {se si:Scope} {dV kV d8 pm c6 ct oc:Value} {an od:Option Addr} {ol:cT} {f:Addr} {ah ds:cG} {d:AV} {l8:LL} (ps xs:cL)
 (ho:B.K.lookup f=some ⟨oc,od,.func (fnOf n5 qc pt b0 se dV kV d8 pm an c6 ct),ol⟩) (aP:codeIn B.K c6 qc=true)
 (hb:fE B (fnOf n5 qc pt b0 se dV kV d8 pm an c6 ct) ps ah ds) (h:∀ L,∃ fl l9 o',jC ⟨B,n,L,envOf qc si L f c6⟩ b3 ⟨l8,oe⟩ fl ⟨l9,o'⟩/\NX fl d/\o'=o5)
 (eb:autoParam (b0=b3) bC) (es:autoParam (se=si) bC)
 (aE:eP ps ds++bare xs=l8:=by simp only[eP,bare,cf,List.map_nil,bO,List.nil_append]<;>rfl) (hl:autoParam (ps.length=ds.length) bR) (hn:autoParam ((ps++xs).Nodup) bD) (aR:autoParam (ps.all (λy=>si.names.lookup y==some .local)=true) bR)
 (aH:autoParam (si.isCoroutine=false) bR) (aC:autoParam (si.isGenerator=false) bR) (hk:autoParam (si.kind=.function) bR) (aj:autoParam (∀ x∈si.names,x.2≠.cell) bD):cY B (n+1) f ah oe λd' o=>d'=d/\o=o5:=
 Cs ps xs ho aP hb (λL=>by
 refine jS (h L) ?_;rintro fl l9 o' e r rfl
 refine e.run _ _ ?_
 cases fl with
 | ret d=>exact⟨r,rfl⟩
 | next=>exact⟨r.symm,rfl⟩
 | brk=>exact r.elim
 | cont=>exact r.elim) eb es aE hl hn aR aH aC hk aj
end
section
variable {X:Cx} {σ:St}
theorem ne1 {z k:Nat} (h:z≠k):decide ([z]=[k])=false:=bS λq=>h (List.cons.inj q).1
end
section
variable {d:AV} {b:Bool} {e:cI} {v:Value}
section
variable {X:Cx} {σ σ':St}
end
end
section
noncomputable abbrev sI (ak:cF):AO:=.dict [("type",.int 6),("data",.str ak)]
noncomputable abbrev JK (ak:cF):AV:=.dct [("type",.int 6),("data",.str ak)]
section
variable {X:Cx} {σ a1:St} {a c:Addr} {l8 l9:LL} {oe o5 om:OL} {ak y:cF} {l:FL} {ks:cG}
theorem Cj (tk:lh a (.dict l) oe o5) (m:oB c (.list ks) (.list (ks++[.dct l])) o5 om) (hz:ks.length<=16777216):eO X (.builtin "list.append") [.ref c,.ref a] ⟨l8,oe⟩ .none ⟨l8,om⟩:=
 kZ λy y y y mv md h=>Gs md tk (lQ (σ:=⟨l8,o5⟩) (.tail _ mv) dH m hz (h _))
end
end
section
def Mk {α:Type} (t:Sem α):Prop:=∀ (M:Model) (Γ:Ctx) {Q:α->Pos->Shared->Prop} {E:Value->Pos->Shared->Prop} {p:Pos} {s:Shared},Sem.wp M Γ t Q E p s->Sem.wp M Γ t (λa p' s'=>0 < s'.toks/\Q a p' s') E p s
section
variable {α β:Type}
theorem Mk.fst {t:Sem α} {k:α->Sem β} (h:Mk t):Mk (t >>= k):=λM Γ {Q E p s} w=>by
 rw[Sem.wp_bind']at w |-
 exact Sem.wp_mono M Γ t (λa p' s' ⟨ht,q⟩=>xJ M Γ (k a) 1 ht q) (λy y y e=>e) p s (h M Γ w)
theorem Mk.snd {t:Sem α} {k:α->Sem β} (h:∀ a,Mk (k a)):Mk (t >>= k):=λM Γ {Q E p s} w=>by
 rw[Sem.wp_bind']at w |-
 exact Sem.wp_mono M Γ t (λa p' s' q=>h a M Γ q) (λy y y e=>e) p s w
theorem Mk.hold {vs:cJ} {t:Sem α} (h:Mk t):Mk (holding vs t):=λM Γ {Q E p s} w=>by
 rw[Sem.wp_holding]at w |-
 exact h M Γ w
theorem Mk.str {x:Str} {k pn} {e9:Env}:Mk (eval (.Constant (.str x) k pn) e9):=λM Γ {Q E p s} w=>⟨Nat.succ_pos _,w⟩
theorem Mk.args {f:Value} {x:Sem Value} {r8:List (Bool×Sem Value)} (h:Mk x):Mk (evalArgs f true ((false,x)::r8) []):=by
 unfold evalArgs;refine Mk.fst ?_
 exact h.fst
theorem Mk.callW {pn:Pos} {f:Value} {first:cJ} {x:Sem Value} {r8:List (Bool×Sem Value)} (h:Mk x):Mk (callWith pn f first ((false,x)::r8) []):=by
 unfold callWith;exact(Mk.args h).hold.fst
end
section
variable {B:cX} {n:Nat} {L:Addr} {H:HL} {σ:St} {e9:Env}
theorem QG {st:Stmt} {r8:cH} {Φ:PF} (mk:Mk (exec st e9)) (h:WF B n L (exec st e9) H σ (jK B n L r8 e9 H Φ)):WF B n L (execs (st::r8) e9) H σ Φ:=d9 λA F s hA x=>by
 rw[execs_cons];have w:=h.run A F s hA x
 refine cw (cx (Q:=λf s'=>0 < s'.toks/\di B L H σ F s s' λF' σ'=>∃ e,qe B.P F' f e/\jK B n L r8 e9 H Φ e σ') (λΓ p hΓ=>mk B.M Γ (w Γ p hΓ)) (λf s0 z=>?_) λy y z=>z)
 have:=kO (s0:=s0) hA z.1 z.2
 rcases f with _ | _<;>exact this
theorem Mk.assignCall {x:Str} {e:Expr} {n5:Str} {c:Str} {k:Nat} {kp p ar pz pn:Pos} {pl:Sem Bool} (hs:swapsWith (.Call (.Attribute e n5 ar) [.Constant (.str c) k kp] [] pz) (some (.Name x p)) pn.line e9=pure false)
 (he:eval (.Call (.Attribute e n5 ar) [.Constant (.str c) k kp] [] pz) e9=(do
  let ov <-eval e e9
  standAt ar.atName
  let (f,first) <-holding [ov] (getMethod ov n5 pl)
  callWith pz f first (backTo pz (starEach [.Constant (.str c) k kp] e9)) [])):Mk (exec (.Assign [.Name x p] (.Call (.Attribute e n5 ar) [.Constant (.str c) k kp] [] pz) pn) e9):=by
 rw[exec_Assign_Name e9 x p _ pn hs,he];refine Mk.snd λy=>Mk.fst (Mk.snd λov=>Mk.snd λy=>Mk.snd λfp=>?_)
 exact Mk.callW (Mk.str (x:=c) (k:=k) (pn:=kp) (e9:=e9))
end
theorem R2 {X:Cx} {σ a1 a2:St} {st:Stmt} {ss:cH} {fl:Fl} (mk:Mk (exec st X.env)) (h1:Ex X st σ .next a1) (h2:Ey X ss a1 fl a2):jC X (st::ss) σ fl a2:=⟨λH Φ h=>QG mk (h1.run _ (jK X.B X.n X.L ss X.env H Φ) (h2.run _ Φ h))⟩
end
section
section
variable {B:cX} {n:Nat} {L:Addr} {H:HL} {σ:St} {e9:Env}
theorem IT {v7 slice:Expr} {o i:Value} {a:Addr} {l:cG} {d:AV} {Φ:PV} (mo:(o,.ref a)∈H) (ma:(a,AO.list (l++[d]))∈σ.objs) (mi:(i,.int (-1))∈H) (hz:l.length<=16777000) (h:∀ v,Φ v d σ)
 (hs:∃ ops,subscripted slice false o i=operate ops (getItem o i)):WV B n L (subscriptTail v7 slice o i) H σ Φ:=by
 refine gv (T:="list") (λF s X=>?_) slot_list_getitem.lookup (d9 λA F s hA X=>?_) hs
 . obtain rfl:=dG (X.hold mo);refine iM (X.objs _ ma) ?_;rintro vs q h1 h2;exact⟨_,h1,rfl⟩
 . obtain rfl:=dG (X.hold mo)
   refine iM (X.objs _ ma) ?_;rintro vs q h1 h2
   obtain⟨u,rfl⟩:=dk (X.hold mi);have am:=h2.length
   rw[bt,bd]at am
   refine dQ (kY.nth h2 (k:=l.length) (d:=d) (by simp)) ?_;rintro y hy hyd
   refine wpAny_getItem_list_neg (l:=a) (items:=vs.toArray) ⟨_,h1,rfl,_,rfl⟩ (by decide) (by simp;omega) (by decide) ?_ (.here X ⟨d,hyd,h _⟩)
   have:((-1:Int)+(vs.toArray.size:Nat)).toNat=l.length:=by simp;omega
   rw[this]
   simpa using hy
theorem JG {a:Addr} {l:cG} {d:AV} {v6:Value} {l8:LL} {oe o5:OL} {Φ:PV} (mv:(v6,.ref a)∈H) (m:oB a (.list (l++[d])) (.list l) oe o5) (hz:l.length<=16777000)
 (h :∀ v,Φ v d ⟨l8,o5⟩):WV B n L (call (.builtin "list.pop") [v6]) H ⟨l8,oe⟩ Φ:=d9 λA F s hA X=>by
 refine iM (m.split) ?_;rintro pB px rfl rfl
 obtain rfl:=dG (X.hold mv)
 refine iM (X.objs (a,.list (l++[d])) (by simp)) ?_;rintro vs q h1 h2
 have am:=h2.length
 rw[bt,bd]at am
 refine dQ (kY.nth h2 (k:=l.length) (d:=d) (by simp)) ?_;rintro y hy hyd
 have hvs:IsAll B.P F vs.dropLast l:=by
  have:=kY.era h2 l.length
  rw[List.eraseIdx_append_of_length_le (cv _),Nat.sub_self]at this
  rw[show vs.dropLast=vs.eraseIdx l.length from by rw[<-List.eraseIdx_eq_dropLast];congr 1;omega]
  simpa using this
 refine PyProof.Rows.Copied.pop_at (D:=a) (its:=vs.toArray) (n:=q) h1 (by simpa [am]using hy) (λh' sb hg=>?_) (by rw[dP];simp;omega)
 refine di.change (o':=.list l) X (c:=a) (.inl rfl) rfl (λb y x q e=>(sb.2 b q).trans e) ?_ ⟨vs.dropLast,q+1,?_,hvs⟩ rfl rfl ⟨d,hyd,h _⟩
 . refine dQ (X.frame) ?_;rintro m5 FR hl
   exact⟨m5,FR.ns.sameBut sb (λe=>(bU.mp X.nodup).1 (by rw[e];exact dK.mpr ⟨_,be _ dH,.inl rfl⟩)),hl⟩
 . rw[hg];simp[dU]
end
end
section
variable {ss:cH} {t:Expr} {pn:Pos} {ds:cG}
structure dT (X:Cx) (ss:cH) (σ:St) (Q:PF):Prop where
 run:∀ (H:HL) (Φ:PF),(∀ f σ',Q f σ'->Φ f σ')->WF X.B X.n X.L (execs ss X.env) H σ Φ
structure Cn (X:Cx) (s:Stmt) (σ:St) (Q:PF):Prop where
 run:∀ (H:HL) (Φ:PF),(∀ f σ',Q f σ'->Φ f σ')->WF X.B X.n X.L (exec s X.env) H σ Φ
inductive je (X:Cx) (t:Expr) (b0:cH):Nat->St->St->Prop
 | done {σ σ'}:Te X t σ false σ'->je X t b0 0 σ σ'
 | step {k σ a1 a2 σ'}:Te X t σ true a1->jC X b0 a1 .next a2->je X t b0 k a2 σ'->je X t b0 (k+1) σ σ'
section
variable {X:Cx} {σ a1 a2 σ':St} {Q:PF} {l8 l9:LL} {oe o5:OL} {a:Addr} {l:cG} {d o:AV}
theorem gi {f:Fl} (h1:jC X ss σ f σ') (h2:Q f σ'):dT X ss σ Q:=⟨λy y h=>h1.run _ _ (h _ _ h2)⟩
theorem dJ {s:Stmt} (h1:Ex X s σ .next a1) (h2:dT X ss a1 Q):dT X (s::ss) σ Q:=⟨λH Φ h=>gY (h1.run _ (j6 X.B X.n X.L ss X.env H Φ) (h2.run _ Φ h))⟩
theorem D1 {s:Stmt} (h1:Cn X s σ λf σ'=>f≠.next/\Q f σ'):dT X (s::ss) σ Q:=⟨λH Φ h=>gY (h1.run _ (j6 X.B X.n X.L ss X.env H Φ) λf σ' ⟨ne,q⟩=>by
 induction f using Fl.casesOn with
 | next=>exact cD rfl ne
 | ret d=>exact h _ _ q
 | brk=>exact h _ _ q
 | cont=>exact h _ _ q)⟩
theorem Ok {x y:cH} {c:Bool} (h1:Te X t σ c a1) (h2:Br c (dT X x a1 Q) (dT X y a1 Q)):Cn X (.If t x y pn) σ Q:=⟨λz z h=>DY (h1.run _ _ ⟨λq=>(h2.1 q).run _ _ h,λq=>(h2.2 q).run _ _ h⟩)⟩
theorem iA {x:Str} {es:cI} {p lp:Pos} (h1:uU X es σ ds ⟨l8,oe⟩) (hz:ds.length<=16777216) (h2:∀ a,∃ l9,jV x (.ref a) l8 l9/\dT X ss ⟨l9,(a,.list ds)::oe⟩ Q)
 (hs:autoParam (swapsWith (.List es lp) (some (.Name x p)) pn.line X.env=pure false) bR) (hl:autoParam (X.env.kindOf x=some .local) bK) (hL:autoParam (X.env.locals=X.L) bR) (hp:autoParam ((X.env.scope.kind==.class||(X.env.scope.kind==.module&&X.env.locals !=X.env.globals))=false) bR):
 dT X (.Assign [.Name x p] (.List es lp) pn::ss) σ Q:=⟨λH Φ h=>gY (iy (vI (h1.run _ _ _ λy y=>⟨hz,λa=>by
 refine dQ (h2 a) ?_;rintro l9 aQ w
 exact pX gA aQ (w.run _ Φ h) hl hL hp⟩)) hs)⟩
theorem rM {b0:cH} {k:Nat} (r:je X t b0 k σ σ'):Ex X (.While t b0 [] pn) σ .next σ':=⟨λy Φ h=>sL (λk σ=>je X t b0 k σ σ') k r λk σ r=>by
 cases r with
 | done ht=>exact ht.run _ _ ⟨(λq=>nomatch q),λy=>h⟩
 | @step k' _ a1 a2 _ ht hb r=>exact ht.run _ _ ⟨λy=>hb.run _ (sH (λa2=>∃ m,m < k'+1/\je X t b0 m a2 σ') Φ) ⟨k',bQ _,r⟩,λq=>nomatch q⟩⟩
theorem BD {e1 e2:Expr} (m:(a,AO.list (l++[d]))∈oe) (hz:l.length<=16777000) (hs:∀ o i,∃ ops,subscripted e2 false o i=operate ops (getItem o i):=by exact λy y=>⟨_,rfl⟩):gL X e1 e2 (.ref a) (.int (-1)) d ⟨l8,oe⟩:=
 ⟨λy y y y mo mi h=>IT (σ:=⟨l8,oe⟩) mo m mi hz h (hs _ _)⟩
theorem Kh (m:oB a (.list (l++[d])) (.list l) oe o5) (hz:l.length<=16777000):eO X (.builtin "list.pop") [.ref a] ⟨l8,oe⟩ d ⟨l8,o5⟩:=nE λy y y mv h=>JG mv m hz h
theorem Jh {ps:List PyData} (he:dataAll ds=some ps) (sq:PyData.canLayAll0 ps=true) (hc:(ps.any λy=>PyData.eqv y .none)=false):fW X .In .none (.tup ds) false σ:=⟨λx x x x ma mb h=>Ca (p:=.none) ma mb rfl he rfl sq (by decide) hc h⟩
end
theorem ug {B:cX} {n:Nat} {oe:OL} {n5 qc:Str} {pt:Arguments} {b0 b3:cH} {se si:Scope} {dV kV d8 pm c6 ct oc:Value} {an od:Option Addr} {ol:cT} {f:Addr} {ah:cG} {P:AV->OL->Prop} {l8:LL} (ps xs:cL)
 (ho:B.K.lookup f=some ⟨oc,od,.func (fnOf n5 qc pt b0 se dV kV d8 pm an c6 ct),ol⟩) (aP:codeIn B.K c6 qc=true)
 (hb:fE B (fnOf n5 qc pt b0 se dV kV d8 pm an c6 ct) ps ah ds) (h:∀ L,dT ⟨B,n,L,envOf qc si L f c6⟩ b3 ⟨l8,oe⟩ λf σ'=>∃ d,f=.ret d/\P d σ'.objs)
 (eb:autoParam (b0=b3) bC) (es:autoParam (se=si) bC)
 (aE:eP ps ds++bare xs=l8:=by simp only[eP,bare,cf,List.map_nil,bO,List.nil_append]<;>rfl) (hl:autoParam (ps.length=ds.length) bR) (hn:autoParam ((ps++xs).Nodup) bD) (aR:autoParam (ps.all (λy=>si.names.lookup y==some .local)=true) bR)
 (aH:autoParam (si.isCoroutine=false) bR) (aC:autoParam (si.isGenerator=false) bR) (hk:autoParam (si.kind=.function) bR) (aj:autoParam (∀ x∈si.names,x.2≠.cell) bD):cY B (n+1) f ah oe P:=
 Cs ps xs ho aP hb (λL=>(h L).run _ _ λf σ' ⟨d,e,q⟩=>by subst e;exact q) eb es aE hl hn aR aH aC hk aj
end
section
variable {e:Expr} {es:cI} {c:Bool} {pn:Pos}
section
variable {B:cX} {n:Nat} {L:Addr} {H:HL} {σ:St}
theorem BV {a b:Value} {c:Nat} {x:cF} {Φ:PV} (ma:(a,.str [c])∈H) (mb:(b,.str x)∈H) (h:∀ v,Φ v (.bool (!decide (c∈x))) σ):WV B n L (compareOp .NotIn a b) H σ Φ:=d9 λA F s hA X=>by
 obtain⟨t1,rfl⟩:=dy (X.hold ma);obtain⟨t2,rfl⟩:=dy (X.hold mb);have e:(!(Builtin.Str.occurrences (S x) (S [c]) 0 (S x).length 1).isEmpty)=decide (c∈x):=StrLaws.found_one (S x) c
 with_reducible exact notIn_str (.here X ⟨_,.bool _,by rw[e];exact h _⟩)
end
section
variable {X:Cx} {σ a1 a2 σ':St} {Q:PF} {l8 l9:LL} {oe o5:OL} {a:Addr} {d:AV} {x:cF}
theorem kh (h1:Te X e σ c a1) (q:c=false):IS X (e::es) σ false a1:=⟨λy y h=>jl (h1.run _ _ ⟨(λq'=>by rw[q]at q';exact nomatch q'),λy=>h⟩)⟩
theorem mJ {c':Bool} (h1:Te X e σ c a1) (q:c=true) (h2:IS X es a1 c' a2):IS X (e::es) σ c' a2:=⟨λy y h=>jl (h1.run _ _ ⟨λy=>h2.run _ _ h,λq'=>by rw[q]at q';exact nomatch q'⟩)⟩
theorem jX {c':Bool} (h1:Te X e σ c a1) (q:c=false) (h2:Lf X es a1 c' a2):Lf X (e::es) σ c' a2:=⟨λy y h=>lX (h1.run _ _ ⟨λq'=>(by rw[q]at q';exact nomatch q'),λy=>h2.run _ _ h⟩)⟩
theorem K5 {c:Nat}:fW X .NotIn (.str [c]) (.str x) (!decide (c∈x)) σ:=⟨λy y y y ma mb h=>BV ma mb h⟩
theorem AP {t6 i4:Expr} {b0:cH} {N:Nat} {i3:Nat->AV} (lo:Nat->LL) (ob:Nat->OL) (h1:Ev X i4 σ d ⟨lo 0,ob 0⟩) (it:∀ xv,fb X.B X.n X.L xv d N i3)
 (h2:∀ i,i < N->∀ a p,∃ a2,tI X t6 (i3 i) ⟨lo i,(a,.is p)::ob i⟩ a2/\jC X b0 a2 .next ⟨lo (i+1),(a,.is p)::ob (i+1)⟩)
 (hs:autoParam (∀ x,foldedSetIterable i4 X.env x=pure x) bI) (ht:autoParam (∀ it v,letOwnedTupleGo t6 it v=pure ()) bJ):Ex X (.For t6 i4 b0 [] pn) σ .next ⟨lo N,ob N⟩:=⟨λy Φ h=>MT (λi σ=>σ=⟨lo i,ob i⟩)
 (h1.run _ _ λxv=>⟨N,i3,it xv,rfl,λσ e=>e▸h,λi l8 oe a p v hi e=>by
  obtain⟨rfl,rfl⟩:=St.mk.inj e;refine dQ (h2 i hi a p) ?_;rintro a2 w1 w2
  exact w1.run _ _ _ gA (w2.run _ (lx a p _ Φ) ⟨_,_,rfl,rfl⟩)⟩) hs ht⟩
end
end
section
variable {x:Str} {pn:Pos} {t6 ee:Expr} {i5:cI} {i3:Nat->AV}
section
variable {B:cX} {n:Nat} {L:Addr} {H:HL} {e9:Env}
end
section
variable {X:Cx} {σ a1 a2 σ':St} {Q:PF} {l8 l9:LL} {oe o5:OL} {a c:Addr} {d:AV}
theorem fL (hc:X.env.cells.lookup x=some c) (m:(c,AO.cell (some d))∈oe) (hk:autoParam (X.env.scope.kind=.function) bR) (hl:autoParam (X.env.kindOf x=some .cell) bK) (hd:autoParam ((x==("__debug__":Str))=false) bK):
 Ev X (.Name x pn) ⟨l8,oe⟩ d ⟨l8,oe⟩:=⟨λy y h=>zI hc m h hk hl hd⟩
theorem oK {o:cN} (hc:X.env.cells.lookup x=some c) (m:oB c (.cell o) (.cell (some d)) oe o5) (hk:autoParam (X.env.scope.kind=.function) bR) (hl:autoParam (X.env.kindOf x=some .cell) bK):I6 X x d ⟨l8,oe⟩ ⟨l8,o5⟩:=⟨λy y y md h=>AL hc md m h hk hl⟩
structure QM (X:Cx) (i5:cI) (σ:St) (b:Bool) (σ':St):Prop where
 run:∀ (H:HL) (Φ:Bool->St->Prop),Φ b σ'->WB X.B X.n X.L (m8 i5 X.env) H σ Φ
theorem oP:QM X [] σ true σ:=⟨λy y h=>GQ h⟩
theorem AH {t:Expr} {b:Bool} (h1:Te X t σ b σ'):QM X [t] σ b σ':=⟨λy y h=>Ot (h1.run _ _ h)⟩
noncomputable def dZ (keep:Nat->Bool) (val:Nat->AV):Nat->cG
 | 0=>[]
 | i+1=>if keep i=true then dZ keep val i++[val i] else dZ keep val i
theorem qL (keep:Nat->Bool) (val:Nat->AV):∀ i,(dZ keep val i).length<=i
 | 0=>cv _
 | i+1=>by
  unfold dZ;have:=qL keep val i
  split
  . rw[bt,bd];exact Nat.lt_succ_of_le ‹_›
  . exact Nat.le_succ_of_le ‹_›
structure iH (B:cX) (n:Nat) (t6 ee:Expr) (i5:cI) (c9:Addr->Env) (xs:cL) (i3:AV) (k:Bool) (d:AV) (oe:OL):Prop where
 run:∀ C p q,∃ l0 l4,tI ⟨B,n,C,c9 C⟩ t6 i3 ⟨bare xs,p::q::oe⟩ ⟨l0,p::q::oe⟩/\QM ⟨B,n,C,c9 C⟩ i5 ⟨l0,p::q::oe⟩ k ⟨l0,p::q::oe⟩/\(k=true->Ev ⟨B,n,C,c9 C⟩ ee ⟨l0,p::q::oe⟩ d ⟨l4,p::q::oe⟩)
theorem iH.step {B:cX} {n:Nat} {c9:Addr->Env} {xs:cL} {keep:Nat->Bool} {val:Nat->AV} {oe:OL} {H:HL} {i:Nat} (hi:i<=16777215) (h:iH B n t6 ee i5 c9 xs (i3 i) (keep i) (val i) oe):
 lS B n t6 ee i5 c9 H xs (i3 i) (λys o=>ys=dZ keep val i/\o=oe) (λys o=>ys=dZ keep val (i+1)/\o=oe):=by
 rintro C ys o D a p v ⟨rfl,rfl⟩;refine jJ (h.run C (D,.list (dZ keep val i)) (a,.is p)) ?_;rintro l0 l4 h1 h2 h3
 refine h1.run _ _ _ dH (h2.run _ _ ⟨λhk=>(h3 hk).run _ _ λy=>⟨_,_,rfl,dt (qL _ _ _) hi,?_,rfl⟩,λhk=>⟨_,_,rfl,?_,rfl⟩⟩)
 . conv=>rhs;unfold dZ
   rw[cE hk]
 . conv=>rhs;unfold dZ
   rw[cC (by rw[hk];exact bw)]
theorem pI {i4:Expr} {se:Scope} {cl:List (Str×Addr)} {N:Nat} (xs:cL) (keep:Nat->Bool) (val:Nat->AV) (hN:N<=16777215) (h1:Ev X i4 σ d ⟨l8,oe⟩) (it:∀ xv,fb X.B X.n X.L xv d N i3)
 (h2:∀ i,i < N->iH X.B X.n t6 ee i5 (λC=>compEnvC se cl C X.env) xs (i3 i) (keep i) (val i) oe)
 (aD:closureFor se X.env=pure cl) (hx:autoParam (xs.Nodup) bD)
 (aj:autoParam (∀ y∈se.names,y.2≠.cell) bD) (aB:autoParam (se.kind=.function) bR) (aw:autoParam (∀ y∈se.names,y.2=.local->se.names.lookup y.1=some .local) bD)
 (hs:autoParam (∀ x,foldedSetIterable i4 X.env x=pure x) bI):
 Ev X (.ListComp ee [⟨t6,i4,i5,0⟩] se pn) σ (.lst (dZ keep val N)) ⟨l8,oe⟩:=⟨λz z h=>qg (A4 xs (λi ys o=>ys=dZ keep val i/\o=oe) (h1.run _ _ λxv=>⟨N,i3,it xv,⟨rfl,rfl⟩,λi hi=>iH.step (by exact cm (tB ‹_› ‹_›)) (h2 i hi),λys o D ⟨e1,e2⟩=>⟨D,_,l8,oe,rfl,by rw[e1,e2],h _⟩⟩) aD hx aj aB aw hs)⟩
theorem CR {i4:Expr} {se:Scope} {p pz:Pos} {cl:List (Str×Addr)} {ss:cH} {N:Nat} (xs:cL) (keep:Nat->Bool) (val:Nat->AV) (hN:N<=16777215) (h1:Ev X i4 σ d ⟨l8,oe⟩) (it:∀ xv,fb X.B X.n X.L xv d N i3)
 (h2:∀ i,i < N->iH X.B X.n t6 ee i5 (λC=>compEnvC se cl C X.env) xs (i3 i) (keep i) (val i) oe)
 (h3:∀ D,∃ a2,I6 X x (.ref D) ⟨l8,(D,.list (dZ keep val N))::oe⟩ a2/\dT X ss a2 Q)
 (hsw:swapsWith (.ListComp ee [⟨t6,i4,i5,0⟩] se pn) (some (.Name x p)) pz.line X.env=pure true)
 (aD:closureFor se X.env=pure cl) (hx:autoParam (xs.Nodup) bD)
 (aj:autoParam (∀ y∈se.names,y.2≠.cell) bD) (aB:autoParam (se.kind=.function) bR) (aw:autoParam (∀ y∈se.names,y.2=.local->se.names.lookup y.1=some .local) bD)
 (hs:autoParam (∀ x,foldedSetIterable i4 X.env x=pure x) bI):
 dT X (.Assign [.Name x p] (.ListComp ee [⟨t6,i4,i5,0⟩] se pn) pz::ss) σ Q:=⟨λH Φ h=>gY (sW xs (λi ys o=>ys=dZ keep val i/\o=oe) (h1.run _ _ λxv=>⟨N,i3,it xv,⟨rfl,rfl⟩,λi hi=>iH.step (by omega) (h2 i hi),λys o D ⟨e1,e2⟩=>by
 subst e1 e2
 refine dQ (h3 D) ?_;rintro a2 w1 w2
 exact w1.run _ _ _ gA (w2.run _ Φ h)⟩) hsw aD hx aj aB aw hs)⟩
end
end
section
section
variable {X:Cx} {σ a1 a2 σ':St} {Q:PF} {R:St->Prop} {f:Fl}
theorem pE {s:Stmt} {ss:cH} (R:St->Prop) (h1:Cn X s σ λf σ'=>f=.next/\R σ') (h2:∀ σ',R σ'->dT X ss σ' Q):dT X (s::ss) σ Q:=⟨λH Φ h=>gY (h1.run _ (j6 X.B X.n X.L ss X.env H Φ) λf σ' ⟨e,r⟩=>by subst e;exact(h2 σ' r).run _ Φ h)⟩
theorem wI (h:Q .next σ):dT X [] σ Q:=gi gM h
section
variable {a:Addr} {x:cF} {d:AV} {l l':FL} {l8:LL} {oe o5:OL}
end
end
end
section
section
variable {γ:Type} {B:cX} {m n:Nat} {L:Addr} {H:HL} {e9:Env} {σ:St}
theorem B2 {tr todo:List γ} {i:Nat} {x:γ} (e:tr.drop i=x::todo):tr[i]? =some x/\tr.drop (i+1)=todo:=by
 constructor
 . rw[<-Nat.add_zero i,<-List.getElem?_drop,e];rfl
 . rw[<-List.drop_drop,e];rfl
theorem Hp {t1 t2:Expr} {k:Nat} {p:Pos} {v:Value} {d1 d2:AV} {Φ:St->Prop} (mv:(v,.tup [d1,d2])∈H) (h:∀ v1 v2,WU B n L (assign t1 e9 v1) ((v1,d1)::(v2,d2)::H) σ λa2=>WU B n L (assign t2 e9 v2) ((v1,d1)::(v2,d2)::H) a2 Φ)
 (he:autoParam (assignEach [t1,t2] e9=[(false,assign t1 e9),(false,assign t2 e9)]) bR):WU B n L (assign (.Tuple [t1,t2] k p) e9 v) H σ Φ:=d9 λA F s hA X=>by
 refine jS (gG (X.hold mv)) ?_;rintro a vs m rfl e1 e2
 refine jJ (nb.two e2) ?_;rintro v1 v2 rfl q1 q2
 refine assign_Tuple_tuple hA.handled (jc X.sub e1) (by rw[he];rfl) (by rw[he];rfl) λh' hk=>?_
 rw[he];have keep:∀ b o,s.heap.get? b=some o->h'.get? b=some o:=λb o e=>hk b o (Nat.ne_of_lt (Heap.lt_size e)) e
 have x1:=((X.grow keep).push q2).push q1
 refine assignInOrder_cons ?_
 refine cx ((h v1 v2).run A F { s with heap:=h' } hA x1) (λy s5 z=>?_) λy y z=>z
 obtain⟨F2,a3,x2,p7,w7⟩:=z;refine assignInOrder_cons (cx (w7.run A F2 s5 hA x2) (λy s8 z=>?_) λy y z=>z)
 obtain⟨F3,a4,x3,p8,q⟩:=z;exact assignInOrder_nil ⟨F3,a4,x3.weaken λy hp=>.tail _ (.tail _ hp),eu.trans (s':={ s with heap:=h' }) ⟨λb o y e=>keep b o e,λy h=>.inl h,λy y e=>.inl e,.refl F,.refl _,rfl⟩ (p7.trans p8),q⟩
inductive OP (B:cX) (m:Nat) (L:Addr) (H:HL) (O:cK) (F:Fz) (s:Shared) (a g Lg:Addr) (YJ:γ->AV->OL->Prop) (RJ:OL->Prop) (tr:List γ) (lo:Nat->LL) (own:Nat->OL) (k:Nat) (s':Shared):Prop
 | mk (i:Nat) (F':Fz) (o':Obj) (gb:OL) (gs':GenState) (hi:i<=tr.length) (e:k=tr.length - i) (x:Holds B.P B.G L F' ((.ref a,.obj (vn g))::H) ⟨lo i,jW Lg o'::(gb++own i)⟩ s'.heap)
  (p:eu O F s (L::dg (jW Lg o'::(gb++own i))) F' (fin g s')) (hg:s'.gens[g]? =some gs') (lv:vu B m Lg YJ RJ (tr.drop i) o' gb F' gs')
inductive As (B:cX) (m n:Nat) (L:Addr) (e9:Env) (t6:Expr) (b0:cH) (YJ:γ->AV->OL->Prop) (RJ:OL->Prop) (tr:List γ) (lo:Nat->LL) (own:Nat->OL) (Φ:PF) (d:AV) (a1:St):Prop
 | mk (x:Addr) (g9:OL) (ed:d=.ref x) (es:a1=⟨lo 0,g9++own 0⟩) (it:kQ B n m x g9 YJ RJ tr)
  (step:∀ H i x d g9 a p v,tr[i]? =some x->YJ x d g9->WU B n L (assign t6 e9 v) ((v,d)::H) ⟨lo i,(a,.is p)::(own i++g9)⟩ λa2=>WF B n L (execs b0 e9) H a2 (lx a p (λσ=>σ=⟨lo (i+1),own (i+1)++g9⟩) λy y=>False))
  (fin:∀ gb,RJ gb->Φ .next ⟨lo tr.length,own tr.length++gb⟩)
theorem Bz {t6 i4:Expr} {b0:cH} {pn:Pos} {Φ:PF} (YJ:γ->AV->OL->Prop) (RJ:OL->Prop) (tr:List γ) (lo:Nat->LL) (own:Nat->OL) (hm:m+1<=n)
 (h:WV B n L (eval i4 e9) H σ λy=>As B m n L e9 t6 b0 YJ RJ tr lo own Φ)
 (hs:autoParam (∀ x,foldedSetIterable i4 e9 x=pure x) bI) (ht:autoParam (∀ it v,letOwnedTupleGo t6 it v=pure ()) bJ):WF B n L (exec (.For t6 i4 b0 [] pn) e9) H σ Φ:=oX λA F s Q hA X fq=>by
 refine wpAny_For (h.then hA X λxv s0 F0 a1 x0 p0 q=>?_) hs
 refine dQ (q) ?_;clear q;rintro d hd ⟨x,g9,rfl,rfl,it,step,fin_⟩
 obtain rfl:=dG hd
 refine cx (it A F0 s0 L _ _ _ hA x0) (λr s6 z=>?_) λy y z=>z.elim
 refine Rl (z) ?_;clear z;rintro a g Lg o F1 gs rfl x1 ⟨p6,ga,hg,lv⟩
 have hA':gk (m+1) A:=hA.le hm
 refine codeAny_forLoop (OP B m L H (L::dg σ.objs) F s a g Lg YJ RJ tr lo own) (λk s5 hI=>?_) tr.length ⟨0,F1,o,g9,gs,cr _,rfl,x1.push ga,p0.trans p6,hg,lv⟩ (ht _)
 obtain⟨i,F2,o9,g6,g8,hi,ek,x2,p7,aa,l5⟩:=hI;refine cx (ask hA' x2 (vY (x2.hold dH) x2.sub) aa l5) (λr s8 z=>?_) λy y z=>z.elim
 have fl:∀ (u v:OL),(jW Lg o9::(u++v)).Perm ((jW Lg o9::(v++u))++[]):=λy y=>by rw[bX];exact .cons _ bg
 induction todo:tr.drop i using List.casesOn with
 | nil=>
  rw[todo]at z
  obtain⟨rfl,F3,g0,o8,x3,p8,rj⟩:=z;obtain rfl:i=tr.length:=Nat.le_antisymm hi (List.drop_eq_nil_iff.mp todo)
  have pm:(jW Lg o8::(g0++own tr.length)).Perm ((own tr.length++g0)++[jW Lg o8]):=(bg (l₁:=[_])).trans (List.perm_append_comm.append_right _)
  exact wpAny_execs_nil (fq _ _ ⟨F3,_,(x3.drop pm).weaken λy hp=>.tail _ hp,(p7.trans p8).trans (eu.less pm),.next,trivial,fin_ _ rj⟩)
 | cons x todo'=>
  rw[todo]at z
  refine Rl (z) ?_;clear z;rintro v d F3 g0 o8 g7 rfl hv ⟨yj,x3,p8,hS,l6⟩
  obtain⟨hx,e'⟩:=B2 todo;have au:=(List.getElem?_eq_some_iff.mp hx).1
  have fl:∀ (u v:OL),(jW Lg o8::(u++v)).Perm ((jW Lg o8::(v++u))++[]):=λy y=>by rw[bX];exact .cons _ bg
  refine uE (step ((.ref a,.obj (vn g))::H) i x d g0 Lg (·=o8) v hx yj) hA ((x3.drop (fl g0 (own i))).push hv) (λy hp=>.tail _ hp) λf s7 F4 a5 fe x4 p9 he q=>?_
  refine wV (G:=∃ m',m' < k/\OP B m L H (L::dg σ.objs) F s a g Lg YJ RJ tr lo own m' s7) (Q:=λf=>Q f s7) he q (λl9 o5 e1 e2=>?_) λy y y q=>False.elim q
  subst e1;obtain⟨rfl,rfl⟩:=St.mk.inj e2;exact⟨tr.length - (i+1),ek▸Nat.sub_succ_lt_self _ _ au,i+1,F4,o8,g0,g7,au,rfl,x4.drop (fl (own (i+1)) g0),(p7.trans p8).trans ((((eu.less (fl g0 (own i))).trans p9).trans (eu.less (fl (own (i+1)) g0))).fin hS),p9.gens.keep _ _ hS,e'▸l6.mono p9.mono⟩
end
end
section
variable {m:Nat} {p pn:Pos} {ss:cH}
section
variable {X:Cx} {σ a1 a2 σ':St} {Q:PF} {l8 l9:LL} {oe o5:OL} {a:Addr} {d:AV} {l:cG}
theorem DC {f:Addr} {fe:Expr} {ah:cI} {cp:Pos} {ds:cG} {dv:AV} (h1:Do X fe σ (.ref f) dv) (hk:jf X (.ref f)) (h2:uU X ah σ ds ⟨l8,oe⟩) (c:cY X.B m f ds oe λd o=>∃ a,d=.ref a/\o=(a,.list l)::o5) (hm:m<=X.n)
 (he:autoParam (eval (.Call fe ah [] cp) X.env=(do callWith cp (<-eval fe X.env) [] (backTo cp (starEach ah X.env)) [])) bR) (hp:autoParam ((backTo cp (starEach ah X.env)).any (·.1)=false) bR):Ev X (.Call fe ah [] cp) σ (.lst l) ⟨l8,o5⟩:=
 ⟨λH Φ h=>qg (mM (h1.run _ _ (hk.run _ _ _ _ _ _ hp (h2.run _ _ _ λvs hl'=>nW c hm hl' (λy hp=>bh _ hp) λd o q v=>by
  refine dQ (q) ?_;clear q;rintro a rfl rfl
  exact⟨a,l,l8,o5,rfl,rfl,h v⟩))) he)⟩
theorem ot {ms:cV} (e:dN l=some ms) (hz:ms.flatten.length<=16777216):eO X (.builtin "str.join") [.str [],.lst l] σ (.str ms.flatten) σ:=
 kZ λy y y y mv md h=>Cr mv md e (by rw[tT];simpa using hz) (by rw[qy];exact h)
theorem Ba {y:Str} {C fI:Addr} {fe:Expr} {ah:cI} {cp:Pos} {ds:cG} {dv:AV} {n':Nat} {a6:Addr->Addr->AV->OL->Prop} (h1:Do X fe σ (.ref C) dv) (hk:jf X (.ref C)) (h2:uU X ah σ ds ⟨l8,oe⟩)
 (hmk:makesIn X.B.K C=true) (hi:findIn X.B.K (.ref C) "__init__"=some (some (.ref fI))) (hf:isFn X.B.K (.ref fI)=true) (c:∀ x dx,cY X.B m fI (.ref x::ds) ((x,.inst C dx [])::oe) (a6 x dx)) (hn:X.n=n'+1) (hm:m<=n')
 (h3:∀ x dx d o,a6 x dx d o->d=.none/\∃ l9,jV y (.ref x) l8 l9/\dT X ss ⟨l9,o⟩ Q)
 (he:autoParam (eval (.Call fe ah [] cp) X.env=(do callWith cp (<-eval fe X.env) [] (backTo cp (starEach ah X.env)) [])) bR) (hp:autoParam ((backTo cp (starEach ah X.env)).any (·.1)=false) bR)
 (hs:autoParam (swapsWith (.Call fe ah [] cp) (some (.Name y p)) pn.line X.env=pure false) bR) (hl:autoParam (X.env.kindOf y=some .local) bK) (hL:autoParam (X.env.locals=X.L) bR) (hpp:autoParam ((X.env.scope.kind==.class||(X.env.scope.kind==.module&&X.env.locals !=X.env.globals))=false) bR):
 dT X (.Assign [.Name y p] (.Call fe ah [] cp) pn::ss) σ Q:=by
 obtain⟨B,n,L,e9⟩:=X;dsimp only at*
 subst hn;exact⟨λH Φ h=>gY (iy (mM (h1.run _ _ (hk.run _ _ _ _ _ _ hp (h2.run _ _ _ λvs hl'=>Gb hmk hi hf c hm hl' (λz hp=>bh _ hp) λx dx d o q=>by
  obtain⟨e,l9,aQ,w⟩:=h3 x dx d o q;exact⟨e,pX gA aQ (w.run _ Φ h) hl hL hpp⟩))) he) hs)⟩
theorem zb {γ:Type} {t6 i4:Expr} {b0:cH} {x:Addr} {g9:OL} (YJ:γ->AV->OL->Prop) (RJ:OL->Prop) (tr:List γ) (lo:Nat->LL) (own:Nat->OL) (hm:m+1<=X.n)
 (h1:Ev X i4 σ (.ref x) ⟨lo 0,g9++own 0⟩) (g:kQ X.B X.n m x g9 YJ RJ tr)
 (h2:∀ i x d g9 a p,tr[i]? =some x->YJ x d g9->∃ a2,tI X t6 d ⟨lo i,(a,.is p)::(own i++g9)⟩ a2/\jC X b0 a2 .next ⟨lo (i+1),(a,.is p)::(own (i+1)++g9)⟩)
 (h3:∀ gb,RJ gb->dT X ss ⟨lo tr.length,own tr.length++gb⟩ Q)
 (hs:autoParam (∀ x,foldedSetIterable i4 X.env x=pure x) bI) (ht:autoParam (∀ it v,letOwnedTupleGo t6 it v=pure ()) bJ):dT X (.For t6 i4 b0 [] pn::ss) σ Q:=
 ⟨λH Φ h=>gY (Bz YJ RJ tr lo own hm (h1.run _ _ λxv=>⟨x,g9,rfl,rfl,g,λH i x d g9 a p v hx hy=>by
  refine dQ (h2 i x d g9 a p hx hy) ?_;rintro a2 w1 w2
  exact w1.run _ _ _ gA (w2.run _ (lx a p _ _) ⟨_,_,rfl,rfl⟩),λgb r=>(h3 gb r).run _ Φ h⟩) hs ht)⟩
theorem y8 {t1 t2:Expr} {k:Nat} {d1 d2:AV} (h1:tI X t1 d1 σ a1) (h2:tI X t2 d2 a1 a2) (he:autoParam (assignEach [t1,t2] X.env=[(false,assign t1 X.env),(false,assign t2 X.env)]) bR):tI X (.Tuple [t1,t2] k p) (.tup [d1,d2]) σ a2:=
 ⟨λy y y mv h=>Hp mv (λy y=>h1.run _ _ _ gA (h2.run _ _ _ mH h)) he⟩
theorem oy {r8:OL} (e:oe.Perm (o5++r8)) (h:dT X ss ⟨l8,o5⟩ Q):dT X ss ⟨l8,oe⟩ Q:=⟨λH Φ k=>vP e (h.run H Φ k)⟩
theorem ly {e1 e2:Expr} {i:Int} {j:Nat} (hi:0<=i) (hj:i.toNat=j) (hd:l[j]? =some d) (hz:l.length<=16777216) (hs:∀ o i,∃ ops,subscripted e2 false o i=operate ops (getItem o i):=by exact λy y=>⟨_,rfl⟩):gL X e1 e2 (.lst l) (.int i) d σ:=
 ⟨λy y y y mo mi h=>Nn mo mi hi hj hd hz h (hs _ _)⟩
theorem AJ {i j k m:Int}:fW X .Eq (.tup [.int i,.int j]) (.tup [.int k,.int m]) (i==k&&j==m) σ:=⟨λy y y y ma mb h=>Bu ma mb h⟩
end
end
section
variable {pn:Pos} {ds:cG} {e:Expr}
structure Bs (X:Cx) (e:Expr) (σ:St) (R:AV->St->Prop):Prop where
 run:∀ (H:HL) (Φ:PV),(∀ v d σ',R d σ'->Φ v d σ')->WV X.B X.n X.L (eval e X.env) H σ Φ
section
variable {X:Cx} {σ a1 a2:St} {Q:PF} {R:AV->St->Prop} {l8:LL} {oe:OL} {o:AV} {m:Nat} {f:Addr}
theorem EK {es:cI} (h1:uU X es σ ds ⟨l8,oe⟩) (hz:ds.length<=16777216):Bs X (.List es pn) σ λd σ'=>∃ a,d=.ref a/\σ'=⟨l8,(a,.list ds)::oe⟩:=
 ⟨λy y h=>vI (h1.run _ _ _ λy y=>⟨hz,λa=>h _ _ _ ⟨a,rfl,rfl⟩⟩)⟩
theorem xY {n5:Str} {ar:Pos} {ah:cI} {pl:Sem Bool} {P:AV->OL->Prop} (h1:Ev X e σ o a1) (hm:lR X o n5 (.ref f) a1) (hk:jf X (.ref f)) (h2:uU X ah a1 ds ⟨l8,oe⟩) (c:cY X.B m f (o::ds) oe P) (hn:m<=X.n)
 (he:autoParam (eval (.Call (.Attribute e n5 ar) ah [] pn) X.env=(do
  let ov <-eval e X.env
  standAt ar.atName
  let (f,first) <-holding [ov] (getMethod ov n5 pl)
  callWith pn f first (backTo pn (starEach ah X.env)) [])) bR) (hp:autoParam ((backTo pn (starEach ah X.env)).any (·.1)=false) bR):Bs X (.Call (.Attribute e n5 ar) ah [] pn) σ λd σ'=>∃ q,P d q/\σ'=⟨l8,q⟩:=
 ⟨λy y h=>wC (h1.run _ _ λy=>hm.run _ _ _ _ gA λy=>hk.run _ _ _ _ _ _ hp (h2.run _ _ _ λy hl=>nW c hn (by rw[bt,bd,bL,hl,Nat.add_comm]) mY λd q w v=>h _ _ _ ⟨q,w,rfl⟩)) he⟩
theorem HE {C fI:Addr} {fe:Expr} {ah:cI} {cp:Pos} {dv:AV} {n':Nat} {a6:Addr->Addr->AV->OL->Prop} (h1:Do X fe σ (.ref C) dv) (hk:jf X (.ref C)) (h2:uU X ah σ ds ⟨l8,oe⟩)
 (hmk:makesIn X.B.K C=true) (hi:findIn X.B.K (.ref C) "__init__"=some (some (.ref fI))) (hf:isFn X.B.K (.ref fI)=true) (c:∀ x dx,cY X.B m fI (.ref x::ds) ((x,.inst C dx [])::oe) (a6 x dx)) (hn:X.n=n'+1) (hm:m<=n') (hΦ:∀ x dx d q,a6 x dx d q->d=.none)
 (he:autoParam (eval (.Call fe ah [] cp) X.env=(do callWith cp (<-eval fe X.env) [] (backTo cp (starEach ah X.env)) [])) bR) (hp:autoParam ((backTo cp (starEach ah X.env)).any (·.1)=false) bR):
 Bs X (.Call fe ah [] cp) σ λd σ'=>∃ x dx q,a6 x dx .none q/\d=.ref x/\σ'=⟨l8,q⟩:=by
 obtain⟨B,n,L,e9⟩:=X;dsimp only at*
 subst hn;exact⟨λH Φ h=>mM (h1.run _ _ (hk.run _ _ _ _ _ _ hp (h2.run _ _ _ λvs hl'=>Gb hmk hi hf c hm hl' (λy hp=>bh _ hp) λx dx d q w=>by
  obtain rfl:=hΦ _ _ _ _ w
  exact⟨rfl,h _ _ _ ⟨x,dx,q,w,rfl,rfl⟩⟩))) he⟩
theorem ux {t:Expr} {aq:Str} {p:Pos} {ss:cH} (h1:Bs X e σ R) (h2:∀ d σ',R d σ'->∃ o a1 a2,Ev X t σ' o a1/\uQ X o aq d a1 a2/\dT X ss a2 Q) (hs:autoParam (swapsWith e (some (.Attribute t aq p)) pn.line X.env=pure false) bR):
 dT X (.Assign [.Attribute t aq p] e pn::ss) σ Q:=⟨λH Φ h=>gY (ig (h1.run _ _ λv d σ' w=>by
 refine jS (h2 d σ' w) ?_;rintro o a1 a2 w1 w2 w3
 exact w1.run _ _ λy=>w2.run _ _ _ _ gA mH (w3.run _ Φ h)) hs)⟩
theorem BO {ss:cH} (h1:Bs X e σ R) (h2:∀ d σ',R d σ'->dT X ss σ' Q) (hi:autoParam (interactive X.env=false) bR) (hs:autoParam (swapsWith e none pn.line X.env=pure false) bR):
 dT X (.Expr e pn::ss) σ Q:=⟨λH Φ h=>gY (uY (h1.run _ _ λv d σ' w=>(h2 d σ' w).run _ Φ h) hi hs)⟩
end
theorem FV {B:cX} {n:Nat} {oe:OL} {n5 qc:Str} {pt:Arguments} {b0 b3:cH} {se si:Scope} {dV kV d8 pm c6 ct oc:Value} {an od:Option Addr} {ol:cT} {f:Addr} {ah:cG} {P:AV->OL->Prop} {l8:LL} (ps xs:cL)
 (ho:B.K.lookup f=some ⟨oc,od,.func (fnOf n5 qc pt b0 se dV kV d8 pm an c6 ct),ol⟩) (aP:codeIn B.K c6 qc=true)
 (hb:fE B (fnOf n5 qc pt b0 se dV kV d8 pm an c6 ct) ps ah ds) (h:∀ L,dT ⟨B,n,L,envOf qc si L f c6⟩ b3 ⟨l8,oe⟩ λf σ'=>f=.next/\P .none σ'.objs)
 (eb:autoParam (b0=b3) bC) (es:autoParam (se=si) bC)
 (aE:eP ps ds++bare xs=l8:=by simp only[eP,bare,cf,List.map_nil,bO,List.nil_append]<;>rfl) (hl:autoParam (ps.length=ds.length) bR) (hn:autoParam ((ps++xs).Nodup) bD) (aR:autoParam (ps.all (λy=>si.names.lookup y==some .local)=true) bR)
 (aH:autoParam (si.isCoroutine=false) bR) (aC:autoParam (si.isGenerator=false) bR) (hk:autoParam (si.kind=.function) bR) (aj:autoParam (∀ x∈si.names,x.2≠.cell) bD):cY B (n+1) f ah oe P:=
 Cs ps xs ho aP hb (λL=>(h L).run _ _ λf σ' ⟨e,q⟩=>by subst e;exact q) eb es aE hl hn aR aH aC hk aj
end
section
variable {k i:Nat} {v:DV} {ps:List DV} {l:List (Str×DV)} {o:DO} {x:Str}
section
inductive DV where
 | av (d:AV) | slot (i:Nat) | meth (f:Addr) (i:Nat)
abbrev cU:=List (Str×Option DV)
abbrev cM:=List DV
noncomputable def DV.ctorIdx (x:DV):Nat:=DV.casesOn x (λy=>0) (λy=>1) (λy y=>2)
inductive DO where
 | inst (C dx:Addr) (fs:List (Str×DV))
 | list (l:cG) (ps:cM)
 | dict (l:List (Str×DV))
 | cell (v:Option DV)
 | ao (o:AO)
abbrev cQ:=List (Nat×DO)
noncomputable def DO.ctorIdx (x:DO):Nat:=DO.casesOn x (λy y y=>0) (λy y=>1) (λy=>2) (λy=>3) (λy=>4)
structure DS where
 loc:cU
 objs:cQ
 rest:OL
inductive DF where
 | next | brk | cont | ret (v:DV)
noncomputable def DF.ctorIdx (x:DF):Nat:=DF.casesOn x 0 1 2 (λy=>3)
inductive eX where
 | br (b:Bool)
 | ch (c:Nat)
 | cmp (c:Bool)
 | itm (d:AV)
 | call (k:Nat) (v:DV) (oe:cQ) (r8:OL) (m:Nat)
 | val (k:Nat) (v:DV) (D:DS)
 | stm (k:Nat) (D:DS)
 | cs (v:DV) (oe:cQ) (m:Nat)
noncomputable def eX.ctorIdx (x:eX):Nat:=eX.casesOn x (λy=>0) (λy=>1) (λy=>2) (λy=>3) (λy y y y y=>4) (λy y y=>5) (λy y=>6) (λy y y=>7)
structure Sy where
 D:DS
 n:Nat
 o:List eX
 c:Prop
structure Px where
 X:Cx
 K:Frag
 ρ:cK
 gl:List (Addr×AV)
 cl:List (Str×Nat)
def dO (ρ:cK):Nat->Addr:=List.rec (λy=>0) (λa y ih i=>Nat.casesOn i a ih) ρ
def DV.to (ρ:cK):DV->AV
 | .av d=>d
 | .slot i=>.ref (dO ρ i)
 | .meth f i=>.meth f (dO ρ i)
abbrev mF (ρ:cK) (l:cM):cG:=l.map (DV.to ρ)
abbrev jD (ρ:cK) (l:List (Str×DV)):FL:=l.map λp=>(p.1,p.2.to ρ)
def zv (ρ:cK) (l:cG) (ps:cM):cG:=List.casesOn ps l λp r=>l++mF ρ (p::r)
def DO.to (ρ:cK):DO->AO
 | .inst C dx fs=>.inst C dx (jD ρ fs)
 | .list l ps=>.list (zv ρ l ps)
 | .dict l=>.dict (jD ρ l)
 | .cell v=>.cell (v.map (DV.to ρ))
 | .ao o=>o
abbrev dC (ρ:cK) (r8:OL) (l:cQ):OL:=l.map (λp=>(dO ρ p.1,p.2.to ρ))++r8
abbrev i9 (ρ:cK) (l:cU):LL:=l.map λp=>(p.1,p.2.map (DV.to ρ))
abbrev DS.to (ρ:cK) (D:DS):St:=⟨i9 ρ D.loc,dC ρ D.rest D.objs⟩
def DF.to (ρ:cK):DF->Fl
 | .next=>.next | .brk=>.brk | .cont=>.cont | .ret v=>.ret (v.to ρ)
noncomputable def DV.bel (n:Nat):DV->Bool
 | .av _=>true
 | .slot i=>Nat.blt i n
 | .meth _ i=>Nat.blt i n
noncomputable def J6 (n:Nat) (o:Option DV):Bool:=Option.casesOn o true (DV.bel n)
noncomputable def DO.bel (n:Nat):DO->Bool
 | .inst _ _ fs=>fs.all λp=>p.2.bel n
 | .list _ ps=>ps.all (DV.bel n)
 | .dict l=>l.all λp=>p.2.bel n
 | .cell v=>J6 n v
 | .ao _=>true
noncomputable def AT (n:Nat) (l:cU):Bool:=l.all λp=>J6 n p.2
noncomputable def QP (n:Nat) (l:cQ):Bool:=l.all λp=>Nat.blt p.1 n&&p.2.bel n
noncomputable def DS.bel (n:Nat) (D:DS):Bool:=AT n D.loc&&QP n D.objs
def wy (k:Nat):(cK->Prop)->Prop:=Nat.rec (λp=>p []) (λy ih p=>∀ a,ih λas=>p (a::as)) k
def Cq (k:Nat):(cK->Prop)->Prop:=Nat.rec (λp=>p []) (λy ih p=>∃ a,ih λas=>p (a::as)) k
theorem kM:∀ {p:cK->Prop},wy k p->∀ as,as.length=k->p as:=by
 induction k with
 | zero=>exact λh as e=>b7 e▸h
 | succ k ih=>
  intro p h as e
  induction as using List.casesOn with
  | nil=>contradiction
  | cons a r=>exact ih (h a) r (Nat.succ.inj e)
theorem vZ:∀ {p:cK->Prop},Cq k p->∃ as,as.length=k/\p as:=by
 induction k with
 | zero=>exact λh=>⟨[],rfl,h⟩
 | succ k ih=>exact λ⟨a,h⟩=>let ⟨as,e,q⟩:=ih h;⟨a::as,cB (·+1) e,q⟩
theorem B3:∀ {p:cK->Prop} {as:cK},as.length=k->p as->Cq k p:=by
 induction k with
 | zero=>
  intro p as e h;obtain rfl:=b7 e
  exact h
 | succ k ih=>
  intro p as e h
  induction as using List.casesOn with
  | nil=>contradiction
  | cons a r=>exact⟨a,ih (Nat.succ.inj e) h⟩
theorem ji {t:cK}:∀ {i:Nat},i < ρ.length->dO (ρ++t) i=dO ρ i:=by
 induction ρ with
 | nil=>exact λh=>cD h (Nat.not_lt_zero _)
 | cons a r ih=>
  intro i h
  induction i using Nat.casesOn with
  | zero=>rfl
  | succ i=>exact ih (Nat.lt_of_succ_lt_succ h)
theorem yO {x:Addr}:dO (ρ++[x]) ρ.length=x:=by
 induction ρ with
 | nil=>rfl
 | cons a r ih=>exact ih
theorem mP {n:Nat} (h:Nat.blt i n=true):i < n:=dR h
theorem dE {a b:Bool} (h:(a&&b)=true):a=true:=(Bool.and_eq_true_iff.mp h).1
theorem dX {a b:Bool} (h:(a&&b)=true):b=true:=(Bool.and_eq_true_iff.mp h).2
theorem nT {α β:Type} {l:List α} {p:α->Bool} {f g:α->β} (h:l.all p=true) (k:∀ a,p a=true->f a=g a):l.map f=l.map g:=List.map_congr_left λa ha=>k a (List.all_eq_true.mp h a ha)
section
variable {ρ t:cK}
theorem DV.to_app (h:v.bel ρ.length=true):v.to (ρ++t)=v.to ρ:=by
 induction v using DV.casesOn with
 | av d=>rfl
 | slot i=>exact cB AV.ref (ji (mP h))
 | meth f i=>exact cB (AV.meth f) (ji (mP h))
theorem xm (h:ps.all (DV.bel ρ.length)=true):mF (ρ++t) ps=mF ρ ps:=nT h λy=>DV.to_app
theorem oM {ps:List (Str×DV)} (h:(ps.all λp=>p.2.bel ρ.length)=true):jD (ρ++t) ps=jD ρ ps:=nT h λp q=>cB (Prod.mk p.1) (DV.to_app q)
theorem xP {v:Option DV} (h:J6 ρ.length v=true):v.map (DV.to (ρ++t))=v.map (DV.to ρ):=by
 induction v using Option.casesOn with
 | none=>rfl
 | some v=>exact cB some (DV.to_app h)
theorem jF {l:cG}:zv ρ l ps=l++mF ρ ps:=by
 induction ps using List.casesOn with
 | nil=>exact(bX _).symm
 | cons _ _=>rfl
theorem DO.to_app (h:o.bel ρ.length=true):o.to (ρ++t)=o.to ρ:=by
 cases o with
 | inst C dx fs=>exact cB (AO.inst C dx) (oM h)
 | list l ps=>exact cB AO.list (by rw[jF,jF,xm h])
 | dict l=>exact cB AO.dict (oM h)
 | cell v=>exact cB AO.cell (xP h)
 | ao o=>rfl
theorem ru {l:cU} (h:AT ρ.length l=true):i9 (ρ++t) l=i9 ρ l:=nT h λp q=>cB (Prod.mk p.1) (xP q)
theorem DS.to_app {D:DS} (h:D.bel ρ.length=true):D.to (ρ++t)=D.to ρ:=by
 show St.mk _ (_++_)=St.mk _ (_++_)
 rw[ru (dE h),nT (g:=λp=>(dO ρ p.1,p.2.to ρ)) (dX h) λp q=>congr (cB Prod.mk (ji (mP (dE q)))) (DO.to_app (dX q))]
noncomputable def gK {α:Type} (x:Str) (l:List (Str×α)):Option α:=(l.find? λp=>p.1==x).map (·.2)
def tv (x:Str) (d:DV) (l:List (Str×DV)):List (Str×DV):=List.rec [(x,d)] (λp r ih=>bif p.1==x then (x,d)::r else p::ih) l
def yQ (x:Str) (d:DV) (l:cU):Option (cU):=List.rec none (λp r ih=>bif p.1==x then some ((x,some d)::r) else ih.map (p::·)) l
noncomputable def eW (i:Nat) (l:cQ):Option DO:=(l.find? λp=>Nat.beq p.1 i).map (·.2)
def lE (i:Nat) (o:DO) (l:cQ):cQ:=List.rec [] (λp r ih=>bif Nat.beq p.1 i then (i,o)::r else p::ih) l
def rh (i:Nat) (l:cQ):cQ:=List.rec [] (λp r ih=>bif Nat.beq p.1 i then r else p::ih) l
variable {r8:OL}
theorem xj:ew x (jD ρ l)=(gK x l).map (DV.to ρ):=by
 unfold ew gK;rw[List.find?_map];show((l.find? λp=>p.1==x).map _).map _ = _
 cases l.find? λp=>p.1==x<;>rfl
theorem nR (h:gK x l=some v):ew x (jD ρ l)=some (v.to ρ):=by refine xj▸h▸?_;rfl
theorem mN (h:gK x l=none):ew x (jD ρ l)=none:=by refine xj▸h▸?_;rfl
theorem uN {l:cU} (h:gK x l=some (some v)):(x,some (v.to ρ))∈i9 ρ l:=by
 refine dQ (bb.mp h) ?_;rintro p h1 h2
 have e:=List.find?_some h1
 refine cg.mpr ⟨p,List.mem_of_find?_eq_some h1,?_⟩
 refine(cz e)▸h2▸?_;rfl
theorem wX {d:DV}:jD ρ (tv x d l)=fT x (d.to ρ) (jD ρ l):=by
 induction l with
 | nil=>rfl
 | cons p r ih=>
  show jD ρ (bif p.1==x then (x,d)::r else p::tv x d r)=if p.1==x then (x,d.to ρ)::jD ρ r else (p.1,p.2.to ρ)::fT x (d.to ρ) (jD ρ r)
  induction p.1==x using Bool.casesOn with
  | true=>rfl
  | false=>exact cB (List.cons _) ih
theorem rN {d:DV} {l:cU}:∀ {l':cU},yQ x d l=some l'->jV x (d.to ρ) (i9 ρ l) (i9 ρ l'):=by
 induction l with
 | nil=>exact λh=>nomatch h
 | cons p r ih=>
  intro l' h
  replace h:(bif p.1==x then some ((x,some d)::r) else (yQ x d r).map (p::·))=some l':=h
  induction q:p.1==x using Bool.casesOn with
  | true=>rw[q]at h;obtain rfl:=cz q;obtain rfl:=Option.some.inj h;exact .hit
  | false=>
   rw[q]at h
   refine dQ (bb.mp h) ?_;rintro r' h1 h2
   exact h2▸.skip (ih h1)
theorem qQ {p:Nat×DO} {r:cQ} (h:eW i (p::r)=some o):(Nat.beq p.1 i=true/\p=(i,o))\/(Nat.beq p.1 i=false/\eW i r=some o):=by
 unfold eW at h;rw[List.find?_cons]at h
 induction q:Nat.beq p.1 i using Bool.casesOn with
 | true=>rw[q]at h;exact .inl ⟨rfl,by obtain rfl:=Nat.eq_of_beq_eq_true q;obtain rfl:=Option.some.inj h;rfl⟩
 | false=>rw[q]at h;exact .inr ⟨rfl,h⟩
theorem ft {l:cQ} (h:eW i l=some o):(dO ρ i,o.to ρ)∈dC ρ r8 l:=by
 refine dQ (bb.mp h) ?_;rintro p h1 h2
 exact bh _ (cg.mpr ⟨p,List.mem_of_find?_eq_some h1,by rw[Nat.eq_of_beq_eq_true (List.find?_some (p:=λp:Nat×DO=>Nat.beq p.1 i) h1),h2]⟩)
theorem iU {o':DO} {l:cQ} (h:eW i l=some o):oB (dO ρ i) (o.to ρ) (o'.to ρ) (dC ρ r8 l) (dC ρ r8 (lE i o' l)):=by
 induction l with
 | nil=>contradiction
 | cons p r ih=>
  show oB _ _ _ _ (dC ρ r8 (bif Nat.beq p.1 i then (i,o')::r else p::lE i o' r))
  rcases qQ h with⟨e1,e2⟩ | ⟨e1,e2⟩
  . refine e1▸e2▸?_;exact .head
  . refine e1▸?_;exact .tail (ih e2)
theorem By {l:cQ} (h:eW i l=some o):lh (dO ρ i) (o.to ρ) (dC ρ r8 l) (dC ρ r8 (rh i l)):=by
 induction l with
 | nil=>contradiction
 | cons p r ih=>
  show lh _ _ _ (dC ρ r8 (bif Nat.beq p.1 i then r else p::rh i r))
  rcases qQ h with⟨e1,e2⟩ | ⟨e1,e2⟩
  . refine e1▸e2▸?_;exact .head
  . refine e1▸?_;exact .tail (ih e2)
theorem jA {l:cG}:(zv ρ l ps).length=l.length+ps.length:=by rw[jF,bt,bZ]
theorem m6 {l:cG} {p:DV}:AO.list (zv ρ l (ps++[p]))=.list (zv ρ l ps++[p.to ρ]):=by rw[jF,jF,mF,bV,bB];rfl
end
noncomputable def vB (v:DV):cN:=DV.casesOn v some (λy=>none) λy y=>none
theorem qT {d:AV} (h:vB v=some d):v.to ρ=d:=by
 induction v using DV.casesOn with
 | av x=>exact Option.some.inj h
 | slot=>contradiction
 | meth=>contradiction
def lH (ps:cM):Option (cG):=List.rec (some []) (λv y ih=>(vB v).bind λd=>ih.map (d::·)) ps
def oO (ps:List (Str×DV)):Option (FL):=List.rec (some []) (λp y ih=>(vB p.2).bind λd=>ih.map ((p.1,d)::·)) ps
theorem mR:∀ {l:cG},lH ps=some l->mF ρ ps=l:=by
 induction ps with
 | nil=>exact λh=>Option.some.inj h
 | cons v r ih=>
  intro l h;refine dQ (Option.bind_eq_some_iff.mp h) ?_;rintro d h1 h2
  refine dQ (bb.mp h2) ?_;rintro l' h3 h4
  exact h4▸congr (cB List.cons (qT h1)) (ih h3)
theorem re {ps:List (Str×DV)}:∀ {l:FL},oO ps=some l->jD ρ ps=l:=by
 induction ps with
 | nil=>exact λh=>Option.some.inj h
 | cons v r ih=>
  intro l h;refine dQ (Option.bind_eq_some_iff.mp h) ?_;rintro d h1 h2
  refine dQ (bb.mp h2) ?_;rintro l' h3 h4
  exact h4▸congr (cB (λz=>List.cons (v.1,z)) (qT h1)) (ih h3)
end
end
section
variable {α:Type} {e:Expr} {es:cI} {pn:Pos}
section
noncomputable def fB (e:Expr):Bool:=by
 cases e with
 | Starred=>exact false
 | ListComp=>exact false
 | SetComp=>exact false
 | DictComp=>exact false
 | Set=>exact false
 | Slice=>exact false
 | _=>exact true
noncomputable abbrev jE:=fB
noncomputable abbrev lk:=fB
noncomputable abbrev fm:=fB
noncomputable def ke (e:Expr):Bool:=by
 cases e with
 | Call=>exact false
 | _=>exact true
noncomputable def NQ (o:UnaryOp):Bool:=by
 cases o with
 | Not=>exact true
 | _=>exact false
noncomputable def BX (e:Expr):Bool:=by
 cases e with
 | UnaryOp op=>exact !NQ op
 | BoolOp=>exact false
 | IfExp=>exact false
 | Compare=>exact false
 | _=>exact true
noncomputable abbrev ut (p:α->Bool) (l:List α):Bool:=l.all p
theorem cd {b:Bool} {x y:α} (h:b=true) (e:x=cond b y x):x=y:=by
 subst h;exact e
section
variable {e9:Env}
theorem nZ {t:Option Expr} {l:Nat} (h:jE e=true):swapsWith e t l e9=pure false:=cd h (by clear h;rcases e with _ | _<;>rfl)
theorem nY (h:fB e=true):starEach (e::es) e9=(false,eval e e9)::starEach es e9:=cd h (by clear h;rcases e with _ | _<;>rfl)
theorem qw (h:ut fB es=true):(backTo pn (starEach es e9)).any (·.1)=false:=by
 induction es with
 | nil=>rfl
 | cons e es ih=>exact(nY (dE h))▸(ih (dX h))
theorem zk (h:ut fB es=true):(backTo pn (starEach es e9)).all (!·.1)=true:=by
 induction es with
 | nil=>rfl
 | cons e es ih=>exact(nY (dE h))▸(ih (dX h))
theorem CW {o:Expr} {aq:Str} {w:Sem Value} (h:ke o=true):attributeBase o aq e9 w=w:=cd h (by clear h;rcases o with _ | _<;>rfl)
theorem sD {op:CmpOp} (h:lk e=true):behindInMarks op e=false:=cd h (by clear h;rcases e with _ | _<;>rfl)
theorem Dx {x:Str} {xp:Pos} {ah:cI}:eval (.Call (.Name x xp) ah [] pn) e9=(do callWith pn (<-eval (.Name x xp) e9) [] (backTo pn (starEach ah e9)) []):=rfl
theorem DW {aq:Str} (h:ke e=true):eval (.Attribute e aq pn) e9=(do
 let o <-eval e e9
 standAt pn.atName
 let r <-holding [o] (getAttr o aq true)
 letTemporaryGo e o r
 pure r):=cd h (by clear h;rcases e with _ | _<;>rfl)
theorem xA {o:Expr} {n5:Str} {ah:cI} {ar:Pos} (h:ke o=true) (hs:ut fB ah=true) (hl:Nat.blt ah.length 30=true) (hp:(ar.endLine==pn.line)=true):
 eval (.Call (.Attribute o n5 ar) ah [] pn) e9=(do
  let ov <-eval o e9
  standAt ar.atName
  let (f,first) <-holding [ov] (getMethod ov n5 (do return (<-importBound o e9).getD true))
  callWith pn f first (backTo pn (starEach ah e9)) []):=by
 have hf:methodCallForm (ah.length+0) (backTo pn (starEach ah e9)) (backToKw pn (keywordEach [] e9))=true:=by
  unfold methodCallForm;rw[zk hs,show(backToKw pn (keywordEach [] e9))=[]from rfl]
  exact cc (mP hl)
 have e1:eval (.Call (.Attribute o n5 ar) ah [] pn) e9=(do
  let ov <-attributeBase o n5 e9 (eval o e9)
  standAt ar.atName
  methodCall o n5 ar pn e9 ov (ah.length+0) (backTo pn (starEach ah e9)) (backToKw pn (keywordEach [] e9))):=rfl
 have e2:methodCallPos true o e9 ar pn=pure pn:=by
  unfold methodCallPos;rw[hp];rfl
 rw[e1,CW h];unfold methodCall;simp only[hf,e2]
 rfl
theorem CK (h:BX e=true) (wd:Sem Value):isTrue e e9 wd=(do let v <-wd;standAt e.pos;holding [v] (truthy v)):=cd h (by
 clear h
 cases e with
 | UnaryOp op=>rcases op with _ | _<;>rfl
 | _=>rfl)
theorem lA (h:fm e=true) (o i:Value):∃ ops,subscripted e false o i=operate ops (getItem o i):=⟨[o,i],cd h (by clear h;rcases e with _ | _<;>rfl)⟩
theorem Bj (h:fB e=true):assignEach (e::es) e9=(false,assign e e9)::assignEach es e9:=cd h (by clear h;rcases e with _ | _<;>rfl)
theorem vz {c:Prop} [Decidable c] {x:Sem α} {v:α} (h:x=pure v):(if c then pure v else x)=pure v:=by
 subst h;exact ite_self _
theorem vc {ts vs:cI} {k k':Nat} {p p':Pos} {e9:Env} (h:vs.all (foldedForSure 8)=true):swappedStores [.Tuple ts k p] (.Tuple vs k' p') e9=pure none:=by
 unfold swappedStores;exact vz (vz (vz ((cB (λb=>ite (b=true) (pure none) _) h).trans rfl)))
noncomputable def Ah (e:Expr):Bool:=by
 cases e with
 | Tuple vs=>exact vs.all (foldedForSure 8)
 | _=>exact true
theorem BR {ts:cI} {k:Nat} {p:Pos} {e9:Env} (h:Ah e=true):swappedStores [.Tuple ts k p] e e9=pure none:=by
 rcases e with _ | _
 case Tuple=>exact vc h
 all_goals rfl
theorem JH (h:fm e=true) (ov iv c:Value):augStore e ov iv c=(do holding [c,ov,iv] (setItem ov iv c);release [c,ov,iv] [];pure .next):=cd h (by clear h;rcases e with _ | _<;>rfl)
end
end
end
section
section
variable {pv:Program} {w:World} {A:Around} {E:Value->Shared->Prop} {s:Shared}
theorem xo {vs:cJ} {q k:Nat} {v:Value}:Obj.mapSeq (λxs=>xs.setIfInBounds k v) (dU vs q)=dU (vs.set k v) q:=by
 show(⟨_,_,.seq (vs.toArray.setIfInBounds k v) (if (vs.toArray.setIfInBounds k v).size==vs.toArray.size then q else q+1),_⟩:Obj)= _
 rw[Array.size_setIfInBounds,bM];simp
theorem Jp {a:Addr} {vs:cJ} {q:Nat} {k:Int} {t:Tok} {v:Value} {Q:Unit->Shared->Prop} (h:s.heap.get? a=some (dU vs q)) (h0:0<=k) (hfit:k < 2 ^ 63) (hn:k < vs.toArray.size)
 (hQ:∀ h',Heap.SameBut a s.heap h'->h'.get? a=some (Obj.mapSeq (λxs=>xs.setIfInBounds k.toNat v) (dU vs q))->Q () { s with heap:=h' }):wpAny (model pv w) A (setItem (.ref a) (.int k t) v) Q E s:=by
 have hl:s.heap.IsList a vs.toArray:=⟨_,h,rfl,_,rfl⟩
 unfold setItem
 try with_reducible refine wpAny_holding ?_
 first | refine cw (cy ?_) | skip
 refine cw (wpAny_sequenceKey hl.typeIs (by decide) ?_)
 refine cw (wpAny_callSpecial?_slot (name:=Str.ofString "__setitem__") hl.typeIs slot_list_setitem (wpAny_call_entry slot_list_setitem hl.typeIs entry_list_setitem ?_ (args_list_setitem _ _ _)))
 show wpAny _ _ (Builtin.List.listSubscript? (.int k t) >>= _) _ _ s
 refine cw (wpAny_listSubscript_int (fitsIndex_of h0 hfit) ?_)
 clear hfit;obtain⟨j,rfl⟩:=Int.eq_ofNat_of_zero_le h0;have hj:j < vs.toArray.size:=by omega
 have hx:vs.toArray[j]? =some vs.toArray[j]:=Array.getElem?_eq_getElem hj
 show wpAny _ _ ((seqItemAt a j >>= λr=>pure (r.map (j,·))) >>= _) _ _ s
 refine cw (cw (wpAny_seqItemAt h rfl (cy ?_)))
 rw[hx];show wpAny _ _ (setSeqItemAt a j v >>= _) _ _ s
 have e:=xo (vs:=vs) (q:=q) (k:=j) (v:=v)
 have fin:Q () { s with heap:=s.heap.update a (Obj.mapSeq (·.setIfInBounds j v)) }:=hQ _ (Heap.SameBut.update ..) (Heap.get?_update_self _ h (Obj.isFreed_of_seq (n:=q) (xs:=(vs.set j v).toArray) (by rw[e])))
 refine cw (wpAny_setSeqItemAt h rfl ?_)
 first
  | exact cw (cy (cy ⟨.none,rfl,cy fin⟩))
  | exact cy ⟨.none,rfl,cy fin⟩
end
theorem IsAll.setAt {P:Params} {F:Fz} {v:Value} {d:AV} {vs:cJ} {l:cG} (h:IsAll P F vs l) (q:Is P F v d):∀ k,IsAll P F (vs.set k v) (l.set k d):=
 h.ind (C:=λvs l=>∀ k,IsAll P F (vs.set k v) (l.set k d)) (λy=>.nil) λy y y y h r ih k=>Nat.casesOn k (.cons q r) λk=>.cons h (ih k)
section
variable {B:cX} {n:Nat} {L a:Addr} {H:HL} {l8:LL} {oe o5:OL} {l:cG} {d:AV} {k:Nat} {ov iv v:Value}
theorem I2 {Φ:St->Prop} (mo:(ov,.ref a)∈H) (mi:(iv,.int k)∈H) (md:(v,d)∈H) (hk:k < l.length) (hz:l.length<=16777000) (m:oB a (.list l) (.list (l.set k d)) oe o5) (h:Φ ⟨l8,o5⟩):WU B n L (setItem ov iv v) H ⟨l8,oe⟩ Φ:=d9 λA F s hA X=>by
 refine iM (m.split) ?_;rintro pB px rfl rfl
 obtain rfl:=dG (X.hold mo)
 obtain⟨t,rfl⟩:=dk (X.hold mi);have hd:=X.hold md
 refine iM (X.objs (a,.list l) (be _ dH)) ?_;rintro vs q h1 h2
 have hl:=h2.length
 refine Jp h1 (bp k) (by omega) (by simp;omega) λh' hs ho=>?_
 refine di.change (o':=.list (l.set k d)) X (c:=a) (.inl rfl) rfl (λb y x q e=>(hs.2 b q).trans e) ?_ ⟨vs.set k v,q,ho.trans (cB some xo),h2.setAt hd k⟩ rfl rfl h
 refine dQ (X.frame) ?_;rintro m5 FR hl
 exact⟨m5,FR.ns.sameBut hs (λe=>(bU.mp X.nodup).1 (by rw[e];exact dK.mpr ⟨_,be _ dH,.inl rfl⟩)),hl⟩
theorem Mz {Φ:PV} {σ:St} (mo:(ov,.ref a)∈H) (ma:(a,AO.list l)∈σ.objs) (mi:(iv,.int k)∈H) (hd:l[k]? =some d) (hz:l.length<=16777000) (h:∀ v,Φ v d σ):WV B n L (getItem ov iv) H σ Φ:=d9 λA F s hA X=>by
 obtain rfl:=dG (X.hold mo)
 refine iM (X.objs _ ma) ?_;rintro vs q h1 h2
 obtain⟨u,rfl⟩:=dk (X.hold mi);have am:=h2.length
 have hkl:k < l.length:=(List.getElem?_eq_some_iff.mp hd).1
 refine dQ (kY.nth h2 hd) ?_;rintro y hy hyd
 exact wpAny_getItem_list (l:=a) (items:=vs.toArray) ⟨_,h1,rfl,_,rfl⟩ (by omega) (by omega) (by simpa using hy) (.here X ⟨d,hyd,h _⟩)
theorem PS {Φ:PV} {σ:St} {v7 slice:Expr} (mo:(ov,.ref a)∈H) (ma:(a,AO.list l)∈σ.objs) (mi:(iv,.int k)∈H) (hd:l[k]? =some d) (hz:l.length<=16777000) (h:∀ v,Φ v d σ)
 (hs:∃ ops,subscripted slice false ov iv=operate ops (getItem ov iv)):WV B n L (subscriptTail v7 slice ov iv) H σ Φ:=
 gv (T:="list") (λF s X=>by obtain rfl:=dG (X.hold mo);refine iM (X.objs _ ma) ?_;rintro vs q h1 h2;exact⟨_,h1,rfl⟩) slot_list_getitem.lookup (Mz mo ma mi hd hz h) hs
end
end
section
section
variable {B:cX} {n:Nat} {L:Addr} {H:HL} {l8:LL} {oe:OL} {e9:Env}
theorem Fe {v:Value} {d:AV} {i3:Nat->AV} {a:Addr} {K:Nat->Obj->Prop} (mv:(v,d)∈H) (q:oQ B n v d 2 i3 a K):
 W B n L (draw (.ref a) 2) H ⟨l8,(a,.is (K 0))::oe⟩ λvs F σ'=>∃ v1 v2,vs=[v1,v2]/\Is B.P F v1 (i3 0)/\Is B.P F v2 (i3 1)/\σ'=⟨l8,(a,AO.is (K 2))::oe⟩:=by
 obtain⟨next,stop,self,quiet⟩:=q;show W B n L (pyNext (.ref a) >>= _) H _ _
 refine gh (next L 0 l8 oe H (by decide) mv) ?_
 intro r F a1 z;refine kW z ?_;clear z;rintro v1 rfl q1 rfl
 refine⟨(v1,i3 0)::H,λy h=>.tail _ h,λp hp=>(fD hp).elim (λe=>.inr (e▸q1)) .inl,?_⟩
 show W B n L (holding [v1] (pyNext (.ref a) >>= _) >>= _) _ _ _
 refine gh (a7:=λvs F σ'=>∃ v2,vs=[v2]/\Is B.P F v2 (i3 1)/\σ'=⟨l8,(a,AO.is (K 2))::oe⟩) (dc ?_) ?_
 . refine gh (next L 1 l8 oe ((v1,i3 0)::H) (by decide) (.tail _ mv)) ?_
   intro r F a1 z;refine kW z ?_;clear z;rintro v2 rfl q2 rfl
   refine⟨(v2,i3 1)::(v1,i3 0)::H,λy h=>.tail _ h,λp hp=>(fD hp).elim (λe=>.inr (e▸q2)) .inl,?_⟩
   exact d9 λy y y y x=>cw (wpAny_holding (cy (cy (.here x ⟨v2,rfl,x.hold dH,rfl⟩))))
 . intro r F a1 z;refine kW z ?_;clear z;rintro v2 rfl q2 rfl
   refine⟨(v2,i3 1)::(v1,i3 0)::H,λy h=>.tail _ h,λp hp=>(fD hp).elim (λe=>.inr (e▸q2)) .inl,?_⟩
   exact d9 λy y y y x=>cy (.here x ⟨v1,v2,rfl,x.hold iL,x.hold dH,rfl⟩)
theorem AD {v:Value} {d:AV} {i3:Nat->AV} (it:fb B n L v d 2 i3) (mv:(v,d)∈H) (nt:WB B n L (notIterableAtAll v) H ⟨l8,oe⟩ λb a1=>b=false/\a1=⟨l8,oe⟩):
 W B n L (unpackItems v 2 none) H ⟨l8,oe⟩ λvs F σ'=>∃ v1 v2,vs=[v1,v2]/\Is B.P F v1 (i3 0)/\Is B.P F v2 (i3 1)/\σ'=⟨l8,oe⟩:=by
 unfold unpackItems;refine gx (gC nt ?_)
 rintro _ _ ⟨rfl,rfl⟩;rw[cC bw];refine gh (dc (it H _ mv)) ?_
 intro r F a1 z;refine jJ z ?_;clear z;rintro a K rfl rfl q
 refine⟨H,λy h=>h,λy h=>.inl h,?_⟩
 dsimp only;refine gh (dc (Fe mv q)) ?_
 intro r F a1 z;refine FO z ?_;clear z;rintro v1 v2 rfl q1 q2 rfl
 refine⟨(v1,i3 0)::(v2,i3 1)::H,λy h=>.tail _ (.tail _ h),λp hp=>?_,?_⟩
 . rcases fD hp with rfl | hp
   . exact .inr q1
   . rcases fD hp with rfl | hp
     . exact .inr q2
     . exact .inl hp
 rw[cC (show ¬ ([v1,v2]:cJ).length < 2 from Nat.lt_irrefl 2)]
 refine gh (dc (q.2 L l8 oe _ (.tail _ (.tail _ mv)))) ?_
 rintro r F a1 ⟨rfl,rfl⟩;refine⟨_,λy h=>h,λy h=>.inl h,?_⟩
 rw[cC (by decide)];exact d9 λy y y y x=>cy (.here x ⟨v1,v2,rfl,x.hold dH,x.hold iL,rfl⟩)
theorem wj {v:Value} {l:cG} {σ:St} (mv:(v,.lst l)∈H):WB B n L (notIterableAtAll v) H σ λb a1=>b=false/\a1=σ:=d9 λA F s hA X=>by
 refine jS (eU (X.hold mv)) ?_;rintro a vs m rfl e1 e2
 unfold notIterableAtAll;exact cw (wpAny_specialOf (fy X.sub e1).typeIs PySem.F.slot_list_iter.lookup (cy (.here X ⟨rfl,rfl⟩)))
theorem Ho {σ:St} {t1 t2:Expr} {k:Nat} {p:Pos} {v:Value} {d1 d2:AV} {Φ:St->Prop} (mv:(v,.lst [d1,d2])∈H) (h:∀ v1 v2,WU B n L (assign t1 e9 v1) ((v1,d1)::(v2,d2)::H) σ λa2=>WU B n L (assign t2 e9 v2) ((v1,d1)::(v2,d2)::H) a2 Φ)
 (he :autoParam (assignEach [t1,t2] e9=[(false,assign t1 e9),(false,assign t2 e9)]) bR):WU B n L (assign (.Tuple [t1,t2] k p) e9 v) H σ Φ:=by
 obtain⟨l8,oe⟩:=σ;rw[assign_Tuple];refine dr ?_
 unfold unpack;rw[he];refine gh (dc (AD jY mv (wj mv))) ?_
 intro r F a1 z;refine FO z ?_;clear z;rintro v1 v2 rfl q1 q2 rfl
 refine⟨(v1,d1)::(v2,d2)::H,λy h=>.tail _ (.tail _ h),λp hp=>?_,?_⟩
 . rcases fD hp with rfl | hp
   . exact .inr q1
   . rcases fD hp with rfl | hp
     . exact .inr q2
     . exact .inl hp
 . show W B n L (holding [v2] (assign t1 e9 v1) >>= λy=>(holding [] (assign t2 e9 v2) >>= λy=>pure ())) _ _ _
   exact fU (dc (gX (h v1 v2) λa2 w=>fU (dc (gX w λa3 q=>pG (Φ:=λy σ=>Φ σ) q))))
end
end
section
theorem z7 (items:Array Value) (j:Int):slicePick items none (some j) none=(items.toList.take (fF items.size j)).toArray:=by
 have e:sliceBounds none (some j) none items.size=sliceBounds none (some ((fF items.size j:Nat):Int)) none items.size:=
  (cB (λz:Int=>((0:Int),z,(1:Int))) ((js items.size j).trans ((js items.size _).trans (cB Int.ofNat (eK (oA _ _)))).symm):_)
 have e2:=slicePick_upto items (fF items.size j) (oA _ _)
 unfold slicePick at e2 |-
 rw[e];exact e2
theorem IsAll.take {P:Params} {F:Fz} {vs:cJ} {l:cG} (h:IsAll P F vs l):∀ k,IsAll P F (vs.take k) (l.take k):=
 h.ind (C:=λvs l=>∀ k,IsAll P F (vs.take k) (l.take k)) (λk=>Nat.casesOn k .nil λy=>.nil) λy y y y h y ih k=>Nat.casesOn k .nil λk=>.cons h (ih k)
def iK (B:cX) (L:Addr) (d:AV) (l:cG) (σ:St):Prop:=∀ F H h o,Holds B.P B.G L F H σ h->Is B.P F o d->∃ a vs,o=.ref a/\h.IsList a vs.toArray/\IsAll B.P F vs l
theorem iK.trk {B:cX} {L a:Addr} {l:cG} {σ:St} (m:(a,AO.list l)∈σ.objs):iK B L (.ref a) l σ:=λF H h o X q=>by
 obtain rfl:=dG q
 exact iM (X.objs _ m) λvs n h1 h2=>⟨a,vs,rfl,⟨_,h1,rfl,n,rfl⟩,h2⟩
theorem iK.lst {B:cX} {L:Addr} {l:cG} {σ:St}:iK B L (.lst l) l σ:=λF H h o X q=>
 jS (eU q) λa vs n e h1 h2=>⟨a,vs,e,fy X.sub h1,h2⟩
theorem iK.ints {B:cX} {L:Addr} {ns:List Int} {σ:St}:iK B L (.obj (qz ns)) (ns.map .int) σ:=λF H h o X q=>
 jJ (jq q) λa o' e h1 ⟨h2,vs,n,h3,h4⟩=>⟨a,vs,e,⟨o',X.sub _ _ h1,h2,n,h3⟩,AF h4⟩
theorem nA {pv:Program} {w:World} {A:Around} {E:Value->Shared->Prop} {s:Shared} {v7 slice:Expr} {o i:Value} {T id:String} {ops:cJ} {Q:Value->Shared->Prop} (hT:s.TypeIs o T)
 (hl:typeLookup (.type T) "__getitem__"=pure (some (.builtin id))) (h:wpAny (model pv w) A (getItem o i) Q E s) (hs:subscripted slice false o i=operate ops (getItem o i)):wpAny (model pv w) A (subscriptTail v7 slice o i) Q E s:=by
 unfold subscriptTail;refine cw ?_
 rw[getitemInPython_of_ne hT.not_modules];refine cw (wpAny_specialOf hT hl ?_)
 have fin:wpAny (model pv w) A (subscripted slice false o i) (λr s5=>wpAny (model pv w) A (letTemporaryGo v7 o r >>= λy=>pure r) Q E s5) E s:=by
  rw[hs];exact wpAny_operateT (cx h (λr s5 hJ=>cw (wpAny_letTemporaryGo (cy hJ))) λy y x=>x)
 first
  | exact cy (cw fin)
  | exact cw (cy (cw fin))
  | exact cw fin
section
variable {B:cX} {n:Nat} {L:Addr} {H:HL} {σ:St} {e9:Env}
theorem HM {v7 hi:Expr} {p pn} {Φ:PV}
 (h:WV B n L (eval v7 e9) H σ λo d a1=>WV B n L (eval hi e9) ((o,d)::H) a1 λx du a2=>∃ l j,iK B L d l a2/\du=.int j/\l.length<=16777216/\∀ v,Φ v (.lst (l.take (fF l.length j))) a2)
 (hs:∀ o i,∃ ops,subscripted (.Slice none (some hi) none p) false o i=operate ops (getItem o i):=by intro x x;exact⟨_,rfl⟩):
 WV B n L (eval (.Subscript v7 (.Slice none (some hi) none p) pn) e9) H σ Φ:=oX λA F s Q hA X fq=>by
 rw[eval_Subscript];refine cw (h.then hA X λo s0 F0 a1 x0 p0 z=>dQ z λd hd w8=>?_)
 refine cw (wpAny_holding (wpAny_Slice (cy (w8.then hA (x0.push hd) λu s5 F2 a3 x2 p7 z=>?_))))
 refine dQ z ?_;clear z;rintro du hdu z;refine FO z ?_;clear z;rintro l j hL rfl hz q
 refine cy (cw (wpAny_standAt ?_))
 obtain⟨tj,rfl⟩:=dk hdu;refine jJ (hL F2 _ s5.heap o x2 (x2.hold dH)) ?_;rintro a vs rfl hl e4
 obtain⟨ops,hs⟩:=hs (.ref a) (.ref s5.heap.objs.size);refine nA (Heap.IsList.typeIs (s:={ s5 with heap:=s5.heap.push { cls:=.type "slice",data:=.fields #[.none,.int j tj,.none] } }) (hl.push _)) list_getitem_lookup
  (wpAny_getItem_list_slice (lo:=none) (hi:=some j) (st:=none) (hl.push _) (Heap.IsSliceOf.new ..) .none (.int j tj) .none (by simp) ?_ (by rw[dP,List.size_toArray,e4.length];exact hz)) hs
 have e:({ cls:=.type "list",data:=.seq (slicePick vs.toArray none (some j) none) }:Obj)=dU (vs.take (fF vs.length j)) 0:=by rw[z7];rfl
 rw[e];have x5:=x2.weaken (H':=H) λp hp=>.tail _ hp
 have hn:s5.heap.get? (s5.heap.push { cls:=.type "slice",data:=.fields #[.none,.int j tj,.none] }).objs.size=none:=by
  induction w:s5.heap.get? (s5.heap.push { cls:=.type "slice",data:=.fields #[.none,.int j tj,.none] }).objs.size using Option.casesOn with
  | none=>rfl
  | some y=>have:=Heap.lt_size w;rw[Heap.size_push]at this;exact cD this (Nat.not_lt.mpr (Nat.le_succ _))
 obtain⟨F3,a4,x3,p8,hF,rfl⟩:=di.fresh (B:=B) (L:=L) (H:=H) (σ:=a3) (F:=F2) (s:=s5) (s':={ s5 with heap:=(s5.heap.push { cls:=.type "slice",data:=.fields #[.none,.int j tj,.none] }).push (dU (vs.take (fF vs.length j)) 0) })
  (Ψ:=λF' σ'=>F'=F2.put (s5.heap.push { cls:=.type "slice",data:=.fields #[.none,.int j tj,.none] }).objs.size (dU (vs.take (fF vs.length j)) 0)/\σ'=a3) x5 (λb o e=>bc _ (bc _ e)) hn (bm _ rfl) rfl rfl λle=>⟨rfl,rfl⟩
 subst hF;exact fq _ _ ⟨_,a4,x3,p0.trans (p7.trans p8),_,.lst (Fz.put_self ..) (show IsAll _ _ (vs.take (fF vs.length j)) (l.take (fF l.length j))from by rw[<-e4.length];exact(e4.mono p8.mono).take _),q _⟩
end
end
section
section
variable {B:cX} {n:Nat} {L:Addr} {H:HL} {σ:St} {a b v:Value} {x y c:Nat} {Φ:PV}
theorem GL:decide (([x]:cF) < [y])=decide (x < y):=by
 refine decide_eq_decide.mpr ⟨λh=>?_,λh=>List.Lex.rel h⟩
 cases h with
 | rel h=>exact h
 | cons h=>exact cD h (List.not_lt_nil _)
theorem M3 (ma:(a,.str [x])∈H) (mb:(b,.str [y])∈H) (h:∀ v,Φ v (.bool (decide (x<=y))) σ):WV B n L (compareOp .LtE a b) H σ Φ:=d9 λA F s hA X=>by
 obtain⟨t,rfl⟩:=dy (X.hold ma);obtain⟨u,rfl⟩:=dy (X.hold mb);refine PySem.P.le_str (.here X ⟨.bool (decide (x<=y)),?_,h _⟩)
 have e:(!decide ((S [y]).cps.toList < (S [x]).cps.toList))=decide (x<=y):=by
  show(!decide (([y]:cF) < [x]))= _
  rw[GL,<-decide_not];exact decide_eq_decide.mpr Nat.not_lt
 exact e▸.bool _
theorem MC {i:Int} (mv:(v,.int i)∈H) (hi:0<=i/\i<=1114111) (h:∀ v,Φ v (.str [i.toNat]) σ):WV B n L (call (.builtin "chr") [v]) H σ Φ:=d9 λA F s hA X=>by
 obtain⟨t,rfl⟩:=dk (X.hold mv);exact PySem.P.chr_of_int (by rw[bS (Int.not_lt.mpr hi.1),bS (show ¬ i > 1114111 from Int.not_lt.mpr hi.2)];rfl) (.toks X ⟨_,.str [i.toNat] _,h _⟩)
end
section
variable {X:Cx} {σ:St} {x y c:Nat}
theorem O7:fW X .LtE (.str [x]) (.str [y]) (decide (x<=y)) σ:=⟨λz z z z ma mb h=>M3 ma mb h⟩
theorem MX {i:Int} (hi:0<=i/\i<=1114111):eO X (.builtin "chr") [.int i] σ (.str [i.toNat]) σ:=nE λy y y m h=>MC m hi h
end
end
section
section
variable {P:Params} {G:Heap} {F F':Fz} {h:Heap} {la lb:Addr} {kv as bs:cG} {R:OL}
theorem IsAll.retell {d d':AV} (le:F.le F') (k:∀ v,Is P F v d->Is P F' v d') (as:cG):∀ {vs:cJ},IsAll P F vs (as++d::bs)->IsAll P F' vs (as++d'::bs):=by
 induction as with
 | nil=>
  intro vs h;refine jJ (iq h) ?_;rintro v ws rfl q r
  exact .cons (k v q) (r.mono le)
 | cons a as ih=>
  intro vs h;refine jJ (iq h) ?_;rintro v ws rfl q r
  exact .cons (q.mono le) (ih r)
theorem gp.frz (x:gp P G F ((lb,.list kv)::(la,.list (as++.ref lb::bs))::R) h):∃ F',F.le F'/\gp P G F' ((la,.list (as++.lst kv::bs))::R) h/\∀ b o,F' b=some o->F b=some o\/b=lb:=by
 refine iM (x.objs _ dH) ?_;rintro vs m h1 h2
 have le:=Fz.le_put (o:=dU vs m) (x.apart lb dH)
 have nd:=bU.mp x.nodup
 have here:Is P (F.put lb (dU vs m)) (.ref lb) (.lst kv):=.lst (Fz.put_self ..) (h2.mono le)
 have back:∀ b o,F.put lb (dU vs m) b=some o->F b=some o\/b=lb:=λb o e=>by
  unfold Fz.put at e
  by_cases q:b=lb
  . exact .inr q
  . rw[cC q]at e;exact .inl e
 refine⟨_,le,⟨λb o e=>le _ _ (x.core b o e),λb o e=>?_,λp hp=>?_,nd.2,λb hb=>?_,x.big⟩,back⟩
 . rcases back b o e with q | rfl
   . exact x.sub b o q
   . rw[Fz.put_self]at e;exact Option.some.inj e▸h1
 . rcases fD hp with rfl | hp
   . refine iM (x.objs (la,.list (as++.ref lb::bs)) iL) ?_;rintro ws k g1 g2
     exact⟨ws,k,g1,IsAll.retell le (λv q=>by obtain rfl:=dG q;exact here) as g2⟩
   . exact(x.objs p (.tail _ (.tail _ hp))).move le λy y y e=>e
 . cases q:F.put lb (dU vs m) b with
   | none=>rfl
   | some o=>
    rcases back b o q with e | rfl
    . have:=x.apart b (.tail _ hb);rw[e]at this;contradiction
    . exact cD hb nd.1
end
end
section
theorem cY.pre {B:cX} {n:Nat} {f la lb:Addr} {ah kv as bs:cG} {R:OL} {Φ:AV->OL->Prop} (c:cY B n f ah ((la,.list (as++.lst kv::bs))::R) Φ):cY B n f ah ((lb,.list kv)::(la,.list (as++.ref lb::bs))::R) Φ:=
 λA F s vs hA x hv=>by
  refine kW x.frz ?_;rintro F' le y back
  refine codeAny_mono (c A F' s vs hA y (hv.mono le)) λr s' ⟨v,d,o5,F'',a,b,y',p,q⟩=>?_
  exact⟨v,d,o5,F'',a,b,y',⟨λb o hb=>p.keep b o λh=>hb (.tail _ h),λb hb=>(p.own b hb).imp_left (.tail _),
   λb o e=>Or.elim (p.frz b o e) (λw=>Or.imp_right (λ(z:b=lb)=>Or.inl (List.mem_cons.mpr (.inl z))) (back b o w)) λw=>.inr (Or.imp_left (.tail _) w),le.trans p.mono,p.gens,p.os⟩,q⟩
end
section
theorem gy:plainId "dict.update.loop"=true:=by decide+kernel
theorem kE:entryFor table "dict.update.loop"=some Builtin.«dict.update.loop»:=entryFor_of_fast (by kernel_rfl)
section
variable {pv:Program} {w:World} {A:Around} {E:Value->Shared->Prop} {s:Shared}
theorem zj {a:Addr} {xs:Array Value} {k:Nat} {Q:cO->Shared->Prop} (hx:s.heap.get? a=some { cls:=.type "list",data:=.seq xs k }) (hA:A.handled=none)
 (h:∀ h' tk,(∀ b o,s.heap.get? b=some o->h'.get? b=some o)->Q none { s with heap:=h',toks:=tk }):wpAny (model pv w) A (getAttr? (.ref a) "keys") Q E s:=by
 obtain⟨hp,g,d,tk,os⟩:=s;have hT:∀ tk',(⟨hp,g,d,tk',os⟩:Shared).TypeIs (.ref a) "list":=λy=>⟨_,hx,rfl⟩
 have f1:=sub_AttributeError
 have f3:=F.slot_list_getattribute.lookup
 have f4:=F.slot_list_getattribute.bind (.ref a)
 have f5:=am_list_getattr_none
 have hmiss:typeLookup (.type "list") "keys"=pure none:=am_miss_of_fast (by kernel_rfl)
 unfold getAttr? getAttrBy? getAttrBy
 repeat (any_goals (first | assumption | exact hT _ | ((with_reducible show wpAny _ _ (call (Value.builtin "list.__getattribute__") _ _) _ _ _);refine call_meets F.slot_list_getattribute (hT _) am_entry_list_getattribute (F.args_list_getattribute_2 _ _) (meets_getattribute_miss_list a xs k #[] "keys" _ hmiss (by kernel_rfl) (by decide)) ⟨hx,hA,λh' tk' e hx'=>?_⟩) | wp_step))
 obtain⟨t',u',he⟩:=hx'.there;have hk:=hx'.keeps
 have hE:∀ tk,(⟨h',g,d,tk,os⟩:Shared).TypeIs (.ref e) "AttributeError":=λy=>⟨_,he,rfl⟩
 show wpAny _ _ (getattributeRaised _ _ _ _ _ _ _) _ _ _
 unfold getattributeRaised
 repeat (any_goals (first | assumption | exact hE _ | wp_step))
 exact h _ _ hk
end
end
section
section
variable {B:cX} {n:Nat} {L:Addr} {H:HL} {σ:St} {l8:LL} {oe o5:OL}
theorem yF {a:Addr} {l:FL} {x:cF} {kv v:Value} {d:AV} {Φ:St->Prop} (mi:(kv,.str x)∈H) (md:(v,d)∈H)
 (m :oB a (.dict l) (.dict (fT (S x) d l)) oe o5) (hz:l.length<=100000) (h:Φ ⟨l8,o5⟩):WU B n L (dictSet a kv v) H ⟨l8,oe⟩ Φ:=d9 λA F s hA X=>by
 refine iM (m.split) ?_;rintro pB px rfl rfl
 obtain⟨t,rfl⟩:=dy (X.hold mi);have hd:=X.hold md
 refine xr (X.objs (a,.dict l) (by simp)) ?_;rintro ⟨es,k,h1,h2⟩ h3 h4
 refine wpAny_dictSet_pairs (knd:=strKind B.prog B.w) (k:=S x) (bM _) (im h2 h3 h1) (λh' hm hs=>?_) ?_
 . refine jJ (kP hm) ?_;rintro ej m' e1 e2 e3
   refine di.change (o':=.dict (fT (S x) d l)) X (c:=a) (.inl rfl) rfl (λb y z q e=>(hs.2 b q).trans e) ?_ ⟨⟨ej,m',e1,KM.ents ((zM h2).stored hd h3) e2 e3⟩,kN h3,h4⟩ rfl rfl h
   refine dQ (X.frame) ?_;rintro m5 FR hl
   exact⟨m5,FR.ns.sameBut hs (λe=>(bU.mp X.nodup).1 (by rw[e];exact dK.mpr ⟨_,be _ dH,.inl rfl⟩)),hl⟩
 . have:=cB List.length (ie h2)
   simp only[bZ]at this
   rw[this,dP];exact dt hz (by decide)
theorem u7 {d1 d2:AV} {v:Value} {σ:St} (mv:(v,.lst [d1,d2])∈H):W B n L (Builtin.Dict.pairItems v) H σ λvs F σ'=>∃ v1 v2,vs=[v1,v2]/\Is B.P F v1 d1/\Is B.P F v2 d2/\σ'=σ:=d9 λA F s hA X=>by
 refine jS (eU (X.hold mv)) ?_;rintro a vs m rfl e1 e2
 refine jJ (Cg e2) ?_;rintro v1 v2 rfl q1 q2
 have hl:=X.sub _ _ e1
 unfold Builtin.Dict.pairItems;refine cw (wpAny_typeOf (T:="list") ⟨_,hl,rfl⟩ ?_)
 rw[cE (by decide)];exact cw (wpAny_seqItems hl rfl (cy (.here X ⟨v1,v2,rfl,q1,q2,rfl⟩)))
noncomputable abbrev dz (p:cF×AV):AV:=.lst [.str p.1,p.2]
noncomputable abbrev gw (l:FL) (p:cF×AV):FL:=fT (S p.1) p.2 l
theorem pU {x:Str} {d:AV} {l:FL}:(fT x d l).length<=l.length+1:=by
 induction l with
 | nil=>exact cv _
 | cons p r ih=>
  show(if p.1==x then (x,d)::r else p::fT x d r).length<=_
  by_cases q:(p.1==x)=true
  . rw[cE q];exact Nat.le_succ _
  . rw[cC q];exact bH ih
theorem yy {xv res:Value} {dx:AV} {I c:Addr} {K:Nat->Obj->Prop} {ps:List (cF×AV)} {i3:Nat->AV} (hi:∀ i (h:i < ps.length),i3 i=dz ps[i]) (it:oQ B n xv dx ps.length i3 I K) (mx:(xv,dx)∈H)
 {A:Around} {R:Result->Shared->Prop} (hA:gk n A.in1) (k:Nat):∀ (i:Nat) (F:Fz) (s:Shared) (ak:FL),ps.length - i=k->i<=ps.length->ak.length+k<=100000->Holds B.P B.G L F H ⟨l8,(I,.is (K i))::(c,.dict ak)::oe⟩ s.heap->
  (∀ s' F',Holds B.P B.G L F' H ⟨l8,(c,.dict ((ps.drop i).foldl gw ak))::oe⟩ s'.heap->eu (L::dg ((I,AO.is (K i))::(c,.dict ak)::oe)) F s (L::dg ((c,AO.dict ((ps.drop i).foldl gw ak))::oe)) F' s'->R (.ok (.ret res)) s')->
  codeAny B.M A (.builtin "dict.update.loop" ⟨[.ref c,.ref I,rawInt i,res],[]⟩) R s:=by
 induction k with
 | zero=>
  intro i F s ak hk aT hz X hR;have e:i=ps.length:=Nat.le_antisymm aT (Nat.sub_eq_zero_iff_le.mp hk)
  refine codeAny_builtin kE ?_
  rw[Around.under_plainId gy _];show wpAny _ A.in1 (pyNext (.ref I) >>= _) _ _ s
  refine cw ((it.2 L l8 _ H mx).then hA (e▸X) λr s0 F0 a1 x0 p0 q=>?_)
  obtain⟨rfl,rfl⟩:=q;subst e;rw[List.drop_length]at hR
  exact cw (cy (cy (hR _ _ x0 p0)))
 | succ k ih=>
  intro i F s ak hk aT hz X hR;have au:i < ps.length:=Nat.lt_of_sub_pos (hk▸Nat.succ_pos k)
  refine codeAny_builtin kE ?_
  rw[Around.under_plainId gy _];show wpAny _ A.in1 (pyNext (.ref I) >>= _) _ _ s
  refine cw ((it.1 L i l8 _ H au mx).then hA X λr s0 F0 a1 x0 p0 q=>?_)
  refine kW q ?_;clear q;rintro v rfl hv rfl
  rw[hi i au]at hv
  show wpAny _ _ (holding [v] _ >>= _) _ _ _
  refine cw (wpAny_holding (cw (wpAny_tryCatch ((u7 (H:=(v,dz ps[i])::H) dH).then hA (x0.push hv) λr s6 F1 a2 x1 p6 q=>?_))))
  refine FO q ?_;clear q;rintro v1 v2 rfl q1 q2 rfl
  show wpAny _ _ (holding [v1,v2] (dictSet c v1 v2)) _ _ _
  have x8:=(((x1.weaken (H':=H) λy hp=>.tail _ hp).push q2).push q1)
  refine wpAny_holding ((yF (Φ:=λσ'=>σ'=⟨l8,(I,.is (K (i+1)))::(c,.dict (gw ak ps[i]))::oe⟩) dH iL (.tail .head) (dt (bE _ _) hz) rfl).then hA x8 λy s5 F2 a3 x2 p7 q=>?_)
  subst q;refine cy ⟨plainId_quiet gy _,?_⟩
  have hc:((i:Int)+1)=((i+1:Nat):Int):=rfl
  refine ih (i+1) F2 s5 (gw ak ps[i]) (by rw[Nat.sub_add_eq,hk];rfl) au (dt (bk pU k) (by rw[Nat.add_assoc,Nat.add_comm 1 k];exact hz)) (x2.weaken λy hp=>.tail _ (.tail _ hp)) λs' F' X' P'=>?_
  have ed:ps.drop i=ps[i]::ps.drop (i+1):=List.drop_eq_getElem_cons au
  rw[ed]at hR
  exact hR s' F' X' (p0.trans (p6.trans (p7.trans P')))
end
end
section
section
variable {B:cX} {n:Nat} {L:Addr} {H:HL} {σ:St} {l8:LL} {oe o5:OL}
theorem gk.in1 {A:Around} (h:gk (n+1) A):gk n A.in1:=⟨h.handled,dt (bo (Nat.le_succ n) A.depth) h.depth,by have:=h.units;show A.units+1+8*n<=9000;omega⟩
theorem uF {A:Around} {id:String} {res xv:Value} {ps:List (cF×AV)} {c:Addr} {ak:FL} {F:Fz} {s:Shared} {Q:Fin->Shared->Prop} {E:Value->Shared->Prop} {R:Result->Shared->Prop} {A1:Around} (hA:gk n A) (hA0:A1.in1=A) (mx:(xv,.lst (ps.map dz))∈H)
 (hz:ak.length+ps.length<=100000) (X:Holds B.P B.G L F H ⟨l8,(c,.dict ak)::oe⟩ s.heap) (hQ:∀ c' s',c'.quiet=true/\codeAny B.M A1 c' R s'->Q (.again c') s')
 (hR:∀ s' F',Holds B.P B.G L F' H ⟨l8,(c,.dict (ps.foldl gw ak))::oe⟩ s'.heap->eu (L::dg ((c,AO.dict ak)::oe)) F s (L::dg ((c,AO.dict (ps.foldl gw ak))::oe)) F' s'->R (.ok (.ret res)) s'):
 wpAny B.M A (Builtin.Dict.updateFrom id c xv [] res) Q E s:=by
 subst hA0;refine jS (eU (X.hold mx)) ?_;rintro a vs m rfl e1 e2
 have hl:=X.sub _ _ e1
 unfold Builtin.Dict.updateFrom;refine cw (wpAny_typeOf (T:="list") ⟨_,hl,rfl⟩ ?_)
 rw[cE (by decide)];refine cw (zj hl hA.handled λh' tk k=>?_)
 rw[cE (by rfl)];refine cw (wpAny_rule ?_)
 obtain⟨F0,a1,X0,P0,rfl,rfl⟩:=di.more (B:=B) (L:=L) (H:=H) (σ:=⟨l8,(c,.dict ak)::oe⟩) (F:=F) (s:=s) (s':={ s with heap:=h',toks:=tk }) (Ψ:=λF' σ'=>F'=F/\σ'=⟨l8,(c,.dict ak)::oe⟩) X k rfl rfl ⟨rfl,rfl⟩
 refine cw ((jY (B:=B) (n:=n) (L:=L) H _ mx).then hA X0 λr s6 F1 a2 x1 p6 q=>?_)
 refine jJ q ?_;clear q;rintro I K rfl rfl it
 refine cy (hQ _ _ ⟨plainId_quiet gy _,?_⟩)
 rw[bZ]at it
 exact yy (ps:=ps) (λi h=>by simp[h]) it mx hA ps.length 0 F1 s6 ak rfl (cr _) hz x1 λs' F' X' P'=>hR s' F' X' (P0.trans (p6.trans P'))
theorem BB {v6 v:Value} {c:Addr} {ak:FL} {ps:List (cF×AV)} {Φ:PV} (mv:(v6,.ref c)∈H) (mx:(v,.lst (ps.map dz))∈H) (hz:ak.length+ps.length<=100000)
 (h:Φ .none .none ⟨l8,(c,.dict (ps.foldl gw ak))::oe⟩):WV B (n+1) L (call (.builtin "dict.update") [v6,v]) H ⟨l8,(c,.dict ak)::oe⟩ Φ:=d9 λA F s hA X=>by
 obtain rfl:=dG (X.hold mv)
 refine xr (X.objs (c,.dict ak) dH) ?_;rintro ⟨es,k,h1,h2⟩ h3 h4
 have hD:=im (pv:=B.prog) h2 h3 h1
 refine wpAny_call (codeAny_call_builtin PySem.F.slot_dict_update.plain PySem.F.entry_dict_update (PySem.F.slot_dict_update.check _ _ _ _ _ _ _ _ hD.typeIs (PySem.F.args_dict_update_2 _ _) ?_))
 unfold Builtin.«dict.update» Builtin.Dict.selfAndRest
 refine cw (cw (wpAny_notOrdered_dict hD.typeIs ?_))
 refine cy ?_
 show wpAny _ _ (Builtin.Dict.updateFrom "dict.update" c v [] .none) _ _ _
 exact uF (ps:=ps) hA.in1 rfl mx hz X (λc' s' z=>z) λs' F' X' P'=>⟨F',_,X',P',.none,.none,h⟩
theorem Bo {v:Value} {ps:List (cF×AV)} {σ:St} {Φ:PV} (mx:(v,.lst (ps.map dz))∈H) (hz:ps.length<=100000)
 (h:∀ c,Φ (.ref c) (.ref c) ⟨σ.loc,(c,.dict (ps.foldl gw []))::σ.objs⟩):WV B (n+2) L (call (.type "dict") [v]) H σ Φ:=d9 λA F s hA X=>by
 refine callType_codes (Q₁:=λobj s0=>obj=.ref s.heap.objs.size/\s0={ s with heap:=s.heap.push { cls:=.type "dict",data:=.dict #[] } }) PySem.F.kt_called_dict (PySem.F.kt_typeCall_dict_1 _) PySem.F.entry_dict_init (kt_code_dict_new _ ⟨rfl,rfl⟩) ?_
 rintro obj s0 ⟨rfl,rfl⟩;have hg:(s.heap.push { cls:=.type "dict",data:=.dict #[] }).get? s.heap.objs.size=some (dictOf [] 0):=bm _ rfl
 have hT:(⟨s.heap.push { cls:=.type "dict",data:=.dict #[] },s.gens,s.drawn,s.toks,s.os⟩:Shared).TypeIs (.ref s.heap.objs.size) "dict":=⟨_,hg,rfl⟩
 refine⟨hT,PySem.F.args_dict_init_2 _ _,?_⟩
 have hsm:(s.heap.objs.size==sysModules)=false:=nS (B:=B) (dt X.low (by obtain⟨y,hy⟩:=X.there L dH;exact cm (Heap.lt_size hy)))
 obtain⟨F0,a1,X0,P0,rfl,rfl⟩:=di.track (B:=B) (L:=L) (H:=H) (σ:=σ) (s:=s) (s':={ s with heap:=s.heap.push { cls:=.type "dict",data:=.dict #[] } }) (o:=.dict []) (Ψ:=λF' σ'=>F'=F/\σ'=⟨σ.loc,(s.heap.objs.size,.dict [])::σ.objs⟩) X
  (λb y e=>bc _ e) (λb hb=>by rcases fD hb with rfl | hb;exact eI _;contradiction) (by simp[AO.more]) ⟨⟨[],0,hg,.nil⟩,List.nodup_nil,hsm⟩ rfl rfl ⟨rfl,rfl⟩
 unfold Builtin.«dict.__init__» Builtin.Dict.selfAndRest
 refine cw (cw (wpAny_notOrdered_dict hT ?_))
 refine cy ?_
 show wpAny _ _ (Builtin.Dict.updateFrom "dict.__init__" s.heap.objs.size v [] .none) _ _ _
 exact uF (ps:=ps) hA.in1.in1 rfl mx (by simpa using hz) X0 (λc' s' z=>z) λs' F' X' P'=>⟨rfl,F',_,X',P0.trans P',.ref s.heap.objs.size,.ref _,h _⟩
end
end
section
theorem IsAll.reverse {P:Params} {F:Fz} {vs:cJ} {l:cG} (h:IsAll P F vs l):IsAll P F vs.reverse l.reverse:=
 h.ind (C:=λvs l=>IsAll P F vs.reverse l.reverse) .nil λv d vs l hv y c=>by rw[List.reverse_cons,List.reverse_cons];exact lQ.snoc c hv
section
variable {B:cX} {n:Nat} {L:Addr} {H:HL} {σ:St} {e9:Env} {l8:LL} {oe:OL}
theorem Lu {v7 st:Expr} {p pn} {Φ:PV}
 (h:WV B n L (eval v7 e9) H σ λo d a1=>WV B n L (eval st e9) ((o,d)::H) a1 λx du a2=>∃ l,iK B L d l a2/\du=.int (-1)/\l.length<=16777216/\∀ v,Φ v (.lst l.reverse) a2)
 (hs:∀ o i,∃ ops,subscripted (.Slice none none (some st) p) false o i=operate ops (getItem o i):=by intro x x;exact⟨_,rfl⟩):
 WV B n L (eval (.Subscript v7 (.Slice none none (some st) p) pn) e9) H σ Φ:=oX λA F s Q hA X fq=>by
 rw[eval_Subscript];refine cw (h.then hA X λo s0 F0 a1 x0 p0 z=>dQ z λd hd w8=>?_)
 refine cw (wpAny_holding (wpAny_Slice (cy (cy (w8.then hA (x0.push hd) λu s5 F2 a3 x2 p7 z=>?_)))))
 refine dQ z ?_;clear z;rintro du hdu z;refine Lc z ?_;clear z;rintro l hL rfl hz q
 refine cw (wpAny_standAt ?_)
 obtain⟨tj,rfl⟩:=dk hdu;refine jJ (hL F2 _ s5.heap o x2 (x2.hold dH)) ?_;rintro a vs rfl hl e4
 obtain⟨ops,hs⟩:=hs (.ref a) (.ref s5.heap.objs.size);refine nA (Heap.IsList.typeIs (s:={ s5 with heap:=s5.heap.push { cls:=.type "slice",data:=.fields #[.none,.none,.int (-1) tj] } }) (hl.push _)) list_getitem_lookup
  (wpAny_getItem_list_slice (lo:=none) (hi:=none) (st:=some (-1)) (hl.push _) (Heap.IsSliceOf.new ..) .none .none (.int (-1) tj) (by decide) ?_ (by rw[dP,List.size_toArray,e4.length];exact hz)) hs
 have e:({ cls:=.type "list",data:=.seq (slicePick vs.toArray none none (some (-1))) }:Obj)=dU vs.reverse 0:=by rw[krv_pick]
 rw[e];have x5:=x2.weaken (H':=H) λp hp=>.tail _ hp
 have hn:s5.heap.get? (s5.heap.push { cls:=.type "slice",data:=.fields #[.none,.none,.int (-1) tj] }).objs.size=none:=by
  induction w:s5.heap.get? (s5.heap.push { cls:=.type "slice",data:=.fields #[.none,.none,.int (-1) tj] }).objs.size using Option.casesOn with
  | none=>rfl
  | some y=>have:=Heap.lt_size w;rw[Heap.size_push]at this;exact cD this (Nat.not_lt.mpr (Nat.le_succ _))
 obtain⟨F3,a4,x3,p8,hF,rfl⟩:=di.fresh (B:=B) (L:=L) (H:=H) (σ:=a3) (F:=F2) (s:=s5) (s':={ s5 with heap:=(s5.heap.push { cls:=.type "slice",data:=.fields #[.none,.none,.int (-1) tj] }).push (dU vs.reverse 0) })
  (Ψ:=λF' σ'=>F'=F2.put (s5.heap.push { cls:=.type "slice",data:=.fields #[.none,.none,.int (-1) tj] }).objs.size (dU vs.reverse 0)/\σ'=a3) x5 (λb o e=>bc _ (bc _ e)) hn (bm _ rfl) rfl rfl λle=>⟨rfl,rfl⟩
 subst hF;exact fq _ _ ⟨_,a4,x3,p0.trans (p7.trans p8),_,.lst (Fz.put_self ..) (e4.mono p8.mono).reverse,q _⟩
theorem Km {v:Value} {c:Addr} {l:FL} {Φ:PV} (mv:(v,.ref c)∈H) (m:(c,AO.dict l)∈σ.objs) (hz:l.length<=100000) (h:∀ v,Φ v (.int l.length) σ):WV B n L (call (.builtin "len") [v]) H σ Φ:=d9 λA F s hA X=>by
 obtain rfl:=dG (X.hold mv)
 refine xr (X.objs _ m) ?_;rintro ⟨es,k,h1,h2⟩ h3 h4
 have hD:=im (pv:=B.prog) h2 h3 h1
 have e:=cB List.length (ie h2)
 simp only[bZ]at e
 exact call_len_dict h4 hD (by rw[e];omega) (.toks X ⟨.int l.length,e▸.int _ _,h _⟩)
theorem IV {v:Value} {d:AV} {l:cG} {Φ:PV} (mv:(v,d)∈H) (m:iK B L d l σ) (hz:l.length<=16777216) (h:∀ v,Φ v (.int l.length) σ):WV B n L (call (.builtin "len") [v]) H σ Φ:=d9 λA F s hA X=>by
 refine jJ (m F H _ v X (X.hold mv)) ?_;rintro a vs rfl h1 h2
 have am:=h2.length
 exact Calls.call_len_list (l:=a) (items:=vs.toArray) h1 (by simp[am];omega) (.toks X ⟨.int l.length,by simp only[List.size_toArray,am];exact .int _ _,h _⟩)
theorem D0 {v:Value} {d:AV} {l:cG} {Ψ:Bool->St->Prop} (mv:(v,d)∈H) (m:iK B L d l σ) (hz:l.length<=16777216) (h:Ψ (!l.isEmpty) σ):WB B n L (truthy v) H σ Ψ:=d9 λA F s hA X=>by
 refine jJ (m F H _ v X (X.hold mv)) ?_;rintro a vs rfl h1 h2
 have e:vs.toArray.isEmpty=l.isEmpty:=by
  refine h2.ind (C:=λvs l=>vs.toArray.isEmpty=l.isEmpty) rfl λy y y y y y y=>?_
  simp[Array.isEmpty]
 exact wpAny_truthy_list (l:=a) (items:=vs.toArray) h1 (by have:=h2.length;simp[this];omega) (.toks X (e▸h))
theorem Ig {n5:Str} {id:String} {v6:Value} {a:Addr} {l:FL} {pl:Sem Bool} {Ψ:Value×cJ->Fz->St->Prop} (mv:(v6,.ref a)∈H) (m:(a,AO.dict l)∈σ.objs) (slot:Slot "dict" n5 id) (ty:typeOf (.builtin id)=pure (.type "method_descriptor"))
 (h:∀ F,Ψ (.builtin id,[v6]) F σ):W B n L (getMethod v6 n5 pl) H σ Ψ:=d9 λA F s hA X=>by
 obtain rfl:=dG (X.hold mv)
 refine xr (X.objs _ m) ?_;rintro ⟨es,k,h1,h2⟩ h3 h4
 exact getMethod_builtin (T:="dict") ⟨_,h1,rfl⟩ PySem.F.plainAttrs_dict slot ty (λb e=>by cases e;exact⟨_,h1,rfl⟩) (.here X (h _))
end
end
section
section
variable {X:Cx} {σ a1 a2:St} {l8 l9:LL} {oe o5 om:OL} {d o:AV} {R:AV->St->Prop} {QF:PF} {e:Expr} {pn p:Pos} {x:Str}
theorem zO (h1:Bs X e σ R) (h2:∀ d σ',R d σ'->∃ a2,I6 X x d σ' a2/\QF .next a2) (hs:autoParam (swapsWith e (some (.Name x p)) pn.line X.env=pure false) bR):Cn X (.Assign [.Name x p] e pn) σ QF:=
 ⟨λH Φ h=>iy (h1.run _ _ λv d σ' w=>dQ (h2 d σ' w) λa2 w1 w2=>w1.run _ _ _ gA (h _ _ w2)) hs⟩
theorem zd {fe a:Expr} {ps:List (cF×AV)} {dv:AV} (h1:Do X fe σ (.type "dict") dv) (h2:uU X [a] σ [.lst (ps.map dz)] ⟨l8,oe⟩) (hz:ps.length<=100000) (hn:Nat.ble 2 X.n=true)
 (he:autoParam (eval (.Call fe [a] [] pn) X.env=(do callWith pn (<-eval fe X.env) [] (backTo pn (starEach [a] X.env)) [])) bR) (hp:autoParam ((backTo pn (starEach [a] X.env)).any (·.1)=false) bR):
 Bs X (.Call fe [a] [] pn) σ λd σ'=>∃ c,d=.ref c/\σ'=⟨l8,(c,.dict (ps.foldl gw []))::oe⟩:=
 ⟨λH Φ h=>mM (h1.run _ _ (FX.run _ _ _ _ _ _ hp (h2.run _ _ _ λvs hl=>by
  refine iM (i6 hl) ?_;rintro v r rfl hl1
  cases ow hl1
  refine BQ (Bo (n:=0) (ps:=ps) (bh _ (List.mem_cons_self)) hz λc=>h _ _ _ ⟨c,rfl,rfl⟩) (dR hn)))) he⟩
theorem Au {c:Addr} {l:FL} (m:(c,AO.dict l)∈oe) (hz:l.length<=100000):eO X (.builtin "len") [.ref c] ⟨l8,oe⟩ (.int l.length) ⟨l8,oe⟩:=nE λy y y mv h=>Km (σ:=⟨l8,oe⟩) mv m hz h
theorem BG {l:cG} (hz:l.length<=16777216):eO X (.builtin "len") [.lst l] σ (.int l.length) σ:=nE λy y y mv h=>IV mv .lst hz h
theorem vC {l:cG} (hz:l.length<=16777216):nM X (.lst l) (!l.isEmpty) σ:=⟨λy y y m h=>D0 m .lst hz h⟩
theorem KQ {n5:Str} {id:String} {c:Addr} {l:FL} (m:(c,AO.dict l)∈oe) (slot:Slot "dict" n5 id) (ty:typeOf (.builtin id)=pure (.type "method_descriptor")):lR X (.ref c) n5 (.builtin id) ⟨l8,oe⟩:=⟨λy y y y mv h=>Ig (σ:=⟨l8,oe⟩) mv m slot ty h⟩
theorem Az {c:Addr} {ak:FL} {ps:List (cF×AV)} (hz:ak.length+ps.length<=100000) (hn:Nat.ble 1 X.n=true):eO X (.builtin "dict.update") [.ref c,.lst (ps.map dz)] ⟨l8,(c,.dict ak)::oe⟩ .none ⟨l8,(c,.dict (ps.foldl gw ak))::oe⟩:=
 kZ λy y y y mv mw h=>BQ (BB (n:=0) (ps:=ps) mv mw hz (h _)) (dR hn)
theorem N1 {v7 st:Expr} {q:Pos} {l:cG} (h1:Ev X v7 σ (.lst l) a1) (h2:Ev X st a1 (.int (-1)) a2) (hz:l.length<=16777216)
 (hs:∀ o i,∃ ops,subscripted (.Slice none none (some st) q) false o i=operate ops (getItem o i):=by intro y y;exact⟨_,rfl⟩):
 Ev X (.Subscript v7 (.Slice none none (some st) q) pn) σ (.lst l.reverse) a2:=⟨λy y h=>Lu (h1.run _ _ λy=>h2.run _ _ λy=>⟨l,.lst,rfl,hz,h⟩) hs⟩
noncomputable def ld (ps:List (cF×AV)):FL:=if (ps.foldl gw []).length < ps.length then ps.reverse.foldl gw (ps.foldl gw []) else ps.foldl gw []
theorem rz (ps:List (cF×AV)):∀ ak:FL,(ps.foldl gw ak).length<=ak.length+ps.length:=by
 induction ps with
 | nil=>exact λy=>cv _
 | cons p r ih=>exact λak=>dt (ih _) (by rw[bL,Nat.add_comm r.length 1,<-Nat.add_assoc];exact bk pU _)
theorem BL {o i v7:Expr} {c a:Addr} {x:cF} {fs l l':FL} (h1:Ev X v7 σ (.ref c) a1) (h2:Ev X o a1 (.ref a) a2) (h3:Ev X i a2 (.str x) ⟨l8,oe⟩) (tk:lh c (.dict fs) oe o5) (hp:nK (S x) (.dct fs) l l') (m:oB a (.dict l) (.dict l') o5 om) (hz:l.length<=900)
 (hs:autoParam (swapsWith v7 (some (.Subscript o i p)) pn.line X.env=pure false) bR):Ex X (.Assign [.Subscript o i p] v7 pn) σ .next ⟨l8,om⟩:=
 ⟨λy y h=>nh (h1.run _ _ λy=>h2.run _ _ λy=>h3.run _ _ λy=>Gs qB tk (B9 qB iL dH hp m hz h)) hs⟩
theorem Lq {ss:cH} {f:Fl} (h:dT X ss σ λf' σ'=>f'=f/\σ'=a1):jC X ss σ f a1:=⟨λH Φ k=>h.run H Φ λy y z=>z.1▸z.2▸k⟩
theorem rO {ss:cH} (h:dT X ss ⟨l9,oe⟩ QF) (e:∀ x d,(x,some d)∈l9->(x,some d)∈l8) (nd:(l9.map (·.1)).Nodup):dT X ss ⟨l8,oe⟩ QF:=
 ⟨λH Φ k=>d9 λA F s hA Y=>cx ((h.run H Φ k).run A F s hA ⟨Y.core,Y.sub,let ⟨m,hm,r⟩:=Y.loc;⟨m,hm,λy d hy=>r y d (e y d hy)⟩,nd,Y.objs,Y.nodup,Y.apart,Y.held,Y.low⟩) (λv s' z=>let ⟨F',σ',x,p,q⟩:=z;⟨F',σ',x,p,q⟩) λw w z=>z⟩
theorem rF {t:Expr} {x y:cH} {fl:Fl} (h1:Te X t σ true a1) (h2:jC X x a1 fl a2):Ex X (.If t x y pn) σ fl a2:=NE h1 ⟨λz=>h2,nofun⟩
theorem nc {t:Expr} {x y:cH} {fl:Fl} (h1:Te X t σ false a1) (h2:jC X y a1 fl a2):Ex X (.If t x y pn) σ fl a2:=NE h1 ⟨nofun,λz=>h2⟩
end
end
section
section
variable {X:Cx} {σ a1 a2 σ':St} {l8 l9:LL} {oe o5:OL} {d d1 d2 o:AV} {Q:PF} {e:Expr} {pn p:Pos} {x:Str} {l:cG} {ss b0:cH} {f:Fl}
theorem Bt {v7 hi:Expr} {q:Pos} {j:Int} (h1:Ev X v7 σ d a1) (h2:Ev X hi a1 (.int j) a2) (hl:iK X.B X.L d l a2) (hz:l.length<=16777216)
 (hs:∀ o i,∃ ops,subscripted (.Slice none (some hi) none q) false o i=operate ops (getItem o i):=by intro y y;exact⟨_,rfl⟩):
 Ev X (.Subscript v7 (.Slice none (some hi) none q) pn) σ (.lst (l.take (fF l.length j))) a2:=⟨λy y h=>HM (h1.run _ _ λy=>h2.run _ _ λy=>⟨l,j,hl,rfl,hz,h⟩) hs⟩
theorem Bp {t1 t2:Expr} {k:Nat} (h1:tI X t1 d1 σ a1) (h2:tI X t2 d2 a1 a2) (he:autoParam (assignEach [t1,t2] X.env=[(false,assign t1 X.env),(false,assign t2 X.env)]) bR):tI X (.Tuple [t1,t2] k p) (.lst [d1,d2]) σ a2:=
 ⟨λH v Φ m h=>Ho m (λv1 v2=>h1.run _ _ _ dH (h2.run _ _ _ iL h)) he⟩
theorem xL {t6 i4:Expr} {N:Nat} {i3:Nat->AV} (J:Nat->St->Prop) (h1:Ev X i4 σ d a1) (it:∀ xv,fb X.B X.n X.L xv d N i3) (j0:J 0 a1) (fin:∀ σ,J N σ->Q .next σ)
 (step:∀ i l8 oe a p,i < N->J i ⟨l8,oe⟩->∃ a2,tI X t6 (i3 i) ⟨l8,(a,.is p)::oe⟩ a2/\dT X b0 a2 λf σ'=>(f=.next/\∃ l9 o5,σ'=⟨l9,(a,.is p)::o5⟩/\J (i+1) ⟨l9,o5⟩)\/(f=.brk/\Q .next σ'))
 (hs:autoParam (∀ x,foldedSetIterable i4 X.env x=pure x) bI):Cn X (.For t6 i4 b0 [] pn) σ Q:=
 ⟨λH Φ h=>wu (J:=J) (h1.run _ _ λxv=>⟨N,i3,it xv,j0,λσ z=>h _ _ (fin σ z),λi l8 oe a p v hi hj=>by
  refine dQ (step i l8 oe a p hi hj) ?_;rintro a2 w1 w2
  refine w1.run _ _ _ dH (w2.run _ _ λf σ' z=>?_)
  rcases z with⟨rfl,z⟩ | ⟨rfl,z⟩
  . exact z
  . exact h _ _ z⟩) hs⟩
theorem rl {e9:Env} {b:cH}:∀ a:cH,execs (a++b) e9=(do match <-execs a e9 with | .next=>execs b e9 | f=>pure f)
 | []=>by rw[execs_nil];exact(pure_bind _ _).symm
 | st::a=>by
  rw[bO,execs_cons,execs_cons,bind_assoc];refine bind_congr λf=>?_
  rcases f with _ | _
  . exact rl a
  all_goals exact(pure_bind _ _).symm
theorem OG {B:cX} {n:Nat} {L:Addr} {e9:Env} {H:HL} {a b:cH} {Φ:PF} (h:WF B n L (execs a e9) H σ (j6 B n L b e9 H Φ)):WF B n L (execs (a++b) e9) H σ Φ:=by
 refine d9 λA F s hA x=>?_
 rw[rl];refine cw (cx (h.run A F s hA x) (λf s0 z=>z.then λF0 a1 x0 ⟨e,he,q⟩=>?_) λy y z=>z)
 induction f using Flow.casesOn with
 | next=>rcases e with _ | _<;>first | exact he.elim | exact q.run A F0 s0 hA x0
 | brk=>rcases e with _ | _<;>first | exact he.elim | exact cy (.here x0 ⟨.brk,trivial,q⟩)
 | cont=>rcases e with _ | _<;>first | exact he.elim | exact cy (.here x0 ⟨.cont,trivial,q⟩)
 | ret v=>rcases e with _ | _<;>first | exact he.elim | exact cy (.here x0 ⟨.ret _,he,q⟩)
theorem jp (k:Nat) (h1:jC X (ss.take k) σ .next a1) (h2:dT X (ss.drop k) a1 Q):dT X ss σ Q:=by
 refine⟨λH Φ h=>?_⟩
 have w:=h1.run H (j6 X.B X.n X.L (ss.drop k) X.env H Φ) (h2.run H Φ h)
 rw[<-List.take_append_drop k ss];exact OG w
theorem nN {σ':St} {d':AV} (h:Ev X e σ d σ') (q:d=d'):Ev X e σ d' σ':=q▸h
theorem N6 {t:Expr} {x y:cH} (h1:Te X t σ true a1) (h2:dT X x a1 Q):Cn X (.If t x y pn) σ Q:=Ok h1 ⟨λz=>h2,nofun⟩
end
end
section
section
variable {B:cX} {n:Nat} {L:Addr} {H:HL} {σ:St} {e9:Env} {l8:LL} {oe:OL}
theorem Ep {pn:Pos} {Φ:PV} (h:∀ v,Φ v (.dct []) σ):WV B n L (eval (.Dict [] [] pn) e9) H σ Φ:=d9 λA F s hA X=>by
 rw[eval_Dict_empty];refine cw (wpAny_standAt ?_)
 have hsm:(s.heap.objs.size==sysModules)=false:=nS (B:=B) (dt X.low (by obtain⟨y,hy⟩:=X.there L dH;exact cm (Heap.lt_size hy)))
 refine wpAny_newObj_type ?_
 exact di.fresh X (λb o e=>bc _ e) (eI _) (o:=dictOf [] 0) (bm _ rfl) rfl rfl λle=>⟨.dct [],.dct (Fz.put_self ..) .nil List.nodup_nil hsm,h _⟩
theorem HP {a b:Value} {l m:cG} {Φ:PV} (ma:(a,.lst l)∈H) (mb:(b,.lst m)∈H) (hz:l.length+m.length<=16777216) (h:∀ v,Φ v (.lst (l++m)) σ):WV B n L (binaryOp .Add a b) H σ Φ:=d9 λA F s hA X=>by
 refine jS (eU (X.hold ma)) ?_;rintro x vs k rfl e1 e2
 refine jS (eU (X.hold mb)) ?_;rintro y ws k' rfl e3 e4
 have e:vs.toArray++ws.toArray=(vs++ws).toArray:=by simp
 refine concat_meets ⟨_,X.sub _ _ e1,rfl⟩ ⟨_,X.sub _ _ e3,rfl⟩ noFill_list_add seq_list_add PySem.F.slot_list_add PySem.F.entry_list_add (PySem.F.args_list_add_2 _ _) (list_addW x y vs.toArray ws.toArray k k' none none #[] #[] (by simp[e2.length,e4.length];rw[dP];exact hz)) ⟨X.sub _ _ e1,X.sub _ _ e3,?_⟩
 rw[e];have ap:∀ {F':Fz},F.le F'->IsAll B.P F' (vs++ws) (l++m):=λle=>by
  have q:=e2.mono le
  have q':=e4.mono le
  exact q.ind (C:=λvs l=>IsAll _ _ (vs++ws) (l++m)) q' λz z z z h z c=>.cons h c
 exact di.fresh X (λb o e=>bc _ e) (eI _) (o:=dU (vs++ws) 0) (bm _ rfl) rfl rfl λle=>⟨_,.lst (Fz.put_self ..) (ap le),h _⟩
theorem zX {v w:Value} {b:Bool} {Φ:PV} (mv:(v,.bool b)∈H) (mw:(w,.lit (.type "bool"))∈H) (h:∀ v,Φ v (.bool true) σ):WV B n L (call (.builtin "isinstance") [v,w]) H σ Φ:=d9 λA F s hA X=>by
 obtain rfl:=xg (X.hold mw)
 have e:v=.bool b:=gS (X.hold mv)
 subst e;exact PySem.IsiPair.bool_bool (.here X ⟨.bool true,.bool _,h _⟩)
noncomputable abbrev DU (x:Str):cF:=x.cps.toList
theorem GT {xv:Value} {l:FL} {es:List DictEntry} {q:Nat} {F5:Fz} (e2:IsEnts B.P F5 es l) (e3:(l.map (·.1)).Nodup) (hx:∀ t,xv=.ref t->(t==sysModules)=false):fb B n L xv (.obj λo=>o=dictOf es q) l.length (λi=>(l.map λp=>AV.str (DU p.1)).getD i .any):=by
 intro H σ m;refine d9 λA F s hA X=>?_
 refine jJ (jq (X.hold m)) ?_;rintro t w rfl e1 rfl
 have at':∀ {h:Heap},h.get? t=some (dictOf es q)->h.DictAt (strKind B.prog B.w) t (jT es l) q:=λhg=>⟨_,es.toArray,hg,⟨rfl,rfl,rfl⟩,rfl,λx hx=>xS e2 x (by simpa using hx),tU e2,by rw[ie e2];exact e3⟩
 have am:(jT es l).length=l.length:=by have:=cB List.length (ie e2);simpa using this
 have hsys:=hx t rfl
 refine wpAny_pyIter_dict hsys (at' (X.sub _ _ e1)) ?_
 refine di.begin (p:=λo=>o.cls=.type "dict_keyiterator"/\o.data=.fields #[.ref t,.int (0:Nat) 0,.int (jT es l).length 0,.int q 0]) X ⟨rfl,rfl⟩ ⟨_,λi o=>o.cls=.type "dict_keyiterator"/\o.data=.fields #[.ref t,.int (i:Nat) 0,.int (jT es l).length 0,.int q 0],rfl,rfl,λL' i l8 oe H hi mm=>d9 λA F s hA X=>?_,λL' l8 oe H mm=>d9 λA F s hA X=>?_,(λL' l8 oe H=>d9 λA F s hA X=>?_),λi o ho=>⟨_,ho.1,by decide⟩⟩
 . refine kW (X.objs _ dH) ?_;rintro o ho hc hd
   refine jJ (jq (X.hold mm)) ?_;rintro t' w et e1' rfl
   cases et
   have aT:i < (jT es l).length:=am▸hi
   obtain⟨k,v,hkv⟩:∃ k v,(jT es l)[i]=(k,v):=⟨_,_,rfl⟩
   refine wpAny_pyNext_dict_item (i:=i) ⟨o,ho,hc,hd⟩ (at' (X.sub _ _ e1')) (k:=k) (v:=v) (by rw[b9 aT,hkv]) λkc h' hk hit hs=>?_
   obtain⟨tk,rfl⟩:=Value.isStrOf_shape hk;have ek:k=(l[i]'hi).1:=by
    have:=cB (λz:cL=>z[i]?) (ie e2)
    simp only[bz,b9 aT,b9 hi,hkv,Option.map_some]at this
    exact Option.some.inj this
   refine di.turn X hs hit rfl rfl ⟨_,rfl,?_,rfl⟩
   rw[b8,bz,b9 hi,ek];exact .str (DU l[i].1) tk
 . refine kW (X.objs _ dH) ?_;rintro o ho hc hd
   refine jJ (jq (X.hold mm)) ?_;rintro t' w et e1' rfl
   cases et
   refine wpAny_pyNext_dict_end (i:=l.length) hA.handled ⟨o,ho,hc,hd⟩ (at' (X.sub _ _ e1')) (List.getElem?_eq_none (cq am)) λh' hs=>?_
   exact di.remove X (λb y hb e=>hs b y hb e) rfl rfl ⟨rfl,rfl⟩
 . refine kW (X.objs _ dH) ?_;rintro o ho hc hd
   exact wpAny_pyIter_keyiter (d:=t) (i:=0) (n:=(jT es l).length) (ep:=q) ⟨o,ho,hc,hd⟩ (.here X ⟨rfl,rfl⟩)
theorem JY {t:Sem Value} {Φ:PV} {l:FL} (h:WV B n L t H σ λv d a1=>d=.dct l/\∀ es q F5,IsEnts B.P F5 es l->(l.map (·.1)).Nodup->(∀ a,v=.ref a->(a==sysModules)=false)->Φ v (.obj λo=>o=dictOf es q) a1):WV B n L t H σ Φ:=d9 λA F s hA X=>
 cx (h.run A F s hA X) (λv s0 z=>by
  obtain⟨F',σ',x,p,d,hd,rfl,k⟩:=z;obtain⟨a,es,q,rfl,e1,e2,e3,e4⟩:=Af hd;exact⟨F',σ',x,p,.obj λo=>o=dictOf es q,.obj (p:=λo=>o=dictOf es q) e1 rfl,k es q F' e2 e3 λb e=>by cases e;exact e4⟩) λy y z=>z
end
section
variable {X:Cx} {σ a1:St} {l8:LL} {oe:OL} {t6 ee:Expr} {i5:cI} {pn:Pos}
theorem Ea {i4:Expr} {se:Scope} {cl:List (Str×Addr)} {l:FL} (xs:cL) (keep:Nat->Bool) (val:Nat->AV) (hN:l.length<=16777215) (h1:Ev X i4 σ (.dct l) ⟨l8,oe⟩)
 (h2:∀ i,i < l.length->iH X.B X.n t6 ee i5 (λC=>compEnvC se cl C X.env) xs ((l.map λp=>AV.str (DU p.1)).getD i .any) (keep i) (val i) oe)
 (aD:closureFor se X.env=pure cl) (hx:autoParam (xs.Nodup) bD)
 (aj:autoParam (∀ y∈se.names,y.2≠.cell) bD) (aB:autoParam (se.kind=.function) bR) (aw:autoParam (∀ y∈se.names,y.2=.local->se.names.lookup y.1=some .local) bD)
 (hs:autoParam (∀ x,foldedSetIterable i4 X.env x=pure x) bI):
 Ev X (.ListComp ee [⟨t6,i4,i5,0⟩] se pn) σ (.lst (dZ keep val l.length)) ⟨l8,oe⟩:=⟨λz z h=>qg (A4 xs (λi ys o=>ys=dZ keep val i/\o=oe) (JY (l:=l) (h1.run _ _ λxv=>⟨rfl,λes q F5 e2 e3 e4=>⟨l.length,_,GT e2 e3 e4,⟨rfl,rfl⟩,λi hi=>iH.step (i3:=λi=>(l.map λp=>AV.str (DU p.1)).getD i .any) (cm (tB hi hN)) (h2 i hi),λys o D ⟨e1,e2⟩=>⟨D,_,l8,oe,rfl,by rw[e1,e2],h _⟩⟩⟩)) aD hx aj aB aw hs)⟩
theorem CL:Ev X (.Dict [] [] pn) σ (.dct []) σ:=⟨λy y h=>Ep h⟩
theorem KB {l m:cG} (hz:l.length+m.length<=16777216):sV X .Add (.lst l) (.lst m) (.lst (l++m)) σ:=⟨λy y y y ma mb h=>HP ma mb hz h⟩
theorem AY {b:Bool}:eO X (.builtin "isinstance") [.bool b,.lit (.type "bool")] σ (.bool true) σ:=kZ λy y y y mv mw h=>zX mv mw h
end
end
section
theorem qI:typeLookup (.type "tuple") (dunderI "add")=pure none:=by rw[typeLookup_type,builtinLookup_eq_fast];kernel_rfl
section
variable {B:cX} {n:Nat} {L:Addr} {H:HL} {σ:St} {a b:Value} {x y:AV} {l m:cG} {Φ:PV}
theorem Bw {P:Params} {F:Fz} {vs:cJ} (e:IsAll P F vs (x::l)):¬ vs.toArray.isEmpty=true:=λh=>by
 have:=e.length
 rw[Array.isEmpty_iff_size_eq_zero,List.size_toArray,this]at h
 exact nomatch h
theorem yd (i:Bool) (ma:(a,.tup (x::l))∈H) (mb:(b,.tup (y::m))∈H) (hz:(x::l).length+(y::m).length<=16777216) (h:∀ v,Φ v (.tup (x::l++y::m)) σ):WV B n L (if i=true then inplaceOp .Add a b else binaryOp .Add a b) H σ Φ:=d9 λA F s hA X=>by
 refine jS (gG (X.hold ma)) ?_;rintro p vs k rfl e1 e2
 refine jS (gG (X.hold mb)) ?_;rintro q ws k' rfl e3 e4
 have e:vs.toArray++ws.toArray=(vs++ws).toArray:=by simp
 have ap:∀ {F':Fz},F.le F'->IsAll B.P F' (vs++ws) (x::l++y::m):=λle=>by
  have q:=e2.mono le
  have q':=e4.mono le
  exact q.ind (C:=λvs l=>IsAll _ _ (vs++ws) (l++y::m)) q' λz z z z h z c=>.cons h c
 have ta:s.TypeIs (.ref p) "tuple":=⟨_,X.sub _ _ e1,rfl⟩
 have tb:s.TypeIs (.ref q) "tuple":=⟨_,X.sub _ _ e3,rfl⟩
 have mt:=tuple_addW2 p q vs.toArray ws.toArray k k' none none #[] #[] (Bw e2) (Bw e4) (by simp[e2.length,e4.length];rw[dP];exact hz)
 rw[e]at mt
 rcases i with _ | _
 . refine wpAny_binaryOp_concat ta tb noFill_tuple_add seq_tuple_add (call_meets PySem.F.slot_tuple_add ta PySem.F.entry_tuple_add (PySem.F.args_tuple_add_2 (.ref p) (.ref q)) mt ⟨X.sub _ _ e1,X.sub _ _ e3,?_⟩)
   exact di.fresh X (λb o e=>bc _ e) (eI _) (o:=lr (vs++ws) 0) (bm _ rfl) rfl rfl λle=>⟨_,.tup (Fz.put_self ..) (ap le),h _⟩
 . refine wpAny_inplaceOp_concat ta tb qI noFill_tuple_add seq_tuple_add (call_meets PySem.F.slot_tuple_add ta PySem.F.entry_tuple_add (PySem.F.args_tuple_add_2 (.ref p) (.ref q)) mt ⟨X.sub _ _ e1,X.sub _ _ e3,?_⟩)
   exact di.fresh X (λb o e=>bc _ e) (eI _) (o:=lr (vs++ws) 0) (bm _ rfl) rfl rfl λle=>⟨_,.tup (Fz.put_self ..) (ap le),h _⟩
section
variable {X:Cx}
theorem Hz (hz:(x::l).length+(y::m).length<=16777216):sV X .Add (.tup (x::l)) (.tup (y::m)) (.tup (x::l++y::m)) σ:=⟨λz z z z ma mb h=>yd false ma mb hz h⟩
theorem HO (hz:(x::l).length+(y::m).length<=16777216):vp X .Add (.tup (x::l)) (.tup (y::m)) (.tup (x::l++y::m)) σ:=⟨λz z z z ma mb h=>yd true ma mb hz h⟩
end
end
end
section
variable {op:CmpOp} {a:DV} {s:Sy} {X:Cx} {ρ:cK} {i j:Nat} {D:DS} {K:Frag} {n5:Str} {C dx:Addr} {fs:List (Str×DV)}
section
noncomputable def ob {α:Type u} {β:Type v} (o:Option α) (f:α->Option β):Option β:=Option.casesOn o none f
noncomputable def iC {α:Type u} {β:Type v} (o:Option α) (f:∀ a,o=some a->Option β):Option β:=Option.casesOn (motive:=λo=>(∀ a,o=some a->Option β)->Option β) o (λy=>none) (λa f=>f a rfl) f
noncomputable def gd {α:Type u} (b:Bool) (f:b=true->Option α):Option α:=Bool.casesOn (motive:=λb=>(b=true->Option α)->Option α) b (λy=>none) (λf=>f rfl) f
inductive DB where
 | yes | no | is (c:Bool)
noncomputable def DB.val:DB->Bool
 | .yes=>true
 | .no=>false
 | .is c=>c
abbrev RA (op:CmpOp) (a b:AV):={r:DB // ∀ X σ,fW X op a b r.val σ}
noncomputable abbrev RA.r {a b:AV} (x:RA op a b):DB:=x.1
theorem RA.ok {a b:AV} (x:RA op a b):∀ X σ,fW X op a b x.r.val σ:=x.2
abbrev RC (op:CmpOp) (a b:DV):={r:DB // ∀ X σ ρ,fW X op (a.to ρ) (b.to ρ) r.val σ}
noncomputable abbrev RC.r {b:DV} (x:RC op a b):DB:=x.1
theorem RC.ok {b:DV} (x:RC op a b):∀ X σ ρ,fW X op (a.to ρ) (b.to ρ) x.r.val σ:=x.2
def N8 (i j:Int):(op:CmpOp)->Option (RA op (.int i) (.int j))
 | .Eq=>some ⟨.is _,λy y=>KE⟩
 | .NotEq=>some ⟨.is _,λy y=>MQ⟩
 | .Lt=>some ⟨.is _,λy y=>EW⟩
 | .LtE=>some ⟨.is _,λy y=>Qw⟩
 | .Gt=>some ⟨.is _,λy y=>Ij⟩
 | .GtE=>some ⟨.is _,λy y=>R9⟩
 | _=>none
def NK (x y:cF):(op:CmpOp)->Option (RA op (.str x) (.str y))
 | .Eq=>some ⟨.is _,λz z=>iT⟩
 | .NotEq=>some ⟨.is _,λz z=>wZ⟩
 | .In=>(match x with
  | [c]=>some ⟨.is _,λz z=>M9⟩
  | _=>none)
 | .NotIn=>(match x with
  | [c]=>some ⟨.is _,λz z=>K5⟩
  | _=>none)
 | .LtE=>(match x,y with
  | [c],[d]=>some ⟨.is _,λz z=>O7⟩
  | _,_=>none)
 | _=>none
def Mb (x:cF) (l:cG):(op:CmpOp)->Option (RA op (.str x) (.tup l))
 | .In=>iC (dN l) λms e=>some ⟨.is _,λy y=>AK e⟩
 | .NotIn=>iC (dN l) λms e=>some ⟨.is _,λy y=>Bf e⟩
 | _=>none
def Oe (i:Int) (l:cG):(op:CmpOp)->Option (RA op (.int i) (.tup l))
 | .In=>iC (qp l) λms e=>some ⟨.is _,λy y=>MM e⟩
 | _=>none
noncomputable def NR (l:cG):(op:CmpOp)->Option (RA op .none (.tup l))
 | .In=>iC (dataAll l) λps e=>gd (PyData.canLayAll0 ps&& !(ps.any λy=>PyData.eqv y .none)) λq=>some ⟨.no,λx x=>Jh e (dE q) (by simpa using dX q)⟩
 | _=>none
noncomputable def NJ (y:cF):(op:CmpOp)->Option (RA op .none (.str y))
 | .Eq=>gd (PyData.strOk (S y)) λq=>some ⟨.no,λx x=>Ia q⟩
 | _=>none
noncomputable def Oz (p q:Bool):(op:CmpOp)->Option (RA op (.bool p) (.bool q))
 | .Eq=>some ⟨.is _,λy y=>Oh⟩
 | _=>none
def yq (op:CmpOp) (a b:AV):Option (RA op a b):=match a with
 | .int i=>(match b with
  | .int j=>N8 i j op
  | .tup l=>Oe i l op
  | _=>none)
 | .str x=>(match b with
  | .str y=>NK x y op
  | .tup l=>Mb x l op
  | _=>none)
 | .none=>(match b with
  | .str y=>NJ y op
  | .tup l=>NR l op
  | _=>none)
 | .bool p=>(match b with
  | .bool q=>Oz p q op
  | _=>none)
 | _=>none
abbrev RN (a:DV):={r:Bool // ∀ ρ P F v,Is P F v (a.to ρ)->(v==Value.none)=r}
noncomputable abbrev RN.r (x:RN a):Bool:=x.1
theorem RN.ok (x:RN a):∀ ρ P F v,Is P F v (a.to ρ)->(v==Value.none)=x.r:=x.2
noncomputable def G4:(a:DV)->Option (RN a)
 | .av d=>(match d with
  | .none=>some ⟨true,λy=>rG⟩
  | .str _=>some ⟨false,λy=>zY⟩
  | .int _=>some ⟨false,λy=>Al⟩
  | .dct _=>some ⟨false,λy=>qd⟩
  | _=>none)
 | .slot _=>some ⟨false,λy=>An⟩
 | _=>none
noncomputable def DB.of (b:Bool):DB:=Bool.casesOn b .no .yes
theorem DB.of_val (b:Bool):(DB.of b).val=b:=by rcases b with _ | _<;>rfl
def Pu (op:CmpOp) (a b:DV):Option (RC op a b):=match b with
 | .av y=>(match op with
  | .Is=>(match y with
   | .none=>ob (G4 a) λq=>some ⟨.of q.r,λX σ ρ=>(DB.of_val _).symm▸Ju (q.ok ρ)⟩
   | _=>none)
  | .IsNot=>(match y with
   | .none=>ob (G4 a) λq=>some ⟨.of !q.r,λX σ ρ=>(DB.of_val _).symm▸wn (q.ok ρ)⟩
   | _=>none)
  | op=>(match a with
   | .av x=>ob (yq op x y) λq=>some ⟨q.r,λX σ z=>q.ok X σ⟩
   | _=>none))
 | _=>none
noncomputable def Sy.need (s:Sy) (p:Prop):Sy:=⟨s.D,s.n,s.o,s.c/\p⟩
structure kU (s s':Sy):Prop where
 D:s'.D=s.D
 n:s'.n=s.n
 c:s'.c->s.c
theorem kU.refl (s:Sy):kU s s:=⟨rfl,rfl,id⟩
theorem kU.need (s:Sy) (p:Prop):kU s (s.need p):=⟨rfl,rfl,And.left⟩
abbrev RB (op:Operator) (a b:DV) (s:Sy):=Sigma λv:DV=>{s':Sy // kU s s'/\(s'.c->∀ X σ ρ,sV X op (a.to ρ) (b.to ρ) (v.to ρ) σ/\vp X op (a.to ρ) (b.to ρ) (v.to ρ) σ)}
noncomputable abbrev RB.v {op:Operator} {b:DV} (x:RB op a b s):DV:=x.1
noncomputable abbrev RB.s' {op:Operator} {b:DV} (x:RB op a b s):Sy:=x.2.1
theorem RB.A {op:Operator} {b:DV} (x:RB op a b s):kU s x.s':=x.2.2.1
theorem RB.ok {op:Operator} {b:DV} (x:RB op a b s):x.s'.c->∀ X σ ρ,sV X op (a.to ρ) (b.to ρ) (x.v.to ρ) σ/\vp X op (a.to ρ) (b.to ρ) (x.v.to ρ) σ:=x.2.2.2
noncomputable def EV (op:Operator) (a b:DV) (s:Sy):Option (RB op a b s):=match a with
 | .av (.int i)=>(match b with
  | .av (.int j)=>(match op with
   | .Add=>some ⟨.av (.int (i+j)),s,.refl s,λz z z z=>⟨Gk,LF⟩⟩
   | .Sub=>some ⟨.av (.int (i - j)),s,.refl s,λz z z z=>⟨GC,Ne⟩⟩
   | _=>none)
  | _=>none)
 | .av (.str x)=>(match b with
  | .av (.str y)=>(match op with
   | .Add=>some ⟨.av (.str (x++y)),s.need (x.length+y.length<=16777216),.need _ _,λc z z z=>⟨rK c.2,B5 c.2⟩⟩
   | _=>none)
  | _=>none)
 | .av (.tup (x::l))=>(match b with
  | .av (.tup (y::m))=>(match op with
   | .Add=>some ⟨.av (.tup (x::l++y::m)),s.need ((x::l).length+(y::m).length<=16777216),.need _ _,λc z z z=>⟨Hz c.2,HO c.2⟩⟩
   | _=>none)
  | _=>none)
 | _=>none
abbrev RT (a:DV) (s:Sy):=Sigma λr:DB=>{s':Sy // kU s s'/\(s'.c->∀ X ρ,nM X (a.to ρ) r.val (s.D.to ρ))}
noncomputable abbrev RT.r (x:RT a s):DB:=x.1
noncomputable abbrev RT.s' (x:RT a s):Sy:=x.2.1
theorem RT.A (x:RT a s):kU s x.s':=x.2.2.1
theorem RT.ok (x:RT a s):x.s'.c->∀ X ρ,nM X (a.to ρ) x.r.val (s.D.to ρ):=x.2.2.2
theorem wN {l:cG} {ps:cM} (e:eW i D.objs=some (.list l ps)) (hz:l.length+ps.length<=16777216):nM X (.ref (dO ρ i)) (!(zv ρ l ps).isEmpty) (D.to ρ):=
 B4 (ft e) (by refine jA▸?_;exact hz)
noncomputable def Qk (i:Nat) (s:Sy) (l:cG) (ps:cM) (e:eW i s.D.objs=some (.list l ps)):RT (.slot i) s:=match ps with
 | []=>⟨.is (!l.isEmpty),s.need (l.length+0<=16777216),.need _ _,λc X ρ=>wN e c.2⟩
 | p::r=>⟨.yes,s.need (l.length+(p::r).length<=16777216),.need _ _,λc X ρ=>by
  have w:=wN (X:=X) (ρ:=ρ) e c.2
  rw[show(!(zv ρ l (p::r)).isEmpty)=true by rcases l with _ | _<;>rfl]at w
  exact w⟩
noncomputable def Hf (a:DV) (s:Sy):Option (RT a s):=match a with
 | .av d=>(match d with
  | .none=>some ⟨.no,s,.refl s,λy y y=>IE⟩
  | .bool c=>some ⟨.is c,s,.refl s,λy y y=>kf⟩
  | .int i=>some ⟨.is (!decide (i=0)),s,.refl s,λy y y=>M0⟩
  | .str x=>some ⟨.is (!decide (x=[])),s.need (x.length<=16777216),.need _ _,λc y y=>OV c.2⟩
  | .lst l=>some ⟨.is (!l.isEmpty),s.need (l.length<=16777216),.need _ _,λc y y=>vC c.2⟩
  | _=>none)
 | .meth _ _=>some ⟨.yes,s,.refl s,λy y y=>KK⟩
 | .slot i=>iC (eW i s.D.objs) λo e=>(match o,e with
  | .list l ps,e=>some (Qk i s l ps e)
  | _,_=>none)
abbrev RD (r:DB) (s:Sy):=Sigma λb:Bool=>{s':Sy // kU s s'/\(s'.c->r.val=b)}
noncomputable abbrev RD.b {r:DB} (x:RD r s):Bool:=x.1
noncomputable abbrev RD.s' {r:DB} (x:RD r s):Sy:=x.2.1
theorem RD.A {r:DB} (x:RD r s):kU s x.s':=x.2.2.1
theorem RD.ok {r:DB} (x:RD r s):x.s'.c->r.val=x.b:=x.2.2.2
noncomputable def Di (r:DB) (s:Sy):Option (RD r s):=match r with
 | .yes=>some ⟨true,s,.refl s,λy=>rfl⟩
 | .no=>some ⟨false,s,.refl s,λy=>rfl⟩
 | .is c=>(match s.o with
  | .br b::o=>some ⟨b,⟨s.D,s.n,o,s.c/\c=b⟩,⟨rfl,rfl,And.left⟩,And.right⟩
  | _=>none)
abbrev RG (K:Frag) (i:Nat) (n5:Str) (s:Sy):={v:DV // ∀ X:Cx,X.B.K=K->∀ ρ,wF X (.ref (dO ρ i)) n5 (v.to ρ) (s.D.to ρ)}
noncomputable abbrev RG.v (x:RG K i n5 s):DV:=x.1
theorem RG.ok (x:RG K i n5 s):∀ X:Cx,X.B.K=K->∀ ρ,wF X (.ref (dO ρ i)) n5 (x.v.to ρ) (s.D.to ρ):=x.2
noncomputable def rR (v:DV):Bool:=DV.casesOn v ja (λy=>true) λy y=>true
theorem yJ {v:DV} (h:rR v=true):ja (v.to ρ)=true:=by
 induction v using DV.casesOn with
 | av d=>exact h
 | slot i=>rfl
 | meth f i=>rfl
theorem Kd {v:DV} (hK:X.B.K=K) (e:eW i D.objs=some (.inst C dx fs)) (q:gK n5 fs=some v) (h:(ik K C n5&&rR v)=true):wF X (.ref (dO ρ i)) n5 (v.to ρ) (D.to ρ):=by
 subst hK;exact⟨λy y y mv k=>G2 mv (ft e) (dE h) (nR q) (yJ (dX h)) k⟩
theorem Kn {g:Addr} (hK:X.B.K=K) (e:eW i D.objs=some (.inst C dx fs)) (q:gK n5 fs=none) (h:gj K C n5 g=true):wF X (.ref (dO ρ i)) n5 (.meth g (dO ρ i)) (D.to ρ):=by
 subst hK;exact Os (ft e) (mN q) h
theorem IB {k:Int} (hK:X.B.K=K) (e:eW i D.objs=some (.inst C dx fs)) (q:gK n5 fs=none) (h:pP K C n5=some k):wF X (.ref (dO ρ i)) n5 (.int k) (D.to ρ):=by
 subst hK;exact LZ (ft e) (mN q) h
noncomputable def FK (o:Option (cO)):Option Addr:=match o with
 | some (some (.ref g))=>some g
 | _=>none
noncomputable def Mj (K:Frag) (i:Nat) (n5:Str) (s:Sy):Option (RG K i n5 s):=iC (eW i s.D.objs) λo e=>match o,e with
 | .inst C dx fs,e=>Option.casesOn (motive:=λz=>gK n5 fs=z->Option (RG K i n5 s)) (gK n5 fs)
  (λq=>Option.casesOn (motive:=λy=>Option (RG K i n5 s)) (FK (findIn K (.ref C) n5)) (iC (pP K C n5) λk h=>some ⟨.av (.int k),λX hK ρ=>IB hK e q h⟩) λg=>gd (gj K C n5 g) λh=>some ⟨.meth g i,λX hK ρ=>Kn hK e q h⟩)
  (λv q=>gd (ik K C n5&&rR v) λh=>some ⟨v,λX hK ρ=>Kd hK e q h⟩) rfl
 | _,_=>none
noncomputable def Sy.objs (s:Sy) (l:cQ):Sy:=⟨⟨s.D.loc,l,s.D.rest⟩,s.n,s.o,s.c⟩
abbrev RS (K:Frag) (i:Nat) (n5:Str) (v:DV) (s:Sy):={l:cQ // ∀ X:Cx,X.B.K=K->∀ ρ,uQ X (.ref (dO ρ i)) n5 (v.to ρ) (s.D.to ρ) ((s.objs l).D.to ρ)}
noncomputable abbrev RS.l {v:DV} (x:RS K i n5 v s):cQ:=x.1
theorem RS.ok {v:DV} (x:RS K i n5 v s):∀ X:Cx,X.B.K=K->∀ ρ,uQ X (.ref (dO ρ i)) n5 (v.to ρ) (s.D.to ρ) ((s.objs x.l).D.to ρ):=x.2
theorem Kb {v:DV} (hK:X.B.K=K) (e:eW i s.D.objs=some (.inst C dx fs)) (h:(j9 K C n5&&Nat.ble fs.length 900)=true):uQ X (.ref (dO ρ i)) n5 (v.to ρ) (s.D.to ρ) ((s.objs (lE i (.inst C dx (tv n5 v fs)) s.D.objs)).D.to ρ):=by
 subst hK;have m:=iU (ρ:=ρ) (r8:=s.D.rest) (o':=.inst C dx (tv n5 v fs)) e
 rw[show(DO.inst C dx (tv n5 v fs)).to ρ=.inst C dx (fT n5 (v.to ρ) (jD ρ fs))from cB (AO.inst C dx) wX]at m
 exact⟨λy y y y mv md k=>FY (σ:=s.D.to ρ) mv md m (dE h) (by rw[bZ];exact dR (dX h)) k⟩
def OO (K:Frag) (i:Nat) (n5:Str) (v:DV) (s:Sy):Option (RS K i n5 v s):=iC (eW i s.D.objs) λo e=>match o,e with
 | .inst C dx fs,e=>gd (j9 K C n5&&Nat.ble fs.length 900) λh=>some ⟨_,λX hK ρ=>Kb hK e h⟩
 | _,_=>none
abbrev RI (a i:DV) (s:Sy):=Sigma λv:DV=>{s':Sy // kU s s'/\(s'.c->∀ X ρ e1 e2,fm e2=true->gL X e1 e2 (a.to ρ) (i.to ρ) (v.to ρ) (s.D.to ρ))}
noncomputable abbrev RI.v {i:DV} (x:RI a i s):DV:=x.1
noncomputable abbrev RI.s' {i:DV} (x:RI a i s):Sy:=x.2.1
theorem RI.A {i:DV} (x:RI a i s):kU s x.s':=x.2.2.1
theorem RI.ok {i:DV} (x:RI a i s):x.s'.c->∀ X ρ e1 e2,fm e2=true->gL X e1 e2 (a.to ρ) (i.to ρ) (x.v.to ρ) (s.D.to ρ):=x.2.2.2
theorem De {l:cG} {ps:cM} {v:DV} {e1 e2:Expr} (e:eW j D.objs=some (.list l ps)) (q:ps.getLast? =some v) (hz:l.length+ps.length<=16777000) (hs:fm e2=true):gL X e1 e2 (.ref (dO ρ j)) (.int (-1)) (v.to ρ) (D.to ρ):=by
 have m:=ft (ρ:=ρ) (r8:=D.rest) e
 obtain⟨qs,rfl⟩:=List.getLast?_eq_some_iff.mp q
 rw[DO.to,m6]at m
 exact BD m (by refine jA▸?_;rw[bt]at hz;exact dt (bo (bE _ _) _) hz) (lA hs)
theorem HD {l:List (Str×DV)} {x:cF} {v:DV} {e1 e2:Expr} (e:eW j D.objs=some (.dict l)) (q:gK (S x) l=some v) (hs:fm e2=true):gL X e1 e2 (.ref (dO ρ j)) (.str x) (v.to ρ) (D.to ρ):=
 ⟨λy y y y mo mi k=>Kz mo (ft e) mi (nR q) k (lA hs _ _)⟩
theorem lU {ρ:cK} {ps:cM}:zv ρ [] ps=mF ρ ps:=jF
theorem AQ {ρ:cK} {ps:cM} {k:Nat} {v:DV} (q:ps[k]? =some v):(zv ρ [] ps)[k]? =some (v.to ρ):=by rw[lU,bz,q];rfl
theorem zQ {ρ:cK} {ps:cM} (h:Nat.ble ps.length 900=true):(zv ρ [] ps).length<=16777000:=by rw[lU,bZ];exact dt (dR h) (by decide)
theorem Mx {X:Cx} {ρ:cK} {D:DS} {j k:Nat} {ps:cM} {v:DV} {e1 e2:Expr} (e:eW j D.objs=some (.list [] ps)) (q:ps[k]? =some v) (hz:Nat.ble ps.length 900=true) (hs:fm e2=true):gL X e1 e2 (.ref (dO ρ j)) (.int k) (v.to ρ) (D.to ρ):=
 ⟨λy y y y mo mi h=>PS mo (ft e) mi (AQ q) (zQ hz) h (lA hs _ _)⟩
noncomputable def Qx (a i:DV) (s:Sy):Option (RI a i s):=match i with
 | .av (.str x)=>(match a with
  | .av (.dct l)=>iC (ew (S x) l) λd e=>some ⟨.av d,s,.refl s,λy X ρ e1 e2 hs=>pH e (lA hs)⟩
  | .slot j=>iC (eW j s.D.objs) λo e=>(match o,e with
   | .dict l,e=>iC (gK (S x) l) λv q=>some ⟨v,s,.refl s,λy X ρ e1 e2 hs=>HD e q hs⟩
   | _,_=>none)
  | _=>none)
 | .av (.int k)=>(match a with
  | .av (.str x)=>(match s.o with
   | .ch c::o=>some ⟨.av (.str [c]),⟨s.D,s.n,o,(s.c/\zc x k=some c)/\x.length<=16777216⟩,⟨rfl,rfl,λc=>c.1.1⟩,λh X ρ e1 e2 hs=>y7 h.1.2 h.2 (lA hs)⟩
   | _=>none)
  | .slot j=>(match k with
   | .negSucc 0=>iC (eW j s.D.objs) λo e=>(match o,e with
    | .list l ps,e=>iC ps.getLast? λv q=>some ⟨v,s.need (l.length+ps.length<=16777000),.need _ _,λc X ρ e1 e2 hs=>De e q c.2 hs⟩
    | _,_=>none)
   | .ofNat n=>iC (eW j s.D.objs) λo e=>(match o,e with
    | .list [] ps,e=>iC ps[n]? λv q=>gd (Nat.ble ps.length 900) λhz=>some ⟨v,s,.refl s,λy X ρ e1 e2 hs=>Mx e q hz hs⟩
    | _,_=>none)
   | _=>none)
  | _=>none)
 | _=>none
structure Es (X:Cx) (a i d:AV) (σ σ':St):Prop where
 run:∀ (H:HL) va vi vd (Φ:St->Prop),(va,a)∈H->(vi,i)∈H->(vd,d)∈H->Φ σ'->WU X.B X.n X.L (setItem va vi vd) H σ Φ
structure NA (X:Cx) (a i d:AV) (σ:St):Prop where
 run:∀ (H:HL) va vi (Φ:PV),(va,a)∈H->(vi,i)∈H->(∀ v,Φ v d σ)->WV X.B X.n X.L (getItem va vi) H σ Φ
abbrev RJ (a i v:DV) (s:Sy):={l:cQ // ∀ X ρ,Es X (a.to ρ) (i.to ρ) (v.to ρ) (s.D.to ρ) ((s.objs l).D.to ρ)}
noncomputable abbrev RJ.l {i v:DV} (x:RJ a i v s):cQ:=x.1
theorem RJ.ok {i v:DV} (x:RJ a i v s):∀ X ρ,Es X (a.to ρ) (i.to ρ) (v.to ρ) (s.D.to ρ) ((s.objs x.l).D.to ρ):=x.2
theorem Dw {x:Str} {d:AV} {l:FL}:nK x d l (fT x d l):=by
 induction l with
 | nil=>exact .new
 | cons p r ih=>
  show nK x d (p::r) (if p.1==x then (x,d)::r else p::fT x d r)
  induction q:p.1==x using Bool.casesOn with
  | true=>obtain rfl:=cz q;exact .hit
  | false=>exact .skip q ih
theorem HQ {l:List (Str×DV)} {x:cF} {v:DV} (e:eW j s.D.objs=some (.dict l)) (h:Nat.ble l.length 900=true):Es X (.ref (dO ρ j)) (.str x) (v.to ρ) (s.D.to ρ) ((s.objs (lE j (.dict (tv (S x) v l)) s.D.objs)).D.to ρ):=by
 have m:=iU (ρ:=ρ) (r8:=s.D.rest) (o':=.dict (tv (S x) v l)) e
 rw[show(DO.dict (tv (S x) v l)).to ρ=.dict (fT (S x) (v.to ρ) (jD ρ l))from cB AO.dict wX]at m
 exact⟨λy y y y y ma mi md k=>B9 ma mi md Dw m (by rw[bZ];exact dR h) k⟩
theorem Hn {X:Cx} {ρ:cK} {s:Sy} {j k:Nat} {ps:cM} {v:DV} (e:eW j s.D.objs=some (.list [] ps)) (h:(Nat.blt k ps.length&&Nat.ble ps.length 900)=true):Es X (.ref (dO ρ j)) (.int k) (v.to ρ) (s.D.to ρ) ((s.objs (lE j (.list [] (ps.set k v)) s.D.objs)).D.to ρ):=by
 have m:=iU (ρ:=ρ) (r8:=s.D.rest) (o':=.list [] (ps.set k v)) e
 rw[show(DO.list [] (ps.set k v)).to ρ=.list ((zv ρ [] ps).set k (v.to ρ))from cB AO.list (by rw[lU,lU];exact List.map_set)]at m
 exact⟨λy y y y y ma mi md q=>I2 ma mi md (by rw[lU,bZ];exact mP (dE h)) (zQ (dX h)) m q⟩
def OA (a i v:DV) (s:Sy):Option (RJ a i v s):=match i with
 | .av (.str x)=>(match a with
  | .slot j=>iC (eW j s.D.objs) λo e=>(match o,e with
   | .dict l,e=>gd (Nat.ble l.length 900) λh=>some ⟨_,λX ρ=>HQ e h⟩
   | _,_=>none)
  | _=>none)
 | .av (.int (.ofNat n))=>(match a with
  | .slot j=>iC (eW j s.D.objs) λo e=>(match o,e with
   | .list [] ps,e=>gd (Nat.blt n ps.length&&Nat.ble ps.length 900) λh=>some ⟨_,λX ρ=>Hn e h⟩
   | _,_=>none)
  | _=>none)
 | _=>none
abbrev RK (a i:DV) (s:Sy):={v:DV // ∀ X ρ,NA X (a.to ρ) (i.to ρ) (v.to ρ) (s.D.to ρ)}
noncomputable abbrev RK.v {i:DV} (x:RK a i s):DV:=x.1
theorem RK.ok {i:DV} (x:RK a i s):∀ X ρ,NA X (a.to ρ) (i.to ρ) (x.v.to ρ) (s.D.to ρ):=x.2
noncomputable def PB (a i:DV) (s:Sy):Option (RK a i s):=match i with
 | .av (.str x)=>(match a with
  | .slot j=>iC (eW j s.D.objs) λo e=>(match o,e with
   | .dict l,e=>iC (gK (S x) l) λv q=>some ⟨v,λX ρ=>⟨λy y y y ma mi k=>JZ ma (ft e) mi (nR q) k⟩⟩
   | _,_=>none)
  | _=>none)
 | .av (.int (.ofNat n))=>(match a with
  | .slot j=>iC (eW j s.D.objs) λo e=>(match o,e with
   | .list [] ps,e=>iC ps[n]? λv q=>gd (Nat.ble ps.length 900) λhz=>some ⟨v,λX ρ=>⟨λy y y y ma mi k=>Mz ma (ft e) mi (AQ q) (zQ hz) k⟩⟩
   | _,_=>none)
  | _=>none)
 | _=>none
end
end
section
variable {k:Option NameKind} {x:Str} {s:Sy} {v:Value} {g:Addr} {b:Bl} {fs:List (Str×DV)} {Φ:PV} {l:cG} {ρ:cK} {ps:cM}
section
structure gn (P:Px):Prop where
 K:P.X.B.K=P.K
 kind:P.X.env.scope.kind=.function
 loc:P.X.env.locals=P.X.L
 glob:P.X.env.globals=mainGlobals
 blt:P.X.env.builtins=builtinsNs
 gl:∀ p∈P.gl,eF P.X.B (.ref p.1) p.2
 cl:∀ x i,gK x P.cl=some i->P.X.env.cells.lookup x=some (dO P.ρ i)/\i < P.ρ.length
noncomputable def Px.N (P:Px) (s:Sy):Nat:=P.ρ.length+s.n
set_option genCtorIdx true in
inductive Bl where
 | append | pop | join | count | rfind | len | ord | min | max | chr
noncomputable def Bl.id:Bl->String
 | .append=>"list.append"
 | .pop=>"list.pop"
 | .join=>"str.join"
 | .count=>"str.count"
 | .rfind=>"str.rfind"
 | .len=>"len"
 | .ord=>"ord"
 | .min=>"min"
 | .max=>"max"
 | .chr=>"chr"
inductive Ce where
 | fn (g:Addr) | bl (b:Bl)
noncomputable def Ce.val:Ce->Value
 | .fn g=>.ref g
 | .bl b=>.builtin b.id
def jI (x:Str) (b:Bl):Prop:=bootBuiltins x=some (.builtin b.id)/\x≠("__name__":Str)
theorem CM:jI "len" .len:=⟨PyProof.Rows.Boot.«len»,by refine bne_iff_ne.mp ?_;kernel_rfl⟩
theorem En:jI "ord" .ord:=⟨PyProof.Rows.Boot.«ord»,by refine bne_iff_ne.mp ?_;kernel_rfl⟩
theorem CI:jI "min" .min:=⟨PyProof.Rows.Boot.«min»,by refine bne_iff_ne.mp ?_;kernel_rfl⟩
theorem Fs:jI "chr" .chr:=⟨PyProof.Rows.Boot.«chr»,by refine bne_iff_ne.mp ?_;kernel_rfl⟩
theorem DX:jI "max" .max:=⟨PyProof.Rows.Boot.«max»,by refine bne_iff_ne.mp ?_;kernel_rfl⟩
noncomputable def qD {β:Str->Type} (x y:Str) (b:β y) (z:Option (β x)):Option (β x):=Bool.casesOn (motive:=λc=>(x==y)=c->Option (β x)) (x==y) (λw=>z) (λe=>some (cz e▸b)) rfl
noncomputable def DK (x:Str):Option {b:Bl // jI x b}:=qD (β:=λx=>{b:Bl // jI x b}) x "len" ⟨.len,CM⟩ (qD (β:=λx=>{b:Bl // jI x b}) x "ord" ⟨.ord,En⟩ (qD (β:=λx=>{b:Bl // jI x b}) x "min" ⟨.min,CI⟩ (qD (β:=λx=>{b:Bl // jI x b}) x "max" ⟨.max,DX⟩ (qD (β:=λx=>{b:Bl // jI x b}) x "chr" ⟨.chr,Fs⟩ none))))
def zL (gl:List (Addr×AV)) (a:Addr):AV:=List.rec (.lit (.ref a)) (λp y ih=>bif Nat.beq p.1 a then p.2 else ih) gl
def A5 (gl:List (Addr×AV)):Value->AV
 | .ref a=>zL gl a
 | v=>mZ v
theorem C2 {B:cX} {gl:List (Addr×AV)} (h:∀ p∈gl,eF B (.ref p.1) p.2) (a:Addr):eF B (.ref a) (zL gl a):=by
 induction gl with
 | nil=>exact eF.lit _ _
 | cons p r ih=>
  show eF B (.ref a) (bif Nat.beq p.1 a then p.2 else zL r a)
  induction q:Nat.beq p.1 a using Bool.casesOn with
  | true=>obtain rfl:=Nat.eq_of_beq_eq_true q;exact h p dH
  | false=>exact ih λp hp=>h p (.tail _ hp)
theorem C4 {B:cX} {gl:List (Addr×AV)} (h:∀ p∈gl,eF B (.ref p.1) p.2) (v:Value):eF B v (A5 gl v):=by
 rcases v with _ | _<;>first | exact C2 h _ | exact λF y=>sR _ _ _
noncomputable def nF (k:Option NameKind):Bool:=match k with
 | some .local=>true
 | _=>false
noncomputable def qf (k:Option NameKind):Bool:=match k with
 | some .globalImplicit=>true
 | _=>false
noncomputable def rn (k:Option NameKind):Bool:=match k with
 | some .cell=>true
 | _=>false
theorem tZ (h:rn k=true):k=some .cell:=by
 induction k using Option.casesOn with
 | none=>exact Bool.noConfusion h
 | some k=>rcases k with _ | _<;>first | rfl | exact Bool.noConfusion h
theorem kg (h:nF k=true):k=some .local:=by
 induction k using Option.casesOn with
 | none=>exact Bool.noConfusion h
 | some k=>rcases k with _ | _<;>first | rfl | exact Bool.noConfusion h
theorem qh (h:qf k=true):k=some .globalImplicit:=by
 induction k using Option.casesOn with
 | none=>exact Bool.noConfusion h
 | some k=>rcases k with _ | _<;>first | rfl | exact Bool.noConfusion h
noncomputable def two {α:Type} (o:Option (Option α)):Option α:=Option.casesOn o none id
theorem vF {α:Type} {o:Option (Option α)} {a:α} (h:two o=some a):o=some (some a):=by
 induction o using Option.casesOn with
 | none=>contradiction
 | some o=>exact cB some h
section
variable {P:Px} (O:gn P)
include O in
theorem JC {v:DV} (h:(!(x==("__debug__":Str))&&nF (P.X.env.kindOf x))=true) (e:two (gK x s.D.loc)=some v) (ρ:cK) (pn:Pos):Ev P.X (.Name x pn) (s.D.to ρ) (v.to ρ) (s.D.to ρ):=
 cW (uN (vF e)) O.kind (kg (dX h)) O.loc (by simpa using dE h)
include O in
theorem JM {σ:St} (h:(!(x==("__debug__":Str))&&qf (P.X.env.kindOf x))=true) (e:two (nsIn P.K mainGlobals x)=some v) (pn:Pos):Ev P.X (.Name x pn) σ (A5 P.gl v) σ:=
 ku (by rw[O.K];exact vF e) (C4 O.gl _) O.kind (qh (dX h)) O.glob (by simpa using dE h)
include O in
theorem KG {v:DV} {i:Nat} (h:(!(x==("__debug__":Str))&&rn (P.X.env.kindOf x))=true) (e:gK x P.cl=some i) (q:eW i s.D.objs=some (.cell (some v))) (as:cK) (pn:Pos):Ev P.X (.Name x pn) (s.D.to (P.ρ++as)) (v.to (P.ρ++as)) (s.D.to (P.ρ++as)):=by
 obtain⟨h1,h2⟩:=O.cl x i e;rw[<-ji (t:=as) h2]at h1
 exact⟨λy y k=>zI h1 (ft q) k O.kind (tZ (dX h)) (by simpa using dE h)⟩
abbrev Ph (P:Px) (x:Str) (s:Sy):Type:={v:DV // ∀ as pn,Ev P.X (.Name x pn) (s.D.to (P.ρ++as)) (v.to (P.ρ++as)) (s.D.to (P.ρ++as))}
def GA (x:Str) (s:Sy):Option (Ph P x s):=
 Bool.casesOn (motive:=λb=>(!(x==("__debug__":Str))&&nF (P.X.env.kindOf x))=b->Option (Ph P x s)) (!(x==("__debug__":Str))&&nF (P.X.env.kindOf x))
  (λy=>Bool.casesOn (motive:=λb=>(!(x==("__debug__":Str))&&qf (P.X.env.kindOf x))=b->Option (Ph P x s)) (!(x==("__debug__":Str))&&qf (P.X.env.kindOf x))
   (λy=>gd (!(x==("__debug__":Str))&&rn (P.X.env.kindOf x)) λh=>iC (gK x P.cl) λi e=>iC (eW i s.D.objs) λo q=>match o,q with
    | .cell (some v),q=>some ⟨v,λas pn=>KG O h e q as pn⟩
    | _,_=>none)
   (λh=>iC (two (nsIn P.K mainGlobals x)) λv e=>some ⟨.av (A5 P.gl v),λy pn=>JM O h e pn⟩) rfl)
  (λh=>iC (two (gK x s.D.loc)) λv e=>some ⟨v,λas pn=>JC O h e _ pn⟩) rfl
def DR (P:Px) (x:Str) (c:Ce):Prop:=(∀ σ pn,Do P.X (.Name x pn) σ c.val (.lit c.val))/\jf P.X c.val
include O in
theorem OK (h:(!(x==("__debug__":Str))&&qf (P.X.env.kindOf x))=true) (e:nsIn P.K mainGlobals x=some (some (.ref g))) (hk:keepIn P.K (.ref g)=true):DR P x (.fn g):=
 ⟨λσ pn=>eZ (by rw[O.K];exact e) O.kind (qh (dX h)) O.glob (by simpa using dE h),fS (by rw[O.K];exact hk)⟩
include O in
theorem MK (h:(!(x==("__debug__":Str))&&qf (P.X.env.kindOf x))=true) (e:nsIn P.K mainGlobals x=some none) (q:jI x b):DR P x (.bl b):=
 ⟨λσ pn=>eJ q.1 (by rw[O.K];exact e) O.kind (qh (dX h)) O.glob O.blt q.2 (by simpa using dE h),gt⟩
noncomputable def Q1 (x:Str):Option {c:Ce // DR P x c}:=gd (!(x==("__debug__":Str))&&qf (P.X.env.kindOf x)) λh=>iC (nsIn P.K mainGlobals x) λo e=>match o,e with
 | some (.ref g),e=>gd (keepIn P.K (.ref g)) λhk=>some ⟨.fn g,OK O h e hk⟩
 | none,e=>ob (DK x) λb=>some ⟨.bl b.1,MK O h e b.2⟩
 | _,_=>none
end
def qW (T:String) (x:Str) (b:Bl):Prop:=Slot T x b.id/\typeOf (.builtin b.id)=pure (.type "method_descriptor")
theorem BF:qW "str" "join" .join:=⟨PySem.F.slot_str_join,PySem.F.type_str_join⟩
theorem zn:qW "str" "count" .count:=⟨PySem.F.slot_str_count,PySem.F.type_str_count⟩
theorem yr:qW "str" "rfind" .rfind:=⟨PySem.F.slot_str_rfind,PySem.F.type_str_rfind⟩
theorem wf:qW "list" "append" .append:=⟨slot_list_append,type_list_append⟩
theorem Eh:qW "list" "pop" .pop:=⟨PySem.F.slot_list_pop,PySem.F.type_list_pop⟩
abbrev vS (T:String) (x:Str):Type:={b:Bl // qW T x b}
noncomputable def Fg (x:Str):Option (vS "str" x):=qD (β:=vS "str") x "join" ⟨.join,BF⟩ (qD (β:=vS "str") x "count" ⟨.count,zn⟩ (qD (β:=vS "str") x "rfind" ⟨.rfind,yr⟩ none))
noncomputable def Fh (x:Str):Option (vS "list" x):=qD (β:=vS "list") x "append" ⟨.append,wf⟩ (qD (β:=vS "list") x "pop" ⟨.pop,Eh⟩ none)
inductive PT (P:Px) (o:DV) (n5:Str) (s:Sy) where
 | cls (c:Ce) (ok:∀ ρ,lR P.X (o.to ρ) n5 c.val (s.D.to ρ)/\jf P.X c.val)
 | own (g:Addr) (j:Nat) (ok:∀ ρ,Aq P.X (o.to ρ) n5 (.meth g (dO ρ j)) (s.D.to ρ)) (hf:fnIn P.X.B.K g=true)
section
variable {P:Px} (O:gn P)
include O in
theorem Hc {i:Nat} {n5:Str} {C dx:Addr} (e:eW i s.D.objs=some (.inst C dx fs)) (q:gK n5 fs=none) (h:(gj P.K C n5 g&&keepIn P.K (.ref g))=true) (ρ:cK):lR P.X (.ref (dO ρ i)) n5 (.ref g) (s.D.to ρ)/\jf P.X (.ref g):=by
 rw[<-O.K]at h
 exact⟨wG (ft e) (mN q) (dE h),fS (dX h)⟩
noncomputable def It (o:Option (cO)):Bool:=match o with
 | some none=>true
 | _=>false
theorem DA {o:Option (cO)} (h:It o=true):o=some none:=by
 induction o using Option.casesOn with
 | none=>exact Bool.noConfusion h
 | some o=>rcases o with _ | _<;>first | rfl | exact Bool.noConfusion h
include O in
theorem HZ {i j:Nat} {n5:Str} {C dx:Addr} (e:eW i s.D.objs=some (.inst C dx fs)) (q:gK n5 fs=some (.meth g j)) (h:(ik P.K C n5&&It (findIn P.K (.ref C) n5)&&fnIn P.K g)=true) (ρ:cK):Aq P.X (.ref (dO ρ i)) n5 (.meth g (dO ρ j)) (s.D.to ρ):=by
 rw[<-O.K]at h
 exact⟨λy y y y mv k=>nD mv (ft e) (dE (dE h)) (DA (dX (dE h))) (nR q) rfl k⟩
noncomputable def Q8 (i:Nat) (n5:Str) (s:Sy) (C dx:Addr) (fs:List (Str×DV)) (e:eW i s.D.objs=some (.inst C dx fs)):Option (PT P (.slot i) n5 s):=
 Option.casesOn (motive:=λz=>gK n5 fs=z->Option (PT P (.slot i) n5 s)) (gK n5 fs)
  (λq=>ob (FK (findIn P.K (.ref C) n5)) λg=>gd (gj P.K C n5 g&&keepIn P.K (.ref g)) λh=>some (.cls (.fn g) λρ=>Hc O e q h ρ))
  (λv q=>match v,q with
   | .meth g j,q=>gd (ik P.K C n5&&It (findIn P.K (.ref C) n5)&&fnIn P.K g) λh=>some (.own g j (λρ=>HZ O e q h ρ) (by exact(O.K)▸(dX h)))
   | _,_=>none) rfl
noncomputable def Qd (o:DV) (n5:Str) (s:Sy):Option (PT P o n5 s):=match o with
 | .av (.str x)=>ob (Fg n5) λb=>some (.cls (.bl b.1) λρ=>⟨qR b.2.1 b.2.2,gt⟩)
 | .slot i=>iC (eW i s.D.objs) λo e=>(match o,e with
  | .list l ps,e=>ob (Fh n5) λb=>some (.cls (.bl b.1) λρ=>⟨Jc (ft e) b.2.1 b.2.2,gt⟩)
  | .inst C dx fs,e=>Q8 O i n5 s C dx fs e
  | _,_=>none)
 | _=>none
end
section
variable {B:cX} {n:Nat} {L:Addr} {H:HL} {σ:St}
theorem H5 {a b:Int} {w:Value} (mv:(v,.int a)∈H) (mw:(w,.int b)∈H) (h:∀ v,Φ v (.int (min a b)) σ):WV B n L (call (.builtin "min") [v,w]) H σ Φ:=d9 λA F s hA X=>by
 obtain⟨t,rfl⟩:=dk (X.hold mv);obtain⟨u,rfl⟩:=dk (X.hold mw);refine min_two_ints hA.handled λh' tk k=>di.more X k rfl rfl ?_
 by_cases q:b < a
 . exact(cE q)▸(⟨.int (min a b),by rw[Int.min_eq_right (Int.le_of_lt q)];exact .int _ _,h _⟩)
 . exact(cC q)▸(⟨.int (min a b),by rw[Int.min_eq_left (Int.not_lt.mp q)];exact .int _ _,h _⟩)
theorem KD {a b:Int} {w:Value} (mv:(v,.int a)∈H) (mw:(w,.int b)∈H) (h:∀ v,Φ v (.int (max a b)) σ):WV B n L (call (.builtin "max") [v,w]) H σ Φ:=d9 λA F s hA X=>by
 obtain⟨t,rfl⟩:=dk (X.hold mv);obtain⟨u,rfl⟩:=dk (X.hold mw);refine max_two_ints hA.handled λh' tk k=>di.more X k rfl rfl ?_
 by_cases q:b > a
 . exact(cE q)▸(⟨.int (max a b),by rw[Int.max_eq_right (Int.le_of_lt q)];exact .int _ _,h _⟩)
 . exact(cC q)▸(⟨.int (max a b),by rw[Int.max_eq_left (Int.not_lt.mp q)];exact .int _ _,h _⟩)
end
section
variable {X:Cx} {σ:St} {i j:Int}
theorem GV:eO X (.builtin "min") [.int i,.int j] σ (.int (min i j)) σ:=kZ λy y y y mv mw h=>H5 mv mw h
theorem KR:eO X (.builtin "max") [.int i,.int j] σ (.int (max i j)) σ:=kZ λy y y y mv mw h=>KD mv mw h
end
section
variable {B:cX} {n:Nat} {L:Addr} {H:HL} {σ:St} {e9:Env}
theorem HB {a:Addr} {d:AV} {v6:Value} {l8:LL} {oe o5:OL} (mv:(v6,.ref a)∈H) (md:(v,.int 0)∈H) (mo:(a,AO.list (d::l))∈oe)
 (m:oB a (.list (d::l)) (.list l) oe o5) (hz:(d::l).length<=16777216) (h:∀ v,Φ v d ⟨l8,o5⟩):WV B n L (call (.builtin "list.pop") [v6,v]) H ⟨l8,oe⟩ Φ:=
 kY (σ:=⟨l8,oe⟩) (k:=0) (i:=0) mv md (by rfl) (by unfold seqIndex?;rw[cC (show ¬ (0:Int) < 0 by simp+arith)];simp) rfl rfl m hz h
end
theorem HN {i:Nat} {d:AV} (e:eW i s.D.objs=some (.list (d::l) [])) (hz:l.length<=16777215):eO X (.builtin "list.pop") [.ref (dO ρ i),.int 0] (s.D.to ρ) d ((s.objs (lE i (.list l []) s.D.objs)).D.to ρ):=
 kZ λy y y y mv md h=>HB mv md (ft (ρ:=ρ) (r8:=s.D.rest) e) (iU (ρ:=ρ) (r8:=s.D.rest) (o':=.list l []) e) (bH hz) h
abbrev C1 (b:Bl) (vs:cM) (s:Sy):Type:={p:DV×Sy // p.2.n=s.n/\(p.2.c->s.c)/\(p.2.c->∀ X ρ,eO X (.builtin b.id) (mF ρ vs) (s.D.to ρ) (p.1.to ρ) (p.2.D.to ρ))}
noncomputable def ud {vs:cM} (v:DV) (h:∀ X ρ,eO X (.builtin b.id) (mF ρ vs) (s.D.to ρ) (v.to ρ) (s.D.to ρ)):Option (C1 b vs s):=some ⟨(v,s),rfl,id,λy=>h⟩
noncomputable def nj {vs:cM} (v:DV) (l:cQ) (q:Prop) (h:q->∀ X ρ,eO X (.builtin b.id) (mF ρ vs) (s.D.to ρ) (v.to ρ) ((s.objs l).D.to ρ)):Option (C1 b vs s):=some ⟨(v,(s.objs l).need q),rfl,And.left,λc=>h c.2⟩
theorem L0 {i:Nat} (e:eW i s.D.objs=some (.list l ps)) (h:l.length+ps.length<=16777216):eO X (.builtin "len") [.ref (dO ρ i)] (s.D.to ρ) (.int (l.length+ps.length:Nat)) (s.D.to ρ):=by
 have:=At (X:=X) (l8:=i9 ρ s.D.loc) (ft (ρ:=ρ) (r8:=s.D.rest) e) (by exact(jA)▸(h))
 rw[jA]at this
 exact this
theorem MZ {i:Nat} {d:DV} (e:eW i s.D.objs=some (.list l ps)) (hz:l.length+ps.length<=16777216):eO X (.builtin "list.append") [.ref (dO ρ i),d.to ρ] (s.D.to ρ) .none ((s.objs (lE i (.list l (ps++[d])) s.D.objs)).D.to ρ):=by
 have m:=iU (ρ:=ρ) (r8:=s.D.rest) (o':=.list l (ps++[d])) e
 rw[show(DO.list l (ps++[d])).to ρ= _ from m6]at m
 exact C6 m (by exact(jA)▸(hz))
theorem Lv {i j:Nat} {fs':FL} (e:eW j s.D.objs=some (.dict fs)) (q:oO fs=some fs') (e':eW i (rh j s.D.objs)=some (.list l ps)) (hz:l.length+ps.length<=16777216):
 eO X (.builtin "list.append") [.ref (dO ρ i),.ref (dO ρ j)] (s.D.to ρ) .none ((s.objs (lE i (.list l (ps++[.av (.dct fs')])) (rh j s.D.objs))).D.to ρ):=by
 have m:=iU (ρ:=ρ) (r8:=s.D.rest) (o':=.list l (ps++[.av (.dct fs')])) e'
 rw[show(DO.list l (ps++[.av (.dct fs')])).to ρ= _ from m6]at m
 have tk:=By (ρ:=ρ) (r8:=s.D.rest) e
 rw[DO.to,re q]at tk
 exact Cj tk m (by exact(jA)▸(hz))
theorem M2 {i:Nat} {v:DV} (e:eW i s.D.objs=some (.list l ps)) (q:ps.getLast? =some v) (hz:l.length+ps.length<=16777000):eO X (.builtin "list.pop") [.ref (dO ρ i)] (s.D.to ρ) (v.to ρ) ((s.objs (lE i (.list l ps.dropLast) s.D.objs)).D.to ρ):=by
 have m:=iU (ρ:=ρ) (r8:=s.D.rest) (o':=.list l ps.dropLast) e
 obtain⟨qs,rfl⟩:=List.getLast?_eq_some_iff.mp q
 rw[show(DO.list l (qs++[v])).to ρ= _ from m6,List.dropLast_concat]at m
 rw[List.dropLast_concat];rw[bt]at hz
 exact Kh m (by rw[jA];exact dt (bo (bE _ _) _) hz)
theorem HJ {i:Nat} {l':cG} {ms:cV} (e:eW i s.D.objs=some (.list l ps)) (q:lH ps=some l') (t:dN (l++l')=some ms) (hz:ms.flatten.length<=16777216):eO X (.builtin "str.join") [.str [],.ref (dO ρ i)] (s.D.to ρ) (.str ms.flatten) (s.D.to ρ):=
 zT (ft e) (by rw[jF,mR q];exact t) hz
def LC (b:Bl) (i:Nat) (s:Sy):Option (C1 b [.slot i] s):=iC (eW i s.D.objs) λo e=>match o,e with
 | .list l ps,e=>(match b with
  | .len=>nj (.av (.int (l.length+ps.length:Nat))) s.D.objs (l.length+ps.length<=16777216) λh X ρ=>L0 e h
  | .pop=>iC ps.getLast? λv q=>nj v (lE i (.list l ps.dropLast) s.D.objs) (l.length+ps.length<=16777000) λh X ρ=>M2 e q h
  | _=>none)
 | _,_=>none
noncomputable def PO (b:Bl) (x:cF) (s:Sy):Option (C1 b [.av (.str x)] s):=match b with
 | .len=>nj (.av (.int x.length)) s.D.objs (x.length<=16777216) λh X ρ=>oZ h
 | .ord=>(match x with
  | [c]=>ud (.av (.int c)) λX ρ=>Nu
  | _=>none)
 | _=>none
def Mi (i:Nat) (d:DV) (s:Sy):Option (C1 .append [.slot i,d] s):=iC (eW i s.D.objs) λo e=>match o,e with
 | .list l ps,e=>nj (.av .none) (lE i (.list l (ps++[d])) s.D.objs) (l.length+ps.length<=16777216) λh X ρ=>MZ e h
 | _,_=>none
def R4 (i j:Nat) (s:Sy) (fs:List (Str×DV)) (e:eW j s.D.objs=some (.dict fs)):Option (C1 .append [.slot i,.slot j] s):=iC (oO fs) λfs' q=>iC (eW i (rh j s.D.objs)) λo e'=>match o,e' with
 | .list l ps,e'=>nj (.av .none) (lE i (.list l (ps++[.av (.dct fs')])) (rh j s.D.objs)) (l.length+ps.length<=16777216) λh X ρ=>Lv e q e' h
 | _,_=>none
def Q9 (b:Bl) (x y:DV) (s:Sy):Option (C1 b [x,y] s):=match b with
 | .append=>(match x with
  | .slot i=>(match y with
   | .slot j=>iC (eW j s.D.objs) λo e=>(match o,e with
    | .dict fs,e=>R4 i j s fs e
    | _,_=>Mi i (.slot j) s)
   | d=>Mi i d s)
  | _=>none)
 | .min=>(match x,y with
  | .av (.int i),.av (.int j)=>ud (.av (.int (Min.min i j))) λX ρ=>GV
  | _,_=>none)
 | .max=>(match x,y with
  | .av (.int i),.av (.int j)=>ud (.av (.int (Max.max i j))) λX ρ=>KR
  | _,_=>none)
 | .pop=>(match x with
  | .slot i=>(match y with
   | .av (.int (.ofNat 0))=>iC (eW i s.D.objs) λo e=>(match o,e with
    | .list (d::l) [],e=>nj (.av d) (lE i (.list l []) s.D.objs) (l.length<=16777215) λh X ρ=>HN e h
    | _,_=>none)
   | _=>none)
  | _=>none)
 | .join=>(match x with
  | .av (.str [])=>(match y with
   | .slot i=>iC (eW i s.D.objs) λo e=>(match o,e with
    | .list l ps,e=>iC (lH ps) λl' q=>iC (dN (l++l')) λms t=>nj (.av (.str ms.flatten)) s.D.objs (ms.flatten.length<=16777216) λh X ρ=>HJ e q t h
    | _,_=>none)
   | _=>none)
  | _=>none)
 | _=>none
noncomputable def OM (b:Bl) (x y z w:DV) (s:Sy):Option (C1 b [x,y,z,w] s):=match x,y,z,w with
 | .av (.str x),.av (.str [c]),.av (.int (.ofNat 0)),.av (.int i)=>(match b with
  | .count=>ud (.av (.int (fO c x i))) λX ρ=>D6
  | .rfind=>ud (.av (.int (iz c x i))) λX ρ=>E0
  | _=>none)
 | _,_,_,_=>none
noncomputable def PH (b:Bl) (i:Int) (s:Sy):Option (C1 b [.av (.int i)] s):=match b with
 | .chr=>nj (.av (.str [i.toNat])) s.D.objs (0<=i/\i<=1114111) λh X ρ=>MX h
 | _=>none
def PK (b:Bl) (vs:cM) (s:Sy):Option (C1 b vs s):=match vs with
 | [.slot i]=>LC b i s
 | [.av (.str x)]=>PO b x s
 | [.av (.int i)]=>PH b i s
 | [x,y]=>Q9 b x y s
 | [x,y,z,w]=>OM b x y z w s
 | _=>none
end
end
section
variable {a i x y:DV} {op:CmpOp} {b:Bool} {D:DS} {l:List (Str×DV)} {t e m:Expr} {b0:cH} {pn:Pos} {k:Nat} {o:List eX} {g:Addr} {vs:cM} {es:cI} {ks:List (Option Expr)}
abbrev RY (P:Px) (a i:DV) (s:Sy):=Sigma λv:DV=>{s':Sy // kU s s'/\(s'.c->∀ as,as.length=s.n->∀ e1 e2,fm e2=true->gL P.X e1 e2 (a.to (P.ρ++as)) (i.to (P.ρ++as)) (v.to (P.ρ++as)) (s.D.to (P.ρ++as)))}
noncomputable abbrev RY.v (x:RY P a i s):DV:=x.1
noncomputable abbrev RY.s' (x:RY P a i s):Sy:=x.2.1
theorem RY.A (x:RY P a i s):kU s x.s':=x.2.2.1
theorem RY.ok (x:RY P a i s):x.s'.c->∀ as,as.length=s.n->∀ e1 e2,fm e2=true->gL P.X e1 e2 (a.to (P.ρ++as)) (i.to (P.ρ++as)) (x.v.to (P.ρ++as)) (s.D.to (P.ρ++as)):=x.2.2.2
abbrev RX (P:Px) (op:CmpOp) (a b:DV) (s:Sy):=Sigma λr:DB=>{s':Sy // kU s s'/\(s'.c->∀ as,as.length=s.n->fW P.X op (a.to (P.ρ++as)) (b.to (P.ρ++as)) r.val (s.D.to (P.ρ++as)))}
noncomputable abbrev RX.r {b:DV} (x:RX P op a b s):DB:=x.1
noncomputable abbrev RX.s' {b:DV} (x:RX P op a b s):Sy:=x.2.1
theorem RX.A {b:DV} (x:RX P op a b s):kU s x.s':=x.2.2.1
theorem RX.ok {b:DV} (x:RX P op a b s):x.s'.c->∀ as,as.length=s.n->fW P.X op (a.to (P.ρ++as)) (b.to (P.ρ++as)) x.r.val (s.D.to (P.ρ++as)):=x.2.2.2
section
variable {P:Px} {s s':Sy} {as bs:cK}
theorem mz {α:Type} {f:cK->α} {n:Nat} (h:∀ ρ t:cK,ρ.length=n->f (ρ++t)=f ρ) (hn:P.N s=n) (ha:as.length=s.n) (hp:as <+:bs):f (P.ρ++bs)=f (P.ρ++as):=by
 obtain⟨t,rfl⟩:=hp;rw[<-bB];exact h _ _ (by rw[bt,ha];exact hn)
theorem f9 {v:DV} (h:v.bel (P.N s)=true) (ha:as.length=s.n) (hp:as <+:bs):v.to (P.ρ++bs)=v.to (P.ρ++as):=mz (f:=λρ=>v.to ρ) (λρ t e=>DV.to_app (by rw[e];exact h)) rfl ha hp
theorem GI {l:cU} (h:AT (P.N s) l=true) (ha:as.length=s.n) (hp:as <+:bs):i9 (P.ρ++bs) l=i9 (P.ρ++as) l:=mz (f:=λρ=>i9 ρ l) (λρ t e=>ru (by rw[e];exact h)) rfl ha hp
theorem PA (h:D.bel (P.N s)=true) (ha:as.length=s.n) (hp:as <+:bs):D.to (P.ρ++bs)=D.to (P.ρ++as):=mz (f:=λρ=>D.to ρ) (λρ t e=>DS.to_app (by rw[e];exact h)) rfl ha hp
theorem PM (h:(l.all λp=>p.2.bel (P.N s))=true) (ha:as.length=s.n) (hp:as <+:bs):jD (P.ρ++bs) l=jD (P.ρ++as) l:=mz (f:=λρ=>jD ρ l) (λρ t e=>oM (by rw[e];exact h)) rfl ha hp
theorem Q5 {l:cM} (h:l.all (DV.bel (P.N s))=true) (ha:as.length=s.n) (hp:as <+:bs):mF (P.ρ++bs) l=mF (P.ρ++as) l:=mz (f:=λρ=>mF ρ l) (λρ t e=>xm (by rw[e];exact h)) rfl ha hp
end
structure SV (P:Px) (e:Expr) (s:Sy) (v:DV) (s':Sy):Prop where
 c:s'.c->s.c
 run:s'.c->∀ as,as.length=s.n->∀ (H:HL) (Φ:PV),(∀ w bs,bs.length=s'.n->as <+:bs->Φ w (v.to (P.ρ++bs)) (s'.D.to (P.ρ++bs)))->WV P.X.B P.X.n P.X.L (eval e P.X.env) H (s.D.to (P.ρ++as)) Φ
structure ST (P:Px) (e:Expr) (s:Sy) (b:Bool) (s':Sy):Prop where
 c:s'.c->s.c
 run:s'.c->∀ as,as.length=s.n->∀ (H:HL) (Φ:Bool->St->Prop),(∀ bs,bs.length=s'.n->as <+:bs->Φ b (s'.D.to (P.ρ++bs)))->WB P.X.B P.X.n P.X.L (isTrue e P.X.env (eval e P.X.env)) H (s.D.to (P.ρ++as)) Φ
structure SX (P:Px) (st:Stmt) (s:Sy) (f:DF) (s':Sy):Prop where
 c:s'.c->s.c
 run:s'.c->∀ as,as.length=s.n->∀ (H:HL) (Φ:PF),(∀ bs,bs.length=s'.n->as <+:bs->Φ (f.to (P.ρ++bs)) (s'.D.to (P.ρ++bs)))->WF P.X.B P.X.n P.X.L (exec st P.X.env) H (s.D.to (P.ρ++as)) Φ
structure SL (P:Px) (es:cI) (s:Sy) (vs:cM) (s':Sy):Prop where
 c :s'.c->s.c
 run:s'.c->∀ as,as.length=s.n->∀ pn (H:HL) (Φ:cJ->cG->St->Prop),(∀ ws bs,ws.length=vs.length->bs.length=s'.n->as <+:bs->Φ ws (mF (P.ρ++bs) vs) (s'.D.to (P.ρ++bs)))->
  WL P.X.B P.X.n P.X.L (spliced (backTo pn (starEach es P.X.env))) H (s.D.to (P.ρ++as)) Φ
structure SD (P:Px) (ks:List (Option Expr)) (es:cI) (s:Sy) (l:List (Str×DV)) (s':Sy):Prop where
 c:s'.c->s.c
 len:l.length=es.length
 zip:∀ pn,(evalEachOpt ks P.X.env).zip ((evalEach es P.X.env).map λv=>do let x <-v;standAt pn;pure x)=(eB P.X.env pn ks es).map λp=>(some p.1,p.2)
 plen:∀ pn,(eB P.X.env pn ks es).length=es.length
 run:s'.c->∀ as,as.length=s.n->∀ pn (H:HL) (Φ:FL->St->Prop),(∀ bs,bs.length=s'.n->as <+:bs->Φ (jD (P.ρ++bs) l) (s'.D.to (P.ρ++bs)))->WD P.X.B P.X.n P.X.L (evalPairs (eB P.X.env pn ks es)) H (s.D.to (P.ρ++as)) Φ
structure SP (P:Px) (e:Option Expr) (s:Sy) (v:DV) (s':Sy):Prop where
 c:s'.c->s.c
 run:s'.c->∀ as,as.length=s.n->∀ (H:HL) (Φ:PV),(∀ w bs,bs.length=s'.n->as <+:bs->Φ w (v.to (P.ρ++bs)) (s'.D.to (P.ρ++bs)))->WV P.X.B P.X.n P.X.L (evalPart e P.X.env) H (s.D.to (P.ρ++as)) Φ
structure SA (P:Px) (op:BoolOp) (es:cI) (s:Sy) (b:Bool) (s':Sy):Prop where
 c:s'.c->s.c
 run:s'.c->∀ as,as.length=s.n->∀ (H:HL) (Φ:Bool->St->Prop),(∀ bs,bs.length=s'.n->as <+:bs->Φ b (s'.D.to (P.ρ++bs)))->WB P.X.B P.X.n P.X.L (allTrue op es P.X.env) H (s.D.to (P.ρ++as)) Φ
structure SB (P:Px) (ss:cH) (s:Sy) (f:DF) (s':Sy):Prop where
 c:s'.c->s.c
 run:s'.c->∀ as,as.length=s.n->∀ (H:HL) (Φ:PF),(∀ bs,bs.length=s'.n->as <+:bs->Φ (f.to (P.ρ++bs)) (s'.D.to (P.ρ++bs)))->WF P.X.B P.X.n P.X.L (execs ss P.X.env) H (s.D.to (P.ρ++as)) Φ
structure SC (P:Px) (f:Value) (vs:cM) (s:Sy) (v:DV) (s':Sy):Prop where
 c :s'.c->s.c
 run:s'.c->∀ as,as.length=s.n->∀ (H:HL) ws (Φ:PV),ws.length=vs.length->(∀ p∈ws.zip (mF (P.ρ++as) vs),p∈H)->(∀ w bs,bs.length=s'.n->as <+:bs->Φ w (v.to (P.ρ++bs)) (s'.D.to (P.ρ++bs)))->
  WV P.X.B P.X.n P.X.L (call f ws) H (s.D.to (P.ρ++as)) Φ
structure SK (P:Px) (g:Addr) (vs:cM) (s:Sy) (v:DV) (s':Sy):Prop where
 c:s'.c->s.c
 ok:∃ m,m<=P.X.n/\(s'.c->∀ as,as.length=s.n->cY P.X.B m g (mF (P.ρ++as) vs) (dC (P.ρ++as) s.D.rest s.D.objs) λd o=>∃ bs,bs.length=s'.n/\as <+:bs/\d=v.to (P.ρ++bs)/\(⟨i9 (P.ρ++as) s.D.loc,o⟩:St)=s'.D.to (P.ρ++bs))
structure SG (P:Px) (t:Expr) (v:DV) (s s':Sy):Prop where
 c :s'.c->s.c
 n :s'.n=s.n
 run:s'.c->∀ as,as.length=s.n->∀ (H:HL) w (Φ:St->Prop),(w,v.to (P.ρ++as))∈H->Φ (s'.D.to (P.ρ++as))->WU P.X.B P.X.n P.X.L (assign t P.X.env w) H (s.D.to (P.ρ++as)) Φ
 stm:∀ e pn,(∀ t l,swapsWith e t l P.X.env=pure false)->s'.c->∀ (H:HL) (σ:St) (Φ:PF),
  WV P.X.B P.X.n P.X.L (eval e P.X.env) H σ (λw d a1=>∃ bs,bs.length=s.n/\d=v.to (P.ρ++bs)/\a1=s.D.to (P.ρ++bs)/\Φ .next (s'.D.to (P.ρ++bs)))->WF P.X.B P.X.n P.X.L (exec (.Assign [t] e pn) P.X.env) H σ Φ
def JW (X:Cx) (t:Expr) (b0:cH) (H:HL) (Φ:PF) (k:Nat):St->Prop:=
 Nat.rec (λσ=>WB X.B X.n X.L (isTrue t X.env (eval t X.env)) H σ λb a1=>(b=false/\Φ .next a1)\/(b=true/\WF X.B X.n X.L (execs b0 X.env) H a1 λf a2=>f=.brk/\Φ .next a2))
  (λy ih σ=>WB X.B X.n X.L (isTrue t X.env (eval t X.env)) H σ λb a1=>b=true/\WF X.B X.n X.L (execs b0 X.env) H a1 λf a2=>(f=.next\/f=.cont)/\ih a2) k
theorem BW {X:Cx} {H:HL} {Φ:PF} {σ:St} (h:JW X t b0 H Φ k σ):WF X.B X.n X.L (exec (.While t b0 [] pn) X.env) H σ Φ:=
 sL (λk σ=>JW X t b0 H Φ k σ) k h λk σ w=>by
  cases k with
  | zero=>exact gC w λb a1 z=>z.elim (λ⟨e,q⟩=>⟨λe'=>(nomatch e.symm.trans e'),λy=>q⟩) λ⟨e,q⟩=>⟨λy=>sK q λf a2 ⟨e,q⟩=>by subst e;exact q,λe'=>(nomatch e.symm.trans e')⟩
  | succ k=>exact gC w λb a1 ⟨e,q⟩=>⟨λy=>sK q λf a2 ⟨e,q⟩=>by rcases e with rfl | rfl<;>exact⟨k,bQ _,q⟩,λe'=>(nomatch e.symm.trans e')⟩
structure SW (P:Px) (t:Expr) (b0:cH) (s s':Sy):Prop where
 c:s'.c->s.c
 run:s'.c->∃ k,∀ as,as.length=s.n->∀ (H:HL) (Φ:PF),(∀ bs,bs.length=s'.n->as <+:bs->Φ .next (s'.D.to (P.ρ++bs)))->JW P.X t b0 H Φ k (s.D.to (P.ρ++as))
section
variable {P:Px} (O:gn P) {s s' s1 s2 s3 s4:Sy}
theorem JP (a:ST P t s false s'):SW P t b0 s s':=⟨a.c,λc=>⟨0,λas ha H Φ k=>a.run c as ha H _ λbs hb pb=>.inl ⟨rfl,k bs hb pb⟩⟩⟩
theorem I8 (a:ST P t s true s1) (b:SB P b0 s1 .brk s'):SW P t b0 s s':=⟨λc=>a.c (b.c c),λc=>⟨0,λas ha H Φ k=>a.run (b.c c) as ha H _ λbs hb pb=>.inr ⟨rfl,b.run c bs hb H _ λcs hc pc=>⟨rfl,k cs hc (pb.trans pc)⟩⟩⟩⟩
theorem Fy {f:DF} (hf:f=.next\/f=.cont) (a:ST P t s true s1) (b:SB P b0 s1 f s2) (w:SW P t b0 s2 s'):SW P t b0 s s':=⟨λc=>a.c (b.c (w.c c)),λc=>by
 obtain⟨n,w'⟩:=w.run c;refine⟨n+1,λas ha H Φ k=>a.run (b.c (w.c c)) as ha H _ λbs hb pb=>⟨rfl,b.run (w.c c) bs hb H _ λcs hc pc=>⟨?_,w' cs hc H Φ λds hd pd=>k ds hd ((pb.trans pc).trans pd)⟩⟩⟩
 rcases hf with rfl | rfl
 . exact .inl rfl
 . exact .inr rfl⟩
theorem C9 (w:SW P t b0 s s'):SX P (.While t b0 [] pn) s .next s':=⟨w.c,λc as ha H Φ k=>by
 obtain⟨n,w'⟩:=w.run c;exact BW (w' as ha H Φ k)⟩
theorem SV.of {v:DV} (hn:s'.n=s.n) (hc:s'.c->s.c) (h:s'.c->∀ as,Ev P.X e (s.D.to (P.ρ++as)) (v.to (P.ρ++as)) (s'.D.to (P.ρ++as))):SV P e s v s':=
 ⟨hc,λc as ha H Φ k=>(h c _).run H Φ λw=>k w as (ha.trans hn.symm) (bF _)⟩
noncomputable def Sy.exE (P:Px) (e:Expr) (s:Sy) (k:Nat) (v:DV) (D:DS) (o:List eX):Sy:=⟨D,s.n+k,o,s.c/\wy s.n λas=>Bs P.X e (s.D.to (P.ρ++as)) λd σ'=>Cq k λbs=>d=v.to (P.ρ++(as++bs))/\σ'=D.to (P.ρ++(as++bs))⟩
noncomputable def Sy.exS (P:Px) (st:Stmt) (s:Sy) (k:Nat) (D:DS) (o:List eX):Sy:=⟨D,s.n+k,o,s.c/\wy s.n λas=>Cn P.X st (s.D.to (P.ρ++as)) λf σ'=>f=.next/\Cq k λbs=>σ'=D.to (P.ρ++(as++bs))⟩
noncomputable def Sy.cal (P:Px) (g:Addr) (vs:cM) (s:Sy) (k:Nat) (v:DV) (oe:cQ) (r8:OL) (m:Nat) (o:List eX):Sy:=⟨⟨s.D.loc,oe,r8⟩,s.n+k,o,s.c/\wy s.n λas=>cY P.X.B m g (mF (P.ρ++as) vs) (dC (P.ρ++as) s.D.rest s.D.objs) λd o=>Cq k λbs=>d=v.to (P.ρ++(as++bs))/\o=dC (P.ρ++(as++bs)) r8 oe⟩
noncomputable def Sy.calS (P:Px) (g:Addr) (vs:cM) (s:Sy) (v:DV) (new:cQ) (m:Nat) (o:List eX):Sy:=⟨⟨s.D.loc,new++s.D.objs.drop new.length,s.D.rest⟩,s.n,o,s.c/\wy s.n λas=>∀ R:OL,cY P.X.B m g (mF (P.ρ++as) vs) (dC (P.ρ++as) R (s.D.objs.take new.length)) λd o=>d=v.to (P.ρ++as)/\o=dC (P.ρ++as) R new⟩
theorem oV {ρ:cK} {R:OL} {a b:cQ}:dC ρ R (a++b)=dC ρ (dC ρ R b) a:=by
 unfold dC;rw[bV,bB]
theorem Pb {v:DV} {m:Nat} {new:cQ} (h:Nat.ble m P.X.n=true):SK P g vs s v (s.calS P g vs v new m o):=
 ⟨And.left,_,dR h,λc as ha=>by
  have w:=kM c.2 as ha (dC (P.ρ++as) s.D.rest (s.D.objs.drop new.length))
  rw[<-oV,List.take_append_drop]at w
  refine w.mono λd o q=>⟨as,ha,bF _,q.1,?_⟩
  rw[q.2,<-oV];rfl⟩
theorem Me {v:DV}:SV P e s v (s.exE P e k v D o):=
 ⟨And.left,λc as ha H Φ k=>(kM c.2 as ha).run H Φ λw d σ' q=>by
  refine kW (vZ q) ?_;rintro bs hl e1 e2
  subst e1 e2
  exact k w (as++bs) (by rw[bt,ha,hl];rfl) (bu _ _)⟩
theorem OC {st:Stmt}:SX P st s .next (s.exS P st k D o):=
 ⟨And.left,λc as ha H Φ k=>(kM c.2 as ha).run H Φ λf σ' q=>by
  obtain⟨e1,q⟩:=q;refine dQ (vZ q) ?_;rintro bs hl e2
  subst e1 e2
  exact k (as++bs) (by rw[bt,ha,hl];rfl) (bu _ _)⟩
theorem LT {v:DV} {m:Nat} {oe:cQ} {r8:OL} (h:(Nat.ble m P.X.n&&(Nat.beq k 0||AT (P.N s) s.D.loc))=true):
 SK P g vs s v (s.cal P g vs k v oe r8 m o):=
 ⟨And.left,_,dR (dE h),λc as ha=>(kM c.2 as ha).mono λd o q=>by
  refine kW (vZ q) ?_;rintro bs hl e1 e2
  refine⟨as++bs,by rw[bt,ha,hl];rfl,bu _ _,e1,?_⟩
  subst e2;refine cB (λz=>St.mk z _) ?_
  rcases Bool.or_eq_true_iff.mp (dX h)with hk | hk
  . obtain rfl:=Nat.eq_of_beq_eq_true hk
    rw[b7 hl,bX];rfl
  . exact(GI hk ha (bu _ _)).symm⟩
theorem JV {v:DV} (h:SK P g vs s v s'):SC P (.ref g) vs s v s':=by
 obtain⟨hc,m,hm,w⟩:=h;refine⟨hc,λc as ha H ws Φ hl hp k=>nW (w c as ha) hm (by rw[bZ];exact hl) hp λd o q w=>?_⟩
 refine Lc (q) ?_;clear q;rintro bs h1 h2 e1 e2
 rw[e1,e2];exact k w bs h1 h2
theorem Ip {b:Bl} (p:C1 b vs s):SC P (.builtin b.id) vs s p.1.1 p.1.2:=
 ⟨p.2.2.1,λc as ha H ws Φ hl hp k=>(p.2.2.2 c _ _).run H ws Φ (by rw[bZ];exact hl) hp λw=>k w as (ha.trans p.2.1.symm) (bF _)⟩
theorem Jk:SL P [] s [] s:=⟨id,λc as ha pn H Φ k=>wY (k [] as rfl ha (bF _))⟩
theorem EB {v:DV} (hs:fB e=true) (a:SV P e s v s1) (hb:v.bel (P.N s1)=true) (b:SL P es s1 vs s'):SL P (e::es) s (v::vs) s':=
 ⟨λc=>a.c (b.c c),λc as ha pn H Φ k=>xy (a.run (b.c c) as ha H _ λw bs aA pb=>b.run c bs aA pn _ _ λws cs hl hc pc=>f9 hb aA pc▸k (w::ws) cs (cB (·+1) hl) hc (pb.trans pc)) (nY hs)⟩
theorem IU:SD P [] [] s [] s:=⟨id,rfl,λy=>rfl,λy=>rfl,λc as ha pn H Φ k=>N4 (k as ha (bF _))⟩
theorem DG {x:Str} {kk kp} {v:DV} (a:SV P e s v s1) (hb:v.bel (P.N s1)=true) (b:SD P ks es s1 l s'):SD P (some (.Constant (.str x) kk kp)::ks) (e::es) s ((x,v)::l) s':=
 ⟨λc=>a.c (b.c c),cB (·+1) b.len,λpn=>cB (List.cons _) (b.zip pn),λpn=>cB (·+1) (b.plen pn),λc as ha pn H Φ k=>Jo (a.run (b.c c) as ha H _ λw bs aA pb=>b.run c bs aA pn _ _ λcs hc pc=>f9 hb aA pc▸k cs hc (pb.trans pc))⟩
theorem Cz:SP P none s (.av .none) s:=⟨id,λc as ha H Φ k=>yk (k _ as ha (bF _))⟩
theorem Ed {v:DV} (a:SV P e s v s'):SP P (some e) s v s':=⟨a.c,λc as ha H Φ k=>wW (a.run c as ha H Φ k)⟩
theorem Ei:SA P .And [] s true s:=⟨id,λc as ha H Φ k=>tK (k as ha (bF _))⟩
theorem Ec:SA P .Or [] s false s:=⟨id,λc as ha H Φ k=>xu (k as ha (bF _))⟩
theorem Ku (a:ST P e s true s1) (w:SA P .And es s1 b s'):SA P .And (e::es) s b s':=
 ⟨λc=>a.c (w.c c),λc as ha H Φ k=>jl (a.run (w.c c) as ha H _ λbs hb pb=>⟨λy=>w.run c bs hb H Φ λcs hc pc=>k cs hc (pb.trans pc),nofun⟩)⟩
theorem HK (a:ST P e s false s'):SA P .And (e::es) s false s':=
 ⟨a.c,λc as ha H Φ k=>jl (a.run c as ha H _ λbs hb pb=>⟨nofun,λy=>k bs hb pb⟩)⟩
theorem Ke (a:ST P e s false s1) (w:SA P .Or es s1 b s'):SA P .Or (e::es) s b s':=
 ⟨λc=>a.c (w.c c),λc as ha H Φ k=>lX (a.run (w.c c) as ha H _ λbs hb pb=>⟨nofun,λy=>w.run c bs hb H Φ λcs hc pc=>k cs hc (pb.trans pc)⟩)⟩
theorem Dc (a:ST P e s true s'):SA P .Or (e::es) s true s':=
 ⟨a.c,λc as ha H Φ k=>lX (a.run c as ha H _ λbs hb pb=>⟨λy=>k bs hb pb,nofun⟩)⟩
theorem Je (a:ST P e s b s'):ST P (.UnaryOp .Not e pn) s (!b) s':=⟨a.c,λc as ha H Φ k=>GF (a.run c as ha H _ k)⟩
theorem K0 (a:SA P .And (e::es) s b s'):ST P (.BoolOp .And (e::es) pn) s b s':=⟨a.c,λc as ha H Φ k=>FF (a.run c as ha H Φ k)⟩
theorem Lp (a:SA P .Or (e::es) s b s'):ST P (.BoolOp .Or (e::es) pn) s b s':=⟨a.c,λc as ha H Φ k=>Md (a.run c as ha H Φ k)⟩
noncomputable def Sy.exI (P:Px) (a i:DV) (s:Sy) (d:AV) (o:List eX):Sy:=⟨s.D,s.n,o,s.c/\wy s.n λas=>∀ X:Cx,X.B=P.X.B->∀ e1 e2,fm e2=true->gL X e1 e2 (a.to (P.ρ++as)) (i.to (P.ρ++as)) d (s.D.to (P.ρ++as))⟩
noncomputable def Sy.exC (P:Px) (op:CmpOp) (a b:DV) (s:Sy) (c:Bool) (o:List eX):Sy:=⟨s.D,s.n,o,s.c/\wy s.n λas=>∀ X:Cx,X.B=P.X.B->fW X op (a.to (P.ρ++as)) (b.to (P.ρ++as)) c (s.D.to (P.ρ++as))⟩
theorem HI {l:Expr} (hs:lk m=true) (a:SV P l s x s1) (hb:x.bel (P.N s1)=true) (d:SV P m s1 y s2) (z:RX P op x y s2) (w:RD z.r z.s'):ST P (.Compare l [op] [m] pn) s w.b w.s':=
 ⟨λc=>a.c (d.c (z.A.c (w.A.c c))),λc as ha H Φ k=>qV (a.run (d.c (z.A.c (w.A.c c))) as ha H _ λu bs aA pb=>d.run (z.A.c (w.A.c c)) bs aA _ _ λv cs hc pc=>by
  have z':=z.ok (w.A.c c) cs hc
  rw[f9 hb aA pc]at z'
  refine z'.run _ _ _ _ mH gA λv=>⟨_,rfl,?_⟩
  rw[w.ok c,<-z.A.D,<-w.A.D];exact k cs (hc.trans (w.A.n.trans z.A.n).symm) (pb.trans pc)) (sD hs)⟩
theorem H3 (hs:BX e=true) (a:SV P e s x s1) (t:RT x s1) (w:RD t.r t.s'):ST P e s w.b w.s':=
 ⟨λc=>a.c (t.A.c (w.A.c c)),λc as ha H Φ k=>sS (a.run (t.A.c (w.A.c c)) as ha H _ λu bs aA pb=>(t.ok (w.A.c c) _ _).run _ _ Φ gA (by
  rw[w.ok c,<-t.A.D,<-w.A.D];exact k bs (aA.trans (w.A.n.trans t.A.n).symm) pb)) (CK hs)⟩
theorem EA {a:Str} {i:Nat} {s1:Sy} (O:gn P) (hs:ke e=true) (h:SV P e s (.slot i) s1) (g:RG P.K i a s1):SV P (.Attribute e a pn) s g.v s1:=
 ⟨h.c,λc as ha H Φ k=>L6 (h.run c as ha H _ λu bs aA pb=>(g.ok P.X O.K _).run _ _ _ gA λw=>k w bs aA pb) (DW hs)⟩
theorem Hd {l:Expr} (hs:lk m=true) (a:SV P l s x s1) (hb:x.bel (P.N s1)=true) (d:SV P m s1 y s2) (z:RX P op x y s2):SV P (.Compare l [op] [m] pn) s (.av (.bool z.r.val)) z.s':=
 ⟨λc=>a.c (d.c (z.A.c c)),λc as ha H Φ k=>rA (a.run (d.c (z.A.c c)) as ha H _ λu bs aA pb=>d.run (z.A.c c) bs aA _ _ λv cs hc pc=>by
  have z':=z.ok c cs hc
  rw[f9 hb aA pc]at z'
  exact z'.run _ _ _ _ mH gA λw=>z.A.D▸k w cs (hc.trans z.A.n.symm) (pb.trans pc)) (sD hs)⟩
theorem K7 {l:Expr} {op:Operator} (a:SV P l s x s1) (hb:x.bel (P.N s1)=true) (d:SV P m s1 y s2) (z:RB op x y s2):SV P (.BinOp l op m pn) s z.v z.s':=
 ⟨λc=>a.c (d.c (z.A.c c)),λc as ha H Φ k=>xe (a.run (d.c (z.A.c c)) as ha H _ λu bs aA pb=>d.run (z.A.c c) bs aA _ _ λv cs hc pc=>by
  have z':=(z.ok c P.X (s2.D.to (P.ρ++cs)) (P.ρ++cs)).1
  rw[f9 hb aA pc]at z'
  exact z'.run _ _ _ _ mH gA λw=>z.A.D▸k w cs (hc.trans z.A.n.symm) (pb.trans pc))⟩
theorem HH (a:SV P e s x s1) (t:RT x s1):SV P (.UnaryOp .Not e pn) s (.av (.bool !t.r.val)) t.s':=
 ⟨λc=>a.c (t.A.c c),λc as ha H Φ k=>MY (a.run (t.A.c c) as ha H _ λu bs aA pb=>(t.ok c _ _).run _ _ _ gA (t.A.D▸k _ bs (aA.trans t.A.n.symm) pb))⟩
theorem Im {i:Int} (a:SV P e s (.av (.int i)) s'):SV P (.UnaryOp .USub e pn) s (.av (.int (-i))) s':=
 ⟨a.c,λc as ha H Φ k=>Ga (a.run c as ha H _ λu bs aA pb=>⟨_,rfl,λw=>k w bs aA pb⟩)⟩
theorem HF {x y:Expr} {v:DV} (a:ST P t s true s1) (w:SV P x s1 v s'):SV P (.IfExp t x y pn) s v s':=
 ⟨λc=>a.c (w.c c),λc as ha H Φ k=>wP (a.run (w.c c) as ha H _ λbs hb pb=>⟨λz=>w.run c bs hb H Φ λu cs hc pc=>k u cs hc (pb.trans pc),nofun⟩)⟩
theorem I5 {x y:Expr} {v:DV} (a:ST P t s false s1) (w:SV P y s1 v s'):SV P (.IfExp t x y pn) s v s':=
 ⟨λc=>a.c (w.c c),λc as ha H Φ k=>wP (a.run (w.c c) as ha H _ λbs hb pb=>⟨nofun,λz=>w.run c bs hb H Φ λu cs hc pc=>k u cs hc (pb.trans pc)⟩)⟩
theorem JD {l:cG} (a:SL P es s vs s') (q:lH vs=some l) (hz:Nat.ble l.length 16777216=true):SV P (.Tuple es k pn) s (.av (.tup l)) s':=
 ⟨a.c,λc as ha H Φ k=>xF (a.run c as ha _ _ _ λws bs hl hb pb=>by rw[mR q];exact⟨dR hz,λw=>k w bs hb pb⟩)⟩
theorem wT {B:cX} {n:Nat} {L:Addr} {H:HL} {σ:St} {t:Sem Value} {Φ:PV} (h:WV B n L t H σ λv d σ'=>∃ o5,σ'.objs.Perm o5/\Φ v d ⟨σ'.loc,o5⟩):WV B n L t H σ Φ:=
 d9 λA F s hA X=>cx (h.run A F s hA X) (λv s' z=>by
  obtain⟨F',⟨l8,oe⟩,x,p,d,hd,o5,e,q⟩:=z;exact⟨F',⟨l8,o5⟩,x.perm e,p.fewer λb hb=>(fD hb).elim (λh=>h▸.head _) λh=>.tail _ ((fC e).mem_iff.mpr h),d,hd,q⟩) λy y z=>z
noncomputable def Sy.new (P:Px) (s:Sy) (o:DO):Sy:=⟨⟨s.D.loc,s.D.objs++[(P.N s,o)],s.D.rest⟩,s.n+1,s.o,s.c⟩
theorem AC {o:DO} {bs:cK} {x:Addr} (hb:bs.length=s.n) (h:s.D.bel (P.N s)=true):dO (P.ρ++(bs++[x])) (P.N s)=x/\(s.new P o).D.to (P.ρ++(bs++[x]))=⟨i9 (P.ρ++bs) s.D.loc,s.D.objs.map (λp=>(dO (P.ρ++bs) p.1,p.2.to (P.ρ++bs)))++(x,o.to (P.ρ++(bs++[x])))::s.D.rest⟩:=by
 have hN:(P.ρ++bs).length=P.N s:=by rw[bt,hb];rfl
 have hx:dO (P.ρ++(bs++[x])) (P.N s)=x:=by rw[<-bB,<-hN];exact yO
 refine⟨hx,?_⟩
 have e:=PA (D:=⟨s.D.loc,s.D.objs,[]⟩) h hb (bu bs [x])
 rw[DS.to,DS.to,dC,dC,bX,bX]at e
 obtain⟨e1,e2⟩:=St.mk.inj e;show St.mk (i9 (P.ρ++(bs++[x])) s.D.loc) (dC (P.ρ++(bs++[x])) s.D.rest (s.D.objs++[(P.N s,o)]))= _
 rw[dC,bV,e1,e2,bB,cf,List.map_nil,hx];rfl
theorem Cw (a:SL P es s vs s1) (hz:(Nat.ble vs.length 16777216&&vs.all (DV.bel (P.N s1)))=true):SV P (.List es pn) s (.slot (P.N s1)) ((s1.need (s1.D.bel (P.N s1)=true)).new P (.list [] vs)):=
 ⟨λc=>a.c c.1,λc as ha H Φ k=>wT (vI (a.run c.1 as ha _ _ _ λws bs hl hb pb=>⟨by rw[bZ];exact dR (dE hz),λx=>by
  obtain⟨hx,hD⟩:=AC (P:=P) (s:=s1) (o:=.list [] vs) (x:=x) hb c.2
  have:=k (.ref x) (bs++[x]) (by rw[bt,hb];rfl) (pb.trans (bu _ _))
  rw[show((s1.need (s1.D.bel (P.N s1)=true)).new P (.list [] vs)).D.to (P.ρ++(bs++[x]))= _ from hD,DV.to,hx,DO.to,jF,Q5 (dX hz) hb (bu bs [x])]at this
  exact⟨_,List.perm_middle.symm,this⟩⟩))⟩
theorem Ay (a:SD P ks es s l s') (h0:Nat.ble 1 l.length=true) (pn:Pos):eB P.X.env pn ks es≠[]:=λe=>by
 have h1:1<=l.length:=dR h0
 rw[a.len,<-a.plen pn,e]at h1
 exact cD h1 (by decide)
theorem Dm {vs:List (Str×DV)} {l:FL} (a:SD P ks es s vs s') (q:oO vs=some l) (hz:(iY (l.map (·.1))&&Nat.ble 1 vs.length&&Nat.ble es.length 15)=true):SV P (.Dict ks es pn) s (.av (.dct l)) s':=
 ⟨a.c,λc as ha H Φ k=>HU (a.run c as ha _ _ _ λbs hb pb=>by rw[re q];exact⟨fQ (dE (dE hz)),λw=>k w bs hb pb⟩) (a.zip _) (Ay a (dX (dE hz)) pn) (by rw[a.plen];exact dR (dX hz))⟩
theorem B7 {lo hi:Option Expr} {p:Pos} {x:cF} {d1 d2:AV} {i j:Option Int} (a:SV P e s (.av (.str x)) s1) (b:SP P lo s1 (.av d1) s2) (d:SP P hi s2 (.av d2) s3) (e1:mn d1=some i) (e2:mn d2=some j):SV P (.Subscript e (.Slice lo hi none p) pn) s (.av (.str (sl x i j))) (s3.need (x.length<=16777216)):=
 ⟨λc=>a.c (b.c (d.c c.1)),λc as ha H Φ k=>yh (a.run (b.c (d.c c.1)) as ha H _ λu bs hb pb=>b.run (d.c c.1) bs hb _ _ λu cs hc pc=>d.run c.1 cs hc _ _ λu ds hd pd=>⟨_,_,_,rfl,e1,e2,c.2,λw=>k w ds hd ((pb.trans pc).trans pd)⟩)⟩
theorem Jl {i:Expr} (hs:fm i=true) (a:SV P e s x s1) (hb:x.bel (P.N s1)=true) (d:SV P i s1 y s2) (z:RY P x y s2):SV P (.Subscript e i pn) s z.v z.s':=
 ⟨λc=>a.c (d.c (z.A.c c)),λc as ha H Φ k=>Gd (a.run (d.c (z.A.c c)) as ha H _ λu bs aA pb=>d.run (z.A.c c) bs aA _ _ λv cs hc pc=>by
  have z':=z.ok c cs hc e i hs
  rw[f9 hb aA pc]at z'
  exact z'.run _ _ _ _ mH gA λw=>z.A.D▸k w cs (hc.trans z.A.n.symm) (pb.trans pc))⟩
theorem Ct {x:Str} {xp:Pos} {f:Ce} {v:DV} (hs:ut fB es=true) (q:DR P x f) (b:SL P es s vs s1) (w:SC P f.val vs s1 v s'):SV P (.Call (.Name x xp) es [] pn) s v s':=
 ⟨λc=>b.c (w.c c),λc as ha H Φ k=>mM ((q.1 _ xp).run _ _ (q.2.run _ _ _ _ _ _ (qw hs) (b.run (w.c c) as ha _ _ _ λws bs hl hb pb=>w.run c bs hb _ _ Φ hl (λy hp=>bh _ hp) λu cs hc pc=>k u cs hc (pb.trans pc)))) Dx⟩
theorem EU {a:Str} {ap:Pos} {o:DV} {f:Ce} {v:DV} (hs:(ke e&&ut fB es&&Nat.blt es.length 30&&(ap.endLine==pn.line))=true) (x:SV P e s o s1) (hb:o.bel (P.N s1)=true)
 (q:∀ ρ,lR P.X (o.to ρ) a f.val (s1.D.to ρ)/\jf P.X f.val) (b:SL P es s1 vs s2) (w:SC P f.val (o::vs) s2 v s'):SV P (.Call (.Attribute e a ap) es [] pn) s v s':=
 have hst:=dX (dE (dE hs))
 ⟨λc=>x.c (b.c (w.c c)),λc as ha H Φ k=>wC (x.run (b.c (w.c c)) as ha H _ λvo bs aA pb=>(q (P.ρ++bs)).1.run _ _ _ _ gA λy=>(q (P.ρ++bs)).2.run _ _ _ _ _ _ (qw hst) (b.run (w.c c) bs aA _ _ _ λws cs hl hcl pc=>
  w.run c cs hcl _ _ Φ (by rw[bt,hl,Nat.add_comm];rfl) (by rw[mF,cf,f9 hb aA pc];exact mY) λu ds hd pd=>k u ds hd ((pb.trans pc).trans pd))) (xA (dE (dE (dE hs))) hst (dX (dE hs)) (dX hs))⟩
theorem GZ {a:Str} {ap:Pos} {o:DV} {i:Nat} {v:DV} (hs:(ke e&&ut fB es&&Nat.blt es.length 30&&(ap.endLine==pn.line))=true) (x:SV P e s o s1) (hi:Nat.blt i (P.N s1)=true)
 (q :∀ ρ,Aq P.X (o.to ρ) a (.meth g (dO ρ i)) (s1.D.to ρ)) (hf:fnIn P.X.B.K g=true) (b:SL P es s1 vs s2) (w:SK P g (.slot i::vs) s2 v s'):SV P (.Call (.Attribute e a ap) es [] pn) s v s':=by
 have hst:=dX (dE (dE hs))
 obtain⟨hc,m,hm,w⟩:=w;refine⟨λc=>x.c (b.c (hc c)),λc as ha H Φ k=>?_⟩
 rw[xA (dE (dE (dE hs))) hst (dX (dE hs)) (dX hs)];refine dm (x.run (b.c (hc c)) as ha H _ λvo bs aA pb=>dr ?_)
 refine gh (dc ((q (P.ρ++bs)).run _ vo _ (λp F a2=>p.2=[]/\a2=s1.D.to (P.ρ++bs)/\Is P.X.B.P F p.1 (.meth g (dO (P.ρ++bs) i))) gA λv F hv=>⟨rfl,rfl,hv⟩)) ?_
 rintro ⟨v',fs⟩ F a2 ⟨rfl,rfl,hv⟩;refine⟨(v',.meth g (dO (P.ρ++bs) i))::(vo,o.to (P.ρ++bs))::H,λy h=>.tail _ h,λx hx=>?_,?_⟩
 . rcases fD hx with rfl | hx
   . exact .inr hv
   . exact .inl hx
 . refine xw gA hf (b.run (hc c) bs aA _ _ _ λws cs hl hcl pc=>?_) (qw hst)
   have cj:=w c cs hcl
   rw[mF,cf,f9 (v:=.slot i) hi aA pc]at cj
   refine uu (be _ gA) cj hm (by rw[bZ];exact hl) (λy hp=>bh _ hp) λd o' q' v=>?_
   refine Lc (q') ?_;clear q';rintro ds hd1' pd e1 e2
   rw[e1,e2];exact k v ds hd1' ((pb.trans pc).trans pd)
end
end
section
section
variable {P:Px} (O:gn P) {s s' s1 s2 s3 s4:Sy}
theorem vV {P:Px} (O:gn P):(P.X.env.scope.kind==.class||(P.X.env.scope.kind==.module&&P.X.env.locals !=P.X.env.globals))=false:=by rw[O.kind];rfl
theorem IC {P:Px} (O:gn P):interactive P.X.env=false:=by unfold interactive;rw[O.kind];rfl
include O in
theorem Ez {x:Str} {p:Pos} {v:DV} {l:cU} (hl:nF (P.X.env.kindOf x)=true) (q:yQ x v s.D.loc=some l):SG P (.Name x p) v s ⟨⟨l,s.D.objs,s.D.rest⟩,s.n,s.o,s.c⟩:=
 ⟨id,rfl,λc as ha H w Φ m k=>sU (pX m (rN q) k (kg hl) O.loc (vV O)),λe pn hs c H σ Φ w=>iy (dh w λx d a1 ⟨bs,hb,e1,e2,k⟩=>by
  subst e1 e2
  exact pX gA (rN q) k (kg hl) O.loc (vV O)) (hs _ _)⟩
include O in
theorem EE {x:Str} {p:Pos} {v:DV} {i:Nat} {w:Option DV} (hl:rn (P.X.env.kindOf x)=true) (e0:gK x P.cl=some i) (q:eW i s.D.objs=some (.cell w)):SG P (.Name x p) v s (s.objs (lE i (.cell (some v)) s.D.objs)):=by
 obtain⟨h1,h2⟩:=O.cl x i e0;have kc:∀ (as:cK) (H:HL) (u:Value) (Φ:St->Prop),(u,v.to (P.ρ++as))∈H->Φ ((s.objs (lE i (.cell (some v)) s.D.objs)).D.to (P.ρ++as))->WU P.X.B P.X.n P.X.L (storeName P.X.env x u) H (s.D.to (P.ρ++as)) Φ:=λas H u Φ m k=>
  AL (by rw[ji h2];exact h1) m (iU (ρ:=P.ρ++as) (r8:=s.D.rest) (o':=.cell (some v)) q) k O.kind (tZ hl)
 exact⟨id,rfl,λc as ha H w Φ m k=>sU (kc as H w Φ m k),λe pn hs c H σ Φ w=>iy (dh w λx d a1 ⟨bs,hb,e1,e2,k⟩=>by
  subst e1 e2
  exact kc bs _ _ _ gA k) (hs _ _)⟩
include O in
theorem DI {e:Expr} {a:Str} {p:Pos} {v:DV} {i:Nat} (h:SV P e s (.slot i) s1) (hn:Nat.beq s1.n s.n=true) (q:RS P.K i a v s1):SG P (.Attribute e a p) v s (s1.objs q.l):=by
 replace hn:s1.n=s.n:=Nat.eq_of_beq_eq_true hn
 refine⟨h.c,hn,λc as ha H w Φ m k=>He (h.run c as ha H _ λx bs aA pb=>?_),λe' pn hs c H σ Φ z=>ig (dh z λx d a1 ⟨as,ha,e1,e2,k⟩=>?_) (hs _ _)⟩
 . obtain rfl:=pb.eq_of_length ((ha.trans hn.symm).trans aA.symm)
   exact(q.ok P.X O.K _).run _ _ _ Φ gA (.tail _ m) k
 . subst e1 e2
   refine h.run c as ha _ _ λx bs aA pb=>?_
   obtain rfl:=pb.eq_of_length ((ha.trans hn.symm).trans aA.symm)
   exact(q.ok P.X O.K _).run _ _ _ _ gA mH k
theorem L5:SB P [] s .next s:=⟨id,λc as ha H Φ k=>G8 (k as ha (bF _))⟩
theorem Dq {st:Stmt} {ss:cH} {f:DF} (a:SX P st s .next s1) (w:SB P ss s1 f s'):SB P (st::ss) s f s':=
 ⟨λc=>a.c (w.c c),λc as ha H Φ k=>gY (a.run (w.c c) as ha H (j6 P.X.B P.X.n P.X.L ss P.X.env H Φ) λbs hb pb=>w.run c bs hb H Φ λcs hc pc=>k cs hc (pb.trans pc))⟩
theorem JF {st:Stmt} {ss:cH} (a:SX P st s .brk s'):SB P (st::ss) s .brk s':=⟨a.c,λc as ha H Φ k=>gY (a.run c as ha H (j6 P.X.B P.X.n P.X.L ss P.X.env H Φ) k)⟩
theorem Fa {st:Stmt} {ss:cH} (a:SX P st s .cont s'):SB P (st::ss) s .cont s':=⟨a.c,λc as ha H Φ k=>gY (a.run c as ha H (j6 P.X.B P.X.n P.X.L ss P.X.env H Φ) k)⟩
theorem Hm {st:Stmt} {ss:cH} {v:DV} (a:SX P st s (.ret v) s'):SB P (st::ss) s (.ret v) s':=⟨a.c,λc as ha H Φ k=>gY (a.run c as ha H (j6 P.X.B P.X.n P.X.L ss P.X.env H Φ) k)⟩
theorem Ew {pn:Pos}:SX P (.Pass pn) s .next s:=⟨id,λc as ha H Φ k=>KA (k as ha (bF _))⟩
theorem GU {pn:Pos}:SX P (.Break pn) s .brk s:=⟨id,λc as ha H Φ k=>xH (k as ha (bF _))⟩
theorem E1 {pn:Pos}:SX P (.Continue pn) s .cont s:=⟨id,λc as ha H Φ k=>wL (k as ha (bF _))⟩
theorem DT {pn:Pos}:SX P (.Return none pn) s (.ret (.av .none)) s:=⟨id,λc as ha H Φ k=>rP (k as ha (bF _))⟩
theorem GS {e:Expr} {pn:Pos} {v:DV} (a:SV P e s v s'):SX P (.Return (some e) pn) s (.ret v) s':=⟨a.c,λc as ha H Φ k=>ua (a.run c as ha H _ λw bs hb pb=>k bs hb pb)⟩
theorem Kv {t:Expr} {x y:cH} {pn:Pos} {f:DF} (a:ST P t s true s1) (w:SB P x s1 f s'):SX P (.If t x y pn) s f s':=
 ⟨λc=>a.c (w.c c),λc as ha H Φ k=>DY (a.run (w.c c) as ha H _ λbs hb pb=>⟨λz=>w.run c bs hb H Φ λcs hc pc=>k cs hc (pb.trans pc),nofun⟩)⟩
theorem Ix {t:Expr} {x y:cH} {pn:Pos} {f:DF} (a:ST P t s false s1) (w:SB P y s1 f s'):SX P (.If t x y pn) s f s':=
 ⟨λc=>a.c (w.c c),λc as ha H Φ k=>DY (a.run (w.c c) as ha H _ λbs hb pb=>⟨nofun,λz=>w.run c bs hb H Φ λcs hc pc=>k cs hc (pb.trans pc)⟩)⟩
include O in
theorem Et {e:Expr} {pn:Pos} {v:DV} (hs:jE e=true) (a:SV P e s v s'):SX P (.Expr e pn) s .next s':=⟨a.c,λc as ha H Φ k=>uY (a.run c as ha H _ λw bs hb pb=>k bs hb pb) (IC O) (nZ hs)⟩
theorem yT {t:Expr} {m pn} (a:ST P t s true s'):SX P (.Assert t m pn) s .next s':=⟨a.c,λc as ha H Φ k=>AU (a.run c as ha H _ λbs hb pb=>⟨rfl,k bs hb pb⟩)⟩
theorem Kr {t e:Expr} {pn:Pos} {v:DV} (hs:jE e=true) (a:SV P e s v s1) (b:SG P t v s1 s'):SX P (.Assign [t] e pn) s .next s':=
 ⟨λc=>a.c (b.c c),λc as ha H Φ k=>b.stm e pn (λy y=>nZ hs) c H _ Φ (a.run (b.c c) as ha H _ λw bs hb pb=>⟨bs,hb,rfl,rfl,k bs (hb.trans b.n.symm) pb⟩)⟩
theorem EX {t1 t2 e:Expr} {kk:Nat} {p pn:Pos} {d1 d2:AV} (hs:(jE e&&Ah e&&fB t1&&fB t2)=true) (a:SV P e s (.av (.tup [d1,d2])) s1) (b:SG P t1 (.av d1) s1 s2) (d:SG P t2 (.av d2) s2 s'):SX P (.Assign [.Tuple [t1,t2] kk p] e pn) s .next s':=
 ⟨λc=>a.c (b.c (d.c c)),λc as ha H Φ k=>nb (a.run (b.c (d.c c)) as ha H _ λw bs hb pb=>⟨d1,d2,rfl,λv1 v2=>b.run (d.c c) bs hb _ _ _ gA (d.run c bs (hb.trans b.n.symm) _ _ _ mH (k bs (hb.trans (b.n.symm.trans d.n.symm)) pb))⟩)
  (by rw[swapsWithSole];exact nZ (dE (dE (dE hs)))) (BR (dX (dE (dE hs)))) (by rw[Bj (dX (dE hs)),Bj (dX hs)];rfl)⟩
theorem DQ {o i e:Expr} {p pn:Pos} {v x y:DV} (hs:jE e=true) (a:SV P e s v s1) (hb1:v.bel (P.N s1)=true) (b:SV P o s1 x s2) (hb2:x.bel (P.N s2)=true) (d:SV P i s2 y s3) (q:RJ x y v s3):SX P (.Assign [.Subscript o i p] e pn) s .next (s3.objs q.l):=
 ⟨λc=>a.c (b.c (d.c c)),λc as ha H Φ k=>nh (a.run (b.c (d.c c)) as ha H _ λw bs hb pb=>b.run (d.c c) bs hb _ _ λw2 cs hc pc=>d.run c cs hc _ _ λw3 ds hd pd=>by
  have y:=q.ok P.X (P.ρ++ds)
  rw[f9 hb1 hb (pc.trans pd),f9 hb2 hc pd]at y
  exact y.run _ _ _ _ _ mH gA qB (k ds hd ((pb.trans pc).trans pd))) (nZ hs)⟩
theorem Er {t:Expr} {ks:List (Option Expr)} {es:cI} {dp pn:Pos} {l:List (Str×DV)} (a:SD P ks es s l s1) (hz:(iY (l.map (·.1))&&Nat.ble 1 l.length&&Nat.ble es.length 15&&(l.all λp=>p.2.bel (P.N s1))&&s1.D.bel (P.N s1))=true) (b:SG P t (.slot (P.N s1)) (s1.new P (.dict l)) s'):SX P (.Assign [t] (.Dict ks es dp) pn) s .next s':=
 ⟨λc=>a.c (b.c c),λc as ha H Φ k=>b.stm _ pn (λy y=>rfl) c H _ Φ (wT (Dv (a.run (b.c c) as ha _ _ _ λbs hb pb=>⟨fQ (by rw[List.map_map];exact dE (dE (dE (dE hz)))),λx=>by
  obtain⟨hx,hD⟩:=AC (P:=P) (o:=.dict l) (x:=x) hb (dX hz)
  refine⟨_,List.perm_middle.symm,bs++[x],by rw[bt,hb];rfl,cB AV.ref hx.symm,?_,k _ (by rw[bt,hb];exact b.n.symm) (pb.trans (bu _ _))⟩
  rw[hD,DO.to,PM (dX (dE hz)) hb (bu bs [x])]⟩) (a.zip _) (Ay a (dX (dE (dE (dE hz)))) dp) (by rw[a.plen];exact dR (dX (dE (dE hz))))))⟩
include O in
theorem KY {x:Str} {p pn:Pos} {op:Operator} {e:Expr} {a v:DV} {l:cU} (hl:nF (P.X.env.kindOf x)=true) (e0:two (gK x s.D.loc)=some a) (hb:a.bel (P.N s)=true) (h:SV P e s v s1) (z:RB op a v s1) (q:yQ x z.v z.s'.D.loc=some l):
 SX P (.AugAssign (.Name x p) op e pn) s .next ⟨⟨l,z.s'.D.objs,z.s'.D.rest⟩,z.s'.n,z.s'.o,z.s'.c⟩:=
 ⟨λc=>h.c (z.A.c c),λc as ha H Φ k=>A7 (AM (σ:=s.D.to _) (uN (vF e0)) (λx=>h.run (z.A.c c) as ha _ _ λy bs aA pb=>by
  have z':=(z.ok c P.X (s1.D.to (P.ρ++bs)) (P.ρ++bs)).2
  rw[f9 hb ha pb]at z'
  refine z'.run _ _ _ _ mH gA λy'=>?_
  rw[<-z.A.D];exact pX gA (rN q) (k bs (aA.trans z.A.n.symm) pb) (kg hl) O.loc (vV O)) O.kind (kg hl) O.loc)⟩
include O in
theorem Cy {o e:Expr} {a:Str} {p pn:Pos} {op:Operator} {i:Nat} {v:DV} (h:SV P o s (.slot i) s1) (hi:Nat.blt i (P.N s1)=true) (g:RG P.K i a s1) (hx:g.v.bel (P.N s1)=true) (b:SV P e s1 v s2) (z:RB op g.v v s2) (q:RS P.K i a z.v z.s'):SX P (.AugAssign (.Attribute o a p) op e pn) s .next (z.s'.objs q.l):=
 ⟨λc=>h.c (b.c (z.A.c c)),λc as ha H Φ k=>z6 (h.run (b.c (z.A.c c)) as ha H _ λwo bs hb pb=>(g.ok P.X O.K _).run _ _ _ gA λwa=>b.run (z.A.c c) bs hb _ _ λwb cs hc pc=>by
  have z':=(z.ok c P.X (s2.D.to (P.ρ++cs)) (P.ρ++cs)).2
  rw[f9 hx hb pc]at z'
  refine z'.run _ _ _ _ mH gA λwc=>?_
  have y':=q.ok P.X O.K (P.ρ++cs)
  rw[show AV.ref (dO (P.ρ++cs) i)= _ from f9 (v:=.slot i) (s:=s1) hi hb pc,z.A.D]at y'
  exact y'.run _ _ _ _ mH gA (k cs (hc.trans z.A.n.symm) (pb.trans pc)))⟩
theorem ET {o i e:Expr} {p pn:Pos} {op:Operator} {x y v:DV} (hs:fm i=true) (a:SV P o s x s1) (hb1:x.bel (P.N s1)=true) (b:SV P i s1 y s2) (hb2:y.bel (P.N s2)=true) (g:RK x y s2) (hx:g.v.bel (P.N s2)=true) (d:SV P e s2 v s3) (z:RB op g.v v s3) (q:RJ x y z.v z.s'):SX P (.AugAssign (.Subscript o i p) op e pn) s .next (z.s'.objs q.l):=
 ⟨λc=>a.c (b.c (d.c (z.A.c c))),λc as ha H Φ k=>BU (a.run (b.c (d.c (z.A.c c))) as ha H _ λwo bs hb pb=>b.run (d.c (z.A.c c)) bs hb _ _ λwi cs hc pc=>by
  have g':=g.ok P.X (P.ρ++cs)
  rw[f9 hb1 hb pc]at g'
  refine g'.run _ _ _ _ mH gA λwx=>d.run (z.A.c c) cs hc _ _ λwv ds hd pd=>?_
  have z':=(z.ok c P.X (s3.D.to (P.ρ++ds)) (P.ρ++ds)).2
  rw[f9 hx hc pd]at z'
  refine z'.run _ _ _ _ mH gA λwc=>?_
  have y':=q.ok P.X (P.ρ++ds)
  rw[f9 hb1 hb (pc.trans pd),f9 hb2 hc pd,z.A.D]at y'
  exact y'.run _ _ _ _ _ qB mH gA (k ds (hd.trans z.A.n.symm) ((pb.trans pc).trans pd))) (JH hs)⟩
end
section
abbrev VR (P:Px) (e:Expr) (s:Sy):Type:={p:DV×Sy // SV P e s p.1 p.2}
abbrev TR (P:Px) (e:Expr) (s:Sy):Type:={p:Bool×Sy // ST P e s p.1 p.2}
abbrev XR (P:Px) (st:Stmt) (s:Sy):Type:={p:DF×Sy // SX P st s p.1 p.2}
abbrev GR (P:Px) (t:Expr) (v:DV) (s:Sy):Type:={s':Sy // SG P t v s s'}
abbrev UR (P:Px) (e:Expr) (s:Sy):Type:={d:AV // ∀ as,Ev P.X e (s.D.to (P.ρ++as)) d (s.D.to (P.ρ++as))}
structure Rd (P:Px) where
 pu:∀ e s,Option (UR P e s)
 ev:∀ e s,Option (VR P e s)
 te:∀ e s,Option (TR P e s)
 ex:∀ st s,Option (XR P st s)
section
variable {P:Px} (O:gn P) (r:Rd P)
noncomputable def GE (d:AV):Option {c:Bool // d=.bool c}:=match d with
 | .bool c=>some ⟨c,rfl⟩
 | _=>none
theorem xl {e:Expr} {s:Sy} {d d':AV} (h:∀ as,Ev P.X e (s.D.to (P.ρ++as)) d (s.D.to (P.ρ++as))) (q:d=d') (as:cK):Ev P.X e (s.D.to (P.ρ++as)) d' (s.D.to (P.ρ++as)):=q▸h as
def S4 (es:cI):∀ s:Sy,Option {c:Bool // ∀ as,ON P.X es (s.D.to (P.ρ++as)) (.bool c) (s.D.to (P.ρ++as))}:=List.rec (λy=>none)
 (λe es ih s=>ob (r.pu e s) λa=>ob (GE a.1) λc=>match es,ih with
  | [],_=>some ⟨c.1,λρ=>Dt (xl a.2 c.2 ρ)⟩
  | _::_,ih=>ob (ih s) λb=>some ⟨c.1||b.1,λρ=>E7 (xl a.2 c.2 ρ) (b.2 ρ)⟩) es
def Qi (es:cI):∀ s:Sy,Option {c:Bool // ∀ as,Mu P.X es (s.D.to (P.ρ++as)) (.bool c) (s.D.to (P.ρ++as))}:=List.rec (λy=>none)
 (λe es ih s=>ob (r.pu e s) λa=>ob (GE a.1) λc=>match es,ih with
  | [],_=>some ⟨c.1,λρ=>lZ (xl a.2 c.2 ρ)⟩
  | _::_,ih=>ob (ih s) λb=>some ⟨c.1&&b.1,λρ=>kI (xl a.2 c.2 ρ) (b.2 ρ)⟩) es
def Qg (es:cI):∀ s:Sy,Option {l:cG // ∀ as,uU P.X es (s.D.to (P.ρ++as)) l (s.D.to (P.ρ++as))}:=List.rec (λs=>some ⟨[],λρ=>dD⟩)
 (λe es ih s=>gd (fB e) λhs=>ob (r.pu e s) λa=>ob (ih s) λb=>some ⟨a.1::b.1,λρ=>de (a.2 ρ) (b.2 ρ) (nY hs)⟩) es
theorem uc {op oi:CmpOp} {m x:Expr} {e9:Env} (h:lk x=true):markedEach [op,oi] [m,x] (evalEach [m,x] e9)=[eval m e9,eval x e9]:=by
 show eval m e9::[markedBehindIn oi x (eval x e9)]= _
 rw[markedBehindIn_of_false (sD h)]
def Pw (l:Expr) (ops:List CmpOp) (ms:cI) (pn:Pos) (s:Sy):Option (UR P (.Compare l ops ms pn) s):=match ops,ms with
 | [op],[m]=>gd (lk m) λhs=>ob (r.pu l s) λa=>ob (r.pu m s) λb=>ob (yq op a.1 b.1) λz=>some ⟨.bool z.r.val,λρ=>oW (a.2 ρ) (b.2 ρ) (z.ok _ _) (sD hs)⟩
 | [op,oi],[m,x]=>gd (lk x) λhs=>ob (r.pu l s) λa=>ob (r.pu m s) λb=>ob (r.pu x s) λy=>ob (yq op a.1 b.1) λz=>ob (yq oi b.1 y.1) λw=>some ⟨.bool (z.r.val&&w.r.val),λρ=>ze (a.2 ρ) (b.2 ρ) (z.ok _ _) (y.2 ρ) (w.ok _ _) (uc hs)⟩
 | _,_=>none
noncomputable def Pt (l:Expr) (op:Operator) (m:Expr) (pn:Pos) (s:Sy):Option (UR P (.BinOp l op m pn) s):=ob (r.pu l s) λa=>ob (r.pu m s) λb=>match a,b with
 | ⟨.int i,ha⟩,⟨.int j,hb⟩=>(match op with
  | .Add=>some ⟨.int (i+j),λρ=>nf (ha ρ) (hb ρ) Gk⟩
  | .Sub=>some ⟨.int (i - j),λρ=>nf (ha ρ) (hb ρ) GC⟩
  | .Mod=>gd (!(j==0)) λh=>some ⟨.int (i.fmod j),λρ=>nf (ha ρ) (hb ρ) (G0 (by simpa using h))⟩
  | _=>none)
 | _,_=>none
def MV (e:Expr) (s:Sy):Option (UR P e s):=by
 induction e using Expr.casesOn with
 | Constant c k pn=>exact((match c with
  | .none=>some ⟨.none,λρ=>lF⟩
  | .int i=>some ⟨.int i,λρ=>f6⟩
  | .str x=>some ⟨.str x.cps.toList,λρ=>eN rfl⟩
  | _=>none))
 | Name x pn=>exact(ob (GA O x s) λv=>(match v with
  | ⟨.av d,h⟩=>some ⟨d,λρ=>h ρ pn⟩
  | _=>none))
 | BinOp l op m pn=>exact(Pt r l op m pn s)
 | Compare l ops ms pn=>exact(Pw r l ops ms pn s)
 | BoolOp op es pn=>exact((match op with
  | .Or=>ob (S4 r es s) λc=>some ⟨.bool c.1,λρ=>Qm (c.2 ρ)⟩
  | .And=>ob (Qi r es s) λc=>some ⟨.bool c.1,λρ=>tM (c.2 ρ)⟩))
 | Tuple es k pn=>exact(ob (Qg r es s) λl=>gd (Nat.ble l.1.length 16777216) λhz=>some ⟨.tup l.1,λρ=>kJ (l.2 ρ) (dR hz)⟩)
 | _=>exact none
theorem O9 {e:Expr} {s:Sy} (u:UR P e s):SV P e s (.av u.1) s:=.of rfl id λy ρ=>u.2 ρ
noncomputable def Lo (e:Expr) (s:Sy):Option (VR P e s):=ob (r.pu e s) λu=>some ⟨(.av u.1,s),O9 u⟩
def Li (es:cI):∀ s,Option {p:cM×Sy // SL P es s p.1 p.2}:=List.rec (λs=>some ⟨([],s),Jk⟩)
 (λe es ih s=>gd (fB e) λhs=>ob (r.ev e s) λp=>gd (p.1.1.bel (P.N p.1.2)) λhb=>ob (ih p.1.2) λq=>some ⟨(p.1.1::q.1.1,q.1.2),EB hs p.2 hb q.2⟩) es
noncomputable def Mc (k:Expr):Option {x:Str // ∃ kk kp,some k=some (.Constant (.str x) kk kp)}:=by
 induction k using Expr.casesOn with
 | Constant c kk kp=>
  induction c using Const.casesOn with
  | str x=>exact some ⟨x,kk,kp,rfl⟩
  | _=>exact none
 | _=>exact none
noncomputable def Qe (k:Option Expr):Option {x:Str // ∃ kk kp,k=some (.Constant (.str x) kk kp)}:=Option.casesOn k none Mc
theorem Ja {ks:List (Option Expr)} {e:Expr} {es:cI} {s s1 s':Sy} {v:DV} {l:List (Str×DV)} {k:Option Expr} (x:{x:Str // ∃ kk kp,k=some (.Constant (.str x) kk kp)}) (a:SV P e s v s1) (hb:v.bel (P.N s1)=true) (b:SD P ks es s1 l s'):SD P (k::ks) (e::es) s ((x.1,v)::l) s':=by
 obtain⟨x,kk,kp,rfl⟩:=x;exact DG a hb b
def Rv (ks:List (Option Expr)):∀ es s,Option {p:List (Str×DV)×Sy // SD P ks es s p.1 p.2}:=List.rec
 (λes s=>match es with
  | []=>some ⟨([],s),IU⟩
  | _=>none)
 (λk ks ih es s=>match es with
  | e::es=>ob (Qe k) λx=>ob (r.ev e s) λp=>gd (p.1.1.bel (P.N p.1.2)) λhb=>ob (ih es p.1.2) λq=>some ⟨((x.1,p.1.1)::q.1.1,q.1.2),Ja x p.2 hb q.2⟩
  | _=>none) ks
noncomputable def Ru (e:Option Expr) (s:Sy):Option {p:DV×Sy // SP P e s p.1 p.2}:=match e with
 | none=>some ⟨(.av .none,s),Cz⟩
 | some e=>ob (r.ev e s) λp=>some ⟨p.1,Ed p.2⟩
def S7 (es:cI):∀ s,Option {p:Bool×Sy // SA P .And es s p.1 p.2}:=List.rec (λs=>some ⟨(true,s),Ei⟩)
 (λe es ih s=>ob (r.te e s) λp=>match p with
  | ⟨(true,s1),h⟩=>ob (ih s1) λq=>some ⟨q.1,Ku h q.2⟩
  | ⟨(false,s1),h⟩=>some ⟨(false,s1),HK h⟩) es
def Sa (es:cI):∀ s,Option {p:Bool×Sy // SA P .Or es s p.1 p.2}:=List.rec (λs=>some ⟨(false,s),Ec⟩)
 (λe es ih s=>ob (r.te e s) λp=>match p with
  | ⟨(true,s1),h⟩=>some ⟨(true,s1),Dc h⟩
  | ⟨(false,s1),h⟩=>ob (ih s1) λq=>some ⟨q.1,Ke h q.2⟩) es
def FM (ss:cH):∀ s,Option {p:DF×Sy // SB P ss s p.1 p.2}:=List.rec (λs=>some ⟨(.next,s),L5⟩)
 (λst ss ih s=>ob (r.ex st s) λp=>match p with
  | ⟨(.next,s1),h⟩=>ob (ih s1) λq=>some ⟨q.1,Dq h q.2⟩
  | ⟨(.brk,s1),h⟩=>some ⟨(.brk,s1),JF h⟩
  | ⟨(.cont,s1),h⟩=>some ⟨(.cont,s1),Fa h⟩
  | ⟨(.ret v,s1),h⟩=>some ⟨(.ret v,s1),Hm h⟩) ss
noncomputable def EZ (e:Expr) (s:Sy):Option (VR P e s):=match s.o with
 | .val k v D::o=>some ⟨(v,s.exE P e k v D o),Me⟩
 | _=>none
noncomputable def tq (st:Stmt) (s:Sy):Option (XR P st s):=match s.o with
 | .stm k D::o=>some ⟨(.next,s.exS P st k D o),OC⟩
 | _=>none
noncomputable def No (g:Addr) (vs:cM) (s:Sy):Option {p:DV×Sy // SK P g vs s p.1 p.2}:=match s.o with
 | .call k v oe r8 m::o=>gd (Nat.ble m P.X.n&&(Nat.beq k 0||AT (P.N s) s.D.loc)) λh=>some ⟨(v,s.cal P g vs k v oe r8 m o),LT h⟩
 | .cs v oe m::o=>gd (Nat.ble m P.X.n) λh=>some ⟨(v,s.calS P g vs v oe m o),Pb h⟩
 | _=>none
def NF (c:Ce) (vs:cM) (s:Sy):Option {p:DV×Sy // SC P c.val vs s p.1 p.2}:=match c with
 | .fn g=>ob (No g vs s) λp=>some ⟨p.1,JV p.2⟩
 | .bl b=>ob (PK b vs s) λp=>some ⟨p.1,Ip p⟩
noncomputable def Q2 (o:List eX):Bool:=match o with
 | .br _::_=>true
 | _=>false
structure SO (P:Px) (op:BoolOp) (es:cI) (s:Sy) (v:DV) (s':Sy):Prop where
 c:s'.c->s.c
 run:s'.c->∀ as,as.length=s.n->∀ pn (H:HL) (Φ:PV),(∀ w bs,bs.length=s'.n->as <+:bs->Φ w (v.to (P.ρ++bs)) (s'.D.to (P.ρ++bs)))->WV P.X.B P.X.n P.X.L (boolOp pn op (evalEach es P.X.env)) H (s.D.to (P.ρ++as)) Φ
theorem Ds {op:BoolOp} {e:Expr} {s s':Sy} {v:DV} (a:SV P e s v s'):SO P op [e] s v s':=⟨a.c,λc as ha pn H Φ k=>rS (a.run c as ha H Φ k)⟩
theorem I0 {op:BoolOp} {e e':Expr} {es:cI} {s s1:Sy} {v:DV} (a:SV P e s v s1) (t:RT v s1) (w:RD t.r t.s') (hw:w.b=(op==.Or)):SO P op (e::e'::es) s v w.s':=by
 refine⟨λc=>a.c (t.A.c (w.A.c c)),λc as ha pn H Φ k=>?_⟩
 have hd:w.s'.D=s1.D:=w.A.D.trans t.A.D
 have hn:w.s'.n=s1.n:=w.A.n.trans t.A.n
 rw[hd]at k
 have kc:=λ(u:Value) bs (aA:bs.length=s1.n) pb (hb:t.r.val=w.b)=>k u bs (aA.trans hn.symm) pb
 induction op using BoolOp.casesOn with
 | Or=>exact zH (a.run (t.A.c (w.A.c c)) as ha H _ λu bs aA pb=>(t.ok (w.A.c c) _ _).run _ _ _ gA ⟨λy=>k u bs (aA.trans hn.symm) pb,λq=>by rw[w.ok c,hw]at q;exact Bool.noConfusion q⟩)
 | And=>exact vf (a.run (t.A.c (w.A.c c)) as ha H _ λu bs aA pb=>(t.ok (w.A.c c) _ _).run _ _ _ gA ⟨λy=>k u bs (aA.trans hn.symm) pb,λq=>by rw[w.ok c,hw]at q;exact Bool.noConfusion q⟩)
theorem ND {op:BoolOp} {e e':Expr} {es:cI} {s s1 s':Sy} {v v':DV} (a:SV P e s v s1) (t:RT v s1) (w:RD t.r t.s') (hw:w.b= !(op==.Or)) (z:SO P op (e'::es) w.s' v' s'):SO P op (e::e'::es) s v' s':=by
 refine⟨λc=>a.c (t.A.c (w.A.c (z.c c))),λc as ha pn H Φ k=>?_⟩
 have c2:=w.A.c (z.c c)
 have hd:w.s'.D=s1.D:=w.A.D.trans t.A.D
 have hn:w.s'.n=s1.n:=w.A.n.trans t.A.n
 have kc:=λ(H:HL) bs (aA:bs.length=s1.n) (pb:as <+:bs)=>z.run c bs (aA.trans hn.symm) pn H Φ λw cs hc pc=>k w cs hc (pb.trans pc)
 rw[hd]at kc
 induction op using BoolOp.casesOn with
 | Or=>exact zH (a.run (t.A.c c2) as ha H _ λu bs aA pb=>(t.ok c2 _ _).run _ _ _ gA ⟨(λq=>by rw[w.ok (z.c c),hw]at q;exact Bool.noConfusion q),λy=>kc H bs aA pb⟩)
 | And=>exact vf (a.run (t.A.c c2) as ha H _ λu bs aA pb=>(t.ok c2 _ _).run _ _ _ gA ⟨(λq=>by rw[w.ok (z.c c),hw]at q;exact Bool.noConfusion q),λy=>kc H bs aA pb⟩)
theorem Dr {op:BoolOp} {es:cI} {pn:Pos} {s s':Sy} {v:DV} (a:SO P op es s v s'):SV P (.BoolOp op es pn) s v s':=⟨a.c,λc as ha H Φ k=>rI (a.run c as ha pn H Φ k)⟩
noncomputable def QW (op:BoolOp) (b:Bool):Option (Sum (PLift (b=(op==.Or))) (PLift (b= !(op==.Or)))):=match op,b with
 | .Or,true=>some (.inl ⟨rfl⟩)
 | .Or,false=>some (.inr ⟨rfl⟩)
 | .And,true=>some (.inr ⟨rfl⟩)
 | .And,false=>some (.inl ⟨rfl⟩)
def PY (op:BoolOp) (es:cI):∀ s,Option {p:DV×Sy // SO P op es s p.1 p.2}:=List.rec (λy=>none)
 (λe es ih s=>ob (r.ev e s) λa=>match es,ih with
  | [],_=>some ⟨a.1,Ds a.2⟩
  | _::_,ih=>ob (Hf a.1.1 a.1.2) λt=>ob (Di t.r t.s') λw=>ob (QW op w.b) λo=>match o with
   | .inl h=>some ⟨(a.1.1,w.s'),I0 a.2 t w h.1⟩
   | .inr h=>ob (ih w.s') λz=>some ⟨z.1,ND a.2 t w h.1 z.2⟩) es
noncomputable def Nk (o:List eX):Bool:=match o with
 | .val .. ::_=>true
 | _=>false
noncomputable def Rn (v:DV):Option {i:Nat // v=.slot i}:=match v with
 | .slot i=>some ⟨i,rfl⟩
 | _=>none
def OR (op:CmpOp) (a b:DV) (s:Sy):Option (RX P op a b s):=match s.o with
 | .cmp c::o=>some ⟨.is c,s.exC P op a b c o,⟨rfl,rfl,And.left⟩,λh as ha=>kM h.2 as ha P.X rfl⟩
 | _=>ob (Pu op a b) λq=>some ⟨q.r,s,.refl s,λy as y=>q.ok _ _ _⟩
def Dd (l:Expr) (ops:List CmpOp) (ms:cI) (pn:Pos) (s:Sy):Option (VR P (.Compare l ops ms pn) s):=match ops,ms with
 | [op],[m]=>gd (lk m) λhs=>ob (r.ev l s) λp=>gd (p.1.1.bel (P.N p.1.2)) λhb=>ob (r.ev m p.1.2) λq=>ob (OR op p.1.1 q.1.1 q.1.2) λz=>some ⟨(.av (.bool z.r.val),z.s'),Hd hs p.2 hb q.2 z⟩
 | _,_=>Lo r _ s
noncomputable def PQ (a i:DV) (s:Sy):Option (RY P a i s):=match s.o with
 | .itm d::o=>some ⟨.av d,s.exI P a i d o,⟨rfl,rfl,And.left⟩,λh as ha=>kM h.2 as ha P.X rfl⟩
 | _=>ob (Qx a i s) λq=>some ⟨q.v,q.s',q.A,λh as y e1 e2 hs=>q.ok h _ _ e1 e2 hs⟩
noncomputable def PE (e:Expr) (lo hi st:Option Expr) (p pn:Pos) (s:Sy):Option (VR P (.Subscript e (.Slice lo hi st p) pn) s):=match st with
 | .none=>ob (r.ev e s) λa=>(match a with
  | ⟨(.av (.str x),s1),ha⟩=>ob (Ru r lo s1) λb=>(match b with
   | ⟨(.av d1,s2),hb⟩=>ob (Ru r hi s2) λd=>(match d with
    | ⟨(.av d2,s3),hd⟩=>iC (mn d1) λi e1=>iC (mn d2) λj e2=>some ⟨(.av (.str (sl x i j)),s3.need (x.length<=16777216)),B7 ha hb hd e1 e2⟩
    | _=>none)
   | _=>none)
  | _=>none)
 | _=>none
noncomputable def QB (e i:Expr) (pn:Pos) (s:Sy):Option (VR P (.Subscript e i pn) s):=gd (fm i) λhs=>ob (r.ev e s) λp=>gd (p.1.1.bel (P.N p.1.2)) λhb=>ob (r.ev i p.1.2) λq=>ob (PQ p.1.1 q.1.1 q.1.2) λz=>some ⟨(z.v,z.s'),Jl hs p.2 hb q.2 z⟩
noncomputable def D3 (e i:Expr) (pn:Pos) (s:Sy):Option (VR P (.Subscript e i pn) s):=by
 induction i using Expr.casesOn with
 | Slice lo hi st p=>exact PE r e lo hi st p pn s
 | _=>exact QB r e _ pn s
def NG (e:Expr) (a:Str) (ap:Pos) (es:cI) (pn:Pos) (s:Sy):Option (VR P (.Call (.Attribute e a ap) es [] pn) s):=gd (ke e&&ut fB es&&Nat.blt es.length 30&&(ap.endLine==pn.line)) λhs=>ob (r.ev e s) λx=>ob (Qd O x.1.1 a x.1.2) λm=>(match m with
 | .own g i q hf=>gd (Nat.blt i (P.N x.1.2)) λhi=>ob (Li r es x.1.2) λb=>ob (No g (.slot i::b.1.1) b.1.2) λw=>some ⟨w.1,GZ hs x.2 hi q hf b.2 w.2⟩
 | .cls f q=>gd (x.1.1.bel (P.N x.1.2)) λhb=>ob (Li r es x.1.2) λb=>ob (NF f (x.1.1::b.1.1) b.1.2) λw=>some ⟨w.1,EU hs x.2 hb q b.2 w.2⟩)
def Cf (f:Expr) (es:cI) (kw:List Keyword) (pn:Pos) (s:Sy):Option (VR P (.Call f es kw pn) s):=match kw with
 | []=>by
  induction f using Expr.casesOn with
  | Attribute e a ap=>exact NG O r e a ap es pn s
  | Name x xp=>exact gd (ut fB es) λhs=>ob (Q1 O x) λf=>ob (Li r es s) λb=>ob (NF f.1 b.1.1 b.1.2) λw=>some ⟨w.1,Ct hs f.2 b.2 w.2⟩
  | _=>exact EZ _ s
 | _=>EZ _ s
theorem lY {c:Const} {d:AV} {k pn} {s:Sy} (h:∀ σ,Ev P.X (.Constant c k pn) σ d σ):SV P (.Constant c k pn) s (.av d) s:=.of rfl id λy y=>h _
noncomputable def Oj (c:Const) (k:Nat) (pn:Pos) (s:Sy):Option (VR P (.Constant c k pn) s):=match c with
 | .none=>some ⟨(.av .none,s),lY λy=>lF⟩
 | .bool b=>some ⟨(.av (.bool b),s),lY λy=>wh⟩
 | .int i=>some ⟨(.av (.int i),s),lY λy=>f6⟩
 | .str x=>some ⟨(.av (.str x.cps.toList),s),lY λy=>eN rfl⟩
 | _=>none
theorem EF {x:Str} {pn:Pos} {s:Sy} (v:Ph P x s):SV P (.Name x pn) s v.1 s:=.of rfl id λy ρ=>v.2 ρ pn
theorem Fm {es:cI} {pn:Pos} {s s':Sy} {vs:cM} {l:cG} (a:SL P es s vs s') (q:lH vs=some l) (hz:Nat.ble l.length 16777216=true):SV P (.List es pn) s (.av (.lst l)) s':=
 ⟨a.c,λc as ha H Φ k=>xU (a.run c as ha _ _ _ λws bs hl hb pb=>by rw[mR q];exact⟨dR hz,λw=>k w bs hb pb⟩)⟩
theorem PX {es:cI} {s s':Sy} {vs:cM} {o:List eX} (a:SL P es ⟨s.D,s.n,o,s.c⟩ vs s'):SL P es s vs s':=⟨a.c,a.run⟩
theorem AE {pn:Pos} {s:Sy}:SV P (.Dict [] [] pn) s (.av (.dct [])) s:=.of rfl id λy y=>CL
noncomputable def Ki (o:List eX):Bool:=match o with
 | .cmp true::_=>true
 | _=>false
def QL (es:cI) (pn:Pos) (s:Sy):Option (VR P (.List es pn) s):=ob (Li r es ⟨s.D,s.n,s.o.tail,s.c⟩) λp=>iC (lH p.1.1) λl q=>gd (Nat.ble l.length 16777216) λhz=>some ⟨(.av (.lst l),p.1.2),Fm (PX p.2) q hz⟩
def PJ (ks:List (Option Expr)) (es:cI) (pn:Pos) (s:Sy):Option (VR P (.Dict ks es pn) s):=match ks,es with
 | [],[]=>some ⟨(.av (.dct []),s),AE⟩
 | ks,es=>ob (Rv r ks es s) λp=>iC (oO p.1.1) λl q=>gd (iY (l.map (·.1))&&Nat.ble 1 p.1.1.length&&Nat.ble es.length 15) λhz=>some ⟨(.av (.dct l),p.1.2),Dm p.2 q hz⟩
def P2 (e:Expr) (s:Sy):Option (VR P e s):=by
 induction e using Expr.casesOn with
 | Constant c k pn=>exact(Oj c k pn s)
 | Name x pn=>exact(ob (GA O x s) λv=>some ⟨(v.1,s),EF v⟩)
 | Attribute e a pn=>exact(gd (ke e) λhs=>ob (r.ev e s) λp=>(match p with
  | ⟨(.slot i,s1),h⟩=>ob (Mj P.K i a s1) λg=>some ⟨(g.v,s1),EA O hs h g⟩
  | _=>none))
 | Compare l ops ms pn=>exact(Dd r l ops ms pn s)
 | BinOp l op m pn=>exact(ob (r.ev l s) λp=>gd (p.1.1.bel (P.N p.1.2)) λhb=>ob (r.ev m p.1.2) λq=>ob (EV op p.1.1 q.1.1 q.1.2) λz=>some ⟨(z.v,z.s'),K7 p.2 hb q.2 z⟩)
 | UnaryOp op e pn=>exact((match op with
  | .Not=>ob (r.ev e s) λp=>ob (Hf p.1.1 p.1.2) λt=>some ⟨(.av (.bool !t.r.val),t.s'),HH p.2 t⟩
  | .USub=>ob (r.ev e s) λp=>(match p with
   | ⟨(.av (.int i),s1),h⟩=>some ⟨(.av (.int (-i)),s1),Im h⟩
   | _=>none)
  | _=>none))
 | IfExp t x y pn=>exact(ob (r.te t s) λp=>(match p with
  | ⟨(true,s1),h⟩=>ob (r.ev x s1) λw=>some ⟨w.1,HF h w.2⟩
  | ⟨(false,s1),h⟩=>ob (r.ev y s1) λw=>some ⟨w.1,I5 h w.2⟩))
 | Tuple es k pn=>exact(ob (Li r es s) λp=>iC (lH p.1.1) λl q=>gd (Nat.ble l.length 16777216) λhz=>some ⟨(.av (.tup l),p.1.2),JD p.2 q hz⟩)
 | List es pn=>exact(Bool.casesOn (Ki s.o) (ob (Li r es s) λp=>gd (Nat.ble p.1.1.length 16777216&&p.1.1.all (DV.bel (P.N p.1.2))) λhz=>some ⟨(.slot (P.N p.1.2),(p.1.2.need (p.1.2.D.bel (P.N p.1.2)=true)).new P (.list [] p.1.1)),Cw p.2 hz⟩) (QL r es pn s))
 | Dict ks es pn=>exact(PJ r ks es pn s)
 | Subscript e i pn=>exact(D3 r e i pn s)
 | BoolOp op es pn=>exact(Bool.casesOn (Q2 s.o) (Lo r (.BoolOp op es pn) s) (ob (PY r op es s) λp=>some ⟨p.1,Dr p.2⟩))
 | Call f es kw pn=>exact(Bool.casesOn (Nk s.o) (Cf O r f es kw pn s) (EZ _ s))
 | _=>exact EZ _ s
noncomputable def NC (e:Expr) (s:Sy):Option (TR P e s):=gd (BX e) λhs=>ob (r.ev e s) λp=>ob (Hf p.1.1 p.1.2) λt=>ob (Di t.r t.s') λw=>some ⟨(w.b,w.s'),H3 hs p.2 t w⟩
theorem EO {l m x:Expr} {op oi:CmpOp} {pn:Pos} {s:Sy} (hs:lk x=true) (a:UR P l s) (b:UR P m s) (y:UR P x s) (z:RA op a.1 b.1) (w:RA oi b.1 y.1) (d:RD (.is (z.r.val&&w.r.val)) s):ST P (.Compare l [op,oi] [m,x] pn) s d.b d.s':=
 ⟨d.A.c,λc as ha H Φ k=>vU ((a.2 _).run _ _ λv=>(b.2 _).run _ _ λv=>(z.ok _ _).run _ _ _ _ mH gA λv=>⟨_,rfl,_,(y.2 _).run _ _ λv=>(w.ok _ _).run _ _ _ _ mH gA λv=>⟨rfl,rfl⟩,by
  have e:(z.r.val&&w.r.val)=d.b:=d.ok c
  have k':=k as (ha.trans d.A.n.symm) (bF _)
  rw[d.A.D,<-e]at k'
  exact k'⟩) (uc hs)⟩
def PU (l:Expr) (ops:List CmpOp) (ms:cI) (pn:Pos) (s:Sy):Option (TR P (.Compare l ops ms pn) s):=match ops,ms with
 | [op],[m]=>gd (lk m) λhs=>ob (r.ev l s) λp=>gd (p.1.1.bel (P.N p.1.2)) λhb=>ob (r.ev m p.1.2) λq=>ob (OR op p.1.1 q.1.1 q.1.2) λz=>ob (Di z.r z.s') λw=>some ⟨(w.b,w.s'),HI hs p.2 hb q.2 z w⟩
 | [op,oi],[m,x]=>gd (lk x) λhs=>ob (r.pu l s) λa=>ob (r.pu m s) λb=>ob (r.pu x s) λy=>ob (yq op a.1 b.1) λz=>ob (yq oi b.1 y.1) λw=>ob (Di (.is (z.r.val&&w.r.val)) s) λd=>some ⟨(d.b,d.s'),EO hs a b y z w d⟩
 | _,_=>none
def LE (op:BoolOp) (es:cI) (pn:Pos) (s:Sy):Option (TR P (.BoolOp op es pn) s):=match es with
 | e::es=>(match op with
  | .And=>ob (S7 r (e::es) s) λp=>some ⟨p.1,K0 p.2⟩
  | .Or=>ob (Sa r (e::es) s) λp=>some ⟨p.1,Lp p.2⟩)
 | _=>none
def Mq (e:Expr) (s:Sy):Option (TR P e s):=by
 induction e using Expr.casesOn with
 | UnaryOp op e pn=>exact((match op with
  | .Not=>ob (r.te e s) λp=>some ⟨(!p.1.1,p.1.2),Je p.2⟩
  | op=>NC r (.UnaryOp op e pn) s))
 | BoolOp op es pn=>exact(LE r op es pn s)
 | Compare l ops ms pn=>exact(PU r l ops ms pn s)
 | _=>exact NC r _ s
def CX (t:Expr) (v:DV) (s:Sy):Option (GR P t v s):=by
 induction t using Expr.casesOn with
 | Name x p=>exact(Bool.casesOn (motive:=λb=>rn (P.X.env.kindOf x)=b->Option (GR P (.Name x p) v s)) (rn (P.X.env.kindOf x)) (λy=>gd (nF (P.X.env.kindOf x)) λhl=>iC (yQ x v s.D.loc) λl q=>some ⟨_,Ez O hl q⟩)
  (λhl=>iC (gK x P.cl) λi e0=>iC (eW i s.D.objs) λo q=>match o,q with
   | .cell w,q=>some ⟨_,EE O hl e0 q⟩
   | _,_=>none) rfl)
 | Attribute e a p=>exact(ob (r.ev e s) λh=>gd (Nat.beq h.1.2.n s.n) λhn=>(match h,hn with
  | ⟨(.slot i,s1),h⟩,hn=>ob (OO P.K i a v s1) λq=>some ⟨s1.objs q.l,DI O h hn q⟩
  | _,_=>none))
 | _=>exact none
def R3 (o i e:Expr) (p pn:Pos) (s:Sy):Option (XR P (.Assign [.Subscript o i p] e pn) s):=gd (jE e) λhs=>ob (r.ev e s) λa=>gd (a.1.1.bel (P.N a.1.2)) λhb1=>ob (r.ev o a.1.2) λb=>gd (b.1.1.bel (P.N b.1.2)) λhb2=>ob (r.ev i b.1.2) λd=>ob (OA b.1.1 d.1.1 a.1.1 d.1.2) λq=>some ⟨(.next,d.1.2.objs q.l),DQ hs a.2 hb1 b.2 hb2 d.2 q⟩
def QR (t1 t2:Expr) (kk:Nat) (p:Pos) (e:Expr) (pn:Pos) (s:Sy):Option (XR P (.Assign [.Tuple [t1,t2] kk p] e pn) s):=gd (jE e&&Ah e&&fB t1&&fB t2) λhs=>ob (r.ev e s) λa=>match a with
 | ⟨(.av (.tup [d1,d2]),s1),h⟩=>ob (CX O r t1 (.av d1) s1) λb=>ob (CX O r t2 (.av d2) b.1) λd=>some ⟨(.next,d.1),EX hs h b.2 d.2⟩
 | _=>none
def R1 (t:Expr) (ks:List (Option Expr)) (es:cI) (dp pn:Pos) (s:Sy):Option (XR P (.Assign [t] (.Dict ks es dp) pn) s):=ob (Rv r ks es s) λp=>gd (iY (p.1.1.map (·.1))&&Nat.ble 1 p.1.1.length&&Nat.ble es.length 15&&(p.1.1.all λq=>q.2.bel (P.N p.1.2))&&p.1.2.D.bel (P.N p.1.2)) λhz=>ob (CX O r t (.slot (P.N p.1.2)) (p.1.2.new P (.dict p.1.1))) λb=>some ⟨(.next,b.1),Er p.2 hz b.2⟩
def PC (t e:Expr) (pn:Pos) (s:Sy):Option (XR P (.Assign [t] e pn) s):=gd (jE e) λhs=>ob (r.ev e s) λa=>ob (CX O r t a.1.1 a.1.2) λb=>some ⟨(.next,b.1),Kr hs a.2 b.2⟩
def QI (t e:Expr) (pn:Pos) (s:Sy):Option (XR P (.Assign [t] e pn) s):=by
 induction e using Expr.casesOn with
 | Dict ks es dp=>exact R1 O r t ks es dp pn s
 | ListComp=>exact tq _ s
 | _=>exact PC O r t _ pn s
def PW (t e:Expr) (pn:Pos) (s:Sy):Option (XR P (.Assign [t] e pn) s):=by
 induction t using Expr.casesOn with
 | Tuple ts kk p=>exact(match ts with
  | [t1,t2]=>QR O r t1 t2 kk p e pn s
  | _=>tq _ s)
 | Subscript o i p=>exact R3 r o i e p pn s
 | _=>exact QI O r _ e pn s
def Ps (ts:cI) (e:Expr) (pn:Pos) (s:Sy):Option (XR P (.Assign ts e pn) s):=match ts with
 | [t]=>PW O r t e pn s
 | _=>tq _ s
def QU (t:Expr) (op:Operator) (e:Expr) (pn:Pos) (s:Sy):Option (XR P (.AugAssign t op e pn) s):=by
 induction t using Expr.casesOn with
 | Name x p=>exact(gd (nF (P.X.env.kindOf x)) λhl=>iC (two (gK x s.D.loc)) λa e0=>gd (a.bel (P.N s)) λhb=>ob (r.ev e s) λh=>ob (EV op a h.1.1 h.1.2) λz=>iC (yQ x z.v z.s'.D.loc) λl q=>some ⟨(.next,_),KY O hl e0 hb h.2 z q⟩)
 | Attribute o a p=>exact(ob (r.ev o s) λh=>(match h with
  | ⟨(.slot i,s1),h⟩=>gd (Nat.blt i (P.N s1)) λhi=>ob (Mj P.K i a s1) λg=>gd (g.v.bel (P.N s1)) λhx=>ob (r.ev e s1) λb=>ob (EV op g.v b.1.1 b.1.2) λz=>ob (OO P.K i a z.v z.s') λq=>some ⟨(.next,z.s'.objs q.l),Cy O h hi g hx b.2 z q⟩
  | _=>none))
 | Subscript o i p=>exact(gd (fm i) λhs=>ob (r.ev o s) λa=>gd (a.1.1.bel (P.N a.1.2)) λhb1=>ob (r.ev i a.1.2) λb=>gd (b.1.1.bel (P.N b.1.2)) λhb2=>ob (PB a.1.1 b.1.1 b.1.2) λg=>gd (g.v.bel (P.N b.1.2)) λhx=>ob (r.ev e b.1.2) λd=>ob (EV op g.v d.1.1 d.1.2) λz=>ob (OA a.1.1 b.1.1 z.v z.s') λq=>some ⟨(.next,z.s'.objs q.l),ET hs a.2 hb1 b.2 hb2 g hx d.2 z q⟩)
 | _=>exact none
def Qr (t:Expr) (b0:cH) (k:Nat):∀ s:Sy,Option {s':Sy // SW P t b0 s s'}:=Nat.rec (λy=>none)
 (λy ih s=>ob (r.te t s) λp=>match p with
  | ⟨(false,s1),h⟩=>some ⟨s1,JP h⟩
  | ⟨(true,s1),h⟩=>ob (FM r b0 s1) λw=>match w with
   | ⟨(.next,s2),b⟩=>ob (ih s2) λz=>some ⟨z.1,Fy (.inl rfl) h b z.2⟩
   | ⟨(.cont,s2),b⟩=>ob (ih s2) λz=>some ⟨z.1,Fy (.inr rfl) h b z.2⟩
   | ⟨(.brk,s2),b⟩=>some ⟨s2,I8 h b⟩
   | _=>none) k
noncomputable def AN (o:List eX):Bool:=match o with
 | .stm .. ::_=>true
 | _=>false
def Qp (t:Expr) (b0 oj:cH) (pn:Pos) (s:Sy):Option (XR P (.While t b0 oj pn) s):=match oj with
 | []=>Bool.casesOn (AN s.o) (ob (Qr r t b0 20 s) λz=>some ⟨(.next,z.1),C9 z.2⟩) (tq _ s)
 | _=>tq _ s
def NO (st:Stmt) (s:Sy):Option (XR P st s):=by
 induction st using Stmt.casesOn with
 | Pass _=>exact(some ⟨(.next,s),Ew⟩)
 | Break _=>exact(some ⟨(.brk,s),GU⟩)
 | Continue _=>exact(some ⟨(.cont,s),E1⟩)
 | Return o _=>exact((match o with
  | none=>some ⟨(.ret (.av .none),s),DT⟩
  | some e=>ob (r.ev e s) λp=>some ⟨(.ret p.1.1,p.1.2),GS p.2⟩))
 | If t x y _=>exact(Bool.casesOn (AN s.o) (ob (r.te t s) λp=>(match p with
  | ⟨(true,s1),h⟩=>ob (FM r x s1) λw=>some ⟨w.1,Kv h w.2⟩
  | ⟨(false,s1),h⟩=>ob (FM r y s1) λw=>some ⟨w.1,Ix h w.2⟩)) (tq _ s))
 | Expr e _=>exact(gd (jE e) λhs=>ob (r.ev e s) λp=>some ⟨(.next,p.1.2),Et O hs p.2⟩)
 | Assert t _ _=>exact(ob (r.te t s) λp=>(match p with
  | ⟨(true,s1),h⟩=>some ⟨(.next,s1),yT h⟩
  | _=>none))
 | Assign ts e pn=>exact(Bool.casesOn (AN s.o) (Ps O r ts e pn s) (tq _ s))
 | AugAssign t op e pn=>exact(QU O r t op e pn s)
 | While t b0 oj pn=>exact(Qp r t b0 oj pn s)
 | _=>exact tq _ s
end
def lV {P:Px} (O:gn P) (k:Nat):Rd P:=Nat.rec ⟨λy y=>none,λy y=>none,λy y=>none,λy y=>none⟩ (λy r=>⟨MV O r,P2 O r,Mq r,NO O r⟩) k
def qJ {P:Px} (O:gn P) (ss:cH) (D:DS) (ai:List eX):Option (DF×Sy):=ob (FM (lV O 60) ss ⟨D,0,ai,True⟩) λp=>some p.1
def vx {P:Px} (O:gn P) (e:Expr) (D:DS) (ai:List eX):Option (Bool×Sy):=ob ((lV O 60).te e ⟨D,0,ai,True⟩) λp=>some p.1
def we {P:Px} (O:gn P) (e:Expr) (D:DS) (ai:List eX):Option (DV×Sy):=ob ((lV O 60).ev e ⟨D,0,ai,True⟩) λp=>some p.1
theorem tE {P:Px} (O:gn P) {ss:cH} {D D':DS} {ai o:List eX} {q:Prop} {k:Nat} {f:DF} (hq:q) (e:qJ O ss D ai=some (f,⟨D',k,o,q⟩)):dT P.X ss (D.to P.ρ) λfl σ'=>Cq k λbs=>fl=f.to (P.ρ++bs)/\σ'=D'.to (P.ρ++bs):=by
 unfold qJ at e
 induction h:FM (lV O 60) ss ⟨D,0,ai,True⟩using Option.casesOn with
 | none=>rw[h]at e;contradiction
 | some p=>
  rw[h]at e
  obtain⟨⟨f',s'⟩,w⟩:=p
  cases e
  exact⟨λH Φ k=>bX P.ρ▸w.run hq [] rfl H Φ λbs hl y=>k _ _ (B3 hl ⟨rfl,rfl⟩)⟩
theorem mT {P:Px} (O:gn P) {ss:cH} {D D':DS} {ai o:List eX} {q:Prop} {f:DF} (hq:q) (e:qJ O ss D ai=some (f,⟨D',0,o,q⟩)):jC P.X ss (D.to P.ρ) (f.to P.ρ) (D'.to P.ρ):=
 ⟨λH Φ k=>(tE O hq e).run H Φ λfl σ' h=>by
  obtain⟨h1,h2⟩:fl=f.to (P.ρ++[])/\σ'=D'.to (P.ρ++[]):=h
  rw[bX]at h1 h2
  rw[h1,h2];exact k⟩
theorem pL {P:Px} (O:gn P) {e:Expr} {D D':DS} {ai o:List eX} {q:Prop} {b:Bool} (hq:q) (h:vx O e D ai=some (b,⟨D',0,o,q⟩)):Te P.X e (D.to P.ρ) b (D'.to P.ρ):=by
 unfold vx at h
 induction h':(lV O 60).te e ⟨D,0,ai,True⟩using Option.casesOn with
 | none=>rw[h']at h;contradiction
 | some p=>
  rw[h']at h
  obtain⟨⟨b',s'⟩,w⟩:=p
  cases h
  exact⟨λH Φ k=>bX P.ρ▸w.run hq [] rfl H Φ λbs hl y=>b7 hl▸(bX P.ρ).symm▸k⟩
theorem pZ {P:Px} (O:gn P) {e:Expr} {D D':DS} {ai o:List eX} {q:Prop} {v:DV} (hq:q) (h:we O e D ai=some (v,⟨D',0,o,q⟩)):Ev P.X e (D.to P.ρ) (v.to P.ρ) (D'.to P.ρ):=by
 unfold we at h
 induction h':(lV O 60).ev e ⟨D,0,ai,True⟩using Option.casesOn with
 | none=>rw[h']at h;contradiction
 | some p=>
  rw[h']at h
  obtain⟨⟨b',s'⟩,w⟩:=p
  cases h
  exact⟨λH Φ k=>bX P.ρ▸w.run hq [] rfl H Φ λu bs hl y=>b7 hl▸(bX P.ρ).symm▸k u⟩
structure Hq where
 c:Prop
 k:Nat
 v:DV
 objs:cQ
 rest:OL
noncomputable def Dy (f:DF) (s:Sy):Option Hq:=match f with
 | .ret v=>some ⟨s.c,s.n,v,s.D.objs,s.D.rest⟩
 | .next=>some ⟨s.c,s.n,.av .none,s.D.objs,s.D.rest⟩
 | _=>none
noncomputable def B8 (ps:cL) (ds:cM) (xs:cL):cU:=(ps.zip ds).map (λp=>(p.1,some p.2))++xs.map (·,none)
theorem Fd {ρ:cK} {xs:cL} {ps:cL}:∀ {ds:cM},i9 ρ (B8 ps ds xs)=eP ps (mF ρ ds)++bare xs:=by
 have hb:i9 ρ (xs.map (·,none))=bare xs:=by rw[i9,List.map_map];rfl
 induction ps with
 | nil=>exact hb
 | cons p ps ih=>
  intro ds
  induction ds using List.casesOn with
  | nil=>exact hb
  | cons d ds=>exact cB (List.cons _) ih
noncomputable def tp (se:Scope):Bool:=(match se.kind with | .function=>true | _=>false)&& !se.isCoroutine&& !se.isGenerator
noncomputable def ox (se:Scope):Bool:=se.names.all λx=>match x.2 with | .cell=>false | _=>true
theorem jg {se:Scope} (h:tp se=true):se.kind=.function/\se.isCoroutine=false/\se.isGenerator=false:=by
 have h1:=dE (dE h)
 refine⟨?_,by simpa using dX (dE h),by simpa using dX h⟩
 cases q:se.kind<;>first | rfl | (rw[q]at h1;exact Bool.noConfusion h1)
theorem wg {se:Scope} (h:ox se=true):∀ x∈se.names,x.2≠.cell:=λx hx e=>by
 have:=List.all_eq_true.mp h x hx
 rw[e]at this
 exact Bool.noConfusion this
theorem Fj {α:Type u} {β:Type v} {o:Option α} {f:α->Option β} {y:β} (e:ob o f=some y):∃ x,f x=some y:=by
 induction o using Option.casesOn with
 | none=>exact nomatch e
 | some x=>exact⟨x,e⟩
theorem CV {fl:DF} {s:Sy} {o:Hq} (e:Dy fl s=some o):(fl=.ret o.v\/fl=.next/\.av .none=o.v)/\o.c=s.c/\s.n=o.k/\s.D.objs=o.objs/\s.D.rest=o.rest:=by
 cases fl with
 | ret v=>cases Option.some.inj e;exact⟨.inl rfl,rfl,rfl,rfl,rfl⟩
 | next=>cases Option.some.inj e;exact⟨.inr ⟨rfl,rfl⟩,rfl,rfl,rfl,rfl⟩
 | brk=>exact nomatch e
 | cont=>exact nomatch e
theorem Hg {ρ:cK} {a b:cQ} {r r':OL} (e1:a=b) (e2:r=r'):dC ρ r a=dC ρ r' b:=by rw[e1,e2]
theorem Gf {B:cX} {n:Nat} {n5 qc:Str} {pt:Arguments} {b0:cH} {se:Scope} {dV kV d8 pm c6 ct oc:Value} {an od:Option Addr} {ol:cT} {f:Addr} {ah:cG} {Φ:AV->OL->Prop} {oe:OL} {K:Frag} {gl:List (Addr×AV)}
 {u :Hq} (ps xs:cL) (ρ:cK) (ds:cM) (os:cQ) (r8:OL) (ai:List eX)
 (hK:B.K=K) (hgl:∀ p∈gl,eF B (.ref p.1) p.2) (ho:K.lookup f=some ⟨oc,od,.func (fnOf n5 qc pt b0 se dV kV d8 pm an c6 ct),ol⟩)
 (hb:fE B (fnOf n5 qc pt b0 se dV kV d8 pm an c6 ct) ps ah (mF ρ ds)) (hq:u.c) (hΦ:∀ d o,Cq u.k (λbs=>d=u.v.to (ρ++bs)/\o=dC (ρ++bs) u.rest u.objs)->Φ d o)
 (ck:(codeIn K c6 qc&&ox se&&iY (ps++xs)&&ps.all (λy=>se.names.lookup y==some .local)&&Nat.beq ps.length ds.length)=true) (fu:tp se=true) (eo:dC ρ r8 os=oe)
 (e :∀ L,(ob (FM (lV (P:=⟨⟨B,n,L,envOf qc se L f c6⟩,K,ρ,gl,[]⟩) ⟨hK,(jg fu).1,rfl,rfl,rfl,hgl,nofun⟩ 60) b0 ⟨⟨B8 ps ds xs,os,r8⟩,0,ai,True⟩) λp=>Dy p.1.1 p.1.2)=some u):cY B (n+1) f ah oe Φ:=by
 subst eo hK
 refine Cs ps xs ho (dE (dE (dE (dE ck)))) hb (λL=>?_) rfl rfl Fd.symm ?_ (fQ (dX (dE (dE ck)))) (dX (dE ck)) (jg fu).2.1 (jg fu).2.2 (jg fu).1 (wg (dX (dE (dE (dE ck)))))
 . obtain⟨p,e⟩:=Fj (e L)
   have z:=CV e
   show WF B n L (execs b0 (envOf qc se L f c6)) [] (DS.to ρ ⟨B8 ps ds xs,os,r8⟩) _
   rw[<-bX ρ];refine p.2.run (z.2.1▸hq) [] rfl [] _ λbs hl x=>?_
   have w:=λd (h:d=u.v.to (ρ++bs))=>hΦ d _ (B3 (hl.trans z.2.2.1) ⟨h,Hg z.2.2.2.1 z.2.2.2.2⟩)
   rcases z.1 with h | h
   . rw[h];exact w _ rfl
   . rw[h.1];exact w _ (cB (DV.to (ρ++bs)) h.2)
 . rw[mF,bZ];exact Nat.eq_of_beq_eq_true (dX ck)
theorem CE {B:cX} {n:Nat} {n5 qc:Str} {pt:Arguments} {b0:cH} {se:Scope} {dV kV d8 pm c6 ct oc:Value} {an od:Option Addr} {ol:cT} {f:Addr} {ah:cG} {Φ:AV->OL->Prop} {oe:OL} {K:Frag} {gl:List (Addr×AV)}
 {k:Nat} {v:DV} {o5:cQ} {r9:OL} {q:Prop} (ps xs:cL) (ρ:cK) (ds:cM) (os:cQ) (r8:OL) (ai:List eX)
 (hK:B.K=K) (hgl:∀ p∈gl,eF B (.ref p.1) p.2) (ho:K.lookup f=some ⟨oc,od,.func (fnOf n5 qc pt b0 se dV kV d8 pm an c6 ct),ol⟩)
 (hb:fE B (fnOf n5 qc pt b0 se dV kV d8 pm an c6 ct) ps ah (mF ρ ds)) (hq:q) (hΦ:∀ d o,Cq k (λbs=>d=v.to (ρ++bs)/\o=dC (ρ++bs) r9 o5)->Φ d o)
 (ck:(codeIn K c6 qc&&ox se&&iY (ps++xs)&&ps.all (λy=>se.names.lookup y==some .local)&&Nat.beq ps.length ds.length)=true) (fu:tp se=true) (eo:dC ρ r8 os=oe)
 (e:∀ L,(ob (FM (lV (P:=⟨⟨B,n,L,envOf qc se L f c6⟩,K,ρ,gl,[]⟩) ⟨hK,(jg fu).1,rfl,rfl,rfl,hgl,nofun⟩ 60) b0 ⟨⟨B8 ps ds xs,os,r8⟩,0,ai,True⟩) λp=>Dy p.1.1 p.1.2)=some ⟨q,k,v,o5,r9⟩):cY B (n+1) f ah oe Φ:=
 Gf (u:=⟨q,k,v,o5,r9⟩) ps xs ρ ds os r8 ai hK hgl ho hb hq hΦ ck fu eo e
end
theorem xz (n:Nat) (D:DS) (h:autoParam (D.bel n=true) bK):D.bel n=true:=h
end
section
variable {X:Cx} {cl:List (Str×Nat)} {σ σ':St} {t:Expr} {st:Stmt}
structure f7 (B:cX):Prop where
 K:B.K=fN B.P
noncomputable def ED:FL:=[("Doctype",.int 0),("Characters",.int 1),("SpaceCharacters",.int 2),("StartTag",.int 3),("EndTag",.int 4),("EmptyTag",.int 5),("Comment",.int 6),("ParseError",.int 7)]
theorem xE (hB:f7 B):eF B (.ref 48) (.dct ED):=by
 obtain⟨es,m,h,ok,e⟩:∃ es m,B.K.lookup 48=some (dictOf es m)/\sG B.P es/\mB es=ED:=by
  rw[hB.K];refine⟨_,_,rfl,?_,rfl⟩
  exact⟨⟨_,_,rfl,rfl⟩,⟨_,_,rfl,rfl⟩,⟨_,_,rfl,rfl⟩,⟨_,_,rfl,rfl⟩,⟨_,_,rfl,rfl⟩,⟨_,_,rfl,rfl⟩,⟨_,_,rfl,rfl⟩,⟨_,_,rfl,rfl⟩,trivial⟩
 exact Bg h ok e (fQ (by kernel_rfl))
noncomputable def gR:cV:=[[9],[10],[12],[32],[13]]
theorem wD (hB:f7 B):eF B (.ref 22) (.tup (gR.map .str)):=m7 (by rw[hB.K];rfl) rfl
noncomputable def ii:cV:=((List.range' 97 26)++(List.range' 65 26)).map λc=>[c]
theorem uw (hB:f7 B):eF B (.ref 27) (.tup (ii.map .str)):=m7 (by rw[hB.K];rfl) rfl
noncomputable def Nt:cG:=[.int 3,.int 4,.int 5]
theorem yN {B:cX} (hB:f7 B):eF B (.ref 49) (.tup Nt):=m7 (by rw[hB.K];rfl) rfl
noncomputable def kX:cV:=[[97],[98],[120],[81]]
theorem oI {B:cX} (hB:f7 B):eF B (.ref 768) (.tup (kX.map .str)):=m7 (by rw[hB.K];rfl) rfl
noncomputable abbrev tc:List (Addr×AV):=[(48,.dct ED),(22,.tup (gR.map .str)),(27,.tup (ii.map .str)),(49,.tup Nt),(768,.tup (kX.map .str))]
theorem np (hB:f7 B):∀ p∈tc,eF B (.ref p.1) p.2:=by
 intro p hp
 rcases fD hp with rfl | hp
 . exact xE hB
 rcases fD hp with rfl | hp
 . exact wD hB
 rcases fD hp with rfl | hp
 . exact uw hB
 rcases fD hp with rfl | hp
 . exact yN hB
 rcases fD hp with rfl | hp
 . exact oI hB
 contradiction
def eG (B:cX) (m:Nat) (f:Addr) (ah:cG) (d:AV):Prop:=∀ oe,cY B m f ah oe λd' o=>d'=d/\o=oe
theorem n9:eF B .none .none:=λy y=>.none
theorem vE:eF B (.bool false) (.bool false):=λy y=>.bool _
theorem qa {a b:Prop} (h:a) (k:b):a/\b:=⟨h,k⟩
theorem tt:true=true:=rfl
theorem ff:false=false:=rfl
section
variable {B:cX} {n:Nat} {f:Addr} {ah:cG} {oe:OL} {q:Prop}
noncomputable def pS (K:Frag) (f:Addr):Obj:=(K.lookup f).getD default
noncomputable def QO:Data->FuncData
 | .func fd=>fd
 | _=>default
noncomputable abbrev io (K:Frag) (f:Addr):FuncData:=QO (pS K f).data
noncomputable def Nc (fd:FuncData):cH:=FuncBody.casesOn fd.body (λb=>b) λy=>[]
noncomputable def yP (K:Frag) (f:Addr):FuncData:=fnOf (io K f).name (io K f).qualname (io K f).params (Nc (io K f)) (io K f).scope (io K f).defaults (io K f).kwdefaults (io K f).doc (io K f).pyModule (io K f).annotations (io K f).code (io K f).closureTuple
noncomputable def P5 (ps:cL) (sc:Scope):cL:=(sc.names.filter λy=>y.2==.local&& !ps.contains y.1).map (·.1)
noncomputable def Rz (K:Frag) (f:Addr) (ps:cL) (m:Nat):Bool:=codeIn K (io K f).code (io K f).qualname&&ox (io K f).scope&&iY (ps++P5 ps (io K f).scope)&&ps.all (λy=>(io K f).scope.names.lookup y==some .local)&&Nat.beq ps.length m
def BY (hB:f7 B) (n:Nat) (f:Addr) (ps:cL) (ρ:cK) (ds:cM) (os:cQ) (r8:OL) (ai:List eX) (L:Addr):Option Hq:=
 bif Rz (fN B.P) f ps ds.length then (if h:tp (io (fN B.P) f).scope=true then ob (FM (lV (P:=⟨⟨B,n,L,envOf (io (fN B.P) f).qualname (io (fN B.P) f).scope L f (io (fN B.P) f).code⟩,fN B.P,ρ,tc,[]⟩) ⟨hB.K,(jg h).1,rfl,rfl,rfl,np hB,nofun⟩ 60) (Nc (io (fN B.P) f)) ⟨⟨B8 ps ds (P5 ps (io (fN B.P) f).scope),os,r8⟩,0,ai,True⟩) λp=>Dy p.1.1 p.1.2 else none) else none
noncomputable def Pm {α:Type} (x:α) (_:Addr):α:=x
abbrev L4 (K:Frag) (f:Addr):Prop:=K.lookup f=some ⟨(pS K f).cls,(pS K f).dict,.func (yP K f),(pS K f).slots⟩
theorem ya {Φ:AV->OL->Prop} {u:Hq} (ps:cL) (ρ:cK) (ds:cM) (os:cQ) (r8:OL) (ai:List eX) (hB:f7 B) (hb:fE B (yP (fN B.P) f) ps ah (mF ρ ds)) (hq:u.c)
 (hΦ:∀ d o,Cq u.k (λbs=>d=u.v.to (ρ++bs)/\o=dC (ρ++bs) u.rest u.objs)->Φ d o) (eo:dC ρ r8 os=oe) (ho:L4 (fN B.P) f) (e:BY hB n f ps ρ ds os r8 ai=Pm (some u)):cY B (n+1) f ah oe Φ:=by
 have e':=λL=>congrFun e L
 unfold BY at e'
 induction h:Rz (fN B.P) f ps ds.length using Bool.casesOn with
 | false=>rw[h]at e';exact nomatch e' 0
 | true=>
  rw[h]at e'
  by_cases fu:tp (io (fN B.P) f).scope=true
  . exact Gf ps _ ρ ds os r8 ai hB.K (np hB) ho hb hq hΦ h fu eo λL=>(dif_pos fu).symm.trans (e' L)
  . exact nomatch (dif_neg fu).symm.trans (e' 0)
theorem jU {o5:OL} {d:AV} (ps:cL) (ρ:cK) (ds:cM) (os:cQ) (r8:OL) (ai:List eX) (v:DV) (os':cQ) (r9:OL) (hB:f7 B) (hq:q) (hb:fE B (yP (fN B.P) f) ps ah (mF ρ ds):=by first | exact .one (by intro y;kernel_rfl) | exact .two (by intro y y;kernel_rfl))
 (eo:autoParam (dC ρ r8 os=oe) bK) (e1:autoParam (v.to ρ=d) bK) (e2:autoParam (dC ρ r9 os'=o5) bK) (ho:autoParam (L4 (fN B.P) f) bK)
 (e:autoParam (BY hB n f ps ρ ds os r8 ai=Pm (some ⟨q,0,v,os',r9⟩)) bK):
 cY B (n+1) f ah oe λd' o=>d'=d/\o=o5:=by
 subst e1 e2
 exact ya (u:=⟨q,0,v,os',r9⟩) ps ρ ds os r8 ai hB hb hq (λd o (h:d=v.to (ρ++[])/\o=dC (ρ++[]) r9 os')=>by rw[bX]at h;exact h) eo ho e
end
theorem fG {K:Frag} {ρ:cK} (hB:f7 X.B) (hK:autoParam (K=fN X.B.P) bR) (h1:autoParam (X.env.scope.kind=.function) bK) (h2:autoParam (X.env.locals=X.L) bR) (h3:autoParam (X.env.globals=mainGlobals) bR) (h4:autoParam (X.env.builtins=builtinsNs) bR):gn ⟨X,K,ρ,tc,[]⟩:=⟨hB.K.trans hK.symm,h1,h2,h3,h4,np hB,nofun⟩
theorem uV {K:Frag} {ρ:cK} (hB:f7 X.B) (hc:∀ x i,gK x cl=some i->X.env.cells.lookup x=some (dO ρ i)/\i < ρ.length) (hK:autoParam (K=fN X.B.P) bR) (h1:autoParam (X.env.scope.kind=.function) bK) (h2:autoParam (X.env.locals=X.L) bR) (h3:autoParam (X.env.globals=mainGlobals) bR) (h4:autoParam (X.env.builtins=builtinsNs) bR):gn ⟨X,K,ρ,tc,cl⟩:=⟨hB.K.trans hK.symm,h1,h2,h3,h4,np hB,hc⟩
theorem fx {ss:cH} {f:Fl} (ρ:cK) (D D':DS) (ai:List eX) (fd:DF) (O:gn ⟨X,fN X.B.P,ρ,tc,cl⟩) (hq:q) (h1:autoParam (D.to ρ=σ) bK) (h2:autoParam (D'.to ρ=σ') bK) (h3:autoParam (fd.to ρ=f) bK)
 (e:autoParam (qJ O ss D ai=some (fd,⟨D',0,[],q⟩)) bK):jC X ss σ f σ':=by
 subst h1 h2 h3
 exact mT O hq e
theorem BN {b:Bool} (ρ:cK) (D D':DS) (ai:List eX) (O:gn ⟨X,fN X.B.P,ρ,tc,cl⟩) (hq:q) (h1:autoParam (D.to ρ=σ) bK) (h2:autoParam (D'.to ρ=σ') bK)
 (e:autoParam (vx O t D ai=some (b,⟨D',0,[],q⟩)) bK):Te X t σ b σ':=by
 subst h1 h2
 exact pL O hq e
theorem zC {d:AV} (ρ:cK) (D D':DS) (ai:List eX) (v:DV) (O:gn ⟨X,fN X.B.P,ρ,tc,cl⟩) (hq:q) (h1:autoParam (D.to ρ=σ) bK) (h2:autoParam (D'.to ρ=σ') bK) (h3:autoParam (v.to ρ=d) bK)
 (e:autoParam (we O t D ai=some (v,⟨D',0,[],q⟩)) bK):Ev X t σ d σ':=by
 subst h1 h2 h3
 exact pZ O hq e
theorem OX {ss:cH} {Q:PF} (ρ:cK) (D D':DS) (ai:List eX) (k:Nat) (fd:DF) (O:gn ⟨X,fN X.B.P,ρ,tc,cl⟩) (hq:q) (hQ:∀ f σ',(Cq k λbs=>f=fd.to (ρ++bs)/\σ'=D'.to (ρ++bs))->Q f σ') (h1:autoParam (D.to ρ=σ) bK)
 (e:autoParam (qJ O ss D ai=some (fd,⟨D',k,[],q⟩)) bK):dT X ss σ Q:=by
 subst h1;exact⟨λH Φ w=>(tE O hq e).run H Φ λf σ' z=>w _ _ (hQ _ _ z)⟩
theorem qH {c c':Bool} (h:Te X t σ c σ') (q:c=c'):Te X t σ c' σ':=q▸h
theorem PN {a1:St} {f:Fl} (h:Ex X st σ f a1) (e:a1=σ'):Ex X st σ f σ':=e▸h
theorem big {n m:Nat} (h:n<=m) (q:autoParam (Nat.ble m 16777216=true) bR):n<=16777216:=dt h (dR q)
variable {X:Cx} {cl:List (Str×Nat)} {σ σ':St} {t:Expr} {st:Stmt}
theorem yG {e9:Env}:execs [st] e9=exec st e9:=by
 rw[execs_cons];exact(bind_congr λf=>by rcases f with _ | _<;>rfl).trans (bind_pure _)
theorem jQ {f:Fl} (h:jC X [st] σ f σ'):Ex X st σ f σ':=⟨λH Φ k=>by
 have:=h.run H Φ k
 rw[yG]at this
 exact this⟩
end
section
variable {B:cX} {r8 oe:OL}
noncomputable abbrev Gq (x dx:Addr) (t:cF) (p:Int):Addr×AO:=(x,.inst 73 dx [("text",.str t),("place",.int p)])
noncomputable def Pe (k:Nat) (dx:Addr) (t:cF) (p:Int):Nat×DO:=(k,.inst 73 dx [("text",.av (.str t)),("place",.av (.int p))])
theorem xk (hB:f7 B) {x dx:Addr} {t D:cF} {p size:Int} (hz:t.length<=16777216) (hD:sl t (some p) (some (p+size))=D):
 cY B 1 70 [.ref x,.int size] (Gq x dx t p::r8) λd oe=>d=.str D/\oe=Gq x dx t (p+D.length)::r8:=by
 subst hD;exact jU ["self","size"] [x] [.slot 0,.av (.int size)] [Pe 0 dx t p] r8 [] (.av (.str (sl t (some p) (some (p+size))))) [Pe 0 dx t (p+(sl t (some p) (some (p+size))).length)] r8 hB (qa (qa trivial hz) (dt (uC t (some p) (some (p+size))) hz))
theorem vt (hB:f7 B) {x dx:Addr} {t:cF}:cY B 1 63 [.ref x,.str t] ((x,.inst 73 dx [])::r8) λd oe=>d=.none/\oe=Gq x dx t 0::r8:=
 jU ["self","text"] [x] [.slot 0,.av (.str t)] [(0,.inst 73 dx [])] r8 [] (.av .none) [Pe 0 dx t 0] r8 hB trivial
noncomputable def EN (n:Int):Bool:=(decide (1<=n)&&decide (n<=8))||(decide (n=11)||((decide (14<=n)&&decide (n<=31))||((decide (127<=n)&&decide (n<=159))||((decide (64976<=n)&&decide (n<=65007))||(decide (n.fmod 65536∈[65534,65535])||(decide (55296<=n)&&decide (n<=57343)))))))
theorem yt (hB:f7 B) {c:Int}:eG B 1 84 [.int c] (.bool (EN c)):=λoe=>
 jU ["codepoint"] [] [.av (.int c)] [] oe [] (.av (.bool (EN c))) [] oe hB trivial
noncomputable def jj (pc:Int) (c:cF) (og:Int):Int:=if iz 10 c og= -1 then pc+og else og - (iz 10 c og+1)
noncomputable abbrev Sb (st tx er:Addr) (c:cF) (sz og pl pc:Int) (b4:AV):FL:=
 [("reportCharacterErrors",.meth 148 st),("newLines",.lst [.int 0]),("dataStream",.ref tx),("chunk",.str c),("chunkSize",.int sz),("chunkOffset",.int og),("errors",.ref er),("prevNumLines",.int pl),("prevNumCols",.int pc),("_bufferedCharacter",b4)]
noncomputable abbrev xZ (st dx tx er:Addr) (c:cF) (sz og pl pc:Int) (b4:AV):Addr×AO:=(st,.inst 166 dx (Sb st tx er c sz og pl pc b4))
noncomputable def Ek (s:Nat) (tx er:DV) (c:cF) (sz og pl pc:Int) (b4:AV):List (Str×DV):=
 [("reportCharacterErrors",.meth 148 s),("newLines",.av (.lst [.int 0])),("dataStream",tx),("chunk",.av (.str c)),("chunkSize",.av (.int sz)),("chunkOffset",.av (.int og)),("errors",er),("prevNumLines",.av (.int pl)),("prevNumCols",.av (.int pc)),("_bufferedCharacter",.av b4)]
noncomputable abbrev dI:AV:=.str (sg "invalid-codepoint")
noncomputable def bads (l:cF):cG:=(l.filter λ(c:Nat)=>EN (c:Int)).map λy=>dI
section
variable {st dx tx t7 er:Addr} {c t:cF} {sz og pl pc p:Int} {b4:AV} {es:cG}
noncomputable abbrev vD (dx tx er:Addr) (c:cF) (sz og pl pc:Int) (b4:AV):cQ:=[(0,.inst 166 dx (Ek 0 (.av (.ref tx)) (.av (.ref er)) c sz og pl pc b4))]
theorem BS (hB:f7 B) {o:Int}:cY B 1 119 [.ref st,.int o] (xZ st dx tx er c sz og pl pc b4::r8) λd oe=>d=.tup [.int (pl+fO 10 c o),.int (jj pc c o)]/\oe=xZ st dx tx er c sz og pl pc b4::r8:=by
 unfold jj
 by_cases h:iz 10 c o= -1
 . exact(cE h)▸(jU ["self","offset"] [st] [.slot 0,.av (.int o)] (vD dx tx er c sz og pl pc b4) r8 [.br true] (.av (.tup [.int (pl+fO 10 c o),.int (pc+o)])) (vD dx tx er c sz og pl pc b4) r8 hB (qa trivial (cc h)))
 . exact(cC h)▸(jU ["self","offset"] [st] [.slot 0,.av (.int o)] (vD dx tx er c sz og pl pc b4) r8 [.br false] (.av (.tup [.int (pl+fO 10 c o),.int (o - (iz 10 c o+1))])) (vD dx tx er c sz og pl pc b4) r8 hB (qa trivial (bS h)))
theorem vM (hB:f7 B):cY B 2 126 [.ref st] (xZ st dx tx er c sz og pl pc b4::r8) λd oe=>d=.tup [.int (pl+fO 10 c og+1),.int (jj pc c og)]/\oe=xZ st dx tx er c sz og pl pc b4::r8:=
 jU ["self"] [st] [.slot 0] (vD dx tx er c sz og pl pc b4) r8 [.call 0 (.av (.tup [.int (pl+fO 10 c og),.int (jj pc c og)])) (vD dx tx er c sz og pl pc b4) r8 1] (.av (.tup [.int (pl+fO 10 c og+1),.int (jj pc c og)])) (vD dx tx er c sz og pl pc b4) r8 hB
  (qa trivial (BS (r8:=r8) (dx:=dx) (st:=st) (tx:=tx) (er:=er) (c:=c) (sz:=sz) (og:=og) (pl:=pl) (pc:=pc) (b4:=b4) hB (o:=og)))
noncomputable abbrev sO (st dx tx t7 er:Addr) (c:cF) (sz og pl pc:Int) (b4:AV) (t:cF) (p:Int) (es:cG) (r8:OL):OL:=xZ st dx tx er c sz og pl pc b4::Gq tx t7 t p::(er,.list es)::r8
noncomputable def j5 (k:Nat) (dx t7:Addr) (c:cF) (sz og pl pc:Int) (b4:AV) (t:cF) (p:Int) (es:cG) (ps:cM) (r:cQ):cQ:=
 (k,.inst 166 dx (Ek k (.slot (k+1)) (.slot (k+2)) c sz og pl pc b4))::Pe (k+1) t7 t p::(k+2,.list es ps)::r
theorem xc (hB:f7 B) (hz:t.length<=16777216) (hD:sl t (some p) (some (p+10240))=[]):
 cY B 3 141 [.ref st] (sO st dx tx t7 er c sz og pl pc .none t p es r8) λd oe=>d=.bool false/\oe=sO st dx tx t7 er [] 0 0 (pl+fO 10 c sz) (jj pc c sz) .none t p es r8:=by
 have hr:=(xk (x:=tx) (dx:=t7) (r8:=xZ st dx tx er [] 0 0 (pl+fO 10 c sz) (jj pc c sz) .none::(er,.list es)::r8) hB hz hD).second
 exact CE (k:=0) (v:=.av (.bool false)) (o5:=j5 0 dx t7 [] 0 0 (pl+fO 10 c sz) (jj pc c sz) .none t (p+((0:Nat):Int)) es [] []) (r9:=r8) ["self","chunkSize"] ["data","lastv"] [st,tx,er] [.slot 0,.av .none] (j5 0 dx t7 c sz og pl pc .none t p es [] []) r8
  [.call 0 (.av (.tup [.int (pl+fO 10 c sz),.int (jj pc c sz)])) (j5 0 dx t7 c sz og pl pc .none t p es [] []) r8 1,.call 0 (.av (.str [])) (j5 0 dx t7 [] 0 0 (pl+fO 10 c sz) (jj pc c sz) .none t (p+((0:Nat):Int)) es [] []) r8 1,.br false]
  hB.K (np hB) rfl (.dflt rfl (by rw[hB.K];rfl) rfl (λy=>rfl) (λy=>rfl) n9)
  (qa (qa (qa (qa trivial (BS (r8:=Gq tx t7 t p::(er,.list es)::r8) (dx:=dx) (st:=st) (tx:=tx) (er:=er) (c:=c) (sz:=sz) (og:=og) (pl:=pl) (pc:=pc) (b4:=.none) hB (o:=sz))) hr) (big (m:=0) (cv _))) ff)
  (λd o (h:d= _/\o=dC ([st,tx,er]++[]) r8 _)=>⟨h.1,h.2.trans (by rw[show p+((0:Nat):Int)=p from Int.add_zero p];kernel_rfl)⟩) (by kernel_rfl) (by kernel_rfl) (by kernel_rfl) (by intro L;kernel_rfl)
end
end
section
variable {B:cX} {r8:OL}
theorem yR (l:cF) {i:Nat} (h:i < l.length):bads (l.take (i+1))=bads (l.take i)++(if EN ((l.getD i 0:Nat):Int) then [dI] else []):=by
 have e:l.getD i 0=l[i]:=by simp[h]
 rw[e,List.take_add_one,b9 h];unfold bads;rw[List.filter_append,bV]
 congr 1
 simp only[Option.toList,List.filter_cons,List.filter_nil]
 split<;>rfl
theorem Eo (l:cF) (i:Nat):(bads (l.take i)).length<=l.length:=by
 unfold bads;rw[bZ];exact dt (List.length_filter_le _ _) (by rw[List.length_take];exact Nat.min_le_right _ _)
noncomputable abbrev iI (l:cF):cF:=gZ (gZ l [13,10] [10]) [13] [10]
section
variable {st dx tx t7 er:Addr} {c t D:cF} {sz og pl pc p:Int} {es:cG} {z:Nat} {b4:AV}
noncomputable def Gr (dx tx:Addr) (c:cF) (sz og pl pc:Int) (b4:AV) (q tO:AO) (l:cG) (ps:cM):cQ:=[(0,.ao q),(1,.inst 166 dx (Ek 1 (.av (.ref tx)) (.slot 3) c sz og pl pc b4)),(2,.ao tO),(3,.list l ps)]
noncomputable def Pg (D:cF) (g:Nat):cU:=[("self",some (.slot 1)),("data",some (.av (.str D))),("c",some (.av (.str [g])))]
theorem yw (hB:f7 B) {tO:Addr×AO} (hz:es.length+D.length<=16777216):cY B 2 148 [.ref st,.str D] (xZ st dx tx er c sz og pl pc b4::tO::(er,.list es)::r8) λd oe=>d=.none/\oe=xZ st dx tx er c sz og pl pc b4::tO::(er,.list (es++bads D))::r8:=by
 refine uk ["self","data"] ["c"] (by rw[hB.K];rfl) (by rw[hB.K];kernel_rfl) (.two λy y=>rfl) λL=>?_
 refine⟨_,_,_,gQ (AP (N:=D.length) (i3:=λi=>.str [D.getD i 0]) (d:=.str D) (λi=>[("self",some (.ref st)),("data",some (.str D)),("c",if i=0 then none else some (.str [D.getD (i - 1) 0]))]) (λi=>xZ st dx tx er c sz og pl pc b4::tO::(er,.list (es++bads (D.take i)))::r8) ?_ (λxv=>sX) ?_) gM,rfl,?_⟩
 . show Ev _ _ _ _ ⟨[("self",some (.ref st)),("data",some (.str D)),("c",none)],xZ st dx tx er c sz og pl pc b4::tO::(er,.list (es++[]))::r8⟩
   rw[bX];exact cW iL
 . intro i hi a q
   have hc:=yt hB (c:=(D.getD i 0:Nat))
   have hb:(es++bads (D.take i)).length<=16777216:=by have:=Eo D i;rw[bt];omega
   have ec:(if i+1=0 then none else some (AV.str [D.getD (i+1 - 1) 0]))=some (.str [D.getD i 0]):=cC (Nat.succ_ne_zero i)
   rw[ec,yR D hi];refine⟨⟨[("self",some (.ref st)),("data",some (.str D)),("c",some (.str [D.getD i 0]))],(a,.is q)::xZ st dx tx er c sz og pl pc b4::tO::(er,.list (es++bads (D.take i)))::r8⟩,eV (fc (.skip (.skip .hit))),?_⟩
   clear ec
   by_cases h:EN ((D.getD i 0:Nat):Int)=true
   . rw[cE h,<-bB]
     generalize es++bads (D.take i)=l at hb |-
     generalize D.getD i 0=g at hc h |-
     exact fx [a,st,tO.1,er] ⟨Pg D g,Gr dx tx c sz og pl pc b4 (.is q) tO.2 l [],r8⟩
      ⟨Pg D g,Gr dx tx c sz og pl pc b4 (.is q) tO.2 l [.av dI],r8⟩
      [.call 0 (.av (.bool (EN g))) (Gr dx tx c sz og pl pc b4 (.is q) tO.2 l []) r8 1,.br true] .next (fG hB) (qa (qa (qa trivial (hc (dC [a,st,tO.1,er] r8 (Gr dx tx c sz og pl pc b4 (.is q) tO.2 l [])))) h) hb)
   . rw[cC h,bX]
     have h:=bA.mpr h
     generalize es++bads (D.take i)=l at hb |-
     generalize D.getD i 0=g at hc h |-
     exact fx [a,st,tO.1,er] ⟨Pg D g,Gr dx tx c sz og pl pc b4 (.is q) tO.2 l [],r8⟩
      ⟨Pg D g,Gr dx tx c sz og pl pc b4 (.is q) tO.2 l [],r8⟩
      [.call 0 (.av (.bool (EN g))) (Gr dx tx c sz og pl pc b4 (.is q) tO.2 l []) r8 1,.br false] .next (fG hB) (qa (qa trivial (hc (dC [a,st,tO.1,er] r8 (Gr dx tx c sz og pl pc b4 (.is q) tO.2 l [])))) h)
 . rw[bG]
end
section
variable {B:cX} {r8:OL} {st dx tx t7 er:Addr} {c t D:cF} {sz og pl pc p:Int} {es:cG} {z:Nat} {b4:AV}
noncomputable def sN (N:Int) (d l:cN):cU:=[("self",some (.slot 0)),("chunkSize",some (.av (.int N))),("data",d.map .av),("lastv",l.map .av)]
theorem zo:("\r\n":Str)=S [13,10]:=by kernel_rfl
theorem xi:("\n":Str)=S [10]:=by kernel_rfl
theorem D8:("\r":Str)=S [13]:=by kernel_rfl
theorem Fk {l:LL} {y:Str} {v:cN}:∀ x d,(x,some d)∈l++[(y,none)]->(x,some d)∈l++[(y,v)]:=λx d m=>(bT.mp m).elim (λh=>bT.mpr (.inl h)) λh=>nomatch bq.mp h
theorem KP {z:Nat} (h:¬ (55296<=z/\z<=56319)):(decide ((55296:Int)<=(z:Int))&&decide ((z:Int)<=56319))=false:=by
 by_cases q:55296<=z
 . rw[bS (p:=(z:Int)<=56319) λw=>h ⟨q,ci.mp w⟩,Bool.and_false]
 . rw[bS (p:=(55296:Int)<=(z:Int)) λw=>q (ci.mp w)];rfl
theorem LS {X:Cx} {ss:cH} {l8 l9:LL} {oe:OL} {fl:Fl} {σ':St} (h:Ey X ss ⟨l9,oe⟩ fl σ') (e:∀ x d,(x,some d)∈l9->(x,some d)∈l8) (nd:(l9.map (·.1)).Nodup):Ey X ss ⟨l8,oe⟩ fl σ':=
 ⟨λH Φ k=>⟨λA F s hA ht Y=>cx ((h.run H Φ k).run A F s hA ht ⟨Y.core,Y.sub,let ⟨m,hm,r⟩:=Y.loc;⟨m,hm,λy d hy=>r y d (e y d hy)⟩,nd,Y.objs,Y.nodup,Y.apart,Y.held,Y.low⟩) (λv s' z=>let ⟨F',σ',x,p,q⟩:=z;⟨F',σ',x,p,q⟩) λw w z=>z⟩⟩
theorem CA (hB:f7 B) {lv:cN} (hz:t.length<=16777216) (hD:sl t (some p) (some (p+10240))=D) (h0:D≠[])
 (h2 :D.length<=1/\lv=none\/1 < D.length/\∃ z,zc D (-1)=some z/\lv=some (.int z)/\z≠13/\¬ (55296<=z/\z<=56319))
 (hs :D.length<=1048576) (he:es.length+D.length<=16777216) (hr:(gZ D [13,10] [10]).length<=1048576) (hr':(gZ (gZ D [13,10] [10]) [13] [10]).length<=1048576):
 cY B 3 141 [.ref st] (sO st dx tx t7 er c sz og pl pc AV.none t p es r8) λd oe=>d=.bool true/\oe=sO st dx tx t7 er (iI D) (iI D).length 0 (pl+fO 10 c sz) (jj pc c sz) AV.none t (p+D.length) (es++bads D) r8:=by
 have hp:=BS (r8:=Gq tx t7 t p::(er,.list es)::r8) (dx:=dx) (st:=st) (tx:=tx) (er:=er) (c:=c) (sz:=sz) (og:=og) (pl:=pl) (pc:=pc) (b4:=.none) hB (o:=sz)
 generalize pl+(fO 10 c sz:Int)=A,jj pc c sz=C at hp |-
 have hrd:=(xk (x:=tx) (dx:=t7) (r8:=xZ st dx tx er [] 0 0 A C .none::(er,.list es)::r8) hB hz hD).second
 generalize p+(D.length:Int)=P at hrd |-
 have hce:=yw (r8:=r8) (dx:=dx) (st:=st) (tx:=tx) (er:=er) (c:=[]) (sz:=0) (og:=0) (pl:=A) (pc:=C) (b4:=.none) (tO:=Gq tx t7 t P) hB he
 have aQ:D.length<=16777216:=big hs
 clear hz hD;have tail:∀ L,jC ⟨B,2,L,envOf "HTMLUnicodeInputStream.readChunk" (il vq) L 141 (.ref 140)⟩ ((fj vq).drop 1) ⟨[("self",some (.ref st)),("chunkSize",some (.int 10240)),("data",none),("lastv",none)],sO st dx tx t7 er c sz og pl pc .none t p es r8⟩ (.ret (.bool true)) ⟨[("self",some (.ref st)),("chunkSize",some (.int 10240)),("data",some (.str (iI D))),("lastv",none)],sO st dx tx t7 er (iI D) (iI D).length 0 A C .none t P (es++bads D) r8⟩:=by
  intro L;refine gQ (a1:=⟨[("self",some (.ref st)),("chunkSize",some (.int 10240)),("data",none),("lastv",none)],sO st dx tx t7 er c sz og A C .none t p es r8⟩) (jQ (fx [st,tx,er] ⟨sN 10240 none none,j5 0 dx t7 c sz og pl pc .none t p es [] [],r8⟩ ⟨sN 10240 none none,j5 0 dx t7 c sz og A C .none t p es [] [],r8⟩ [.call 0 (.av (.tup [.int A,.int C])) (j5 0 dx t7 c sz og pl pc .none t p es [] []) r8 1] .next (fG hB) (qa trivial hp))) ?_
  refine gQ (a1:=⟨[("self",some (.ref st)),("chunkSize",some (.int 10240)),("data",none),("lastv",none)],sO st dx tx t7 er [] sz og A C .none t p es r8⟩) (jQ (fx [st,tx,er] ⟨sN 10240 none none,j5 0 dx t7 c sz og A C .none t p es [] [],r8⟩ ⟨sN 10240 none none,j5 0 dx t7 [] sz og A C .none t p es [] [],r8⟩ [] .next (fG hB) trivial)) ?_
  refine CP (a1:=⟨[("self",some (.ref st)),("chunkSize",some (.int 10240)),("data",none),("lastv",none)],sO st dx tx t7 er [] sz og A C .none t p es r8⟩) (o:=.ref st) (a2:=⟨[("self",some (.ref st)),("chunkSize",some (.int 10240)),("data",none),("lastv",none)],sO st dx tx t7 er [] 0 og A C .none t p es r8⟩) (cW dH) (tQ dH (.skip (by kernel_rfl) (.skip (by kernel_rfl) (.skip (by kernel_rfl) (.skip (by kernel_rfl) .hit)))) .head (by rw[hB.K];kernel_rfl)) ?_
  refine qA (a1:=⟨[("self",some (.ref st)),("chunkSize",some (.int 10240)),("data",none),("lastv",none)],sO st dx tx t7 er [] 0 0 A C .none t p es r8⟩) (jQ (fx [st,tx,er] ⟨sN 10240 none none,j5 0 dx t7 [] 0 og A C .none t p es [] [],r8⟩ ⟨sN 10240 none none,j5 0 dx t7 [] 0 0 A C .none t p es [] [],r8⟩ [] .next (fG hB) trivial)) ?_
  refine qA (a1:=⟨[("self",some (.ref st)),("chunkSize",some (.int 10240)),("data",some (.str D)),("lastv",none)],sO st dx tx t7 er [] 0 0 A C .none t P es r8⟩) (jQ (fx [st,tx,er] ⟨sN 10240 none none,j5 0 dx t7 [] 0 0 A C .none t p es [] [],r8⟩ ⟨sN 10240 (some (.str D)) none,j5 0 dx t7 [] 0 0 A C .none t P es [] [],r8⟩ [.call 0 (.av (.str D)) (j5 0 dx t7 [] 0 0 A C .none t P es [] []) r8 1] .next (fG hB) (qa trivial hrd))) ?_
  refine qA (a1:=⟨[("self",some (.ref st)),("chunkSize",some (.int 10240)),("data",some (.str D)),("lastv",none)],sO st dx tx t7 er [] 0 0 A C .none t P es r8⟩) (jQ ?_) ?_
  . clear h2 hce hrd hp
    exact fx [st,tx,er] ⟨sN 10240 (some (.str D)) none,j5 0 dx t7 [] 0 0 A C .none t P es [] [],r8⟩ ⟨sN 10240 (some (.str D)) none,j5 0 dx t7 [] 0 0 A C .none t P es [] [],r8⟩ [.br true] .next (fG hB) (qa (qa trivial aQ) (show(!decide (D=[]))=true by rw[bS h0];rfl))
  refine qA (a1:=⟨[("self",some (.ref st)),("chunkSize",some (.int 10240)),("data",some (.str D)),("lastv",lv)],sO st dx tx t7 er [] 0 0 A C .none t P es r8⟩) (jQ ?_) ?_
  . clear hce hrd hp
    rcases h2 with⟨h2,rfl⟩ | ⟨h2,z,hl,rfl,h13,hsur⟩
    . exact fx [st,tx,er] ⟨sN 10240 (some (.str D)) none,j5 0 dx t7 [] 0 0 A C .none t P es [] [],r8⟩ ⟨sN 10240 (some (.str D)) none,j5 0 dx t7 [] 0 0 A C .none t P es [] [],r8⟩ [.br false] .next (fG hB) (qa (qa trivial aQ) (bS λq=>Nat.not_lt_of_le h2 (Int.ofNat_lt.mp q)))
    . exact fx [st,tx,er] ⟨sN 10240 (some (.str D)) none,j5 0 dx t7 [] 0 0 A C .none t P es [] [],r8⟩ ⟨sN 10240 (some (.str D)) (some (.int z)),j5 0 dx t7 [] 0 0 A C .none t P es [] [],r8⟩ [.br true,.ch z,.br false,.br false] .next (fG hB) (qa (qa (qa (qa (qa (qa trivial aQ) (cc (show(1:Int) < (D.length:Int)by exact ci.mpr ‹_›))) hl) aQ) (bS λq=>h13 (Int.ofNat.inj q))) (KP hsur))
  clear h2 hrd hp;refine LS (l9:=[("self",some (.ref st)),("chunkSize",some (.int 10240)),("data",some (.str D)),("lastv",none)]) ?_ (Fk (l:=[_,_,_])) (fQ (by kernel_rfl))
  refine qA (a1:=⟨[("self",some (.ref st)),("chunkSize",some (.int 10240)),("data",some (.str D)),("lastv",none)],sO st dx tx t7 er [] 0 0 A C .none t P (es++bads D) r8⟩) (jQ (fx [st,tx,er] ⟨sN 10240 (some (.str D)) none,j5 0 dx t7 [] 0 0 A C .none t P es [] [],r8⟩ ⟨sN 10240 (some (.str D)) none,j5 0 dx t7 [] 0 0 A C .none t P (es++bads D) [] [],r8⟩ [.call 0 (.av .none) (j5 0 dx t7 [] 0 0 A C .none t P (es++bads D) [] []) r8 2] .next (fG hB) (qa trivial hce))) ?_
  clear hce;refine wK zo xi qB (.skip (.skip .hit)) hs ?_
  refine wK D8 xi qB (.skip (.skip .hit)) hr ?_
  have hn:(iI D).length<=16777216:=big hr'
  exact MF (fx [st,tx,er] ⟨sN 10240 (some (.str (iI D))) none,j5 0 dx t7 [] 0 0 A C .none t P (es++bads D) [] [],r8⟩ ⟨sN 10240 (some (.str (iI D))) none,j5 0 dx t7 (iI D) (iI D).length 0 A C .none t P (es++bads D) [] [],r8⟩ [] (.ret (.av (.bool true))) (fG hB) (qa trivial hn))
 refine uk ["self","chunkSize"] ["data","lastv"] (by rw[hB.K];rfl) (by rw[hB.K];kernel_rfl) (.dflt rfl (by rw[hB.K];rfl) rfl (λy=>rfl) (λy=>rfl) n9) λL=>?_
 exact⟨.ret (.bool true),[("self",some (.ref st)),("chunkSize",some (.int 10240)),("data",some (.str (iI D))),("lastv",none)],sO st dx tx t7 er (iI D) (iI D).length 0 A C .none t P (es++bads D) r8,gQ (a1:=⟨[("self",some (.ref st)),("chunkSize",some (.int 10240)),("data",none),("lastv",none)],sO st dx tx t7 er c sz og pl pc .none t p es r8⟩) (jQ (fx [st,tx,er] ⟨[("self",some (.slot 0)),("chunkSize",some (.av .none)),("data",none),("lastv",none)],j5 0 dx t7 c sz og pl pc .none t p es [] [],r8⟩ ⟨sN 10240 none none,j5 0 dx t7 c sz og pl pc .none t p es [] [],r8⟩ [] .next (fG hB) trivial)) (tail L),rfl,rfl⟩
end
end
section
variable {B:cX} {r8:OL}
section
variable {st dx tx t7 er tk k9:Addr} {c c' t D:cF} {sz og pl pc p p' pl' pc':Int} {es ej:cG} {z:Nat} {b4 b6:AV}
theorem J4 (hB:f7 B) {v:AV}:cY B 3 112 [v,.str t] r8 λd oe=>∃ tx t7,d=.ref tx/\oe=Gq tx t7 t 0::r8:=by
 refine ug ["self","source"] ["stream"] (by rw[hB.K];rfl) (by rw[hB.K];kernel_rfl) (.two λy y=>rfl) λL=>?_
 refine Ba (m:=1) (n':=1) (eZ (v:=.ref 73) (by refine hB.K▸?_;kernel_rfl)) (fS (by refine hB.K▸?_;kernel_rfl)) (de (cW iL) dD) (by refine hB.K▸?_;kernel_rfl) (by refine hB.K▸?_;kernel_rfl) (by refine hB.K▸?_;kernel_rfl) (λx dx=>vt hB) rfl (by decide) ?_
 rintro tx t7 _ _ ⟨rfl,rfl⟩;exact⟨rfl,_,.skip (.skip .hit),gi (jN (jG (cW qB))) ⟨_,rfl,_,_,rfl,rfl⟩⟩
theorem vX (hB:f7 B) {i:Nat} (hi:i < c.length) (hz:c.length<=16777216):cY B 4 133 [.ref st] (sO st dx tx t7 er c c.length i pl pc b4 t p es r8) λd o=>d=.str [c[i]]/\o=sO st dx tx t7 er c c.length (i+1) pl pc b4 t p es r8:=
 jU ["self"] [st,tx,er] [.slot 0] (j5 0 dx t7 c c.length i pl pc b4 t p es [] []) r8 [.br false,.ch c[i]] (.av (.str [c[i]])) (j5 0 dx t7 c c.length (i+1) pl pc b4 t p es [] []) r8 hB
  (qa (qa (qa trivial (bS (show ¬ (c.length:Int)<=(i:Int)by omega))) (mQ hi)) hz)
theorem ro (hB:f7 B) (ho:sz<=og) {c':cF} {sz' off' pl' pc' p':Int} {b6:AV} {ej:cG} (hr:cY B 3 141 [.ref st] (sO st dx tx t7 er c sz og pl pc b4 t p es r8) λd o=>d=.bool false/\o=sO st dx tx t7 er c' sz' off' pl' pc' b6 t p' ej r8):
 cY B 4 133 [.ref st] (sO st dx tx t7 er c sz og pl pc b4 t p es r8) λd o=>d=.none/\o=sO st dx tx t7 er c' sz' off' pl' pc' b6 t p' ej r8:=
 jU ["self"] [st,tx,er] [.slot 0] (j5 0 dx t7 c sz og pl pc b4 t p es [] []) r8 [.br true,.call 0 (.av (.bool false)) (j5 0 dx t7 c' sz' off' pl' pc' b6 t p' ej [] []) r8 3,.br false] (.av .none) (j5 0 dx t7 c' sz' off' pl' pc' b6 t p' ej [] []) r8 hB
  (qa (qa (qa trivial (cc ho)) hr) ff)
theorem vL (hB:f7 B) (ho:sz<=og) (hz:c'.length<=16777216) (h0:0 < c'.length) (hr:cY B 3 141 [.ref st] (sO st dx tx t7 er c sz og pl pc b4 t p es r8) λd o=>d=.bool true/\o=sO st dx tx t7 er c' c'.length 0 pl' pc' b6 t p' ej r8):
 cY B 4 133 [.ref st] (sO st dx tx t7 er c sz og pl pc b4 t p es r8) λd o=>d=.str [c'[0]]/\o=sO st dx tx t7 er c' c'.length 1 pl' pc' b6 t p' ej r8:=
 jU ["self"] [st,tx,er] [.slot 0] (j5 0 dx t7 c sz og pl pc b4 t p es [] []) r8 [.br true,.call 0 (.av (.bool true)) (j5 0 dx t7 c' c'.length 0 pl' pc' b6 t p' ej [] []) r8 3,.br true,.ch c'[0]] (.av (.str [c'[0]])) (j5 0 dx t7 c' c'.length 1 pl' pc' b6 t p' ej [] []) r8 hB
  (qa (qa (qa (qa (qa trivial (cc ho)) hr) tt) (mQ (k:=0) h0)) hz)
theorem El (hB:f7 B) {i:Nat} (hi:i < c.length) (hz:c.length<=16777216):cY B 1 163 [.ref st,.str [c[i]]] (sO st dx tx t7 er c c.length (i+1:Nat) pl pc b4 t p es r8) λd o=>d=.none/\o=sO st dx tx t7 er c c.length i pl pc b4 t p es r8:=by
 have e:((i+1:Nat):Int) - 1=(i:Nat):=by simp+arith
 have hl:zc c (((i+1:Nat):Int) - 1)=some c[i]:=by refine e▸?_;exact mQ hi
 refine(show(sO st dx tx t7 er c c.length i pl pc b4 t p es r8)=sO st dx tx t7 er c c.length (((i+1:Nat):Int) - 1) pl pc b4 t p es r8 by rw[e])▸?_
 exact jU ["self","char"] [st,tx,er] [.slot 0,.av (.str [c[i]])] (j5 0 dx t7 c c.length (i+1:Nat) pl pc b4 t p es [] []) r8 [.br false,.ch c[i],.br true] (.av .none) (j5 0 dx t7 c c.length (((i+1:Nat):Int) - 1) pl pc b4 t p es [] []) r8 hB
  (qa (qa (qa (qa trivial (bS (show ¬ ((i+1:Nat):Int)=0 by omega))) hl) hz) (cc (rfl:[c[i]]=[c[i]])))
theorem uA (hB:f7 B) {v:Addr}:cY B 1 163 [.ref v,.none] r8 λd o=>d=.none/\o=r8:=
 jU ["self","char"] [] [.av (.ref v),.av .none] [] r8 [] (.av .none) [] r8 hB trivial
noncomputable abbrev P6 (st tx:Addr):FL:=[("reportCharacterErrors",.meth 148 st),("newLines",.lst [.int 0]),("dataStream",.ref tx)]
theorem Cv (hB:f7 B):cY B 1 105 [.ref st] ((st,.inst 166 dx (P6 st tx))::r8) λd oe=>d=.none/\∃ er,oe=xZ st dx tx er [] 0 0 0 0 .none::(er,.list [])::r8:=
 CE (k:=1) (v:=.av .none) (o5:=[(0,.inst 166 dx (Ek 0 (.av (.ref tx)) (.slot 1) [] 0 0 0 0 .none)),(1,.list [] [])]) (r9:=r8) ["self"] [] [st] [.slot 0] [(0,.inst 166 dx [("reportCharacterErrors",.meth 148 0),("newLines",.av (.lst [.int 0])),("dataStream",.av (.ref tx))])] r8 [] hB.K (np hB) rfl (.one λy=>rfl) (hq:=qa trivial (xz 1 ⟨[("self",some (.slot 0))],[(0,.inst 166 dx [("reportCharacterErrors",.meth 148 0),("newLines",.av (.lst [.int 0])),("dataStream",.av (.ref tx)),("chunk",.av (.str [])),("chunkSize",.av (.int 0)),("chunkOffset",.av (.int 0))])],r8⟩))
  (λd o ⟨er,h1,h2⟩=>⟨h1,er,h2⟩) (by kernel_rfl) (by kernel_rfl) (by kernel_rfl) (λL=>by kernel_rfl)
end
end
section
variable {B:cX} {r8:OL}
section
variable {st dx tx t7 er tk k9:Addr} {t:cF}
theorem Bc (hB:f7 B) {tO:Addr×AO}:cY B 1 105 [.ref st] (tO::(st,.inst 166 dx (P6 st tx))::r8) λd oe=>d=.none/\∃ er,oe=xZ st dx tx er [] 0 0 0 0 .none::tO::(er,.list [])::r8:=by
 refine(Cv (r8:=tO::r8) hB).perm (.swap _ _ _) ?_
 rintro d q ⟨h1,er,rfl⟩;exact⟨_,.cons _ (.swap _ _ _),h1,er,rfl⟩
theorem DL (hB:f7 B):cY B 4 98 [.ref st,.str t] ((st,.inst 166 dx [])::r8) λd oe=>d=.none/\∃ tx t7 er,oe=sO st dx tx t7 er [] 0 0 0 0 .none t 0 [] r8:=by
 refine FV ["self","source"] [] (by rw[hB.K];rfl) (by rw[hB.K];kernel_rfl) (.two λy y=>rfl) λL=>?_
 refine dJ (a1:=⟨[("self",some (.ref st)),("source",some (.str t))],(st,.inst 166 dx [("reportCharacterErrors",.meth 148 st)])::r8⟩) (jQ (fx [st] ⟨[("self",some (.slot 0)),("source",some (.av (.str t)))],[(0,.inst 166 dx [])],r8⟩ ⟨[("self",some (.slot 0)),("source",some (.av (.str t)))],[(0,.inst 166 dx [("reportCharacterErrors",.meth 148 0)])],r8⟩ [] .next (fG hB) trivial)) ?_
 refine dJ (J3 (xI (de f6 dD) (by decide)) (cW dH) (tQ dH (.skip (by kernel_rfl) .new) .head (by refine hB.K▸?_;kernel_rfl))) ?_
 refine ux (xY (cW dH) (wG (g:=112) dH (by kernel_rfl) (by refine hB.K▸?_;kernel_rfl)) (fS (by refine hB.K▸?_;kernel_rfl)) (de (cW iL) dD) (J4 hB) (dR rfl)) ?_
 intro y y z9;refine dQ z9 ?_;clear z9;rintro _ ⟨tx,t7,rfl,rfl⟩ rfl
 refine' ⟨.ref st,_,_,cW dH,tQ iL (.skip (by kernel_rfl) (.skip (by kernel_rfl) .new)) (.tail .head) (by refine hB.K▸?_;kernel_rfl),?_⟩
 refine BO (xY (cW dH) (wG (g:=105) iL (by kernel_rfl) (by refine hB.K▸?_;kernel_rfl)) (fS (by refine hB.K▸?_;kernel_rfl)) dD (Bc hB) (dR rfl)) ?_
 intro y y z9;refine dQ z9 ?_;clear z9;rintro _ ⟨rfl,er,rfl⟩ rfl
 exact wI ⟨rfl,rfl,tx,t7,er,rfl⟩
end
structure SS where
 c:cF
 i:Nat
 pl:Int
 pc:Int
 buf:AV
 p:Int
 es:cG
noncomputable abbrev oS (st dx tx t7 er:Addr) (t:cF) (q:SS) (r8:OL):OL:=sO st dx tx t7 er q.c q.c.length q.i q.pl q.pc q.buf t q.p q.es r8
noncomputable abbrev xb:SS:=⟨[],0,0,0,.none,0,[]⟩
section
variable {st dx tx t7 er tk k9 qa lf:Addr} {t:cF} {c5:AV} {f:Addr}
noncomputable abbrev RZ (st f tk lf qa:Addr) (c5:AV):FL:=[("stream",.ref st),("parser",.none),("escapeFlag",.bool false),("lastFourChars",.ref lf),("state",.meth f tk),("escape",.bool false),("currentToken",c5),("tokenQueue",.ref qa)]
noncomputable abbrev Qs (st f tk k9 lf qa:Addr) (c5:AV):Addr×AO:=(tk,.inst 762 k9 (RZ st f tk lf qa c5))
noncomputable abbrev CC (st f tk lf:Addr) (c5:AV):FL:=[("stream",.ref st),("parser",.none),("escapeFlag",.bool false),("lastFourChars",.ref lf),("state",.meth f tk),("escape",.bool false),("currentToken",c5)]
noncomputable abbrev Lh (k:Nat) (dx t7:Addr) (t:cF) (q:SS) (r:cQ):cQ:=j5 k dx t7 q.c q.c.length q.i q.pl q.pc q.buf t q.p q.es [] r
theorem CN (hB:f7 B):cY B 6 261 [.ref tk,.str t] ((tk,.inst 762 k9 [])::r8) λd o=>d=.none/\∃ st dx tx t7 er lf,o=oS st dx tx t7 er t xb ((tk,.inst 762 k9 (CC st 304 tk lf .none))::r8):=by
 refine cY.dropH ?_
 refine FV ["self","stream","parser"] [] (by rw[hB.K];rfl) (by rw[hB.K];kernel_rfl) (.dflt3 rfl (by rw[hB.K];rfl) rfl (λy y=>rfl) (λy y=>rfl) n9) λL=>?_
 refine ux (HE (m:=4) (n':=4) (eZ (v:=.ref 166) (by refine hB.K▸?_;kernel_rfl)) (fS (by refine hB.K▸?_;kernel_rfl)) (de (cW iL) dD) (by refine hB.K▸?_;kernel_rfl) (by refine hB.K▸?_;kernel_rfl) (by refine hB.K▸?_;kernel_rfl) (λx dx=>DL hB) rfl (by decide) (λy y y y h=>h.1)) ?_
 intro y y z9;refine jS z9 ?_;clear z9;rintro st dx _ ⟨-,tx,t7,er,rfl⟩ rfl rfl
 refine' ⟨.ref tk,⟨[("self",some (.ref tk)),("stream",some (.str t)),("parser",some .none)],_⟩,⟨[("self",some (.ref tk)),("stream",some (.str t)),("parser",some .none)],oS st dx tx t7 er t xb ((tk,.inst 762 k9 [("stream",.ref st)])::r8)⟩,cW dH,tQ uD .new (.tail (.tail (.tail .head))) (by refine hB.K▸?_;kernel_rfl),?_⟩
 refine OX [st,tx,er,tk] ⟨[("self",some (.slot 3)),("stream",some (.av (.str t))),("parser",some (.av .none))],Lh 0 dx t7 t xb [(3,.inst 762 k9 [("stream",.slot 0)])],r8⟩
  ⟨[("self",some (.slot 3)),("stream",some (.av (.str t))),("parser",some (.av .none))],Lh 0 dx t7 t xb [(3,.inst 762 k9 [("stream",.slot 0),("parser",.av .none),("escapeFlag",.av (.bool false)),("lastFourChars",.slot 4),("state",.meth 304 3),("escape",.av (.bool false)),("currentToken",.av .none)]),(4,.list [] [])],r8⟩ [] 1 .next (fG hB) (qa trivial (xz 4 ⟨[("self",some (.slot 3)),("stream",some (.av (.str t))),("parser",some (.av .none))],Lh 0 dx t7 t xb [(3,.inst 762 k9 [("stream",.slot 0),("parser",.av .none),("escapeFlag",.av (.bool false))])],r8⟩)) ?_
 intro y y z9;refine dQ z9 ?_;clear z9;rintro lf rfl rfl
 exact⟨rfl,oS st dx tx t7 er t xb ((tk,.inst 762 k9 (CC st 304 tk lf .none))::r8),[(lf,AO.list [])],List.Perm.append_left [_,_,_,_] (bg (l₁:=[(_,AO.list [])])),rfl,st,dx,tx,t7,er,lf,rfl⟩
end
end
section
noncomputable def Ky (σ:St):DS:=⟨σ.loc.map λp=>(p.1,p.2.map .av),[],σ.objs⟩
theorem vR {σ:St}:(Ky σ).to []=σ:=by
 obtain⟨l,o⟩:=σ;show St.mk (List.map _ (List.map _ l)) o= _
 rw[List.map_map];exact cB (St.mk · o) ((List.map_congr_left λp y=>by obtain⟨x,v⟩:=p;induction v using Option.casesOn<;>rfl).trans (List.map_id l))
theorem HW {α β:Type} {a a':α} {b b':β} {n n':Nat} {c c':Prop} (h:some (a,b,n,c)=some (a',b',n',c')):a=a'/\b=b'/\n=n'/\c=c':=by
 cases h;exact⟨rfl,rfl,rfl,rfl⟩
section
variable {X:Cx} {σ σ':St} {q:Prop} {cl:List (Str×Nat)} {t:Expr}
theorem ib {ss:cH} {f:Fl} (ρ:cK) (D:DS) (ai:List eX) (O:gn ⟨X,fN X.B.P,ρ,tc,cl⟩) (hq:q) (h1:autoParam (D.to ρ=σ) bK)
 (e:autoParam (((qJ O ss D ai).map λp=>(p.1.to ρ,p.2.D.to ρ,p.2.n,p.2.c))=some (f,σ',0,q)) bK):jC X ss σ f σ':=by
 subst h1
 induction h:qJ O ss D ai using Option.casesOn with
 | none=>rw[h]at e;contradiction
 | some p=>
  obtain⟨fd,D',n,o,c⟩:=p;rw[h]at e
  obtain⟨rfl,rfl,rfl,rfl⟩:=HW (a:=fd.to ρ) (b:=D'.to ρ) e
  exact mT O hq h
theorem nw {b:Bool} (ρ:cK) (D:DS) (ai:List eX) (O:gn ⟨X,fN X.B.P,ρ,tc,cl⟩) (hq:q) (h1:autoParam (D.to ρ=σ) bK)
 (e:autoParam (((vx O t D ai).map λp=>(p.1,p.2.D.to ρ,p.2.n,p.2.c))=some (b,σ',0,q)) bK):Te X t σ b σ':=by
 subst h1
 induction h:vx O t D ai using Option.casesOn with
 | none=>rw[h]at e;contradiction
 | some p=>
  obtain⟨fd,D',n,o,c⟩:=p;rw[h]at e
  obtain⟨rfl,rfl,rfl,rfl⟩:=HW (a:=fd) (b:=D'.to ρ) e
  exact pL O hq h
theorem xR {d:AV} (ρ:cK) (D:DS) (ai:List eX) (O:gn ⟨X,fN X.B.P,ρ,tc,cl⟩) (hq:q) (h1:autoParam (D.to ρ=σ) bK)
 (e:autoParam (((we O t D ai).map λp=>(p.1.to ρ,p.2.D.to ρ,p.2.n,p.2.c))=some (d,σ',0,q)) bK):Ev X t σ d σ':=by
 subst h1
 induction h:we O t D ai using Option.casesOn with
 | none=>rw[h]at e;contradiction
 | some p=>
  obtain⟨fd,D',n,o,c⟩:=p;rw[h]at e
  obtain⟨rfl,rfl,rfl,rfl⟩:=HW (a:=fd.to ρ) (b:=D'.to ρ) e
  exact pZ O hq h
theorem jH {ss:cH} {f:Fl} (ai:List eX) (O:gn ⟨X,fN X.B.P,[],tc,cl⟩) (hq:q)
 (e:autoParam (((qJ O ss (Ky σ) ai).map λp=>(p.1.to [],p.2.D.to [],p.2.n,p.2.c))=some (f,σ',0,q)) bK):jC X ss σ f σ':=ib [] (Ky σ) ai O hq vR e
theorem lP {b:Bool} (ai:List eX) (O:gn ⟨X,fN X.B.P,[],tc,cl⟩) (hq:q)
 (e:autoParam (((vx O t (Ky σ) ai).map λp=>(p.1,p.2.D.to [],p.2.n,p.2.c))=some (b,σ',0,q)) bK):Te X t σ b σ':=nw [] (Ky σ) ai O hq vR e
theorem LR {d:AV} (ai:List eX) (O:gn ⟨X,fN X.B.P,[],tc,cl⟩) (hq:q)
 (e:autoParam (((we O t (Ky σ) ai).map λp=>(p.1.to [],p.2.D.to [],p.2.n,p.2.c))=some (d,σ',0,q)) bK):Ev X t σ d σ':=xR [] (Ky σ) ai O hq vR e
end
end
section
variable {i k:Nat} {q u:Nat->Bool} {c r:cF} {q':SS}
section
variable {X:Cx} {σ:St} {Q:PF}
theorem yA {t:Expr} {b0:cH} {pn:Pos} (Inv:Nat->St->Prop) {n:Nat} (h0:Inv n σ)
 (step:∀ k σ,Inv k σ->∃ a1,Te X t σ true a1/\dT X b0 a1 λf a2=>(f=.next/\∃ m,m < k/\Inv m a2)\/(f=.brk/\Q .next a2)):Cn X (.While t b0 [] pn) σ Q:=⟨λy Φ h=>sL Inv n h0 λk σ r=>by
 refine dQ (step k σ r) ?_;rintro a1 ht hb
 exact ht.run _ _ ⟨λy=>hb.run _ (sH (λa2=>∃ m,m < k/\Inv m a2) Φ) (λf a2 w=>by
  rcases w with⟨e,i⟩ | ⟨e,q⟩
  . subst e;exact i
  . subst e;exact h _ _ q),λq=>nomatch q⟩⟩
end
variable {B:cX} {r8:OL}
theorem je.count {X:Cx} {t:Expr} {b0:cH} (F:Nat->St):∀ {m k:Nat},(∀ j,k<=j->j < k+m->Te X t (F j) true (F j)/\jC X b0 (F j) .next (F (j+1)))->Te X t (F (k+m)) false (F (k+m))->je X t b0 m (F k) (F (k+m))
 | 0,k,_,e=>.done e
 | m+1,k,h,e=>by
  obtain⟨h1,h2⟩:=h k (cv _) (by omega);have r:=je.count F (m:=m) (k:=k+1) (λj a b=>h j (by omega) (by omega)) (by exact(show k+1+m=k+(m+1)from by omega)▸(e))
  rw[show k+1+m=k+(m+1)from by omega]at r
  exact .step h1 h2 r
noncomputable def gP (q:Nat->Bool) (c:cF) (i:Nat):Nat:=i+((c.drop i).takeWhile q).length
theorem rV (q:Nat->Bool) (c:cF) (h:i<=c.length):gP q c i<=c.length:=by
 unfold gP;have:((c.drop i).takeWhile q).length<=(c.drop i).length:=(List.takeWhile_sublist _).length_le
 rw[bP]at this
 omega
theorem A3:gP q c c.length=c.length:=by
 unfold gP;simp
def FD (B:cX) (c7:AV) (m:Nat->Bool):Prop:=∀ {n L H σ a b c} {Φ:PV},(a,AV.str [c])∈H->(b,c7)∈H->(∀ v,Φ v (.bool (m c)) σ)->WV B n L (compareOp .In a b) H σ Φ
theorem DM {x:cF}:FD B (.str x) (λc=>decide (c∈x)):=λma mb h=>FZ ma mb h
theorem gV {l:cG} {ms:cV} (e:dN l=some ms):FD B (.tup l) (λc=>decide ([c]∈ms)):=λma mb h=>G7 ma mb e h
theorem Aj:∀ {l:cF} {i:Nat} (h:i < (l.takeWhile u).length),∃ hi:i < l.length,u l[i]=true
 | [],_,h=>cD h (Nat.not_lt_zero _)
 | a ::l,i,h=>by
  rw[List.takeWhile_cons]at h
  by_cases e:u a=true
  . rw[cE e]at h
    cases i with
    | zero=>exact⟨Nat.succ_pos _,e⟩
    | succ i=>
     obtain⟨hi,q⟩:=Aj (l:=l) (i:=i) (by simpa using h)
     exact⟨Nat.succ_lt_succ hi,q⟩
  . rw[cC e]at h;exact cD h (Nat.not_lt_zero _)
theorem A9:∀ {l:cF} (h:(l.takeWhile u).length < l.length),u l[(l.takeWhile u).length]=false
 | [],h=>cD h (Nat.lt_irrefl _)
 | a ::l,h=>by
  by_cases e:u a=true
  . simp only[List.takeWhile_cons,cE e,bL]at h |-
    simpa using A9 (l:=l) (by omega)
  . simp only[List.takeWhile_cons,cC e,List.length_nil]at h |-
    simpa using e
theorem CY {T:cF} {j:Nat} (h1:k<=j) (h2:j < gP u T k) (h:k<=T.length):∃ hj:j < T.length,u T[j]=true:=by
 unfold gP at h2;obtain⟨hi,q⟩:=Aj (u:=u) (l:=T.drop k) (i:=j - k) (by omega)
 rw[bP]at hi
 refine⟨by omega,?_⟩
 rw[List.getElem_drop]at q
 simpa only[show k+(j - k)=j from by omega]using q
theorem Av {T:cF} (h:gP u T k < T.length):u (T[gP u T k]'h)=false:=by
 have:=A9 (u:=u) (l:=T.drop k) (by unfold gP at h;rw[bP];omega)
 rw[List.getElem_drop]at this
 exact this
variable {st dx tx t7 er:Addr} {t:cF}
def Reads (B:cX) (st dx tx t7 er:Addr) (t:cF) (b:Bool) (q q':SS):Prop:=
 ∀ r8,cY B 3 141 [.ref st] (oS st dx tx t7 er t q r8) λd o=>d=.bool b/\o=oS st dx tx t7 er t q' r8
inductive ia (B:cX) (st dx tx t7 er:Addr) (t:cF) (u:Nat->Bool):Nat->SS->cF->SS->Prop
 | stop {q:SS} {e:Nat}:q.i<=q.c.length->q.c.length<=1048576->gP u q.c q.i=e->e < q.c.length->ia B st dx tx t7 er t u 0 q (sl q.c (some q.i) (some e)) { q with i:=e }
 | last {q q':SS}:q.i<=q.c.length->q.c.length<=1048576->gP u q.c q.i=q.c.length->Reads B st dx tx t7 er t false q q'->ia B st dx tx t7 er t u 0 q (sl q.c (some q.i) none) q'
 | more {q q6 q':SS} {k:Nat} {r:cF}:q.i<=q.c.length->q.c.length<=1048576->gP u q.c q.i=q.c.length->Reads B st dx tx t7 er t true q q6->ia B st dx tx t7 er t u k q6 r q'->ia B st dx tx t7 er t u (k+1) q (sl q.c (some q.i) none++r) q'
variable {c7:AV} {m:Nat->Bool}
theorem ia.here {q:SS} (h:ia B st dx tx t7 er t u k q r q'):q.i<=q.c.length/\q.c.length<=1048576:=by cases h<;>exact⟨‹_›,‹_›⟩
theorem ia.ends {q:SS} (h:ia B st dx tx t7 er t u k q r q') (e:gP u q.c q.i=q.c.length):∃ b q6,Reads B st dx tx t7 er t b q q6/\
 ((b=false/\r=sl q.c (some q.i) none/\q6=q')\/(b=true/\∃ k5 r7,k5 < k/\r=sl q.c (some q.i) none++r7/\ia B st dx tx t7 er t u k5 q6 r7 q')):=by
 cases h with
 | stop _ _ he au=>rw[e]at he;exact cD he (Nat.ne_of_gt au)
 | last _ _ _ hr=>exact⟨_,_,hr,.inl ⟨rfl,rfl,rfl⟩⟩
 | more _ _ _ hr hu=>exact⟨_,_,hr,.inr ⟨rfl,_,_,bQ _,rfl,hu⟩⟩
theorem ia.stops {q:SS} (h:ia B st dx tx t7 er t u k q r q') {j:Nat} (e:gP u q.c q.i=j) (hj:j < q.c.length):r=sl q.c (some q.i) (some j)/\q'={ q with i:=j }:=by
 cases h with
 | stop _ _ he au=>cases he.symm.trans e;exact⟨rfl,rfl⟩
 | last _ _ he _=>exact cD (he.symm.trans e) (Nat.ne_of_gt hj)
 | more _ _ he _ _=>exact cD (he.symm.trans e) (Nat.ne_of_gt hj)
theorem fE.full3 {fd:FuncData} {p1 p2 p3:Str} {d1 d2 d3:AV} {T:Addr} {o:Obj} {w:Value} {m:Nat} {k:Value->Value->Value->Option (Array Value)->Sem (cS)} (hd:fd.defaults=.ref T) (ho:B.K.lookup T=some o) (hs:o.data=.seq #[w] m)
 (h6:∀ v1 v2 v3,bindArgs fd ⟨[v1,v2,v3],[]⟩=seqItems? fd.defaults >>= k v1 v2 v3) (hG:∀ v1 v2 v3,k v1 v2 v3 (some #[w])=pure [(p1,v1),(p2,v2),(p3,v3)]):fE B fd [p1,p2,p3] [d1,d2,d3] [d1,d2,d3]:=λF s vs hv X core=>by
 obtain⟨v1,v2,v3,rfl,q1,q2,q3⟩:=IQ hv;exact⟨_,.cons q1 (.cons q2 (.cons q3 .nil)),.of_defaults hd (X _ _ ho) hs (h6 _ _ _) (hG _ _ _)⟩
noncomputable abbrev wA (st:Addr) (c7:AV) (oh:Bool) (a:Addr) (en:cN):LL:=[("self",some (.ref st)),("characters",some c7),("opposite",some (.bool oh)),("rv",some (.ref a)),("end",en),("r",none)]
theorem G5 {c7:AV} {m:Nat->Bool} (hm:FD B c7 m) (c:Nat) (σ:St) (X:Cx) (e:X.B=B):fW X .In (.str [c]) c7 (m c) σ:=by
 subst e;exact⟨λy y y y ma mb h=>hm ma mb h⟩
noncomputable def pR (dx t7:Addr) (t:cF) (c7:AV) (oh:Bool) (en r:cN) (q:SS) (l:cG) (ps:cM) (r8:OL):DS:=
 ⟨[("self",some (.slot 0)),("characters",some (.av c7)),("opposite",some (.av (.bool oh))),("rv",some (.slot 3)),("end",en.map .av),("r",r.map .av)],(3,.list l ps)::Lh 0 dx t7 t q [],r8⟩
theorem ni {a b:Nat} (h:a≠b):decide ((a:Int)=(b:Int))=false:=bS λe=>h (Int.ofNat.inj e)
theorem yi {a b:Nat} (h:a=b):decide ((a:Int)=(b:Int))=true:=cc (cB Int.ofNat h)
theorem Qj {a b:Nat} (h:a≠b):(!decide ((a:Int)=(b:Int)))=true:=cB (!·) (ni h)
theorem Qv {a b:Nat} (h:a=b):(!decide ((a:Int)=(b:Int)))=false:=cB (!·) (yi h)
theorem sj {ms:cV} {x:cF}:(ms++[x]).flatten=ms.flatten++x:=by rw[List.flatten_append];exact cB (_++·) (bX x)
theorem Dp {α:Type} {l:List α} {x:α} {k k5:Nat} (h:l.length+k<=1000) (h1:k5 < k):(l++[x]).length+k5<=1000:=by
 rw[bt,Nat.add_assoc,Nat.add_comm [x].length]
 exact dt (bo h1 _) h
theorem qk (hB:f7 B) (hm:FD B c7 m) {oh:Bool} {ah:cG} (ha:ah=[.ref st,c7]/\oh=false\/ah=[.ref st,c7,.bool oh]) {k6:Nat} {q9:SS} {r0:cF} (hu:ia B st dx tx t7 er t (λx=>m x==oh) k6 q9 r0 q') (hk:k6<=1000) (hr:r0.length<=16777216):
 cY B 4 156 ah (oS st dx tx t7 er t q9 r8) λd o=>d=.str r0/\o=oS st dx tx t7 er t q' r8:=by
 refine cY.dropH ?_
 refine ug (ds:=[.ref st,c7,.bool oh]) ["self","characters","opposite"] ["rv","end","r"] (by rw[hB.K];rfl) (by rw[hB.K];kernel_rfl) (by rcases ha with⟨rfl,rfl⟩ | rfl;exact .dflt3 rfl (by rw[hB.K];rfl) rfl (λy y=>rfl) (λy y=>rfl) vE;exact .full3 rfl (by rw[hB.K];rfl) rfl (λy y y=>rfl) (λy y y=>rfl)) λL=>?_
 clear ha;refine iA dD (by decide) λa=>⟨_,.skip (.skip (.skip .hit)),?_⟩
 generalize hU:(λx=>m x==oh)=u at hu
 refine pE (λσ=>∃ l ms en,dN l=some ms/\ms.flatten=r0/\σ=⟨wA st c7 oh a (some en),(a,.list l)::oS st dx tx t7 er t q' r8⟩) (yA (λk σ=>∃ q l ms r en,ia B st dx tx t7 er t u k q r q'/\dN l=some ms/\ms.flatten++r=r0/\l.length+k<=1000/\σ=⟨wA st c7 oh a en,(a,.list l)::oS st dx tx t7 er t q r8⟩) (n:=k6)
  ⟨q9, [], [],r0,none,hu,rfl,rfl,by simpa using hk,rfl⟩ ?_) ?_
 . rintro k σ ⟨q,l,ms,r,en,hu,hl,hms,hkl,rfl⟩
   obtain⟨hi,hz⟩:=hu.here;have hz':q.c.length<=16777216:=big hz
   have hll:l.length<=16777216:=dt (Nat.le_of_add_right_le hkl) (by decide)
   refine⟨⟨wA st c7 oh a en,(a,.list l)::oS st dx tx t7 er t q r8⟩,nq wh kf,?_⟩
   refine dJ (a1:=⟨wA st c7 oh a (some (.int q.i)),(a,.list l)::oS st dx tx t7 er t q r8⟩) ?_ ?_
   . cases en with
     | none=>exact jQ (fx [st,tx,er,a] (pR dx t7 t c7 oh none none q l [] r8) (pR dx t7 t c7 oh (some (.int q.i)) none q l [] r8) [] .next (fG hB) trivial)
     | some en=>exact jQ (fx [st,tx,er,a] (pR dx t7 t c7 oh (some en) none q l [] r8) (pR dx t7 t c7 oh (some (.int q.i)) none q l [] r8) [] .next (fG hB) trivial)
   have g1 :q.i<=gP u q.c q.i:=bE _ _
   have g2 :=rV u q.c hi
   have sin:=λj (a:q.i<=j) (b:j < gP u q.c q.i)=>CY a b hi
   have sout:∀ e,gP u q.c q.i=e->∀ h:e < q.c.length,u q.c[e]=false:=λe he h=>by subst he;exact Av h
   obtain⟨j,hs⟩:∃ j,gP u q.c q.i=j:=⟨_,rfl⟩
   have huS:=λe=>hu.stops hs e
   have huE:=λe:j=q.c.length=>hu.ends (hs.trans e)
   rw[hs]at g1 g2 sin
   have aS :q.i+(j - q.i)=j:=Nat.add_sub_of_le g1
   refine dJ (a1:=⟨wA st c7 oh a (some (.int j)),(a,.list l)::oS st dx tx t7 er t q r8⟩) ?_ ?_
   . clear huS huE hms hu hl hr hk
     refine PN (rM (je.count (λj=>⟨wA st c7 oh a (some (.int j)),(a,.list l)::oS st dx tx t7 er t q r8⟩) (m:=j - q.i) (k:=q.i) ?_ ?_)) (by rw[aS])
     . intro i p1 p2
       rw[aS]at p2
       obtain⟨au,hui⟩:=sin i p1 p2;have hl:=mQ au
       have hui:(m q.c[i]==oh)=true:=by rw[<-hU]at hui;exact hui
       generalize q.c[i]=z at hl hui
       exact⟨nw [st,tx,er,a] (pR dx t7 t c7 oh (some (.int i)) none q l [] r8) [.br true,.ch z,.cmp (m z),.br true] (fG hB) (qa (qa (qa (qa (qa trivial (Qj (Nat.ne_of_lt au))) hl) hz') (G5 hm z ((pR dx t7 t c7 oh (some (.int i)) none q l [] r8).to [st,tx,er,a]))) hui),
        fx [st,tx,er,a] (pR dx t7 t c7 oh (some (.int i)) none q l [] r8) (pR dx t7 t c7 oh (some (.int (i+1:Nat))) none q l [] r8) [] .next (fG hB) trivial⟩
     . rw[aS]
       by_cases au:j < q.c.length
       . have hl:=mQ au
         have hui:(m q.c[j]==oh)=false:=by
          have:=sout j hs au
          rw[<-hU]at this
          exact this
         generalize q.c[j]=z at hl hui
         exact nw [st,tx,er,a] (pR dx t7 t c7 oh (some (.int j)) none q l [] r8) [.br true,.ch z,.cmp (m z),.br false] (fG hB) (qa (qa (qa (qa (qa trivial (Qj (Nat.ne_of_lt au))) hl) hz') (G5 hm z ((pR dx t7 t c7 oh (some (.int j)) none q l [] r8).to [st,tx,er,a]))) hui)
       . exact nw [st,tx,er,a] (pR dx t7 t c7 oh (some (.int j)) none q l [] r8) [.br false] (fG hB) (qa trivial (Qv (Nat.le_antisymm g2 (Nat.le_of_not_lt au))))
   . clear sin sout
     by_cases au:j < q.c.length
     . obtain⟨rfl,rfl⟩:=huS au
       have e2:=Qj (Nat.ne_of_lt au)
       clear huS huE
       by_cases hei:j=q.i
       . subst hei
         exact gi (fx [st,tx,er,a] (pR dx t7 t c7 oh (some (.int q.i)) none q l [] r8) (pR dx t7 t c7 oh (some (.int q.i)) none q l [] r8) [.br true,.br true] .brk (fG hB) (qa (qa trivial (cc (rfl:(q.i:Int)=q.i))) e2)) (.inr ⟨rfl,rfl,l,ms,.int q.i,hl,by rw[<-hms,CF hi,bX],rfl⟩)
       . exact gi (fx [st,tx,er,a] (pR dx t7 t c7 oh (some (.int j)) none q l [] r8) (pR dx t7 t c7 oh (some (.int j)) none { q with i:=j } l [.av (.str (sl q.c (some (q.i:Int)) (some (j:Int))))] r8) [.br false,.br true] .brk (fG hB) (qa (qa (qa (qa trivial (ni hei)) e2) hz') hll)) (.inr ⟨rfl,rfl,l++[.str (sl q.c (some (q.i:Int)) (some (j:Int)))],ms++[sl q.c (some (q.i:Int)) (some (j:Int))],.int j,jv hl,by rw[<-hms,sj],rfl⟩)
     . obtain rfl:j=q.c.length:=Nat.le_antisymm g2 (Nat.le_of_not_lt au)
       refine iM (huE rfl) ?_;rintro b q6 hrd hq
       clear huS huE au hs aS hu;have hrd':=cY.ahead (o:=oS st dx tx t7 er t q r8) (o':=oS st dx tx t7 er t q6 r8) (a:=(a,.list (l++[.str (sl q.c (some (q.i:Int)) none)]))) (hrd (r8++[_]))
       refine dJ (a1:=⟨wA st c7 oh a (some (.int q.c.length)),(a,.list l)::oS st dx tx t7 er t q r8⟩) (jQ ?_) ?_
       . by_cases hei:q.c.length=q.i
         . exact fx [st,tx,er,a] (pR dx t7 t c7 oh (some (.int q.c.length)) none q l [] r8) (pR dx t7 t c7 oh (some (.int q.c.length)) none q l [] r8) [.br true,.br false] .next (fG hB) (qa (qa trivial (yi hei)) (Qv hei.symm))
         . exact fx [st,tx,er,a] (pR dx t7 t c7 oh (some (.int q.c.length)) none q l [] r8) (pR dx t7 t c7 oh (some (.int q.c.length)) none q l [] r8) [.br false,.br false] .next (fG hB) (qa (qa trivial (ni hei)) (Qv (a:=q.c.length) rfl))
       rcases hq with⟨rfl,rfl,rfl⟩ | ⟨rfl,k5,r7,h7,rfl,hu⟩
       . exact gi (fx [st,tx,er,a] (pR dx t7 t c7 oh (some (.int q.c.length)) none q l [] r8) (pR dx t7 t c7 oh (some (.int q.c.length)) none q6 (l++[.str (sl q.c (some (q.i:Int)) none)]) [] r8) [.call 0 (.av (.bool false)) ((3,.list (l++[.str (sl q.c (some (q.i:Int)) none)]) [])::Lh 0 dx t7 t q6 []) r8 3,.br false] .brk (fG hB) (qa (qa (qa (qa trivial hz') hll) hrd') ff)) (.inr ⟨rfl,rfl,l++[.str (sl q.c (some (q.i:Int)) none)],ms++[sl q.c (some (q.i:Int)) none],.int q.c.length,jv hl,by rw[<-hms,sj],rfl⟩)
       . exact gi (fx [st,tx,er,a] (pR dx t7 t c7 oh (some (.int q.c.length)) none q l [] r8) (pR dx t7 t c7 oh (some (.int q.c.length)) none q6 (l++[.str (sl q.c (some (q.i:Int)) none)]) [] r8) [.call 0 (.av (.bool true)) ((3,.list (l++[.str (sl q.c (some (q.i:Int)) none)]) [])::Lh 0 dx t7 t q6 []) r8 3,.br true] .next (fG hB) (qa (qa (qa (qa trivial hz') hll) hrd') tt)) (.inl ⟨rfl,k5,h7,q6,l++[.str (sl q.c (some (q.i:Int)) none)],ms++[sl q.c (some (q.i:Int)) none],r7,some (.int q.c.length),hu,jv hl,by rw[<-hms,sj,bB],Dp hkl h7,rfl⟩)
 . intro y z9;refine jS z9 ?_;clear z9;rintro l ms en hl hms rfl
   refine dJ (lN (n8 (eN rfl) (qR PySem.F.slot_str_join PySem.F.type_str_join) gt (de (cW uD) dD) (zT dH hl (by rw[hms];exact hr))) (fc (.skip (.skip (.skip (.skip (.skip .hit))))))) ?_
   exact gi (jN (jG (cW FA))) ⟨_,rfl,oS st dx tx t7 er t q' r8,[(a,.list l)],bg (l₁:=[(a,AO.list l)]),by rw[<-hms],rfl⟩
end
section
variable {e t9:Expr} {pn:Pos} {b0:cH}
section
variable {X:Cx} {σ a1 a2:St} {Q:Bool->St->Prop} {QF:PF} {R:AV->St->Prop} {l8:LL} {oe o5:OL} {o d:AV} {m:Nat} {f a:Addr} {l:cG}
theorem Iv {n5:Str} {ar:Pos} {ah:cI} {ds:cG} {pl:Sem Bool} {g self:Addr} {P:AV->OL->Prop} (h1:Ev X e σ o a1) (hm:Aq X o n5 (.meth g self) a1) (hf:fnIn X.B.K g=true) (h2:uU X ah a1 ds ⟨l8,oe⟩)
 (c :cY X.B m g (.ref self::ds) oe P) (hn:m<=X.n)
 (he:autoParam (eval (.Call (.Attribute e n5 ar) ah [] pn) X.env=(do
  let ov <-eval e X.env
  standAt ar.atName
  let (f,first) <-holding [ov] (getMethod ov n5 pl)
  callWith pn f first (backTo pn (starEach ah X.env)) [])) bR) (hp:autoParam ((backTo pn (starEach ah X.env)).any (·.1)=false) bR):Bs X (.Call (.Attribute e n5 ar) ah [] pn) σ λd σ'=>∃ q,P d q/\σ'=⟨l8,q⟩:=
 ⟨λH Φ h=>by
 rw[he];refine dm (h1.run _ _ λvo=>dr ?_)
 refine gh (dc (hm.run _ vo pl (λp F a2=>p.2=[]/\a2=a1/\Is X.B.P F p.1 (.meth g self)) gA λv F hv=>⟨rfl,rfl,hv⟩)) ?_
 rintro ⟨v,fs⟩ F a2 ⟨rfl,rfl,hv⟩;refine⟨(v,.meth g self)::(vo,o)::H,λy h=>.tail _ h,λx hx=>?_,?_⟩
 . rcases fD hx with rfl | hx
   . exact .inr hv
   . exact .inl hx
 . exact xw gA hf (h2.run _ _ _ λvs hl=>uu (be _ gA) c hn hl (λy hp=>bh _ hp) λd' o' w v=>h _ _ _ ⟨o',w,rfl⟩) hp⟩
structure Re (X:Cx) (e:Expr) (σ:St) (Q:Bool->St->Prop):Prop where
 run:∀ (H:HL) (Φ:Bool->St->Prop),(∀ b σ',Q b σ'->Φ b σ')->WB X.B X.n X.L (isTrue e X.env (eval e X.env)) H σ Φ
theorem GM (h1:Bs X e σ R) (h2:∀ d σ',R d σ'->∃ c,nM X d c σ'/\Q c σ') (hs:∀ wd,isTrue e X.env wd=(do let v <-wd;standAt e.pos;holding [v] (truthy v)):=by with_unfolding_all exact λy=>rfl):Re X e σ Q:=
 ⟨λy y h=>sS (h1.run _ _ λy d σ' w=>by refine dQ (h2 d σ' w) ?_;rintro c w1 w2;exact w1.run _ _ _ gA (h _ _ w2)) hs⟩
theorem Ad {t:Expr} {aq:Str} {p:Pos} (h1:Bs X e σ R) (h2:∀ d σ',R d σ'->∃ o a1 a2,Ev X t σ' o a1/\uQ X o aq d a1 a2/\QF .next a2) (hs:autoParam (swapsWith e (some (.Attribute t aq p)) pn.line X.env=pure false) bR):Cn X (.Assign [.Attribute t aq p] e pn) σ QF:=
 ⟨λH Φ h=>ig (h1.run _ _ λv d σ' w=>by
  refine jS (h2 d σ' w) ?_;rintro o a1 a2 w1 w2 w3
  exact w1.run _ _ λy=>w2.run _ _ _ _ gA mH (h _ _ w3)) hs⟩
end
section
variable {γ:Type} {B:cX} {n m:Nat} {L:Addr} {YJ:γ->AV->OL->Prop} {RJ:OL->Prop} {c:Code} {fs:List Frame} {tr:List γ} {σ σ':St} {K:Flow->Sem Fin} {Hh:Value->Sem Fin} {gd:Bool->Bool} {lv:cJ->cJ} {e9:Env}
def S1 (B:cX) (m:Nat) (L:Addr) (YJ:γ->AV->OL->Prop) (RJ:OL->Prop) (t9:Expr) (b0:cH) (e9:Env) (fs:List Frame) (tr:List γ) (b:Bool) (σ':St):Prop:=
 (b=true->∀ Hh,GW B m L YJ RJ (.whileLoop t9 b0 [] e9) fs ((execs b0 e9).wrap (λf=>match f with
  | .next | .cont=>.pure (.again (.whileLoop t9 b0 [] e9))
  | .brk=>.pure (.done .next)
  | .ret v=>.pure (.done (.ret v))) Hh id id) tr σ')/\
 (b=false->GW B m L YJ RJ (.whileLoop t9 b0 [] e9) fs (.pure (.done .next)) tr σ')
theorem GW.roundQ (hr:ge m n (.whileLoop t9 b0 [] e9) fs) (h:Re ⟨B,n,L,e9⟩ t9 σ (S1 B m L YJ RJ t9 b0 e9 fs tr)):GW B m L YJ RJ (.whileLoop t9 b0 [] e9) fs (B.M.den (.whileLoop t9 b0 [] e9)) tr σ:=
 GW.round hr (h.run _ _ λy y w=>w)
theorem GW.roundY (hr:ge m n (.whileLoop t9 b0 [] e9) fs) (h:Te ⟨B,n,L,e9⟩ t9 σ true σ') (k:∀ Hh,GW B m L YJ RJ (.whileLoop t9 b0 [] e9) fs ((execs b0 e9).wrap (λf=>match f with
 | .next | .cont=>.pure (.again (.whileLoop t9 b0 [] e9))
 | .brk=>.pure (.done .next)
 | .ret v=>.pure (.done (.ret v))) Hh id id) tr σ'):GW B m L YJ RJ (.whileLoop t9 b0 [] e9) fs (B.M.den (.whileLoop t9 b0 [] e9)) tr σ:=
 GW.round hr (h.run _ _ ⟨λy=>k,λe=>nomatch e⟩)
theorem GW.roundN (hr:ge m n (.whileLoop t9 b0 [] e9) fs) (h:Te ⟨B,n,L,e9⟩ t9 σ false σ') (k:GW B m L YJ RJ (.whileLoop t9 b0 [] e9) fs (.pure (.done .next)) tr σ'):GW B m L YJ RJ (.whileLoop t9 b0 [] e9) fs (B.M.den (.whileLoop t9 b0 [] e9)) tr σ:=
 GW.round hr (h.run _ _ ⟨nofun,λy=>k⟩)
theorem GW.yieldsE {x:γ} {d:AV} {yp:Pos} (hr:ge m n c fs) (hfs:splitAtGen fs=none) (hfg:fs.any Frame.guarded=false)
 (h:Ev ⟨B,n,L,e9⟩ e σ d σ') (hy:YJ x d σ'.objs) (k:GW B m L YJ RJ c fs (K .next) tr σ') (hgd:autoParam (gd false=false) bR) (aH:autoParam (e9.scope.isCoroutine=false) bR) (hi:autoParam (interactive e9=false) bR):
 GW B m L YJ RJ c fs ((exec (.Expr (.Yield (some e) yp) pn) e9).wrap K Hh gd lv) (x::tr) σ:=GW.yields hr hfs hgd hfg (h.run _ _ λy=>⟨hy,k⟩) aH hi
end
section
variable {γ:Type} {B:cX} {st dx tx t7 er tk k9 lf:Addr} {t:cF} {g:AV->SS->γ} {P:SS->Prop}
noncomputable abbrev tS (st dx tx t7 er tk k9 lf qa:Addr) (t:cF) (q:SS) (f:Addr) (c5:AV) (ks:cG) (r8:OL):OL:=
 oS st dx tx t7 er t q (Qs st f tk k9 lf qa c5::(qa,.list ks)::r8)
def Rr (st dx tx t7 er tk k9 lf:Addr) (t:cF) (g:AV->SS->γ) (x:γ) (d:AV) (o:OL):Prop:=∃ qa q f c5 ks r8,x=g d q/\o=tS st dx tx t7 er tk k9 lf qa t q f c5 ks r8
def RF (st dx tx t7 er tk k9 lf:Addr) (t:cF) (P:SS->Prop) (o:OL):Prop:=∃ qa q f c5 ks r8,P q/\o=tS st dx tx t7 er tk k9 lf qa t q f c5 ks r8
def Bd (B:cX) (st dx tx t7 er tk k9 lf qa:Addr) (t:cF) (g:AV->SS->γ) (P:SS->Prop):Nat->SS->Addr->AV->OL->List γ->Prop
 | 0=>λy y y y y=>False
 | k+1=>λq f c5 r8 tr=>fnIn B.K f=true/\cY B 5 f [.ref tk] (tS st dx tx t7 er tk k9 lf qa t q f c5 [] r8) λd o=>∃ q' f' c8 ks r9,o=tS st dx tx t7 er tk k9 lf qa t q' f' c8 ks r9/\
  ((d=.bool false/\tr=[]/\P q')\/(d=.bool true/\q'.es=[]/\ks.length<=16777216/\∃ tr',tr=(ks.map λd=>g d q')++tr'/\Bd B st dx tx t7 er tk k9 lf qa t g P k q' f' c8 r9 tr'))
end
noncomputable def Ql (k9 lf:Addr) (f:Addr) (c5:DV):Nat×DO:=(0,.inst 762 k9 [("stream",.slot 1),("parser",.av .none),("escapeFlag",.av (.bool false)),("lastFourChars",.av (.ref lf)),("state",.meth f 0),("escape",.av (.bool false)),("currentToken",c5),("tokenQueue",.slot 4)])
noncomputable def gU (dx t7 k9 lf:Addr) (t:cF) (q:SS) (f:Addr) (c5:DV) (ks:cG) (ps:cM) (r:cQ):cQ:=
 j5 1 dx t7 q.c q.c.length q.i q.pl q.pc q.buf t q.p q.es [] (Ql k9 lf f c5::(4,.list ks ps)::r)
theorem Da {γ:Type} {B:cX} {st dx tx t7 er tk k9 lf f:Addr} {c5:AV} {t:cF} {g:AV->SS->γ} {P:SS->Prop} {r8:OL} (hB:f7 B) {k:Nat} {q:SS} {tr:List γ} {n:Nat}
 (hT :∀ qa,Bd B st dx tx t7 er tk k9 lf qa t g P k q f c5 r8 tr):
 kQ B n 6 tk (oS st dx tx t7 er t q ((tk,.inst 762 k9 (CC st f tk lf c5))::r8)) (Rr st dx tx t7 er tk k9 lf t g) (RF st dx tx t7 er tk k9 lf t P) tr:=by
 refine kQ.of (f:=268) (C:=762) (pC:="self") (by rw[hB.K];rfl) uD (by rw[hB.K];kernel_rfl) (by rw[hB.K];kernel_rfl) (by rw[hB.K];kernel_rfl) (.one λy=>rfl) λL=>?_
 refine GW.body λHh=>GW.steps (GW.stmt (n:=5) ix ((Ad (X:=⟨B,5,L,_⟩) (EK dD (by decide)) ?_).run _ _ λf σ' q=>q))
 intro y y z9;refine dQ z9 ?_;clear z9;rintro qa rfl rfl
 refine' ⟨.ref tk,_,_,cW dH,tQ Cm (.skip (by kernel_rfl) (.skip (by kernel_rfl) (.skip (by kernel_rfl) (.skip (by kernel_rfl) (.skip (by kernel_rfl) (.skip (by kernel_rfl) (.skip (by kernel_rfl) .new))))))) (.tail (.tail (.tail (.tail .head)))) (by rw[hB.K];kernel_rfl),rfl,?_⟩
 refine GW.perm (o5:=tS st dx tx t7 er tk k9 lf qa t q f c5 [] r8) (r8:=[]) (by rw[bX];exact(List.perm_middle (l₁:=[_,_,_,_])).symm) ?_
 refine GW.steps (GW.whiles λp kk hk=>?_)
 replace hT:=hT qa
 induction k generalizing q f c5 r8 tr with
 | zero=>exact hT.elim
 | succ k ih=>
  obtain⟨hf,hc⟩:=hT;refine GW.roundQ (n:=5) (fK ix) (GM (Iv (cW dH) (MS uD (.skip (by kernel_rfl) (.skip (by kernel_rfl) (.skip (by kernel_rfl) (.skip (by kernel_rfl) .hit)))) (by rw[hB.K];kernel_rfl) (by rw[hB.K];kernel_rfl) rfl) hf dD hc (dR rfl)) ?_)
  intro d y z9;refine dQ z9 ?_;clear z9;rintro _ ⟨⟨c,i,pl,pc,b4,pp,es⟩,f',c8,ks,r9,rfl,hd⟩ rfl
  clear hc
  rcases hd with⟨rfl,rfl,hp⟩ | ⟨rfl,he,hks,tr',rfl,hT'⟩
  . refine⟨false,kf,nofun,λy=>?_⟩
    refine GW.back ?_
    rw[hk];exact GW.over ⟨qa,_,f',c8,ks,r9,hp,rfl⟩
  . refine⟨true,kf,λy Hh'=>?_,nofun⟩
    refine GW.steps (GW.whiles λp0 k7 h7=>?_)
    obtain rfl:es=[]:=he
    refine GW.roundN (n:=5) (σ':=⟨[("self",some (.ref tk))],tS st dx tx t7 er tk k9 lf qa t ⟨c,i,pl,pc,b4,pp,[]⟩ f' c8 ks r9⟩) (fK (fK ix)) (qH (c:= !([]:cG).isEmpty) ?_ rfl) ?_
    . exact BN [tk,st,tx,er,qa] ⟨[("self",some (.slot 0))],gU dx t7 k9 lf t ⟨c,i,pl,pc,b4,pp,[]⟩ f' (.av c8) ks [] [],r9⟩ ⟨[("self",some (.slot 0))],gU dx t7 k9 lf t ⟨c,i,pl,pc,b4,pp,[]⟩ f' (.av c8) ks [] [],r9⟩ [.br false] (fG hB) (_root_.Mine.qa (_root_.Mine.qa trivial (big (cv 0))) ff)
    refine GW.back ?_
    rw[h7];refine GW.steps (GW.whiles λp6 k8 ab=>?_)
    induction ks with
    | cons e ks ihk=>
     have hez:ks.length<=16777215:=by simpa using hks
     refine GW.roundY (n:=5) (σ':=⟨[("self",some (.ref tk))],tS st dx tx t7 er tk k9 lf qa t ⟨c,i,pl,pc,b4,pp,[]⟩ f' c8 (e::ks) r9⟩) (fK (fK ix)) (qH (c:= !(e::ks).isEmpty) ?_ rfl) λH0=>GW.steps ?_
     . exact BN [tk,st,tx,er,qa] ⟨[("self",some (.slot 0))],gU dx t7 k9 lf t ⟨c,i,pl,pc,b4,pp,[]⟩ f' (.av c8) (e::ks) [] [],r9⟩ ⟨[("self",some (.slot 0))],gU dx t7 k9 lf t ⟨c,i,pl,pc,b4,pp,[]⟩ f' (.av c8) (e::ks) [] [],r9⟩ [.br true] (fG hB) (_root_.Mine.qa (_root_.Mine.qa trivial (show(e::ks).length<=16777216 from hks)) tt)
     rw[cf,bO];refine GW.yieldsE (n:=5) (σ':=⟨[("self",some (.ref tk))],tS st dx tx t7 er tk k9 lf qa t ⟨c,i,pl,pc,b4,pp,[]⟩ f' c8 ks r9⟩) (d:=e) (fK (fK ix)) rfl rfl ?_ ⟨qa,⟨c,i,pl,pc,b4,pp,[]⟩,f',c8,ks,r9,rfl,rfl⟩ (GW.turn rfl (ihk (by exact cm ‹_›)))
     exact zC [tk,st,tx,er,qa] ⟨[("self",some (.slot 0))],gU dx t7 k9 lf t ⟨c,i,pl,pc,b4,pp,[]⟩ f' (.av c8) (e::ks) [] [],r9⟩ ⟨[("self",some (.slot 0))],gU dx t7 k9 lf t ⟨c,i,pl,pc,b4,pp,[]⟩ f' (.av c8) ks [] [],r9⟩ [] (.av e) (fG hB) (_root_.Mine.qa trivial hez)
    | nil=>
     refine GW.roundN (n:=5) (σ':=⟨[("self",some (.ref tk))],tS st dx tx t7 er tk k9 lf qa t ⟨c,i,pl,pc,b4,pp,[]⟩ f' c8 [] r9⟩) (fK (fK ix)) (qH (c:= !([]:cG).isEmpty) ?_ rfl) ?_
     . exact BN [tk,st,tx,er,qa] ⟨[("self",some (.slot 0))],gU dx t7 k9 lf t ⟨c,i,pl,pc,b4,pp,[]⟩ f' (.av c8) [] [] [],r9⟩ ⟨[("self",some (.slot 0))],gU dx t7 k9 lf t ⟨c,i,pl,pc,b4,pp,[]⟩ f' (.av c8) [] [] [],r9⟩ [.br false] (fG hB) (_root_.Mine.qa (_root_.Mine.qa trivial (big (cv 0))) ff)
     refine GW.back ?_
     rw[ab];exact GW.turn rfl (ih hT')
end
section
def dW (B:cX) (st dx tx t7 er:Addr) (t:cF) (m:Nat) (f:Addr) (ah:cG) (d:AV) (q q':SS):Prop:=∀ r8,cY B m f (.ref st::ah) (oS st dx tx t7 er t q r8) λd' o=>d'=d/\o=oS st dx tx t7 er t q' r8
noncomputable def Pp (ak:cF):Nat×DO:=(5,.dict [("type",.av (.int 6)),("data",.av (.str ak))])
theorem tY {n:Nat} (j:Nat) (h:n<=1000) (hj:autoParam (Nat.ble j 1000=true) bR):n+j<=16777216:=dt (Nat.add_le_add h (dR hj)) (by decide)
theorem KL {z:Nat} {r:cF} (h:r.length<=16777000):([z]:cF).length+r.length<=16777216:=dt (Nat.add_le_add (cv 1) h) (by decide)
theorem yZ {ak:cF} {k:Nat} (h:ak.length<=16777000) (hk:autoParam (Nat.ble k 200=true) bR):ak.length+k<=16777216:=dt (Nat.add_le_add h (dR hk)) (by decide)
theorem xq (k:Nat) (h:autoParam (Nat.ble k 16777216=true) bR):k<=16777216:=dR h
theorem M8 {ak r:cF} {z:Nat} (h:ak.length+r.length<=16777000):ak.length+([z]++r).length<=16777216:=by
 rw[List.singleton_append,bL,<-Nat.add_assoc];exact dt (bH h) (by decide)
noncomputable abbrev eE (x:String):AV:=.dct [("type",.int 7),("data",.str (sg x))]
section
variable {B:cX} {n:Nat} {f:Addr} {ah:cG} {oe:OL} {q:Prop}
theorem MP {o5:OL} (ρ:cK) (os:cQ) (r8:OL) (ai:List eX) (b:Bool) (os':cQ) (hB:f7 B) (hq:q) (hb:fE B (yP (fN B.P) f) ["self"] ah (mF ρ [.slot 0]):=by exact .one (by intro y;kernel_rfl))
 (eo:autoParam (dC ρ r8 os=oe) bK) (e2:autoParam (dC ρ r8 os'=o5) bK) (ho:autoParam (L4 (fN B.P) f) bK)
 (e:autoParam (BY hB n f ["self"] ρ [.slot 0] os r8 ai=Pm (some ⟨q,0,.av (.bool b),os',r8⟩)) bK):
 cY B (n+1) f ah oe λd o=>d=.bool b/\o=o5:=jU ["self"] ρ [.slot 0] os r8 ai (.av (.bool b)) os' r8 hB hq hb eo rfl e2 ho e
end
section
variable {B:cX} {R:OL} {st dx tx w er g v u lf f da:Addr} {t:cF} {c5:AV} {q q6 q7:SS} {ks:cG} {z:Nat} {r a:cF}
end
end
section
variable {l:cF} {c i:Nat}
open Builtin Builtin.Str PySem.StrLaws
noncomputable def gE (l y:cF) (i:Nat):Bool:=(l.drop i).take y.length==y
theorem nX (l y:cF) (i:Nat):subAt (S l) (S y) i=gE l y i:=by
 rw[subAt_eq];simp[gE,dF]
theorem jB {y:cF} {hi lc:Nat} (nov:∀ i j,gE l y i=true->gE l y j=true->i < j->i+y.length<=j):∀ (n a:Nat) (ak:Array Nat) (free:Nat),ak.size+n<=lc->(∀ i,a<=i->gE l y i=true->free<=i)->
 (forIn (List.range' a n) (ak,free) (occBody (S l) (S y) hi lc)).run.fst.toList=ak.toList++(List.range' a n).filter (λi=>decide (i+y.length<=hi)&&gE l y i)
 | 0, a,ak,free,_,_=>by simp
 | n +1,a,ak,free,hs,hf=>by
  rw[List.range'_succ,List.forIn_cons]
  by_cases h:(a+y.length<=hi)/\gE l y a=true
  . have hb:occBody (S l) (S y) hi lc a (ak,free)=pure (ForInStep.yield (ak.push a,a+y.length)):=by
     unfold occBody;rw[cE (by rw[dF,nX];exact⟨⟨⟨by show ak.size < lc;omega,hf a (cv _) h.2⟩,h.1⟩,h.2⟩),dF]
    refine hb▸?_
    have ih:=jB (hi:=hi) (lc:=lc) nov n (a+1) (ak.push a) (a+y.length) (by rw[Array.size_push];omega) λi hi hh=>nov a i h.2 hh ‹_›
    show(forIn (List.range' (a+1) n) (ak.push a,a+y.length) (occBody (S l) (S y) hi lc)).run.fst.toList= _
    rw[ih,List.filter_cons,cE (by simp[h.1,h.2])]
    simp
  . have hb:occBody (S l) (S y) hi lc a (ak,free)=pure (ForInStep.yield (ak,free)):=by
     unfold occBody;rw[cC (by rw[dF,nX];exact λq=>h ⟨q.1.2,q.2⟩)]
    refine hb▸?_
    have ih:=jB (hi:=hi) (lc:=lc) nov n (a+1) ak free (by exact cm ‹_›) λi hi hh=>hf i (by exact cm ‹_›) hh
    show(forIn (List.range' (a+1) n) (ak,free) (occBody (S l) (S y) hi lc)).run.fst.toList= _
    rw[ih,List.filter_cons,cC (by simp;exact λq=>by have:=λz=>h ⟨q,z⟩;simpa using this)]
theorem nV:gE l [c] i=true↔l[i]? =some c:=take1_drop
theorem Ej:∀ i j,gE l [c] i=true->gE l [c] j=true->i < j->i+[c].length<=j:=λi j y y h=>h
theorem nB (l:cF) (c:Nat):∀ n,n<=l.length->((List.range' 0 n).filter λi=>gE l [c] i).length=(l.take n).count c
 | 0,_=>rfl
 | n+1,h=>by
  rw[List.range'_1_concat,List.filter_append,bt,nB l c n (by exact cm ‹_›),List.take_add_one,List.count_append,Nat.zero_add]
  congr 1
  have hn:n < l.length:=h
  rw[b9 hn,List.filter_cons]
  by_cases e:l[n]=c
  . rw[cE (nV.mpr (by rw[b9 hn,e]))];simp[e]
  . rw[cC (by rw[nV,b9 hn];simpa using e)];simp[e]
theorem ir (h:i<=l.length):fO c l i=(l.take i).count c:=by
 unfold fO;rw[eK h,Nat.min_eq_left h,occ_eq,Nat.sub_zero,jB Ej (i+1) 0 #[] 0 (by show 0+(i+1)<=_;omega) λy y y=>cr _]
 rw[List.range'_1_concat,List.filter_append,<-nB l c i h];have:(List.range' 0 i).filter (λj=>decide (j+[c].length<=i)&&gE l [c] j)=(List.range' 0 i).filter λj=>gE l [c] j:=
  List.filter_congr λj hj=>by
   have:j < i:=by simpa using(List.mem_range'.mp hj)
   simp;omega
 rw[this];simp;simp+arith
theorem kj {y:cF} {hi:Nat}:∀ (n a:Nat) (st:Option Nat),(forIn (List.range' a n) st (lastBody (S l) (S y) hi)).run=(((List.range' a n).filter λi=>decide (i+y.length<=hi)&&gE l y i).getLast?).or st
 | 0, a,st=>by rfl
 | n +1,a,st=>by
  rw[List.range'_succ,List.forIn_cons]
  by_cases h:(a+y.length<=hi)/\gE l y a=true
  . have hb:lastBody (S l) (S y) hi a st=pure (ForInStep.yield (some a)):=by
     unfold lastBody;rw[cE (by rw[dF,nX];exact h)]
    rw[hb];show(forIn (List.range' (a+1) n) (some a) (lastBody (S l) (S y) hi)).run= _
    rw[kj n (a+1),List.filter_cons,cE (by simp[h.1,h.2]),List.getLast?_cons]
    cases (List.filter (λi=>decide (i+y.length<=hi)&&gE l y i) (List.range' (a+1) n)).getLast?<;>rfl
  . have hb:lastBody (S l) (S y) hi a st=pure (ForInStep.yield st):=by
     unfold lastBody;rw[cC (by rw[dF,nX];exact h)]
    rw[hb];show(forIn (List.range' (a+1) n) st (lastBody (S l) (S y) hi)).run= _
    rw[kj n (a+1),List.filter_cons,cC (by simp;exact λq=>by have:=λz=>h ⟨q,z⟩;simpa using this)]
noncomputable def fM (a:Int) (l:cF):Int:=l.foldl (λa c=>if c=10 then 0 else a+1) a
theorem rq (l:cF) (pc:Int):∀ n,n<=l.length->fM pc (l.take n)=match ((List.range' 0 n).filter λi=>gE l [10] i).getLast? with | none=>pc+n | some j=>(n:Int) - (j+1)
 | 0,_=>by simp[fM]
 | n +1,h=>by
  have hn:n < l.length:=h
  have ih:=rq l pc n (by exact cm ‹_›)
  rw[List.take_add_one,b9 hn];rw[List.range'_1_concat,List.filter_append,Nat.zero_add];unfold fM at ih |-
  rw[List.foldl_append,ih]
  by_cases e:l[n]=10
  . have hh:gE l [10] n=true:=nV.mpr (by rw[b9 hn,e])
    rw[List.filter_cons,cE hh];simp[e]
  . have hh:¬ gE l [10] n=true:=by rw[nV,b9 hn];simpa using e
    rw[List.filter_cons,cC hh];simp only[List.filter_nil,bX,Option.toList_some,List.foldl_cons,List.foldl_nil,cC e]
    induction ((List.range' 0 n).filter λi=>gE l [10] i).getLast? using Option.casesOn with
    | none=>simp;exact Int.add_assoc _ _ _
    | some j=>simp;simp+arith
theorem wz (h:i<=l.length):iz 10 l i=match ((List.range' 0 i).filter λi=>gE l [10] i).getLast? with | none=> -1 | some j=>(j:Int):=by
 unfold iz;rw[eK h,Nat.min_eq_left h,last_eq,Nat.sub_zero,kj];have:(List.range' 0 (i+1)).filter (λj=>decide (j+[10].length<=i)&&gE l [10] j)=(List.range' 0 i).filter λj=>gE l [10] j:=by
  rw[List.range'_1_concat,List.filter_append];rw[List.filter_congr (q:=λj=>gE l [10] j) λj hj=>by
   have:j < i:=by simpa using(List.mem_range'.mp hj)
   simp;omega]
  simp;simp+arith
 rw[this,Option.or_none]
 cases ((List.range' 0 i).filter λj=>gE l [10] j).getLast?<;>rfl
end
section
variable {l:cF} {k:Nat} {q:SS}
open Builtin Builtin.Str PySem.StrLaws
theorem mW {y z:cF} (hy:y≠[]) (h:∀ i,gE l y i=false):gZ l y z=l:=by
 have occ:occurrences (S l) (S y) 0 (S l).length ((S l).length+1)=[]:=by
  rw[dF,occ_eq,Nat.sub_zero,jB (λi j hi=>cD hi (by rw[h];exact bw)) (l.length+1) 0 #[] 0 (by show 0+_<=_;simp+arith) λx x x=>cr _]
  simp[h]
 unfold gZ Txt.replace;have hyl:((S y).length==0)=false:=by
  rw[dF];cases y with | nil=>exact cD rfl hy | cons _ _=>rfl
 rw[hyl,Bool.false_and,Bool.or_false,occ];simp[S]
theorem vv {c:Nat} {r:cF} (h:c∉l) (i:Nat):gE l (c::r) i=false:=by
 unfold gE;rw[beq_eq_false_iff_ne];intro q
 cases hd:l.drop i with
 | nil=>rw[hd]at q;simp at q
 | cons a t=>
  rw[hd,bL,List.take_succ_cons]at q
  exact h ((List.cons.inj q).1▸List.mem_of_mem_drop (hd▸List.mem_cons_self))
theorem vN (h:13∉l):iI l=l/\gZ l [13,10] [10]=l/\gZ l [13] [10]=l:=by
 have h1:=mW (z:=[10]) (bN 13 [10]) (vv h)
 have h2:=mW (z:=[10]) (bN 13 []) (vv h)
 exact⟨by unfold iI;rw[h1,h2],h1,h2⟩
structure gz (T:cF):Prop where
 len:T.length<=1000
 no13:13∉T
 fine:∀ c∈T,EN (c:Int)=false/\c < 1114112/\¬ (55296<=c/\c<=56319)
theorem gz.bads {T:cF} (h:gz T):bads T=[]:=by
 unfold Mine.bads;rw[List.filter_eq_nil_iff.mpr λc hc=>by rw[(h.fine c hc).1];exact bw]
 rfl
theorem gz.size {T:cF} (h:gz T):T.length<=16777216:=dt h.len (by decide)
noncomputable abbrev zy (T:cF) (k:Nat):SS:=⟨T,k,0,0,.none,T.length,[]⟩
noncomputable abbrev pD (T:cF):SS:=⟨[],0,(T.count 10:Nat),fM 0 T,.none,T.length,[]⟩
section
variable {B:cX} {st dx tx t7 er:Addr} {T:cF}
theorem wO {t:cF} {p:Int} (h:(t.length:Int)<=p):sl t (some p) (some (p+10240))=[]:=by
 have e:fF t.length p=t.length:=iJ h
 rw[lu];rw[e,List.drop_eq_nil_of_le];rw[List.length_take];omega
theorem zR {t:cF} (h:t.length<=10240):sl t (some (0:Int)) (some ((0:Int)+10240))=t:=by
 have e:fF t.length ((0:Int)+10240)=t.length:=iJ (ci.mpr h)
 have e0:fF t.length (0:Int)=0:=eK (cr _)
 rw[lu];rw[e,e0];simp
theorem jd {pc:Int} {i:Nat} (h:i<=l.length):jj pc l i=fM pc (l.take i):=by
 unfold jj;rw[wz h,rq l pc i h]
 cases ((List.range' 0 i).filter λi=>gE l [10] i).getLast? with
 | none=>simp
 | some j=>
  dsimp only;rw[cC (show ¬ ((j:Int)= -1)by simp+arith)]
end
end
section
section
variable {B:cX} {u:OL} {st dx tx w er tk R qa lf f da:Addr} {t:cF} {c5 d:AV} {q q6 q7 qb q8:SS} {ks:cG} {z:Nat} {r ak:cF}
theorem AS:("\x00":Str)=S [0]:=by kernel_rfl
theorem C5:("�":Str)=S [65533]:=by kernel_rfl
theorem yl (hB:f7 B) (hu:dW B st dx tx w er t 4 156 [.str [62]] (.str r) q q6) (hc:dW B st dx tx w er t 4 133 [] d q6 q7) (hr:r.length<=1000000) (h0:0∉r) (hk:ks.length<=1000):
 cY B 5 598 [.ref tk] (tS st dx tx w er tk R lf qa t q f c5 ks u) λd o=>d=.bool true/\o=tS st dx tx w er tk R lf qa t q7 304 c5 (ks++[.dct [("type",.int 6),("data",.str r)]]) u:=by
 have e:gZ r [0] [65533]=r:=mW (bN _ _) (vv h0)
 refine uk ["self"] ["data"] (by rw[hB.K];rfl) (by rw[hB.K];kernel_rfl) (.one λy=>rfl) λL=>?_
 refine⟨.ret (.bool true),[("self",some (.ref tk)),("data",some (.str r))],tS st dx tx w er tk R lf qa t q7 304 c5 (ks++[.dct [("type",.int 6),("data",.str r)]]) u,R2 (a1:=⟨[("self",some (.ref tk)),("data",some (.str r))],tS st dx tx w er tk R lf qa t q6 f c5 ks u⟩) (Mk.assignCall rfl rfl) (jQ (fx [tk,st,tx,er,qa] ⟨[("self",some (.slot 0)),("data",none)],gU dx w R lf t q f (.av c5) ks [] [],u⟩ ⟨[("self",some (.slot 0)),("data",some (.av (.str r)))],gU dx w R lf t q6 f (.av c5) ks [] [],u⟩ [.call 0 (.av (.str r)) (gU dx w R lf t q6 f (.av c5) ks [] []) u 4] .next (fG hB) (_root_.Mine.qa trivial (hu (dC [tk,st,tx,er,qa] u [Ql R lf f (.av c5),(4,.list ks [])]))))) ?_,rfl,rfl⟩
 refine wK AS C5 iL (.skip .hit) (dt hr (by decide)) ?_
 rw[e];exact MF (fx [tk,st,tx,er,qa] ⟨[("self",some (.slot 0)),("data",some (.av (.str r)))],gU dx w R lf t q6 f (.av c5) ks [] [],u⟩ ⟨[("self",some (.slot 0)),("data",some (.av (.str r)))],gU dx w R lf t q7 304 (.av c5) ks [.av (JK r)] [],u⟩
  [.call 0 (.av d) (gU dx w R lf t q7 f (.av c5) ks [.av (JK r)] []) u 4] (.ret (.av (.bool true))) (fG hB) (_root_.Mine.qa (_root_.Mine.qa trivial (tY 0 hk)) (hc (dC [tk,st,tx,er,qa] u [Ql R lf f (.av c5),(4,.list ks [.av (JK r)])]))))
theorem zu (k:Nat) (h:autoParam (Nat.ble k 16777000=true) bR):k<=16777000:=dR h
end
end
section
noncomputable abbrev gT (ty:Int) (nm:cF) (la:Addr) (sc:Bool) (tl:FL):AO:=.dict (("type",.int ty)::("name",.str nm)::("data",.ref la)::("selfClosing",.bool sc)::tl)
noncomputable def FJ (ty:Int) (nm:cF) (sc:Bool) (tl:List (Str×DV)) (as:cG) (ps:cM) (r:cQ):cQ:=
 (5,.dict (("type",.av (.int ty))::("name",.av (.str nm))::("data",.slot 6)::("selfClosing",.av (.bool sc))::tl))::(6,.list as ps)::r
noncomputable def IX (k v:cF):Nat×DO:=(7,.list [] [.av (.str k),.av (.str v)])
section
variable {B:cX} {R:OL} {st dx tx w er g v u lf f da la lb:Addr} {t:cF} {q q6 q7:SS} {ks as:cG} {z:Nat} {r ky vl nm:cF} {sc:Bool}
end
end
section
noncomputable def gJ (c:Nat):Nat:=if (decide (65<=c)&&decide (c<=90))=true then c+32 else c
noncomputable abbrev dn (x:cF):cF:=x.map gJ
theorem yV (x:cF):dN (x.map λc=>AV.str [gJ c])=some (x.map λc=>[gJ c]):=by
 induction x with
 | nil=>rfl
 | cons a r ih=>show(dN (r.map λc=>AV.str [gJ c])).map _ = _;rw[ih];rfl
theorem uv (x:cF):(x.map λc=>[gJ c]).flatten=dn x:=by
 induction x with
 | nil=>rfl
 | cons a r ih=>exact cB (gJ a::·) ih
theorem AW:("":Str)=S []:=by kernel_rfl
theorem uX (x:cF):dZ (λy=>true) (λi=>AV.str [gJ (x.getD i 0)]) x.length=x.map λc=>AV.str [gJ c]:=by
 have kc:∀ n,n<=x.length->dZ (λy=>true) (λi=>AV.str [gJ (x.getD i 0)]) n=(x.take n).map λc=>AV.str [gJ c]:=λn=>by
  induction n with
  | zero=>exact λy=>rfl
  | succ n ih=>
   intro h
   conv=>lhs;unfold dZ
   rw[cE rfl,ih (Nat.le_of_succ_le h),List.take_add_one,b9 h,bV,b8,b9 h];rfl
 rw[kc _ (cv _),bG]
theorem I4 {z:Nat} (h:(decide (65<=z)&&decide (z<=90))=true):0<=(z:Int)+32/\(z:Int)+32<=1114111:=by
 have:=of_decide_eq_true (dX h)
 omega
theorem rY {B:cX} (hB:f7 B) {x:cF} (hz:x.length<=100000):eG B 2 42 [.str x] (.str (dn x)):=λoe=>by
 refine uk ["text"] [] (by rw[hB.K];rfl) (by rw[hB.K];kernel_rfl) (.one λy=>rfl) λL=>?_
 refine⟨.ret (.str (dn x)),[("text",some (.str x))],oe,jN (jG (n8 (eN AW) (qR PySem.F.slot_str_join PySem.F.type_str_join) gt (de
  (pI (N:=x.length) (d:=.str x) ["c"] (λy=>true) (λi=>.str [gJ (x.getD i 0)]) (dt hz (by decide)) (cW dH) (λxv=>sX) ?_ rfl) dD)
  (uv x▸ot (ms:=x.map λc=>[gJ c]) (by rw[uX];exact yV x) (by rw[uv,bZ];exact dt hz (by decide))))),rfl,rfl⟩
 intro i hi
 generalize x.getD i 0=z
 refine⟨λC p q=>⟨[("c",some (.str [z]))],[("c",some (.str [z]))],eV (fc .hit),oP,λy=>?_⟩⟩
 unfold gJ
 by_cases h:(decide (65<=z)&&decide (z<=90))=true
 . rw[cE h]
   exact zC [] ⟨[("c",some (.av (.str [z])))],[],p::q::oe⟩ ⟨[("c",some (.av (.str [z])))],[],p::q::oe⟩ [.br true] (.av (.str [z+32])) (fG hB) (qa (qa trivial h) (I4 h))
 . rw[cC h]
   have h:=bA.mpr h
   exact zC [] ⟨[("c",some (.av (.str [z])))],[],p::q::oe⟩ ⟨[("c",some (.av (.str [z])))],[],p::q::oe⟩ [.br false] (.av (.str [z])) (fG hB) (qa trivial h)
end
section
section
variable {P:Params} {G:Heap} {F F':Fz} {h:Heap} {la da:Addr} {as:cG} {fs gs:FL} {x:Str} {R:OL}
theorem uK {P:Params} {F:Fz} {es:List DictEntry} {y:Str} {d:AV} {l:FL} (h:IsEnts P F es ((y,d)::l)):∃ t v ej,es=⟨PyData.keyHash P y,.str y t,v⟩::ej/\Is P F v d/\IsEnts P F ej l:=by
 cases h with
 | cons a b=>exact⟨_,_,_,rfl,a,b⟩
theorem IsEnts.retell {d d':AV} (le:F.le F') (k:∀ v,Is P F v d->Is P F' v d') (fs:FL):∀ {es:List DictEntry},IsEnts P F es (fs++(x,d)::gs)->IsEnts P F' es (fs++(x,d')::gs):=by
 induction fs with
 | nil=>
  intro es h;refine jS (uK h) ?_;rintro t v ej rfl q r
  exact .cons (k v q) (r.mono le)
 | cons a fs ih=>
  intro es h;refine jS (uK (y:=a.1) (d:=a.2) h) ?_;rintro t v ej rfl q r
  exact .cons (q.mono le) (ih r)
theorem gp.frzD (X:gp P G F ((la,.list as)::(da,.dict (fs++(x,.ref la)::gs))::R) h):∃ F',F.le F'/\gp P G F' ((da,.dict (fs++(x,.lst as)::gs))::R) h/\∀ b o,F' b=some o->F b=some o\/b=la:=by
 refine iM (X.objs _ dH) ?_;rintro vs m h1 h2
 have le:=Fz.le_put (o:=dU vs m) (X.apart la dH)
 have nd:=bU.mp X.nodup
 have here:Is P (F.put la (dU vs m)) (.ref la) (.lst as):=.lst (Fz.put_self ..) (h2.mono le)
 have back:∀ b o,F.put la (dU vs m) b=some o->F b=some o\/b=la:=λb o e=>by
  unfold Fz.put at e
  by_cases q:b=la
  . exact .inr q
  . rw[cC q]at e;exact .inl e
 refine⟨_,le,⟨λb o e=>le _ _ (X.core b o e),λb o e=>?_,λp hp=>?_,nd.2,λb hb=>?_,X.big⟩,back⟩
 . rcases back b o e with q | rfl
   . exact X.sub b o q
   . rw[Fz.put_self]at e;exact Option.some.inj e▸h1
 . rcases fD hp with rfl | hp
   . refine xr (X.objs (da,.dict (fs++(x,.ref la)::gs)) iL) ?_;rintro ⟨es,k,g1,g2⟩ g3 g4
     refine⟨⟨es,k,g1,IsEnts.retell le (λv q=>by obtain rfl:=dG q;exact here) fs g2⟩,?_,g4⟩
     rw[bV,cf]at g3 |-
     exact g3
   . exact(X.objs p (.tail _ (.tail _ hp))).move le λy y y e=>e
 . cases q:F.put la (dU vs m) b with
   | none=>rfl
   | some o=>
    rcases back b o q with e | rfl
    . have:=X.apart b (.tail _ hb);rw[e]at this;contradiction
    . exact cD hb nd.1
end
theorem cY.preD {B:cX} {n:Nat} {f la da:Addr} {ah as:cG} {fs gs:FL} {x:Str} {R:OL} {Φ:AV->OL->Prop} (c:cY B n f ah ((da,.dict (fs++(x,.lst as)::gs))::R) Φ):cY B n f ah ((la,.list as)::(da,.dict (fs++(x,.ref la)::gs))::R) Φ:=
 λA F s vs hA X hv=>by
  refine kW X.frzD ?_;rintro F' le y back
  refine codeAny_mono (c A F' s vs hA y (hv.mono le)) λr s' ⟨v,d,o5,F'',a,b,y',p,q⟩=>?_
  exact⟨v,d,o5,F'',a,b,y',⟨λb o hb=>p.keep b o λh=>hb (.tail _ h),λb hb=>(p.own b hb).imp_left (.tail _),
   λb o e=>Or.elim (p.frz b o e) (λw=>Or.imp_right (λ(z:b=la)=>Or.inl (List.mem_cons.mpr (.inl z))) (back b o w)) λw=>.inr (Or.imp_left (.tail _) w),le.trans p.mono,p.gens,p.os⟩,q⟩
end
section
noncomputable abbrev qG (b:Bool):FL:=bif b then [("selfClosingAcknowledged",.bool false)] else []
noncomputable abbrev FI (b:Bool):List (Str×DV):=bif b then [("selfClosingAcknowledged",.av (.bool false))] else []
noncomputable abbrev mI (b:Bool):Int:=bif b then 3 else 4
section
variable {B:cX} {R:OL} {st dx tx w er g v u lf f da la lb:Addr} {t:cF} {q q6 q7:SS} {ks as:cG} {z:Nat} {r ky vl nm:cF} {sc b:Bool} {ps:cM}
theorem P8 (ks:cG) (f:Addr) (q:SS) (ky vl:cF):dC [g,st,tx,er,u,da,la,lb] R (gU dx w v lf t q f (.slot 5) ks [] (FJ (mI b) nm sc (FI b) as [.slot 7] [IX ky vl]))=tS st dx tx w er g v lf u t q f (.ref da) ks ((da,gT (mI b) nm la sc (qG b))::(la,.list (as++[.ref lb]))::(lb,.list [.str ky,.str vl])::R):=by
 rcases b with _ | _<;>rfl
end
end
section
noncomputable abbrev J0 (ty:Int) (nm:cF) (as:cG) (sc:Bool) (tl:FL):AO:=.dict (("type",.int ty)::("name",.str nm)::("data",.lst as)::("selfClosing",.bool sc)::tl)
noncomputable def zr (ty:Int) (nm:cF) (d:DV) (sc:Bool) (tl:List (Str×DV)):Nat×DO:=(5,.dict (("type",.av (.int ty))::("name",.av (.str nm))::("data",d)::("selfClosing",.av (.bool sc))::tl))
noncomputable abbrev pN (nm:cF) (ps:List (cF×AV)) (sc:Bool):AV:=.dct [("type",.int 3),("name",.str (dn nm)),("data",.dct (ld ps)),("selfClosing",.bool sc),("selfClosingAcknowledged",.bool false)]
noncomputable abbrev lj (nm:cF) (ps:List (cF×AV)) (sc:Bool):AV:=.dct [("type",.int 4),("name",.str (dn nm)),("data",.lst (ps.map dz)),("selfClosing",.bool sc)]
noncomputable def dY (nm:cF) (ps:List (cF×AV)) (sc b:Bool):cG:=
 if b=true then [pN nm ps sc] else (if ps.isEmpty=true then [] else [eE "attributes-in-end-tag"])++((if sc=true then [eE "self-closing-flag-on-end-tag"] else [])++[lj nm ps sc])
section
variable {B:cX} {R:OL} {st dx tx w er g v u lf f da:Addr} {t:cF} {q:SS} {ks:cG} {nm:cF} {ps:List (cF×AV)} {sc:Bool}
abbrev Mf (B:cX) (g:Addr) (o o':OL):Prop:=cY B 3 297 [.ref g] o λd z=>d=.none/\z=o'
theorem DJ (hB:f7 B) (hn:nm.length<=100000) (hp:ps.length<=1000) (hk:ks.length<=1000):
 Mf B g (tS st dx tx w er g v lf u t q f (.ref da) ks ((da,J0 4 nm (ps.map dz) sc [])::R)) (tS st dx tx w er g v lf u t q 304 (.ref da) (ks++dY nm ps sc false) R):=by
 have hl:=rY (x:=nm) hB hn
 have hz:(ps.map dz).length<=16777216:=by rw[bZ];exact dt hp (by decide)
 have he:(ps.map dz).isEmpty=ps.isEmpty:=by rcases ps with _ | _<;>rfl
 rcases hb:ps.isEmpty with _ | _
 . rcases sc with _ | _
   . exact jU ["self"] [g,st,tx,er,u,da] [.slot 0] (gU dx w v lf t q f (.slot 5) ks [] [zr 4 nm (.av (.lst (ps.map dz))) false []]) R [.br true,.call 0 (.av (.str (dn nm))) (gU dx w v lf t q f (.slot 5) ks [] [zr 4 nm (.av (.lst (ps.map dz))) false []]) R 2,.br false,.br true,.br true,.br false] (.av .none) (gU dx w v lf t q 304 (.slot 5) ks [.av (eE "attributes-in-end-tag"),.av (lj nm ps false)] []) R hB (qa (qa (qa (qa (qa (qa (qa (qa (qa trivial tt) (hl (dC [g,st,tx,er,u,da] R (gU dx w v lf t q f (.slot 5) ks [] [zr 4 nm (.av (.lst (ps.map dz))) false []])))) ff) tt) hz) (show(!(ps.map dz).isEmpty)=true by rw[he,hb];rfl)) (tY 0 hk)) ff) (tY 1 hk)) (e2:=by unfold dY;rw[hb];rfl)
   . exact jU ["self"] [g,st,tx,er,u,da] [.slot 0] (gU dx w v lf t q f (.slot 5) ks [] [zr 4 nm (.av (.lst (ps.map dz))) true []]) R [.br true,.call 0 (.av (.str (dn nm))) (gU dx w v lf t q f (.slot 5) ks [] [zr 4 nm (.av (.lst (ps.map dz))) true []]) R 2,.br false,.br true,.br true,.br true] (.av .none) (gU dx w v lf t q 304 (.slot 5) ks [.av (eE "attributes-in-end-tag"),.av (eE "self-closing-flag-on-end-tag"),.av (lj nm ps true)] []) R hB (qa (qa (qa (qa (qa (qa (qa (qa (qa (qa trivial tt) (hl (dC [g,st,tx,er,u,da] R (gU dx w v lf t q f (.slot 5) ks [] [zr 4 nm (.av (.lst (ps.map dz))) true []])))) ff) tt) hz) (show(!(ps.map dz).isEmpty)=true by rw[he,hb];rfl)) (tY 0 hk)) tt) (tY 1 hk)) (tY 2 hk)) (e2:=by unfold dY;rw[hb];rfl)
 . rcases sc with _ | _
   . exact jU ["self"] [g,st,tx,er,u,da] [.slot 0] (gU dx w v lf t q f (.slot 5) ks [] [zr 4 nm (.av (.lst (ps.map dz))) false []]) R [.br true,.call 0 (.av (.str (dn nm))) (gU dx w v lf t q f (.slot 5) ks [] [zr 4 nm (.av (.lst (ps.map dz))) false []]) R 2,.br false,.br true,.br false,.br false] (.av .none) (gU dx w v lf t q 304 (.slot 5) ks [.av (lj nm ps false)] []) R hB (qa (qa (qa (qa (qa (qa (qa (qa trivial tt) (hl (dC [g,st,tx,er,u,da] R (gU dx w v lf t q f (.slot 5) ks [] [zr 4 nm (.av (.lst (ps.map dz))) false []])))) ff) tt) hz) (show(!(ps.map dz).isEmpty)=false by rw[he,hb];rfl)) ff) (tY 0 hk)) (e2:=by unfold dY;rw[hb];rfl)
   . exact jU ["self"] [g,st,tx,er,u,da] [.slot 0] (gU dx w v lf t q f (.slot 5) ks [] [zr 4 nm (.av (.lst (ps.map dz))) true []]) R [.br true,.call 0 (.av (.str (dn nm))) (gU dx w v lf t q f (.slot 5) ks [] [zr 4 nm (.av (.lst (ps.map dz))) true []]) R 2,.br false,.br true,.br false,.br true] (.av .none) (gU dx w v lf t q 304 (.slot 5) ks [.av (eE "self-closing-flag-on-end-tag"),.av (lj nm ps true)] []) R hB (qa (qa (qa (qa (qa (qa (qa (qa (qa trivial tt) (hl (dC [g,st,tx,er,u,da] R (gU dx w v lf t q f (.slot 5) ks [] [zr 4 nm (.av (.lst (ps.map dz))) true []])))) ff) tt) hz) (show(!(ps.map dz).isEmpty)=false by rw[he,hb];rfl)) tt) (tY 0 hk)) (tY 1 hk)) (e2:=by unfold dY;rw[hb];rfl)
end
end
section
section
variable {B:cX} {R:OL} {st dx tx w er g v u lf f da:Addr} {t:cF} {q:SS} {ks:cG} {nm:cF} {ps:List (cF×AV)} {sc:Bool}
theorem Qa {x:Str} {y:AV} {l r:LL}:∀ z d,(z,some d)∈l++(x,none)::r->(z,some d)∈l++(x,some y)::r:=λz d h=>by
 rcases bT.mp h with h | h
 . exact bh _ h
 . rcases fD h with h | h
   . exact nomatch h
   . exact be _ (.tail _ h)
noncomputable abbrev uI (g da:Addr) (raw data:cN):LL:=[("self",some (.ref g)),("token",some (.ref da)),("raw",raw),("data",data)]
noncomputable abbrev EP (nm:cF) (d:AV) (sc:Bool):AO:=.dict [("type",.int 3),("name",.str nm),("data",d),("selfClosing",.bool sc),("selfClosingAcknowledged",.bool false)]
noncomputable def nH (nm:cF) (d:AV) (sc:Bool):Nat×DO:=(5,.dict [("type",.av (.int 3)),("name",.av (.str nm)),("data",.av d),("selfClosing",.av (.bool sc)),("selfClosingAcknowledged",.av (.bool false))])
noncomputable def S2 (raw:cN):cU:=[("self",some (.slot 0)),("token",some (.slot 5)),("raw",raw.map .av),("data",none)]
theorem nk {X:Cx} {cl:List (Str×Nat)} {p:Prop} {ss:cH} (ρ:cK) (D D':DS) (ai:List eX) (fd:DF) (O:gn ⟨X,fN X.B.P,ρ,tc,cl⟩) (hq:p) (e:autoParam (qJ O ss D ai=some (fd,⟨D',0,[],p⟩)) bK):jC X ss (D.to ρ) (fd.to ρ) (D'.to ρ):=mT O hq e
theorem tG {X:Cx} {cl:List (Str×Nat)} {p:Prop} {e:Expr} {b:Bool} (ρ:cK) (D D':DS) (ai:List eX) (O:gn ⟨X,fN X.B.P,ρ,tc,cl⟩) (hq:p) (h:autoParam (vx O e D ai=some (b,⟨D',0,[],p⟩)) bK):Te X e (D.to ρ) b (D'.to ρ):=pL O hq h
theorem GO {X:Cx} {ss:cH} {σ a1 σ':St} {f:Fl} (e:a1=σ) (h:jC X ss a1 f σ'):jC X ss σ f σ':=e▸h
noncomputable abbrev eD (dx w v lf:Addr) (t:cF) (q:SS) (sc:Bool) (R:OL) (f:Addr) (ks:cG) (ps:cM) (r:cQ) (raw:cN):DS:=⟨S2 raw,gU dx w v lf t q f (.slot 5) ks ps r,R⟩
theorem z0 (hB:f7 B) (hn:nm.length<=100000) (hp:ps.length<=1000) (hk:ks.length<=1000):
 Mf B g (tS st dx tx w er g v lf u t q f (.ref da) ks ((da,EP nm (.lst (ps.map dz)) sc)::R)) (tS st dx tx w er g v lf u t q 304 (.ref da) (ks++dY nm ps sc true) R):=by
 have hl:=rY (x:=nm) hB hn
 have hz:(ps.map dz).length<=16777216:=by rw[bZ];exact dt hp (by decide)
 refine uk ["self"] ["token","raw","data"] (by rw[hB.K];rfl) (by rw[hB.K];kernel_rfl) (.one λy=>rfl) λL=>?_
 refine⟨.next,uI g da (some (.lst (ps.map dz))) none,_,?_,rfl,rfl⟩
 refine GO (a1:=DS.to [g,st,tx,er,u,da] ⟨[("self",some (.slot 0)),("token",none),("raw",none),("data",none)],gU dx w v lf t q f (.slot 5) ks [] [nH nm (.lst (ps.map dz)) sc],R⟩) (by kernel_rfl) (gQ (jQ (nk [g,st,tx,er,u,da] _ (eD dx w v lf t q sc R f ks [] [nH nm (.lst (ps.map dz)) sc] none) [] .next (fG hB) trivial))
  (gQ (rF (tG [g,st,tx,er,u,da] _ (eD dx w v lf t q sc R f ks [] [nH nm (.lst (ps.map dz)) sc] none) [.br true] (fG hB) (_root_.Mine.qa trivial tt)) (a2:=DS.to [g,st,tx,er,u,da] (eD dx w v lf t q sc R f ks [] [nH (dn nm) (.dct (ld ps)) sc] (some (.lst (ps.map dz))))) ?_)
   (fx [g,st,tx,er,u,da] (eD dx w v lf t q sc R f ks [] [nH (dn nm) (.dct (ld ps)) sc] (some (.lst (ps.map dz)))) (eD dx w v lf t q sc R 304 ks [.av (pN nm ps sc)] [] (some (.lst (ps.map dz)))) [] .next (fG hB) (_root_.Mine.qa trivial (tY 0 hk)))))
 refine gQ (jQ (nk [g,st,tx,er,u,da] _ (eD dx w v lf t q sc R f ks [] [nH (dn nm) (.lst (ps.map dz)) sc] none) [.call 0 (.av (.str (dn nm))) (gU dx w v lf t q f (.slot 5) ks [] [nH nm (.lst (ps.map dz)) sc]) R 2] .next (fG hB) (_root_.Mine.qa trivial (hl (dC [g,st,tx,er,u,da] R (gU dx w v lf t q f (.slot 5) ks [] [nH nm (.lst (ps.map dz)) sc]))))))
  (gQ (rF (tG [g,st,tx,er,u,da] _ (eD dx w v lf t q sc R f ks [] [nH (dn nm) (.lst (ps.map dz)) sc] none) [.br true] (fG hB) (_root_.Mine.qa trivial tt)) (a2:=DS.to [g,st,tx,er,u,da] (eD dx w v lf t q sc R f ks [] [nH (dn nm) (.dct (ld ps)) sc] (some (.lst (ps.map dz))))) ?_)
   (nk [g,st,tx,er,u,da] _ (eD dx w v lf t q sc R f ks [] [nH (dn nm) (.dct (ld ps)) sc] (some (.lst (ps.map dz)))) [.br false] .next (fG hB) (_root_.Mine.qa trivial ff)))
 refine Lq (dJ (jQ (nk [g,st,tx,er,u,da] _ (eD dx w v lf t q sc R f ks [] [nH (dn nm) (.lst (ps.map dz)) sc] (some (.lst (ps.map dz)))) [] .next (fG hB) trivial)) ?_)
 show dT _ _ ⟨uI g da (some (.lst (ps.map dz))) none,tS st dx tx w er g v lf u t q f (.ref da) ks ((da,EP (dn nm) (.lst (ps.map dz)) sc)::R)⟩ _
 refine pE (λσ=>∃ c,σ=⟨uI g da (some (.lst (ps.map dz))) (some (.ref c)),(c,.dict (ps.foldl gw []))::tS st dx tx w er g v lf u t q f (.ref da) ks ((da,EP (dn nm) (.lst (ps.map dz)) sc)::R)⟩)
  (zO (zd (ps:=ps) (eJ PySem.Pv.boot_dict (by rw[hB.K];kernel_rfl)) (de (cW qB) dD) (dt hp (by decide)) rfl) ?_) ?_
 . intro d σ' z;refine dQ z ?_;clear z;rintro c rfl rfl
   exact⟨_,fc (.skip (.skip (.skip .hit))),rfl,c,rfl⟩
 rintro _ ⟨c,rfl⟩;have am:=rz ps []
 rw[List.length_nil,Nat.zero_add]at am
 refine dJ (a1:=⟨uI g da (some (.lst (ps.map dz))) (some (.ref c)),(c,.dict (ld ps))::tS st dx tx w er g v lf u t q f (.ref da) ks ((da,EP (dn nm) (.lst (ps.map dz)) sc)::R)⟩) ?_ ?_
 . have hm:(ps.map dz).length=ps.length:=bZ _
   unfold ld
   by_cases au:(ps.foldl gw []).length < ps.length
   . rw[cE au]
     refine rF (qH (eY (f8 (eJ PyProof.Rows.Boot.«len» (by rw[hB.K];kernel_rfl)) gt (de (cW qB) dD) (BG hz)) (f8 (eJ PyProof.Rows.Boot.«len» (by rw[hB.K];kernel_rfl)) gt (de (cW uD) dD) (Au dH (dt am (dt hp (by decide))))) Ij) (cc (Int.ofNat_lt.mpr (hm▸au)))) (gQ (Kj (d:=.none) (n8 (cW uD) (KQ dH PySem.F.slot_dict_update PySem.F.type_dict_update) gt (de (N1 (cW qB) (qo f6) hz) dD) ?_)) gM)
     rw[<-List.map_reverse];exact Az (ps:=ps.reverse) (by rw[List.length_reverse];omega) rfl
   . rw[cC au]
     exact nc (qH (eY (f8 (eJ PyProof.Rows.Boot.«len» (by rw[hB.K];kernel_rfl)) gt (de (cW qB) dD) (BG hz)) (f8 (eJ PyProof.Rows.Boot.«len» (by rw[hB.K];kernel_rfl)) gt (de (cW uD) dD) (Au dH (dt am (dt hp (by decide))))) Ij) (bS λh=>au (hm▸Int.ofNat_lt.mp h))) gM
 refine dJ (BL (c:=c) (cW uD) (cW iL) (eN (l:=sg "data") (qr _)) .head (.skip (by kernel_rfl) (.skip (by kernel_rfl) .hit)) (.tail (.tail (.tail (.tail (.tail .head))))) (by simp)) ?_
 exact rO (l9:=uI g da (some (.lst (ps.map dz))) none) (wI ⟨rfl,rfl⟩) (Qa (l:=[_,_,_])) (fQ (by kernel_rfl))
end
end
section
section
variable {B:cX} {R:OL} {st dx tx w er g v u lf f f' da la lb:Addr} {t:cF} {q:SS} {ks as:cG} {nm ky vl:cF} {ps:List (cF×AV)} {sc b:Bool} {n:Nat} {ah:cG} {Φ:AV->OL->Prop} {c5:AV}
theorem N2 {ty:Int} {tl:FL} (c:cY B n f' ah (tS st dx tx w er g v lf u t q f c5 ks ((da,J0 ty nm as sc tl)::R)) Φ):cY B n f' ah (tS st dx tx w er g v lf u t q f c5 ks ((da,gT ty nm la sc tl)::(la,.list as)::R)) Φ:=by
 refine cY.perm (o7:=(la,.list as)::(da,gT ty nm la sc tl)::tS st dx tx w er g v lf u t q f c5 ks R) ?_ (cY.preD (fs:=[("type",.int ty),("name",.str nm)]) (gs:=("selfClosing",.bool sc)::tl) (cY.perm (o7:=tS st dx tx w er g v lf u t q f c5 ks ((da,J0 ty nm as sc tl)::R)) ?_ c λd q h=>⟨q,.refl _,h⟩)) λd q h=>⟨q,.refl _,h⟩
 . exact List.Perm.trans (List.perm_append_comm_assoc [_,_,_,_,_] [_,_] R) (.swap _ _ _)
 . exact(List.perm_append_comm_assoc [_,_,_,_,_] [_] R).symm
theorem NM {ty:Int} {tl:FL} (c:cY B n f' ah (tS st dx tx w er g v lf u t q f c5 ks ((da,gT ty nm la sc tl)::(la,.list (as++[.lst [.str ky,.str vl]]))::R)) Φ):
 cY B n f' ah (tS st dx tx w er g v lf u t q f c5 ks ((da,gT ty nm la sc tl)::(la,.list (as++[.ref lb]))::(lb,.list [.str ky,.str vl])::R)) Φ:=by
 refine cY.perm (o7:=(lb,.list [.str ky,.str vl])::(la,.list (as++[.ref lb]))::tS st dx tx w er g v lf u t q f c5 ks ((da,gT ty nm la sc tl)::R)) ?_ (cY.pre (as:=as) (bs:=[]) (cY.perm (o7:=tS st dx tx w er g v lf u t q f c5 ks ((da,gT ty nm la sc tl)::(la,.list (as++[.lst [.str ky,.str vl]]))::R)) ?_ c λd q h=>⟨q,.refl _,h⟩)) λd q h=>⟨q,.refl _,h⟩
 . exact List.Perm.trans (List.perm_append_comm_assoc [_,_,_,_,_,_] [_,_] R) (.swap _ _ _)
 . exact(List.perm_append_comm_assoc [_,_,_,_,_,_] [_] R).symm
theorem Ra (hB:f7 B) (hn:nm.length<=100000) (hp:ps.length<=1000) (hk:ks.length<=1000):Mf B g (tS st dx tx w er g v lf u t q f (.ref da) ks ((da,gT (mI b) nm la sc (qG b))::(la,.list (ps.map dz))::R)) (tS st dx tx w er g v lf u t q 304 (.ref da) (ks++dY nm ps sc b) R):=by
 rcases b with _ | _
 . exact N2 (DJ hB hn hp hk)
 . exact N2 (z0 hB hn hp hk)
theorem Rj (hB:f7 B) (hn:nm.length<=100000) (hp:ps.length<=999) (hk:ks.length<=1000):Mf B g (tS st dx tx w er g v lf u t q f (.ref da) ks ((da,gT (mI b) nm la sc (qG b))::(la,.list (ps.map dz++[.ref lb]))::(lb,.list [.str ky,.str vl])::R)) (tS st dx tx w er g v lf u t q 304 (.ref da) (ks++dY nm (ps++[(ky,.str vl)]) sc b) R):=by
 have h:=Ra (st:=st) (dx:=dx) (tx:=tx) (w:=w) (er:=er) (g:=g) (v:=v) (lf:=lf) (u:=u) (t:=t) (q:=q) (f:=f) (da:=da) (la:=la) (R:=R) (sc:=sc) (b:=b) (ps:=ps++[(ky,.str vl)]) hB hn (by rw[bt];exact bH hp) hk
 rw[bV]at h
 exact NM h
end
end
section
section
variable {B:cX} {R:OL} {st dx tx w er g v u lf f f0 da la lb:Addr} {t:cF} {q q6:SS} {ks k0:cG} {nm ky vl:cF} {ps:List (cF×AV)} {sc b:Bool} {c:AV}
noncomputable abbrev zz (st dx tx w er g v lf u da la lb:Addr) (t:cF) (R:OL) (nm:cF) (sc b:Bool) (as:cG) (q:SS) (f:Addr) (ks:cG) (ky vl:cF):OL:=
 tS st dx tx w er g v lf u t q f (.ref da) ks ((da,gT (mI b) nm la sc (qG b))::(la,.list (as++[.ref lb]))::(lb,.list [.str ky,.str vl])::R)
noncomputable abbrev ll (g:Addr) (c:AV) (e:Bool) (n' w':cN):LL:=[("self",some (.ref g)),("data",some c),("leavingThisState",some (.bool true)),("emitToken",some (.bool e)),("name",n'),("_",w')]
noncomputable abbrev LG (c:AV) (e:Bool) (n':cN) (w':cN):cU:=[("self",some (.slot 0)),("data",some (.av c)),("leavingThisState",some (.av (.bool true))),("emitToken",some (.av (.bool e))),("name",n'.map .av),("_",w'.map .av)]
noncomputable abbrev zx (dx w v lf:Addr) (t:cF) (R:OL) (nm:cF) (sc b:Bool) (as:cG) (c:AV) (e:Bool) (n' w':cN) (q:SS) (f:Addr) (ks:cG) (ps:cM) (ky vl:cF):DS:=
 ⟨LG c e n' w',gU dx w v lf t q f (.slot 5) ks ps (FJ (mI b) nm sc (FI b) as [.slot 7] [IX ky vl]),R⟩
noncomputable def iX (ps:List (cF×AV)) (ky:cF):cG:=if ps.any (λp=>decide (p.1=ky))=true then [eE "duplicate-attribute"] else []
noncomputable abbrev OT (B:cX) (L:Addr):Cx:=⟨B,4,L,envOf "HTMLTokenizer.attributeNameState" (il rJ) L 542 (.ref 541)⟩
theorem P1 {X:Cx} {cl:List (Str×Nat)} {p:Prop} {e:Expr} (ρ:cK) (D D':DS) (ai:List eX) (v:DV) (O:gn ⟨X,fN X.B.P,ρ,tc,cl⟩) (hq:p) (h:autoParam (we O e D ai=some (v,⟨D',0,[],p⟩)) bK):Ev X e (D.to ρ) (v.to ρ) (D'.to ρ):=pZ O hq h
theorem yY {α:Type} (as:List α) (x:α):(as++[x]).take (fF (as++[x]).length (-1))=as:=by
 rw[bt];show(as++[x]).take (as.length+1 - 1)=as
 rw[Nat.add_sub_cancel,List.take_append_of_le_length (cv _),bG]
theorem L7 {i:Nat} {ky:cF} (h:∀ j (hj:j < ps.length),j < i->ps[j].1≠ky) (hi:ps.length<=i):iX ps ky=[]:=by
 unfold iX;rw[cC];intro e;obtain⟨p,hp,hk⟩:=List.any_eq_true.mp e;obtain⟨j,hj,rfl⟩:=List.getElem_of_mem hp;exact h j hj (tB hj hi) (of_decide_eq_true hk)
theorem Ff {i:Nat} {ky:cF} (hi:i < ps.length) (h:ps[i].1=ky):iX ps ky=[eE "duplicate-attribute"]:=
 cE (List.any_eq_true.mpr ⟨ps[i],List.getElem_mem hi,cc h⟩)
noncomputable abbrev FE (c:AV) (e:Bool) (n' w':AV) (dx w v lf:Addr) (t:cF) (R:OL) (nm:cF) (sc b:Bool) (as:cG) (q:SS) (f:Addr) (ks:cG) (pk:cM) (ky vl:cF) (o:AO):DS:=
 ⟨LG c e (some n') (some w'),(8,.ao o)::gU dx w v lf t q f (.slot 5) ks pk (FJ (mI b) nm sc (FI b) as [.slot 7] [IX ky vl]),R⟩
theorem N9 {as ks ks':cG} (h:Mf B g (zz st dx tx w er g v lf u da la lb t R nm sc b as q f ks ky vl) (tS st dx tx w er g v lf u t q 304 (.ref da) ks' R)):
 cY B 3 297 [.ref g] (dC [g,st,tx,er,u,da,la,lb] R (gU dx w v lf t q f (.slot 5) ks [] (FJ (mI b) nm sc (FI b) as [.slot 7] [IX ky vl]))) λd o=>d=.none/\o=dC [g,st,tx,er,u,da,la,lb] R (gU dx w v lf t q 304 (.slot 5) ks' [] []):=by
 rw[P8];exact h
theorem uJ (e:Bool) (hB:f7 B) (hn:nm.length<=100000) (hky:ky.length<=100000) (hp:ps.length<=999) (hk:k0.length<=990)
 (h4 : ∀ L,jC (OT B L) ((fj rJ).take 4) ⟨[("self",some (.ref g)),("data",none),("leavingThisState",none),("emitToken",none),("name",none),("_",none)],zz st dx tx w er g v lf u da la lb t R nm sc b (ps.map dz) q f ks ky vl⟩ .next
  (DS.to [g,st,tx,er,u,da,la,lb] (zx dx w v lf t R nm sc b (ps.map dz) c e none none q6 f0 k0 [] ky vl))):
 cY B 5 542 [.ref g] (zz st dx tx w er g v lf u da la lb t R nm sc b (ps.map dz) q f ks ky vl) λd o=>d=.bool true/\o=if e=true then tS st dx tx w er g v lf u t q6 304 (.ref da) (k0++iX ps (dn ky)++dY nm (ps++[(dn ky,.str vl)]) sc b) R
  else zz st dx tx w er g v lf u da la lb t R nm sc b (ps.map dz) q6 f0 (k0++iX ps (dn ky)) (dn ky) vl:=by
 have hl:=rY (x:=ky) hB hky
 have hz:(ps.map dz).length+1<=16777000:=by rw[bZ];exact dt (bH hp) (by decide)
 refine ug ["self"] ["data","leavingThisState","emitToken","name","_"] (by rw[hB.K];rfl) (by rw[hB.K];kernel_rfl) (.one λy=>rfl) λL=>?_
 refine jp 4 (h4 L) ?_
 refine dJ (rF (tG [g,st,tx,er,u,da,la,lb] (zx dx w v lf t R nm sc b (ps.map dz) c e none none q6 f0 k0 [] ky vl) (zx dx w v lf t R nm sc b (ps.map dz) c e none none q6 f0 k0 [] ky vl) [.br true] (fG hB) (_root_.Mine.qa trivial tt)) (a2:=⟨ll g c e none none,if e=true then tS st dx tx w er g v lf u t q6 304 (.ref da) (k0++iX ps (dn ky)++dY nm (ps++[(dn ky,.str vl)]) sc b) R
  else zz st dx tx w er g v lf u da la lb t R nm sc b (ps.map dz) q6 f0 (k0++iX ps (dn ky)) (dn ky) vl⟩) (Lq ?_)) (gi (jN (jG wh)) ⟨_,rfl,rfl,rfl⟩)
 refine dJ (jQ (nk [g,st,tx,er,u,da,la,lb] (zx dx w v lf t R nm sc b (ps.map dz) c e none none q6 f0 k0 [] ky vl) (zx dx w v lf t R nm sc b (ps.map dz) c e none none q6 f0 k0 [] (dn ky) vl) [.call 0 (.av (.str (dn ky))) (gU dx w v lf t q6 f0 (.slot 5) k0 [] (FJ (mI b) nm sc (FI b) (ps.map dz) [.slot 7] [IX ky vl])) R 2] .next (fG hB) (_root_.Mine.qa (_root_.Mine.qa (_root_.Mine.qa trivial hz) (hl (dC [g,st,tx,er,u,da,la,lb] R (gU dx w v lf t q6 f0 (.slot 5) k0 [] (FJ (mI b) nm sc (FI b) (ps.map dz) [.slot 7] [IX ky vl]))))) hz))) ?_
 have e0:DS.to [g,st,tx,er,u,da,la,lb] (zx dx w v lf t R nm sc b (ps.map dz) c e none none q6 f0 k0 [] (dn ky) vl)=⟨ll g c e none none,zz st dx tx w er g v lf u da la lb t R nm sc b (ps.map dz) q6 f0 k0 (dn ky) vl⟩:=cB (St.mk _) (P8 ..)
 refine pE (λσ=>∃ n' w',σ=⟨ll g c e n' w',zz st dx tx w er g v lf u da la lb t R nm sc b (ps.map dz) q6 f0 (k0++iX ps (dn ky)) (dn ky) vl⟩) ?_ ?_
 . refine xL (N:=(ps.map dz).length) (i3:=λi=>(ps.map dz).getD i .any) (λi σ=>(∀ j (hj:j < ps.length),j < i->ps[j].1≠dn ky)/\∃ n' w',σ=⟨ll g c e n' w',zz st dx tx w er g v lf u da la lb t R nm sc b (ps.map dz) q6 f0 k0 (dn ky) vl⟩)
    (nN (Bt (l:=ps.map dz++[.ref lb]) (P1 [g,st,tx,er,u,da,la,lb] (zx dx w v lf t R nm sc b (ps.map dz) c e none none q6 f0 k0 [] (dn ky) vl) (zx dx w v lf t R nm sc b (ps.map dz) c e none none q6 f0 k0 [] (dn ky) vl) [] (.slot 6) (fG hB) trivial) (qo f6) (.trk Jt) ?_) (cB AV.lst (yY _ _))) (λxv=>jY) ⟨λj hj h=>cD h (Nat.not_lt_zero _),none,none,e0⟩ ?_ ?_
   . rw[bt];exact dt hz (by decide)
   . rintro σ ⟨h1,n',w',rfl⟩
     rw[L7 h1 (by rw[bZ];exact cv _),bX]
     exact⟨rfl,n',w',rfl⟩
   . rintro i l8 oe a p hi ⟨h1,n',w',e1⟩
     obtain⟨rfl,rfl⟩:=St.mk.inj e1;have aT:i < ps.length:=by rw[bZ]at hi;exact hi
     have hit:(ps.map dz).getD i .any=.lst [.str ps[i].1,ps[i].2]:=by rw[b8,bz,b9 aT];rfl
     rw[hit];have eq0:DS.to [g,st,tx,er,u,da,la,lb,a] (FE c e (.str ps[i].1) ps[i].2 dx w v lf t R nm sc b (ps.map dz) q6 f0 k0 [] (dn ky) vl (.is p))=⟨ll g c e (some (.str ps[i].1)) (some ps[i].2),(a,.is p)::zz st dx tx w er g v lf u da la lb t R nm sc b (ps.map dz) q6 f0 k0 (dn ky) vl⟩:=by rcases b with _ | _<;>rfl
     refine⟨⟨ll g c e (some (.str ps[i].1)) (some ps[i].2),(a,.is p)::zz st dx tx w er g v lf u da la lb t R nm sc b (ps.map dz) q6 f0 k0 (dn ky) vl⟩,Bp (eV (fc (.skip (.skip (.skip (.skip .hit)))))) (eV (fc (.skip (.skip (.skip (.skip (.skip .hit))))))),?_⟩
     have eq1:DS.to [g,st,tx,er,u,da,la,lb,a] (FE c e (.str ps[i].1) ps[i].2 dx w v lf t R nm sc b (ps.map dz) q6 f0 k0 [.av (eE "duplicate-attribute")] (dn ky) vl (.is p))=⟨ll g c e (some (.str ps[i].1)) (some ps[i].2),(a,.is p)::zz st dx tx w er g v lf u da la lb t R nm sc b (ps.map dz) q6 f0 (k0++[eE "duplicate-attribute"]) (dn ky) vl⟩:=by rcases b with _ | _<;>rfl
     rw[<-eq0]
     by_cases hk':dn ky=ps[i].1
     . refine D1 (N6 (tG [g,st,tx,er,u,da,la,lb,a] (FE c e (.str ps[i].1) ps[i].2 dx w v lf t R nm sc b (ps.map dz) q6 f0 k0 [] (dn ky) vl (.is p)) (FE c e (.str ps[i].1) ps[i].2 dx w v lf t R nm sc b (ps.map dz) q6 f0 k0 [] (dn ky) vl (.is p)) [.br true] (fG hB) (_root_.Mine.qa (_root_.Mine.qa trivial hz) (cc hk'))) ?_)
       refine dJ (jQ (nk [g,st,tx,er,u,da,la,lb,a] (FE c e (.str ps[i].1) ps[i].2 dx w v lf t R nm sc b (ps.map dz) q6 f0 k0 [] (dn ky) vl (.is p)) (FE c e (.str ps[i].1) ps[i].2 dx w v lf t R nm sc b (ps.map dz) q6 f0 k0 [.av (eE "duplicate-attribute")] (dn ky) vl (.is p)) [] .next (fG hB) (_root_.Mine.qa trivial (tY 0 (dt hk (by decide)))))) ?_
       rw[eq1];refine oy (r8:=[(a,.is p)]) (bg (l₁:=[(a,AO.is p)])) (gi (Of M7) ⟨nofun,.inr ⟨rfl,rfl,_,_,by rw[Ff aT hk'.symm]⟩⟩)
     . refine gi (gQ (nc (tG [g,st,tx,er,u,da,la,lb,a] (FE c e (.str ps[i].1) ps[i].2 dx w v lf t R nm sc b (ps.map dz) q6 f0 k0 [] (dn ky) vl (.is p)) (FE c e (.str ps[i].1) ps[i].2 dx w v lf t R nm sc b (ps.map dz) q6 f0 k0 [] (dn ky) vl (.is p)) [.br false] (fG hB) (_root_.Mine.qa (_root_.Mine.qa trivial hz) (bS hk'))) gM) gM) (.inl ⟨rfl,_,_,eq0,λj hj hji=>?_,_,_,rfl⟩)
       rcases Nat.lt_succ_iff_lt_or_eq.mp hji with h | rfl
       . exact h1 j hj h
       . exact λh=>hk' h.symm
 rintro _ ⟨n',w',rfl⟩;refine rO (l9:=ll g c e none none) ?_ ?_ (fQ (by kernel_rfl))
 . have hk2:(k0++iX ps (dn ky)).length<=1000:=by
    rw[bt];refine dt (Nat.add_le_add hk (show(iX ps (dn ky)).length<=10 from ?_)) (by decide)
    unfold iX
    split<;>decide
   have em:=Rj (st:=st) (dx:=dx) (tx:=tx) (w:=w) (er:=er) (g:=g) (v:=v) (lf:=lf) (u:=u) (t:=t) (q:=q6) (f:=f0) (da:=da) (la:=la) (lb:=lb) (R:=R) (sc:=sc) (b:=b) (ps:=ps) (ky:=dn ky) (vl:=vl) hB hn hp hk2
   clear e0 h4 hl hk
   generalize k0++iX ps (dn ky)=kz at hk2 em |-
   generalize dn ky=kl at em |-
   generalize hem:dY nm (ps++[(kl,.str vl)]) sc b=ez at em |-
   have eq2:∀ e,DS.to [g,st,tx,er,u,da,la,lb] (zx dx w v lf t R nm sc b (ps.map dz) c e none none q6 f0 kz [] kl vl)=⟨ll g c e none none,zz st dx tx w er g v lf u da la lb t R nm sc b (ps.map dz) q6 f0 kz kl vl⟩:=λe=>cB (St.mk _) (P8 ..)
   rw[<-eq2]
   rcases e with _ | _
   . rw[cC bw,<-eq2]
     exact gi (nk [g,st,tx,er,u,da,la,lb] (zx dx w v lf t R nm sc b (ps.map dz) c false none none q6 f0 kz [] kl vl) (zx dx w v lf t R nm sc b (ps.map dz) c false none none q6 f0 kz [] kl vl) [.br false] .next (fG hB) (_root_.Mine.qa trivial ff)) ⟨rfl,rfl⟩
   . rw[cE rfl]
     refine gi (nk [g,st,tx,er,u,da,la,lb] (zx dx w v lf t R nm sc b (ps.map dz) c true none none q6 f0 kz [] kl vl) ⟨LG c true none none,gU dx w v lf t q6 304 (.slot 5) (kz++ez) [] [],R⟩ [.br true,.call 0 (.av .none) (gU dx w v lf t q6 304 (.slot 5) (kz++ez) [] []) R 3] .next (fG hB) (_root_.Mine.qa (_root_.Mine.qa trivial tt) (N9 em))) ⟨rfl,rfl⟩
 . intro x d h
   simp only[ll,List.mem_cons,Prod.mk.injEq,reduceCtorEq,and_false,or_false,List.not_mem_nil]at h |-
   rcases h with h | h | h | h
   . exact .inl h
   . exact .inr (.inl h)
   . exact .inr (.inr (.inl h))
   . exact .inr (.inr (.inr (.inl h)))
end
end
section
section
variable {B:cX} {R:OL} {st dx tx w er g v u lf f:Addr} {t:cF} {q q6 q7:SS} {ks as:cG} {z:Nat}
theorem A8 (c5:AV) (hB:f7 B) (hc:dW B st dx tx w er t 4 133 [] (.str [z]) q q6) (h1:z≠33) (h2:z≠47) (h3:decide ([z]∈ii)=true):
 cY B 5 353 [.ref g] (tS st dx tx w er g v lf u t q f c5 ks R) λd o=>d=.bool true/\∃ la da,o=tS st dx tx w er g v lf u t q6 367 (.ref da) ks ((la,.list [])::(da,gT 3 [z] la false (qG true))::R):=
 CE (k:=2) (v:=.av (.bool true)) (o5:=gU dx w v lf t q6 367 (.slot 6) ks [] [(5,.list [] []),(6,.dict [("type",.av (.int 3)),("name",.av (.str [z])),("data",.slot 5),("selfClosing",.av (.bool false)),("selfClosingAcknowledged",.av (.bool false))])]) (r9:=R) ["self"] ["data"] [g,st,tx,er,u] [.slot 0] (gU dx w v lf t q f (.av c5) ks [] []) R [.cs (.av (.str [z])) (j5 1 dx w q6.c q6.c.length q6.i q6.pl q6.pc q6.buf t q6.p q6.es [] []) 4,.br false,.br false,.br true] hB.K (np hB) rfl (.one λy=>rfl) (hq:=qa (qa (qa (qa (qa trivial hc) (ne1 h1)) (ne1 h2)) h3) (xz 5 ⟨[("self",some (.slot 0)),("data",some (.av (.str [z])))],gU dx w v lf t q6 f (.av c5) ks [] [],R⟩))
  (λd o ⟨a,b,h⟩=>⟨h.1,a,b,h.2⟩) (by kernel_rfl) (by kernel_rfl) (by kernel_rfl) (by intro L;kernel_rfl)
theorem EL (c5:AV) (hB:f7 B) (hc:dW B st dx tx w er t 4 133 [] (.str [z]) q q6) (h3:decide ([z]∈ii)=true):
 cY B 5 360 [.ref g] (tS st dx tx w er g v lf u t q f c5 ks R) λd o=>d=.bool true/\∃ la da,o=tS st dx tx w er g v lf u t q6 367 (.ref da) ks ((la,.list [])::(da,gT 4 [z] la false (qG false))::R):=
 CE (k:=2) (v:=.av (.bool true)) (o5:=gU dx w v lf t q6 367 (.slot 6) ks [] [(5,.list [] []),(6,.dict [("type",.av (.int 4)),("name",.av (.str [z])),("data",.slot 5),("selfClosing",.av (.bool false))])]) (r9:=R) ["self"] ["data"] [g,st,tx,er,u] [.slot 0] (gU dx w v lf t q f (.av c5) ks [] []) R [.cs (.av (.str [z])) (j5 1 dx w q6.c q6.c.length q6.i q6.pl q6.pc q6.buf t q6.p q6.es [] []) 4,.br true] hB.K (np hB) rfl (.one λy=>rfl) (hq:=qa (qa (qa trivial hc) h3) (xz 5 ⟨[("self",some (.slot 0)),("data",some (.av (.str [z])))],gU dx w v lf t q6 f (.av c5) ks [] [],R⟩))
  (λd o ⟨a,b,h⟩=>⟨h.1,a,b,h.2⟩) (by kernel_rfl) (by kernel_rfl) (by kernel_rfl) (by intro L;kernel_rfl)
end
end
section
noncomputable def Qb:cV:=[[38],[62],[34],[39],[61],[60],[96],[0]]++gR
set_option genCtorIdx true in
inductive jn | data | tag | cl | tn | bn | an | nn | bv | dq | sq | uq | av | sc | bog | mk | cs | cd | co | ce | cn | cb
inductive gF where
 | none | cmt (ak:cF) | tag (b:Bool) (nm:cF) (ps:cP) (sc:Bool) (o:Option (cF×cF))
noncomputable abbrev pA (ps:cP):List (cF×AV):=ps.map λp=>(p.1,.str p.2)
noncomputable abbrev jn.addr (s:jn):Addr:=jn.casesOn s 304 353 360 367 535 542 549 556 563 570 577 584 591 598 605 612 619 626 633 640 647
noncomputable def td (x:Nat):Bool:=decide ([x]∈gR)==true
noncomputable def Ib (x:Nat):Bool:=decide ([x]∈ii)==true
noncomputable def NZ (x:Nat):Bool:=decide ([x]∈[[38],[60],[0]])==false
noncomputable def Lj (x:Nat):Bool:=decide ([x]∈[[34],[38],[0]])==false
noncomputable def Ll (x:Nat):Bool:=decide ([x]∈[[39],[38],[0]])==false
noncomputable def L8 (x:Nat):Bool:=decide ([x]∈[[45],[0]])==false
noncomputable def Ld (x:Nat):Bool:=decide ([x]∈Qb)==false
noncomputable def tf (x:Nat):Bool:=decide (x∈[62])==false
noncomputable def mr (q:SS):AV:=.tup [.int (q.pl+fO 10 q.c q.i+1),.int (jj q.pc q.c q.i)]
noncomputable def dw (T:cF) (k:Nat):AV:=.tup [.int ((T.take k).count 10+1),.int (fM 0 (T.take k))]
noncomputable abbrev fh (T:cF) (e:Nat×AV):AV:=.tup [dw T (T.length - e.1),e.2]
noncomputable abbrev zZ (d:AV) (q:SS):AV:=.tup [mr q,d]
structure Em (B:cX) (st dx tx w er:Addr) (T:cF) (On:Bool->cF->SS->Prop):Prop where
 char:∀ {f z l q},On f (z::l) q->∃ q',On true l q'/\dW B st dx tx w er T 4 133 [] (.str [z]) q q'/\∃ q'',On true (z::l) q''/\dW B st dx tx w er T 1 163 [.str [z]] .none q' q''
 un:∀ {z y l q},(z::y::l) <:+T->On true (y::l) q->∃ q',On true (z::y::l) q'/\dW B st dx tx w er T 1 163 [.str [z]] .none q q'
 suf:∀ {f l q},On f l q->l <:+T
 fin:∀ {f q},On f [] q->∃ q',On true [] q'/\dW B st dx tx w er T 4 133 [] .none q q'
 til:∀ {c7:AV} {m:Nat->Bool} {oh:Bool} {ah:cG} {l q},FD B c7 m->(ah=[c7]/\oh=false\/ah=[c7,.bool oh])->On true l q->
  ∃ q',On true (l.dropWhile λx=>m x==oh) q'/\dW B st dx tx w er T 4 156 ah (.str (l.takeWhile λx=>m x==oh)) q q'
 es:∀ {f l q},On f l q->q.es=[]/\{ q with es:=[] }=q
 pos:∀ {f l q},On f l q->mr q=dw T (T.length - l.length)
 len:∀ {f l q},On f l q->l.length<=1000
 no0:∀ {f l q},On f l q->∀ c∈l,c≠0/\c≠38
noncomputable abbrev o0 (d la:Addr) (b:Bool) (nm:cF) (ps:cP) (sc:Bool) (r:OL):OL:=(d,gT (mI b) nm la sc (qG b))::(la,.list ((pA ps).map dz))::r
noncomputable abbrev o1 (d la lb:Addr) (b:Bool) (nm:cF) (ps:cP) (sc:Bool) (ky vl:cF) (r:OL):OL:=(d,gT (mI b) nm la sc (qG b))::(la,.list ((pA ps).map dz++[.ref lb]))::(lb,.list [.str ky,.str vl])::r
def iP (tok:gF) (c5:AV) (r8:OL):Prop:=gF.casesOn tok True (λak=>∃ d r,c5=.ref d/\r8=(d,sI ak)::r)
 λb nm ps sc o=>Option.casesOn o (∃ d la,c5=.ref d/\((∃ r,r8=o0 d la b nm ps sc r)\/∃ lb qs ky vl r,ps=qs++[(ky,vl)]/\r8=o1 d la lb b nm qs sc ky vl r)) λp=>∃ d la lb r,c5=.ref d/\r8=o1 d la lb b nm ps sc p.1 p.2 r
theorem iO {c:AV} {r:OL}:iP .none c r:=trivial
theorem xW {d:Addr} {a:cF} {r:OL}:iP (.cmt a) (.ref d) ((d,sI a)::r):=⟨d,r,rfl,rfl⟩
theorem uB {d la lb:Addr} {b:Bool} {nm:cF} {ps:cP} {sc:Bool} {ky vl:cF} {r:OL}:iP (.tag b nm ps sc (some (ky,vl))) (.ref d) (o1 d la lb b nm ps sc ky vl r):=⟨d,la,lb,r,rfl,rfl⟩
theorem zs {d la:Addr} {b:Bool} {nm:cF} {ps:cP} {sc:Bool} {r:OL}:iP (.tag b nm ps sc none) (.ref d) (o0 d la b nm ps sc r):=⟨d,la,rfl,.inl ⟨r,rfl⟩⟩
theorem OW {d la lb:Addr} {b:Bool} {nm:cF} {ps:cP} {sc:Bool} {ky vl:cF} {r:OL}:iP (.tag b nm (ps++[(ky,vl)]) sc none) (.ref d) (o1 d la lb b nm ps sc ky vl r):=⟨d,la,rfl,.inr ⟨lb,ps,ky,vl,r,rfl,rfl⟩⟩
section
variable {B:cX} {st dx tx w er g v lf u f f':Addr} {T:cF} {On:Bool->cF->SS->Prop} {n:Nat} {fl:Bool} {q q':SS} {c5 c8:AV} {R r8 r9:OL} {l l':cF} {ks:cG} {rc rd:cR} {tok:gF} {ak nm ky vl:cF} {ps:cP} {sc b:Bool}
abbrev Tn (B:cX) (st dx tx w er g v lf u:Addr) (T:cF) (On:Bool->cF->SS->Prop) (n:Nat) (q:SS) (f:Addr) (c5:AV) (r8:OL) (rc:cR):Prop:=Bd B st dx tx w er g v lf u T zZ (On true []) n q f c5 r8 (rc.map (fh T))
theorem JX:(pA (ps++[(ky,vl)])).map dz=(pA ps).map dz++[.lst [.str ky,.str vl]]:=by rw[pA,bV,bV];rfl
theorem H2 {m:Nat} {ah:cG} {Φ:AV->OL->Prop} (h:iP (.tag b nm ps sc none) c5 r8) (k:∀ da la R,c5=.ref da->cY B m f ah (tS st dx tx w er g v lf u T q f' (.ref da) ks ((da,gT (mI b) nm la sc (qG b))::(la,.list ((pA ps).map dz))::R)) Φ):
 cY B m f ah (tS st dx tx w er g v lf u T q f' c5 ks r8) Φ:=by
 obtain⟨d,la,rfl,⟨r,rfl⟩ | ⟨lb,qs,ky,vl,r,rfl,rfl⟩⟩:=h
 . exact k _ _ _ rfl
 . have z:=k d la r rfl
   rw[JX]at z
   exact NM z
theorem Kg (S:Em B st dx tx w er T On) (o:On fl l' q'):(ks.map (λd=>(l'.length,d))++rd).map (fh T)=(ks.map λd=>zZ d q')++rd.map (fh T):=by
 rw[bV,List.map_map];show _ =(ks.map λd=>AV.tup [mr q',d])++_
 rw[S.pos o];rfl
theorem PG (S:Em B st dx tx w er T On) (o:On fl l' q') (c:cY B 5 f [.ref g] (tS st dx tx w er g v lf u T q f c5 [] r8) λd o=>d=.bool true/\∃ x:AV×OL,Tn B st dx tx w er g v lf u T On n q' f' x.1 x.2 rd/\o=tS st dx tx w er g v lf u T q' f' x.1 ks x.2)
 (hf:fnIn B.K f=true) (hk:ks.length<=16777216):Tn B st dx tx w er g v lf u T On (n+1) q f c5 r8 (ks.map (λd=>(l'.length,d))++rd):=
 ⟨hf,c.mono λd o' ⟨e1,x,h,e2⟩=>⟨q',f',x.1,ks,x.2,e2,.inr ⟨e1,(S.es o).1,hk,rd.map (fh T),Kg S o,h⟩⟩⟩
theorem FS {p:Nat->Bool} {l:cF} (h:l.length<=1000):(l.takeWhile p).length<=1000:=dt (List.takeWhile_sublist p).length_le h
theorem jz {a b m:Nat} (ha:a<=5000) (hb:b<=1000) (hm:autoParam (Nat.ble 6000 m=true) bR):a+b<=m:=dt (Nat.add_le_add ha hb) (dR hm)
theorem xx {L:AO} {D:Addr->AO} {c:AV} {fs:Addr} (h:cY B 5 f [.ref g] (tS st dx tx w er g v lf u T q fs c5 [] r8) λd o=>d=c/\∃ la da,o=tS st dx tx w er g v lf u T q' f'  (.ref da) [] ((la,L)::(da,D la)::r8)) {Φ:AV->OL->Prop}
 (k:∀ la da,Φ c (tS st dx tx w er g v lf u T q' f' (.ref da) [] ((da,D la)::(la,L)::r8))):cY B 5 f [.ref g] (tS st dx tx w er g v lf u T q fs c5 [] r8) Φ:=
 h.perm (.refl _) λd o ⟨e1,la,da,e2⟩=>⟨_,e2▸List.Perm.append_left [_,_,_,_,_] (.swap _ _ _),e1▸k la da⟩
theorem iS {ps:List (cF×AV)}:(dY nm ps sc b).length<=3:=by
 unfold dY
 split
 . exact dR rfl
 . rw[bt,bt]
   refine Nat.add_le_add (b:=1) (d:=2) (by split<;>exact dR rfl) (Nat.add_le_add (b:=1) (d:=1) (by split<;>exact dR rfl) (cv 1))
theorem oR {ps:List (cF×AV)}:(iX ps ky).length<=1:=by unfold iX;split<;>exact dR rfl
theorem wq (h:ps.length<=900) (m:Nat) (hm:autoParam (Nat.ble 900 m=true) bR):(pA ps).length<=m:=by rw[bZ];exact dt h (dR hm)
theorem ww (h:ps.length<=900):((pA ps).map dz).length<=1000:=by rw[bZ];exact wq h 1000
theorem M4 {p:cF×cF} (h:ps.length<=900):(pA (ps++[p])).length<=999:=by rw[bZ,bt];exact dt (bH h) (by decide)
theorem up {a m:Nat} (h:a<=5000) (hm:autoParam (Nat.ble 5000 m=true) bR):a<=m:=dt h (dR hm)
end
inductive vH:AV->Prop
 | tok {i:Int} {x:cF} (h3:(!decide (i=3))=true) (h4:(!decide (i=4))=true):vH (.dct [("type",.int i),("data",.str x)])
 | erC {x c:cF}:vH (.dct [("type",.int 7),("data",.str x),("datavars",.dct [("data",.str c)])])
 | emit {nm:cF} {ps:List (cF×AV)} {sc b:Bool} {d:AV} (hp:ps.length<=1000) (hv:∀ p∈ps,∃ l,p.2=.str l) (h:d∈dY nm ps sc b):vH d
abbrev jL (ks:cG):Prop:=∀ d∈ks,vH d
structure jR where
 B:cX
 st:Addr
 dx:Addr
 tx:Addr
 w:Addr
 er:Addr
 g:Addr
 v:Addr
 lf:Addr
 u:Addr
 T:cF
 On:Bool->cF->SS->Prop
 hB:f7 B
 S:Em B st dx tx w er T On
noncomputable abbrev jR.tS (M:jR) (q:SS) (f:Addr) (c5:AV) (ks:cG) (r8:OL):OL:=Mine.tS M.st M.dx M.tx M.w M.er M.g M.v M.lf M.u M.T q f c5 ks r8
abbrev jR.To (M:jR) (m:Nat) (f:Addr) (ah:cG) (d:AV) (q q':SS):Prop:=dW M.B M.st M.dx M.tx M.w M.er M.T m f ah d q q'
noncomputable abbrev at' (l:cF) (ks:cG):cR:=ks.map λd=>(l.length,d)
def Db (M:jR) (n:Nat) (s:jn) (tok:gF) (l:cF) (rc:cR):Prop:=∀ u f q c5 r8,(f=false->s=.data)->M.On f l q->iP tok c5 r8->Tn M.B M.st M.dx M.tx M.w M.er M.g M.v M.lf u M.T M.On n q s.addr c5 r8 rc
noncomputable def yS (s:jn):Nat:=jn.casesOn s 0 2 2 1 1 2 1 1 1 1 1 2 2 1 2 2 2 2 2 2 2
noncomputable def iu (tok:gF):Nat:=gF.casesOn tok 0 (λak=>ak.length) λy nm ps y o=>nm.length+ps.length+Option.casesOn o 0 λp=>p.1.length+p.2.length+1
abbrev ui (tok:gF) (l:cF):Prop:=iu tok+4*l.length<=900
structure dL (s:jn) (tok:gF) (l:cF) (rs:cR) (s':jn) (t8:gF) (l':cF):Prop where
 len:rs.length+(yS s'+4*l'.length)<=yS s+4*l.length
 sz:iu t8+4*l'.length<=iu tok+4*l.length
 le:l'.length<=l.length
 pl:∀ e∈rs,e.1<=l.length
 ok:ui tok l->∀ e∈rs,vH e.2
 go:ui tok l->∀ M n rc,Db M n s' t8 l' rc->∃ m,Db M m s tok l (rs++rc)
def Nx (M:jR) (s:jn) (q:SS) (c5:AV) (r8:OL) (ks:cG) (s':jn) (t8:gF) (q':SS):Prop:=
 cY M.B 5 s.addr [.ref M.g] (M.tS q s.addr c5 [] r8) λd o=>d=.bool true/\∃ x:AV×OL,iP t8 x.1 x.2/\o=M.tS q' s'.addr x.1 ks x.2
theorem cZ {α:Type} {P:α->Prop}:∀ x∈([]:List α),P x:=λy h=>nomatch h
theorem dj {α:Type} {P:α->Prop} {a:α} {l:List α} (h1:P a) (h2:∀ x∈l,P x):∀ x∈a::l,P x:=λx hx=>by
 rcases fD hx with rfl | hx
 . exact h1
 . exact h2 x hx
theorem fk {α:Type} {P:α->Prop} {a b:List α} (h1:∀ x∈a,P x) (h2:∀ x∈b,P x):∀ x∈a++b,P x:=λx hx=>(bT.mp hx).elim (h1 x) (h2 x)
section
variable {s s1 s2 s':jn} {tok tok1 tok2 t8:gF} {l l1 l2 l':cF} {rs rs1 rs2:cR} {ks:cG} {z:Nat} {b sc:Bool} {nm ky vl ak:cF} {ps:cP}
theorem dL.refl:dL s tok l [] s tok l:=⟨cq (Nat.zero_add _),cv _,cv _,cZ,λy=>cZ,λy y n y h=>⟨n,h⟩⟩
theorem dL.trans (h1:dL s tok l rs1 s1 tok1 l1) (h2:dL s1 tok1 l1 rs2 s2 tok2 l2):dL s tok l (rs1++rs2) s2 tok2 l2 where
 len:=by rw[bt,Nat.add_assoc];exact dt (bo h2.len _) h1.len
 sz:=dt h2.sz h1.sz
 le:=dt h2.le h1.le
 pl:=fk h1.pl λe he=>dt (h2.pl e he) h1.le
 ok:=λz=>fk (h1.ok z) (h2.ok (dt h1.sz z))
 go:=λz M n rc h=>(h2.go (dt h1.sz z) M n rc h).elim λm hm=>(h1.go z M m _ hm).imp λk hk=>by rw[bB];exact hk
theorem IO (s:jn):yS s<=2:=by rcases s<;>exact dR rfl
abbrev Fn (s:jn):Prop:=∀ P,fnIn (fN P) s.addr=true
theorem lB (hle:l'.length<=l.length) (hl:ks.length+(yS s'+4*l'.length)<=yS s+4*l.length) (hs:iu t8+4*l'.length<=iu tok+4*l.length) (ok:ui tok l->jL ks) (h:∀ M:jR,∀ f q c5 r8,ui tok l->(f=false->s=.data)->M.On f l q->iP tok c5 r8->∃ q',M.On true l' q'/\Nx M s q c5 r8 ks s' t8 q') (hf:Fn s):dL s tok l (at' l' ks) s' t8 l' where
 len:=by rw[bZ];exact hl
 sz :=hs
 le :=hle
 pl :=λe he=>by obtain⟨d,hd,rfl⟩:=cg.mp he;exact hle
 ok :=λz e he=>by obtain⟨d,hd,rfl⟩:=cg.mp he;exact ok z d hd
 go :=λz M n rc D=>⟨n+1,λu f q c5 r8 hf' o hT=>by
  obtain⟨q',o',c⟩:=h { M with u:=u } f q c5 r8 z hf' o hT
  have hz:ks.length<=16777216:=by
   have:=IO s
   have z:iu tok+4*l.length<=900:=z
   omega
  exact PG M.S o' (c.mono λd o2 ⟨e1,x,ht,e2⟩=>⟨e1,x,D u true q' x.1 x.2 (λe=>nomatch e) o' ht,e2⟩) (by rw[M.hB.K];exact hf _) hz⟩
theorem lD {m:Nat} (z:ui tok l) (h:autoParam (Nat.ble 900 m=true) bR):iu tok<=m:=dt (dt (bE _ _) z) (dR h)
theorem rC (hl:ks.length+yS s'<=yS s+4) (hs:iu t8<=iu tok+4) (ok:iu tok<=900->jL ks) (h:∀ M:jR,∀ q q6 c5 r8,z≠0->z≠38->iu tok<=900->M.To 4 133 [] (.str [z]) q q6->iP tok c5 r8->Nx M s q c5 r8 ks s' t8 q6) (hf:Fn s:=by intro y;kernel_rfl):dL s tok (z::l) (at' l ks) s' t8 l:=
 lB (hf:=hf) (Nat.le_succ _) (by rw[bL];omega) (by rw[bL];omega) (λz=>ok (lD z)) λM f q c5 r8 sm y o hT=>by
  have hnz:=M.S.no0 o z dH
  obtain⟨q6,o1,hc,_⟩:=M.S.char o;exact⟨q6,o1,h M q q6 c5 r8 hnz.1 hnz.2 (lD sm) hc hT⟩
theorem Qt {p:Nat->Bool}:∀ {l:cF},(l.takeWhile p).length+(l.dropWhile p).length=l.length:=λ{l}=>by
 rw[<-bt,List.takeWhile_append_dropWhile]
theorem rT {c7:cG} {ah:cG} {m:Nat->Bool} {oh:Bool} (hj:∀ B,FD B (.tup c7) m) (ha:ah=[.tup c7]/\oh=false\/ah=[.tup c7,.bool oh]) (hl:ks.length+yS s'<=yS s+4) (hs:iu t8<=iu tok+4+4*(l.takeWhile λx=>m x==oh).length) (ok:iu tok<=900->jL ks)
 (h:∀ M:jR,∀ q q6 q7 c5 r8,z≠0->z≠38->iu tok<=900->(l.takeWhile λx=>m x==oh).length<=1000->M.To 4 133 [] (.str [z]) q q6->M.To 4 156 ah (.str (l.takeWhile λx=>m x==oh)) q6 q7->iP tok c5 r8->Nx M s q c5 r8 ks s' t8 q7) (hf:Fn s:=by intro y;kernel_rfl):
 dL s tok (z::l) (at' (l.dropWhile λx=>m x==oh) ks) s' t8 (l.dropWhile λx=>m x==oh):=by
 have e:=Qt (p:=λx=>m x==oh) (l:=l)
 exact lB (hf:=hf) (by rw[bL];omega) (by rw[bL];omega) (by rw[bL];omega) (λz=>ok (lD z)) λM f q c5 r8 sm y o hT=>by
  have hnz:=M.S.no0 o z dH
  have hl:l.length<=1000:=Nat.le_of_succ_le (M.S.len o)
  obtain⟨q6,o1,hc,_⟩:=M.S.char o;obtain⟨q7,o2,hu⟩:=M.S.til (hj M.B) ha o1;exact⟨q7,o2,h M q q6 q7 c5 r8 hnz.1 hnz.2 (lD sm) (FS hl) hc hu hT⟩
theorem rU (hl:ks.length+yS s'<=yS s) (hs:iu t8<=iu tok) (ok:iu tok<=900->jL ks) (h:∀ M:jR,∀ q q6 q7 c5 r8,z≠0->M.To 4 133 [] (.str [z]) q q6->M.To 1 163 [.str [z]] .none q6 q7->iP tok c5 r8->Nx M s q c5 r8 ks s' t8 q7) (hf:Fn s:=by intro y;kernel_rfl):dL s tok (z::l) (at' (z::l) ks) s' t8 (z::l):=
 lB (hf:=hf) (cv _) (by omega) (bk hs _) (λz=>ok (lD z)) λM f q c5 r8 y y o hT=>by
  have hnz:=M.S.no0 o z dH
  obtain⟨q6,o1,hc,q7,o2,hu⟩:=M.S.char o;exact⟨q7,o2,h M q q6 q7 c5 r8 hnz.1 hc hu hT⟩
theorem rE (hl:ks.length+yS s'<=yS s) (hs:iu t8<=iu tok) (ok:iu tok<=900->jL ks) (h:∀ M:jR,∀ q q6 c5 r8,iu tok<=900->M.To 4 133 [] .none q q6->iP tok c5 r8->Nx M s q c5 r8 ks s' t8 q6) (hf:Fn s:=by intro y;kernel_rfl):dL s tok [] (at' [] ks) s' t8 []:=
 lB (hf:=hf) (cv _) hl hs (λz=>ok (lD z)) λM f q c5 r8 sm y o hT=>by
  obtain⟨q6,o1,hc⟩:=M.S.fin o;exact⟨q6,o1,h M q q6 c5 r8 (lD sm) hc hT⟩
section
variable {M:jR} {q q':SS} {c5 c8:AV} {r8 r9:OL}
theorem aN (k:cY M.B 5 s.addr [.ref M.g] (M.tS q s.addr c5 [] r8) λd o=>d=.bool true/\o=M.tS q' s'.addr c8 ks r9) (ht:iP t8 c8 r9):Nx M s q c5 r8 ks s' t8 q':=k.mono λ_ _ ⟨e1,e2⟩=>⟨e1,(c8,r9),ht,e2⟩
theorem Le (h:iP (.tag b nm ps sc (some (ky,vl))) c5 r8):iP (.tag b nm (ps++[(ky,vl)]) sc none) c5 r8:=by
 obtain⟨d,la,lb,r,rfl,rfl⟩:=h;exact OW
end
theorem GY {x:String}:vH (eE x):=.tok (by decide) (by decide)
theorem ng {x:String}:jL [eE x]:=dj GY cZ
theorem tA {ps:List (cF×AV)}:jL (iX ps ky):=by
 unfold iX
 split
 . exact ng
 . exact cZ
theorem vQ {ps:cP}:∀ p∈pA ps,∃ l,p.2=.str l:=λp hp=>by
 obtain⟨q,_,rfl⟩:=cg.mp hp;exact⟨_,rfl⟩
end
end
section
noncomputable abbrev jR.r (M:jR) (ρ:cK):cK:=M.g::M.st::M.tx::M.er::M.u::ρ
noncomputable abbrev jR.dS (M:jR) (q:SS) (f:Addr) (c5:DV) (ks:cG) (r:cQ):cQ:=gU M.dx M.w M.v M.lf M.T q f c5 [] (ks.map .av) r
noncomputable abbrev jR.q (M:jR) (q:SS):cQ:=j5 1 M.dx M.w q.c q.c.length q.i q.pl q.pc q.buf M.T q.p q.es [] []
noncomputable abbrev dB (b:Bool) (nm:cF) (sc:Bool) (as:cG):cQ:=FJ (mI b) nm sc (FI b) as [] []
noncomputable abbrev dA (b:Bool) (nm:cF) (sc:Bool) (as:cG) (ky vl:cF):cQ:=FJ (mI b) nm sc (FI b) as [.slot 7] [IX ky vl]
theorem c0 {p:Prop} (h:p):True/\p:=⟨trivial,h⟩
theorem Lb (ρ:cK) (e:cG):zv ρ [] (e.map .av)=e:=by rw[jF,List.nil_append,mF,List.map_map];exact List.map_id e
structure Ht (M:jR) (ρ:cK) (c:DV) (r:cQ) (R:OL) (c5:AV) (r8:OL):Prop where
 eq:∀ q f e,dC (M.r ρ) R (M.dS q f c e r)=M.tS q f c5 e r8
section
variable {M:jR} {s s':jn} {q q6 q':SS} {c5 c c8:AV} {r8 r9 R R':OL} {ks:cG} {t8:gF} {p:Prop} {b sc:Bool} {nm ky vl:cF} {da la lb:Addr} {as:cG} {ρ:cK} {d d':DV} {r r':cQ}
theorem sE:Ht M ρ (.av c5) [] R c5 R:=⟨λq f e=>cB (λx=>M.tS q f c5 x R) (Lb (M.r ρ) e)⟩
theorem sF:Ht M (da::ρ) (.slot 5) [] R (.ref da) R:=⟨λq f e=>cB (λx=>M.tS q f (.ref da) x R) (Lb (M.r (da::ρ)) e)⟩
theorem sB:Ht M [da,la] (.slot 5) (dB b nm sc as) R (.ref da) ((da,gT (mI b) nm la sc (qG b))::(la,.list as)::R):=⟨λq f e=>by
 have h:=Lb (M.r [da,la]) e
 rcases b with _ | _<;>exact cB (λx=>M.tS q f (.ref da) x _) h⟩
theorem sA:Ht M [da,la,lb] (.slot 5) (dA b nm sc as ky vl) R (.ref da) ((da,gT (mI b) nm la sc (qG b))::(la,.list (as++[.ref lb]))::(lb,.list [.str ky,.str vl])::R):=⟨λq f e=>by
 have h:=Lb (M.r [da,la,lb]) e
 rcases b with _ | _<;>exact cB (λx=>M.tS q f (.ref da) x _) h⟩
structure Mv (M:jR) (ρ:cK) (d:DV) (r:cQ) (R:OL) (c5:AV) (r8:OL) (d':DV) (r':cQ) (c8:AV) (r9:OL):Prop where
 a:Ht M ρ d r R c5 r8
 b:Ht M ρ d' r' R c8 r9
theorem mD:Mv M [] (.av c5) [] R c5 R (.av c5) [] c5 R:=⟨sE,sE⟩
theorem mK:Mv M [da,la] (.slot 5) (dB b nm sc as) R (.ref da) ((da,gT (mI b) nm la sc (qG b))::(la,.list as)::R) (.slot 5) (dB b nm sc as) (.ref da) ((da,gT (mI b) nm la sc (qG b))::(la,.list as)::R):=⟨sB,sB⟩
theorem Lk:Mv M [da,la] (.slot 5) (dB b nm sc as) R (.ref da) ((da,gT (mI b) nm la sc (qG b))::(la,.list as)::R) (.slot 5) [] (.ref da) R:=⟨sB,sF⟩
theorem mV {ky' vl':cF}:Mv M [da,la,lb] (.slot 5) (dA b nm sc as ky vl) R (.ref da) ((da,gT (mI b) nm la sc (qG b))::(la,.list (as++[.ref lb]))::(lb,.list [.str ky,.str vl])::R) (.slot 5) (dA b nm sc as ky' vl') (.ref da) ((da,gT (mI b) nm la sc (qG b))::(la,.list (as++[.ref lb]))::(lb,.list [.str ky',.str vl'])::R):=⟨sA,sA⟩
theorem mO:Mv M [da,la,lb] (.slot 5) (dA b nm sc as ky vl) R (.ref da) ((da,gT (mI b) nm la sc (qG b))::(la,.list (as++[.ref lb]))::(lb,.list [.str ky,.str vl])::R) (.slot 5) (dA b nm sc as ky vl) (.ref da) ((da,gT (mI b) nm la sc (qG b))::(la,.list (as++[.ref lb]))::(lb,.list [.str ky,.str vl])::R):=⟨sA,sA⟩
theorem RO:Mv M [da,la,lb] (.slot 5) (dA b nm sc as ky vl) R (.ref da) ((da,gT (mI b) nm la sc (qG b))::(la,.list (as++[.ref lb]))::(lb,.list [.str ky,.str vl])::R) (.slot 5) [] (.ref da) R:=⟨sA,sF⟩
theorem S3 {nm':cF}:Mv M [da,la] (.slot 5) (dB b nm sc as) R (.ref da) ((da,gT (mI b) nm la sc (qG b))::(la,.list as)::R) (.slot 5) (dB b nm' sc as) (.ref da) ((da,gT (mI b) nm' la sc (qG b))::(la,.list as)::R):=⟨sB,sB⟩
noncomputable def S5 (K:Frag) (f:Addr):Option Obj×(Value->Sem (cS)):=(K.lookup f,λv=>bindArgs (yP K f) ⟨[v],[]⟩)
noncomputable def S6 (K:Frag) (f:Addr):Option Obj×(Value->Sem (cS)):=(some ⟨(pS K f).cls,(pS K f).dict,.func (yP K f),(pS K f).slots⟩,λv=>pure [(("self":Str),v)])
def CO (M:jR) (s:jn) (ρ:cK) (d:DV) (r:cQ) (R:OL) (q:SS) (c:AV) (q6:SS) (ai:List eX):(Option Obj×(Value->Sem (cS)))×(Addr->Option Hq):=(S5 (fN M.B.P) s.addr,BY M.hB 4 s.addr ["self"] (M.r ρ) [.slot 0] (M.dS q s.addr d [] r) R (.cs (.av c) (M.q q6) 4::ai))
noncomputable def Eb (M:jR) (s:jn) (p:Prop) (k:Nat) (q':SS) (s':jn) (d':DV) (ks:cG) (r':cQ) (R:OL):(Option Obj×(Value->Sem (cS)))×(Addr->Option Hq):=(S6 (fN M.B.P) s.addr,Pm (some ⟨p,k,.av (.bool true),M.dS q' s'.addr d' ks r',R⟩))
theorem xG (h:Mv M ρ d r R c5 r8 d' r' c8 r9) (ht:iP t8 c8 r9) (hc:M.To 4 133 [] c q q6) (ai:List eX) (hq:p) (e:autoParam (CO M s ρ d r R q c q6 ai=Eb M s p 0 q' s' d' ks r' R) bK):Nx M s q c5 r8 ks s' t8 q':=
 aN (MP (M.r ρ) (M.dS q s.addr d [] r) R (.cs (.av c) (M.q q6) 4::ai) true (M.dS q' s'.addr d' ks r') M.hB hq (.one (congrFun (Prod.mk.inj (Prod.mk.inj e).1).2)) (h.a.eq ..) (h.b.eq ..) (Prod.mk.inj (Prod.mk.inj e).1).1 (Prod.mk.inj e).2) ht
theorem CT (M:jR) (q:SS):M.To 1 163 [.none] .none q q:=λy=>uA M.hB
theorem aK (hT:iP (.tag b nm ps sc none) c5 r8) (k:∀ da la R,Nx M s q (.ref da) (o0 da la b nm ps sc R) ks s' t8 q'):Nx M s q c5 r8 ks s' t8 q':=H2 hT λda la R y=>k da la R
theorem aO (hT:iP (.tag b nm ps sc (some (ky,vl))) c5 r8) (k:∀ da la lb R,Nx M s q (.ref da) (o1 da la lb b nm ps sc ky vl R) ks s' t8 q'):Nx M s q c5 r8 ks s' t8 q':=by
 obtain⟨d,la,lb,r,rfl,rfl⟩:=hT;exact k d la lb r
end
section
variable {M:jR} {q q6 q':SS} {c5 c:AV} {r8 R:OL} {p:Prop} {da la lb:Addr}
variable {s s1 s2 s':jn} {tok tok1 tok2 t8:gF} {l l1 l2 l':cF} {rs rs1 rs2:cR} {ks:cG} {z:Nat} {b sc:Bool} {nm ky vl ak:cF} {ps:cP}
noncomputable abbrev tg (b:Bool) (nm:cF) (ps:cP) (sc:Bool):gF:=.tag b nm ps sc none
noncomputable abbrev to (b:Bool) (nm:cF) (ps:cP) (sc:Bool) (ky vl:cF):gF:=.tag b nm ps sc (some (ky,vl))
structure Sm (nm:cF) (ps:cP):Prop where
 n:nm.length<=5000
 p:ps.length<=900
abbrev lw (z:Nat):Prop:=decide ([z]∈gR)=true
abbrev th (z:Nat):Prop:=decide ([z]∈ii)=true
noncomputable abbrev Ae (x:String) (t:cV) (z:Nat):cG:=if decide ([z]∈t)=true then [eE x] else []
theorem rH {t:cF} (ht:∀ y∈t,decide ([y]∈ii)=false) (e:th z):¬ decide ([z]∈t.map λy=>[y])=true:=λq=>by
 obtain⟨y,hy,q⟩:=cg.mp (of_decide_eq_true q);obtain rfl:=List.head_eq_of_cons_eq q
 exact cD e (bA.mp (ht _ hy))
noncomputable abbrev rL (ps:cP) (ky:cF):cG:=iX (pA ps) (dn ky)
theorem bf {p:Bool} (h:¬ p=true):p=false:=bA.mpr h
theorem sm (hz:iu (.tag b nm ps sc none)<=900):Sm nm ps:=by
 have hz:nm.length+ps.length+0<=900:=hz
 exact⟨by omega,by omega⟩
theorem so (hz:iu (.tag b nm ps sc (some (ky,vl)))<=900):Sm nm ps/\ky.length<=5000/\vl.length<=5000:=by
 have hz:nm.length+ps.length+(ky.length+vl.length+1)<=900:=hz
 exact⟨⟨by omega,by omega⟩,by omega,by omega⟩
theorem lp (h:Sm nm ps):((pA ps).map dz).length+1<=16777000:=dt (bH (ww h.p)) (by decide)
theorem iW:0+0<=16777216:=by decide
theorem zq:0+1<=16777216:=by decide
theorem RV:iu (.tag b (nm++[z]) ps sc none)<=iu (.tag b nm ps sc none)+4:=by show(nm++[z]).length+ps.length+0<=nm.length+ps.length+0+4;rw[bt,bd];omega
theorem Ol {p:cF×cF}:iu (.tag b nm (ps++[p]) sc none)<=iu (.tag b nm ps sc (some (ky,vl)))+4:=by show nm.length+(ps++[p]).length+0<=nm.length+ps.length+(ky.length+vl.length+1)+4;rw[bt,bd];omega
theorem QS {p:cF×cF}:iu (.tag b nm (ps++[p]) sc (some ([z],[])))<=iu (.tag b nm ps sc (some (ky,vl)))+4:=by show nm.length+(ps++[p]).length+2<=nm.length+ps.length+(ky.length+vl.length+1)+4;rw[bt,bd];omega
theorem Nh:iu (.tag b nm ps sc (some (dn ky,vl)))<=iu (.tag b nm ps sc (some (ky,vl)))+4:=by show nm.length+ps.length+((dn ky).length+vl.length+1)<=_;rw[bZ];exact bE _ 4
theorem Rg:iu (.tag b nm ps sc (some (ky++[z],vl)))<=iu (.tag b nm ps sc (some (ky,vl)))+4:=by show nm.length+ps.length+((ky++[z]).length+vl.length+1)<=nm.length+ps.length+(ky.length+vl.length+1)+4;rw[bt,bd];omega
theorem PD:iu (.tag b nm ps sc (some (ky,vl++[z])))<=iu (.tag b nm ps sc (some (ky,vl)))+4:=by show nm.length+ps.length+(ky.length+(vl++[z]).length+1)<=nm.length+ps.length+(ky.length+vl.length+1)+4;rw[bt,bd];omega
theorem Pz {w:cF}:iu (.tag b nm ps sc (some (ky++([z]++w),vl)))<=iu (.tag b nm ps sc (some (ky,vl)))+4+4*w.length:=by show nm.length+ps.length+((ky++([z]++w)).length+vl.length+1)<=nm.length+ps.length+(ky.length+vl.length+1)+4+4*w.length;rw[bt,bt,bd];omega
theorem GP {w:cF}:iu (.tag b nm ps sc (some (ky,vl++([z]++w))))<=iu (.tag b nm ps sc (some (ky,vl)))+4+4*w.length:=by show nm.length+ps.length+(ky.length+(vl++([z]++w)).length+1)<=nm.length+ps.length+(ky.length+vl.length+1)+4+4*w.length;rw[bt,bt,bd];omega
theorem EI (h:Sm nm ps):jL (dY nm (pA ps) sc b):=λy hd=>.emit (wq h.p 1000) vQ hd
theorem Bh (h:Sm nm ps):jL (dY nm (pA ps++[(ky,.str vl)]) sc b):=λy hd=>.emit (by rw[bt];exact dt (bH (wq h.p 900)) (by decide)) (fk vQ (dj ⟨_,rfl⟩ cZ)) hd
theorem N7 (h:Sm nm ps):jL (dY nm (pA (ps++[(ky,vl)])) sc b):=λy hd=>.emit (Nat.le_succ_of_le (M4 h.p)) vQ hd
theorem iE {p:Bool} {R:cG->Prop} {a:cG} (h:p=true) (k:R a):R (if p=true then a else []):=(cE h).symm▸k
theorem iF {p:Bool} {R:cG->Prop} {a:cG} (h:¬ p=true) (k:R []):R (if p=true then a else []):=(cC h).symm▸k
theorem Pn (hz:iu (.tag b nm ps sc (some (ky,vl)))<=900):Sm nm (ps++[(ky,vl)]):=by
 have hz:nm.length+ps.length+(ky.length+vl.length+1)<=900:=hz
 exact⟨by omega,by rw[bt];show ps.length+1<=900;omega⟩
noncomputable abbrev jR.eh (M:jR) (R:OL) (q:SS) (k:cG):eX:=.call 0 (.av .none) (M.dS q 304 (.slot 5) k []) R 3
theorem eM (M:jR) (R:OL) (da la:Addr) (q:SS) (f:Addr) (sc b:Bool) (h:Sm nm ps):cY M.B 3 297 [.ref M.g] (dC (M.r [da,la]) R (M.dS q f (.slot 5) [] (dB b nm sc ((pA ps).map dz)))) λd o=>d=.none/\o=dC (M.r [da,la]) R (M.dS q 304 (.slot 5) (dY nm (pA ps) sc b) []):=by
 rw[sB.eq,sF.eq];exact Ra M.hB (up h.n) (Nat.le_succ_of_le (wq h.p 999)) (cr _)
theorem RL (M:jR) (R:OL) (da la lb:Addr) (q:SS) (f:Addr) (e:cG) (ky vl:cF) (sc b:Bool) (h:Sm nm ps) (he:autoParam (e.length<=1000) bD):cY M.B 3 297 [.ref M.g] (dC (M.r [da,la,lb]) R (M.dS q f (.slot 5) e (dA b nm sc ((pA ps).map dz) ky vl))) λd o=>d=.none/\o=dC (M.r [da,la,lb]) R (M.dS q 304 (.slot 5) (e++dY nm (pA ps++[(ky,.str vl)]) sc b) []):=by
 rw[sA.eq,sF.eq];exact Rj M.hB (up h.n) (wq h.p 999) he
theorem yo (z:Nat) (M:jR) (R:OL) (q:SS) (f:Addr) (k:cN) (b:Bool) (nm:cF) (ps:cP) (sc:Bool):DS.bel 7 ⟨[("self",some (.slot 0)),("data",some (.av (.str [z])))],M.dS q f (.slot 5) k.toList (dB b nm sc ((pA ps).map dz)),R⟩=true:=by
 rcases k with _ | k<;>rcases b with _ | _<;>kernel_rfl
theorem xM (hc:M.To 4 133 [] (.str [z]) q q6) (ai:List eX) (hq:p) (e:autoParam (CO M s [da,la] (.slot 5) (dB b nm sc ((pA ps).map dz)) R q (.str [z]) q6 ai=Eb M s p 1 q' s' (.slot 5) ks (dA b nm sc ((pA ps).map dz) [z] []) R) bK):
 Nx M s q (.ref da) (o0 da la b nm ps sc R) ks s' (.tag b nm ps sc (some ([z],[]))) q':=
 ya (u:=⟨p,1,.av (.bool true),M.dS q' s'.addr (.slot 5) ks (dA b nm sc ((pA ps).map dz) [z] []),R⟩) ["self"] (M.r [da,la]) [.slot 0] (M.dS q s.addr (.slot 5) [] (dB b nm sc ((pA ps).map dz))) R (.cs (.av (.str [z])) (M.q q6) 4::ai) M.hB (.one (congrFun (Prod.mk.inj (Prod.mk.inj e).1).2)) hq (λ_ _ ⟨_,h⟩=>⟨h.1,(_,_),uB,h.2.trans (sA.eq ..)⟩) (sB.eq ..) (Prod.mk.inj (Prod.mk.inj e).1).1 (Prod.mk.inj e).2
noncomputable abbrev JR (M:jR) (q:SS) (R:OL) (nm:cF) (ps:cP) (sc b:Bool) (ky vl:cF):DS:=⟨[("self",some (.slot 0)),("data",none),("leavingThisState",none),("emitToken",none),("name",none),("_",none)],M.dS q 542 (.slot 5) [] (dA b nm sc ((pA ps).map dz) ky vl),R⟩
noncomputable abbrev Nq (M:jR) (c:AV) (f:Addr) (k:cG) (q:SS) (R:OL) (nm:cF) (ps:cP) (sc b:Bool) (ky vl:cF):DS:=⟨LG c false none none,M.dS q f (.slot 5) k (dA b nm sc ((pA ps).map dz) ky vl),R⟩
theorem Pj (hT:iP (.tag b nm ps sc (some (ky,vl))) c5 r8) (hz:iu (.tag b nm ps sc (some (ky,vl)))<=900) (hc:M.To 4 133 [] c q q6) (ai:List eX) {k:cG} (hq:p) (ht:∀ da la lb R,iP t8 (.ref da) (o1 da la lb b nm ps sc (dn ky) vl R)) (hk:autoParam (k.length<=990) bD)
 (e:∀ da la lb R L,qJ (P:=⟨OT M.B L,fN M.B.P,M.r [da,la,lb],tc,[]⟩) (fG M.hB) ((fj rJ).take 4) (JR M q R nm ps sc b ky vl) (.cs (.av c) (M.q q6) 4::ai)=
  some (.next,⟨Nq M c s'.addr k q6 R nm ps sc b ky vl,0,[],p⟩):=by intros;kernel_rfl):
 Nx M .an q c5 r8 (k++rL ps ky) s' t8 q6:=aO hT λda la lb R=>
 aN (uJ (q6:=q6) (f0:=s'.addr) (k0:=k) (c:=c) false M.hB (up (so hz).1.n) (up (so hz).2.1) (wq (so hz).1.p 999) hk λL=>fx (M.r [da,la,lb]) (JR M q R nm ps sc b ky vl) (Nq M c s'.addr k q6 R nm ps sc b ky vl) _ .next (fG M.hB) hq (h1:=cB (St.mk _) (sA.eq ..)) (h2:=cB (St.mk _) ((sA.eq ..).trans (P8 ..).symm)) (e:=e da la lb R L)) (ht da la lb R)
theorem Mn (h1:lw z):dL .data .none (z::l) (at' (l.dropWhile td) [.dct [("type",.int 2),("data",.str (z::l.takeWhile td))]]) .data .none (l.dropWhile td):=
 rT (m:=λc=>decide ([c]∈gR)) (oh:=true) (λy=>gV (l:=gR.map .str) rfl) (.inr rfl) (dR rfl) (cr _) (λhz=>(dj (.tok (by decide) (by decide)) cZ)) λM q q6 q7 c5 r8 n0 n6 hz hr hc hu hT=>xG mD iO hc [.br false,.br false,.br false,.br true,.cs (.av (.str (l.takeWhile td))) (M.q q7) 4] (qa (qa (qa (qa (qa (qa (qa (c0 hc) (ne1 n6)) (ne1 (show z≠60 from λe=>by subst e;revert h1;decide))) (ne1 n0)) h1) hu) (KL (z:=z) (dt hr (by decide)))) iW)
theorem Og (h0:z≠60) (h1:¬ lw z):dL .data .none (z::l) (at' (l.dropWhile NZ) [.dct [("type",.int 1),("data",.str (z::l.takeWhile NZ))]]) .data .none (l.dropWhile NZ):=
 rT (m:=λc=>decide ([c]∈[[38],[60],[0]])) (oh:=false) (λy=>gV (l:=[.str [38],.str [60],.str [0]]) rfl) (.inl ⟨rfl,rfl⟩) (dR rfl) (cr _) (λhz=>(dj (.tok (by decide) (by decide)) cZ)) λM q q6 q7 c5 r8 n0 n6 hz hr hc hu hT=>xG mD iO hc [.br false,.br false,.br false,.br false,.cs (.av (.str (l.takeWhile NZ))) (M.q q7) 4] (qa (qa (qa (qa (qa (qa (qa (c0 hc) (ne1 n6)) (ne1 h0)) (ne1 n0)) (bf h1)) hu) (KL (z:=z) (dt hr (by decide)))) iW)
theorem kD:dL .data .none (60::l) [] .tag .none l:=
 rC (ks:=[]) (dR rfl) (cr _) (λhz=>cZ) λM q q6 c5 r8 n0 n6 hz hc hT=>xG mD iO hc [.br false,.br true] (qa (qa (c0 hc) ff) tt)
theorem Nr (h:th z):dL .tag .none (z::l) [] .tn (tg true [z] [] false) l:=
 rC (ks:=[]) (dR rfl) (dR rfl) (λhz=>cZ) λM q q6 c5 r8 n0 n6 hz hc hT=>xx (A8 c5 M.hB hc (λe=>by subst e;revert h;decide) (λe=>by subst e;revert h;decide) h) λla da=>⟨rfl,(.ref da,_),zs (ps:=[]),rfl⟩
theorem Oi:dL .tag .none (62::l) (at' l [eE "expected-tag-name-but-got-right-bracket",.dct [("type",.int 1),("data",.str [60,62])]]) .data .none l:=
 rC (dR rfl) (cr _) (λhz=>(dj GY (dj (.tok (by decide) (by decide)) cZ))) λM q q6 c5 r8 n0 n6 hz hc hT=>xG mD iO hc [.br false,.br false,.br false,.br true] (qa (qa (qa (qa (qa (qa (c0 hc) ff) ff) ff) tt) iW) zq)
theorem xK:dL .tag .none (47::l) [] .cl .none l:=
 rC (ks:=[]) (dR rfl) (cr _) (λhz=>cZ) λM q q6 c5 r8 n0 n6 hz hc hT=>xG mD iO hc [.br false,.br true] (qa (qa (c0 hc) ff) tt)
theorem G1:dL .tag .none [] (at' [] [eE "expected-tag-name",.dct [("type",.int 1),("data",.str [60])]]) .data .none []:=
 rE (dR rfl) (cr _) (λhz=>(dj GY (dj (.tok (by decide) (by decide)) cZ))) λM q q6 c5 r8 hz hc hT=>xG mD iO hc [.cs (.av .none) (M.q q6) 1] (qa (qa (qa (c0 hc) iW) zq) (CT M q6))
theorem Nf (h1:z≠33) (h2:z≠47) (h3:¬ th z) (h4:z≠62) (h5:z≠63):dL .tag .none (z::l) (at' (z::l) [eE "expected-tag-name",.dct [("type",.int 1),("data",.str [60])]]) .data .none (z::l):=
 rU (dR rfl) (cr _) (λhz=>(dj GY (dj (.tok (by decide) (by decide)) cZ))) λM q q6 q7 c5 r8 n0 hc hu hT=>xG mD iO hc [.br false,.br false,.br false,.br false,.br false,.cs (.av .none) (M.q q7) 1] (qa (qa (qa (qa (qa (qa (qa (qa (c0 hc) (ne1 h1)) (ne1 h2)) (bf h3)) (ne1 h4)) (ne1 h5)) iW) zq) hu)
theorem MG (h:th z):dL .cl .none (z::l) [] .tn (tg false [z] [] false) l:=
 rC (ks:=[]) (dR rfl) (dR rfl) (λhz=>cZ) λM q q6 c5 r8 n0 n6 hz hc hT=>xx (EL c5 M.hB hc h) λla da=>⟨rfl,(.ref da,_),zs (ps:=[]),rfl⟩
theorem O8:dL .cl .none [] (at' [] [eE "expected-closing-tag-but-got-eof",.dct [("type",.int 1),("data",.str [60,47])]]) .data .none []:=
 rE (dR rfl) (cr _) (λhz=>(dj GY (dj (.tok (by decide) (by decide)) cZ))) λM q q6 c5 r8 hz hc hT=>xG mD iO hc [] (qa (qa (c0 hc) iW) zq)
theorem NB:dL .cl .none (62::l) (at' l [eE "expected-closing-tag-but-got-right-bracket"]) .data .none l:=
 rC (dR rfl) (cr _) (λhz=>ng) λM q q6 c5 r8 n0 n6 hz hc hT=>xG mD iO hc [.br false,.br true] (qa (qa (qa (c0 hc) ff) tt) iW)
noncomputable abbrev NN (z:Nat):AV:=.dct [("type",.int 7),("data",.str (sg "expected-closing-tag-but-got-char")),("datavars",.dct [("data",.str [z])])]
theorem P9 (h3:¬ th z) (h4:z≠62):dL .cl .none (z::l) (at' (z::l) [NN z]) .bog .none (z::l):=
 rU (dR rfl) (cr _) (λhz=>(dj .erC cZ)) λM q q6 q7 c5 r8 n0 hc hu hT=>xG mD iO hc [.br false,.br false,.cs (.av .none) (M.q q7) 1] (qa (qa (qa (qa (c0 hc) (bf h3)) (ne1 h4)) iW) hu)
theorem Nl:dL .bog .none l (at' (l.dropWhile tf).tail [.dct [("type",.int 6),("data",.str (l.takeWhile tf))]]) .data .none (l.dropWhile tf).tail:=by
 have e:(l.dropWhile tf).tail.length<=l.length:=dt ((List.tail_sublist _).length_le) (List.dropWhile_sublist tf).length_le
 exact lB e (by show 1+(0+_)<=1+_;omega) (by show 0+_<=0+_;omega) (λy=>dj (.tok (by decide) (by decide)) cZ) (λM f q c5 r8 y hf o hT=>by
  obtain rfl:f=true:=by
   rcases f with _ | _
   . exact nomatch hf rfl
   . rfl
  obtain⟨q6,o1,hu⟩:=M.S.til (m:=λc=>decide (c∈[62])) (oh:=false) DM (.inl ⟨rfl,rfl⟩) o
  have hr:(l.takeWhile tf).length<=1000000:=dt (FS (M.S.len o)) (by decide)
  have h0:0∉l.takeWhile tf:=λh=>(M.S.no0 o 0 ((List.takeWhile_sublist tf).subset h)).1 rfl
  change M.On true (l.dropWhile tf) q6 at o1
  generalize l.dropWhile tf=l' at o1
  rcases l' with _ | ⟨z,l'⟩
  . obtain⟨q7,o2,hc⟩:=M.S.fin o1
    exact⟨q7,o2,aN (yl M.hB hu hc hr h0 (cr _)) iO⟩
  . obtain⟨q7,o2,hc,_⟩:=M.S.char o1
    exact⟨q7,o2,aN (yl M.hB hu hc hr h0 (cr _)) iO⟩) (by intro y;kernel_rfl)
theorem zW (M:jR):Db M 1 .data .none [] []:=λu f q c5 r8 y o hT=>by
 obtain⟨q6,o1,hc⟩:=M.S.fin o;exact⟨by rw[M.hB.K];kernel_rfl,(show cY M.B 5 _ _ _ λd o=>d=.bool false/\o=tS M.st M.dx M.tx M.w M.er M.g M.v M.lf u M.T q6 304 c5 [] r8 from MP [M.g,M.st,M.tx,M.er,u] (M.dS q 304 (.av c5) [] []) r8 [.cs (.av .none) (M.q q6) 4] false (M.dS q6 304 (.av c5) [] []) M.hB (c0 hc)).mono λd o' ⟨e1,e2⟩=>⟨q6,_,_,_,_,e2,.inl ⟨e1,rfl,o1⟩⟩⟩
theorem dL.does {l:cF} (h:dL .data .none l rs .data .none []) (hl:l.length<=200) (M:jR):∃ m,Db M m .data .none l rs:=by
 have:=h.go (show 0+4*l.length<=900 by omega) M 1 [] (zW M)
 rwa [bX]at this
theorem Jn (h1:lw z):dL .tn (tg b nm ps sc) (z::l) [] .bn (tg b nm ps sc) l:=
 rC (ks:=[]) (dR rfl) (bE _ 4) (λhz=>cZ) λM q q6 c5 r8 n0 n6 hz hc hT=>aK hT λda la R=>xG mK zs hc [.br true] (qa (c0 hc) h1)
theorem Ji:dL .tn (tg b nm ps sc) (62::l) (at' l (dY nm (pA ps) sc b)) .data .none l:=
 rC (dt iS (by decide)) (cr _) (λhz=>(EI (sm hz))) λM q q6 c5 r8 n0 n6 hz hc hT=>aK hT λda la R=>xG Lk iO hc [.br false,.br true,M.eh R q6 (dY nm (pA ps) sc b)] (qa (qa (qa (c0 hc) ff) tt) (eM M R da la q6 367 sc b (sm hz)))
theorem Jf:dL .tn (tg b nm ps sc) (47::l) [] .sc (tg b nm ps sc) l:=
 rC (ks:=[]) (dR rfl) (bE _ 4) (λhz=>cZ) λM q q6 c5 r8 n0 n6 hz hc hT=>aK hT λda la R=>xG mK zs hc [.br false,.br false,.br true] (qa (qa (qa (c0 hc) ff) ff) tt)
theorem IZ (h1:¬ lw z) (h2:z≠62) (h3:z≠47):dL .tn (tg b nm ps sc) (z::l) [] .tn (tg b (nm++[z]) ps sc) l:=
 rC (ks:=[]) (dR rfl) RV (λhz=>cZ) λM q q6 c5 r8 n0 n6 hz hc hT=>aK hT λda la R=>by rcases b with _ | _<;>exact xG S3 zs hc [.br false,.br false,.br false,.br false] (qa (qa (qa (qa (qa (c0 hc) (bf h1)) (ne1 h2)) (ne1 h3)) (ne1 n0)) (yZ (k:=1) (up (sm hz).n)))
theorem LP:dL .tn (tg b nm ps sc) [] (at' [] [eE "eof-in-tag-name"]) .data .none []:=
 rE (dR rfl) (cr _) (λhz=>ng) λM q q6 c5 r8 hz hc hT=>aK hT λda la R=>xG mK iO hc [] (qa (c0 hc) iW)
theorem IK (h1:lw z):dL .bn (tg b nm ps sc) (z::l) [] .bn (tg b nm ps sc) (l.dropWhile td):=
 rT (m:=λc=>decide ([c]∈gR)) (oh:=true) (λy=>gV (l:=gR.map .str) rfl) (.inr rfl) (ks:=[]) (dR rfl) (dt (bE _ 4) (bE _ _)) (λhz=>cZ) λM q q6 q7 c5 r8 n0 n6 hz hr hc hu hT=>aK hT λda la R=>xG mK zs hc [.br true,.cs (.av (.str (l.takeWhile td))) (M.q q7) 4] (qa (qa (c0 hc) h1) hu)
theorem KI:dL .bn (tg b nm ps sc) (62::l) (at' l (dY nm (pA ps) sc b)) .data .none l:=
 rC (dt iS (by decide)) (cr _) (λhz=>(EI (sm hz))) λM q q6 c5 r8 n0 n6 hz hc hT=>aK hT λda la R=>xG Lk iO hc [.br false,.br false,.br true,M.eh R q6 (dY nm (pA ps) sc b)] (qa (qa (qa (qa (c0 hc) ff) ff) tt) (eM M R da la q6 535 sc b (sm hz)))
theorem HG:dL .bn (tg b nm ps sc) (47::l) [] .sc (tg b nm ps sc) l:=
 rC (ks:=[]) (dR rfl) (bE _ 4) (λhz=>cZ) λM q q6 c5 r8 n0 n6 hz hc hT=>aK hT λda la R=>xG mK zs hc [.br false,.br false,.br false,.br true] (qa (qa (qa (qa (c0 hc) ff) ff) ff) tt)
theorem Hl (h1:¬ lw z) (h2:z≠62) (h3:z≠47):dL .bn (tg b nm ps sc) (z::l) (at' l (Ae "invalid-character-in-attribute-name" [[39],[34],[61],[60]] z)) .an (to b nm ps sc [z] []) l:=by
 by_cases e:th z
 . exact iF (R:=λk=>dL .bn (tg b nm ps sc) (z::l) (at' l k) .an (to b nm ps sc [z] []) l) (rH (t:=[39,34,61,60]) (by decide) e) (rC (ks:=[]) (dR rfl) (bE _ 2) (λy=>cZ) λM q q6 c5 r8 n0 n6 hz hc hT=>aK hT λda la R=>xM hc [.br false,.br true] (qa (qa (qa (qa (c0 hc) (bf h1)) e) (yo z M R q6 535 none b nm ps sc)) (tY 0 (ww (sm hz).p))))
 . by_cases e2:decide ([z]∈[[39],[34],[61],[60]])=true
   . exact iE (R:=λk=>dL .bn (tg b nm ps sc) (z::l) (at' l k) .an (to b nm ps sc [z] []) l) e2 (rC (dR rfl) (bE _ 2) (λy=>ng) λM q q6 c5 r8 n0 n6 hz hc hT=>aK hT λda la R=>xM hc [.br false,.br false,.br false,.br false,.br true] (qa (qa (qa (qa (qa (qa (qa (qa (c0 hc) (bf h1)) (bf e)) (ne1 h2)) (ne1 h3)) e2) iW) (yo z M R q6 535 (some (eE "invalid-character-in-attribute-name")) b nm ps sc)) (tY 0 (ww (sm hz).p))))
   . exact iF (R:=λk=>dL .bn (tg b nm ps sc) (z::l) (at' l k) .an (to b nm ps sc [z] []) l) e2 (rC (ks:=[]) (dR rfl) (bE _ 2) (λy=>cZ) λM q q6 c5 r8 n0 n6 hz hc hT=>aK hT λda la R=>xM hc [.br false,.br false,.br false,.br false,.br false,.br false] (qa (qa (qa (qa (qa (qa (qa (qa (c0 hc) (bf h1)) (bf e)) (ne1 h2)) (ne1 h3)) (bf e2)) (ne1 n0)) (yo z M R q6 535 none b nm ps sc)) (tY 0 (ww (sm hz).p))))
theorem Nv:dL .bn (tg b nm ps sc) [] (at' [] [eE "expected-attribute-name-but-got-eof"]) .data .none []:=
 rE (dR rfl) (cr _) (λhz=>ng) λM q q6 c5 r8 hz hc hT=>aK hT λda la R=>xG mK iO hc [] (qa (c0 hc) iW)
theorem L2 (h1:lw z):dL .nn (to b nm ps sc ky vl) (z::l) [] .nn (to b nm ps sc ky vl) (l.dropWhile td):=
 rT (m:=λc=>decide ([c]∈gR)) (oh:=true) (λy=>gV (l:=gR.map .str) rfl) (.inr rfl) (ks:=[]) (dR rfl) (dt (bE _ 4) (bE _ _)) (λhz=>cZ) λM q q6 q7 c5 r8 n0 n6 hz hr hc hu hT=>aO hT λda la lb R=>xG mO uB hc [.br true,.cs (.av (.str (l.takeWhile td))) (M.q q7) 4] (qa (qa (c0 hc) h1) hu)
theorem Jv:dL .nn (to b nm ps sc ky vl) (61::l) [] .bv (to b nm ps sc ky vl) l:=
 rC (ks:=[]) (dR rfl) (bE _ 4) (λhz=>cZ) λM q q6 c5 r8 n0 n6 hz hc hT=>aO hT λda la lb R=>xG mO uB hc [.br false,.br true] (qa (qa (c0 hc) ff) tt)
theorem HR:dL .nn (to b nm ps sc ky vl) (62::l) (at' l (dY nm (pA (ps++[(ky,vl)])) sc b)) .data .none l:=
 rC (dt iS (by decide)) (cr _) (λhz=>(N7 (so hz).1)) λM q q6 c5 r8 n0 n6 hz hc hT=>aK (Le hT) λda la R=>xG Lk iO hc [.br false,.br false,.br true,M.eh R q6 (dY nm (pA (ps++[(ky,vl)])) sc b)] (qa (qa (qa (qa (c0 hc) ff) ff) tt) (eM M R da la q6 549 sc b (Pn hz)))
theorem HV:dL .nn (to b nm ps sc ky vl) (47::l) [] .sc (tg b nm (ps++[(ky,vl)]) sc) l:=
 rC (ks:=[]) (dR rfl) Ol (λhz=>cZ) λM q q6 c5 r8 n0 n6 hz hc hT=>aK (Le hT) λda la R=>xG mK zs hc [.br false,.br false,.br false,.br false,.br true] (qa (qa (qa (qa (qa (c0 hc) ff) ff) ff) ff) tt)
theorem Jm (h1:¬ lw z) (h0:z≠61) (h2:z≠62) (h3:z≠47):dL .nn (to b nm ps sc ky vl) (z::l) (at' l (Ae "invalid-character-after-attribute-name" [[39],[34],[60]] z)) .an (to b nm (ps++[(ky,vl)]) sc [z] []) l:=by
 by_cases e:th z
 . exact iF (R:=λk=>dL .nn (to b nm ps sc ky vl) (z::l) (at' l k) .an (to b nm (ps++[(ky,vl)]) sc [z] []) l) (rH (t:=[39,34,60]) (by decide) e) (rC (ks:=[]) (dR rfl) QS (λy=>cZ) λM q q6 c5 r8 n0 n6 hz hc hT=>aK (Le hT) λda la R=>xM hc [.br false,.br false,.br false,.br true] (qa (qa (qa (qa (qa (qa (c0 hc) (bf h1)) (ne1 h0)) (ne1 h2)) e) (yo z M R q6 549 none b nm (ps++[(ky,vl)]) sc)) (tY 0 (ww (Pn hz).p))))
 . by_cases e2:decide ([z]∈[[39],[34],[60]])=true
   . exact iE (R:=λk=>dL .nn (to b nm ps sc ky vl) (z::l) (at' l k) .an (to b nm (ps++[(ky,vl)]) sc [z] []) l) e2 (rC (dR rfl) QS (λy=>ng) λM q q6 c5 r8 n0 n6 hz hc hT=>aK (Le hT) λda la R=>xM hc [.br false,.br false,.br false,.br false,.br false,.br false,.br true] (qa (qa (qa (qa (qa (qa (qa (qa (qa (qa (c0 hc) (bf h1)) (ne1 h0)) (ne1 h2)) (bf e)) (ne1 h3)) (ne1 n0)) e2) iW) (yo z M R q6 549 (some (eE "invalid-character-after-attribute-name")) b nm (ps++[(ky,vl)]) sc)) (tY 0 (ww (Pn hz).p))))
   . exact iF (R:=λk=>dL .nn (to b nm ps sc ky vl) (z::l) (at' l k) .an (to b nm (ps++[(ky,vl)]) sc [z] []) l) e2 (rC (ks:=[]) (dR rfl) QS (λy=>cZ) λM q q6 c5 r8 n0 n6 hz hc hT=>aK (Le hT) λda la R=>xM hc [.br false,.br false,.br false,.br false,.br false,.br false,.br false] (qa (qa (qa (qa (qa (qa (qa (qa (qa (c0 hc) (bf h1)) (ne1 h0)) (ne1 h2)) (bf e)) (ne1 h3)) (ne1 n0)) (bf e2)) (yo z M R q6 549 none b nm (ps++[(ky,vl)]) sc)) (tY 0 (ww (Pn hz).p))))
theorem Nb:dL .nn (to b nm ps sc ky vl) [] (at' [] [eE "expected-end-of-tag-but-got-eof"]) .data .none []:=
 rE (dR rfl) (cr _) (λhz=>ng) λM q q6 c5 r8 hz hc hT=>aK (Le hT) λda la R=>xG mK iO hc [] (qa (c0 hc) iW)
theorem Ko:dL .an (to b nm ps sc ky vl) (61::l) (at' l (rL ps ky)) .bv (to b nm ps sc (dn ky) vl) l:=
 rC (dt (bk oR _) (by decide)) Nh (λhz=>tA) λM q q6 c5 r8 n0 n6 hz hc hT=>Pj hT hz hc [.br true] (k:=[]) (qa (c0 hc) tt) λy y y y=>uB
theorem JI:dL .an (to b nm ps sc ky vl) (62::l) (at' l (rL ps ky++dY nm (pA ps++[(dn ky,.str vl)]) sc b)) .data .none l:=
 rC (dt (cq bt) (dt (Nat.add_le_add oR iS) (by decide))) (cr _) (λhz=>(fk tA (Bh (so hz).1))) λM q q6 c5 r8 n0 n6 hz hc hT=>aO hT λda la lb R=>aN (uJ (q6:=q6) (f0:=542) (k0:=[]) (c:=.str [62]) true M.hB (up (so hz).1.n) (up (so hz).2.1) (wq (so hz).1.p 999) (cr _) λL=>fx (M.r [da,la,lb]) (JR M q R nm ps sc b ky vl) ⟨LG (.str [62]) true none none,M.dS q6 542 (.slot 5) [] (dA b nm sc ((pA ps).map dz) ky vl),R⟩ [.cs (.av (.str [62])) (M.q q6) 4,.br false,.br false,.br true] .next (fG M.hB) (qa (qa (qa (c0 hc) ff) ff) tt) (h1:=cB (St.mk _) (sA.eq ..)) (h2:=cB (St.mk _) ((sA.eq ..).trans (P8 ..).symm))) iO
theorem HC:dL .an (to b nm ps sc ky vl) (47::l) (at' l (rL ps ky)) .sc (tg b nm (ps++[(dn ky,vl)]) sc) l:=
 rC (dt (bk oR _) (by decide)) Ol (λhz=>tA) λM q q6 c5 r8 n0 n6 hz hc hT=>Pj hT hz hc [.br false,.br false,.br false,.br false,.br true] (k:=[]) (qa (qa (qa (qa (qa (c0 hc) ff) ff) ff) ff) tt) λy y y y=>OW
theorem J7 (h1:lw z):dL .an (to b nm ps sc ky vl) (z::l) (at' l (rL ps ky)) .nn (to b nm ps sc (dn ky) vl) l:=by
 have e61:z≠61:=λe=>by subst e;revert h1;decide
 have el:z≠62:=λe=>by subst e;revert h1;decide
 have eL:¬ th z:=λe=>rH (t:=[9,10,12,32,13]) (by decide) e (show decide ([z]∈[9,10,12,32,13].map λy=>[y])=true from h1)
 exact rC (dt (bk oR _) (by decide)) Nh (λx=>tA) λM q q6 c5 r8 n0 n6 hz hc hT=>Pj hT hz hc [.br false,.br false,.br false,.br true] (k:=[]) (qa (qa (qa (qa (c0 hc) (ne1 e61)) (bf eL)) (ne1 el)) h1) λx x x x=>uB
theorem P3:dL .an (to b nm ps sc ky vl) [] (at' [] (eE "eof-in-attribute-name"::rL ps ky)) .data .none []:=
 rE (dt (bH oR) (by decide)) (cr _) (λhz=>(dj GY tA)) λM q q6 c5 r8 hz hc hT=>Pj hT hz hc [] (k:=[eE "eof-in-attribute-name"]) (qa (c0 hc) iW) λy y y y=>iO
theorem Jw (h0:z≠61) (h1:th z):dL .an (to b nm ps sc ky vl) (z::l) [] .an (to b nm ps sc (ky++([z]++l.takeWhile Ib)) vl) (l.dropWhile Ib):=
 rT (m:=λc=>decide ([c]∈ii)) (oh:=true) (λy=>gV (l:=ii.map .str) rfl) (.inr rfl) (ks:=[]) (dR rfl) Pz (λhz=>cZ) λM q q6 q7 c5 r8 n0 n6 hz hr hc hu hT=>aO hT λda la lb R=>xG mV uB hc [.br false,.br true,.cs (.av (.str (l.takeWhile Ib))) (M.q q7) 4,.br false] (qa (qa (qa (qa (qa (qa (qa (c0 hc) (ne1 h0)) h1) (lp (so hz).1)) hu) (KL (z:=z) (dt (bY _ _) (jz (so hz).2.1 hr)))) (M8 (z:=z) (jz (so hz).2.1 hr))) ff)
theorem CS (h0:z≠61) (h1:¬ th z) (h2:z≠62) (h3:¬ lw z) (h4:z≠47) (h5:decide ([z]∈[[39],[34],[60]])=true):dL .an (to b nm ps sc ky vl) (z::l) (at' l [eE "invalid-character-in-attribute-name"]) .an (to b nm ps sc (ky++[z]) vl) l:=
 rC (dR rfl) Rg (λhz=>ng) λM q q6 c5 r8 n0 n6 hz hc hT=>aO hT λda la lb R=>xG mV uB hc [.br false,.br false,.br false,.br false,.br false,.br false,.br true,.br false] (qa (qa (qa (qa (qa (qa (qa (qa (qa (qa (qa (c0 hc) (ne1 h0)) (bf h1)) (ne1 h2)) (bf h3)) (ne1 h4)) (ne1 n0)) h5) iW) (lp (so hz).1)) (yZ (k:=1) (up (so hz).2.1))) ff)
theorem H1 (h0:z≠61) (h1:¬ th z) (h2:z≠62) (h3:¬ lw z) (h4:z≠47) (h5:¬ decide ([z]∈[[39],[34],[60]])=true):dL .an (to b nm ps sc ky vl) (z::l) [] .an (to b nm ps sc (ky++[z]) vl) l:=
 rC (ks:=[]) (dR rfl) Rg (λhz=>cZ) λM q q6 c5 r8 n0 n6 hz hc hT=>aO hT λda la lb R=>xG mV uB hc [.br false,.br false,.br false,.br false,.br false,.br false,.br false,.br false] (qa (qa (qa (qa (qa (qa (qa (qa (qa (qa (c0 hc) (ne1 h0)) (bf h1)) (ne1 h2)) (bf h3)) (ne1 h4)) (ne1 n0)) (bf h5)) (lp (so hz).1)) (yZ (k:=1) (up (so hz).2.1))) ff)
theorem Io (h1:lw z):dL .bv (to b nm ps sc ky vl) (z::l) [] .bv (to b nm ps sc ky vl) (l.dropWhile td):=
 rT (m:=λc=>decide ([c]∈gR)) (oh:=true) (λy=>gV (l:=gR.map .str) rfl) (.inr rfl) (ks:=[]) (dR rfl) (dt (bE _ 4) (bE _ _)) (λhz=>cZ) λM q q6 q7 c5 r8 n0 n6 hz hr hc hu hT=>aO hT λda la lb R=>xG mO uB hc [.br true,.cs (.av (.str (l.takeWhile td))) (M.q q7) 4] (qa (qa (c0 hc) h1) hu)
theorem IG:dL .bv (to b nm ps sc ky vl) (34::l) [] .dq (to b nm ps sc ky vl) l:=
 rC (ks:=[]) (dR rfl) (bE _ 4) (λhz=>cZ) λM q q6 c5 r8 n0 n6 hz hc hT=>aO hT λda la lb R=>xG mO uB hc [.br false,.br true] (qa (qa (c0 hc) ff) tt)
theorem Hi:dL .bv (to b nm ps sc ky vl) (39::l) [] .sq (to b nm ps sc ky vl) l:=
 rC (ks:=[]) (dR rfl) (bE _ 4) (λhz=>cZ) λM q q6 c5 r8 n0 n6 hz hc hT=>aO hT λda la lb R=>xG mO uB hc [.br false,.br false,.br false,.br true] (qa (qa (qa (qa (c0 hc) ff) ff) ff) tt)
theorem Hj:dL .bv (to b nm ps sc ky vl) (62::l) (at' l ([eE "expected-attribute-value-but-got-right-bracket"]++dY nm (pA ps++[(ky,.str vl)]) sc b)) .data .none l:=
 rC (dt (bH iS) (by decide)) (cr _) (λhz=>(fk ng (Bh (so hz).1))) λM q q6 c5 r8 n0 n6 hz hc hT=>aO hT λda la lb R=>xG RO iO hc [.br false,.br false,.br false,.br false,.br true,M.eh R q6 ([eE "expected-attribute-value-but-got-right-bracket"]++dY nm (pA ps++[(ky,.str vl)]) sc b)] (qa (qa (qa (qa (qa (qa (qa (c0 hc) ff) ff) ff) ff) tt) iW) (RL M R da la lb q6 556 [(eE "expected-attribute-value-but-got-right-bracket")] ky vl sc b (so hz).1))
theorem JA (h1:¬ lw z) (h2:z≠34) (h3:z≠39) (h4:z≠62):dL .bv (to b nm ps sc ky vl) (z::l) (at' l (Ae "equals-in-unquoted-attribute-value" [[61],[60],[96]] z)) .uq (to b nm ps sc ky (vl++[z])) l:=by
 by_cases e2:decide ([z]∈[[61],[60],[96]])=true
 . exact iE (R:=λk=>dL .bv (to b nm ps sc ky vl) (z::l) (at' l k) .uq (to b nm ps sc ky (vl++[z])) l) e2 (rC (dR rfl) PD (λy=>ng) λM q q6 c5 r8 n0 n6 hz hc hT=>aO hT λda la lb R=>xG mV uB hc [.br false,.br false,.br false,.br false,.br false,.br false,.br true] (qa (qa (qa (qa (qa (qa (qa (qa (qa (qa (c0 hc) (bf h1)) (ne1 h2)) (ne1 n6)) (ne1 h3)) (ne1 h4)) (ne1 n0)) e2) iW) (lp (so hz).1)) (yZ (k:=1) (up (so hz).2.2))))
 . exact iF (R:=λk=>dL .bv (to b nm ps sc ky vl) (z::l) (at' l k) .uq (to b nm ps sc ky (vl++[z])) l) e2 (rC (ks:=[]) (dR rfl) PD (λy=>cZ) λM q q6 c5 r8 n0 n6 hz hc hT=>aO hT λda la lb R=>xG mV uB hc [.br false,.br false,.br false,.br false,.br false,.br false,.br false] (qa (qa (qa (qa (qa (qa (qa (qa (qa (c0 hc) (bf h1)) (ne1 h2)) (ne1 n6)) (ne1 h3)) (ne1 h4)) (ne1 n0)) (bf e2)) (lp (so hz).1)) (yZ (k:=1) (up (so hz).2.2))))
theorem OU:dL .bv (to b nm ps sc ky vl) [] (at' [] [eE "expected-attribute-value-but-got-eof"]) .data .none []:=
 rE (dR rfl) (cr _) (λhz=>ng) λM q q6 c5 r8 hz hc hT=>aO hT λda la lb R=>xG mO iO hc [] (qa (c0 hc) iW)
theorem Ox:dL .dq (to b nm ps sc ky vl) (34::l) [] .av (tg b nm (ps++[(ky,vl)]) sc) l:=
 rC (ks:=[]) (dR rfl) Ol (λhz=>cZ) λM q q6 c5 r8 n0 n6 hz hc hT=>aO hT λda la lb R=>xG mO OW hc [.br true] (qa (c0 hc) tt)
theorem JL (h1:z≠34):dL .dq (to b nm ps sc ky vl) (z::l) [] .dq (to b nm ps sc ky (vl++([z]++l.takeWhile Lj))) (l.dropWhile Lj):=
 rT (m:=λc=>decide ([c]∈[[34],[38],[0]])) (oh:=false) (λy=>gV (l:=[.str [34],.str [38],.str [0]]) rfl) (.inl ⟨rfl,rfl⟩) (ks:=[]) (dR rfl) GP (λhz=>cZ) λM q q6 q7 c5 r8 n0 n6 hz hr hc hu hT=>aO hT λda la lb R=>xG mV uB hc [.br false,.br false,.br false,.cs (.av (.str (l.takeWhile Lj))) (M.q q7) 4] (qa (qa (qa (qa (qa (qa (qa (c0 hc) (ne1 h1)) (ne1 n6)) (ne1 n0)) (lp (so hz).1)) hu) (KL (z:=z) (dt (bY _ _) (jz (so hz).2.2 hr)))) (M8 (z:=z) (jz (so hz).2.2 hr)))
theorem Nj:dL .dq (to b nm ps sc ky vl) [] (at' [] [eE "eof-in-attribute-value-double-quote"]) .data .none []:=
 rE (dR rfl) (cr _) (λhz=>ng) λM q q6 c5 r8 hz hc hT=>aO hT λda la lb R=>xG mO iO hc [] (qa (c0 hc) iW)
theorem Mo:dL .sq (to b nm ps sc ky vl) (39::l) [] .av (tg b nm (ps++[(ky,vl)]) sc) l:=
 rC (ks:=[]) (dR rfl) Ol (λhz=>cZ) λM q q6 c5 r8 n0 n6 hz hc hT=>aO hT λda la lb R=>xG mO OW hc [.br true] (qa (c0 hc) tt)
theorem K9 (h1:z≠39):dL .sq (to b nm ps sc ky vl) (z::l) [] .sq (to b nm ps sc ky (vl++([z]++l.takeWhile Ll))) (l.dropWhile Ll):=
 rT (m:=λc=>decide ([c]∈[[39],[38],[0]])) (oh:=false) (λy=>gV (l:=[.str [39],.str [38],.str [0]]) rfl) (.inl ⟨rfl,rfl⟩) (ks:=[]) (dR rfl) GP (λhz=>cZ) λM q q6 q7 c5 r8 n0 n6 hz hr hc hu hT=>aO hT λda la lb R=>xG mV uB hc [.br false,.br false,.br false,.cs (.av (.str (l.takeWhile Ll))) (M.q q7) 4] (qa (qa (qa (qa (qa (qa (qa (c0 hc) (ne1 h1)) (ne1 n6)) (ne1 n0)) (lp (so hz).1)) hu) (KL (z:=z) (dt (bY _ _) (jz (so hz).2.2 hr)))) (M8 (z:=z) (jz (so hz).2.2 hr)))
theorem LW:dL .sq (to b nm ps sc ky vl) [] (at' [] [eE "eof-in-attribute-value-single-quote"]) .data .none []:=
 rE (dR rfl) (cr _) (λhz=>ng) λM q q6 c5 r8 hz hc hT=>aO hT λda la lb R=>xG mO iO hc [] (qa (c0 hc) iW)
theorem H7 (h1:lw z):dL .uq (to b nm ps sc ky vl) (z::l) [] .bn (tg b nm (ps++[(ky,vl)]) sc) l:=
 rC (ks:=[]) (dR rfl) Ol (λhz=>cZ) λM q q6 c5 r8 n0 n6 hz hc hT=>aO hT λda la lb R=>xG mO OW hc [.br true] (qa (c0 hc) h1)
theorem H9:dL .uq (to b nm ps sc ky vl) (62::l) (at' l (dY nm (pA ps++[(ky,.str vl)]) sc b)) .data .none l:=
 rC (dt iS (by decide)) (cr _) (λhz=>(Bh (so hz).1)) λM q q6 c5 r8 n0 n6 hz hc hT=>aO hT λda la lb R=>xG RO iO hc [.br false,.br false,.br true,M.eh R q6 (dY nm (pA ps++[(ky,.str vl)]) sc b)] (qa (qa (qa (qa (c0 hc) ff) ff) tt) (RL M R da la lb q6 577 [] ky vl sc b (so hz).1))
theorem Dj (h1:¬ lw z) (h2:z≠62) (h3:decide ([z]∈[[34],[39],[61],[60],[96]])=true):dL .uq (to b nm ps sc ky vl) (z::l) (at' l [eE "unexpected-character-in-unquoted-attribute-value"]) .uq (to b nm ps sc ky (vl++[z])) l:=
 rC (dR rfl) PD (λhz=>ng) λM q q6 c5 r8 n0 n6 hz hc hT=>aO hT λda la lb R=>xG mV uB hc [.br false,.br false,.br false,.br true] (qa (qa (qa (qa (qa (qa (qa (c0 hc) (bf h1)) (ne1 n6)) (ne1 h2)) h3) iW) (lp (so hz).1)) (yZ (k:=1) (up (so hz).2.2)))
theorem II (h1:¬ lw z) (h2:z≠62) (h3:¬ decide ([z]∈[[34],[39],[61],[60],[96]])=true):dL .uq (to b nm ps sc ky vl) (z::l) [] .uq (to b nm ps sc ky (vl++([z]++l.takeWhile Ld))) (l.dropWhile Ld):=
 rT (m:=λc=>decide ([c]∈Qb)) (oh:=false) (λy=>gV (l:=Qb.map .str) rfl) (.inl ⟨rfl,rfl⟩) (ks:=[]) (dR rfl) GP (λhz=>cZ) λM q q6 q7 c5 r8 n0 n6 hz hr hc hu hT=>aO hT λda la lb R=>xG mV uB hc [.br false,.br false,.br false,.br false,.br false,.cs (.av (.str (l.takeWhile Ld))) (M.q q7) 4] (qa (qa (qa (qa (qa (qa (qa (qa (qa (qa (c0 hc) (bf h1)) (ne1 n6)) (ne1 h2)) (bf h3)) (ne1 n0)) (lp (so hz).1)) (xq 13)) hu) (KL (z:=z) (dt (bY _ _) (jz (so hz).2.2 hr)))) (M8 (z:=z) (jz (so hz).2.2 hr)))
theorem M5:dL .uq (to b nm ps sc ky vl) [] (at' [] [eE "eof-in-attribute-value-no-quotes"]) .data .none []:=
 rE (dR rfl) (cr _) (λhz=>ng) λM q q6 c5 r8 hz hc hT=>aO hT λda la lb R=>xG mO iO hc [] (qa (c0 hc) iW)
theorem GJ (h1:lw z):dL .av (tg b nm ps sc) (z::l) [] .bn (tg b nm ps sc) l:=
 rC (ks:=[]) (dR rfl) (bE _ 4) (λhz=>cZ) λM q q6 c5 r8 n0 n6 hz hc hT=>aK hT λda la R=>xG mK zs hc [.br true] (qa (c0 hc) h1)
theorem Jd:dL .av (tg b nm ps sc) (62::l) (at' l (dY nm (pA ps) sc b)) .data .none l:=
 rC (dt iS (by decide)) (cr _) (λhz=>(EI (sm hz))) λM q q6 c5 r8 n0 n6 hz hc hT=>aK hT λda la R=>xG Lk iO hc [.br false,.br true,M.eh R q6 (dY nm (pA ps) sc b)] (qa (qa (qa (c0 hc) ff) tt) (eM M R da la q6 584 sc b (sm hz)))
theorem Kc:dL .av (tg b nm ps sc) (47::l) [] .sc (tg b nm ps sc) l:=
 rC (ks:=[]) (dR rfl) (bE _ 4) (λhz=>cZ) λM q q6 c5 r8 n0 n6 hz hc hT=>aK hT λda la R=>xG mK zs hc [.br false,.br false,.br true] (qa (qa (qa (c0 hc) ff) ff) tt)
theorem IP (h1:¬ lw z) (h2:z≠62) (h3:z≠47):dL .av (tg b nm ps sc) (z::l) (at' (z::l) [eE "unexpected-character-after-attribute-value"]) .bn (tg b nm ps sc) (z::l):=
 rU (dR rfl) (cv _) (λhz=>ng) λM q q6 q7 c5 r8 n0 hc hu hT=>aK hT λda la R=>xG mK zs hc [.br false,.br false,.br false,.cs (.av .none) (M.q q7) 1] (qa (qa (qa (qa (qa (c0 hc) (bf h1)) (ne1 h2)) (ne1 h3)) iW) hu)
theorem MR:dL .av (tg b nm ps sc) [] (at' [] [eE "unexpected-EOF-after-attribute-value"]) .data .none []:=
 rE (dR rfl) (cr _) (λhz=>ng) λM q q6 c5 r8 hz hc hT=>aK hT λda la R=>xG mK iO hc [.cs (.av .none) (M.q q6) 1] (qa (qa (c0 hc) iW) (CT M q6))
theorem Iz:dL .sc (tg b nm ps sc) (62::l) (at' l (dY nm (pA ps) true b)) .data .none l:=
 rC (dt iS (by decide)) (cr _) (λhz=>(EI (sm hz))) λM q q6 c5 r8 n0 n6 hz hc hT=>aK hT λda la R=>by
  rcases b with _ | _
  . exact xG Lk iO hc [.br true,M.eh R q6 (dY nm (pA ps) true false)] (qa (qa (c0 hc) tt) (eM M R da la q6 591 true false (sm hz)))
  . exact xG Lk iO hc [.br true,M.eh R q6 (dY nm (pA ps) true true)] (qa (qa (c0 hc) tt) (eM M R da la q6 591 true true (sm hz)))
theorem Kw (h2:z≠62):dL .sc (tg b nm ps sc) (z::l) (at' (z::l) [eE "unexpected-character-after-solidus-in-tag"]) .bn (tg b nm ps sc) (z::l):=
 rU (dR rfl) (cv _) (λhz=>ng) λM q q6 q7 c5 r8 n0 hc hu hT=>aK hT λda la R=>xG mK zs hc [.br false,.cs (.av .none) (M.q q7) 1] (qa (qa (qa (c0 hc) (ne1 h2)) iW) hu)
theorem Pa:dL .sc (tg b nm ps sc) [] (at' [] [eE "unexpected-EOF-after-solidus-in-tag"]) .data .none []:=
 rE (dR rfl) (cr _) (λhz=>ng) λM q q6 c5 r8 hz hc hT=>aK hT λda la R=>xG mK iO hc [.cs (.av .none) (M.q q6) 1] (qa (qa (c0 hc) iW) (CT M q6))
end
end
section
section
variable {M:jR} {s s':jn} {q q6 q':SS} {c5 c c8:AV} {r8 r9 R R':OL} {ks:cG} {t8:gF} {da:Addr} {ak l a w:cF} {z:Nat} {rs:cR}
theorem sC:Ht M [da] (.slot 5) [Pp ak] R (.ref da) ((da,sI ak)::R):=⟨λq f e=>cB (λx=>M.tS q f (.ref da) x ((da,sI ak)::R)) (Lb (M.r [da]) e)⟩
theorem mC {aW:cF}:Mv M [da] (.slot 5) [Pp ak] R (.ref da) ((da,sI ak)::R) (.slot 5) [Pp aW] (.ref da) ((da,sI aW)::R):=⟨sC,sC⟩
theorem Cp:Mv M [da] (.slot 5) [Pp ak] R (.ref da) ((da,sI ak)::R) (.slot 5) [] (.ref da) R:=⟨sC,sF⟩
theorem qx (hT:iP (.cmt ak) c5 r8) (k:∀ da R,Nx M s q (.ref da) ((da,sI ak)::R) ks s' t8 q'):Nx M s q c5 r8 ks s' t8 q':=by
 obtain⟨d,r,rfl,rfl⟩:=hT;exact k d r
theorem Rt:iu (.cmt (ak++w))=iu (.cmt ak)+w.length:=bt
theorem cA (h:autoParam (Nat.ble w.length 4=true) bR):iu (.cmt (ak++w))<=iu (.cmt ak)+4:=by rw[Rt];exact bo (dR h) _
theorem S8:iu (.cmt (ak++([z]++w)))<=iu (.cmt ak)+4+4*w.length:=by rw[Rt,List.singleton_append,bL];omega
noncomputable abbrev iN (a:cF):AV:=.dct [("type",.int 6),("data",.str a)]
theorem I1:jL [iN a]:=dj (.tok (by decide) (by decide)) cZ
theorem tP {x:String}:jL [eE x,iN a]:=dj GY I1
theorem NH:dL .cs (.cmt a) (45::l) [] .cd (.cmt a) l:=
 rC (ks:=[]) (dR rfl) (bE _ 4) (λy=>cZ) λM q q6 c5 r8 n0 n6 hz hc hT=>qx hT λda R=>xG mC xW hc [.br true] (qa (c0 hc) tt)
theorem N0:dL .cs (.cmt a) (62::l) (at' l [eE "incorrect-comment",iN a]) .data .none l:=
 rC (dR rfl) (cr _) (λy=>tP) λM q q6 c5 r8 n0 n6 hz hc hT=>qx hT λda R=>xG Cp iO hc [.br false,.br false,.br true] (qa (qa (qa (qa (qa (c0 hc) ff) ff) tt) iW) zq)
theorem OZ:dL .cs (.cmt a) [] (at' [] [eE "eof-in-comment",iN a]) .data .none []:=
 rE (dR rfl) (cr _) (λy=>tP) λM q q6 c5 r8 hz hc hT=>qx hT λda R=>xG Cp iO hc [] (qa (qa (c0 hc) iW) zq)
theorem Oq (h1:z≠45) (h3:z≠62):dL .cs (.cmt a) (z::l) [] .co (.cmt (a++[z])) l:=
 rC (ks:=[]) (dR rfl) cA (λy=>cZ) λM q q6 c5 r8 n0 n6 hz hc hT=>qx hT λda R=>xG mC xW hc [.br false,.br false,.br false] (qa (qa (qa (qa (c0 hc) (ne1 h1)) (ne1 n0)) (ne1 h3)) (yZ (k:=1) (dt hz (by decide))))
theorem ML:dL .cd (.cmt a) (45::l) [] .cn (.cmt a) l:=
 rC (ks:=[]) (dR rfl) (bE _ 4) (λy=>cZ) λM q q6 c5 r8 n0 n6 hz hc hT=>qx hT λda R=>xG mC xW hc [.br true] (qa (c0 hc) tt)
theorem NS:dL .cd (.cmt a) (62::l) (at' l [eE "incorrect-comment",iN a]) .data .none l:=
 rC (dR rfl) (cr _) (λy=>tP) λM q q6 c5 r8 n0 n6 hz hc hT=>qx hT λda R=>xG Cp iO hc [.br false,.br false,.br true] (qa (qa (qa (qa (qa (c0 hc) ff) ff) tt) iW) zq)
theorem Ny:dL .cd (.cmt a) [] (at' [] [eE "eof-in-comment",iN a]) .data .none []:=
 rE (dR rfl) (cr _) (λy=>tP) λM q q6 c5 r8 hz hc hT=>qx hT λda R=>xG Cp iO hc [] (qa (qa (c0 hc) iW) zq)
theorem Nz (h1:z≠45) (h3:z≠62):dL .cd (.cmt a) (z::l) [] .co (.cmt (a++([45]++[z]))) l:=
 rC (ks:=[]) (dR rfl) cA (λy=>cZ) λM q q6 c5 r8 n0 n6 hz hc hT=>qx hT λda R=>xG mC xW hc [.br false,.br false,.br false] (qa (qa (qa (qa (qa (c0 hc) (ne1 h1)) (ne1 n0)) (ne1 h3)) (xq 2)) (yZ (k:=2) (dt hz (by decide))))
theorem Lr:dL .co (.cmt a) (45::l) [] .ce (.cmt a) l:=
 rC (ks:=[]) (dR rfl) (bE _ 4) (λy=>cZ) λM q q6 c5 r8 n0 n6 hz hc hT=>qx hT λda R=>xG mC xW hc [.br true] (qa (c0 hc) tt)
theorem M6:dL .co (.cmt a) [] (at' [] [eE "eof-in-comment",iN a]) .data .none []:=
 rE (dR rfl) (cr _) (λy=>tP) λM q q6 c5 r8 hz hc hT=>qx hT λda R=>xG Cp iO hc [] (qa (qa (c0 hc) iW) zq)
theorem Mr (h1:z≠45):dL .co (.cmt a) (z::l) [] .co (.cmt (a++([z]++l.takeWhile L8))) (l.dropWhile L8):=
 rT (m:=λc=>decide ([c]∈[[45],[0]])) (oh:=false) (λy=>gV (l:=[.str [45],.str [0]]) rfl) (.inl ⟨rfl,rfl⟩) (ks:=[]) (dR rfl) S8 (λy=>cZ) λM q q6 q7 c5 r8 n0 n6 hz hr hc hu hT=>qx hT λda R=>xG mC xW hc [.br false,.br false,.cs (.av (.str (l.takeWhile L8))) (M.q q7) 4] (qa (qa (qa (qa (qa (c0 hc) (ne1 h1)) (ne1 n0)) hu) (KL (z:=z) (dt hr (by decide)))) (M8 (z:=z) (jz (dt hz (by decide)) hr)))
theorem MN:dL .ce (.cmt a) (45::l) [] .cn (.cmt a) l:=
 rC (ks:=[]) (dR rfl) (bE _ 4) (λy=>cZ) λM q q6 c5 r8 n0 n6 hz hc hT=>qx hT λda R=>xG mC xW hc [.br true] (qa (c0 hc) tt)
theorem LQ:dL .ce (.cmt a) [] (at' [] [eE "eof-in-comment-end-dash",iN a]) .data .none []:=
 rE (dR rfl) (cr _) (λy=>tP) λM q q6 c5 r8 hz hc hT=>qx hT λda R=>xG Cp iO hc [] (qa (qa (c0 hc) iW) zq)
theorem Ln (h1:z≠45):dL .ce (.cmt a) (z::l) [] .co (.cmt (a++([45]++[z]))) l:=
 rC (ks:=[]) (dR rfl) cA (λy=>cZ) λM q q6 c5 r8 n0 n6 hz hc hT=>qx hT λda R=>xG mC xW hc [.br false,.br false] (qa (qa (qa (qa (c0 hc) (ne1 h1)) (ne1 n0)) (xq 2)) (yZ (k:=2) (dt hz (by decide))))
theorem Na:dL .cn (.cmt a) (62::l) (at' l [iN a]) .data .none l:=
 rC (dR rfl) (cr _) (λy=>I1) λM q q6 c5 r8 n0 n6 hz hc hT=>qx hT λda R=>xG Cp iO hc [.br true] (qa (qa (c0 hc) tt) iW)
theorem Lw:dL .cn (.cmt a) (33::l) (at' l [eE "unexpected-bang-after-double-dash-in-comment"]) .cb (.cmt a) l:=
 rC (dR rfl) (bE _ 4) (λy=>ng) λM q q6 c5 r8 n0 n6 hz hc hT=>qx hT λda R=>xG mC xW hc [.br false,.br false,.br true] (qa (qa (qa (qa (c0 hc) ff) ff) tt) iW)
theorem Ni:dL .cn (.cmt a) (45::l) (at' l [eE "unexpected-dash-after-double-dash-in-comment"]) .cn (.cmt (a++[45])) l:=
 rC (dR rfl) cA (λy=>ng) λM q q6 c5 r8 n0 n6 hz hc hT=>qx hT λda R=>xG mC xW hc [.br false,.br false,.br false,.br true] (qa (qa (qa (qa (qa (qa (c0 hc) ff) ff) ff) tt) iW) (yZ (k:=1) (dt hz (by decide))))
theorem Lm:dL .cn (.cmt a) [] (at' [] [eE "eof-in-comment-double-dash",iN a]) .data .none []:=
 rE (dR rfl) (cr _) (λy=>tP) λM q q6 c5 r8 hz hc hT=>qx hT λda R=>xG Cp iO hc [] (qa (qa (c0 hc) iW) zq)
theorem Np (h0:z≠62) (h1:z≠45) (h3:z≠33):dL .cn (.cmt a) (z::l) (at' l [eE "unexpected-char-in-comment"]) .co (.cmt (a++([45,45]++[z]))) l:=
 rC (dR rfl) cA (λy=>ng) λM q q6 c5 r8 n0 n6 hz hc hT=>qx hT λda R=>xG mC xW hc [.br false,.br false,.br false,.br false] (qa (qa (qa (qa (qa (qa (qa (c0 hc) (ne1 h0)) (ne1 n0)) (ne1 h3)) (ne1 h1)) iW) (xq 3)) (yZ (k:=3) (dt hz (by decide))))
theorem Ov:dL .cb (.cmt a) (62::l) (at' l [iN a]) .data .none l:=
 rC (dR rfl) (cr _) (λy=>I1) λM q q6 c5 r8 n0 n6 hz hc hT=>qx hT λda R=>xG Cp iO hc [.br true] (qa (qa (c0 hc) tt) iW)
theorem OF:dL .cb (.cmt a) (45::l) [] .ce (.cmt (a++[45,45,33])) l:=
 rC (ks:=[]) (dR rfl) cA (λy=>cZ) λM q q6 c5 r8 n0 n6 hz hc hT=>qx hT λda R=>xG mC xW hc [.br false,.br true] (qa (qa (qa (c0 hc) ff) tt) (yZ (k:=3) (dt hz (by decide))))
theorem NY:dL .cb (.cmt a) [] (at' [] [eE "eof-in-comment-end-bang-state",iN a]) .data .none []:=
 rE (dR rfl) (cr _) (λy=>tP) λM q q6 c5 r8 hz hc hT=>qx hT λda R=>xG Cp iO hc [] (qa (qa (c0 hc) iW) zq)
theorem Mm (h0:z≠62) (h1:z≠45):dL .cb (.cmt a) (z::l) [] .co (.cmt (a++([45,45,33]++[z]))) l:=
 rC (ks:=[]) (dR rfl) cA (λy=>cZ) λM q q6 c5 r8 n0 n6 hz hc hT=>qx hT λda R=>xG mC xW hc [.br false,.br false,.br false] (qa (qa (qa (qa (qa (c0 hc) (ne1 h0)) (ne1 h1)) (ne1 n0)) (xq 4)) (yZ (k:=4) (dt hz (by decide))))
theorem Nw:dL .tag .none (33::l) [] .mk .none l:=
 rC (ks:=[]) (dR rfl) (cr _) (λy=>cZ) λM q q6 c5 r8 n0 n6 hz hc hT=>xG mD iO hc [.br true] (qa (c0 hc) tt)
theorem Nm:dL .tag .none (63::l) (at' (63::l) [eE "expected-tag-name-but-got-question-mark"]) .bog .none (63::l):=
 rU (dR rfl) (cr _) (λy=>ng) λM q q6 q7 c5 r8 n0 hc hu hT=>xG mD iO hc [.br false,.br false,.br false,.br false,.br true,.cs (.av .none) (M.q q7) 1] (qa (qa (qa (qa (qa (qa (qa (c0 hc) ff) ff) ff) ff) tt) iW) hu)
end
end
section
section
variable {s s':jn} {tok t8:gF} {p l r w:cF} {rs rs':cR} {ks:cG} {z x:Nat} {ok:cF->Prop} {u:Nat->Bool}
noncomputable abbrev sh (k:Nat) (rs:cR):cR:=rs.map λe=>(e.1+k,e.2)
theorem qS:at' (p++r) ks=sh r.length (at' p ks):=by
 show ks.map _ =(ks.map _).map _
 rw[List.map_map,bt];rfl
theorem pV {k:Nat}:sh k (rs++rs')=sh k rs++sh k rs':=bV
noncomputable def i7 (s:jn) (tok:gF) (p:cF) (rs:cR) (ok:cF->Prop):Prop:=∀ r,ok r->dL s tok (p++r) (sh r.length rs) .data .none r
theorem i7.one (h:∀ l,dL s tok (z::l) (at' l ks) s' t8 l) (k:i7 s' t8 p rs ok):i7 s tok (z::p) (at' p ks++rs) ok:=λr o=>by
 rw[pV,<-qS];exact(h (p++r)).trans (k r o)
theorem i7.no (h:∀ l,dL s tok (z::l) [] s' t8 l) (k:i7 s' t8 p rs ok):i7 s tok (z::p) rs ok:=i7.one (ks:=[]) h k
theorem i7.back (h:∀ l,dL s tok (z::l) (at' (z::l) ks) s' t8 (z::l)) (k:i7 s' t8 (z::p) rs ok):i7 s tok (z::p) (at' (z::p) ks++rs) ok:=λr o=>by
 rw[pV,<-qS];exact(h (p++r)).trans (k r o)
theorem sQ (hw:∀ c∈w,u c=true) (hx:u x=false):(w++x::l).takeWhile u=w/\(w++x::l).dropWhile u=x::l:=by
 induction w with
 | nil=>exact⟨List.takeWhile_cons_of_neg (bA.mp hx),List.dropWhile_cons_of_neg (bA.mp hx)⟩
 | cons c w ih=>
  have i:=ih λd hd=>hw d (.tail _ hd)
  have hc:=hw c dH
  exact⟨(List.takeWhile_cons_of_pos hc).trans (cB (c::·) i.1),(List.dropWhile_cons_of_pos hc).trans i.2⟩
theorem i7.str {f:cF->gF} (h:∀ l,dL s tok (z::l) [] s' (f (l.takeWhile u)) (l.dropWhile u)) (hw:∀ c∈w,u c=true) (hx:u x=false) (k:i7 s' (f w) (x::p) rs ok):i7 s tok (z::(w++x::p)) rs ok:=λr o=>by
 have e:=sQ (l:=p++r) hw hx
 have h:=h (w++x::(p++r))
 rw[e.1,e.2]at h
 have:=h.trans (k r o)
 rw[List.nil_append]at this
 rwa [bO,bB]
theorem i7.fin (h:∀ l,dL s tok (62::l) (at' l ks) .data .none l):i7 s tok [62] (at' [] ks) λy=>True:=λr y=>by
 rw[<-qS];exact h r
end
end
section
noncomputable def Pf (d:AV):Prop:=∃ r,d=.dct (("type",.int 7)::r)
theorem FW {x:String}:Pf (eE x):=⟨_,rfl⟩
noncomputable abbrev kS (ks:cG):Prop:=∀ d∈ks,Pf d
noncomputable abbrev rW (rs:cR):Prop:=∀ e∈rs,Pf e.2
theorem eA {x:String}:kS [eE x]:=dj FW cZ
theorem fH {l:cF} {ks:cG} (h:kS ks):rW (at' l ks):=λe he=>by
 obtain⟨d,hd,rfl⟩:=cg.mp he;exact h d hd
inductive lI (P:cF):Nat->cP->Nat->Prop
 | nil {k m:Nat} (h:k<=m) (hm:m<=P.length):lI P k [] m
 | cons {k i j m:Nat} {x v:cF} {r:cP} (h:k<=i) (hx:x <+:(dn P).drop i) (hj:i+x.length<=j) (hv:v <+:P.drop j) (c:lI P (j+v.length) r m):lI P k ((x,v)::r) m
section
variable {P w x v:cF} {k m i j:Nat} {ps:cP}
theorem lI.le (c:lI P k ps m):k<=m/\m<=P.length:=by
 induction c with
 | nil h hm=>exact⟨h,hm⟩
 | cons h _ hj _ _ ih=>exact⟨by omega,ih.2⟩
theorem nU (h:x <+:P.drop i) (hi:i<=P.length):x <+:(P++w).drop i:=by
 rw[List.drop_append_of_le_length hi];exact h.trans (bu _ _)
theorem ij:dn (P++w)=dn P++dn w:=bV
theorem gB:(dn P).length=P.length:=bZ _
theorem lI.app (c:lI P k ps m):lI (P++w) k ps m:=by
 induction c with
 | nil h hm=>exact .nil h (by rw[bt];omega)
 | cons h hx hj hv c ih=>
  have:=c.le
  exact .cons h (by rw[ij];exact nU hx (by rw[gB];omega)) hj (nU hv (by omega)) ih
theorem lI.up (c:lI P k ps m) (h:m<=j) (hj:j<=P.length):lI P k ps j:=by
 induction c with
 | nil h' _=>exact .nil (dt h' h) hj
 | cons h1 hx h2 hv _ ih=>exact .cons h1 hx h2 hv (ih h)
theorem lI.snoc (c:lI P k ps m) (h:m<=i) (hx:x <+:(dn P).drop i) (hj:i+x.length<=j) (hv:v <+:P.drop j) (hl:j+v.length<=P.length):lI P k (ps++[(x,v)]) (j+v.length):=by
 induction c with
 | nil h' _=>exact .cons (dt h' h) hx hj hv (.nil (cv _) hl)
 | cons h1 hx1 h2 hv1 _ ih=>exact .cons h1 hx1 h2 hv1 (ih h)
noncomputable def eH (l:cF):cF:=dn (l.filter λc=> !decide (c∈[32,10,47,61,34,39]))
theorem fY:eH (P++w)=eH P++eH w:=by rw[eH,List.filter_append,ij];rfl
theorem Fx {c:Nat}:gJ (gJ c)=gJ c:=by
 unfold gJ
 split<;>(try split)<;>omega
noncomputable def fV (ps:cP):cF:=(ps.map λp=>p.1++p.2).flatten
theorem Bn:fV (ps++[(x,v)])=fV ps++(x++v):=by
 show(List.map _ _).flatten= _
 rw[bV,List.flatten_append];simp[fV]
end
end
section
noncomputable abbrev PL:=cP
noncomputable def vm (b:Bool):cF:=if b=true then [60] else [60,47]
structure n7 (b:Bool) (nm:cF) (ps:PL) (sc:Bool) (P:cF) (dI:Prop):Prop where
 op:vm b++nm <+:P
 ch:∃ m,lI P 1 ((dn nm,[])::ps) m
 ba:eH P=60::(eH nm++eH (fV ps))
 nd:dI\/(ps.map (·.1)).Nodup
 s1:sc=true->P.getLast? =some 47
 s2:P.getLast? =some 47->sc=true\/dI\/∃ qs x v,ps=qs++[(x,v)]/\v.getLast? =some 47
noncomputable def qC (b:Bool) (s:jn) (tok:gF) (P:cF) (dI:Prop) (l:cF):Prop:=
 (∃ p r es nm ps sc,l=p++62::r/\i7 s tok (p++[62]) (es++at' [] (dY nm (pA ps) sc b)) (λy=>True)/\rW es/\n7 b nm ps sc (P++p) (dI\/es≠[]))\/
 ∃ es,dL s tok l es .data .none []/\es≠[]/\rW es
section
variable {b sc:Bool} {s s':jn} {tok t8:gF} {P l nm w:cF} {ps:PL} {dI bad':Prop} {ks:cG} {z x:Nat} {u:Nat->Bool}
theorem n7.mono (f:n7 b nm ps sc P dI) (h:dI->bad'):n7 b nm ps sc P bad':=⟨f.op,f.ch,f.ba,f.nd.imp h id,f.s1,λe=>(f.s2 e).imp id λq=>q.imp h id⟩
theorem rm {ks:cG} (h:ks≠[]):at' l ks≠[]:=λe=>h (List.map_eq_nil_iff.mp e)
theorem iQ {α:Type} {a c:List α} (h:a≠[]):a++c≠[]:=λe=>h (List.append_eq_nil_iff.mp e).1
theorem me {α:Type} {a c:List α} (h:c≠[]):a++c≠[]:=λe=>h (List.append_eq_nil_iff.mp e).2
theorem qC.one (h:∀ l,dL s tok (z::l) (at' l ks) s' t8 l) (hk:kS ks) (k:qC b s' t8 (P++[z]) (dI\/ks≠[]) l):qC b s tok P dI (z::l):=by
 rcases k with⟨p,r,es,nm,ps,sc,rfl,e,he,f⟩ | ⟨es,c,hn,he⟩
 . refine .inl ⟨z::p,r,at' (p++[62]) ks++es,nm,ps,sc,rfl,?_,fk (fH hk) he,?_⟩
   . rw[bB];exact i7.one h e
   . rw[bB]at f
     exact f.mono λq=>q.elim (λq=>q.imp id λq=>iQ (rm q)) λq=>.inr (me q)
 . exact .inr ⟨_,(h l).trans c,me hn,fk (fH hk) he⟩
theorem qC.no (h:∀ l,dL s tok (z::l) [] s' t8 l) (k:qC b s' t8 (P++[z]) dI l):qC b s tok P dI (z::l):=by
 rcases k with⟨p,r,es,nm,ps,sc,rfl,e,he,f⟩ | ⟨es,c,hn,he⟩
 . refine .inl ⟨z::p,r,es,nm,ps,sc,rfl,i7.no h e,he,?_⟩
   rw[bB]at f
   exact f
 . exact .inr ⟨_,(h l).trans c,hn,he⟩
theorem qC.back (h:∀ l,dL s tok (z::l) (at' (z::l) ks) s' t8 (z::l)) (hk:kS ks) (k:qC b s' t8 P (dI\/ks≠[]) (z::l)):qC b s tok P dI (z::l):=by
 rcases k with⟨p,r,es,nm,ps,sc,e0,e,he,f⟩ | ⟨es,c,hn,he⟩
 . refine .inl ⟨p,r,at' (p++[62]) ks++es,nm,ps,sc,e0,?_,fk (fH hk) he,f.mono λq=>q.elim (λq=>q.imp id λq=>iQ (rm q)) λq=>.inr (me q)⟩
   rw[bB]
   rcases p with _ | ⟨c,p⟩
   . obtain⟨rfl,-⟩:=List.cons.inj e0
     exact i7.back h e
   . obtain⟨rfl,-⟩:=List.cons.inj e0
     exact i7.back h e
 . exact .inr ⟨_,(h l).trans c,me hn,fk (fH hk) he⟩
theorem sw {c:Nat} {l':cF} (h:l.dropWhile u=c::l'):u c=false:=by
 induction l with
 | nil=>exact nomatch h
 | cons d l ih=>
  rw[List.dropWhile_cons]at h
  by_cases q:u d=true
  . rw[cE q]at h;exact ih h
  . rw[cC q]at h
    obtain⟨rfl,-⟩:=List.cons.inj h
    exact bA.mpr q
theorem oH {c:Nat} (h:c∈l.takeWhile u):u c=true:=by
 induction l with
 | nil=>exact nomatch h
 | cons d l ih=>
  rw[List.takeWhile_cons]at h
  by_cases q:u d=true
  . rw[cE q]at h
    rcases fD h with rfl | h
    . exact q
    . exact ih h
  . rw[cC q]at h;exact nomatch h
theorem qC.str {f:cF->gF} (h:∀ l,dL s tok (z::l) [] s' (f (l.takeWhile u)) (l.dropWhile u)) (k:qC b s' (f (l.takeWhile u)) (P++z::l.takeWhile u) dI (l.dropWhile u)):qC b s tok P dI (z::l):=by
 rcases k with⟨p,r,es,nm,ps,sc,e0,e,he,q⟩ | ⟨es,c,hn,he⟩
 . have hl:l=l.takeWhile u++l.dropWhile u:=List.takeWhile_append_dropWhile.symm
   have hw:∀ c∈l.takeWhile u,u c=true:=λc=>oH
   generalize l.takeWhile u=w at*
   refine .inl ⟨z::(w++p),r,es,nm,ps,sc,by rw[hl,e0];simp,?_,he,by rw[bB]at q;exact q⟩
   obtain⟨c,p',e1⟩:∃ c p',p++[62]=c::p':=by
    rcases p with _ | ⟨c,p⟩
    . exact⟨_,_,rfl⟩
    . exact⟨_,_,rfl⟩
   have e2:p++62::r=c::(p'++r):=by rw[List.append_cons,e1];rfl
   rw[bO,bB,e1];rw[e1]at e
   exact i7.str h hw (sw (e0.trans e2)) e
 . exact .inr ⟨_,(h l).trans c,hn,he⟩
theorem qC.nil (h:dL s tok [] (at' [] ks) .data .none []) (hk:kS ks) (hn:ks≠[]):qC b s tok P dI []:=.inr ⟨_,h,rm hn,fH hk⟩
theorem qC.fin {ks:cG} (h:∀ l,dL s tok (62::l) (at' l (ks++dY nm (pA ps) sc b)) .data .none l) (hk:kS ks) (f:n7 b nm ps sc P (dI\/ks≠[])):qC b s tok P dI (62::l):=
 .inl ⟨[],l,at' [] ks,nm,ps,sc,rfl,by
  have:=i7.fin h
  rw[List.nil_append,show at' [] ks++at' [] (dY nm (pA ps) sc b)=at' [] (ks++dY nm (pA ps) sc b)from bV.symm]
  exact this,fH hk,by rw[bX];exact f.mono λq=>q.imp id rm⟩
end
end
section
structure Cl (b:Bool) (nm:cF) (ps:PL) (P:cF) (dI:Prop):Prop where
 op:vm b++nm <+:P
 ch:∃ m,lI P 1 ((dn nm,[])::ps) m
 ba:eH P=60::(eH nm++eH (fV ps))
 nd:dI\/(ps.map (·.1)).Nodup
structure VK (b:Bool) (nm:cF) (ps:PL) (ky P:cF) (dI:Prop):Prop where
 op:vm b++nm <+:P
 ch:∃ m i,lI P 1 ((dn nm,[])::ps) m/\m<=i/\ky <+:(dn P).drop i/\i+ky.length<=P.length
 ba:eH P=60::(eH nm++eH (fV ps)++eH ky)
 nd:dI\/((ps++[(ky,([]:cF))]).map (·.1)).Nodup
section
variable {b:Bool} {nm P w ky v l:cF} {ps:PL} {dI bad':Prop} {z:Nat}
theorem Cl.mono (c:Cl b nm ps P dI) (h:dI->bad'):Cl b nm ps P bad':=⟨c.op,c.ch,c.ba,c.nd.imp h id⟩
theorem Cl.more (c:Cl b nm ps P dI) (h:eH w=[]):Cl b nm ps (P++w) dI:=
 ⟨c.op.trans (bu _ _),c.ch.imp λy q=>q.app,by rw[fY,h,bX];exact c.ba,c.nd⟩
theorem VK.more (c:VK b nm ps ky P dI) (h:eH w=[]):VK b nm ps ky (P++w) dI:=by
 obtain⟨m,i,c1,c2,c3,c4⟩:=c.ch;refine⟨c.op.trans (bu _ _),⟨m,i,c1.app,c2,?_,by rw[bt];omega⟩,by rw[fY,h,bX];exact c.ba,c.nd⟩
 rw[ij];exact nU c3 (by rw[gB];omega)
theorem VK.mono (c:VK b nm ps ky P dI) (h:dI->bad'):VK b nm ps ky P bad':=⟨c.op,c.ch,c.ba,c.nd.imp h id⟩
theorem VK.close (c:VK b nm ps ky P dI) (h:eH w=[]):Cl b nm (ps++[(ky,v)]) (P++v++w) dI:=by
 obtain⟨m,i,c1,c2,c3,c4⟩:=c.ch;refine Cl.more (P:=P++v) ⟨c.op.trans (bu _ _),⟨P.length+v.length,?_⟩,?_,c.nd.imp id λq=>?_⟩ h
 . refine(c1.app (w:=v)).snoc (ps:=(dn nm,[])::ps) c2 ?_ c4 ?_ (cq bt.symm)
   . rw[ij];exact nU c3 (by rw[gB];omega)
   . rw[List.drop_left];exact bF _
 . rw[fY,c.ba,Bn,fY,fY]
   simp
 . rw[bV]at q |-;exact q
theorem tF:eH (dn w)=eH w:=by
 unfold eH
 induction w with
 | nil=>rfl
 | cons c w ih=>
  have e:decide (gJ c∈[32,10,47,61,34,39])=decide (c∈[32,10,47,61,34,39]):=by
   unfold gJ
   by_cases q:(decide (65<=c)&&decide (c<=90))=true
   . rw[cE q]
     exact(show ∀ z∈List.range' 65 26,decide (z+32∈[32,10,47,61,34,39])=decide (z∈[32,10,47,61,34,39])by decide) c (List.mem_range'_1.mpr ⟨of_decide_eq_true (dE q),Nat.lt_succ_of_le (of_decide_eq_true (dX q))⟩)
   . rw[cC q]
  show((gJ c::dn w).filter _).map gJ=((c::w).filter _).map gJ
  rw[List.filter_cons,List.filter_cons,e]
  by_cases q:(!decide (c∈[32,10,47,61,34,39]))=true
  . rw[cE q,cE q,cf,cf,Fx];exact cB _ ih
  . rw[cC q,cC q];exact ih
theorem Cl.name (c:Cl b nm ps P dI):VK b nm ps (dn ky) (P++ky) (dI\/rL ps ky≠[]):=by
 obtain⟨m,c1⟩:=c.ch;have :=c1.le
 refine⟨c.op.trans (bu _ _),⟨m,P.length,c1.app,this.2,?_,by rw[gB,bt];omega⟩,?_,?_⟩
 . rw[ij,<-gB (P:=P),List.drop_left];exact bF _
 . rw[fY,c.ba,tF];rfl
 . rcases c.nd with q | q
   . exact .inl (.inl q)
   by_cases e:rL ps ky=[]
   . refine .inr ?_
     rw[bV];refine bx.mpr ⟨q,List.pairwise_singleton _ _,λx hx y hy=>?_⟩
     obtain rfl:=bq.mp hy
     rintro rfl;refine cD e ?_
     obtain⟨p,hp,hk⟩:=cg.mp hx;show iX (pA ps) (dn ky)≠[]
     unfold iX;have hk:p.1=dn ky:=hk
     have hp':(p.1,AV.str p.2)∈pA ps:=cg.mpr ⟨p,hp,rfl⟩
     rw[cE (List.any_eq_true.mpr ⟨(p.1,AV.str p.2),hp',cc hk⟩)];exact bN _ _
   . exact .inl (.inr e)
theorem kr:kS (rL ps ky):=by
 show kS (iX _ _)
 unfold iX
 split
 . exact eA
 . exact cZ
theorem qj {x:String} {t:cV}:kS (Ae x t z):=by
 show kS (if _ then _ else _)
 split
 . exact eA
 . exact cZ
end
end
section
noncomputable def Ck:cF:=[60,62,47,97,32,10,33,45,61,34,39,98,63,120,81,49,233]
noncomputable abbrev kB (l:cF):Prop:=∀ z∈l,z∈Ck
theorem wH {z:Nat} (h:z∈Ck) (e:lw z):z=32\/z=10:=(show ∀ z∈Ck,lw z->z=32\/z=10 by decide) z h e
noncomputable abbrev QA (b:Bool) (l:cF) (s:jn):Prop:=∀ nm ps P dI,Cl b nm ps P dI->(P.getLast? =some 47->s=.sc\/dI)->(s=.sc->P.getLast? =some 47)->qC b s (tg b nm ps false) P dI l
noncomputable abbrev QN (b:Bool) (l:cF):Prop:=∀ nm ps P ky dI,Cl b nm ps P dI->ky≠[]->(∀ c∈ky,c≠47)->qC b .an (to b nm ps false ky []) (P++ky) dI l
noncomputable abbrev QV (b:Bool) (l:cF) (s:jn):Prop:=∀ nm ps P ky v dI,VK b nm ps ky P dI->P.getLast?≠some 47->(s=.nn\/s=.bv->v=[])->qC b s (to b nm ps false ky v) (P++v) dI l
structure Rf (b:Bool) (l:cF):Prop where
 bn:QA b l .bn
 av:QA b l .av
 sc:QA b l .sc
 an:QN b l
 nn:QV b l .nn
 bv:QV b l .bv
 dq:QV b l .dq
 sq:QV b l .sq
 uq:QV b l .uq
section
variable {b sc:Bool} {nm P w ky v l:cF} {ps:PL} {dI bad':Prop} {z:Nat} {s:jn} {u:Nat->Bool}
theorem n7.cl (c:Cl b nm ps P dI) (h1:sc=true->P.getLast? =some 47) (h2:P.getLast? =some 47->sc=true\/dI\/∃ qs x v,ps=qs++[(x,v)]/\v.getLast? =some 47):n7 b nm ps sc P dI:=⟨c.op,c.ch,c.ba,c.nd,h1,h2⟩
theorem nl (h:∀ c∈w,c≠47) (hw:w≠[]):(P++w).getLast?≠some 47:=by
 rw[List.getLast?_append,List.getLast?_eq_some_getLast hw];exact λe=>h 47 (Option.some.inj e▸List.getLast_mem hw) rfl
theorem jy (h:∀ c∈w,lw c) (ha:kB w):eH w=[]/\∀ c∈w,c≠47:=by
 refine⟨?_,λc hc=>by rcases wH (ha c hc) (h c hc)with rfl | rfl<;>decide⟩
 unfold eH;rw[List.filter_eq_nil_iff.mpr λc hc=>by rcases wH (ha c hc) (h c hc)with rfl | rfl<;>decide]
 rfl
theorem wE {c:Nat} (e:lw z) (h:c∈z::l.takeWhile td):lw c:=by
 rcases fD h with rfl | h
 . exact e
 . exact cz (oH h)
theorem vw (h:kB (z::l)):kB (z::l.takeWhile u):=λc hc=>h c ((fD hc).elim (λe=>e▸.head _) λq=>.tail _ ((List.takeWhile_sublist u).subset q))
theorem lC (h:kB (z::l)):kB (l.dropWhile u):=λc hc=>h c (.tail _ ((List.dropWhile_sublist u).subset hc))
theorem nz:(l.dropWhile u).length < (z::l).length:=Nat.lt_succ_of_le (List.dropWhile_sublist u).length_le
theorem gf (h:kB (z::l)):kB l:=λc hc=>h c (.tail _ hc)
noncomputable abbrev IH (b:Bool) (l:cF):Prop:=∀ l',l'.length < l.length->kB l'->Rf b l'
theorem jO:l.length < (z::l).length:=bQ _
theorem Bv:(P++[z]).getLast? =some z:=List.getLast?_concat
theorem kq (h:decide (z∈[32,10,47,61,34,39])=true):eH [z]=[]:=by
 unfold eH;rw[List.filter_cons_of_neg (by rw[h];decide)]
 rfl
theorem uZ (ha:kB l) (ih:IH b l):QA b l .bn:=by
 intro nm ps P dI c h1 y;have h1:P.getLast? =some 47->dI:=λe=>(h1 e).resolve_left nofun
 rcases l with _ | ⟨z,l⟩
 . exact .nil Nv eA (bN _ _)
 by_cases e1:lw z
 . have hb:=jy (λc h=>wE e1 h) (vw (u:=td) ha)
   exact .str (f:=λy=>tg b nm ps false) (u:=td) (λy=>IK e1) ((ih _ nz (lC ha)).bn _ _ _ _ (c.more hb.1) (λe=>cD e (nl hb.2 (bN _ _))) nofun)
 by_cases e2:z=62
 . subst e2
   exact .fin (ks:=[]) (λy=>KI) cZ (.cl (c.mono .inl) nofun λe=>.inr (.inl (.inl (h1 e))))
 by_cases e3:z=47
 . subst e3
   exact .no (λy=>HG) ((ih _ jO (gf ha)).sc _ _ _ _ (c.more (kq rfl)) (λy=>.inl rfl) λy=>Bv)
 . exact .one (λy=>Hl e1 e2 e3) qj ((ih _ jO (gf ha)).an _ _ P [z] _ (c.mono .inl) (bN _ _) (dj e3 cZ))
theorem HA (ha:kB l) (ih:IH b l):QA b l .av:=by
 intro nm ps P dI c h1 y;have h1:P.getLast? =some 47->dI:=λe=>(h1 e).resolve_left nofun
 rcases l with _ | ⟨z,l⟩
 . exact .nil MR eA (bN _ _)
 by_cases e1:lw z
 . have hb:=jy (w:=[z]) (λc h=>(bq.mp h)▸e1) (λc h=>ha c ((bq.mp h)▸.head _))
   exact .no (λy=>GJ e1) ((ih _ jO (gf ha)).bn _ _ _ _ (c.more hb.1) (λe=>cD e (nl hb.2 (bN _ _))) nofun)
 by_cases e2:z=62
 . subst e2
   exact .fin (ks:=[]) (λy=>Jd) cZ (.cl (c.mono .inl) nofun λe=>.inr (.inl (.inl (h1 e))))
 by_cases e3:z=47
 . subst e3
   exact .no (λy=>Kc) ((ih _ jO (gf ha)).sc _ _ _ _ (c.more (kq rfl)) (λy=>.inl rfl) λy=>Bv)
 . exact .back (λy=>IP e1 e2 e3) eA (uZ ha ih _ _ _ _ (c.mono .inl) (λy=>.inr (.inr (bN _ _))) nofun)
theorem Ii (ha:kB l) (ih:IH b l):QA b l .sc:=by
 intro nm ps P dI c y h2
 rcases l with _ | ⟨z,l⟩
 . exact .nil Pa eA (bN _ _)
 by_cases e2:z=62
 . subst e2
   exact .fin (ks:=[]) (λy=>Iz) cZ (.cl (c.mono .inl) (λy=>h2 rfl) λy=>.inl rfl)
 . exact .back (λy=>Kw e2) eA (uZ ha ih _ _ _ _ (c.mono .inl) (λy=>.inr (.inr (bN _ _))) nofun)
end
end
section
section
variable {b sc:Bool} {nm P w ky v l:cF} {ps:PL} {dI bad':Prop} {z:Nat} {s:jn} {u:Nat->Bool}
theorem IA (q:QV b l s) (c:VK b nm ps ky P dI) (h:P.getLast?≠some 47):qC b s (to b nm ps false ky []) P dI l:=by
 have:=q _ _ _ _ [] _ c h λy=>rfl
 rwa [bX]at this
theorem sT {x v:cF}:pA (ps++[(x,v)])=pA ps++[(x,.str v)]:=bV
theorem VK.cl0 (c:VK b nm ps ky P dI) (h:eH w=[]):Cl b nm (ps++[(ky,[])]) (P++w) dI:=by
 have:=c.close (v:=[]) h
 rwa [bX]at this
theorem VK.cl (c:VK b nm ps ky P dI):Cl b nm (ps++[(ky,v)]) (P++v) dI:=by
 have:=c.close (v:=v) (w:=[]) rfl
 rwa [bX]at this
theorem n7.vl (c:VK b nm ps ky P dI) (hl:P.getLast?≠some 47):n7 b nm (ps++[(ky,v)]) false (P++v) dI:=
 .cl c.cl nofun λe=>.inr (.inr ⟨_,_,_,rfl,by
  rcases v with _ | ⟨a,v⟩
  . rw[bX]at e;exact cD e hl
  . rw[List.getLast?_append,List.getLast?_eq_some_getLast (bN _ _)]at e
    exact(List.getLast?_eq_some_getLast (bN _ _)).trans e⟩)
theorem yz (h:decide (z∈[47])=false):∀ c∈[z],c≠47:=dj (λe=>by subst e;exact nomatch h) cZ
theorem L3 (ha:kB l) (ih:IH b l):QN b l:=by
 intro nm ps P ky dI c hk h47;have hn:(P++ky).getLast?≠some 47:=nl h47 hk
 have c1:=c.name (ky:=ky)
 rcases l with _ | ⟨z,l⟩
 . exact .nil P3 (dj FW kr) (bN _ _)
 have hI:=ih _ jO (gf ha)
 by_cases e1:z=61
 . subst e1
   exact .one (λy=>Ko) kr (IA hI.bv (c1.more (kq rfl)) (nl (yz rfl) (bN _ _)))
 by_cases e2:z=62
 . subst e2
   refine .fin (ps:=ps++[(dn ky,[])]) (λy=>by rw[sT];exact JI) kr ?_
   have:=n7.vl (v:=[]) c1 hn
   rwa [bX]at this
 by_cases e3:z=47
 . subst e3
   exact .one (λy=>HC) kr (hI.sc _ _ _ _ (c1.cl0 (kq rfl)) (λy=>.inl rfl) λy=>Bv)
 by_cases e4:lw z
 . have hb:=jy (w:=[z]) (λc h=>(bq.mp h)▸e4) (λc h=>ha c ((bq.mp h)▸.head _))
   exact .one (λy=>J7 e4) kr (IA hI.nn (c1.more hb.1) (nl hb.2 (bN _ _)))
 have one:(P++ky)++[z]=P++(ky++[z]):=bB _ _ _
 have h1:∀ c∈ky++[z],c≠47:=fk h47 (dj e3 cZ)
 by_cases e5:th z
 . refine .str (f:=λw=>to b nm ps false (ky++([z]++w)) []) (u:=Ib) (λy=>Jw e1 e5) ?_
   rw[bB];exact(ih (l.dropWhile Ib) nz (lC ha)).an _ _ P (ky++([z]++l.takeWhile Ib)) _ c (iQ hk) (fk h47 (dj e3 λc hc e=>by subst e;exact cD (oH (u:=Ib) (l:=l) hc) (by decide)))
 . by_cases e6:decide ([z]∈[[39],[34],[60]])=true
   . refine .one (λy=>CS e1 e5 e2 e4 e3 e6) eA ?_
     rw[one];exact hI.an _ _ P _ _ (c.mono .inl) (iQ hk) h1
   . refine .no (λy=>H1 e1 e5 e2 e4 e3 e6) ?_
     rw[one];exact hI.an _ _ P _ _ c (iQ hk) h1
theorem J5 (ha:kB l) (ih:IH b l):QV b l .nn:=by
 intro nm ps P ky v dI c hl hv;obtain rfl:=hv (.inl rfl)
 rw[bX]
 rcases l with _ | ⟨z,l⟩
 . exact .nil Nb eA (bN _ _)
 have hI:=ih _ jO (gf ha)
 by_cases e1:lw z
 . have hb:=jy (λc h=>wE e1 h) (vw (u:=td) ha)
   exact .str (f:=λy=>to b nm ps false ky []) (u:=td) (λy=>L2 e1) (IA (ih _ nz (lC ha)).nn (c.more hb.1) (nl hb.2 (bN _ _)))
 by_cases e2:z=61
 . subst e2
   exact .no (λy=>Jv) (IA hI.bv (c.more (kq rfl)) (nl (yz rfl) (bN _ _)))
 by_cases e3:z=62
 . subst e3
   refine .fin (ks:=[]) (λy=>HR) cZ ?_
   have:=n7.vl (v:=[]) (c.mono (bad':=dI\/([]:cG)≠[]) .inl) hl
   rwa [bX]at this
 by_cases e4:z=47
 . subst e4
   exact .no (λy=>HV) (hI.sc _ _ _ _ (c.cl0 (kq rfl)) (λy=>.inl rfl) λy=>Bv)
 . refine .one (λy=>Jm e1 e2 e3 e4) qj (hI.an _ _ P [z] _ ?_ (bN _ _) (dj e4 cZ))
   have:=(c.mono (bad':=dI\/Ae "invalid-character-after-attribute-name" [[39],[34],[60]] z≠[]) .inl).cl0 (w:=[]) rfl
   rwa [bX]at this
theorem GX (ha:kB l) (ih:IH b l):QV b l .bv:=by
 intro nm ps P ky v dI c hl hv;obtain rfl:=hv (.inr rfl)
 rw[bX]
 rcases l with _ | ⟨z,l⟩
 . exact .nil OU eA (bN _ _)
 have hI:=ih _ jO (gf ha)
 by_cases e1:lw z
 . have hb:=jy (λc h=>wE e1 h) (vw (u:=td) ha)
   exact .str (f:=λy=>to b nm ps false ky []) (u:=td) (λy=>Io e1) (IA (ih _ nz (lC ha)).bv (c.more hb.1) (nl hb.2 (bN _ _)))
 by_cases e2:z=34
 . subst e2
   exact .no (λy=>IG) (IA hI.dq (c.more (kq rfl)) (nl (yz rfl) (bN _ _)))
 by_cases e3:z=39
 . subst e3
   exact .no (λy=>Hi) (IA hI.sq (c.more (kq rfl)) (nl (yz rfl) (bN _ _)))
 by_cases e4:z=62
 . subst e4
   refine .fin (ps:=ps++[(ky,[])]) (λy=>by rw[sT];exact Hj) eA ?_
   have:=n7.vl (v:=[]) (c.mono (bad':=dI\/[eE "expected-attribute-value-but-got-right-bracket"]≠[]) .inl) hl
   rwa [bX]at this
 . exact .one (λy=>JA e1 e2 e3 e4) qj (hI.uq _ _ P ky [z] _ (c.mono .inl) hl nofun)
theorem J2 (ha:kB l) (ih:IH b l):QV b l .dq:=by
 intro nm ps P ky v dI c hl y
 rcases l with _ | ⟨z,l⟩
 . exact .nil Nj eA (bN _ _)
 by_cases e1:z=34
 . subst e1
   exact .no (λy=>Ox) ((ih _ jO (gf ha)).av _ _ _ _ (c.close (kq rfl)) (λe=>cD e (nl (yz rfl) (bN _ _))) nofun)
 . refine .str (f:=λw=>to b nm ps false ky (v++([z]++w))) (u:=Lj) (λy=>JL e1) ?_
   rw[bB];exact(ih (l.dropWhile Lj) nz (lC ha)).dq _ _ P ky (v++([z]++l.takeWhile Lj)) _ c hl nofun
theorem Iu (ha:kB l) (ih:IH b l):QV b l .sq:=by
 intro nm ps P ky v dI c hl y
 rcases l with _ | ⟨z,l⟩
 . exact .nil LW eA (bN _ _)
 by_cases e1:z=39
 . subst e1
   exact .no (λy=>Mo) ((ih _ jO (gf ha)).av _ _ _ _ (c.close (kq rfl)) (λe=>cD e (nl (yz rfl) (bN _ _))) nofun)
 . refine .str (f:=λw=>to b nm ps false ky (v++([z]++w))) (u:=Ll) (λy=>K9 e1) ?_
   rw[bB];exact(ih (l.dropWhile Ll) nz (lC ha)).sq _ _ P ky (v++([z]++l.takeWhile Ll)) _ c hl nofun
theorem JB (ha:kB l) (ih:IH b l):QV b l .uq:=by
 intro nm ps P ky v dI c hl y
 rcases l with _ | ⟨z,l⟩
 . exact .nil M5 eA (bN _ _)
 by_cases e1:lw z
 . have hb:=jy (w:=[z]) (λc h=>(bq.mp h)▸e1) (λc h=>ha c ((bq.mp h)▸.head _))
   exact .no (λy=>H7 e1) ((ih _ jO (gf ha)).bn _ _ _ _ (c.close hb.1) (λe=>cD e (nl hb.2 (bN _ _))) nofun)
 by_cases e2:z=62
 . subst e2
   exact .fin (ks:=[]) (ps:=ps++[(ky,v)]) (λy=>by rw[sT];exact H9) cZ (.vl (c.mono .inl) hl)
 by_cases e3:decide ([z]∈[[34],[39],[61],[60],[96]])=true
 . refine .one (λy=>Dj e1 e2 e3) eA ?_
   rw[bB];exact(ih _ jO (gf ha)).uq _ _ P ky (v++[z]) _ (c.mono .inl) hl nofun
 . refine .str (f:=λw=>to b nm ps false ky (v++([z]++w))) (u:=Ld) (λy=>II e1 e2 e3) ?_
   rw[bB];exact(ih (l.dropWhile Ld) nz (lC ha)).uq _ _ P ky (v++([z]++l.takeWhile Ld)) _ c hl nofun
theorem y6 (b:Bool):∀ n l,l.length < n->kB l->Rf b l
 | 0,_,h,_=>cD h (Nat.not_lt_zero _)
 | n+1,l,h,ha=>by
  have ih:IH b l:=λl' hl ha'=>y6 b n l' (tB hl (Nat.le_of_lt_succ h)) ha'
  exact⟨uZ ha ih,HA ha ih,Ii ha ih,L3 ha ih,J5 ha ih,GX ha ih,J2 ha ih,Iu ha ih,JB ha ih⟩
end
end
section
section
variable {b sc:Bool} {nm P w ky v l p:cF} {ps:PL} {dI bad':Prop} {z x:Nat} {s s':jn} {u:Nat->Bool} {tok t8:gF} {ks:cG} {d:AV} {rs:cR}
theorem zF:eH (vm b)=[60]:=by rcases b with _ | _<;>decide
theorem Bq:Cl b nm [] (vm b++nm) dI:=by
 refine⟨bF _,⟨(vm b++nm).length,?_⟩,?_,.inr List.nodup_nil⟩
 . refine .cons (i:=(vm b).length) (j:=(vm b).length+(dn nm).length) (by rcases b with _ | _<;>decide) ?_ (cv _) (List.nil_prefix) (.nil ?_ (cv _))
   . rw[ij,<-gB (P:=vm b),List.drop_left];exact bF _
   . rw[gB,bt];exact cv _
 . rw[fY,zF,show eH (fV [])=[]from rfl,bX];rfl
theorem Aw (b:Bool):∀ l nm dI,kB l->nm≠[]->(∀ c∈nm,c≠47)->qC b .tn (tg b nm [] false) (vm b++nm) dI l:=by
 intro l
 induction l with
 | nil=>exact λnm dI y y y=>.nil LP eA (bN _ _)
 | cons z l ih=>
  intro nm dI ha hn h47;have hI:=y6 b (l.length+1) l (bQ _) (gf ha)
  by_cases e1:lw z
  . have hb:=jy (w:=[z]) (λc h=>(bq.mp h)▸e1) (λc h=>ha c ((bq.mp h)▸.head _))
    exact .no (λy=>Jn e1) (hI.bn _ _ _ _ (Bq.more hb.1) (λe=>cD e (nl hb.2 (bN _ _))) nofun)
  by_cases e2:z=62
  . subst e2
    exact .fin (ks:=[]) (ps:=[]) (λy=>Ji) cZ (.cl Bq nofun λe=>cD e (nl h47 hn))
  by_cases e3:z=47
  . subst e3
    exact .no (λy=>Jf) (hI.sc _ _ _ _ (Bq.more (kq rfl)) (λy=>.inl rfl) λy=>Bv)
  . refine .no (λy=>IZ e1 e2 e3) ?_
    rw[bB];exact ih (nm++[z]) dI (gf ha) (iQ hn) (fk h47 (dj e3 cZ))
noncomputable abbrev mS (s:jn) (tok:gF) (P:cF) (dI:Prop) (l:cF) (Q:cF->AV->Prop->Prop):Prop:=
 ∃ p r es d,l=p++r/\i7 s tok p (es++[(0,d)]) (λr'=>r'=r\/r'=[])/\rW es/\Q (P++p) d (dI\/es≠[])
noncomputable abbrev IF (Q:cF->AV->Prop->Prop):Prop:=∀ {p d} {a b:Prop},(a->b)->Q p d a->Q p d b
variable {Q:cF->AV->Prop->Prop}
theorem mS.one (hQ:IF Q) (h:∀ l,dL s tok (z::l) (at' l ks) s' t8 l) (hk:kS ks) (k:mS s' t8 (P++[z]) (dI\/ks≠[]) l Q):mS s tok P dI (z::l) Q:=by
 obtain⟨p,r,es,d,rfl,e,he,q⟩:=k;refine⟨z::p,r,at' p ks++es,d,rfl,by rw[bB];exact i7.one h e,fk (fH hk) he,?_⟩
 rw[bB]at q
 exact hQ (λq=>q.elim (λq=>q.imp id λq=>iQ (rm q)) λq=>.inr (me q)) q
theorem mS.no (h:∀ l,dL s tok (z::l) [] s' t8 l) (k:mS s' t8 (P++[z]) dI l Q):mS s tok P dI (z::l) Q:=by
 obtain⟨p,r,es,d,rfl,e,he,q⟩:=k;refine⟨z::p,r,es,d,rfl,i7.no h e,he,?_⟩
 rw[bB]at q
 exact q
theorem uL (hw:∀ c∈w,u c=true):w.takeWhile u=w/\w.dropWhile u=[]:=by
 induction w with
 | nil=>exact⟨rfl,rfl⟩
 | cons c w ih=>
  have i:=ih λd hd=>hw d (.tail _ hd)
  have hc:=hw c dH
  exact⟨(List.takeWhile_cons_of_pos hc).trans (cB (c::·) i.1),(List.dropWhile_cons_of_pos hc).trans i.2⟩
theorem AZ {r r':cF} (hw:∀ c∈w,u c=true) (e:∀ c l,p++r=c::l->u c=false) (h:r'=r\/r'=[]):(w++(p++r')).takeWhile u=w/\(w++(p++r')).dropWhile u=p++r':=by
 rcases p with _ | ⟨c,p⟩
 . rcases h with rfl | rfl
   . rcases r' with _ | ⟨c,r⟩
     . rw[bX,bX];exact uL hw
     . exact sQ hw (e _ _ rfl)
   . rw[bX,bX];exact uL hw
 . exact sQ hw (e _ _ rfl)
theorem mS.str {f:cF->gF} (h:∀ l,dL s tok (z::l) [] s' (f (l.takeWhile u)) (l.dropWhile u)) (k:mS s' (f (l.takeWhile u)) (P++z::l.takeWhile u) dI (l.dropWhile u) Q):mS s tok P dI (z::l) Q:=by
 obtain⟨p,r,es,d,e0,e,he,q⟩:=k;have hl:l=l.takeWhile u++l.dropWhile u:=List.takeWhile_append_dropWhile.symm
 have hw:∀ c∈l.takeWhile u,u c=true:=λc=>oH
 have hs:∀ c l',p++r=c::l'->u c=false:=λc l' h=>sw (e0.trans h)
 generalize l.takeWhile u=w at*
 refine⟨z::(w++p),r,es,d,by rw[hl,e0];simp,λr' o=>?_,he,by rw[bB]at q;exact q⟩
 have t:=AZ hw hs o
 have h:=h (w++(p++r'))
 rw[t.1,t.2]at h
 have:=h.trans (e r' o)
 rw[List.nil_append]at this
 rwa [bO,bB]
end
end
section
noncomputable def c4:cF:=[60,33,45,45]
noncomputable def j7 (P:cF) (d:AV) (dI:Prop):Prop:=∃ a,d=iN a/\a <:+:P/\(¬ dI->P=c4++a++[45,45,62])
theorem j7.mono:IF j7:=λh ⟨a,e,i,q⟩=>⟨a,e,i,λn=>q λx=>n (h x)⟩
section
variable {P w l a x:cF} {dI:Prop} {z:Nat} {s s':jn} {tok t8:gF} {ks:cG} {d:AV} {Q:cF->AV->Prop->Prop}
theorem mS.fin (h:∀ l,dL s tok (62::l) (at' l (ks++[d])) .data .none l) (hk:kS ks) (q:Q (P++[62]) d (dI\/at' [] ks≠[])):mS s tok P dI (62::l) Q:=
 ⟨[62],l,at' [] ks,d,rfl,λr y=>by
  have:=i7.fin h r trivial
  rwa [show at' [] (ks++[d])=at' [] ks++[(0,d)]from bV]at this,fH hk,q⟩
theorem Rq {rs:cR}:sh 0 rs=rs:=List.map_id rs
theorem mS.nil (h:dL s tok [] (at' [] (ks++[d])) .data .none []) (hk:kS ks) (q:Q P d (dI\/at' [] ks≠[])):mS s tok P dI [] Q:=
 ⟨[],[],at' [] ks,d,rfl,λr o=>by
  obtain rfl:r=[]:=o.elim id id
  rw[show at' [] (ks++[d])=at' [] ks++[(0,d)]from bV]at h
  show dL s tok [] (sh 0 _) .data .none []
  rw[Rq];exact h,fH hk,by rw[bX];exact q⟩
theorem vG {e:AV} {ks:cG}:at' [] (e::ks)≠[]:=bN _ _
theorem j7.err {b:Prop} (h:b) (w:cF):j7 (c4++a++w) (iN a) b:=⟨a,rfl,⟨c4,w,rfl⟩,λn=>cD h n⟩
structure P7 (l:cF):Prop where
 co:∀ a dI,mS .co (.cmt a) (c4++a) dI l j7
 ce:∀ a dI,mS .ce (.cmt a) (c4++a++[45]) dI l j7
 cn:∀ a dI,mS .cn (.cmt a) (c4++a++[45,45]) dI l j7
 cb:∀ a (dI:Prop),dI->mS .cb (.cmt a) (c4++a++[45,45,33]) dI l j7
theorem sM:∀ n l,l.length < n->P7 l
 | 0, _,h=>cD h (Nat.not_lt_zero _)
 | n + 1,l,h=>by
  have ih:∀ l',l'.length < l.length->P7 l':=λl' hl=>sM n l' (tB hl (Nat.le_of_lt_succ h))
  rcases l with _ | ⟨z,l⟩
  . refine⟨λa dI=>?_,λa dI=>.nil (ks:=[eE "eof-in-comment-end-dash"]) LQ eA (.err (.inr vG) _),λa dI=>.nil (ks:=[eE "eof-in-comment-double-dash"]) Lm eA (.err (.inr vG) _),λa dI hb=>.nil (ks:=[eE "eof-in-comment-end-bang-state"]) NY eA (.err (.inl hb) _)⟩
    refine .nil (ks:=[eE "eof-in-comment"]) M6 eA ?_
    have:=j7.err (a:=a) (b:=dI\/at' [] [eE "eof-in-comment"]≠[]) (.inr vG) []
    rwa [bX]at this
  have hI:=ih l jO
  refine⟨λa dI=>?_,λa dI=>?_,λa dI=>?_,λa dI hb=>?_⟩
  . by_cases e:z=45
    . subst e;exact .no (λy=>Lr) (hI.ce a dI)
    . refine .str (f:=λw=>.cmt (a++([z]++w))) (u:=L8) (λy=>Mr e) ?_
      rw[bB];exact(ih (l.dropWhile L8) nz).co (a++([z]++l.takeWhile L8)) dI
  . by_cases e:z=45
    . subst e;refine .no (λy=>MN) ?_
      rw[bB];exact hI.cn a dI
    . refine .no (λy=>Ln e) ?_
      rw[bB,bB];exact hI.co (a++([45]++[z])) dI
  . by_cases e1:z=62
    . subst e1
      exact .fin (ks:=[]) (λy=>Na) cZ ⟨a,rfl,⟨c4,[45,45,62],by rw[bB (c4++a)];rfl⟩,λy=>by rw[bB (c4++a)];rfl⟩
    by_cases e2:z=45
    . subst e2;refine .one j7.mono (λy=>Ni) eA ?_
      rw[show c4++a++[45,45]++[45]=c4++(a++[45])++[45,45]from by simp]
      exact hI.cn (a++[45]) _
    by_cases e3:z=33
    . subst e3;refine .one j7.mono (λy=>Lw) eA ?_
      rw[bB (c4++a)];exact hI.cb a _ (.inr (bN _ _))
    . refine .one j7.mono (λy=>Np e1 e2 e3) eA ?_
      rw[bB,bB];exact hI.co (a++([45,45]++[z])) _
  . by_cases e1:z=62
    . subst e1
      refine .fin (ks:=[]) (λy=>Ov) cZ ?_
      rw[bB (c4++a)];exact .err (.inl hb) _
    by_cases e2:z=45
    . subst e2;refine .no (λy=>OF) ?_
      rw[bB c4];exact hI.ce (a++[45,45,33]) dI
    . refine .no (λy=>Mm e1 e2) ?_
      rw[bB,bB];exact hI.co (a++([45,45,33]++[z])) dI
theorem Id {dI:Prop}:mS .cd (.cmt []) (c4++[45]) dI l j7:=by
 rcases l with _ | ⟨z,l⟩
 . exact .nil (ks:=[eE "eof-in-comment"]) Ny eA (j7.err (a:=[]) (.inr vG) [45])
 have hI:=sM _ l (bQ _)
 by_cases e1:z=45
 . subst e1;exact .no (λy=>ML) (hI.cn [] dI)
 by_cases e2:z=62
 . subst e2;exact .fin (ks:=[eE "incorrect-comment"]) (λy=>NS) eA (j7.err (a:=[]) (.inr vG) [45,62])
 . exact .no (λy=>Nz e1 e2) (hI.co ([]++([45]++[z])) dI)
theorem H8 {dI:Prop}:mS .cs (.cmt []) c4 dI l j7:=by
 rcases l with _ | ⟨z,l⟩
 . exact .nil (ks:=[eE "eof-in-comment"]) OZ eA (j7.err (a:=[]) (.inr vG) [])
 have hI:=sM _ l (bQ _)
 by_cases e1:z=45
 . subst e1;exact .no (λy=>NH) Id
 by_cases e2:z=62
 . subst e2;exact .fin (ks:=[eE "incorrect-comment"]) (λy=>N0) eA (j7.err (a:=[]) (.inr vG) [62])
 . exact .no (λy=>Oq e1 e2) (hI.co ([]++[z]) dI)
end
end
section
section
variable {M:jR} {q q6 q7 q':SS} {c5 c:AV} {r8 R:OL} {ks:cG} {l:cF} {z:Nat} {p:Prop}
theorem R6 (hc:M.To 4 133 [] c q q6) (ai:List eX) (hq:p) (e:autoParam (CO M .mk [] (.av c5) [] R q c q6 ai=Eb M .mk p 1 q' .bog (.av c5) ks [(5,.list [] [])] R) bK):Nx M .mk q c5 R ks .bog .none q':=
 cY.drop (ya (u:=⟨p,1,.av (.bool true),M.dS q' jn.bog.addr (.av c5) ks [(5,.list [] [])],R⟩) ["self"] (M.r []) [.slot 0] (M.dS q jn.mk.addr (.av c5) [] []) R (.cs (.av c) (M.q q6) 4::ai) M.hB (.one (congrFun (Prod.mk.inj (Prod.mk.inj e).1).2)) hq
  (λd o ⟨a,h1,h2⟩=>⟨M.tS q' jn.bog.addr c5 ks R,[(a,.list [])],(h2.trans (cB (λx=>M.tS q' jn.bog.addr c5 x ((a,.list [])::R)) (Lb (M.r [a]) ks)))▸List.Perm.append_left [_,_,_,_,_] (bg (l₁:=[_])),h1,(c5,R),iO,rfl⟩)
  (sE.eq ..) (Prod.mk.inj (Prod.mk.inj e).1).1 (Prod.mk.inj e).2)
theorem Sd (hc:M.To 4 133 [] c q q6) (ai:List eX) (hq:p) (e:autoParam (CO M .mk [] (.av c5) [] R q c q6 ai=Eb M .mk p 2 q' .cs (.slot 6) [] [(5,.list [] [.av (.str [45]),.av (.str [45])]),(6,.dict [("type",.av (.int 6)),("data",.av (.str []))])] R) bK):Nx M .mk q c5 R [] .cs (.cmt []) q':=
 cY.drop (ya (u:=⟨p,2,.av (.bool true),M.dS q' jn.cs.addr (.slot 6) [] [(5,.list [] [.av (.str [45]),.av (.str [45])]),(6,.dict [("type",.av (.int 6)),("data",.av (.str []))])],R⟩) ["self"] (M.r []) [.slot 0] (M.dS q jn.mk.addr (.av c5) [] []) R (.cs (.av c) (M.q q6) 4::ai) M.hB (.one (congrFun (Prod.mk.inj (Prod.mk.inj e).1).2)) hq
  (λd o ⟨c,a,h1,h2⟩=>⟨M.tS q' jn.cs.addr (.ref a) [] ((a,sI [])::R),[(c,.list [.str [45],.str [45]])],h2▸List.Perm.append_left [_,_,_,_,_] (bg (l₁:=[_])),h1,(.ref a,_),xW,rfl⟩)
  (sE.eq ..) (Prod.mk.inj (Prod.mk.inj e).1).1 (Prod.mk.inj e).2)
noncomputable abbrev ry:AV:=eE "expected-dashes-or-doctype"
theorem EG (M:jR) (R:OL) (q:SS) (c5:AV):DS.bel 5 ⟨[("self",some (.slot 0)),("charStack",none),("matched",none),("expected",none)],M.dS q 605 (.av c5) [] [],R⟩=true:=by kernel_rfl
theorem OJ (h1:z≠45) (h2:decide ([z]∈[[100],[68]])=false):dL .mk .none (z::l) (at' (z::l) [ry]) .bog .none (z::l):=
 rU (dR rfl) (cr _) (λy=>ng) λM q q6 q7 c5 r8 n0 hc hu hT=>R6 hc [.br false,.br false,.cs (.av .none) (M.q q7) 1,.br false] (qa (qa (qa (qa (qa (qa (qa (qa (qa (qa (qa (c0 hc) (EG M r8 q6 c5)) (zu 1)) (Mine.ne1 h1)) (zu 1)) h2) iW) (xq 1)) (zu 1)) (λ_:Addr=>hu)) (xq 0)) ff)
theorem MI:dL .mk .none [] (at' [] [ry]) .bog .none []:=
 rE (dR rfl) (cr _) (λy=>ng) λM q q6 c5 r8 hz hc hT=>R6 hc [.cs (.av .none) (M.q q6) 1,.br false] (qa (qa (qa (qa (qa (qa (qa (qa (qa (c0 hc) (EG M r8 q6 c5)) (zu 1)) (zu 1)) iW) (xq 1)) (zu 1)) (λ_:Addr=>CT M q6)) (xq 0)) ff)
theorem LM:dL .mk .none (45::45::l) [] .cs (.cmt []) l:=
 lB (ks:=[]) (bE l.length 2) (by show 0+(2+4*l.length)<=2+4*(l.length+1+1);omega) (by show 0+4*l.length<=0+4*(l.length+1+1);omega) (λy=>cZ) (λM f q c5 r8 y y o hT=>by
  obtain⟨q6,o1,h1,_⟩:=M.S.char o;obtain⟨q7,o2,h2,_⟩:=M.S.char o1;exact⟨q7,o2,Sd h1 [.br true,.cs (.av (.str [45])) (M.q q7) 4,.br true] (qa (qa (qa (qa (qa (qa (qa (c0 h1) (EG M r8 q6 c5)) (zu 1)) tt) (λ_:Addr=>h2)) (xq 1)) (zu 2)) tt)⟩) (by intro y;kernel_rfl)
theorem OY (h:z≠45):dL .mk .none (45::z::l) (at' (45::z::l) [ry]) .bog .none (45::z::l):=
 lB (cv _) (by show 1+(1+_)<=2+_;omega) (cv _) (λy=>ng) (λM f q c5 r8 y y o hT=>by
  have s:=M.S.suf o
  obtain⟨q6,o1,h1,_⟩:=M.S.char o;obtain⟨q7,o2,h2,qb,o3,h3⟩:=M.S.char o1;obtain⟨q8,o4,h4⟩:=M.S.un s o3;exact⟨q8,o4,R6 h1 [.br true,.cs (.av (.str [z])) (M.q q7) 4,.br false,.cs (.av .none) (M.q qb) 1,.cs (.av .none) (M.q q8) 1,.br false] (qa (qa (qa (qa (qa (qa (qa (qa (qa (qa (qa (qa (qa (qa (qa (qa (c0 h1) (EG M r8 q6 c5)) (zu 1)) tt) (λ_:Addr=>h2)) (xq 1)) (zu 2)) (Mine.ne1 h)) iW) (xq 2)) (zu 2)) (λ_:Addr=>h3)) (xq 1)) (zu 1)) (λ_:Addr=>h4)) (xq 0)) ff)⟩) (by intro y;kernel_rfl)
end
end
section
noncomputable def jM (l:cF):Nat:=
 if l=[] then 0 else if l.take 1=[32]\/l.take 1=[10] then 2 else if l.take 1=[60]/\(l.drop 1).take 1∈kX then 3
 else if l.take 2=[60,47]/\(l.drop 2).take 1∈kX then 4 else if l.take 2=[60,33]\/l.take 2=[60,63]\/l.take 2=[60,47]/\l≠[60,47] then 6 else 1
noncomputable def j8:Nat->cF->cF
 | 0,l=>l
 | n+1,l=>if l.take 3=[60,47,62] then j8 n (l.drop 3) else l
noncomputable def eC (l:cF):Nat:=jM (j8 l.length l)
structure FT (b:Bool) (nm:cF) (ps:PL) (sc:Bool) (P:cF) (dI:Prop):Prop where
 op:dI\/vm b++nm <+:P
 ch:∃ m,lI P 1 ((dn nm,[])::ps) m
 ba:dI\/eH P=60::(eH nm++eH (fV ps))
 nd:dI\/(ps.map (·.1)).Nodup
 s1:sc=true->P.getLast? =some 47
 s2:P.getLast? =some 47->sc=true\/dI\/∃ qs x v,ps=qs++[(x,v)]/\v.getLast? =some 47
noncomputable abbrev Q3 (b:Bool) (nm:cF) (ps:PL) (sc:Bool):AV:=if b=true then pN nm (pA ps) sc else lj nm (pA ps) sc
noncomputable abbrev vT (K:Nat) (x:cF):AV:=.dct [("type",.int K),("data",.str x)]
noncomputable def QT (K:Nat) (p:cF) (d:AV) (dI:Prop):Prop:=
 (K=1\/K=2)/\(∃ x,d=vT K x/\x≠[]/\x <:+p/\(¬ dI->p=x))\/K=6/\j7 p d dI\/
  ∃ b nm ps sc P,K=(if b=true then 3 else 4)/\p=P++[62]/\d=Q3 b nm ps sc/\FT b nm ps sc P dI
section
variable {b sc:Bool} {nm P X w l p:cF} {ps:PL} {dI bad':Prop} {z K k m i:Nat} {s s':jn} {tok t8:gF} {ks:cG} {d:AV}
theorem lI.low (c:lI P k ps m) (h:i<=k):lI P i ps m:=by
 rcases c with⟨h',hm⟩ | ⟨h1,hx,h2,hv,c⟩
 . exact .nil (dt h h') hm
 . exact .cons (dt h h1) hx h2 hv c
theorem lI.shift (c:lI P k ps m):lI (X++P) (X.length+k) ps (X.length+m):=by
 induction c with
 | nil h hm=>exact .nil (bo h _) (by rw[bt];omega)
 | @cons k i j m x v r h hx hj hv _ ih=>
  refine .cons (i:=X.length+i) (j:=X.length+j) (by omega) ?_ (by omega) ?_ (by rw[Nat.add_assoc];exact ih)
  . rw[ij,<-gB (P:=X),<-List.drop_drop,List.drop_left];exact hx
  . rw[<-List.drop_drop,List.drop_left];exact hv
theorem FT.of (f:n7 b nm ps sc P dI):FT b nm ps sc P dI:=⟨.inr f.op,f.ch,.inr f.ba,f.nd,f.s1,f.s2⟩
theorem FT.mono (f:FT b nm ps sc P dI) (h:dI->bad'):FT b nm ps sc P bad':=⟨f.op.imp h id,f.ch,f.ba.imp h id,f.nd.imp h id,f.s1,λe=>(f.s2 e).imp id λq=>q.imp h id⟩
theorem QT.mono:IF (QT K):=λh q=>by
 rcases q with⟨k,x,e,hn,hs,hp⟩ | ⟨k,c⟩ | ⟨b,nm,ps,sc,P,k,e,e2,f⟩
 . exact .inl ⟨k,x,e,hn,hs,λn=>hp λq=>n (h q)⟩
 . exact .inr (.inl ⟨k,j7.mono h c⟩)
 . exact .inr (.inr ⟨b,nm,ps,sc,P,k,e,e2,f.mono h⟩)
theorem RQ (h:P≠[]):(X++P).getLast? =P.getLast?:=by
 rw[List.getLast?_append,List.getLast?_eq_some_getLast h];rfl
theorem QT.pre (q:QT K p d dI) (h:bad'):QT K (X++p) d bad':=by
 rcases q with⟨k,x,e,hn,hs,hp⟩ | ⟨k,a,e,i,_⟩ | ⟨b,nm,ps,sc,P,k,rfl,e2,f⟩
 . exact .inl ⟨k,x,e,hn,hs.trans (List.suffix_append _ _),λn=>cD h n⟩
 . exact .inr (.inl ⟨k,a,e,i.trans (List.suffix_append _ _).isInfix,λn=>cD h n⟩)
 . refine .inr (.inr ⟨b,nm,ps,sc,X++P,k,(bB _ _ _).symm,e2,.inl h,?_,.inl h,.inl h,λs=>?_,λy=>.inr (.inl h)⟩)
   . obtain⟨m,c⟩:=f.ch
     exact⟨_,c.shift.low (bY _ _)⟩
   . have:=f.s1 s
     rw[RQ (λe=>by rw[e]at this;exact nomatch this)]
     exact this
noncomputable def uP (s:jn) (tok:gF) (P:cF) (dI:Prop) (l:cF) (K:Nat):Prop:=
 mS s tok P dI l (QT K)\/(∃ es,dL s tok l es .data .none []/\es≠[]/\rW es)/\(K=0\/K=3\/K=4)
theorem uP.no (h:∀ l,dL s tok (z::l) [] s' t8 l) (k:uP s' t8 (P++[z]) dI l K):uP s tok P dI (z::l) K:=
 k.imp (mS.no h) λ⟨⟨es,c,hn,he⟩,hk⟩=>⟨⟨_,(h l).trans c,hn,he⟩,hk⟩
noncomputable def Qz (ps:List (cF×AV)) (sc b:Bool):cG:=if b=true then [] else (if ps.isEmpty=true then [] else [eE "attributes-in-end-tag"])++(if sc=true then [eE "self-closing-flag-on-end-tag"] else [])
theorem DN:dY nm (pA ps) sc b=Qz (pA ps) sc b++[Q3 b nm ps sc]:=by
 rcases b with _ | _
 . exact(bB _ _ _).symm
 . rfl
theorem CB {ps:List (cF×AV)}:kS (Qz ps sc b):=by
 rcases b with _ | _
 . refine fk ?_ ?_
   . split
     . exact cZ
     . exact eA
   . split
     . exact eA
     . exact cZ
 . exact cZ
theorem xC {d:AV}:at' [] (ks++[d])=at' [] ks++[(0,d)]:=bV
theorem uP.tag (r:qC b s tok P dI l):uP s tok P dI l (if b=true then 3 else 4):=by
 rcases r with⟨p,r,es,nm,ps,sc,rfl,e,he,f⟩ | h
 . refine .inl ⟨p++[62],r,es++at' [] (Qz (pA ps) sc b),Q3 b nm ps sc,List.append_cons _ _ _,?_,fk he (fH CB),.inr (.inr ⟨b,nm,ps,sc,P++p,rfl,(bB _ _ _).symm,rfl,(FT.of f).mono λq=>q.imp id iQ⟩)⟩
   rw[DN]at e
   rw[bB,<-xC];exact λr y=>e r trivial
 . exact .inr ⟨h,by rcases b with _ | _<;>decide⟩
end
end
section
section
variable {P X w l p:cF} {dI bad':Prop} {z y K:Nat} {s s':jn} {tok t8:gF} {ks:cG} {d:AV}
theorem qu:∀ m n l,l.length<=m->l.length<=n->j8 m l=j8 n l
 | 0,n,l,h,_=>by
  obtain rfl:=b7 (Nat.le_zero.mp h)
  rcases n with _ | n<;>rfl
 | m+1,0,l,_,h=>by
  obtain rfl:=b7 (Nat.le_zero.mp h)
  rfl
 | m+1,n+1,l,h1,h2=>by
  show(if _ then _ else _)=if _ then _ else _
  split
  . exact qu m n _ (by rw[bP];omega) (by rw[bP];omega)
  . rfl
theorem LB:eC (60::47::62::l)=eC l:=by
 exact cB jM ((cE (show(60::47::62::l).take 3=[60,47,62]from rfl)).trans (qu _ _ _ (by show l.length<=l.length+2;omega) (cv _)))
theorem uo (h:l.take 3≠[60,47,62]):eC l=jM l:=by
 unfold eC
 rcases l with _ | ⟨z,l⟩
 . rfl
 . show jM (if _ then _ else _)= _
   rw[cC h]
theorem R7 (h:z=32\/z=10):eC (z::l)=2:=by
 rcases h with rfl | rfl<;>(rw[uo (by simp)];simp[jM])
theorem Om (h:z≠60) (h1:z≠32) (h2:z≠10):eC (z::l)=1:=by
 rw[uo (by simp[h])]
 unfold jM;simp[h,h1,h2]
theorem My (h:[y]∈kX):eC (60::y::l)=3:=by
 have e:y≠47:=λe=>by subst e;revert h;decide
 rw[uo (by simp[e])]
 simp[jM,h]
theorem O6 (h:[y]∈kX):eC (60::47::y::l)=4:=by
 have e:y≠62:=λe=>by subst e;revert h;decide
 rw[uo (by simp[e])]
 simp[jM,h,show ¬ [47]∈kX by decide]
theorem Qc:eC (60::33::l)=6:=by
 rw[uo (by simp)];simp[jM,show ¬ [33]∈kX by decide]
theorem QE:eC (60::63::l)=6:=by
 rw[uo (by simp)];simp[jM,show ¬ [63]∈kX by decide]
theorem QY (h:[y]∉kX) (h1:y≠62):eC (60::47::y::l)=6:=by
 rw[uo (by simp[h1])]
 simp[jM,h,show ¬ [47]∈kX by decide]
theorem QX (h:[y]∉kX) (h1:y≠33) (h2:y≠63) (h3:y≠47):eC (60::y::l)=1:=by
 rw[uo (by simp[h3])]
 simp[jM,h,h1,h2,h3]
theorem sx (h:z∈Ck):th z↔[z]∈kX:=(show ∀ z∈Ck,th z↔[z]∈kX by decide) z h
theorem Gy:th z->z≠33/\z≠47/\z≠62/\z≠63:=λh=>⟨λe=>by subst e;revert h;decide,λe=>by subst e;revert h;decide,λe=>by subst e;revert h;decide,λe=>by subst e;revert h;decide⟩
theorem QT.txt {x:cF} (hK:K=1\/K=2) (hn:x≠[]):QT K x (vT K x) dI:=.inl ⟨hK,x,rfl,hn,List.suffix_refl _,λy=>rfl⟩
theorem xX {u:Nat->Bool} {f:cF->AV} (h:∀ l,dL .data .none (z::l) (at' (l.dropWhile u) [f (l.takeWhile u)]) .data .none (l.dropWhile u)) (q:QT K (z::l.takeWhile u) (f (l.takeWhile u)) (dI\/([]:cR)≠[])):mS .data .none [] dI (z::l) (QT K):=by
 have hw:∀ c∈l.takeWhile u,u c=true:=λc=>oH
 have e0:l=l.takeWhile u++l.dropWhile u:=List.takeWhile_append_dropWhile.symm
 have hd:∀ c l',l.dropWhile u=c::l'->u c=false:=λc l'=>sw
 generalize l.takeWhile u=w at*
 generalize l.dropWhile u=v at*
 subst e0;refine⟨z::w,v,[],f w,rfl,λr' o=>?_,cZ,q⟩
 have t:=AZ (p:=[]) hw hd o
 have:=h (w++r')
 rw[show w++r'=w++([]++r')from rfl,t.1,t.2]at this
 show dL _ _ _ [(0+r'.length,f w)] _ _ _
 rw[Nat.zero_add];exact this
theorem Ik (h1:y≠33) (h2:y≠47) (h3:¬ th y) (h4:y≠62) (h5:y≠63):mS .data .none [] dI (60::y::l) (QT 1):=by
 refine⟨[60],y::l,at' [] [eE "expected-tag-name"],vT 1 [60],rfl,λr' o=>?_,fH eA,.inl ⟨.inl rfl,[60],rfl,bN _ _,List.suffix_refl _,λx=>rfl⟩⟩
 rw[<-xC,<-qS]
 rcases o with rfl | rfl
 . exact(kD (l:=y::l)).trans (Nf h1 h2 h3 h4 h5)
 . exact(kD (l:=[])).trans G1
theorem mS.txt_nil {tx:cF} (h:dL s tok [] (at' [] (ks++[vT 1 tx])) .data .none []) (hk:kS ks) (hn:tx≠[]) (e:tx=P):mS s tok P dI [] (QT 1):=by
 subst e;exact .nil h hk (.inl ⟨.inl rfl,tx,rfl,hn,List.suffix_refl _,λy=>rfl⟩)
noncomputable def jP:cF->cF
 | []=>[]
 | c::l=>if c=62 then [62] else c::jP l
noncomputable def Bm:cF->cF
 | []=>[]
 | c::l=>if c=62 then l else Bm l
theorem wU:∀ l,l=jP l++Bm l
 | []=>rfl
 | c::l=>by
  show _ =(if _ then _ else _)++if _ then _ else _
  by_cases e:c=62
  . rw[cE e,cE e,e];rfl
  . rw[cC e,cC e];exact cB (c::·) (wU l)
theorem rX (e:z≠62):tf z=true:=by unfold tf;rw[bS (λh=>e (bq.mp h))];rfl
theorem wr:∀ l r',r'=Bm l\/r'=[]->(jP l++r').takeWhile tf=l.takeWhile tf/\((jP l++r').dropWhile tf).tail=r'
 | [],r',o=>by
  obtain rfl:r'=[]:=o.elim id id
  exact⟨rfl,rfl⟩
 | c ::l,r',o=>by
  by_cases e:c=62
  . subst e
    exact⟨rfl,rfl⟩
  . have i:=wr l r' (o.imp (λq=>q.trans (cC e)) id)
    rw[show jP (c::l)=c::jP l from cC e,bO,List.takeWhile_cons_of_pos (rX e),List.takeWhile_cons_of_pos (rX e),List.dropWhile_cons_of_pos (rX e)];exact⟨cB (c::·) i.1,i.2⟩
theorem qq:jP (z::l)=z::(if z=62 then [] else jP l):=by
 show(if _ then _ else _)= _
 by_cases e:z=62
 . rw[cE e,cE e,e]
 . rw[cC e,cC e]
theorem GH:∀ l,l.takeWhile tf <:+:jP l
 | [] =>List.infix_refl _
 | c ::l=>by
  by_cases e:c=62
  . subst e;exact List.nil_infix
  . rw[List.takeWhile_cons_of_pos (rX e),show jP (c::l)=c::jP l from cC e]
    have:l.takeWhile tf <+:jP l:=by
     have:=(wr l [] (.inr rfl)).1
     rw[bX]at this
     rw[<-this];exact List.takeWhile_prefix _
    exact(List.cons_prefix_cons.mpr ⟨rfl,this⟩).isInfix
theorem kt (h:∀ r',dL s tok (jP l++r') (at' (jP l++r') ks) .bog .none (jP l++r')\/r'≠Bm l/\r'≠[]) (hk:kS ks) (hn:ks≠[]):mS s tok P dI l (QT 6):=by
 refine⟨jP l,Bm l,at' (jP l) ks,vT 6 (l.takeWhile tf),wU l,λr' o=>?_,fH hk,.inr (.inl ⟨rfl,_,rfl,(GH l).trans (List.suffix_append _ _).isInfix,λn=>cD (.inr (rm hn)) n⟩)⟩
 have h:=(h r').resolve_right λq=>o.elim q.1 q.2
 have t:=wr l r' o
 have b:=Nl (l:=jP l++r')
 rw[t.1,t.2]at b
 rw[pV,<-qS];refine h.trans ?_
 show dL _ _ _ [(0+r'.length,_)] _ _ _
 rw[Nat.zero_add];exact b
theorem K6 (ha:kB l) (hs:l≠[45]):mS .mk .none [60,33] dI l (QT 6):=by
 rcases l with _ | ⟨z,l⟩
 . refine kt (ks:=[ry]) (λr'=>?_) eA (bN _ _)
   rcases r' with _ | _
   . exact .inl MI
   . exact .inr ⟨bN _ _,bN _ _⟩
 by_cases e:z=45
 . subst e
   rcases l with _ | ⟨y,l⟩
   . exact cD rfl hs
   by_cases e2:y=45
   . subst e2
     obtain⟨p,r,es,d,e0,e,he,q⟩:=H8 (l:=l) (dI:=dI)
     refine⟨45::45::p,r,es,d,by rw[e0];rfl,λr' o=>?_,he,.inr (.inl ⟨rfl,q⟩)⟩
     exact(LM (l:=p++r')).trans (e r' o)
   . refine kt (ks:=[ry]) (λr'=>.inl ?_) eA (bN _ _)
     rw[qq,cC (by decide),qq];exact OY e2
 . refine kt (ks:=[ry]) (λr'=>.inl ?_) eA (bN _ _)
   rw[qq];exact OJ e ((show ∀ z∈Ck,decide ([z]∈[[100],[68]])=false by decide) z (ha z dH))
theorem RM:∀ n l,l.length < n->kB l->l≠[]->¬ [60,33,45] <:+l->uP .data .none [] False l (eC l)
 | 0, _, h,_,_,_=>cD h (Nat.not_lt_zero _)
 | n + 1,[],_,_,h,_=>cD rfl h
 | n + 1,z::l,h,ha,_,hs=>by
  have az:=ha z dH
  by_cases e1:lw z
  . rw[R7 (wH az e1)]
    exact .inl (xX (u:=td) (f:=λw=>vT 2 (z::w)) (λv=>Mn e1) (.txt (.inr rfl) (bN _ _)))
  by_cases e2:z≠60
  . rw[Om e2 (λe=>e1 (e▸(by decide))) (λe=>e1 (e▸(by decide)))]
    exact .inl (xX (u:=NZ) (f:=λw=>vT 1 (z::w)) (λv=>Og e2 e1) (.txt (.inl rfl) (bN _ _)))
  obtain rfl:=Decidable.not_not.mp e2
  rcases l with _ | ⟨y,l⟩
  . exact .inl (.no (λv=>kD) (.txt_nil (ks:=[eE "expected-tag-name"]) G1 eA (bN _ _) rfl))
  have ay:=ha y iL
  have ha':=gf (gf ha)
  by_cases e3:th y
  . rw[My ((sx ay).mp e3)]
    exact .no (λv=>kD) (.no (λv=>Nr e3) (uP.tag (b:=true) (Aw true l [y] False ha' (bN _ _) (dj (Gy e3).2.1 cZ))))
  by_cases e4:y=33
  . subst e4
    rw[Qc];exact .inl (.no (λv=>kD) (.no (λv=>Nw) (K6 ha' λe=>hs (e▸List.suffix_refl _))))
  by_cases e5:y=63
  . subst e5
    rw[QE];refine .inl (.no (λv=>kD) (kt (ks:=[eE "expected-tag-name-but-got-question-mark"]) (λr'=>.inl ?_) eA (bN _ _)))
    rw[qq];exact Nm
  by_cases e6:y=47
  . subst e6
    rcases l with _ | ⟨x,l⟩
    . exact .inl (.no (λv=>kD) (.no (λv=>xK) (.txt_nil (ks:=[eE "expected-closing-tag-but-got-eof"]) O8 eA (bN _ _) rfl)))
    have ax:=ha' x dH
    by_cases e7:x=62
    . subst e7
      rw[LB];have st:∀ l,dL .data .none (60::47::62::l) (at' l [eE "expected-closing-tag-but-got-right-bracket"]) .data .none l:=λl=>(kD.trans xK).trans NB
      rcases l with _ | ⟨c,l⟩
      . exact .inr ⟨⟨_,st [],bN _ _,fH eA⟩,.inl rfl⟩
      rcases RM n (c::l) (by have:(60::47::62::c::l).length=(c::l).length+3:=rfl;omega) (gf ha') (bN _ _) (λq=>hs (q.trans ⟨[60,47,62],rfl⟩))with⟨p,r,es,d,e0,e,he,q⟩ | ⟨⟨es,c1,hn,he⟩,hK⟩
      . refine .inl ⟨60::47::62::p,r,at' p [eE "expected-closing-tag-but-got-right-bracket"]++es,d,by rw[e0];rfl,λr' o=>?_,fk (fH eA) he,q.pre (X:=[60,47,62]) (.inr (bN _ _))⟩
        rw[bB,pV,<-qS];exact(st (p++r')).trans (e r' o)
      . exact .inr ⟨⟨_,(st _).trans c1,bN _ _,fk (fH eA) he⟩,hK⟩
    by_cases e8:th x
    . rw[O6 ((sx ax).mp e8)]
      exact .no (λv=>kD) (.no (λv=>xK) (.no (λv=>MG e8) (uP.tag (b:=false) (Aw false l [x] False (gf ha') (bN _ _) (dj (Gy e8).2.1 cZ)))))
    . rw[QY (λe=>e8 ((sx ax).mpr e)) e7]
      refine .inl (.no (λv=>kD) (.no (λv=>xK) (kt (ks:=[NN x]) (λr'=>.inl ?_) (dj ⟨_,rfl⟩ cZ) (bN _ _))))
      rw[qq];exact P9 e8 e7
  rw[QX (λe=>e3 ((sx ay).mpr e)) e4 e5 e6]
  by_cases e7:y=62
  . subst e7
    exact .inl (.no (λv=>kD) (.fin (ks:=[eE "expected-tag-name-but-got-right-bracket"]) (λv=>Oi) eA (.txt (x:=[60,62]) (.inl rfl) (bN _ _))))
  . exact .inl (Ik e4 e6 e3 e7 e5)
end
end
section
structure Qh (l:cF):Prop where
 al:kB l
 no:¬ [60,33,45] <:+l
structure Pc (K:Nat) (p:cF) (es:cR) (d:AV):Prop where
 alone:dL .data .none p (es++[(0,d)]) .data .none []
 er:rW es
 q:QT K p d (es≠[])
inductive vW:cF->cR->Prop
 | nil:vW [] []
 | last {l:cF} {es:cR} (hl:l≠[]) (c:dL .data .none l es .data .none []) (hn:es≠[]) (he:rW es) (hk:eC l=0\/eC l=3\/eC l=4):vW l es
 | seg {p r:cF} {es rs:cR} {d:AV} (hp:p≠[]) (c:Pc (eC (p++r)) p es d) (k:vW r rs):vW (p++r) (sh r.length (es++[(0,d)])++rs)
theorem LX:∀ n l,l.length < n->Qh l->∃ rs,vW l rs/\dL .data .none l rs .data .none []
 | 0, _,h,_=>cD h (Nat.not_lt_zero _)
 | n +1,l,h,t=>by
  by_cases hl:l=[]
  . subst hl;exact⟨[],.nil,.refl⟩
  rcases RM _ l (bQ _) t.al hl t.no with⟨p,r,es,d,e0,e,he,q⟩ | ⟨⟨es,c,hn,he⟩,hK⟩
  . have hp:p≠[]:=by
     rintro rfl;have:=(e [] (.inr rfl)).len
     rw[bZ,bt]at this
     exact cD this (by show ¬ es.length+1+(0+4*0)<=0+4*0;omega)
    have hr:r.length < l.length:=by
     have:=cB List.length e0
     rw[bt]at this
     have:=List.length_pos_iff.mpr hp
     omega
    obtain⟨rs,k,c⟩:=LX n r (by omega) ⟨λz hz=>t.al z (e0▸bT.mpr (.inr hz)),λs=>t.no (s.trans (e0▸List.suffix_append _ _))⟩
    have a:=e [] (.inr rfl)
    rw[bX]at a
    have a:dL .data .none p (sh 0 _) .data .none []:=a
    rw[Rq]at a
    subst e0;exact⟨_,.seg hp ⟨a,he,q.mono λq=>q.elim False.elim id⟩ k,(e r (.inl rfl)).trans c⟩
  . exact⟨es,.last hl c hn he hK,c⟩
inductive LI:cF->cR->cR->Prop
 | nil:LI [] [] []
 | last {l:cF} {e1 e2:cR} (hl:l≠[]) (c:dL .data .none l (e1++e2) .data .none []) (hn:e1++e2≠[]) (he:rW (e1++e2)) (hk:eC l=0\/eC l=3\/eC l=4):LI l e1 e2
 | seg {p r:cF} {e1 e2 rs:cR} {d:AV} (hp:p≠[]) (c:Pc (eC (p++r)) p (e1++e2) d) (k:vW r rs):LI (p++r) (sh r.length e1) (sh r.length (e2++[(0,d)])++rs)
theorem LI.of {l:cF} {rs:cR} (k:vW l rs):LI l [] rs:=by
 rcases k with _ | ⟨hl,c,hn,he,hk⟩ | ⟨hp,c,k⟩
 . exact .nil
 . exact .last (e1:=[]) hl c hn he hk
 . exact .seg (e1:=[]) hp c k
theorem LI.next {l:cF} {G rr:cR} {x:Nat×AV} (k:LI l G (x::rr)):(Pf x.2/\LI l (G++[x]) rr)\/∃ p r es d,l=p++r/\p≠[]/\G=sh r.length es/\x=(r.length,d)/\Pc (eC l) p es d/\LI r [] rr:=by
 generalize hy:x::rr=y at k
 rcases k with _ | ⟨hl,c,hn,he,hk⟩ | @⟨p,r,e1,e2,rs,d,hp,c,k⟩
 . exact nomatch hy
 . subst hy
   refine .inl ⟨he x (bT.mpr (.inr dH)),?_⟩
   rw[List.append_cons]at c hn he
   exact .last hl c hn he hk
 . rcases e2 with _ | ⟨e,e2⟩
   . obtain⟨rfl,rfl⟩:=List.cons.inj hy
     rw[bX]at c
     exact .inr ⟨p,r,e1,d,rfl,hp,rfl,by show(0+r.length,d)= _;rw[Nat.zero_add],c,.of k⟩
   . obtain⟨rfl,rfl⟩:=List.cons.inj hy
     refine .inl ⟨c.er e (bT.mpr (.inr dH)),?_⟩
     rw[List.append_cons]at c
     have:=LI.seg hp c k
     rwa [pV]at this
theorem LI.stop {l:cF} {G:cR} (k:LI l G []):(l=[]/\G=[])\/l≠[]/\dL .data .none l G .data .none []/\G≠[]/\rW G/\(eC l=0\/eC l=3\/eC l=4):=by
 generalize hy:([]:cR)=y at k
 rcases k with _ | ⟨hl,c,hn,he,hk⟩ | @⟨p,r,e1,e2,rs,d,hp,c,k⟩
 . exact .inl ⟨rfl,rfl⟩
 . subst hy
   rw[bX]at c hn he
   exact .inr ⟨hl,c,hn,he,hk⟩
 . rcases e2 with _ | _<;>exact nomatch hy
end
section
noncomputable def mj (t x:cF):Nat->Nat->Nat
 | 0,k=>k
 | n+1,k=>if k<=t.length/\(t.drop k).take x.length≠x then mj t x n (k+1) else k
noncomputable def gO (t:cF) (k:Nat) (x:cF):Nat:=mj t x (t.length+1 - k) k+x.length
section
variable {t x v P w:cF} {k i j m n:Nat} {ps qs:PL}
theorem uH:∀ n k,k<=i->x <+:t.drop i->mj t x n k<=i
 | 0,k,h,_=>h
 | n +1,k,h,hx=>by
  show(if _ then _ else _)<=i
  split
  . rename_i q
    rcases Nat.lt_or_eq_of_le h with h | rfl
    . exact uH n (k+1) h hx
    . exact cD (List.prefix_iff_eq_take.mp hx).symm q.2
  . exact h
theorem xB (h:k<=i) (hx:x <+:t.drop i):gO t k x<=i+x.length:=bk (uH _ _ h hx) _
theorem zg:mj t [] n k=k:=by
 rcases n with _ | n
 . rfl
 . exact cC λq=>q.2 rfl
theorem BH:gO t k []=k:=zg
noncomputable def oF (t u:cF) (k:Nat) (ps:PL):Nat:=ps.foldl (λk p=>gO u (gO t k p.1) p.2) k
theorem E6 (c:lI P k ps m):∀ i,i<=k->oF (dn P) P i ps<=m:=by
 induction c with
 | nil h _=>exact λi hi=>dt hi h
 | cons h hx hj hv _ ih=>
  intro i hi;exact ih _ (xB (dt (xB (dt hi h) hx) hj) hv)
theorem lI.sub (c:lI P k ps m):∀ qs,List.Sublist qs ps->lI P k qs m:=by
 induction c with
 | nil h hm=>exact λqs s=>by rw[List.sublist_nil.mp s];exact .nil h hm
 | @cons k i j m x v r h hx hj hv c ih=>
  intro qs s
  cases s with
  | cons _ s=>exact(ih _ s).low (by omega)
  | cons_cons _ s=>exact .cons h hx hj hv (ih _ s)
end
end
section
noncomputable def kT (l:FL) (p:cF×AV):FL:=if (ew (S p.1) l).isSome=true then l else fT (S p.1) p.2 l
section
variable {x k:Str} {d:AV} {l l':FL} {ps:List (cF×AV)}
theorem pJ:(ew x l).isSome=true↔x∈l.map (·.1):=by
 unfold ew;rw[Option.isSome_map,List.find?_isSome,cg];exact⟨λ⟨p,h1,h2⟩=>⟨p,h1,cz h2⟩,λ⟨p,h1,h2⟩=>⟨p,h1,beq_iff_eq.mpr h2⟩⟩
theorem oD:ew x (fT k d l)=if (k==x)=true then some d else ew x l:=by
 induction l with
 | nil =>
  by_cases h:(k==x)=true
  . rw[cE h];obtain rfl:=cz h;exact ip k d []
  . rw[cC h];exact fZ d [] h
 | cons p l ih=>
  obtain⟨y,e⟩:=p;rw[fR]
  by_cases hy:(y==k)=true
  . rw[cE hy]
    obtain rfl:=cz hy
    by_cases h:(y==x)=true
    . rw[cE h];obtain rfl:=cz h;exact ip y d l
    . rw[cC h,fZ d l h,fZ e l h]
  . rw[cC hy]
    by_cases h:(y==x)=true
    . obtain rfl:=cz h
      rw[cC λq=>hy (beq_iff_eq.mpr (cz q).symm),ip,ip]
    . rw[fZ e _ h,ih,fZ e l h]
theorem vO (h:(ew x l).isSome=true):(fT x d l).map (·.1)=l.map (·.1):=by
 induction l with
 | nil=>exact nomatch h
 | cons p l ih=>
  obtain⟨y,e⟩:=p;rw[fR]
  by_cases hy:(y==x)=true
  . rw[cE hy];obtain rfl:=cz hy;rfl
  . rw[cC hy]
    rw[fZ e l hy]at h
    rw[cf,cf,ih h]
theorem oz (h:¬ (ew x l).isSome=true):fT x d l=l++[(x,d)]:=by
 induction l with
 | nil=>rfl
 | cons p l ih=>
  obtain⟨y,e⟩:=p;rw[fR]
  by_cases hy:(y==x)=true
  . obtain rfl:=cz hy;exact cD (by rw[ip];rfl) h
  . rw[cC hy]
    rw[fZ e l hy]at h
    rw[ih h,bO]
theorem kn (e:l.map (·.1)=l'.map (·.1)):((ew x l).isSome=true↔(ew x l').isSome=true):=by rw[pJ,pJ,e]
theorem zh (p:cF×AV) (e:l.map (·.1)=l'.map (·.1)):(gw l p).map (·.1)=(kT l' p).map (·.1):=by
 unfold kT
 by_cases h:(ew (S p.1) l').isSome=true
 . rw[cE h,vO ((kn e).mpr h),e]
 . rw[cC h,oz h]
   show(fT (S p.1) p.2 l).map (·.1)= _
   rw[oz λq=>h ((kn e).mp q),bV,bV,e]
theorem zS:∀ {l l':FL},l.map (·.1)=l'.map (·.1)->(ps.foldl gw l).map (·.1)=(ps.foldl kT l').map (·.1):=by
 induction ps with
 | nil=>exact λe=>e
 | cons p r ih=>exact λe=>ih (zh p e)
theorem yX:∀ {l:FL},(∀ p∈ps,(ew (S p.1) l).isSome=true)->(ps.foldl gw l).map (·.1)=l.map (·.1):=by
 induction ps with
 | nil=>exact λy=>rfl
 | cons p r ih=>
  intro l h;have e:=vO (d:=p.2) (h p dH)
  exact(ih λq hq=>(kn e).mpr (h q (.tail _ hq))).trans e
theorem rZ:∀ {l:FL},ew x (ps.foldl kT l)=(ew x l).or ((ps.find? λp=>S p.1==x).map (·.2)):=by
 induction ps with
 | nil =>exact λ{l}=>(Option.or_none (o:=ew x l)).symm
 | cons p r ih=>
  intro l;rw[List.foldl_cons,ih,List.find?_cons];unfold kT
  by_cases q:(S p.1==x)=true
  . obtain rfl:=cz q
    rw[q]
    by_cases h:(ew (S p.1) l).isSome=true
    . rw[cE h]
      obtain⟨v,hv⟩:=Option.isSome_iff_exists.mp h;rw[hv];rfl
    . rw[cC h,oD,cE q,Option.not_isSome_iff_eq_none.mp h];rfl
  . rw[bA.mpr q]
    by_cases h:(ew (S p.1) l).isSome=true
    . rw[cE h]
    . rw[cC h,oD,cC q]
theorem Fw:ew x (ps.reverse.foldl gw l)=((ps.find? λp=>S p.1==x).map (·.2)).or (ew x l):=by
 induction ps with
 | nil=>rfl
 | cons p r ih=>
  rw[List.reverse_cons,List.foldl_append,List.foldl_cons,List.foldl_nil,oD,ih,List.find?_cons]
  by_cases q:(S p.1==x)=true
  . rw[cE q,q];rfl
  . rw[cC q,bA.mpr q]
theorem H6 (e:l.map (·.1)=l'.map (·.1)) (nd:(l.map (·.1)).Nodup) (h:∀ x,ew x l=ew x l'):l=l':=by
 have hl:l.length=l'.length:=by have:=cB List.length e;rwa [bZ,bZ]at this
 refine List.ext_getElem hl λi h1 h2=>?_
 have k:l[i].1=l'[i].1:=by
  have:=cB (λz=>z[i]?) e
  simpa [h1,h2]using this
 have a:=jr nd (List.getElem_mem h1)
 have b:=jr (e▸nd) (List.getElem_mem h2)
 rw[h,k,b]at a
 exact Prod.ext k (Option.some.inj a).symm
theorem Cb:∀ {l:FL},(l.map (·.1)).Nodup->((ps.foldl kT l).map (·.1)).Nodup:=by
 induction ps with
 | nil=>exact λh=>h
 | cons p r ih=>
  intro l h;refine ih ?_
  unfold kT
  by_cases q:(ew (S p.1) l).isSome=true
  . rw[cE q];exact h
  . rw[cC q];exact kN h
theorem Dl:∀ {l:FL},l.length+ps.length<=(ps.foldl gw l).length->ps.foldl gw l=ps.foldl kT l:=by
 induction ps with
 | nil=>exact λy=>rfl
 | cons p r ih=>
  intro l h;rw[List.foldl_cons]at h |-
  have h2:=rz r (gw l p)
  have h3:=pU (x:=S p.1) (d:=p.2) (l:=l)
  rw[bL]at h
  have q:¬ (ew (S p.1) l).isSome=true:=λq=>by
   have:=cB List.length (vO (d:=p.2) q)
   rw[bZ,bZ]at this
   have h4:(gw l p).length=l.length:=this
   omega
  have e:kT l p=gw l p:=cC q
  have h5:(gw l p).length=l.length+1:=by
   show(fT (S p.1) p.2 l).length= _
   rw[oz q,bt];rfl
  rw[List.foldl_cons,e];exact ih (by omega)
theorem oY:ld ps=ps.foldl kT []:=by
 unfold ld
 by_cases h:(ps.foldl gw []).length < ps.length
 . rw[cE h]
   have e0:=zS (ps:=ps) (l:=[]) (l':=[]) rfl
   have hs:∀ p∈ps,(ew (S p.1) (ps.foldl gw [])).isSome=true:=λp hp=>(kn e0).mpr (by
    rw[rZ];show Option.isSome (Option.map _ _)=true
    rw[Option.isSome_map,List.find?_isSome];exact⟨p,hp,bM _⟩)
   have e1:=yX (ps:=ps.reverse) (l:=ps.foldl gw []) λp hp=>hs p (List.mem_reverse.mp hp)
   refine H6 (e1.trans e0) (e1.trans e0▸Cb List.nodup_nil) λx=>?_
   rw[Fw,rZ];show _ =Option.map _ _
   induction hf:(ps.find? λp=>S p.1==x).map (·.2)using Option.casesOn with
   | some v=>rfl
   | none=>
    have:ew x (ps.foldl kT [])=none:=by rw[rZ];exact hf
    show ew x _ =none
    rw[<-Option.not_isSome_iff_eq_none,kn e0,this];exact bw
 . rw[cC h]
   exact Dl (by rw[List.length_nil];omega)
end
noncomputable def zf (a:PL) (p:cF×cF):PL:=if p.1∈a.map (·.1) then a else a++[p]
noncomputable abbrev pF (ps:PL):FL:=ps.map λp=>(S p.1,.str p.2)
noncomputable abbrev Rc (ps:PL):PL:=ps.foldl zf []
theorem BK {a:PL} {x:cF}:(ew (S x) (pF a)).isSome=true↔x∈a.map (·.1):=by
 rw[pJ,List.map_map];constructor
 . intro h
   obtain⟨p,hp,e⟩:=cg.mp h;exact cg.mpr ⟨p,hp,Gv.mp e⟩
 . intro h
   obtain⟨p,hp,e⟩:=cg.mp h;exact cg.mpr ⟨p,hp,cB S e⟩
theorem KC:∀ (ps a:PL),(pA ps).foldl kT (pF a)=pF (ps.foldl zf a):=by
 intro ps
 induction ps with
 | nil=>exact λy=>rfl
 | cons p r ih=>
  intro a;have e:kT (pF a) (p.1,.str p.2)=pF (zf a p):=by
   unfold kT zf
   by_cases h:p.1∈a.map (·.1)
   . rw[cE (BK.mpr h),cE h]
   . rw[cC (λq=>h (BK.mp q)),cC h,oz (λq=>h (BK.mp q))]
     show _ =List.map _ _
     rw[bV];rfl
  show(pA r).foldl kT (kT (pF a) (p.1,.str p.2))= _
  rw[e];exact ih _
theorem xh {ps:PL}:ld (pA ps)=pF (Rc ps):=oY.trans (KC ps [])
theorem C0:∀ (ps a:PL),List.Sublist (ps.foldl zf a) (a++ps):=by
 intro ps
 induction ps with
 | nil=>exact λa=>by rw[bX];exact List.Sublist.refl _
 | cons p r ih=>
  intro a;show List.Sublist (r.foldl zf (zf a p)) _
  by_cases h:p.1∈a.map (·.1)
  . rw[show zf a p=a from cE h]
    exact(ih a).trans (List.Sublist.append_left (List.sublist_cons_self _ _) _)
  . rw[show zf a p=a++[p]from cC h,List.append_cons a p r];exact ih _
theorem KZ:∀ (ps a:PL),((a++ps).map (·.1)).Nodup->ps.foldl zf a=a++ps:=by
 intro ps
 induction ps with
 | nil=>exact λa y=>(bX a).symm
 | cons p r ih=>
  intro a h;show r.foldl zf (zf a p)= _
  have q:p.1∉a.map (·.1):=λq=>by
   rw[bV]at h
   exact(bx.mp h).2.2 _ q _ dH rfl
  rw[show zf a p=a++[p]from cC q,List.append_cons a p r]
  exact ih _ (by rw[<-List.append_cons];exact h)
end
section
structure wQ (p op nm:cF) (sc cl:Bool) (ps:PL):Prop where
 t1:cl=true->(dn p).take (op++nm).length=op++nm
 t2:cl=true->eH p=eH ([60]++nm++fV ps++[62])
 t3:¬ (sc≠decide (p.drop (p.length - 2)=[47,62])/\(decide (p.drop (p.length - 2)=[47,62])=false\/cl=true/\∀ qs x v,ps=qs++[(x,v)]->v.getLast?≠some 47))
 t4:oF (dn p) p (gO (dn p) 1 nm) ps < p.length
 t5:p.drop (p.length - 1)=[62]
section
variable {b sc cl:Bool} {nm P:cF} {ps qs:PL} {dI:Prop}
theorem Fq:dn (vm b)=vm b:=by rcases b with _ | _<;>rfl
theorem FU:(P++[62]).drop ((P++[62]).length - 2)=[47,62]↔P.getLast? =some 47:=by
 rw[bt];show(P++[62]).drop (P.length+1 - 2)= _↔_
 rcases List.eq_nil_or_concat P with rfl | ⟨Q,z,rfl⟩
 . exact⟨(λh=>nomatch h),(λh=>nomatch h)⟩
 . rw[List.concat_eq_append,List.getLast?_concat,bt,show Q.length+[z].length+1 - 2=Q.length from by simp,bB,List.drop_left]
   constructor
   . intro h;obtain⟨rfl,-⟩:=List.cons.inj h;rfl
   . intro h;obtain rfl:=Option.some.inj h;rfl
theorem Ci (f:FT b nm ps sc P dI) (hc:cl=true->¬ dI) (hs:List.Sublist qs ps) (hq:cl=true->qs=ps):wQ (P++[62]) (vm b) (dn nm) sc cl qs:=by
 refine⟨λc=>?_,λc=>?_,?_,?_,?_⟩
 . have o:=f.op.resolve_left (hc c)
   have :vm b++dn nm <+:dn (P++[62]):=by
    rw[ij,<-Fq (b:=b),<-ij];exact(o.map gJ).trans (bu _ _)
   exact(List.prefix_iff_eq_take.mp this).symm
 . have o:=f.ba.resolve_left (hc c)
   rw[hq c,fY,o,fY,fY,fY,tF];simp[show eH [60]=[60]from rfl]
 . rintro ⟨h1,h2⟩
   by_cases e:P.getLast? =some 47
   . rw[cc (FU.mpr e)]at h1 h2
     have s:=bA.mpr h1
     subst s
     rcases h2 with h | ⟨c,h⟩
     . exact nomatch h
     . rcases f.s2 e with q | q | ⟨as,x,v,q,hv⟩
       . exact nomatch q
       . exact hc c q
       . exact h as x v ((hq c).trans q) hv
   . rw[bS (λq=>e (FU.mp q))]at h1
     have s:sc=true:=by rcases sc with _ | _<;>first | rfl | exact cD rfl h1
     exact e (f.s1 s)
 . obtain⟨m,c⟩:=f.ch
   have:=c.le
   have c2:=(c.app (w:=[62])).sub ((dn nm,[])::qs) (hs.cons_cons _)
   have:=E6 c2 1 (cv _)
   rw[show oF (dn (P++[62])) (P++[62]) 1 ((dn nm,[])::qs)=oF (dn (P++[62])) (P++[62]) (gO (P++[62]) (gO (dn (P++[62])) 1 (dn nm)) []) qs from rfl,BH]at this
   rw[bt];show _ < P.length+1
   omega
 . rw[bt]
   show(P++[62]).drop (P.length+1 - 1)= _
   rw[Nat.add_sub_cancel,List.drop_left]
end
end
section
section
variable {t x T:cF} {k j m n:Nat}
noncomputable abbrev Jz (t x:cF) (j:Nat):Prop:=j<=t.length/\(t.drop j).take x.length≠x
theorem qm:∀ n k,k<=mj t x n k
 | 0,k=>cv _
 | n+1,k=>by
  show k<=if _ then _ else _
  split
  . exact dt (Nat.le_succ k) (qm n (k+1))
  . exact cv _
theorem uj:∀ n k,k<=j->j < mj t x n k->Jz t x j
 | 0,k,h,q=>cD q (Nat.not_lt_of_le h)
 | n +1,k,h,q=>by
  replace q:j < (if k<=t.length/\(t.drop k).take x.length≠x then mj t x n (k+1) else k):=q
  split at q
  . rename_i g
    rcases Nat.lt_or_eq_of_le h with h | rfl
    . exact uj n (k+1) h q
    . exact g
  . exact cD q (Nat.not_lt_of_le h)
theorem qK:∀ n k,t.length < n+k->¬ Jz t x (mj t x n k)
 | 0,k,h=>λg=>cD g.1 (by show ¬ k<=t.length;omega)
 | n+1,k,h=>by
  show ¬ Jz t x (if _ then _ else _)
  split
  . exact qK n (k+1) (by omega)
  . assumption
theorem Ak (h:j<=T.length):sl T (some (j:Int)) (some ((j:Int)+m))=(T.drop j).take m:=by
 rw[lu,eK h,show(j:Int)+m=((j+m:Nat):Int)from rfl]
 by_cases e:j+m<=T.length
 . rw[eK e,List.drop_take,Nat.add_sub_cancel_left]
 . rw[iJ (by omega),bG,List.take_of_length_le (by rw[bP];omega)]
end
end
section
section
variable {B:cX} {st dx tx t7 er:Addr} {T l:cF} {k i:Nat} {q:SS} {r8:OL}
theorem C7 (hB:f7 B) (h:gz T) (h0:T≠[]):Reads B st dx tx t7 er T true xb (zy T 0):=λr8=>by
 have hl:T.length<=10240:=dt h.len (by decide)
 have hD:=zR hl
 refine xr (vN h.no13) ?_;rintro n1 n2 n3
 obtain⟨z,hz⟩:∃ z,zc T (-1)=some z:=by
  unfold zc;have hp:0 < T.length:=List.length_pos_iff.mpr h0
  rw[StrLaws.seqIndex_neg (by exact bp _) (by omega)];exact⟨_,b9 (by omega)⟩
 have hzm:z∈T:=by
  unfold zc at hz;refine dQ (Option.bind_eq_some_iff.mp hz) ?_;rintro i y e
  exact List.mem_of_getElem? e
 refine cY.mono (CA (c:=[]) (sz:=0) (og:=0) (pl:=0) (pc:=0) (p:=0) (es:=[]) (D:=T) (lv:=if T.length<=1 then none else some (.int z)) hB h.size hD h0 ?_ (dt h.len (by decide)) (dt (cq (Nat.zero_add _)) h.size) (by rw[n2];exact dt h.len (by decide)) (by rw[n2,n3];exact dt h.len (by decide))) λd o e=>⟨e.1,e.2.trans ?_⟩
 . by_cases q:T.length<=1
   . exact .inl ⟨q,cE q⟩
   . exact .inr ⟨Nat.lt_of_not_le q,z,hz,cC q,λe=>h.no13 (e▸hzm),(h.fine z hzm).2.2⟩
 . rw[n1,h.bads]
   have e1:fO 10 [] (0:Int)=0:=ir (l:=[]) (i:=0) (cv _)
   have e2:jj 0 [] (0:Int)=0:=jd (l:=[]) (i:=0) (cv _)
   rw[e1,e2];simp
theorem xf (hB:f7 B) (h:gz T) (j:Nat):Reads B st dx tx t7 er T false (zy T j) (pD T):=λr8=>by
 refine cY.mono (xc (c:=T) (sz:=T.length) (og:=j) (pl:=0) (pc:=0) (p:=T.length) (es:=[]) hB h.size (wO (Int.le_refl _))) λd o e=>⟨e.1,e.2.trans ?_⟩
 rw[ir (cv _),jd (cv _),bG];simp
theorem wR (hB:f7 B) (h:gz T):Reads B st dx tx t7 er T false (pD T) (pD T):=λr8=>by
 refine cY.mono (xc (c:=[]) (sz:=0) (og:=0) (pl:=(T.count 10:Nat)) (pc:=fM 0 T) (p:=T.length) (es:=[]) hB h.size (wO (Int.le_refl _))) λd o e=>⟨e.1,e.2.trans ?_⟩
 have e1:fO 10 [] (0:Int)=0:=ir (l:=[]) (i:=0) (cv _)
 have e2:jj (fM 0 T) [] (0:Int)=fM 0 T:=jd (l:=[]) (i:=0) (cv _)
 rw[e1,e2];simp
inductive On (T:cF):Nat->SS->Prop
 | here {k:Nat}:k<=T.length->On T k (zy T k)
 | past:On T T.length (pD T)
theorem D4 (hB:f7 B) (h:gz T) (o:On T k q) (hk:k < T.length):dW B st dx tx t7 er T 4 133 [] (.str [T[k]]) q (zy T (k+1)):=λr8=>by
 cases o with
 | here _=>exact vX (c:=T) hB hk h.size
 | past=>exact cD hk (Nat.lt_irrefl _)
theorem tX (hB:f7 B) (h:gz T) (o:On T T.length q):dW B st dx tx t7 er T 4 133 [] .none q (pD T):=λr8=>by
 have kc:∀ {k q},On T k q->k=T.length->cY B 4 133 [.ref st] (oS st dx tx t7 er T q r8) λd o=>d=.none/\o=oS st dx tx t7 er T (pD T) r8:=by
  intro k q o hk
  cases o with
  | here _=>subst hk;exact ro hB (Int.le_refl _) (xf hB h T.length r8)
  | past=>exact ro hB (Int.le_refl _) (wR hB h r8)
 exact kc o rfl
theorem wm (hB:f7 B) (h:gz T) (hk:0 < T.length):dW B st dx tx t7 er T 4 133 [] (.str [T[0]]) xb (zy T 1):=λr8=>
 vL (c:=[]) (sz:=0) (og:=0) (c':=T) (pl:=0) (pc:=0) (p:=0) (es:=[]) (b4:=.none) hB (Int.le_refl _) h.size hk (C7 hB h (List.ne_nil_of_length_pos hk) r8)
theorem vh (hB:f7 B) (h:gz []):dW B st dx tx t7 er [] 4 133 [] .none xb (pD []):=tX (T:=[]) hB h (q:=xb) (.here (cv _))
theorem oN (hB:f7 B) (h:gz T) (hk:k < T.length):dW B st dx tx t7 er T 1 163 [.str [T[k]]] .none (zy T (k+1)) (zy T k):=λr8=>El (c:=T) hB hk h.size
theorem zA (hB:f7 B) (h:gz T) {c7:AV} {m:Nat->Bool} (hm:FD B c7 m) {oh:Bool} {ah:cG} (ha:ah=[c7]/\oh=false\/ah=[c7,.bool oh]) (o:On T k q):
 ∃ q',On T (gP (λx=>m x==oh) T k) q'/\dW B st dx tx t7 er T 4 156 ah (.str ((T.drop k).takeWhile λx=>m x==oh)) q q':=by
 have ha':∀ st:Addr,(AV.ref st::ah=[.ref st,c7]/\oh=false\/AV.ref st::ah=[.ref st,c7,.bool oh]):=λst=>by
  rcases ha with⟨e,q⟩ | e
  . exact .inl ⟨by rw[e],q⟩
  . exact .inr (by rw[e])
 have aI:T.length<=1048576:=dt h.len (by decide)
 have am:∀ (l:cF) (u:Nat->Bool),(l.takeWhile u).length<=l.length:=λl u=>(List.takeWhile_sublist u).length_le
 cases o with
 | here hk=>
  have hr:((T.drop k).takeWhile λx=>m x==oh).length<=16777216:=dt (am _ _) (by rw[bP];have:=h.len;omega)
  have aX:((T.drop k).takeWhile λx=>m x==oh)=(T.drop k).take (gP (λx=>m x==oh) T k - k):=by
   unfold gP;rw[Nat.add_sub_cancel_left]
   generalize T.drop k=l
   induction l with
   | nil=>rfl
   | cons a l ih=>
    by_cases e:(m a==oh)=true
    . rw[List.takeWhile_cons,cE e,bL,List.take_succ_cons,<-ih]
    . rw[List.takeWhile_cons,cC e];rfl
  by_cases hs:gP (λx=>m x==oh) T k < T.length
  . refine⟨_,.here (cm hs),λr8=>?_⟩
    have:=qk (st:=st) (dx:=dx) (tx:=tx) (t7:=t7) (er:=er) (t:=T) (r8:=r8) hB hm (ha' st) (ia.stop (q:=zy T k) hk aI rfl hs) (by decide) (by
     exact dt (uC _ _ _) h.size)
    have e:sl T (some (k:Int)) (some ((gP (λx=>m x==oh) T k:Nat):Int))=(T.drop k).takeWhile λx=>m x==oh:=by
     rw[aX];rw[lu];rw[eK (cm hs),eK hk,List.drop_take]
    rw[<-e];exact this
  . have he:gP (λx=>m x==oh) T k=T.length:=Nat.le_antisymm (rV _ _ hk) (Nat.le_of_not_lt hs)
    refine⟨pD T,by rw[he];exact .past,λr8=>?_⟩
    have e:sl T (some (k:Int)) none=(T.drop k).takeWhile λx=>m x==oh:=by
     rw[aX,he];rw[qU];rw[eK hk,bG,List.take_of_length_le (by rw[bP];exact cv _)]
    have:=qk (st:=st) (dx:=dx) (tx:=tx) (t7:=t7) (er:=er) (t:=T) (r8:=r8) hB hm (ha' st) (ia.last (q:=zy T k) hk aI he (xf hB h k)) (by decide) (dt (uC _ _ _) h.size)
    rw[<-e];exact this
 | past=>
  have e0:T.drop T.length=[]:=List.drop_length
  have es:gP (λx=>m x==oh) T T.length=T.length:=A3
  refine⟨pD T,by rw[es];exact .past,λr8=>?_⟩
  have:=qk (st:=st) (dx:=dx) (tx:=tx) (t7:=t7) (er:=er) (t:=T) (r8:=r8) hB hm (ha' st) (ia.last (q:=pD T) (cv _) (cr _) rfl (wR hB h)) (by decide) (dt (uC _ _ _) (cr _))
  rw[e0];exact this
structure E8 (T:cF):Prop where
 plain:gz T
 no0:∀ c∈T,c≠0/\c≠38
inductive mG (T:cF):Bool->cF->SS->Prop
 | start:mG T false T xb
 | on {k:Nat} {q:SS} (hk:k<=T.length) (o:On T k q):mG T true (T.drop k) q
theorem D7 {u:Nat->Bool}:∀ {l:cF},l.drop (l.takeWhile u).length=l.dropWhile u:=by
 intro l
 induction l with
 | nil=>rfl
 | cons x l ih=>
  rw[List.takeWhile_cons,List.dropWhile_cons]
  by_cases e:u x=true
  . rw[cE e,cE e];exact ih
  . rw[cC e,cC e];rfl
theorem yB {u:Nat->Bool}:T.drop (gP u T k)=(T.drop k).dropWhile u:=by
 unfold gP;rw[<-List.drop_drop,D7]
theorem sv (h:k < T.length):T.drop k=T[k]::T.drop (k+1):=List.drop_eq_getElem_cons h
theorem kx (h:k<=T.length):mG T true (T.drop k) (zy T k):=.on h (.here h)
theorem yb:mG T true [] (pD T):=by
 have:=mG.on (T:=T) (cv _) .past
 rwa [List.drop_length]at this
theorem C8 (hB:f7 B) (h:gz T) {f:Bool} {z:Nat} (o:mG T f (z::l) q):∃ q',mG T true l q'/\dW B st dx tx t7 er T 4 133 [] (.str [z]) q q'/\∃ q'',mG T true (z::l) q''/\dW B st dx tx t7 er T 1 163 [.str [z]] .none q' q'':=by
 generalize hl:z::l=l' at o
 induction o using mG.casesOn with
 | start=>
  have hk:0 < T.length:=by rw[<-hl];exact Nat.succ_pos _
  obtain⟨e1,e2⟩:=List.cons.inj (hl.trans (sv hk));rw[e1,e2];exact⟨_,kx hk,wm hB h hk,_,kx (k:=0) (cr _),oN hB h hk⟩
 | @on k q hk o=>
  have hk:k < T.length:=Nat.lt_of_not_le λe=>by rw[List.drop_eq_nil_of_le e]at hl;exact nomatch hl
  obtain⟨e1,e2⟩:=List.cons.inj (hl.trans (sv hk));rw[e1,e2];exact⟨_,kx hk,D4 hB h o hk,_,kx (cm hk),oN hB h hk⟩
theorem EM (hB:f7 B) (h:gz T) {f:Bool} (o:mG T f [] q):∃ q',mG T true [] q'/\dW B st dx tx t7 er T 4 133 [] .none q q':=by
 generalize hl:([]:cF)=l' at o
 induction o using mG.casesOn with
 | start=>subst hl;exact⟨_,yb,vh hB h⟩
 | @on k q hk o=>
  obtain rfl:k=T.length:=Nat.le_antisymm hk (List.drop_eq_nil_iff.mp hl.symm)
  exact⟨_,hl▸yb,tX hB h o⟩
theorem D2 (hB:f7 B) (h:gz T) {c7:AV} {m:Nat->Bool} {oh:Bool} {ah:cG} (hm:FD B c7 m) (ha:ah=[c7]/\oh=false\/ah=[c7,.bool oh]) (o:mG T true l q):
 ∃ q',mG T true (l.dropWhile λx=>m x==oh) q'/\dW B st dx tx t7 er T 4 156 ah (.str (l.takeWhile λx=>m x==oh)) q q':=by
 generalize hf:true=f at o
 induction o using mG.casesOn with
 | start=>exact nomatch hf
 | @on k q hk o=>
  obtain⟨q',o',s⟩:=zA hB h hm ha o (st:=st) (dx:=dx) (tx:=tx) (t7:=t7) (er:=er)
  exact⟨q',by rw[<-yB];exact hf▸.on (rV _ _ hk) o',s⟩
theorem Jb {k:Nat} (o:On T k q):mr q=dw T k:=by
 rcases o with⟨hk⟩ | _
 . show AV.tup [.int ((0:Int)+fO 10 T (k:Int)+1),.int (jj 0 T (k:Int))]= _
   rw[ir hk,jd hk,Int.zero_add];rfl
 . show AV.tup [.int (((T.count 10:Nat):Int)+fO 10 [] ((([]:cF).length:Nat):Int)+1),.int (jj (fM 0 T) [] ((([]:cF).length:Nat):Int))]= _
   rw[ir (cv _),jd (cv _)];show _ =AV.tup [.int ((((T.take T.length).count 10:Nat):Int)+1),.int (fM 0 (T.take T.length))]
   rw[show T.take T.length=T from bG,show(([]:cF).take ([]:cF).length).count 10=0 from rfl]
   show AV.tup [.int (((T.count 10:Nat):Int)+0+1),.int (fM 0 T)]= _
   rw[Int.add_zero]
theorem yE:mr xb=dw T 0:=by
 show AV.tup [.int ((0:Int)+fO 10 [] ((([]:cF).length:Nat):Int)+1),.int (jj 0 [] ((([]:cF).length:Nat):Int))]= _
 rw[ir (cv _),jd (cv _)];rfl
theorem yf {f:Bool} (o:mG T f l q):mr q=dw T (T.length - l.length):=by
 induction o using mG.casesOn with
 | start=>rw[Nat.sub_self];exact yE
 | on hk o=>rw[bP,Nat.sub_sub_self hk];exact Jb o
theorem Fb {f:Bool} (o:mG T f l q):l <:+T:=by
 induction o using mG.casesOn with
 | start=>exact List.suffix_refl T
 | on _ _=>exact List.drop_suffix _ T
theorem NP {k:Nat} (o:On T k q) (hk:k < T.length):q=zy T k:=by
 cases o with
 | here _=>rfl
 | past=>exact cD hk (Nat.lt_irrefl _)
theorem Kq (hB:f7 B) (h:gz T) {z y:Nat} (s:(z::y::l) <:+T) (o:mG T true (y::l) q):∃ q',mG T true (z::y::l) q'/\dW B st dx tx t7 er T 1 163 [.str [z]] .none q q':=by
 obtain⟨p,e⟩:=s
 generalize hl:y::l=l' at o
 generalize hf:true=f at o
 induction o using mG.casesOn with
 | start=>exact nomatch hf
 | @on k q hk o=>
  have hk:k < T.length:=Nat.lt_of_not_le λe=>by rw[List.drop_eq_nil_of_le e]at hl;exact nomatch hl
  have e1:=cB List.length hl
  have e2:=cB List.length e
  rw[bP,bL]at e1
  rw[bt,bL,bL]at e2
  obtain rfl:k=p.length+1:=by omega
  have hp:p.length < T.length:=by omega
  have ez:T.drop p.length=z::y::l:=by rw[<-e,List.drop_left]
  have e3:T[p.length]=z:=(List.cons.inj ((sv hp).symm.trans ez)).1
  obtain rfl:=NP o hk
  refine⟨zy T p.length,?_,?_⟩
  . rw[<-hl,<-ez];exact kx (cm hp)
  . rw[<-e3];exact oN hB h hp
theorem LY (hB:f7 B) (h:E8 T):Em B st dx tx t7 er T (mG T) where
 char:=C8 hB h.plain
 un:=Kq hB h.plain
 suf:=Fb
 fin:=EM hB h.plain
 til:=D2 hB h.plain
 es:=λo=>by
  induction o using mG.casesOn with
  | start=>exact⟨rfl,rfl⟩
  | on _ o=>induction o using On.casesOn<;>exact⟨rfl,rfl⟩
 pos:=yf
 len:=λo=>by
  induction o using mG.casesOn with
  | start=>exact h.plain.len
  | on _ _=>rw[bP];exact dt (Nat.sub_le _ _) h.plain.len
 no0:=λo c hc=>by
  induction o using mG.casesOn with
  | start=>exact h.no0 c hc
  | on _ _=>exact h.no0 c ((List.drop_sublist _ T).subset hc)
end
end
section
section
variable {B:cX} {T x:cF} {oe:OL} {k:Nat}
theorem qt (hB:f7 B) (hT:T.length<=1000) (hx:x.length<=1000) (hk:k<=10000):cY B 1 796 [.str T,.int k,.str x] oe λd o=>d=.int (gO T k x:Nat)/\o=oe:=by
 have hz:T.length<=16777216:=dt hT (by decide)
 have hz2:x.length<=16777216:=dt hx (by decide)
 have hge:=qm (t:=T) (x:=x) (T.length+1 - k) k
 have hin:=λj=>uj (t:=T) (x:=x) (j:=j) (T.length+1 - k) k
 have hout:=qK (t:=T) (x:=x) (T.length+1 - k) k (tB (bQ _) (Nat.le_add_of_sub_le (cv _)))
 unfold gO
 generalize mj T x (T.length+1 - k) k=e at*
 obtain⟨m,rfl⟩:∃ m,e=k+m:=⟨e - k,(Nat.add_sub_of_le hge).symm⟩
 refine uk ["text","place","part"] [] (by rw[hB.K];rfl) (by rw[hB.K];kernel_rfl) (.three λy y y=>rfl) λL=>?_
 refine⟨.ret (.int (k+m+x.length:Nat)),[("text",some (.str T)),("place",some (.int (k+m:Nat))),("part",some (.str x))],oe,gQ (rM (je.count (λj=>⟨[("text",some (.str T)),("place",some (.int j)),("part",some (.str x))],oe⟩) (m:=m) (k:=k) ?_ ?_)) (jH [] (fG hB) (qa trivial hz2)),rfl,rfl⟩
 . intro j h1 h2
   have g:=hin j h1 h2
   exact⟨lP [.br true,.br true] (fG hB) (qa (qa (qa (qa (qa trivial hz) (cc (ci.mpr g.1))) hz2) hz) (show(!decide (sl T (some (j:Int)) (some ((j:Int)+x.length))=x))=true by rw[Ak g.1,bS g.2];rfl)),jH [] (fG hB) trivial⟩
 . by_cases g:k+m<=T.length
   . have e:=Decidable.not_not.mp λq=>hout ⟨g,q⟩
     exact lP [.br true,.br false] (fG hB) (qa (qa (qa (qa (qa trivial hz) (cc (ci.mpr g))) hz2) hz) (show(!decide (sl T (some ((k+m:Nat):Int)) (some (((k+m:Nat):Int)+x.length))=x))=false by rw[Ak g,cc e];rfl))
   . exact lP [.br false] (fG hB) (qa (qa trivial hz) (bS λq=>g (ci.mp q)))
end
end
section
theorem FN {X:Cx} {σ:St} {l:cG} {d:AV} {e1 e2:Expr} {k:Nat} (hd:l[k]? =some d) (hz:l.length<=16777000) (hs:∀ o i,∃ ops,subscripted e2 false o i=operate ops (getItem o i):=by exact λy y=>⟨_,rfl⟩):gL X e1 e2 (.tup l) (.int k) d σ:=
 ⟨λy y y y mo mi h=>Ou mo mi (j:=k) (by unfold seqIndex?;rw[cC (show ¬ ((k:Nat):Int) < 0 by omega)];have:=(List.getElem?_eq_some_iff.mp hd).1;simp[this]) hd (dt hz (by decide)) h (hs _ _)⟩
theorem u6 {d:AV} (B:cX) (σ:St) (a b:AV) (k:Nat) (h:[a,b][k]? =some d):∀ X:Cx,X.B=B->∀ e1 e2:Expr,fm e2=true->gL X e1 e2 (.tup [a,b]) (.int k) d σ:=λy y y y hs=>FN h (show 2<=16777000 by decide) (lA hs)
section
variable {B:cX} {a b c d:Int}
noncomputable abbrev Gu (a b c d:Int) (oe:OL):St:=⟨[("mark",some (.tup [.int a,.int b])),("spot",some (.tup [.int c,.int d]))],oe⟩
theorem IN (hB:f7 B) (h:c=1):eG B 1 789 [.tup [.int a,.int b],.tup [.int c,.int d]] (.tup [.int a,.int (b+d)]):=λoe=>
 jU ["mark","spot"] [] [.av (.tup [.int a,.int b]),.av (.tup [.int c,.int d])] [] oe [.itm (.int c),.br true,.itm (.int a),.itm (.int b),.itm (.int d)] (.av (.tup [.int a,.int (b+d)])) [] oe hB
  (qa (qa (qa (qa (qa trivial (u6 B (Gu a b c d oe) (.int c) (.int d) 0 rfl)) (cc h)) (u6 B (Gu a b c d oe) (.int a) (.int b) 0 rfl)) (u6 B (Gu a b c d oe) (.int a) (.int b) 1 rfl)) (u6 B (Gu a b c d oe) (.int c) (.int d) 1 rfl))
theorem Jj (hB:f7 B) (h:c≠1):eG B 1 789 [.tup [.int a,.int b],.tup [.int c,.int d]] (.tup [.int (a+c - 1),.int d]):=λoe=>
 jU ["mark","spot"] [] [.av (.tup [.int a,.int b]),.av (.tup [.int c,.int d])] [] oe [.itm (.int c),.br false,.itm (.int a),.itm (.int c),.itm (.int d)] (.av (.tup [.int (a+c - 1),.int d])) [] oe hB
  (qa (qa (qa (qa (qa trivial (u6 B (Gu a b c d oe) (.int c) (.int d) 0 rfl)) (bS h)) (u6 B (Gu a b c d oe) (.int a) (.int b) 0 rfl)) (u6 B (Gu a b c d oe) (.int c) (.int d) 0 rfl)) (u6 B (Gu a b c d oe) (.int c) (.int d) 1 rfl))
end
end
section
section
variable {B:cX} {A:Around} {e9:Env} {e:Expr} {s:Shared} {l la lb:cF} {a b:Str} {ap pz pa pb:Pos} {ka kb:Nat} {E:Value->Shared->Prop}
end
section
variable {B:cX} {n:Nat} {oe:OL} {f:Addr} {ah ds:cG} {Φ:AV->OL->Prop}
theorem NW {n5 qc:Str} {pt:Arguments} {b0 b3:cH} {se si:Scope} {dV kV d8 pm c6 ct oc:Value} {an od:Option Addr} {ol:cT} {l8:LL} (ps xs:cL) (x9:Str) (d6:AV)
 (ho :B.K.lookup f=some ⟨oc,od,.func (fnOf n5 qc pt b0 se dV kV d8 pm an c6 ct),ol⟩) (aP:codeIn B.K c6 qc=true)
 (hb :fE B (fnOf n5 qc pt b0 se dV kV d8 pm an c6 ct) ps ah ds) (h:∀ L,IR B n L (execs b3 (envOf qc si L f c6)) [] ⟨l8,oe⟩ (rg Φ)) (h0:(x9,some d6)∈eP ps ds)
 (eb :autoParam (b0=b3) bC) (es:autoParam (se=si) bC)
 (aE :eP ps ds++bare xs=l8:=by simp only[eP,bare,cf,List.map_nil,bO,List.nil_append]<;>rfl) (hl:autoParam (ps.length=ds.length) bR) (hn:autoParam ((ps++xs).Nodup) bD) (aR:autoParam (ps.all (λy=>si.names.lookup y==some .local)=true) bR)
 (aH :autoParam (si.isCoroutine=false) bR) (aC:autoParam (si.isGenerator=false) bR) (hk:autoParam (si.kind=.function) bR) (aj:autoParam (∀ x∈si.names,x.2≠.cell) bD):cY B (n+1) f ah oe Φ:=by
 subst eb es aE
 intro A F s vs hA x hvs;have up:∀ b o,B.G.get? b=some o->s.heap.get? b=some o:=λb o e=>x.sub _ _ (x.core _ _ e)
 refine dQ (hb F s vs hvs (B.X.keeps up) x.core) ?_;rintro v8 hv aG
 have sub:((ps.zip v8).map (·.1)).Nodup:=(mc).nodup (bx.mp hn).1
 have aE:∀ y∈ps.zip v8,se.names.lookup y.1=some .local:=λy hy=>beq_iff_eq.mp (List.all_eq_true.mp aR y.1 (mc.subset (List.mem_map_of_mem hy)))
 have hl':∀ y d,(y,some d)∈eP ps ds++bare xs->∃ v,(ps.zip v8).reverse.lookup y=some v/\Is B.P F v d:=λy d hy=>by
  rcases bT.mp hy with hy | hy
  . refine dQ (ri hv hy) ?_;rintro v hv q
    exact⟨v,lJ sub hv,q⟩
  . exact(jh hy).elim
 have hpos:0 < (ps.zip v8).length:=by
  refine dQ (hl' x9 d6 (bh _ h0)) ?_;rintro v e w
  rcases q:ps.zip v8 with _ | _
  . rw[q]at e;exact nomatch e
  . exact Nat.succ_pos _
 have hnn:((eP ps ds++bare xs).map (·.1)).Nodup:=by rw[bV,kG hl,iw];exact hn
 refine codeAny_call_def (fd:=fnOf n5 qc pt b0 se dV kV d8 pm an c6 ct) (body:=b0) (binds:=ps.zip v8) (by have:=hA.depth;show A.depth < 1000;omega) ((B.X.keeps up) _ _ ho) rfl (B.nolimit.keeps up)
  (codeRec_of (B.X.keeps up) aP) rfl aG aj aE (λh6 aJ h7=>?_) aH aC hk
 have hL:=yg s.heap
 have there:∀ b∈dg oe,∃ o,s.heap.get? b=some o:=λb hb=>by
  refine dQ (dK.mp hb) ?_;rintro p hp hb
  exact(x.objs p hp).there b hb
 have hLo:s.heap.objs.size∉dg oe:=λhm=>by obtain⟨o,ho⟩:=there _ hm;rw[hL]at ho;contradiction
 have hLF:F s.heap.objs.size=none:=aZ.mpr λo q=>nomatch (x.sub _ _ q).symm.trans hL
 have X:Holds B.P B.G s.heap.objs.size F [] ⟨eP ps ds++bare xs,oe⟩ h6:=
  ⟨x.core,λb o e=>h7 _ _ (x.sub _ _ e),⟨_,aJ,hl'⟩,hnn,λp hp=>(x.objs p hp).move (.refl F) λb o w e=>h7 _ _ e,bU.mpr ⟨hLo,x.nodup⟩,
   λb hb=>by rcases fD hb with rfl | hb;exact hLF;exact x.apart b hb,λw hp=>(nomatch hp),x.big⟩
 have hA':gk n (A.deeper (callEnv (fnOf n5 qc pt b0 se dV kV d8 pm an c6 ct) s.heap.objs.size f)):=
  ⟨hA.handled,by have:=hA.depth;show A.depth+1+n<=900;omega,by have:=hA.units;show A.units+3+8*n<=9000;omega⟩
 refine cx ((h s.heap.objs.size).run _ F { s with heap:=h6,toks:=s.toks+(ps.zip v8).length } hA' (tB hpos (bY _ _)) X) (λfl s' z=>?_) λw w z=>z.elim
 obtain⟨F',σ',x',p,e,he,q⟩:=z;refine dQ (oE he q) ?_;rintro d hd q
 exact .mk _ d σ'.objs F' rfl hd x'.call ((p.over (λb hb=>(fD hb).elim (λe=>.inr (e▸hL)) .inl) h7 (.refl _) rfl).fewer λw=>.tail _) q
end
end
section
section
variable {k:Nat} {e1 e2:Expr}
variable {B:cX} {T:cF} {oe:OL}
theorem qN {i:Nat} (h:i < T.length):dw T (i+1)=if T[i]=10 then .tup [.int ((T.take i).count 10+1+1),.int 0] else .tup [.int ((T.take i).count 10+1),.int (fM 0 (T.take i)+1)]:=by
 have e:T.take (i+1)=T.take i++[T[i]]:=by rw[List.take_add_one,b9 h];rfl
 unfold dw;rw[e,List.count_append]
 by_cases q:T[i]=10
 . rw[cE q,q]
   unfold fM;rw[List.foldl_append];simp
 . rw[cC q]
   unfold fM;rw[List.foldl_append];simp[q]
noncomputable def eQ (T:cF) (i:Nat):cG:=(List.range i).map (dw T)++[dw T i]
theorem tu (i:Nat):eQ T (i+1)=eQ T i++[dw T (i+1)]:=by unfold eQ;refine List.range_succ▸bV▸?_;rfl
theorem pW {n:Nat} (h:k<=n):(eQ T n)[k]? =some (dw T k):=by
 unfold eQ;rw[show(List.range n).map (dw T)++[dw T n]=(List.range (n+1)).map (dw T)from by rw[List.range_succ,bV];rfl,bz,List.getElem?_range (by omega)]
 rfl
theorem CJ {X:Cx} {l8:LL} {a:Addr} {i:Nat} (m:(a,AO.list (eQ T i))∈oe) (hi:i<=100000) (hs:fm e2=true):
 gL X e1 e2 (.ref a) (.int (-1)) (.tup [.int ((T.take i).count 10+1),.int (fM 0 (T.take i))]) ⟨l8,oe⟩:=BD (l:=(List.range i).map (dw T)) (d:=dw T i) m (by rw[bZ,List.length_range];omega) (lA hs)
noncomputable def AB (T:cF) (a:Addr) (i:Nat):LL:=[("text",some (.str T)),("marks",some (.ref a)),("sign",if i=0 then none else some (.str [T.getD (i - 1) 0])),("line",if i=0 then none else some (.int ((T.take (i - 1)).count 10+1))),("column",if i=0 then none else some (.int (fM 0 (T.take (i - 1)))))]
noncomputable def Pl (T:cF) (z:Option Nat) (l c:Option Int) (o:AO) (ls:cG) (ps:cM) (r8:OL):DS:=⟨[("text",some (.av (.str T))),("marks",some (.slot 1)),("sign",z.map λz=>.av (.str [z])),("line",l.map λi=>.av (.int i)),("column",c.map λi=>.av (.int i))],[(0,.ao o),(1,.list ls ps)],r8⟩
theorem Fo (hB:f7 B) (h:gz T):cY B 1 775 [.str T] oe λd o=>∃ a,d=.ref a/\o=(a,.list (eQ T T.length))::oe:=by
 have hz:=h.size
 have am:=h.len
 refine ug ["text"] ["marks","sign","line","column"] (by rw[hB.K];rfl) (by rw[hB.K];kernel_rfl) (.one λy=>rfl) λL=>?_
 refine iA (de (kJ (de f6 (de f6 dD)) (by decide)) dD) (by decide) λa=>⟨_,.skip .hit,?_⟩
 refine dJ (AP (N:=T.length) (i3:=λi=>.str [T.getD i 0]) (d:=.str T) (λi=>AB T a i) (λi=>(a,AO.list (eQ T i))::oe) (cW dH) (λxv=>sX) ?_) ?_
 . intro i hi c p
   have hg:T.getD i 0=T[i]:=by simp[hi]
   have hm:=qN hi
   have hml:(eQ T i).length<=16777216:=by unfold eQ;rw[bt,bZ,List.length_range,bd];omega
   have ei:T.getD (i+1 - 1) 0=T[i]:=by rw[Nat.add_sub_cancel];exact hg
   refine⟨⟨[("text",some (.str T)),("marks",some (.ref a)),("sign",some (.str [T[i]])),("line",if i=0 then none else some (.int ((T.take (i - 1)).count 10+1))),("column",if i=0 then none else some (.int (fM 0 (T.take (i - 1)))))],(c,.is p)::(a,.list (eQ T i))::oe⟩,eV (fc (by refine hg▸?_;exact .skip (.skip .hit))),?_⟩
   have fin:(⟨AB T a (i+1),(c,.is p)::(a,.list (eQ T (i+1)))::oe⟩:St)=(⟨[("text",some (.str T)),("marks",some (.ref a)),("sign",some (.str [T[i]])),("line",some (.int ((T.take i).count 10+1))),("column",some (.int (fM 0 (T.take i))))],(c,.is p)::(a,.list (eQ T i++[if T[i]=10 then AV.tup [.int ((T.take i).count 10+1+1),.int 0] else .tup [.int ((T.take i).count 10+1),.int (fM 0 (T.take i)+1)]]))::oe⟩:St):=by
    rw[tu,hm];unfold AB;rw[cC (Nat.succ_ne_zero i),cC (Nat.succ_ne_zero i),cC (Nat.succ_ne_zero i),ei,Nat.add_sub_cancel]
   refine fin▸?_
   clear fin hm ei hg;have um:=λ(l c':cN) (X:Cx) (_:X.B=B) e1 e2 hs=>CJ (X:=X) (e1:=e1) (e2:=e2) (l8:=[("text",some (.str T)),("marks",some (.ref a)),("sign",some (.str [T[i]])),("line",l),("column",c')]) (oe:=(c,.is p)::(a,.list (eQ T i))::oe) (a:=a) (i:=i) (T:=T) iL (by omega) hs
   generalize hA:((T.take i).count 10:Int)+1=A at um |-
   generalize hC:fM 0 (T.take i)=C at um |-
   generalize eQ T i=ml at hml um |-
   generalize T[i]=z
   by_cases e10:z=10
   . refine(cE e10)▸?_
     by_cases i0:i=0
     . refine(cE i0)▸(cE i0)▸?_
       exact ib [c,a] (Pl T (some z) none none (.is p) ml [] oe) [.itm (.tup [.int A,.int C]),.br true] (fG hB) (qa (qa (qa trivial (um none none)) (cc (cB (λz=>[z]) e10))) hml)
     . refine(cC i0)▸(cC i0)▸?_
       exact ib [c,a] (Pl T (some z) (some ((T.take (i - 1)).count 10+1)) (some (fM 0 (T.take (i - 1)))) (.is p) ml [] oe) [.itm (.tup [.int A,.int C]),.br true] (fG hB) (qa (qa (qa trivial (um (some (.int ((T.take (i - 1)).count 10+1))) (some (.int (fM 0 (T.take (i - 1))))))) (cc (cB (λz=>[z]) e10))) hml)
   . refine(cC e10)▸?_
     by_cases i0:i=0
     . refine(cE i0)▸(cE i0)▸?_
       exact ib [c,a] (Pl T (some z) none none (.is p) ml [] oe) [.itm (.tup [.int A,.int C]),.br false] (fG hB) (qa (qa (qa trivial (um none none)) (ne1 e10)) hml)
     . refine(cC i0)▸(cC i0)▸?_
       exact ib [c,a] (Pl T (some z) (some ((T.take (i - 1)).count 10+1)) (some (fM 0 (T.take (i - 1)))) (.is p) ml [] oe) [.itm (.tup [.int A,.int C]),.br false] (fG hB) (qa (qa (qa trivial (um (some (.int ((T.take (i - 1)).count 10+1))) (some (.int (fM 0 (T.take (i - 1))))))) (ne1 e10)) hml)
 . exact gi (jN (jG (cW iL))) ⟨_,rfl,a,rfl,rfl⟩
theorem nr (l:cG):∀ n,n<=l.length->dZ (λy=>true) (λi=>l.getD i .any) n=l.take n
 | 0,_=>by rw[List.take_zero];rfl
 | n+1,h=>by
  unfold dZ;rw[cE rfl,nr l n (Nat.le_of_succ_le h),List.take_add_one,b8,b9 h];rfl
theorem jo (l:cG):dZ (λy=>true) (λi=>l.getD i .any) l.length=l:=by rw[nr l _ (cv _),bG]
theorem RR {X:Cx} {e:Expr} {σ:St} {v:Value} (h:Do X e σ v (.lit v)):Ev X e σ (.lit v) σ:=⟨λH Φ k=>h.run H Φ (k v)⟩
end
end
section
theorem Mk.meth {e:Expr} {n5:Str} {ar pn:Pos} {ah:cI} {pl:Sem Bool} {e9:Env} (h:Mk (eval e e9)) (he:autoParam (eval (.Call (.Attribute e n5 ar) ah [] pn) e9=(do
 let ov <-eval e e9
 standAt ar.atName
 let (f,first) <-holding [ov] (getMethod ov n5 pl)
 callWith pn f first (backTo pn (starEach ah e9)) [])) bR):Mk (eval (.Call (.Attribute e n5 ar) ah [] pn) e9):=he▸h.fst
theorem Kx {X:Cx} {σ a1:St} {e:Expr} {a b:Str} {l la lb:cF} {ap pn pa pb:Pos} {ka kb:Nat} (mk:Mk (eval e X.env)) (h1:Ev X e σ (.str l) a1) (ea:a=S la) (eb:b=S lb) (hz:l.length<=1048576) (hlb:autoParam (lb.length<=14) bD) (hne:autoParam ((S la==S lb)=false) bD)
 (hb:autoParam (attributeBase e "replace" X.env (eval e X.env)=eval e X.env) bR) (aM:autoParam ((ap.endLine==pn.line)=true) bR):Ev X (.Call (.Attribute e "replace" ap) [.Constant (.str a) ka pa,.Constant (.str b) kb pb] [] pn) σ (.str (gZ l la lb)) a1:=⟨λH Φ h=>d9 λA F s hA X'=>by
 have w:=(h1.run H (λy d σ'=>d=.str l/\σ'=a1) λy=>⟨rfl,rfl⟩).run A F s hA X'
 refine wpAny_Call_method_late hb (by rfl) aM rfl (cx (Q:=λv s'=>0 < s'.toks/\di X.B X.L H σ F s s' λF' σ'=>∃ d,Is X.B.P F' v d/\d=.str l/\σ'=a1) (λΓ p hΓ=>mk X.B.M Γ (w Γ p hΓ)) (λv s0 z=>?_) λy y z=>z)
 obtain⟨ht,F',σ',x,p,d,hd,rfl,rfl⟩:=z;obtain⟨t,rfl⟩:=dy hd;subst ea eb
 exact xd hz hlb hne ht λt' k y=>⟨F',σ',x,⟨p.keep,p.own,p.frz,p.mono,p.gens,p.os⟩,.str (gZ l la lb),.str _ _,h _⟩⟩
noncomputable def zp (c d:Nat) (x:Nat):Nat:=if x=c then d else x
theorem uh {c d:Nat}:∀ {l:cF},c∉l->l.map (zp c d)=l:=by
 intro l
 induction l with
 | nil=>exact λy=>rfl
 | cons x l ih=>
  intro h;rw[cf,ih λm=>h (.tail _ m)];unfold zp;rw[cC λe=>h (List.mem_cons.mpr (.inl e.symm))]
theorem u8 (c d:Nat):∀ parts:cL,(∀ p∈parts,c∉p.cps.toList)->(Str.join ⟨#[c]⟩ parts).cps.toList.map (zp c d)=(Str.join ⟨#[d]⟩ parts).cps.toList
 | [],_=>rfl
 | [p],h=>uh (h p (bq.mpr rfl))
 | p::q::r,h=>by
  have ih:=u8 c d (q::r) λa ha=>h a (List.mem_cons_of_mem _ ha)
  show(p++⟨#[c]⟩++Str.join ⟨#[c]⟩ (q::r)).cps.toList.map (zp c d)=(p++⟨#[d]⟩++Str.join ⟨#[d]⟩ (q::r)).cps.toList
  simp only[Str.cps_append,Array.toList_append,bV]
  rw[ih,uh (h p (List.mem_cons_self ..))];have e:(⟨#[c]⟩:Str).cps.toList.map (zp c d)=(⟨#[d]⟩:Str).cps.toList:=by
   show[zp c d c]=[d]
   unfold zp;rw[cE rfl]
  rw[e]
theorem tm (l:cF) (c d:Nat):gZ l [c] [d]=l.map (zp c d):=by
 show(Txt.replace (S l) ⟨#[c]⟩ ⟨#[d]⟩).cps.toList= _
 rw[StrLaws.replace_one,<-u8 c d _ (StrLaws.split_free (S l) c),StrLaws.join_split]
section
variable {B:cX} {T:cF}
theorem pO (q:Nat->Bool):∀ n,n<=T.length->dZ (λi=>q (T.getD i 0)) (λi=>AV.str [T.getD i 0]) n=((T.take n).filter q).map λc=>AV.str [c]
 | 0,_=>rfl
 | n+1,h=>by
  have e:T.getD n 0=T[n]:=by simp[b8,b9 h]
  unfold dZ;rw[pO q n (Nat.le_of_succ_le h),List.take_add_one,b9 h,e];show _ =List.map _ (List.filter q (_++[T[n]]))
  rw[List.filter_append,bV,List.filter_cons]
  by_cases z:q T[n]=true
  . rw[cE z,cE z];rfl
  . rw[cC z,cC z];exact(bX _).symm
theorem mX {α:Type} (f:α->cF) (l:List α):dN (l.map λn=>AV.str (f n))=some (l.map f):=by
 induction l with
 | nil=>rfl
 | cons a l ih=>
  show(dN (l.map λn=>AV.str (f n))).map (f a::·)= _
  refine ih▸?_;rfl
theorem u9 (l:cF):(l.map λc=>[c]).flatten=l:=by
 induction l with
 | nil=>rfl
 | cons a l ih=>exact cB (a::·) ih
noncomputable abbrev qF:cF:=[32,10,47,61,34,39]
noncomputable abbrev zD (T:cF):Prop:=∀ c∈T,zp 81 113 c=gJ c
theorem sJ (h:kB T):zD T:=λc hc=>(show ∀ c∈Ck,zp 81 113 c=gJ c by decide) c (h c hc)
theorem Ar (h:zD T):(T.filter λc=> !decide (c∈qF)).map (zp 81 113)=eH T:=List.map_congr_left λc hc=>h c (List.mem_filter.mp hc).1
theorem zP (hB:f7 B) (hT:T.length<=10000) (h:zD T):eG B 1 808 [.str T] (.str (eH T)):=λoe=>by
 have hf:=List.length_filter_le (λc=> !decide (c∈qF)) T
 rw[<-Ar h,<-tm];refine uk ["text"] [] (by rw[hB.K];rfl) (by rw[hB.K];kernel_rfl) (.one λy=>rfl) λL=>?_
 refine⟨.ret (.str (gZ (T.filter λc=> !decide (c∈qF)) [81] [113])),[("text",some (.str T))],oe,jN (jG (Kx (Mk.str.meth) (l:=T.filter λc=> !decide (c∈qF)) ?_ (by kernel_rfl) (by kernel_rfl) (dt hf (dt hT (by decide))))),rfl,rfl⟩
 have e:=λ(X:Cx) (σ:St)=>ot (X:=X) (σ:=σ) (l:=dZ (λi=> !decide (T.getD i 0∈qF)) (λi=>AV.str [T.getD i 0]) T.length) (ms:=(T.filter λc=> !decide (c∈qF)).map λc=>[c]) (by rw[pO (λc=> !decide (c∈qF)) _ (cv _),bG];exact mX _ _) (by rw[u9];exact dt hf (dt hT (by decide)))
 rw[u9]at e
 refine n8 (eN su) (qR PySem.F.slot_str_join PySem.F.type_str_join) gt (de
  (pI (N:=T.length) (i3:=λi=>.str [T.getD i 0]) ["sign"] _ _ (dt hT (by decide)) (cW dH) (λxv=>sX) (λi hi=>?_) rfl) dD) (e _ _)
 generalize T.getD i 0=c
 refine⟨λC p q=>⟨[("sign",some (.str [c]))],[("sign",some (.str [c]))],eV (fc .hit),AH ?_,λy=>cW dH⟩⟩
 by_cases z:c∈qF
 . rw[cc z]
   exact lP [.br false] (fG hB) (qa trivial (show(!decide (c∈qF))=false by rw[cc z];rfl))
 . rw[bS z]
   exact lP [.br true] (fG hB) (qa trivial (show(!decide (c∈qF))=true by rw[bS z];rfl))
end
end
section
section
variable {X:Cx} {σ:St} {t:Expr} {x ss b0:cH} {pn:Pos} {P:Prop} [Decidable P]
theorem Oy {a b:Prop} [Decidable a] [Decidable b]:(decide a||(decide b||false))=decide (a\/b):=by rw[Bool.or_false,Bool.decide_or]
theorem AR {a b:Prop} [Decidable a] [Decidable b]:(decide a&&(decide b&&true))=decide (a/\b):=by rw[Bool.and_true,Bool.decide_and]
theorem QC {a b c d:Prop} [Decidable a] [Decidable b] [Decidable c] [Decidable d]:(decide a||(decide b||((decide c&&(!decide d&&true))||false)))=decide (a\/b\/c/\¬ d):=by rw[Bool.or_false,Bool.and_true,Bool.decide_or,Bool.decide_or,Bool.decide_and,decide_not]
theorem uM (f:Nat->AV) {i j:Nat} (h1:Te X t σ (decide P) σ) (hx:jC X x σ (.ret (f i)) σ) (h2:¬ P->jC X ss σ (.ret (f j)) σ):jC X (.If t x [] pn::ss) σ (.ret (f (if P then i else j))) σ:=by
 by_cases h:P
 . rw[cc h]at h1
   rw[cE h];exact tR (rF h1 hx) xO
 . rw[bS h]at h1
   rw[cC h];exact tR (nc h1 gM) (h2 h)
theorem xN {F:cF->St} (h1:∀ l,l.length<=10000->Te X t (F l) (decide (l.take 3=[60,47,62])) (F l)) (h2:∀ l,l.length<=10000->jC X b0 (F l) .next (F (l.drop 3))):∀ n l,l.length<=n->l.length<=10000->∃ k,je X t b0 k (F l) (F (j8 n l))
 | n,[],_,_=>by
  have e:j8 n []=[]:=by rcases n with _ | n<;>rfl
  rw[e];exact⟨0,.done (h1 [] (cr _))⟩
 | 0,z::l,h,_=>cD h (Nat.not_succ_le_zero _)
 | n +1,z::l,h,hz=>by
  have t1:=h1 _ hz
  unfold j8
  by_cases e:(z::l).take 3=[60,47,62]
  . rw[cE e]
    rw[cc e]at t1
    have hd:((z::l).drop 3).length<=l.length:=by rw[bP];exact Nat.sub_le_of_le_add (bE _ 2)
    obtain⟨k,r⟩:=xN h1 h2 n ((z::l).drop 3) (dt hd (Nat.le_of_succ_le_succ h)) (dt hd (dt (Nat.le_succ _) hz))
    exact⟨k+1,.step t1 (h2 _ hz) r⟩
  . rw[cC e]
    rw[bS e]at t1
    exact⟨0,.done t1⟩
end
theorem B1 {X:Cx} {σ σ':St} {t:Expr} {b0:cH} {pn:Pos} (h:∃ k,je X t b0 k σ σ'):Ex X (.While t b0 [] pn) σ .next σ':=by
 obtain⟨k,r⟩:=h;exact rM r
theorem qX:∀ n l,(j8 n l).length<=l.length
 | 0,l=>cv _
 | n+1,l=>by
  unfold j8
  by_cases e:l.take 3=[60,47,62]
  . rw[cE e];exact dt (qX n _) (by rw[bP];exact Nat.sub_le _ _)
  . rw[cC e];exact cv _
theorem kL {l:cF} {n:Nat}:sl l none (some (n:Int))=l.take n:=by
 rw[Ma,List.drop_zero]
 by_cases h:n<=l.length
 . rw[eK h]
 . rw[iJ (ci.mpr (Nat.le_of_not_le h)),bG,List.take_of_length_le (Nat.le_of_not_le h)]
theorem sy {l:cF} {n:Nat}:sl l (some (n:Int)) none=l.drop n:=by
 rw[qU,bG]
 by_cases h:n<=l.length
 . rw[eK h]
 . rw[iJ (ci.mpr (Nat.le_of_not_le h)),List.drop_length,List.drop_eq_nil_of_le (Nat.le_of_not_le h)]
theorem zB {l:cF} (j:Nat):sl l (some (j:Int)) (some ((j+1:Nat):Int))=(l.drop j).take 1:=by
 by_cases h:j<=l.length
 . exact Ak (m:=1) h
 . have h:=Nat.le_of_not_le h
   rw[lu,iJ (ci.mpr h),iJ (ci.mpr (Nat.le_succ_of_le h)),bG,List.drop_length,List.drop_eq_nil_of_le h];rfl
noncomputable def N5 (k:Nat):cF:=match k with
 | 0=>[]
 | 1=>sg "Characters"
 | 2=>sg "SpaceCharacters"
 | 3=>sg "StartTag"
 | 4=>sg "EndTag"
 | _=>sg "Comment"
noncomputable abbrev kA (k:Nat):AV:=.str (N5 k)
section
variable {B:cX} {T:cF}
theorem HY (hB:f7 B) (hT:T.length<=10000):eG B 1 803 [.str T] (kA (eC T)):=λoe=>by
 refine uk ["rest"] [] (by rw[hB.K];rfl) (by rw[hB.K];kernel_rfl) (.one λy=>rfl) λL=>?_
 have hs:(j8 T.length T).length<=10000:=dt (qX _ _) hT
 refine⟨.ret (kA (eC T)),[("rest",some (.str (j8 T.length T)))],oe,gQ (a1:=⟨[("rest",some (.str (j8 T.length T)))],oe⟩) (B1 (xN (F:=λl=>⟨[("rest",some (.str l))],oe⟩) (λl hl=>?_) (λl hl=>?_) T.length T (cv _) hT)) ?_,rfl,rfl⟩
 . have hz:l.length<=16777216:=dt hl (by decide)
   exact eY (nN (gg (cW dH) gW (fo (f6 (i:=3))) rfl rfl hz) (cB AV.str (kL (n:=3)))) (eN (l:=[60,47,62]) (by kernel_rfl)) iT
 . have hz:l.length<=16777216:=dt hl (by decide)
   rw[<-sy];exact jH [] (fG hB) (qa trivial hz)
 unfold eC
 generalize j8 T.length T=l at hs |-
 have hz:l.length<=16777216:=dt hs (by decide)
 refine uM kA (eY (cW dH) (eN (l:=[]) (by kernel_rfl)) iT) (jH [] (fG hB) trivial) λhn=>?_
 obtain⟨c,r,rfl⟩:=List.exists_cons_of_ne_nil hn;clear hn hs;have h0:zc (c::r) 0=some c:=mQ (l:=c::r) (k:=0) (Nat.succ_pos _)
 refine uM kA (qH (vA (mq (eY (i8 (cW dH) f6 (y7 h0 hz)) (eN (l:=[32]) (by kernel_rfl)) iT) (mq (eY (i8 (cW dH) f6 (y7 h0 hz)) (eN (l:=[10]) (by kernel_rfl)) iT) lz))) Oy) (jH [] (fG hB) trivial) λy=>?_
 refine uM kA (qH (iV (kH (eY (i8 (cW dH) f6 (y7 h0 hz)) (eN (l:=[60]) (by kernel_rfl)) iT) (kH (eY (nN (gg (cW dH) (fo (f6 (i:=1))) (fo (f6 (i:=2))) rfl rfl hz) (cB AV.str (zB 1))) (ku (v:=.ref 768) (by rw[hB.K];kernel_rfl) (oI hB)) (AK (ms:=kX) rfl)) wl))) AR) (jH [] (fG hB) trivial) λy=>?_
 clear h0
 generalize c::r=l at hz |-
 refine uM kA (qH (iV (kH (eY (nN (gg (cW dH) gW (fo (f6 (i:=2))) rfl rfl hz) (cB AV.str (kL (n:=2)))) (eN (l:=[60,47]) (by kernel_rfl)) iT) (kH (eY (nN (gg (cW dH) (fo (f6 (i:=2))) (fo (f6 (i:=3))) rfl rfl hz) (cB AV.str (zB 2))) (ku (v:=.ref 768) (by rw[hB.K];kernel_rfl) (oI hB)) (AK (ms:=kX) rfl)) wl))) AR) (jH [] (fG hB) trivial) λy=>?_
 refine uM kA (qH (vA (mq (eY (nN (gg (cW dH) gW (fo (f6 (i:=2))) rfl rfl hz) (cB AV.str (kL (n:=2)))) (eN (l:=[60,33]) (by kernel_rfl)) iT) (mq (eY (nN (gg (cW dH) gW (fo (f6 (i:=2))) rfl rfl hz) (cB AV.str (kL (n:=2)))) (eN (l:=[60,63]) (by kernel_rfl)) iT)
  (mq (iV (kH (eY (nN (gg (cW dH) gW (fo (f6 (i:=2))) rfl rfl hz) (cB AV.str (kL (n:=2)))) (eN (l:=[60,47]) (by kernel_rfl)) iT) (kH (eY (cW dH) (eN (l:=[60,47]) (by kernel_rfl)) wZ) wl))) lz)))) QC) (jH [] (fG hB) trivial) λy=>jH [] (fG hB) trivial
end
end
section
section
variable {X:Cx} {σ a1 a2 σ':St} {Q:PF} {R:St->Prop} {f:Fl} {l8:LL} {oe r8:OL} {pa lb:Addr} {kv as bs:cG}
end
end
section
variable {ee t6 i4:Expr} {i5:cI} {se:Scope} {pn:Pos} {cl:List (Str×Addr)}
section
variable {B:cX} {n:Nat} {L:Addr} {H:HL} {σ:St} {e9:Env}
variable {C D a:Addr} {F:Fz} {s:Shared} {oe:OL} {xs:cL}
end
section
variable {X:Cx} {σ a1 a2 σ':St} {l8 l9:LL} {oe o5:OL} {d:AV} {i3:Nat->AV}
end
section
variable {B:cX} {n:Nat} {L:Addr} {xv:Value} {pa:Addr} {l:cG}
end
end
section
section
variable {B:cX} {n:Nat} {L:Addr} {H:HL} {σ:St} {a:Addr} {l:FL} {x:cF} {c o:Value} {Φ:PV}
end
section
variable {X:Cx} {l8 l9:LL} {oe:OL} {ss:cH} {QF:PF} {ra:Addr} {l:cG} {fl:FL}
theorem yc (h:dT X ss ⟨l9,oe⟩ QF) (e:∀ y d,(y,some d)∈l9->(y,some d)∈l8\/(d=.lst l/\(y,some (.ref ra))∈l8)) (nd:(l9.map (·.1)).Nodup):dT X ss ⟨l8,(ra,.list l)::oe⟩ QF:=
 ⟨λH Φ k=>d9 λA F s hA Y=>by
  refine Lc Y.freeze ?_;rintro F' le Y' hl back
  have Y2:Holds X.B.P X.B.G X.L F' H ⟨l9,oe⟩ s.heap:=⟨Y'.core,Y'.sub,let ⟨m,hm,r⟩:=Y'.loc;⟨m,hm,λy d hy=>(e y d hy).elim (r y d) λ⟨e1,e2⟩=>by
   refine dQ (r y _ e2) ?_;rintro v h1 h2
   obtain rfl:=dG h2
   exact⟨_,h1,e1▸hl⟩⟩,nd,Y'.objs,Y'.nodup,Y'.apart,Y'.held,Y'.low⟩
  refine cx ((h.run H Φ k).run A F' s hA Y2) (λv s' z=>?_) λx x z=>z
  obtain⟨F1,a2,x1,p6,q⟩:=z;exact⟨F1,a2,x1,eu.trans (s':=s) (O':=X.L::dg oe) (F':=F') ⟨λx x x e=>e,λb hb=>.inl ((fD hb).elim (λe=>e▸.head _) λhb=>.tail _ (.tail _ hb)),λb o e=>(back b o e).elim .inl λz=>.inr (.inl (z▸.tail _ dH)),le,.refl _,rfl⟩ p6,q⟩⟩
end
end
section
inductive Dg:LL->LL->Prop
 | nil:Dg [] []
 | keep {p:Str×cN} {l l':LL}:Dg l l'->Dg (p::l) (p::l')
 | drop {x:Str} {o:cN} {l l':LL}:Dg l l'->Dg ((x,none)::l) ((x,o)::l')
theorem Dg.le {l l':LL} (h:Dg l l'):∀ x d,(x,some d)∈l->(x,some d)∈l':=by
 induction h with
 | nil=>exact λy y h=>h
 | keep _ ih=>exact λx d h=>(fD h).elim (λe=>e▸.head _) λh=>.tail _ (ih x d h)
 | drop _ ih=>exact λx d h=>(fD h).elim (λe=>nomatch e) λh=>.tail _ (ih x d h)
inductive sZ (e:AV) (a:Addr):LL->LL->Prop
 | hit {x:Str} {l l':LL}:Dg l l'->sZ e a ((x,some e)::l) ((x,some (.ref a))::l')
 | keep {p:Str×cN} {l l':LL}:sZ e a l l'->sZ e a (p::l) (p::l')
 | drop {x:Str} {o:cN} {l l':LL}:sZ e a l l'->sZ e a ((x,none)::l) ((x,o)::l')
theorem sZ.le {e:AV} {a:Addr} {l l':LL} (h:sZ e a l l'):∀ x d,(x,some d)∈l->(x,some d)∈l'\/(d=e/\(x,some (.ref a))∈l'):=by
 induction h with
 | hit h=>exact λx d m=>(fD m).elim (λq=>.inr ⟨by injection q with _ q;injection q,by injection q with q _;exact q▸.head _⟩) λm=>.inl (.tail _ (h.le x d m))
 | keep _ ih=>exact λx d m=>(fD m).elim (λq=>.inl (q▸.head _)) λm=>(ih x d m).imp (.tail _) λz=>⟨z.1,.tail _ z.2⟩
 | drop _ ih=>exact λx d m=>(fD m).elim (λq=>nomatch q) λm=>(ih x d m).imp (.tail _) λz=>⟨z.1,.tail _ z.2⟩
section
variable {B:cX} {n:Nat} {f:Addr} {ah:cG} {d6:AV} {T:cF} {rs:cR}
theorem cY.frame (c:cY B n f ah [] λd o=>d=d6/\o=[]):eG B n f ah d6:=λoe A F s vs hA x hv=>
 codeAny_mono (c A F s vs hA ⟨x.core,x.sub,nofun,List.nodup_nil,nofun,x.big⟩ hv) λr s' ⟨v,d,o,F',e,i,y,p,e1,e2⟩=>by
  subst e2;have kp:∀ b o,s.heap.get? b=some o->s'.heap.get? b=some o:=λb o e=>p.keep b o (λh=>nomatch h) e
  have fz:∀ b o,F' b=some o->F b=some o\/s.heap.get? b=none:=λb o e=>(p.frz b o e).imp id λh=>h.resolve_left λh=>nomatch h
  refine⟨v,d,oe,F',e,i,⟨y.core,y.sub,λq hq=>(x.objs q hq).move p.mono λb o z e=>kp b o e,x.nodup,λb hb=>?_,y.big⟩,⟨λb o z e=>kp b o e,λz h=>.inl h,λb o e=>(fz b o e).imp id .inr,p.mono,p.gens,p.os⟩,e1,rfl⟩
  refine aZ.mpr λo e=>?_
  rcases fz b o e with q | q
  . rw[x.apart b hb]at q;exact nomatch q
  . refine dQ (dK.mp hb) ?_;rintro p hp hb
    obtain⟨o,ho⟩:=(x.objs p hp).there b hb;rw[q]at ho;exact nomatch ho
theorem Gi {st dx tx t7 er:Addr} {t:cF} {q:SS} {d6:AV} (hB:f7 B) (e:mr q=d6) (pB r8:OL):cY B 2 126 [.ref st] (pB++oS st dx tx t7 er t q r8) λd o=>d=d6/\o=pB++oS st dx tx t7 er t q r8:=by
 refine cY.perm (o7:=oS st dx tx t7 er t q (r8++pB)) (bg (l₂:=oS st dx tx t7 er t q r8)) (vM hB) λd o ⟨e1,e2⟩=>⟨pB++oS st dx tx t7 er t q r8,?_,e1.trans e,rfl⟩
 rw[e2];exact bg (l₁:=oS st dx tx t7 er t q r8)
theorem JS {n:Nat} (h:n<=16777000):n+0<=16777216:=dt h (by decide)
noncomputable abbrev uO (T:cF) (w1 w2 w3:cN):LL:=[("text",some (.str T)),("tokenizer",w1),("rows",w2),("token",w3)]
noncomputable abbrev rD (T:cF) (w3:Option DV):cU:=[("text",some (.av (.str T))),("tokenizer",some (.slot 0)),("rows",some (.slot 5)),("token",w3)]
noncomputable abbrev IW (rs:cR) (i:Nat):cN:=if i=0 then none else some (rs.getD (i - 1) (0,.none)).2
theorem Fu {w1 w3:cN} {G:Addr} {l:cG}:∀ y d,(y,some d)∈uO T w1 (some (.lst l)) none->(y,some d)∈uO T w1 (some (.ref G)) w3\/(d=.lst l/\(y,some (.ref G))∈uO T w1 (some (.ref G)) w3):=sZ.le (by repeat' first | exact .nil | refine .hit ?_ | refine .keep ?_ | refine .drop ?_)
theorem CH {w1 w2 w3:cN}:((uO T w1 w2 w3).map (·.1)).Nodup:=fQ (by kernel_rfl)
theorem FP (hB:f7 B) (hT:E8 T) (hl:T.length<=200) (c:dL .data .none T rs .data .none []):eG B 8 782 [.str T] (.tup [.lst (rs.map (fh T)),dw T T.length]):=by
 refine cY.frame (cY.drop ?_)
 refine ug ["text"] ["tokenizer","rows","token"] (by rw[hB.K];rfl) (by rw[hB.K];kernel_rfl) (.one λy=>rfl) λL=>?_
 refine Ba (m:=6) (n':=6) (eZ (v:=.ref 762) (by rw[hB.K];kernel_rfl)) (fS (by rw[hB.K];kernel_rfl)) (de (cW dH) dD) (by rw[hB.K];kernel_rfl) (by rw[hB.K];kernel_rfl) (by rw[hB.K];kernel_rfl) (λx dx=>CN hB) rfl (by decide) ?_
 rintro tk k9 _ _ ⟨rfl,st,dx,tx',t7,er',lf,rfl⟩;refine⟨rfl,_,.skip .hit,?_⟩
 have hrl:rs.length<=1000:=dt (bE _ _) (dt c.len (dt (cq (Nat.zero_add _)) (dt (Nat.mul_le_mul_left 4 hl) (by decide))))
 obtain⟨m,hD⟩:=c.does hl ⟨B,st,dx,tx',t7,er',tk,k9,lf,tk,T,mG T,hB,LY hB hT⟩
 refine iA dD (by decide) λG=>⟨_,.skip (.skip .hit),?_⟩
 refine oy (o5:=oS st dx tx' t7 er' T xb [(tk,.inst 762 k9 (CC st 304 tk lf .none))]++[(G,.list [])]) (r8:=[]) (by rw[bX];exact(List.perm_middle (l₁:=[_,_,_,_]) (l₂:=[])).symm) ?_
 refine zb (m:=6) (Rr st dx tx' t7 er' tk k9 lf T zZ) (RF st dx tx' t7 er' tk k9 lf T (mG T true [])) (rs.map (fh T)) (λi=>uO T (some (.ref tk)) (some (.ref G)) (IW rs i))
  (λi=>[(G,.list ((rs.map (fh T)).take i))]) (dR rfl) (cW iL) (Da hB (λqa=>hD qa false xb .none _ (λy=>rfl) .start iO)) ?_ ?_
 . intro i x d g9 a p hx z9;refine Rp z9 ?_;clear z9;rintro qa q f c5 ks r9 hg rfl
   obtain⟨e,he,rfl⟩:∃ e,rs[i]? =some e/\x=fh T e:=by
    rw[bz]at hx
    induction h:rs[i]? using Option.casesOn with
    | none=>rw[h]at hx;contradiction
    | some e=>rw[h]at hx;exact⟨e,rfl,(Option.some.inj hx).symm⟩
   have hg':AV.tup [dw T (T.length - e.1),e.2]=.tup [mr q,d]:=hg
   injection hg' with h1
   injection h1 with h1 h2
   injection h2 with h2 _
   subst h2;have hp:=Gi (B:=B) hB (dx:=dx) (tx:=tx') (t7:=t7) (er:=er') (st:=st) (t:=T) h1.symm [(a,.is p),(G,.list ((rs.map (fh T)).take i))] (Qs st f tk k9 lf qa c5::(qa,.list ks)::r9)
   have htk:((rs.map (fh T)).take (i+1))=(rs.map (fh T)).take i++[.tup [dw T (T.length - e.1),e.2]]:=by
    rw[List.take_add_one,bz,he];rfl
   have hte:IW rs (i+1)=some e.2:=by unfold IW;rw[cC (Nat.succ_ne_zero i),Nat.add_sub_cancel,b8,he];rfl
   have aI:((rs.map (fh T)).take i).length<=16777000:=by rw[List.length_take,bZ];exact dt (Nat.min_le_right _ _) (dt hrl (by decide))
   refine⟨⟨uO T (some (.ref tk)) (some (.ref G)) (some e.2),(a,.is p)::(G,.list ((rs.map (fh T)).take i))::tS st dx tx' t7 er' tk k9 lf qa T q f c5 ks r9⟩,eV (fc (.skip (.skip (.skip .hit)))),?_⟩
   rw[htk,hte];clear hD hx he hg htk hte h1 hrl hT hl c
   generalize(rs.map (fh T)).take i=gl at hp aI |-
   generalize dw T (T.length - e.1)=mk at hp |-
   generalize e.2=tk' at hp |-
   exact ib [tk,st,tx',er',qa,G,a] ⟨rD T (some (.av tk')),(6,.ao (.is p))::(5,.list gl [])::gU dx t7 k9 lf T q f (.av c5) ks [] [],r9⟩ [.call 0 (.av mk) ((6,.ao (.is p))::(5,.list gl [])::gU dx t7 k9 lf T q f (.av c5) ks [] []) r9 2] (fG hB) (_root_.Mine.qa (_root_.Mine.qa trivial hp) (JS aI))
 . intro y z9;refine Rp z9 ?_;clear z9;rintro qa q f c5 ks r9 hq rfl
   rw[bZ,<-show(rs.map (fh T)).length=rs.length from bZ _,bG];have hp:=Gi (B:=B) hB (dx:=dx) (tx:=tx') (t7:=t7) (er:=er') (st:=st) (t:=T) (show mr q=dw T T.length from yf hq) [] (Qs st f tk k9 lf qa c5::(qa,.list ks)::r9)
   clear hD hrl hT hl c hq
   generalize rs.map (fh T)=gl at hp |-
   refine yc (l9:=uO T (some (.ref tk)) (some (.lst gl)) none) ?_ Fu CH
   generalize dw T T.length=mk at hp |-
   exact gi (σ':=⟨uO T (some (.ref tk)) (some (.lst gl)) none,tS st dx tx' t7 er' tk k9 lf qa T q f c5 ks r9⟩) (ib [tk,st,tx',er',qa] ⟨[("text",some (.av (.str T))),("tokenizer",some (.slot 0)),("rows",some (.av (.lst gl))),("token",none)],gU dx t7 k9 lf T q f (.av c5) ks [] [],r9⟩ [.call 0 (.av mk) (gU dx t7 k9 lf T q f (.av c5) ks [] []) r9 2] (fG hB) (_root_.Mine.qa trivial hp)) ⟨_,rfl,[],_,List.Perm.refl _,rfl,rfl⟩
end
end
section
section
variable {pv:Program} {w:World} {A:Around} {s:Shared} {l b:Addr}
theorem Dz {items items2:Array Value} {n n2:Nat} {dd dd2:Option Addr} {sl sl2:cT} (aI:items.size=items2.size) (k:Nat):
 ∀ i:Nat,items.size - i=k->∀ (A:Around) (R:Result->Shared->Prop) (s:Shared),s.heap.get? l=some { cls:=.type "list",dict:=dd,data:=.seq items n,slots:=sl }->s.heap.get? b=some { cls:=.type "list",dict:=dd2,data:=.seq items2 n2,slots:=sl2 }->
  (∀ j (h1:j < items.size) (h2:j < items2.size),uT pv w A.in1 s items[j] items2[j])->R (.ok (.ret (.bool false))) s->
  wpAny (model pv w) A.in1 (Builtin.«list.__eq__.loop» ⟨[.ref l,.ref b,rawInt i,rawInt 3],[]⟩) (λfin s'=>match fin with | .done f=>R (.ok f) s' | .again c'=>c'.quiet=true/\codeAny (model pv w) A c' R s') (λe s'=>R (.error e) s') s:=by
 induction k with
 | zero=>
  intro i hk A R s hl hb he h;obtain⟨hp,g,d,tk,os⟩:=s
  wp_walk using AutoSeq1.wpAny_loadPart' hl,AutoSeq1.wpAny_loadPart' hb
  have hi1:items[((i:Nat):Int).toNat]? =none:=by simp;omega
  have hi2:items2[((i:Nat):Int).toNat]? =none:=by simp;omega
  rw[hi1,hi2]
  wp_walk using AutoSeq1.wpAny_loadPart' hl,AutoSeq1.wpAny_loadPart' hb
  show R (.ok (.ret (.bool (items.size !=items2.size)))) _
  rw[aI]
  simpa using h
 | succ k ih=>
  intro i hk A R s hl hb he h;obtain⟨hp,g,d,tk,os⟩:=s
  wp_walk using AutoSeq1.wpAny_loadPart' hl,AutoSeq1.wpAny_loadPart' hb
  have au:i < items.size:=by omega
  have hlt2:i < items2.size:=by omega
  have hi1:items[((i:Nat):Int).toNat]? =some items[i]:=by simp[au]
  have hi2:items2[((i:Nat):Int).toNat]? =some items2[i]:=by simp[hlt2]
  have hc:((i:Int)+1)=((i+1:Nat):Int):=by push_cast;rfl
  rw[hi1,hi2];refine cw (he i au hlt2 _ _ ?_)
  wp_walk
  rw[hc];exact⟨plainId_quiet MeetsSeq3.plain_eq_loop _,codeAny_builtin MeetsSeq3.entry_eq_loop (by
   rw[Around.under_plainId MeetsSeq3.plain_eq_loop _];exact ih (i+1) (by omega) A R _ hl hb he h)⟩
theorem AG {E:Value->Shared->Prop} {items items2:Array Value} {Q:Value->Shared->Prop} (hl:s.heap.IsList l items) (hb:s.heap.IsList b items2) (aI:items.size=items2.size) (hu:A.units < cLine)
 (he:∀ j (h1:j < items.size) (h2:j < items2.size),uT pv w A.in1 s items[j] items2[j]) (h:Q (.bool false) s):wpAny (model pv w) A (richCompare .NotEq (.ref l) (.ref b)) Q E s:=by
 refine kW (id hl) ?_;rintro ⟨cls,dd,data,sl⟩ ho hc ⟨n,hd⟩
 refine kW (id hb) ?_;rintro ⟨cls2,dd2,data2,sl2⟩ ho2 hc2 ⟨n2,hd2⟩
 simp only at hc hd hc2 hd2
 subst hc hd hc2 hd2
 have f3:=AutoSeq1.sub_list_list
 have hne:¬ (items.size !=items2.size)=true:=by simp[aI]
 have hT:s.TypeIs (.ref l) "list":=⟨_,ho,rfl⟩
 refine wpAny_richCompare_same_room (op:=.NotEq) hT ⟨_,ho2,rfl⟩ F.slot_list_ne (wpAny_call (codeAny_call_builtin F.slot_list_ne.plain F.entry_list_ne (F.slot_list_ne.check _ _ _ _ _ _ _ _ hT (F.args_list_ne_2 _ _) ?_))) hu
 obtain⟨hp,g,d,tk,os⟩:=s
 wp_walk using AutoSeq1.wpAny_loadPart' ho,AutoSeq1.wpAny_loadPart' ho2
 exact⟨plainId_quiet MeetsSeq3.plain_eq_loop _,codeAny_builtin MeetsSeq3.entry_eq_loop (by
  rw[Around.under_plainId MeetsSeq3.plain_eq_loop _];exact Dz aI _ 0 rfl A (wants (λv s'=>v≠.notImplemented/\Q v s') E) _ ho ho2 he ⟨(λx=>nomatch x),h⟩)⟩
end
section
variable {B:cX} {n:Nat} {L:Addr} {H:HL} {σ:St} {a b:Value} {d:AV}
theorem BA {y:Addr} {l:cG} {Φ:PV} (ma:(a,.lst l)∈H) (mb:(b,.ref y)∈H) (my:(y,AO.list l)∈σ.objs) (f:∀ d∈l,kF 50 d) (h:∀ v,Φ v (.bool false) σ):WV B n L (compareOp .NotEq a b) H σ Φ:=d9 λA F s hA X=>by
 refine jS (eU (X.hold ma)) ?_;rintro x vs m rfl h1 h2
 obtain rfl:=dG (X.hold mb)
 refine iM (X.objs _ my) ?_;rintro us k k1 k2
 have e1:=h2.length
 have e2:=k2.length
 have hu:=hA.units
 have hc:cLine=9900:=rfl
 refine AG (items:=vs.toArray) (items2:=us.toArray) ⟨_,X.sub _ _ h1,rfl,m,rfl⟩ ⟨_,k1,rfl,k,rfl⟩ (by simp;omega) (by rw[hc];omega) (λj j1 j2=>?_) (.here X ⟨_,.bool false,h _⟩)
 have hj:j < l.length:=by simp at j1;omega
 have g1:=h2.get hj (by simpa using j1)
 have g2:=k2.get hj (by simpa using j2)
 simp only[List.getElem_toArray]
 exact Fc (w:=B.w) X.sub 50 (f _ (List.getElem_mem hj)) g1 g2 (by show A.units+1+2*50 < cLine;rw[hc];omega)
theorem GD {e:AV} {p q:PyData} {c:Bool} {Φ:PV} (ma:(a,d)∈H) (mb:(b,e)∈H) (hd:iZ d=some p) (he:iZ e=some q) (sp:SeqAt.shaped p=true) (sq:SeqAt.shaped q=true) (hc:(!PyData.eqv p q)=c)
 (h:∀ v,Φ v (.bool c) σ):WV B n L (compareOp .NotEq a b) H σ Φ:=d9 λA F s hA X=>by
 obtain⟨as,ra⟩:=jm X.sub (X.hold ma) hd;obtain⟨bs,rb⟩:=jm X.sub (X.hold mb) he;refine ne_dataH ra rb sp sq ?_ (.here X ⟨_,.bool _,hc▸h _⟩)
 have:=hA.units
 show A.units+64 < 9900
 omega
theorem HX {o i:Value} {v7 slice:Expr} {l:cG} {Φ:PV} (mo:(o,.lst (l++[d]))∈H) (mi:(i,.int (-1))∈H) (hz:l.length<=16777000) (h:∀ v,Φ v d σ)
 (hs:∃ ops,subscripted slice false o i=operate ops (getItem o i)):WV B n L (subscriptTail v7 slice o i) H σ Φ:=by
 refine gv (T:="list") (λF s X=>?_) slot_list_getitem.lookup (d9 λA F s hA X=>?_) hs
 . refine jS (eU (X.hold mo)) ?_;rintro a vs m rfl h1 h2;exact(fy X.sub h1).typeIs
 . refine jS (eU (X.hold mo)) ?_;rintro a vs m rfl h1 h2
   obtain⟨u,rfl⟩:=dk (X.hold mi);have am:=h2.length
   rw[bt,bd]at am
   refine dQ (kY.nth h2 (k:=l.length) (d:=d) (by simp)) ?_;rintro y hy hyd
   refine wpAny_getItem_list_neg (l:=a) (items:=vs.toArray) (fy X.sub h1) (by decide) (by simp;omega) (by decide) ?_ (.here X ⟨d,hyd,h _⟩)
   have:((-1:Int)+(vs.toArray.size:Nat)).toNat=l.length:=by simp;omega
   rw[this]
   simpa using hy
end
section
variable {X:Cx} {σ:St} {l8:LL} {oe:OL} {l:cG} {d:AV} {e1 e2:Expr}
theorem AI {y:Addr} (my:(y,AO.list l)∈σ.objs) (f:∀ d∈l,kF 50 d):fW X .NotEq (.lst l) (.ref y) false σ:=⟨λx x x x ma mb h=>BA ma mb my f h⟩
theorem B0 {i j:Int}:fW X .NotEq (.tup [.int i,.int j]) (.tup [.int i,.int j]) false σ:=⟨λy y y y ma mb h=>GD ma mb rfl rfl (by simp[SeqAt.shaped,PyData.canLay0,PyData.canLayAll0,PyData.depth,PyData.depthAll]) (by simp[SeqAt.shaped,PyData.canLay0,PyData.canLayAll0,PyData.depth,PyData.depthAll]) (by simp[PyData.eqv,PyData.eqvAll]) h⟩
theorem G3 {p q:Bool}:fW X .NotEq (.bool p) (.bool q) (p !=q) σ:=⟨λy y y y ma mb h=>GD ma mb rfl rfl rfl rfl (cB (!·) (uS p q)) h⟩
theorem IJ (hz:l.length<=16777000) (hs:∀ o i,∃ ops,subscripted e2 false o i=operate ops (getItem o i):=by exact λy y=>⟨_,rfl⟩):gL X e1 e2 (.lst (l++[d])) (.int (-1)) d σ:=⟨λy y y y mo mi h=>HX mo mi hz h (hs _ _)⟩
end
end
section
theorem F9 {X:Cx} {ss:cH} {Q:PF} {l8 l9:LL} {oe:OL} {u v:Str} {ca cb:Str} {la lb l:cF} {p q ap pn pz:Pos} {ka kb:Nat} {pa pb:Pos} {Φ:PF} (ea:ca=S la) (eb:cb=S lb) (m:(v,some (.str l))∈l8) (sl:jV u (.str (gZ l la lb)) l8 l9)
 (hz:l.length<=1048576) (h:dT X ss ⟨l9,oe⟩ Q) (hq:∀ f σ',Q f σ'->Φ f σ') (hb:autoParam (lb.length<=14) bD) (hk:autoParam (X.env.scope.kind=.function) bR) (hy:autoParam (X.env.kindOf v=some .local) bK) (hx:autoParam (X.env.kindOf u=some .local) bK) (hL:autoParam (X.env.locals=X.L) bR) (hd:autoParam ((v==("__debug__":Str))=false) bK)
 (hp:autoParam ((X.env.scope.kind==.class||(X.env.scope.kind==.module&&X.env.locals !=X.env.globals))=false) bR) (hne:autoParam ((S la==S lb)=false) bD) (aM:autoParam ((ap.endLine==pz.line)=true) bR)
 (hs:autoParam (swapsWith (.Call (.Attribute (.Name v q) "replace" ap) [.Constant (.str ca) ka pa,.Constant (.str cb) kb pb] [] pz) (some (.Name u p)) pn.line X.env=pure false) bR):
 IR X.B X.n X.L (execs (.Assign [.Name u p] (.Call (.Attribute (.Name v q) "replace" ap) [.Constant (.str ca) ka pa,.Constant (.str cb) kb pb] [] pz) pn::ss) X.env) [] ⟨l8,oe⟩ Φ:=rk ea eb m sl hz hb hk hy hx hL hd hp hne aM (G9 (h.run [] Φ hq)) hs
theorem fE.five {B:cX} {fd:FuncData} {p1 p2 p3 p4 p5:Str} {d1 d2 d3 d4 d5:AV} (h:∀ v1 v2 v3 v4 v5,bindArgs fd ⟨[v1,v2,v3,v4,v5],[]⟩=pure [(p1,v1),(p2,v2),(p3,v3),(p4,v4),(p5,v5)]):fE B fd [p1,p2,p3,p4,p5] [d1,d2,d3,d4,d5] [d1,d2,d3,d4,d5]:=λF s vs hv y y=>by
 obtain⟨v1,_,rfl,q1,hv⟩:=iq hv;obtain⟨v2,v3,v4,v5,rfl,q2,q3,q4,q5⟩:=Pq hv;exact⟨_,.cons q1 (.cons q2 (.cons q3 (.cons q4 (.cons q5 .nil)))),.of_eq (h _ _ _ _ _)⟩
noncomputable def pq (t:Bool) (p:cF×cF):AV:=Bool.casesOn t (.lst [.str p.1,.str p.2]) (.tup [.str p.1,.str p.2])
noncomputable abbrev rx (i:Int) (nm:cF) (d:AV) (sc:Bool) (r:FL):AV:=.dct (("type",.int i)::("name",.str nm)::("data",d)::("selfClosing",.bool sc)::r)
structure ny (p op nm:cF) (ps:PL):Prop where
 lp:p.length<=1000
 ln:nm.length<=1000
 lo:op.length<=2
 lps:ps.length<=1000
 lf:(fV ps).length<=1000
 sp:zD p
 sn:zD nm
 sf:zD (fV ps)
noncomputable abbrev Po (p op:cF) (tk pr:AV) (cl:Bool) (w1 w2 w3 w4 w5:cN):LL:=[("piece",some (.str p)),("token",some tk),("opening",some (.str op)),("pairs",some pr),("clean",some (.bool cl)),("small",w1),("slash",w2),("place",w3),("key",w4),("value",w5)]
noncomputable abbrev xQ (p op nm:cF) (ps:PL) (sc cl t:Bool) (i:Int) (d:AV) (r:FL) (S:Bool) (oe:OL):St:=⟨Po p op (rx i nm d sc r) (.lst (ps.map (pq t))) cl (some (.str (dn p))) (some (.bool S)) none none none,oe⟩
section
variable {B:cX} {p op nm:cF} {ps:PL} {sc cl t:Bool} {i:Int} {d:AV} {r:FL}
theorem P4 (h:zD p):gZ p [81] [113]=dn p:=by rw[tm];exact List.map_congr_left h
theorem ue {q:cF×cF} (h:q∈ps):(q.1++q.2).length<=(fV ps).length:=by
 refine List.Sublist.length_le (List.sublist_flatten_of_mem (cg.mpr ⟨q,h,rfl⟩))
theorem lO {x y:cF} (h1:zD x) (h2:zD y):zD (x++y):=λc hc=>(bT.mp hc).elim (h1 c) (h2 c)
theorem iH.cast {B:cX} {n:Nat} {t6 ee:Expr} {i5:cI} {c9:Addr->Env} {xs:cL} {a a' d d':AV} {k:Bool} {oe:OL} (e1:a=a') (e2:d=d') (h:iH B n t6 ee i5 c9 xs a' k d' oe):iH B n t6 ee i5 c9 xs a k d oe:=e1▸e2▸h
theorem O5 {X:Cx} {σ a1 a2:St} {t1 t2:Expr} {k:Nat} {pn:Pos} {q:cF×cF} (h1:tI X t1 (.str q.1) σ a1) (h2:tI X t2 (.str q.2) a1 a2) (he:autoParam (assignEach [t1,t2] X.env=[(false,assign t1 X.env),(false,assign t2 X.env)]) bR):tI X (.Tuple [t1,t2] k pn) (pq t q) σ a2:=by
 rcases t with _ | _
 . exact Bp h1 h2 he
 . exact y8 h1 h2 he
theorem nP {t x:cF} {k:Nat}:k+x.length<=gO t k x:=bk (qm _ _) _
theorem rQ {t u:cF}:∀ (qs:PL) (k:Nat),k<=oF t u k qs
 | [],k=>cv _
 | q::qs,k=>dt (dt (dt (bE _ _) nP) (dt (bE _ _) nP)) (rQ qs (gO u (gO t k q.1) q.2))
noncomputable def nJ (p nm:cF) (ps:PL) (j:Nat):Nat:=oF (dn p) p (gO (dn p) 1 nm) (ps.take j)
theorem CQ (j:Nat):nJ p nm ps j<=oF (dn p) p (gO (dn p) 1 nm) ps:=by
 have e:oF (dn p) p (gO (dn p) 1 nm) (ps.take j++ps.drop j)=oF (dn p) p (nJ p nm ps j) (ps.drop j):=List.foldl_append
 rw[List.take_append_drop]at e
 rw[e];exact rQ _ _
noncomputable abbrev OE (p op nm:cF) (ps:PL) (sc cl t:Bool) (i:Int) (d:AV) (r:FL) (S:Bool) (oe:OL) (k:Nat) (w1 w2:cN):St:=⟨Po p op (rx i nm d sc r) (.lst (ps.map (pq t))) cl (some (.str (dn p))) (some (.bool S)) (some (.int k)) w1 w2,oe⟩
noncomputable abbrev tz (B:cX) (L:Addr):Cx:=⟨B,1,L,envOf "_law_tag" (il iB) L 813 (.ref 812)⟩
variable {L:Addr} {S:Bool} {oe:OL} {Q:PF}
theorem Qu (hB:f7 B) (g:ny p op nm ps) (h1:cl=true->(dn p).take (op++nm).length=op++nm) (hQ:dT (tz B L) ((fj iB).drop 3) (xQ p op nm ps sc cl t i d r S oe) Q):dT (tz B L) ((fj iB).drop 2) (xQ p op nm ps sc cl t i d r S oe) Q:=by
 have hlz:(dn p).length<=16777216:=by rw[gB];exact dt g.lp (by decide)
 have hon:op.length+nm.length<=16777216:=dt (Nat.add_le_add g.lo g.ln) (by decide)
 have hon':(op++nm).length<=16777216:=bt▸hon
 refine dJ (nc (x:=[_]) (a1:=xQ p op nm ps sc cl t i d r S oe) ?_ gM) hQ
 rcases cl with _ | _
 . exact lP [.br false] (fG hB) (qa trivial ff)
 . have e:=h1 rfl
   rw[<-kL]at e
   exact lP [.br true,.br false] (fG hB) (qa (qa (qa (qa (qa (qa trivial tt) hon) hon') hlz) hon) (show(!decide (sl (dn p) none (some ((op++nm).length:Int))=op++nm))=false by rw[cc e];rfl))
theorem QD (hB:f7 B) (g:ny p op nm ps) (h2:cl=true->eH p=eH ([60]++nm++fV ps++[62])) (hQ:dT (tz B L) ((fj iB).drop 4) (xQ p op nm ps sc cl t i d r S oe) Q):dT (tz B L) ((fj iB).drop 3) (xQ p op nm ps sc cl t i d r S oe) Q:=by
 have hlps:(ps.map (pq t)).length<=16777000:=by rw[bZ];exact dt g.lps (by decide)
 refine dJ (nc (x:=[_]) (a1:=xQ p op nm ps sc cl t i d r S oe) ?_ gM) hQ
 . rcases cl with _ | _
   . exact lP [.br false] (fG hB) (qa trivial ff)
   . have hb:=h2 rfl
     clear h2 hQ;have hf:∀ q∈ps,(q.1++q.2).length<=1000:=λq hq=>dt (ue hq) g.lf
     have ga:dZ (λy=>true) (λi=>(ps.map λq=>AV.str (q.1++q.2)).getD i .any) (ps.map (pq t)).length=ps.map λq=>AV.str (q.1++q.2):=by
      rw[show(ps.map (pq t)).length=(ps.map λq=>AV.str (q.1++q.2)).length from by rw[bZ,bZ]];exact jo _
     have hX:([60]++nm++fV ps).length<=3000:=by
      rw[bt,bt];exact Nat.add_le_add (Nat.add_le_add (show 1<=1000 by decide) g.ln) g.lf
     have h1:([60]:cF).length+nm.length<=16777216:=dt (bo g.ln 1) (by decide)
     have h2:([60]++nm).length+(fV ps).length<=16777216:=by rw[<-bt];exact dt hX (by decide)
     refine iV (mJ (a1:=xQ p op nm ps sc true t i d r S oe) (lP [.br true] (fG hB) (qa trivial tt)) rfl (kh (eY
      (f8 (eZ (v:=.ref 808) (by rw[hB.K];kernel_rfl)) (fS (by rw[hB.K];kernel_rfl)) (de (cW dH) dD) (Co (zP hB (dt g.lp (by decide)) g.sp _) (cv 1)))
      (f8 (eZ (v:=.ref 808) (by rw[hB.K];kernel_rfl)) (fS (by rw[hB.K];kernel_rfl)) (de (nf (nf (a:=.str ([60]++nm)) (b:=.str (fV ps)) (LR (σ':=xQ p op nm ps sc true t i d r S oe) [] (fG hB) (qa trivial h1)) (n8 (eN su) (qR PySem.F.slot_str_join PySem.F.type_str_join) gt (de
       (pI (N:=(ps.map (pq t)).length) (d:=.lst (ps.map (pq t))) ["key","value"] (λy=>true) (λi=>(ps.map λq=>AV.str (q.1++q.2)).getD i .any) (dt hlps (by decide)) (cW uD) (λxv=>jY) ?_ rfl) dD)
       (by rw[ga];exact ot (ms:=ps.map λq=>q.1++q.2) (mX _ _) (dt g.lf (by decide)))) (rK h2)) (eN (l:=[62]) (by kernel_rfl)) (rK (dt (bk hX 1) (by decide)))) dD)
       (Co (zP hB (by rw[bt];exact dt (bk hX 1) (by decide)) (lO (lO (lO (sJ (by decide)) g.sn) g.sf) (sJ (by decide))) _) (cv 1))) wZ) (by rw[cc hb];rfl)))
     intro i hi;rw[bZ]at hi
     refine iH.cast (a':=pq t ps[i]) (d':=.str (ps[i].1++ps[i].2)) (by rw[b8,bz,b9 hi];rfl) (by rw[b8,bz,b9 hi];rfl) ?_
     have hl:=hf _ (List.getElem_mem hi)
     generalize ps[i]=q at hl |-
     exact⟨λC p q'=>⟨[("key",some (.str q.1)),("value",some (.str q.2))],[("key",some (.str q.1)),("value",some (.str q.2))],O5 (eV (fc .hit)) (eV (fc (.skip .hit))),oP,λy=>nf (cW dH) (cW iL) (rK (by rw[<-bt];exact dt hl (by decide)))⟩⟩
theorem R5 {X:Cx} {σ:St} {e1 e2:Expr} {q:cF×cF} (hs:∀ o i,∃ ops,subscripted e2 false o i=operate ops (getItem o i):=by exact λy y=>⟨_,rfl⟩):gL X e1 e2 (pq t q) (.int 1) (.str q.2) σ:=by
 rcases t with _ | _
 . exact ly (j:=1) (by decide) rfl rfl (show 2<=16777216 by decide) hs
 . exact FN (k:=1) rfl (show 2<=16777000 by decide) hs
theorem PR (hB:f7 B) (g:ny p op nm ps) (h3:¬ (sc≠S/\(S=false\/cl=true/\∀ qs x v,ps=qs++[(x,v)]->v.getLast?≠some 47))) (hQ:dT (tz B L) ((fj iB).drop 5) (xQ p op nm ps sc cl t i d r S oe) Q):dT (tz B L) ((fj iB).drop 4) (xQ p op nm ps sc cl t i d r S oe) Q:=by
 have hlps:(ps.map (pq t)).length<=16777000:=by rw[bZ];exact dt g.lps (by decide)
 refine dJ (nc (x:=[_]) (a1:=xQ p op nm ps sc cl t i d r S oe) ?_ gM) hQ
 clear hQ
 by_cases e:sc=S
 . subst e
   exact iV (kh (eY (i8 (cW iL) (eN (l:=sg "selfClosing") (qr _)) (pH (d:=.bool sc) rfl)) (cW Jt) G3) (bne_self_eq_false sc))
 have h4:=λq=>h3 ⟨e,q⟩
 obtain rfl:S=true:=by rcases S with _ | _;exact cD (.inl rfl) h4;rfl
 refine iV (mJ (eY (i8 (cW iL) (eN (l:=sg "selfClosing") (qr _)) (pH (d:=.bool sc) rfl)) (cW Jt) G3) (bne_iff_ne.mpr e) (kh (vA (jX (uz (nq (cW Jt) kf)) rfl (jX (c:=false) (a1:=xQ p op nm ps sc cl t i d r true oe) ?_ rfl lz))) rfl))
 rcases cl with _ | _
 . exact iV (kh (nq (cW Cm) kf) rfl)
 obtain⟨qs,x,v,rfl,hv⟩:∃ qs x v,ps=qs++[(x,v)]/\v.getLast? =some 47:=Classical.byContradiction λn=>h4 (.inr ⟨rfl,λqs x v e hv=>n ⟨qs,x,v,e,hv⟩⟩)
 have hvl:v.length<=16777216:=dt (dt (bY _ _) (cq bt.symm)) (dt (ue (q:=(x,v)) (ps:=qs++[(x,v)]) (bT.mpr (.inr dH))) (dt g.lf (by decide)))
 have hsl:sl v (some (-1)) none=[47]:=by
  obtain⟨w,rfl⟩:=List.getLast?_eq_some_iff.mp hv
  rw[qU,bG];show List.drop ((w++[47]).length - 1) _ = _
  rw[bt,show w.length+[47].length - 1=w.length from rfl,List.drop_left]
 clear h3 h4 hv g;unfold xQ;rw[show(qs++[(x,v)]).map (pq t)=qs.map (pq t)++[pq t (x,v)]from bV]at hlps |-
 generalize qs.map (pq t)=ql at hlps |-
 have hql:ql.length<=16777000:=dt (dt (bE _ _) (cq bt.symm)) hlps
 exact iV (mJ (nq (cW Cm) kf) rfl (kh (vA (jX (uz (nq (cW uD) (vC (dt hlps (by decide))))) (by rw[List.isEmpty_eq_false_iff.mpr (List.append_ne_nil_of_right_ne_nil _ (bN _ _))];rfl)
  (jX (eY (gg (i:=some (-1)) (j:=none) (i8 (i8 (cW uD) (qo f6) (IJ hql)) f6 R5) (fo (qo f6)) gW rfl rfl hvl) (eN (l:=[47]) (by kernel_rfl)) wZ) (by rw[cc hsl];rfl) lz))) rfl))
theorem Qo (hB:f7 B) (g:ny p op nm ps) (h4:oF (dn p) p (gO (dn p) 1 nm) ps < p.length) (h5:p.drop (p.length - 1)=[62]):dT (tz B L) ((fj iB).drop 5) (xQ p op nm ps sc cl t i d r S oe) λf σ'=>∃ d,f=.ret d/\d=.bool true/\σ'.objs=oe:=by
 have hz:p.length<=16777216:=dt g.lp (by decide)
 have hk0:=dt (rQ (t:=dn p) (u:=p) ps (gO (dn p) 1 nm)) (cm h4)
 refine jp (a1:=OE p op nm ps sc cl t i d r S oe (gO (dn p) 1 nm) none none) 1 (jH [.cs (.av (.int (gO (dn p) 1 nm:Nat))) [] 1] (fG hB) (qa trivial λR=>qt (k:=1) (oe:=R) hB (by rw[gB];exact g.lp) g.ln (by decide))) ?_
 refine pE (λσ=>∃ w1 w2,σ=OE p op nm ps sc cl t i d r S oe (nJ p nm ps ps.length) w1 w2) (xL (N:=(ps.map (pq t)).length) (i3:=λi=>(ps.map (pq t)).getD i .any) (λj σ=>∃ w1 w2,σ=OE p op nm ps sc cl t i d r S oe (nJ p nm ps j) w1 w2) (cW (d:=.lst (ps.map (pq t))) uD) (λxv=>jY) ⟨none,none,rfl⟩ (λσ h=>by rw[bZ]at h;exact⟨rfl,h⟩) ?_) ?_
 . rintro j _ os a q hj ⟨w1,w2,e0⟩
   obtain rfl:_ = _:=cB St.loc e0
   obtain rfl:oe=os:=(cB St.objs e0).symm
   clear e0;rw[bZ]at hj
   have e1:(ps.map (pq t)).getD j .any=pq t ps[j]:=by rw[b8,bz,b9 hj];rfl
   have e2:nJ p nm ps (j+1)=gO p (gO (dn p) (nJ p nm ps j) ps[j].1) ps[j].2:=by
    unfold nJ oF;rw[List.take_add_one,b9 hj,List.foldl_append];rfl
   have e3:nJ p nm ps (j+1)<=1000:=dt (dt (CQ (j+1)) (cm h4)) g.lp
   rw[e1,e2];rw[e2]at e3
   clear e1 e2
   generalize nJ p nm ps j=k at e3 |-
   generalize ps[j]=w at e3 |-
   have f2:=nP (t:=p) (k:=gO (dn p) k w.1) (x:=w.2)
   have f1:=nP (t:=dn p) (k:=k) (x:=w.1)
   have f3:=dt f2 e3
   have f4:=dt f1 (dt (bE _ _) f3)
   refine⟨OE p op nm ps sc cl t i d r S ((a,.is q)::oe) k (some (.str w.1)) (some (.str w.2)),O5 (eV (fc (.skip (.skip (.skip (.skip (.skip (.skip (.skip (.skip .hit)))))))))) (eV (fc (.skip (.skip (.skip (.skip (.skip (.skip (.skip (.skip (.skip .hit))))))))))),?_⟩
   refine gi (σ':=OE p op nm ps sc cl t i d r S ((a,.is q)::oe) (gO p (gO (dn p) k w.1) w.2) (some (.str w.1)) (some (.str w.2))) (jH [.cs (.av (.int (gO (dn p) k w.1:Nat))) [] 1,.cs (.av (.int (gO p (gO (dn p) k w.1) w.2:Nat))) [] 1] (fG hB) (qa (qa trivial λR=>qt (oe:=R) hB (by rw[gB];exact g.lp) (dt (bY _ _) f4) (dt (dt (bE _ _) f4) (by decide))) λR=>qt (oe:=R) hB g.lp (dt (bY _ _) f3) (dt (dt (bE _ _) f3) (by decide)))) (.inl ⟨rfl,_,_,rfl,_,_,rfl⟩)
 . rintro σ ⟨w1,w2,rfl⟩
   have e0:nJ p nm ps ps.length < p.length:=by unfold nJ;rw[bG];exact h4
   have e1:sl p (some (-1)) none=[62]:=by rw[qU,bG];exact h5
   generalize nJ p nm ps ps.length=k at e0 |-
   refine gi (jN (jG (tM (kI (oW (cW Pk) (f8 (eJ PyProof.Rows.Boot.«len» (by rw[hB.K];kernel_rfl)) gt (de (cW dH) dD) (oZ hz)) EW) (kI (oW (gg (i:=some (-1)) (j:=none) (cW dH) (fo (qo f6)) gW rfl rfl hz) (eN (l:=[62]) (by kernel_rfl)) iT)
    (lZ (f8 (eJ PyProof.Rows.Boot.«isinstance» (by rw[hB.K];kernel_rfl)) gt (de (i8 (cW iL) (eN (l:=sg "selfClosing") (qr _)) (pH (d:=.bool sc) rfl)) (de (RR (eJ PySem.Pv.boot_bool (by rw[hB.K];kernel_rfl))) dD)) AY))))))) ⟨_,rfl,?_,rfl⟩
   rw[cc (Int.ofNat_lt.mpr e0),cc e1];rfl
theorem Gx (hB:f7 B) (h:wQ p op nm sc cl ps) (g:ny p op nm ps):eG B 2 813 [.str p,rx i nm d sc r,.str op,.lst (ps.map (pq t)),.bool cl] (.bool true):=λoe=>by
 refine NW (b3:=fj iB) (si:=il iB) ["piece","token","opening","pairs","clean"] ["small","slash","place","key","value"] "piece" (.str p) (by rw[hB.K];rfl) (by rw[hB.K];kernel_rfl) (.five λy y y y y=>rfl) (eb:=rfl) (es:=rfl) (λL=>?_) dH
 refine F9 (X:=tz B L) (Q:=λf σ'=>∃ d,f=.ret d/\d=.bool true/\σ'.objs=oe) (la:=[81]) (lb:=[113]) (l:=p) (l9:=Po p op (rx i nm d sc r) (.lst (ps.map (pq t))) cl (some (.str (dn p))) none none none none) (by kernel_rfl) (by kernel_rfl) dH (by rw[P4 g.sp];exact .skip (.skip (.skip (.skip (.skip .hit))))) (dt g.lp (by decide)) ?_ (λf σ' ⟨d,e,q⟩=>by subst e;exact q)
 have hz:p.length<=16777216:=dt g.lp (by decide)
 have eS:sl p (some (-2)) none=p.drop (p.length - 2):=by rw[qU,bG];rfl
 refine jp (a1:=⟨Po p op (rx i nm d sc r) (.lst (ps.map (pq t))) cl (some (.str (dn p))) (some (.bool (decide (sl p (some (-2)) none=[47,62])))) none none none,oe⟩) 1 (jH [] (fG hB) (qa trivial hz)) ?_
 rw[eS];exact Qu hB g h.t1 (QD hB g h.t2 (PR hB g h.t3 (Qo hB g h.t4 h.t5)))
end
end
section
theorem dT.wk {X:Cx} {ss:cH} {σ:St} {Q R:PF} (h:dT X ss σ R) (k:∀ f σ',R f σ'->Q f σ'):dT X ss σ Q:=⟨λH Φ w=>h.run H Φ λf σ' z=>w _ _ (k _ _ z)⟩
theorem y9 {X:Cx} {σ:St} {x y:cF} (h:x <:+:y):fW X .In (.str x) (.str y) true σ:=⟨λH va vb Φ ma mb k=>d9 λA F s hA X=>by
 obtain⟨t1,rfl⟩:=dy (X.hold ma);obtain⟨t2,rfl⟩:=dy (X.hold mb);have e:(!(Builtin.Str.occurrences (S y) (S x) 0 (S y).length 1).isEmpty)=true:=by
  obtain⟨a,b,rfl⟩:=h;refine(StrLaws.found_iff _ _).mpr ⟨a.length,?_,?_⟩
  . rw[dF,dF,bt,bt];exact bE _ _
  . rw[StrLaws.subAt_eq,dF]
    show(((a++x++b).drop a.length).take x.length==x)=true
    rw[bB,List.drop_left,List.take_left];exact bM x
 with_reducible exact in_str (.here X ⟨_,.bool _,e▸k _⟩)⟩
theorem ic {cells:List (Str×Addr)} {ρ:cK} {a:Str} {i:Nat} (h1:cells.lookup a=some (dO ρ i)) (hi:Nat.blt i ρ.length=true):∀ x k,gK x [(a,i)]=some k->cells.lookup x=some (dO ρ k)/\k < ρ.length:=λx k e=>by
 refine dQ (bb.mp e) ?_;rintro p h q
 obtain rfl:=bq.mp (List.mem_of_find?_eq_some h)
 have e1:=cz (List.find?_some (p:=λp:Str×Nat=>p.1==x) h)
 subst q e1
 exact⟨h1,mP hi⟩
theorem qv {x:Str} {d:AV}:∀ {ps:cL} {ds:cG},(x,some d)∈eP ps ds->(x,d)∈ps.zip ds
 | [],_,m=>nomatch m
 | _ ::_,[],m=>nomatch m
 | p ::ps,e::ds,m=>by
  rcases fD m with q | q
  . injection q with q1 q2
    obtain rfl:=Option.some.inj q2
    exact q1▸.head _
  . exact .tail _ (qv q)
theorem uy {B:cX} {n:Nat} {oe:OL} {n5 qc:Str} {pt:Arguments} {b0 b3:cH} {se si:Scope} {dV kV d8 pm c6 ct oc:Value} {an od:Option Addr} {ol:cT} {f:Addr} {ah:cG} {P:AV->OL->Prop} (ps xs cs:cL)
 (ho :B.K.lookup f=some ⟨oc,od,.func (fnOf n5 qc pt b0 se dV kV d8 pm an c6 ct),ol⟩) (aP:codeIn B.K c6 qc=true)
 (aG :∀ vs,vs.length=ah.length->bindArgs (fnOf n5 qc pt b0 se dV kV d8 pm an c6 ct) ⟨vs,[]⟩=pure (ps.zip vs)) (hl:ps.length=ah.length)
 (h : ∀ L,dT ⟨B,n,L,envOfC qc si L f c6⟩ b3 ⟨eP ps ah++bare xs,fA (L+1) (bare cs)++oe⟩ λf σ'=>∃ d,f=.ret d/\P d σ'.objs)
 (eb :b0=b3) (es:se=si) (hcs:∀ L,(fP (L+1) (bare cs)).reverse=cellsFrom (L+1) si.names []:=by exact λw=>rfl) (hn:autoParam ((ps++xs).Nodup) bD) (hnc:autoParam (cs.Nodup) bD)
 (aR :autoParam (ps.all (λy=>si.names.lookup y==some .local)=true) bK) (hcc:autoParam (cs.all (λy=>si.names.lookup y==some .cell&& !ps.contains y)=true) bK)
 (aH :autoParam (si.isCoroutine=false) bR) (aC:autoParam (si.isGenerator=false) bR) (hk:autoParam (si.kind=.function) bR):cY B (n+1) f ah oe P:=by
 have lo:∀ x∈ps,si.names.lookup x=some .local:=λx hx=>cz (List.all_eq_true.mp aR x hx)
 refine E4 ps (eP ps ah++bare xs) (bare cs) ho aP aG hl rfl (λL=>(h L).run _ _ λf σ' ⟨d,e,q⟩=>by subst e;exact q) (λx d hm=>?_) ?_ hcs ?_ (λx d hm=>?_) (bx.mp hn).1 (λx hx=>.inl (lo x hx)) aH aC hk eb es
 . rcases bT.mp hm with hm | hm
   . have hm:=qv hm
     exact⟨lo x (List.of_mem_zip hm).1,hm⟩
   . exact(jh hm).elim
 . rw[bV,kG hl,iw];exact hn
 . rw[iw];exact hnc
 . obtain⟨y,hy,e⟩:=cg.mp hm
   obtain⟨rfl,rfl⟩:=Prod.mk.inj e;have z:=List.all_eq_true.mp hcc y hy
   exact⟨cz (dE z),λq=>by rw[List.contains_iff_mem.mpr q]at z;exact nomatch (dX z)⟩
noncomputable abbrev hL (p:cF) (tk:AV) (cl:Bool) (w:cN):LL:=[("piece",some (.str p)),("token",some tk),("clean",some (.bool cl)),("kind",w)]
noncomputable abbrev hD (p:cF) (tk:AV) (cl:Bool) (w:Option DV):cU:=[("piece",some (.av (.str p))),("token",some (.av tk)),("clean",some (.av (.bool cl))),("kind",w)]
section
variable {B:cX} {p x nm:cF} {tk:AV} {ps:PL} {cl sc:Bool} {L:Addr}
noncomputable abbrev PP (B:cX) (L:Addr):Cx:=⟨B,2,L,envOfC "_law_holds" (il oT) L 818 (.ref 817)⟩
theorem xD (hB:f7 B) (h:∀ L,dT (PP B L) (fj oT) ⟨hL p tk cl none,[(L+1,.cell none)]⟩ λf y=>f=.ret (.bool true)):eG B 3 818 [.str p,tk,.bool cl] (.bool true):=by
 refine cY.frame (cY.drop ?_)
 exact uy (b3:=fj oT) (si:=il oT) (ah:=[.str p,tk,.bool cl]) ["piece","token","clean"] ["kind"] ["data"] (by rw[hB.K];rfl) (by rw[hB.K];kernel_rfl) (Qf λy y y=>rfl) rfl (λL=>(h L).wk λf σ' e=>⟨_,e,[],σ'.objs,.refl _,rfl,rfl⟩) rfl rfl
theorem yC {K:Int} (hB:f7 B) (hK:K=1\/K=2) (hp:p.length<=1000) (hn:x≠[]) (hs:x <:+p) (hc:cl=true->p=x):eG B 3 818 [.str p,.dct [("type",.int K),("data",.str x)],.bool cl] (.bool true):=by
 refine xD hB λL=>?_
 have hz:p.length<=16777216:=dt hp (by decide)
 have hxz:x.length<=16777216:=dt hs.length_le hz
 have e1:sl p (some ((p.length:Int) - (x.length:Int))) none=x:=by
  obtain⟨a,rfl⟩:=hs;rw[show((a++x).length:Int) - (x.length:Int)=(a.length:Int)from by rw[bt];push_cast;omega,sy,List.drop_left]
 have en:(!decide (x=[]))=true:=by rw[bS hn];rfl
 refine jp (a1:=⟨hL p (.dct [("type",.int K),("data",.str x)]) cl (some (.int K)),[(L+1,.cell (some (.str x)))]⟩) 2 (ib [L+1] ⟨hD p (.dct [("type",.int K),("data",.str x)]) cl none,[(0,.cell none)],[]⟩ [] (uV (cl:=[("data",0)]) hB (ic (by kernel_rfl) rfl)) trivial) ?_
 refine gi (f:=.ret (.bool true)) (σ':=⟨hL p (.dct [("type",.int K),("data",.str x)]) cl (some (.int K)),[(L+1,.cell (some (.str x)))]⟩) (tR (f0:=.ret (.bool true)) (rF (a1:=⟨hL p (.dct [("type",.int K),("data",.str x)]) cl (some (.int K)),[(L+1,.cell (some (.str x)))]⟩) ?_ ?_) xO) rfl
 . rcases hK with rfl | rfl
   . exact nw [L+1] ⟨hD p (.dct [("type",.int 1),("data",.str x)]) cl (some (.av (.int 1))),[(0,.cell (some (.av (.str x))))],[]⟩ [.br true] (uV (cl:=[("data",0)]) hB (ic (by kernel_rfl) rfl)) (qa trivial tt)
   . exact nw [L+1] ⟨hD p (.dct [("type",.int 2),("data",.str x)]) cl (some (.av (.int 2))),[(0,.cell (some (.av (.str x))))],[]⟩ [.br false,.br true] (uV (cl:=[("data",0)]) hB (ic (by kernel_rfl) rfl)) (qa (qa trivial ff) tt)
 . by_cases e:p=x
   . rw[show Fl.ret (AV.bool true)=.ret (.bool (decide (p=x)))from by rw[cc e]]
     exact ib [L+1] ⟨hD p (.dct [("type",.int K),("data",.str x)]) cl (some (.av (.int K))),[(0,.cell (some (.av (.str x))))],[]⟩ [.br true,.br true,.br true] (uV (cl:=[("data",0)]) hB (ic (by kernel_rfl) rfl)) (qa (qa (qa (qa (qa (qa trivial en) hz) hxz) hz) (cc e1)) (cc e))
   . obtain rfl:cl=false:=bA.mpr λq=>e (hc q)
     exact ib [L+1] ⟨hD p (.dct [("type",.int K),("data",.str x)]) false (some (.av (.int K))),[(0,.cell (some (.av (.str x))))],[]⟩ [.br true,.br true,.br false] (uV (cl:=[("data",0)]) hB (ic (by kernel_rfl) rfl)) (qa (qa (qa (qa (qa (qa trivial en) hz) hxz) hz) (cc e1)) (bS e))
theorem zJ (hB:f7 B) (hp:p.length<=1000) (hs:x <:+:p) (hc:cl=true->p=[60,33,45,45]++x++[45,45,62]):eG B 3 818 [.str p,iN x,.bool cl] (.bool true):=by
 refine xD hB λL=>?_
 have hxz:x.length<=1000:=dt hs.length_le hp
 have z1:([60,33,45,45]:cF).length+x.length<=16777216:=dt (bo hxz 4) (by decide)
 have z2:([60,33,45,45]++x).length+([45,45,62]:cF).length<=16777216:=by rw[bt];exact dt (bk (bo hxz 4) 3) (by decide)
 refine jp (a1:=⟨hL p (iN x) cl (some (.int 6)),[(L+1,.cell (some (.str x)))]⟩) 3 (ib [L+1] ⟨hD p (iN x) cl none,[(0,.cell none)],[]⟩ [.br false,.br false] (uV (cl:=[("data",0)]) hB (ic (by kernel_rfl) rfl)) (qa (qa trivial ff) ff)) ?_
 refine gi (f:=.ret (.bool true)) (σ':=⟨hL p (iN x) cl (some (.int 6)),[(L+1,.cell (some (.str x)))]⟩) (tR (f0:=.ret (.bool true)) (rF (a1:=⟨hL p (iN x) cl (some (.int 6)),[(L+1,.cell (some (.str x)))]⟩) (nw [L+1] ⟨hD p (iN x) cl (some (.av (.int 6))),[(0,.cell (some (.av (.str x))))],[]⟩ [.br true] (uV (cl:=[("data",0)]) hB (ic (by kernel_rfl) rfl)) (qa trivial tt)) ?_) xO) rfl
 by_cases e:p=[60,33,45,45]++x++[45,45,62]
 . rw[show Fl.ret (AV.bool true)=.ret (.bool (decide (p=[60,33,45,45]++x++[45,45,62])))from by rw[cc e]]
   exact jN (jG (tM (kI (c:=true) (c':=decide (p=[60,33,45,45]++x++[45,45,62])) (oW (fL rfl dH) (cW dH) (y9 hs)) (lZ (xR [L+1] ⟨hD p (iN x) cl (some (.av (.int 6))),[(0,.cell (some (.av (.str x))))],[]⟩ [.br true] (uV (cl:=[("data",0)]) hB (ic (by kernel_rfl) rfl)) (qa (qa (qa trivial z1) z2) (cc e)))))))
 . obtain rfl:cl=false:=bA.mpr λq=>e (hc q)
   exact jN (jG (tM (kI (c:=true) (c':=true) (oW (fL rfl dH) (cW dH) (y9 hs)) (lZ (xR [L+1] ⟨hD p (iN x) false (some (.av (.int 6))),[(0,.cell (some (.av (.str x))))],[]⟩ [.br false] (uV (cl:=[("data",0)]) hB (ic (by kernel_rfl) rfl)) (qa (qa (qa trivial z1) z2) (bS e)))))))
variable {r:FL}
theorem AX (hB:f7 B) (h:wQ p [60] nm sc cl ps) (g:ny p [60] nm ps) (nd:((pF ps).map (·.1)).Nodup):eG B 3 818 [.str p,rx 3 nm (.dct (pF ps)) sc r,.bool cl] (.bool true):=by
 refine xD hB λL=>?_
 refine jp (a1:=⟨hL p (rx 3 nm (.dct (pF ps)) sc r) cl (some (.int 3)),[(L+1,.cell (some (.dct (pF ps))))]⟩) 4 (ib [L+1] ⟨hD p (rx 3 nm (.dct (pF ps)) sc r) cl none,[(0,.cell none)],[]⟩ [.br false,.br false,.br false] (uV (cl:=[("data",0)]) hB (ic (by kernel_rfl) rfl)) (qa (qa (qa trivial ff) ff) ff)) ?_
 refine gi (f:=.ret (.bool true)) (σ':=⟨hL p (rx 3 nm (.dct (pF ps)) sc r) cl (some (.int 3)),[(L+1,.cell (some (.dct (pF ps))))]⟩) (tR (f0:=.ret (.bool true)) (rF (a1:=⟨hL p (rx 3 nm (.dct (pF ps)) sc r) cl (some (.int 3)),[(L+1,.cell (some (.dct (pF ps))))]⟩) (nw [L+1] ⟨hD p (rx 3 nm (.dct (pF ps)) sc r) cl (some (.av (.int 3))),[(0,.cell (some (.av (.dct (pF ps)))))],[]⟩ [.br true] (uV (cl:=[("data",0)]) hB (ic (by kernel_rfl) rfl)) (qa trivial tt)) ?_) xO) rfl
 have ga:dZ (λy=>true) (λi=>(ps.map (pq true)).getD i .any) (pF ps).length=ps.map (pq true):=by
  rw[show(pF ps).length=(ps.map (pq true)).length from by rw[bZ,bZ]];exact jo _
 refine jN (jG (f8 (eZ (v:=.ref 813) (by rw[hB.K];kernel_rfl)) (fS (by rw[hB.K];kernel_rfl)) (de (cW dH) (de (cW iL) (de (eN (l:=[60]) (by kernel_rfl)) (de
  (Ea (l:=pF ps) ["key"] (λy=>true) (λi=>(ps.map (pq true)).getD i .any) (by rw[bZ];exact dt g.lps (by decide)) (fL rfl dH) (λi hi=>?_) rfl) (de (cW qB) dD))))) (by rw[ga];exact Co (Gx (t:=true) hB h g _) (cv 2))))
 rw[bZ]at hi
 refine iH.cast (a':=.str ps[i].1) (d':=pq true ps[i]) (by rw[List.map_map,b8,bz,b9 hi];rfl) (by rw[b8,bz,b9 hi];rfl) ?_
 have hg:ew (S ps[i].1) (pF ps)=some (.str ps[i].2):=jr (p:=(S ps[i].1,.str ps[i].2)) nd (cg.mpr ⟨_,List.getElem_mem hi,rfl⟩)
 generalize ps[i]=q at hg |-
 exact⟨λC p q'=>⟨[("key",some (.str q.1))],[("key",some (.str q.1))],eV (fc .hit),oP,λy=>kJ (de (cW dH) (de (i8 (fL rfl qB) (cW dH) (pH hg)) dD)) (dR rfl)⟩⟩
theorem Bk (hB:f7 B) (h:wQ p [60,47] nm sc cl ps) (g:ny p [60,47] nm ps):eG B 3 818 [.str p,rx 4 nm (.lst (ps.map (pq false))) sc r,.bool cl] (.bool true):=by
 refine xD hB λL=>?_
 refine jp (a1:=⟨hL p (rx 4 nm (.lst (ps.map (pq false))) sc r) cl (some (.int 4)),[(L+1,.cell (some (.lst (ps.map (pq false)))))]⟩) 5 (ib [L+1] ⟨hD p (rx 4 nm (.lst (ps.map (pq false))) sc r) cl none,[(0,.cell none)],[]⟩ [.br false,.br false,.br false,.br false] (uV (cl:=[("data",0)]) hB (ic (by kernel_rfl) rfl)) (qa (qa (qa (qa trivial ff) ff) ff) ff)) ?_
 exact gi (f:=.ret (.bool true)) (σ':=⟨hL p (rx 4 nm (.lst (ps.map (pq false))) sc r) cl (some (.int 4)),[(L+1,.cell (some (.lst (ps.map (pq false)))))]⟩) (jN (jG (tM (kI (c:=true) (c':=true) (nN (d:=.bool (decide ((4:Int)=4))) (xR [L+1] ⟨hD p (rx 4 nm (.lst (ps.map (pq false))) sc r) cl (some (.av (.int 4))),[(0,.cell (some (.av (.lst (ps.map (pq false))))))],[]⟩ [] (uV (cl:=[("data",0)]) hB (ic (by kernel_rfl) rfl)) trivial) rfl) (lZ (f8 (eZ (v:=.ref 813) (by rw[hB.K];kernel_rfl)) (fS (by rw[hB.K];kernel_rfl)) (de (cW dH) (de (cW iL) (de (eN (l:=[60,47]) (by kernel_rfl)) (de (fL rfl dH) (de (cW qB) dD))))) (Co (Gx (t:=false) hB h g _) (cv 2)))))))) rfl
end
end
section
section
variable {d:AV} {P p x:cF} {k m K:Nat} {ps:PL} {dI:Prop} {cl:Bool} {B:cX}
theorem Gp:∀ {l:List (cF×AV)},(∀ p∈l,∃ x,p.2=AV.str x)->∃ ps:PL,l=pA ps
 | [],_=>⟨[],rfl⟩
 | p::l,h=>by
  obtain⟨x,e⟩:=h p dH;obtain⟨ps,rfl⟩:=Gp λq hq=>h q (.tail _ hq)
  exact⟨(p.1,x)::ps,cB (·::pA ps) (Prod.ext rfl e)⟩
inductive nG:AV->Prop
 | tok {i:Int} {x:cF}:nG (.dct [("type",.int i),("data",.str x)])
 | erC {x c:cF}:nG (.dct [("type",.int 7),("data",.str x),("datavars",.dct [("data",.str c)])])
 | st {nm:cF} {ps:PL} {sc:Bool} (h:ps.length<=1000):nG (rx 3 nm (.dct (pF ps)) sc [("selfClosingAcknowledged",.bool false)])
 | et {nm:cF} {ps:PL} {sc:Bool} (h:ps.length<=1000):nG (rx 4 nm (.lst (ps.map (pq false))) sc [])
theorem Ge {nm:cF} {sc:Bool}:pN nm (pA ps) sc=rx 3 (dn nm) (.dct (pF (Rc ps))) sc [("selfClosingAcknowledged",.bool false)]:=by unfold pN;rw[xh]
theorem G6 {nm:cF} {sc:Bool}:lj nm (pA ps) sc=rx 4 (dn nm) (.lst (ps.map (pq false))) sc []:=by unfold lj;rw[List.map_map];rfl
noncomputable def Lx:AV->Nat
 | .dct (_::_::(_,.lst l)::_)=>l.length
 | .dct (_::_::(_,.dct l)::_)=>l.length
 | _=>0
theorem FC (h:vH d):nG d:=by
 induction h with
 | tok h3 h4=>exact .tok
 | erC =>exact .erC
 | @emit nm ps sc b d hp hv h=>
  obtain⟨qs,rfl⟩:=Gp hv;rw[bZ]at hp
  revert d
  show ∀ d∈dY nm (pA qs) sc b,nG d
  unfold dY
  split
  . refine dj ?_ cZ
    rw[Ge];exact .st (dt (C0 qs []).length_le hp)
  . refine fk ?_ (fk ?_ (dj ?_ cZ))
    . split
      . exact cZ
      . exact dj .tok cZ
    . split
      . exact dj .tok cZ
      . exact cZ
    . rw[G6];exact .et hp
theorem FQ (h:nG d):Lx d<=1000:=by
 induction h with
 | tok=>exact cr _
 | erC=>exact(by decide:1<=1000)
 | st h=>exact dt (cq (bZ _)) h
 | et h=>exact dt (cq (bZ _)) h
theorem BC (h:nG d):kF 10 d:=by
 induction h with
 | tok=>exact .dct (dj .int (dj .str cZ))
 | erC=>exact .dct (dj .int (dj .str (dj (.dct (dj .str cZ)) cZ)))
 | st h=>exact .dct (dj .int (dj .str (dj (.dct λp hp=>by
  obtain⟨q,_,rfl⟩:=cg.mp hp;exact .str) (dj .bool (dj .bool cZ)))))
 | et h=>exact .dct (dj .int (dj .str (dj (.lst λp hp=>by
  obtain⟨q,_,rfl⟩:=cg.mp hp;exact .lst (dj .str (dj .str cZ))) (dj .bool cZ))))
theorem Ef (c:lI P k ps m):k+(fV ps).length<=m:=by
 induction c with
 | nil h _=>exact h
 | @cons k i j m x v r h hx hj hv c ih=>
  have e:(fV ((x,v)::r)).length=x.length+v.length+(fV r).length:=by
   show((x++v)++fV r).length= _
   rw[bt,bt]
  rw[e];omega
theorem GK (c:lI P k ps m) (h:kB P):zD (fV ps):=by
 induction c with
 | nil _ _=>exact cZ
 | @cons k i j m x v r _ hx _ hv _ ih=>
  refine lO (x:=x++v) (lO (λc hc=>?_) (λc hc=>?_)) ih
  . obtain⟨z,hz,rfl⟩:=cg.mp (List.mem_of_mem_drop (hx.subset hc))
    exact(show ∀ z∈Ck,zp 81 113 (gJ z)=gJ (gJ z)by decide) z (h z hz)
  . exact sJ (T:=P) h c (List.mem_of_mem_drop (hv.subset hc))
theorem BE {op nm:cF} (hl:P.length < 1000) (h:kB (P++[62])) (c:lI P 1 ((nm,[])::ps) m) (ho:op.length<=2) (hp:ps.length<=1000):ny (P++[62]) op nm ps:=by
 have ha:kB P:=λz hz=>h z (bT.mpr (.inl hz))
 have e:fV ((nm,[])::ps)=nm++fV ps:=cB (·++fV ps) (bX nm)
 have h1:=Ef c
 have h2:=GK c ha
 have h3:=c.le
 rw[e]at h1 h2
 rw[bt]at h1
 exact⟨by rw[bt];exact hl,by omega,ho,hp,by omega,sJ h,λc hc=>h2 c (bT.mpr (.inl hc)),λc hc=>h2 c (bT.mpr (.inr hc))⟩
theorem Cu (hB:f7 B) (hp:p.length<=900) (ha:kB p) (q:QT K p d dI) (r:nG d) (hc:cl=true->¬ dI):eG B 3 818 [.str p,d,.bool cl] (.bool true):=by
 rcases q with⟨hK,x,rfl,hn,hs,hx⟩ | ⟨rfl,a,rfl,hs,hx⟩ | ⟨b,nm,ps,sc,P,rfl,rfl,rfl,f⟩
 . exact yC hB (hK.imp (λe=>by rw[e];rfl) λe=>by rw[e];rfl) (dt hp (by decide)) hn hs λe=>hx (hc e)
 . exact zJ hB (dt hp (by decide)) hs λe=>hx (hc e)
 . have hl:P.length < 1000:=by rw[bt]at hp;exact Nat.lt_of_le_of_lt (Nat.le_of_add_right_le hp) (by decide)
   obtain⟨m,c⟩:=f.ch
   rcases b with _ | _
   . have r:nG (lj nm (pA ps) sc):=r
     show eG B 3 818 [_,lj nm (pA ps) sc,_] _
     rw[G6]at r |-
     exact Bk hB (Ci f hc (List.Sublist.refl _) λy=>rfl) (BE hl ha c (cv 2) (dt (cq (bZ _).symm) (FQ r)))
   . have r:nG (pN nm (pA ps) sc):=r
     show eG B 3 818 [_,pN nm (pA ps) sc,_] _
     rw[Ge]at r |-
     have hs:=C0 ps []
     exact AX hB (Ci f hc hs λe=>KZ ps [] (f.nd.resolve_left λq=>hc e q)) (BE hl ha (c.sub _ (hs.cons_cons _)) (by decide) (dt (cq (bZ _).symm) (FQ r))) (by rw[<-xh,oY];exact Cb List.nodup_nil)
end
end
section
noncomputable abbrev uW (T:cF) (i:Nat):Int:=(T.take i).count 10+1
noncomputable abbrev zw (T:cF) (i:Nat):Int:=fM 0 (T.take i)
section
variable {T p x y:cF} {i j k s:Nat} {c:Int} {B:cX}
theorem xT (h:i < T.length):uW T (i+1)=uW T i+1\/uW T (i+1)=uW T i/\zw T (i+1)=zw T i+1:=by
 have e:=qN h
 by_cases q:T[i]=10
 . rw[cE q]at e
   exact .inl (AV.int.inj (List.cons.inj (AV.tup.inj e)).1)
 . rw[cC q]at e
   have e:=List.cons.inj (AV.tup.inj e)
   exact .inr ⟨AV.int.inj e.1,AV.int.inj (List.cons.inj e.2).1⟩
theorem QH {a b e f:Int} (k:e=a+1\/e=a/\f=b+1):a < e\/a=e/\b < f:=by
 rcases k with rfl | ⟨rfl,rfl⟩
 . exact .inl (Int.lt_succ a)
 . exact .inr ⟨rfl,Int.lt_succ b⟩
theorem Mt {a b c d e f:Int} (h:a < c\/a=c/\b < d) (k:e=c+1\/e=c/\f=d+1):a < e\/a=e/\b < f:=by
 rcases h with h | ⟨rfl,h⟩
 . rcases k with rfl | ⟨rfl,rfl⟩
   . exact .inl (Int.lt_trans h (Int.lt_succ c))
   . exact .inl h
 . rcases k with rfl | ⟨rfl,rfl⟩
   . exact .inl (Int.lt_succ a)
   . exact .inr ⟨rfl,Int.lt_trans h (Int.lt_succ d)⟩
theorem FG (h:i < j) (hj:j<=T.length):uW T i < uW T j\/uW T i=uW T j/\zw T i < zw T j:=by
 induction h with
 | refl=>exact QH (xT (Nat.lt_of_succ_le hj))
 | step h ih=>exact Mt (ih (Nat.le_of_succ_le hj)) (xT (Nat.lt_of_succ_le hj))
theorem Kp (hi:i<=T.length) (hj:j<=T.length):(uW T i==uW T j&&zw T i==zw T j)=decide (i=j):=by
 by_cases e:i=j
 . subst e;rw[cc rfl,bM,bM];rfl
 . rw[bS e]
   refine bA.mpr λq=>?_
   have q1:=cz (dE q)
   have q2:=cz (dX q)
   rcases Nat.lt_or_gt_of_ne e with h | h
   . have:=FG h hj;omega
   . have:=FG h hi;omega
theorem yU:fM c (x++y)=fM (fM c x) y:=List.foldl_append
theorem Jq (h:y.count 10=0):fM c y=c+fM 0 y:=by
 induction y generalizing c with
 | nil=>exact(Int.add_zero c).symm
 | cons z y ih=>
  have hz:z≠10:=λe=>by rw[e,List.count_cons_self]at h;exact nomatch h
  rw[List.count_cons_of_ne hz]at h
  show fM (if z=10 then 0 else c+1) y=c+fM (if z=10 then 0 else 0+1) y
  rw[cC hz,cC hz,ih h,ih (c:=0+1) h];omega
theorem Ee (h:y.count 10≠0):fM c y=fM 0 y:=by
 induction y generalizing c with
 | nil=>exact cD rfl h
 | cons z y ih=>
  show fM (if z=10 then 0 else c+1) y=fM (if z=10 then 0 else 0+1) y
  by_cases hz:z=10
  . rw[cE hz,cE hz]
  . rw[cC hz,cC hz]
    rw[List.count_cons_of_ne hz]at h
    rw[ih h,ih (c:=0+1) h]
theorem Ms (h:p <+:T.drop s) (hs:s<=T.length) (hj:j<=p.length):T.take (s+j)=T.take s++p.take j:=by
 obtain⟨r,e⟩:=h;rw[List.take_add,<-e,List.take_append_of_le_length hj]
theorem xt (hB:f7 B) (h:p <+:T.drop s) (hs:s<=T.length) (hj:j<=p.length):eG B 1 789 [dw T s,dw p j] (dw T (s+j)):=by
 have e:dw T (s+j)=.tup [.int (uW T s+uW p j - 1),.int (fM (zw T s) (p.take j))]:=by
  unfold dw;rw[Ms h hs hj,List.count_append,yU];refine cB (λz=>AV.tup [.int z,_]) ?_
  show(((T.take s).count 10+(p.take j).count 10:Nat):Int)+1= _
  push_cast;omega
 rw[e]
 by_cases q:(p.take j).count 10=0
 . have h1:uW p j=1:=by show((((p.take j).count 10:Nat):Int))+1=1;rw[q];rfl
   rw[Jq q,h1,Int.add_sub_cancel];have:=IN (a:=uW T s) (b:=zw T s) (d:=zw p j) hB h1
   rw[h1]at this
   show eG B 1 789 [_,.tup [.int (uW p j),.int (zw p j)]] _
   rw[h1];exact this
 . rw[Ee q]
   exact Jj (a:=uW T s) (b:=zw T s) (d:=zw p j) hB (by show((((p.take j).count 10:Nat):Int))+1≠1;omega)
theorem vK (hk:k<=T.length) (hs:s<=k):dZ (λi=>decide (s+i=k)) (λi=>AV.int (s+i:Nat)) (T.length+1 - s)=[.int k]:=by
 have kc:∀ n,dZ (λi=>decide (s+i=k)) (λi=>AV.int (s+i:Nat)) n=if s+n<=k then [] else [.int k]:=by
  intro n
  induction n with
  | zero=>exact(cE hs).symm
  | succ n ih=>
   unfold dZ;rw[ih]
   by_cases e:s+n=k
   . rw[cc e,cE rfl,cE (cq e),cC (by omega),e];rfl
   . rw[bS e,cC (by decide)]
     by_cases h:s+n<=k
     . rw[cE h,cE (by omega)]
     . rw[cC h,cC (by omega)]
 rw[kc,cC (by omega)]
end
end
section
section
variable {X:Cx} {σ a1 a2 a3:St} {l:cG} {d d1 d2:AV} {Q:PF} {b0:cH} {pn p:Pos}
theorem H4 (hz:l.length<=16777000):eO X (.builtin "len") [.lst l] σ (.int l.length) σ:=nE λH v Φ mv h=>d9 λA F s hA Y=>by
 refine jS (eU (Y.hold mv)) ?_;rintro a vs m rfl h1 h2
 have am:=h2.length
 exact Calls.call_len_list (l:=a) (items:=vs.toArray) (fy Y.sub h1) (by simp[am];omega) (.toks Y ⟨.int l.length,by simp only[List.size_toArray,am];exact .int _ _,h _⟩)
theorem C3 {i j:Int}:eO X (.type "range") [.int i,.int j] σ (.obj (pK i j)) σ:=kZ λy y y y mv mw h=>Ao mv mw h
theorem BZ {t1 t2 e:Expr} {k:Nat} (h1:Ev X e σ (.tup [d1,d2]) a1) (h2:tI X t1 d1 a1 a2) (h3:tI X t2 d2 a2 a3)
 (hs:autoParam (swapsWithSole [.Tuple [t1,t2] k p] e pn.line X.env=pure false) bR) (hw:autoParam (swappedStores [.Tuple [t1,t2] k p] e X.env=pure none) bR)
 (he:autoParam (assignEach [t1,t2] X.env=[(false,assign t1 X.env),(false,assign t2 X.env)]) bR):Ex X (.Assign [.Tuple [t1,t2] k p] e pn) σ .next a3:=
 ⟨λH Φ h=>nb (h1.run _ _ λy=>⟨d1,d2,rfl,λv1 v2=>h2.run _ _ _ gA (h3.run _ _ _ mH h)⟩) hs hw he⟩
theorem DE {t6 i4:Expr} {N:Nat} {i3:Nat->AV} (J:Nat->St->Prop) (h1:Ev X i4 σ d a1) (it:∀ xv,fb X.B X.n X.L xv d N i3) (j0:J 0 a1) (fin:∀ σ,J N σ->Q .next σ)
 (step:∀ i l8 oe a p,i < N->J i ⟨l8,oe⟩->∃ a2,tI X t6 (i3 i) ⟨l8,(a,.is p)::oe⟩ a2/\dT X b0 a2 λf σ'=>(f=.next\/f=.cont)/\∃ l9 o5,σ'=⟨l9,(a,.is p)::o5⟩/\J (i+1) ⟨l9,o5⟩)
 (hs:autoParam (∀ x,foldedSetIterable i4 X.env x=pure x) bI):Cn X (.For t6 i4 b0 [] pn) σ Q:=
 ⟨λH Φ h=>wu (J:=J) (h1.run _ _ λxv=>⟨N,i3,it xv,j0,λσ z=>h _ _ (fin σ z),λi l8 oe a p v hi hj=>by
  refine dQ (step i l8 oe a p hi hj) ?_;rintro a2 w1 w2
  refine w1.run _ _ _ dH (w2.run _ _ λf σ' z=>?_)
  rcases z with⟨rfl | rfl,z⟩<;>exact z⟩) hs⟩
end
end
section
noncomputable def iR:cH:=fj ((fj kC).getD 6 (.Pass default))
noncomputable abbrev mE (ns:List Int) (T:cF) (RW LA:AV) (G:Addr) (tk ki cu pi al en:cN):LL:=[("script",some (.obj (qz ns))),("text",some (.str T)),("rows",some RW),("last",some LA),("group",some (.ref G)),("token",tk),("kind",ki),("cuts",cu),("piece",pi),("alone",al),("end",en)]
noncomputable abbrev pM (L:Addr) (T:cF) (s:Nat) (P:cN) (G:Addr) (gl:cG):OL:=[(L+1,.cell (some (.lst (eQ T T.length)))),(L+2,.cell (some (.int (s:Nat)))),(L+3,.cell P),(G,.list gl)]
section
variable {B:cX} {L G a:Addr} {ns:List Int} {T p:cF} {RW LA d:AV} {gl:cG} {s k:Nat} {q:Obj->Prop} {es:cR} {Q:PF}
noncomputable abbrev jt (B:cX) (L:Addr):Cx:=⟨B,11,L,envOfC "law" (il kC) L 823 (.ref 822)⟩
theorem Df {D:Addr} {l:cG} {tk ki:cN}:∀ y d,(y,some d)∈mE ns T RW LA G tk ki (some (.lst l)) none none none->(y,some d)∈mE ns T RW LA G tk ki (some (.ref D)) none none none\/(d=.lst l/\(y,some (.ref D))∈mE ns T RW LA G tk ki (some (.ref D)) none none none):=sZ.le (by repeat' first | exact .nil | refine .hit ?_ | refine .keep ?_ | refine .drop ?_)
theorem vJ {tk ki cu pi al en:cN}:((mE ns T RW LA G tk ki cu pi al en).map (·.1)).Nodup:=fQ (by kernel_rfl)
theorem Ch (h:p <+:T.drop s) (hs:s<=T.length) (hk:s+p.length=k):sl T (some (s:Int)) (some (k:Int))=p/\k<=T.length:=by
 obtain⟨r,e⟩:=h;have e1:=cB List.length e
 rw[bt,bP]at e1
 have hk2:k<=T.length:=by omega
 refine⟨?_,hk2⟩
 rw[lu,eK hs,eK hk2,List.drop_take,<-e,<-hk,Nat.add_sub_cancel_left,List.take_left]
theorem NL {n s:Nat} (h:s<=n):((n+1:Nat):Int)=(s:Int)+((n+1 - s:Nat):Int):=by rw[<-Int.natCast_add,Nat.add_sub_of_le (Nat.le_succ_of_le h)]
theorem Rx {a:Nat} (h:a<=200):0+4*a<=900:=dt (bo (Nat.mul_le_mul_left 4 h) 0) (by decide)
theorem sP {l:cF} (c:dL .data .none l es .data .none []):es.length<=4*l.length:=dt (bE _ _) (dt c.len (cq (Nat.zero_add _)))
theorem Gw (hB:f7 B) (hT:T.length<=200) (hp:p <+:T.drop s) (hs:s<=T.length) (hk:s+p.length=k) (hx:E8 p) (c:dL .data .none p es .data .none [])
 (hQ:dT (jt B L) (iR.drop 6) ⟨mE ns T RW LA G (some d) (some (kA (eC (T.drop s)))) (some (.lst [.int k])) (some (.str p)) (some (.lst (es.map (fh p)))) (some (dw p p.length)),(a,.is q)::pM L T s (some (dw T k)) G gl⟩ Q):
 dT (jt B L) (iR.drop 1) ⟨mE ns T RW LA G (some d) none none none none none,(a,.is q)::pM L T s (some (dw T k)) G gl⟩ Q:=by
 have hz:T.length<=16777216:=dt hT (by decide)
 obtain⟨epiece,hkT⟩:=Ch hp hs hk;have hml:(eQ T T.length).length=T.length+1:=by unfold eQ;simp
 have hmz:(eQ T T.length).length<=16777000:=by rw[hml];exact dt (bH hT) (by decide)
 have hkd:eG B 1 803 [.str (sl T (some (s:Int)) none)] (kA (eC (T.drop s))):=by rw[sy];exact HY hB (dt (dt (cq bP) (Nat.sub_le _ _)) (dt hT (by decide)))
 refine dJ (lN (f8 (eZ (v:=.ref 803) (by rw[hB.K];kernel_rfl)) (fS (by rw[hB.K];kernel_rfl)) (de (gg (cW iL) (fo (fL rfl qB)) gW rfl rfl hz) dD) (Co (hkd _) (dR rfl))) (fc (.skip (.skip (.skip (.skip (.skip (.skip .hit)))))))) ?_
 refine CR (N:=T.length+1 - s) (i3:=λi=>.int ((s:Int)+i)) ["place"] (λi=>decide (s+i=k)) (λi=>.int (s+i:Nat)) (dt (Nat.sub_le _ _) (dt (bH hT) (by decide))) (f8 (eJ PyProof.Rows.Boot.«range» (by rw[hB.K];kernel_rfl)) FX (de (fL rfl qB) (de (f8 (eJ PyProof.Rows.Boot.«len» (by rw[hB.K];kernel_rfl)) gt (de (fL rfl iL) dD) (H4 hmz)) dD)) C3) (λxv=>?_) ?_ ?_ rfl rfl
 . rw[hml,NL hs]
   exact BI (Int.le_trans (by decide) (bp s)) (ci.mpr (dt (dt hs hT) (by decide))) (dt (Nat.sub_le _ _) (dt (bH hT) (by decide)))
 . intro i hi
   have hsi:s+i<=T.length:=Nat.le_of_lt_succ (Nat.add_lt_of_lt_sub' hi)
   have hm:=pW (T:=T) (n:=T.length) (k:=s+i) hsi
   have hmi:=Kp (T:=T) (i:=s+i) (j:=k) hsi hkT
   exact⟨λC p q'=>⟨[("place",some (.int ((s:Int)+i)))],[("place",some (.int ((s:Int)+i)))],eV (fc .hit),AH (qH (eY (i8 (fL rfl uD) (cW dH) (ly (j:=s+i) (bp (s+i)) rfl hm (dt hmz (by decide)))) (fL rfl FA) AJ) hmi),λy=>cW dH⟩⟩
 . intro D
   rw[vK hkT (hk▸bE s _)];refine⟨_,fc (.skip (.skip (.skip (.skip (.skip (.skip (.skip .hit))))))),?_⟩
   refine yc (l9:=mE ns T RW LA G (some d) (some (kA (eC (T.drop s)))) (some (.lst [.int k])) none none none) ?_ Df vJ
   refine dJ (nc (uz (c:=true) (nq (cW Pk) (vC (dR rfl)))) gM) ?_
   refine dJ (lN (nN (gg (cW iL) (fo (fL rfl qB)) (fo (i8 (cW Pk) f6 (ly (j:=0) (by decide) rfl rfl (dR rfl)))) rfl rfl hz) (cB AV.str epiece)) (fc (.skip (.skip (.skip (.skip (.skip (.skip (.skip (.skip .hit)))))))))) ?_
   exact dJ (BZ (f8 (eZ (v:=.ref 782) (by rw[hB.K];kernel_rfl)) (fS (by rw[hB.K];kernel_rfl)) (de (cW Ri) dD) (Co (FP hB hx (dt (dt (bY _ s) (cq hk)) (dt hkT hT)) c _) (dR rfl))) (eV (fc (.skip (.skip (.skip (.skip (.skip (.skip (.skip (.skip (.skip .hit))))))))))) (eV (fc (.skip (.skip (.skip (.skip (.skip (.skip (.skip (.skip (.skip (.skip .hit))))))))))))) hQ
end
end
section
theorem EC {n m:Nat} (h:n<=m) {d:AV} (f:kF n d):kF m d:=by
 induction f generalizing m with
 | none=>exact .none
 | bool=>exact .bool
 | int=>exact .int
 | str=>exact .str
 | tup _ ih=>obtain⟨k,rfl⟩:=Nat.exists_eq_add_one_of_ne_zero (Nat.ne_of_gt (tB (Nat.succ_pos _) h));exact .tup λd hd=>ih d hd (Nat.le_of_succ_le_succ h)
 | lst _ ih=>obtain⟨k,rfl⟩:=Nat.exists_eq_add_one_of_ne_zero (Nat.ne_of_gt (tB (Nat.succ_pos _) h));exact .lst λd hd=>ih d hd (Nat.le_of_succ_le_succ h)
 | dct _ ih=>obtain⟨k,rfl⟩:=Nat.exists_eq_add_one_of_ne_zero (Nat.ne_of_gt (tB (Nat.succ_pos _) h));exact .dct λd hd=>ih d hd (Nat.le_of_succ_le_succ h)
section
variable {B:cX} {L G a:Addr} {ns:List Int} {T p:cF} {RW LA d en:AV} {gl:cG} {s k K:Nat} {q:Obj->Prop} {es:cR} {Q:PF}
noncomputable abbrev E5 (T p:cF) (s:Nat) (e:Nat×AV):AV:=.tup [dw T (s+(p.length - e.1)),e.2]
theorem Gh (hB:f7 B) (hT:T.length<=200) (hp:p <+:T.drop s) (hs:s<=T.length) (hk:s+p.length=k) (c:dL .data .none p es .data .none []) (hg:gl=es.map (E5 T p s))
 (hQ:dT (jt B L) (iR.drop 7) ⟨mE ns T RW LA G (some d) (some (kA K)) (some (.lst [.int k])) (some (.str p)) (some (.lst (es.map (fh p)))) (some (dw p p.length)),(a,.is q)::pM L T s (some (dw T k)) G gl⟩ Q):
 dT (jt B L) (iR.drop 6) ⟨mE ns T RW LA G (some d) (some (kA K)) (some (.lst [.int k])) (some (.str p)) (some (.lst (es.map (fh p)))) (some (dw p p.length)),(a,.is q)::pM L T s (some (dw T k)) G gl⟩ Q:=by
 have hz:T.length<=16777216:=dt hT (by decide)
 obtain⟨_,hkT⟩:=Ch hp hs hk;have hml:(eQ T T.length).length=T.length+1:=by unfold eQ;simp
 have hmz:(eQ T T.length).length<=16777216:=by rw[hml];exact dt (bH hT) (by decide)
 have hms:=pW (T:=T) (n:=T.length) (k:=s) hs
 have aV:p.length<=200:=dt (dt (bY _ s) (cq hk)) (dt hkT hT)
 have hel:es.length<=1000:=dt (sP c) (dt (Nat.mul_le_mul_left 4 aV) (by decide))
 have hro:∀ e∈es,nG e.2:=λe he=>FC (c.ok (Rx aV) e he)
 have hfu:∀ d∈gl,kF 50 d:=by
  subst hg;intro d hd;obtain⟨e,he,rfl⟩:=cg.mp hd;exact .tup (n:=49) (dj (.tup (n:=48) (dj .int (dj .int cZ))) (dj (EC (by decide) (BC (hro e he))) cZ))
 have ga:dZ (λy=>true) (λi=>gl.getD i .any) (es.map (fh p)).length=gl:=by
  rw[show(es.map (fh p)).length=gl.length from by rw[hg,bZ,bZ]];exact jo _
 have hme:=xt (j:=p.length) hB hp hs (cv _)
 rw[hk]at hme
 refine dJ (nc (vA (jX (eY (pI (N:=(es.map (fh p)).length) (i3:=λi=>(es.map (fh p)).getD i .any) (d:=.lst (es.map (fh p))) ["mark","shown"] (λy=>true) (λi=>gl.getD i .any) (by rw[bZ];exact dt hel (by decide)) (cW Rb) (λxv=>jY) (λi hi=>?_) rfl) (cW Cm) (by rw[ga];exact AI Cm hfu)) rfl
  (jX (eY (f8 (eZ (v:=.ref 789) (by rw[hB.K];kernel_rfl)) (fS (by rw[hB.K];kernel_rfl)) (de (i8 (fL rfl iL) (fL rfl qB) (ly (j:=s) (bp s) rfl hms hmz)) (de (cW (.tail _ Rb)) dD)) (Co (hme _) (dR rfl))) (fL rfl uD) B0) rfl lz))) gM) hQ
 rw[bZ]at hi
 refine iH.cast (a':=fh p es[i]) (d':=E5 T p s es[i]) (by rw[b8,bz,b9 hi];rfl) (by rw[hg,b8,bz,b9 hi];rfl) ?_
 have hmv:=xt (j:=p.length - es[i].1) hB hp hs (Nat.sub_le _ _)
 clear hg ga hfu hQ hme hro hel c
 generalize es[i]=e at hmv |-
 exact⟨λC p' q'=>⟨[("mark",some (dw p (p.length - e.1))),("shown",some e.2)],[("mark",some (dw p (p.length - e.1))),("shown",some e.2)],y8 (eV (fc .hit)) (eV (fc (.skip .hit))),oP,λy=>
  kJ (de (f8 (eZ (v:=.ref 789) (by rw[hB.K];kernel_rfl)) (fS (by rw[hB.K];kernel_rfl)) (de (i8 (fL rfl uD) (fL rfl Cm) (ly (j:=s) (bp s) rfl hms hmz)) (de (cW dH) dD)) (Co (hmv _) (dR rfl))) (de (cW iL) dD)) (dR rfl)⟩⟩
end
end
section
section
variable {B:cX} {L G a:Addr} {ns:List Int} {T p:cF} {RW LA P d en al cu:AV} {gl:cG} {s k K:Nat} {q:Obj->Prop} {Q:PF} {fs:FL}
noncomputable abbrev PI (ns:List Int) (T:cF) (RW LA d:AV):cU:=[("script",some (.av (.obj (qz ns)))),("text",some (.av (.str T))),("rows",some (.av RW)),("last",some (.av LA)),("group",some (.slot 4)),("token",some (.av d)),("kind",none),("cuts",none),("piece",none),("alone",none),("end",none)]
noncomputable abbrev Pr (ml:cG) (s:Nat) (P:AV) (gl:cG) (q:Obj->Prop):cQ:=[(0,.ao (.is q)),(1,.cell (some (.av (.lst ml)))),(2,.cell (some (.av (.int s)))),(3,.cell (some (.av P))),(4,.list gl [])]
theorem MA {r:FL} (hB:f7 B) (hg:gl.length<=16777000):jC (jt B L) iR ⟨mE ns T RW LA G (some (.dct (("type",.int 7)::r))) none none none none none,(a,.is q)::pM L T s (some P) G gl⟩ .cont ⟨mE ns T RW LA G (some (.dct (("type",.int 7)::r))) none none none none none,(a,.is q)::pM L T s (some P) G (gl++[.tup [P,.dct (("type",.int 7)::r)]])⟩:=by
 generalize eQ T T.length=ml
 exact ib [a,L+1,L+2,L+3,G] ⟨PI ns T RW LA (.dct (("type",.int 7)::r)),Pr ml s P gl q,[]⟩ [.br true] (uV (cl:=[("spot",3)]) hB (ic (by kernel_rfl) rfl)) (qa (qa trivial (JS hg)) tt)
theorem Ls {r:FL} (hB:f7 B) (hg:gl.length<=16777000) (hK:(K:Int)≠7):jC (jt B L) (iR.take 1) ⟨mE ns T RW LA G (some (.dct (("type",.int K)::r))) none none none none none,(a,.is q)::pM L T s (some P) G gl⟩ .next ⟨mE ns T RW LA G (some (.dct (("type",.int K)::r))) none none none none none,(a,.is q)::pM L T s (some P) G (gl++[.tup [P,.dct (("type",.int K)::r)]])⟩:=by
 generalize eQ T T.length=ml
 exact ib [a,L+1,L+2,L+3,G] ⟨PI ns T RW LA (.dct (("type",.int K)::r)),Pr ml s P gl q,[]⟩ [.br false] (uV (cl:=[("spot",3)]) hB (ic (by kernel_rfl) rfl)) (qa (qa trivial (JS hg)) (bS hK))
theorem Mh (hB:f7 B):jC (jt B L) (iR.take 1) ⟨mE ns T RW LA G (some .none) none none none none none,(a,.is q)::pM L T s (some P) G gl⟩ .next ⟨mE ns T RW LA G (some .none) none none none none none,(a,.is q)::pM L T s (some P) G gl⟩:=by
 generalize eQ T T.length=ml
 exact ib [a,L+1,L+2,L+3,G] ⟨PI ns T RW LA .none,Pr ml s P gl q,[]⟩ [] (uV (cl:=[("spot",3)]) hB (ic (by kernel_rfl) rfl)) trivial
theorem Q6:∀ {K:Nat},(K=1\/K=2\/K=3\/K=4\/K=6)->ew (S (N5 K)) ED=some (.int K):=by
 rintro K (rfl | rfl | rfl | rfl | rfl)<;>kernel_rfl
theorem F8 (hB:f7 B) (hT:T.length<=200) (hg:gl.length<=16777000) (hK:K=1\/K=2\/K=3\/K=4\/K=6) (hh:eG B 3 818 [.str p,.dct (("type",.int K)::fs),.bool (decide ((gl.length:Int)=1))] (.bool true))
 (hQ:dT (jt B L) (iR.drop 9) ⟨mE ns T RW LA G (some (.dct (("type",.int K)::fs))) (some (kA K)) (some cu) (some (.str p)) (some al) (some en),(a,.is q)::pM L T s (some P) G gl⟩ Q):
 dT (jt B L) (iR.drop 7) ⟨mE ns T RW LA G (some (.dct (("type",.int K)::fs))) (some (kA K)) (some cu) (some (.str p)) (some al) (some en),(a,.is q)::pM L T s (some P) G gl⟩ Q:=by
 refine dJ (nc (iV (kh (eY (cW FA) lF (Ju qd)) rfl)) gM) ?_
 refine dJ (nc (iV (mJ (eY (cW FA) lF (wn qd)) rfl (kh (vA
  (jX (eY (cW Jt) (eN (l:=[]) (by kernel_rfl)) iT) ?_
  (jX (eY (i8 (cW FA) (eN (l:=sg "type") (qr _)) (pH (d:=.int K) rfl)) (i8 (ku (v:=.ref 48) (by rw[hB.K];kernel_rfl) (xE hB)) (cW Jt) (pH (Q6 hK))) MQ) ?_
  (jX (uz (nq (f8 (eZ (v:=.ref 818) (by rw[hB.K];kernel_rfl)) (fS (by rw[hB.K];kernel_rfl)) (de (cW Ri) (de (cW FA) (de (oW (f8 (eJ PyProof.Rows.Boot.«len» (by rw[hB.K];kernel_rfl)) gt (de (cW Cm) dD) (At Cm (dt hg (by decide)))) f6 KE) dD))) (Co (hh _) (dR rfl))) kf)) rfl lz)))) rfl))) gM) hQ
 . rcases hK with rfl | rfl | rfl | rfl | rfl<;>kernel_rfl
 . rw[cc rfl];rfl
theorem Cc (hB:f7 B) (hT:T.length<=200) (hg:gl.length<=16777000) (hK:K=0\/K=3\/K=4) (hh:s < T.length->gl≠[])
 (hQ :dT (jt B L) (iR.drop 9) ⟨mE ns T RW LA G (some .none) (some (kA K)) (some cu) (some (.str p)) (some al) (some en),(a,.is q)::pM L T s (some P) G gl⟩ Q):
 dT (jt B L) (iR.drop 7) ⟨mE ns T RW LA G (some .none) (some (kA K)) (some cu) (some (.str p)) (some al) (some en),(a,.is q)::pM L T s (some P) G gl⟩ Q:=by
 have hz:T.length<=16777216:=dt hT (by decide)
 refine dJ (nc (iV (mJ (eY (cW FA) lF (Ju rG)) rfl (kh (vA
  (jX (eY (cW Jt) (kJ (de (eN (l:=[]) (by kernel_rfl)) (de (eN (l:=sg "StartTag") (qr _)) (de (eN (l:=sg "EndTag") (qr _)) dD))) (dR rfl)) (Bf (ms:=[[],sg "StartTag",sg "EndTag"]) rfl)) ?_
  (jX (c:=false) (a1:=⟨mE ns T RW LA G (some .none) (some (kA K)) (some cu) (some (.str p)) (some al) (some en),(a,.is q)::pM L T s (some P) G gl⟩) ?_ rfl lz))) rfl))) gM) ?_
 . rcases hK with rfl | rfl | rfl<;>kernel_rfl
 . by_cases h:s < T.length
   . have hn:=hh h
     exact iV (mJ (eY (fL rfl qB) (f8 (eJ PyProof.Rows.Boot.«len» (by rw[hB.K];kernel_rfl)) gt (de (cW iL) dD) (oZ hz)) EW) (cc (Int.ofNat_lt.mpr h)) (kh (uz (nq (cW Cm) (B4 Cm (dt hg (by decide))))) (by rw[List.isEmpty_eq_false_iff.mpr hn];rfl)))
   . exact iV (kh (eY (fL rfl qB) (f8 (eJ PyProof.Rows.Boot.«len» (by rw[hB.K];kernel_rfl)) gt (de (cW iL) dD) (oZ hz)) EW) (bS λq=>h (Int.ofNat_lt.mp q)))
 . exact dJ (nc (iV (kh (eY (cW FA) lF (wn rG)) rfl)) gM) hQ
theorem A6 (hB:f7 B) (hQ:∀ G',Q .next ⟨mE ns T RW LA G' (some d) (some en) (some (.lst [.int k])) (some (.str p)) (some al) (some P),(a,.is q)::pM L T k (some cu) G' []⟩):
 dT (jt B L) (iR.drop 9) ⟨mE ns T RW LA G (some d) (some en) (some (.lst [.int k])) (some (.str p)) (some al) (some P),(a,.is q)::pM L T s (some cu) G gl⟩ Q:=by
 refine dJ (lN (i8 (cW Pk) f6 (ly (d:=.int k) (j:=0) (by decide) rfl rfl (dR rfl))) (oK rfl (.tail (.tail .head)))) ?_
 refine iA dD (by decide) λG'=>⟨_,.skip (.skip (.skip (.skip .hit))),?_⟩
 exact oy (o5:=(a,.is q)::pM L T k (some cu) G' []) (r8:=[(G,.list gl)]) (bg (l₁:=[(G',AO.list [])]) (l₂:=[_,_,_,_]) |>.append_right [(G,AO.list gl)] |>.trans (.refl _)) (wI (hQ G'))
end
end
section
section
variable {B:cX} {L:Addr} {ns:List Int} {T p x l:cF} {d:AV} {s k K:Nat} {R gr rr es:cR} {dI:Prop}
theorem Js (q:QT K p d dI):∃ fs,d=.dct (("type",.int K)::fs)/\(K=1\/K=2\/K=3\/K=4\/K=6):=by
 rcases q with⟨hK,x,rfl,_⟩ | ⟨rfl,a,rfl,_⟩ | ⟨b,nm,ps,sc,P,rfl,rfl,rfl,f⟩
 . exact⟨_,rfl,hK.imp id .inl⟩
 . exact⟨_,rfl,.inr (.inr (.inr (.inr rfl)))⟩
 . rcases b with _ | _
   . exact⟨_,rfl,.inr (.inr (.inr (.inl rfl)))⟩
   . exact⟨_,rfl,.inr (.inr (.inl rfl))⟩
theorem sk (h:kB x) (hl:x.length<=200):E8 x:=by
 have k1:∀ c∈Ck,c≠13/\(EN (c:Int)=false/\c < 1114112/\¬ (55296<=c/\c<=56319))/\c≠0/\c≠38:=by decide+kernel
 exact⟨⟨dt hl (by decide),λq=>(k1 _ (h _ q)).1 rfl,λc hc=>(k1 c (h c hc)).2.1⟩,λc hc=>(k1 c (h c hc)).2.2⟩
theorem LI.sz (k:LI l gr rr):gr.length<=4*l.length:=by
 rcases k with _ | ⟨hl,c,hn,he,hk⟩ | @⟨p,r,e1,e2,rs,d,hp,c,k⟩
 . exact cr _
 . exact dt (dt (bE _ _) (cq bt.symm)) (sP c)
 . refine dt (cq (bZ _)) (dt (dt (bE _ _) (cq bt.symm)) (dt (dt (bE _ _) (cq bt.symm)) (dt (sP c.alone) (Nat.mul_le_mul_left 4 (dt (bE _ _) (cq bt.symm))))))
theorem S0 {t e r s p:Nat} (h:s+p+r=t) (he:e<=p):t - (e+r)=s+(p - e):=by
 rw[<-h,Nat.add_comm e r,<-Nat.sub_sub,Nat.add_sub_cancel,Nat.add_sub_assoc he]
theorem Se {t e s:Nat} (hs:s<=t) (he:e<=t - s):t - e=s+(t - s - e):=by
 rw[<-Nat.add_sub_assoc he,Nat.add_sub_of_le hs]
theorem LI.sz' (k:LI (T.drop s) gr rr) (hT:T.length<=200):(gr.map (fh T)).length<=800:=by
 rw[bZ];exact dt k.sz (Nat.mul_le_mul_left 4 (dt (dt (cq bP) (Nat.sub_le _ _)) hT))
inductive LJ (ns:List Int) (T:cF) (R:cR) (L:Addr):Nat->St->Prop
 | go {i s:Nat} {P:cN} {G:Addr} {gr rr:cR} {w1 w2 w3 w4 w5 w6:cN} (hs:s<=T.length) (li:LI (T.drop s) gr rr) (hr:R.drop i=rr) (hi:i<=R.length):LJ ns T R L i ⟨mE ns T (.lst (R.map (fh T))) (dw T T.length) G w1 w2 w3 w4 w5 w6,pM L T s P G (gr.map (fh T))⟩
 | fin {P:cN} {G:Addr} {gl:cG} {w1 w2 w3 w4 w5 w6:cN}:LJ ns T R L (R.length+1) ⟨mE ns T (.lst (R.map (fh T))) (dw T T.length) G w1 w2 w3 w4 w5 w6,pM L T T.length P G gl⟩
theorem Bb {RW LA:AV} {G:Addr} {d w2 w3 w4 w5 w6:cN}:∀ x y,(x,some y)∈mE ns T RW LA G d none none none none none->(x,some y)∈mE ns T RW LA G d w2 w3 w4 w5 w6:=Dg.le (by repeat' first | exact .nil | refine .keep ?_ | refine .drop ?_)
noncomputable abbrev O3 (ns:List Int) (T:cF) (R:cR) (L:Addr) (i:Nat) (a:Addr) (q:Obj->Prop):PF:=λf σ'=>(f=.next\/f=.cont)/\∃ l9 o5,σ'=⟨l9,(a,.is q)::o5⟩/\LJ ns T R L (i+1) ⟨l9,o5⟩
theorem Dn {i:Nat} {a G:Addr} {q:Obj->Prop} (hB:f7 B) (hT:T.length<=200) (ha:kB T) (hs:s<=T.length) (li:LI (T.drop s) gr (R.drop i)) (hi:i < R.length):
 dT (jt B L) iR ⟨mE ns T (.lst (R.map (fh T))) (dw T T.length) G (some R[i].2) none none none none none,(a,.is q)::pM L T s (some (dw T (T.length - R[i].1))) G (gr.map (fh T))⟩ (O3 ns T R L i a q):=by
 have aI:=li.sz' hT
 rw[List.drop_eq_getElem_cons hi]at li
 rcases li.next with⟨⟨r,e⟩,li'⟩ | ⟨p,r,es,d,e0,hp,rfl,e1,c,li'⟩
 . have h:=LJ.go (ns:=ns) (L:=L) (P:=some (dw T (T.length - R[i].1))) (G:=G) (w1:=some R[i].2) (w2:=none) (w3:=none) (w4:=none) (w5:=none) (w6:=none) hs li' rfl hi
   rw[bV]at h
   rw[show[R[i]].map (fh T)=[AV.tup [dw T (T.length - R[i].1),R[i].2]]from rfl]at h
   generalize dw T (T.length - R[i].1)=P at h |-
   rw[e]at h |-
   exact gi (MA hB (dt aI (by decide))) ⟨.inr rfl,_,_,rfl,h⟩
 . rw[e1]
   have eT:=cB List.length e0
   rw[bP,bt]at eT
   have h3:s+p.length+r.length=T.length:=by rw[Nat.add_assoc,<-eT];exact Nat.add_sub_of_le hs
   clear eT;have hk:s+p.length=T.length - r.length:=by rw[<-h3,Nat.add_sub_cancel]
   have hpre:p <+:T.drop s:=⟨r,e0.symm⟩
   have hpa:kB p:=λz hz=>ha z (List.mem_of_mem_drop (hpre.subset hz))
   have aV:p.length<=200:=dt (dt (bY _ s) (bE _ _)) (dt (cq h3) hT)
   have hr:T.drop (T.length - r.length)=r:=by rw[<-hk,<-List.drop_drop,e0,List.drop_left]
   obtain⟨fs,rfl,hK⟩:=Js c.q;have hro:=FC (c.alone.ok (Rx aV) (0,_) (bT.mpr (.inr dH)))
   have hgl:(sh r.length es).map (fh T)++[.tup [dw T (T.length - r.length),.dct (("type",.int (eC (T.drop s)))::fs)]]=(es++[(0,AV.dct (("type",.int (eC (T.drop s)))::fs))]).map (E5 T p s):=by
    rw[bV,List.map_map];refine congr (cB _ (List.map_congr_left λe he=>?_)) ?_
    . have hle:e.1<=p.length:=c.alone.pl e (bT.mpr (.inl he))
      show AV.tup [dw T (T.length - (e.1+r.length)),e.2]=.tup [dw T (s+(p.length - e.1)),e.2]
      rw[S0 h3 hle]
    . show[AV.tup [dw T (T.length - r.length),_]]=[AV.tup [dw T (s+(p.length - 0)),_]]
      rw[<-hk];rfl
   have hh:eG B 3 818 [.str p,.dct (("type",.int (eC (T.drop s)))::fs),.bool (decide ((((sh r.length es).map (fh T)++[AV.tup [dw T (T.length - r.length),.dct (("type",.int (eC (T.drop s)))::fs)]]).length:Int)=1))] (.bool true):=by
    refine Cu hB (dt aV (by decide)) hpa c.q hro λe n=>n ?_
    have e:=of_decide_eq_true e
    rw[bt,bZ,bZ]at e
    exact b7 (Nat.succ.inj (Int.ofNat.inj e))
   refine jp 1 (Ls hB (dt aI (by decide)) (by rcases hK with h | h | h | h | h<;>rw[h]<;>decide)) ?_
   refine Gw hB hT hpre hs hk (sk hpa aV) c.alone (Gh hB hT hpre hs hk c.alone hgl (F8 hB hT (by rw[bt];exact dt (bH aI) (by decide)) hK hh (A6 hB λG'=>⟨.inl rfl,_,_,rfl,?_⟩)))
   exact .go (gr:=[]) (Nat.sub_le _ _) (by rw[hr];exact li') rfl hi
theorem E2 {a G:Addr} {q:Obj->Prop} (hB:f7 B) (hT:T.length<=200) (ha:kB T) (hs:s<=T.length) (li:LI (T.drop s) gr []):
 dT (jt B L) iR ⟨mE ns T (.lst (R.map (fh T))) (dw T T.length) G (some .none) none none none none none,(a,.is q)::pM L T s (some (dw T T.length)) G (gr.map (fh T))⟩ (O3 ns T R L R.length a q):=by
 have aI:=li.sz' hT
 have hla:kB (T.drop s):=λz hz=>ha z (List.mem_of_mem_drop hz)
 have hll:(T.drop s).length=T.length - s:=bP
 obtain⟨c,hK,hn⟩:dL .data .none (T.drop s) gr .data .none []/\(eC (T.drop s)=0\/eC (T.drop s)=3\/eC (T.drop s)=4)/\(s < T.length->gr≠[]):=by
  rcases li.stop with⟨e1,rfl⟩ | ⟨_,c,hn,_,hk⟩
  . rw[e1]at hll |-
    exact⟨.refl,.inl rfl,λh=>cD (show 0=T.length - s from hll) (Nat.ne_of_lt (Nat.sub_pos_of_lt h))⟩
  . exact⟨c,hk,λy=>hn⟩
 have hgl:gr.map (fh T)=gr.map (E5 T (T.drop s) s):=List.map_congr_left λe he=>by
  have hle:=c.pl e he
  show AV.tup [dw T (T.length - e.1),e.2]=.tup [dw T (s+((T.drop s).length - e.1)),e.2]
  rw[hll]at hle |-
  rw[Se hs hle]
 refine jp 1 (Mh hB) ?_
 have hk:s+(T.drop s).length=T.length:=by rw[hll];exact Nat.add_sub_of_le hs
 exact Gw hB hT (bF _) hs hk (sk hla (dt (dt (bY _ s) (cq hk)) hT)) c (Gh hB hT (bF _) hs hk c hgl (Cc hB hT (dt aI (by decide)) hK (λh e=>hn h (List.map_eq_nil_iff.mp e)) (A6 hB λG'=>⟨.inl rfl,_,_,rfl,.fin⟩)))
end
end
section
noncomputable def kK:cV:=[[60],[62],[47],[97],[32],[10],[33],[45],[45,45],[60,33,45,45],[45,45,62],[61],[34],[39],[60,98,32],[60,47],[63],[120,61],[60,33],[60,47,98,62],[60,97],[81],[49],[233]]
theorem sr {B:cX} (hB:f7 B):eF B (.ref 767) (.lst (kK.map .str)):=by
 refine Be (by rw[hB.K];rfl) ?_
 rfl
noncomputable def gH (n:Int):cF:=kK.getD (n.fmod 24).toNat []
theorem oG (k:Int):kK[(k.fmod 24).toNat]? =some (gH k):=by
 have h0:0<=k.fmod 24:=Int.fmod_nonneg_of_pos k (by decide)
 have h1:k.fmod 24 < 24:=Int.fmod_lt_of_pos k (by decide)
 have h2:(k.fmod 24).toNat < kK.length:=by show _ < 24;omega
 unfold gH;rw[b9 h2,b8,b9 h2];rfl
theorem rB (k:Int):(gH k).length<=4/\kB (gH k):=(show ∀ x∈kK,x.length<=4/\∀ c∈x,c∈Ck by decide) _ (List.mem_of_getElem? (oG k))
noncomputable def jb (ns:List Int):cF:=((ns.take 14).map gH).flatten
theorem ye (ns:List Int):(jb ns).length<=56/\kB (jb ns):=by
 have kc:∀ l:List Int,(l.map gH).flatten.length<=4*l.length/\kB (l.map gH).flatten:=by
  intro l
  induction l with
  | nil=>exact⟨cv _,cZ⟩
  | cons a l ih=>
   have:=(rB a).1
   refine⟨?_,fk (rB a).2 ih.2⟩
   have:=ih.1
   rw[cf,List.flatten_cons,bt,bL];omega
 have h:=kc (ns.take 14)
 have h2:(ns.take 14).length<=14:=by rw[List.length_take];omega
 exact⟨by unfold jb;omega,h.2⟩
noncomputable def Ab (ns:List Int):cF:=if (jb ns).drop ((jb ns).length - 3)=[60,33,45] then jb ns++[62] else jb ns
theorem D9 (ns:List Int):(Ab ns).length<=200/\Qh (Ab ns):=by
 have h:=ye ns
 have e3:∀ l:cF,[60,33,45] <:+l->l.drop (l.length - 3)=[60,33,45]:=λl q=>(List.suffix_iff_eq_drop.mp q).symm
 unfold Ab
 by_cases e:(jb ns).drop ((jb ns).length - 3)=[60,33,45]
 . rw[cE e]
   refine⟨by rw[bt];exact dt (bk h.1 1) (by decide),fk h.2 (by decide),λq=>?_⟩
   obtain⟨a,q⟩:=q;have:=cB List.getLast? q
   rw[List.getLast?_append,List.getLast?_append]at this
   exact cD (Option.some.inj this) (by decide)
 . rw[cC e]
   exact⟨dt h.1 (by decide),h.2,λq=>e (e3 _ q)⟩
theorem BP {X:Cx} {σ:St} {pn:Pos} (hB:f7 X.B) (e:nsIn X.B.K mainGlobals "_law_PIECES"=some (some (.ref 767))) (hk:autoParam (X.env.scope.kind=.function) bR) (hl:autoParam (X.env.kindOf "_law_PIECES"=some .globalImplicit) bK) (hg:autoParam (X.env.globals=mainGlobals) bR):Ev X (.Name "_law_PIECES" pn) σ (.lst (kK.map .str)) σ:=
 ku e (sr hB) hk hl hg
noncomputable abbrev LD (ns:List Int) (tx rw la gr tk ki cu pi al en:cN):LL:=[("script",some (.obj (qz ns))),("text",tx),("rows",rw),("last",la),("group",gr),("token",tk),("kind",ki),("cuts",cu),("piece",pi),("alone",al),("end",en)]
noncomputable abbrev cl0 (L:Addr) (m s:cN):OL:=[(L+1,.cell m),(L+2,.cell s),(L+3,.cell none)]
section
variable {B:cX} {L:Addr} {ns:List Int} {T:cF} {R:cR} {Q:PF}
theorem KW:(ns.map AV.int).take (fF (ns.map AV.int).length 14)=(ns.take 14).map .int:=by
 rw[List.map_take];exact List.take_eq_take_min.symm
theorem JO (hB:f7 B) (aJ:ns.length<=63) (hQ:dT (jt B L) ((fj kC).drop 2) ⟨LD ns (some (.str (Ab ns))) none none none none none none none none none,cl0 L none none⟩ Q):dT (jt B L) (fj kC) ⟨LD ns none none none none none none none none none none,cl0 L none none⟩ Q:=by
 have h14:((ns.take 14).map AV.int).length<=14:=by rw[bZ];exact List.length_take_le _ _
 have hx:=(ye ns).1
 have ga:dZ (λz=>true) (λi=>((ns.take 14).map λn=>AV.str (gH n)).getD i .any) ((ns.take 14).map AV.int).length=(ns.take 14).map λn=>AV.str (gH n):=by
  rw[show((ns.take 14).map AV.int).length=((ns.take 14).map λn=>AV.str (gH n)).length from by rw[bZ,bZ]];exact jo _
 refine dJ (lN (d:=.str (jb ns)) (n8 (eN su) (qR PySem.F.slot_str_join PySem.F.type_str_join) gt (de
  (pI (N:=((ns.take 14).map AV.int).length) (i3:=λi=>((ns.take 14).map AV.int).getD i .any) (d:=.lst ((ns.take 14).map AV.int)) ["n"] (λz=>true) (λi=>((ns.take 14).map λn=>AV.str (gH n)).getD i .any) (dt h14 (by decide)) (nN (Bt (l:=ns.map .int) (cW dH) (f6 (i:=14)) .ints (by rw[bZ];exact dt aJ (by decide))) (cB AV.lst KW)) (λxv=>jY) (λi hi=>?_) rfl) dD)
  (by rw[ga];exact ot (ms:=(ns.take 14).map gH) (mX gH _) (dt hx (by decide)))) (fc (.skip .hit))) ?_
 . have aT:i < (ns.take 14).length:=by rw[bZ]at hi;exact hi
   refine iH.cast (a':=.int (ns.take 14)[i]) (d':=.str (gH (ns.take 14)[i])) (by rw[b8,bz,b9 aT];rfl) (by rw[b8,bz,b9 aT];rfl) ?_
   generalize(ns.take 14)[i]=k
   exact⟨λC p q=>⟨[("n",some (.int k))],[("n",some (.int k))],eV (fc .hit),oP,λz=>
    i8 (BP hB (by rw[hB.K];kernel_rfl)) (nf (cW dH) f6 (G0 (by decide))) (ly (Int.fmod_nonneg_of_pos k (by decide)) rfl (by rw[bz,oG];rfl) (by decide))⟩⟩
 . have hz:(jb ns).length<=16777216:=dt hx (by decide)
   have hz1:(jb ns).length+([62]:cF).length<=16777216:=dt (bk hx 1) (by decide)
   have e3:sl (jb ns) (some (-3)) none=(jb ns).drop ((jb ns).length - 3):=by rw[qU,bG];rfl
   unfold Ab at hQ;rw[<-e3]at hQ
   by_cases e:sl (jb ns) (some (-3)) none=[60,33,45]
   . rw[cE e]at hQ
     exact dJ (rF (eY (gg (cW iL) (fo (qo f6)) gW rfl rfl hz) (eN (l:=[60,33,45]) (by kernel_rfl)) (by have:=iT (X:=jt B L) (σ:=⟨LD ns (some (.str (jb ns))) none none none none none none none none none,cl0 L none none⟩) (x:=sl (jb ns) (some (-3)) none) (y:=[60,33,45]);rw[cc e]at this;exact this)) (gQ (MD iL (eN (l:=[62]) (by kernel_rfl)) (B5 hz1) (fc (.skip .hit))) gM)) hQ
   . rw[cC e]at hQ
     exact dJ (nc (eY (gg (cW iL) (fo (qo f6)) gW rfl rfl hz) (eN (l:=[60,33,45]) (by kernel_rfl)) (by have:=iT (X:=jt B L) (σ:=⟨LD ns (some (.str (jb ns))) none none none none none none none none none,cl0 L none none⟩) (x:=sl (jb ns) (some (-3)) none) (y:=[60,33,45]);rw[bS e]at this;exact this)) gM) hQ
theorem Nd (hB:f7 B) (hT:T.length<=200) (t:Qh T) (hQ:∀ σ,Q (.ret (.bool true)) σ):dT (jt B L) ((fj kC).drop 2) ⟨LD ns (some (.str T)) none none none none none none none none none,cl0 L none none⟩ Q:=by
 obtain⟨R,k,c⟩:=LX _ T (bQ _) t;have hx:=sk t.al hT
 have hz:T.length<=16777216:=dt hT (by decide)
 have hRl:R.length<=800:=dt (sP c) (Nat.mul_le_mul_left 4 hT)
 refine dJ (lN (DC (eZ (v:=.ref 775) (by rw[hB.K];kernel_rfl)) (fS (by rw[hB.K];kernel_rfl)) (de (cW iL) dD) (Fo hB hx.plain) (dR rfl)) (oK rfl oB.head)) ?_
 refine dJ (BZ (f8 (eZ (v:=.ref 782) (by rw[hB.K];kernel_rfl)) (fS (by rw[hB.K];kernel_rfl)) (de (cW iL) dD) (Co (FP hB hx hT c _) (dR rfl))) (eV (fc (.skip (.skip .hit)))) (eV (fc (.skip (.skip (.skip .hit)))))) ?_
 refine dJ (lN (f6 (i:=0)) (oK rfl (.tail .head))) ?_
 refine iA dD (by decide) λG=>⟨_,.skip (.skip (.skip (.skip .hit))),?_⟩
 refine oy (o5:=pM L T 0 none G []) (r8:=[]) (by rw[bX];exact bg (l₁:=[(G,AO.list [])]) (l₂:=[_,_,_])) ?_
 have hrl:(R.map (fh T)).length=R.length:=bZ _
 refine pE (λσ=>LJ ns T R L (R.length+1) σ) (DE (N:=(R.map (fh T)++[AV.tup [dw T T.length,.none]]).length) (i3:=λi=>(R.map (fh T)++[AV.tup [dw T T.length,.none]]).getD i .any) (LJ ns T R L)
  (nf (cW qB) (xI (de (kJ (de (cW uD) (de lF dD)) (dR rfl)) dD) (dR rfl)) (KB (by rw[hrl];exact dt (bH hRl) (by decide)))) (λxv=>jY) (.go (gr:=[]) (cr _) (.of k) rfl (cr _)) (λσ h=>⟨rfl,by rw[bt,hrl]at h;exact h⟩) ?_) ?_
 . intro i l8 oe a q hi hj
   rw[bt,hrl]at hi
   have hi:i < R.length+1:=hi
   generalize hσ:(⟨l8,oe⟩:St)=σ at hj
   rcases hj with @⟨_,s,P,G,gr,rr,w1,w2,w3,w4,w5,w6,hs,li,rfl,hir⟩ | _
   . obtain rfl:l8= _:=cB St.loc hσ
     obtain rfl:oe= _:=cB St.objs hσ
     by_cases au:i < R.length
     . have e1:(R.map (fh T)++[AV.tup [dw T T.length,.none]]).getD i .any=fh T R[i]:=by rw[b8,List.getElem?_append_left (by rw[hrl];exact au),bz,b9 au];rfl
       rw[e1];exact⟨_,y8 (eV (oK rfl (.tail (.tail (.tail .head))))) (eV (fc (.skip (.skip (.skip (.skip (.skip .hit))))))),rO (Dn hB hT t.al hs li au) Bb vJ⟩
     . obtain rfl:i=R.length:=Nat.le_antisymm (Nat.le_of_lt_succ hi) (Nat.le_of_not_lt au)
       have e1:(R.map (fh T)++[AV.tup [dw T T.length,.none]]).getD R.length .any=.tup [dw T T.length,.none]:=by rw[b8,List.getElem?_append_right (by rw[hrl];exact cv _),hrl,Nat.sub_self];rfl
       rw[e1];rw[List.drop_length]at li
       exact⟨_,y8 (eV (oK rfl (.tail (.tail (.tail .head))))) (eV (fc (.skip (.skip (.skip (.skip (.skip .hit))))))),rO (E2 hB hT t.al hs li) Bb vJ⟩
   . exact cD hi (Nat.lt_irrefl _)
 . intro σ h
   generalize hn:R.length+1=n at h
   rcases h with⟨_,_,_,hir⟩ | _
   . omega
   . refine gi (jN (jG (nN (oW (fL rfl iL) (f8 (eJ PyProof.Rows.Boot.«len» (by rw[hB.K];kernel_rfl)) gt (de (cW iL) dD) (oZ hz)) KE) (cB AV.bool (cc rfl))))) (hQ _)
theorem J9 (hB:f7 B) (ns:List Int) (aJ:ns.length<=63):cY B 12 823 [.obj (qz ns)] [] λd y=>d=.bool true:=by
 refine uy (b3:=fj kC) (si:=il kC) (ah:=[.obj (qz ns)]) ["script"] ["text","rows","last","group","token","kind","cuts","piece","alone","end"] ["marks","start","spot"] (by rw[hB.K];rfl) (by rw[hB.K];kernel_rfl) (Q7 λy=>rfl) rfl (λL=>?_) rfl rfl
 obtain⟨h1,h2⟩:=D9 ns;exact JO (L:=L) hB aJ (Nd hB h1 h2 λσ=>⟨_,rfl,rfl⟩)
end
end
section
theorem QZ:PySem.Challenge.rw_te0034_05.Holds:=Du λd kwd hdn=>(by
 intro w s9 s0 mg mb G Y fa o pm cd d8 dV kV ho hdd aP hD hmg hg ah v8 as hpre hlay hrd hwl hlo;have KX:=kIn_of Y
 refine Ground.open G ?_
 intro T B D TE TW
 wrow_args hpre hlay hrd hwl hlo
 refine enter_call ?_
 refine Eu (n:=12) (fl:=823) KX hmg T.g T.b T.builtins T.nolimit (by refine hdn▸?_;kernel_rfl) ‹_› ‹_› hg (by decide) (λB e1 e2 e3=>?_) λs' hk hos hb=>?_
 . refine J9 (B:=B) ⟨by rw[e3,<-e2]⟩ _ ?_
   omega
 . refine⟨.inl ⟨_,_,[],rfl,λy=>rfl,ReadsW.bool true,?_,λy=>⟨List.nodup_nil,λy hm=>(nomatch hm)⟩⟩,.of_keep hk,hos,hb⟩
   first | rfl | wrow_post)
end
end
end Mine

theorem PySem.Challenge.cw_te0034_05_holds : PySem.Challenge.rw_te0034_05.Holds := by
 exact Mine.QZ
