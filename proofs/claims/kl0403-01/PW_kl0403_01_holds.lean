import PyProof.Rows.All
import Wide.All
import OpenK.AllK
import Wide.FinOn
import KE.KFromBytes
import Lean
import PySem.Challenge.RW_kl0403_01
set_option maxRecDepth 100000
set_option linter.all false
set_option genInjectivity false
set_option tactic.hygienic false
set_option genCtorIdx false
set_option genSizeOf false
set_option genSizeOfSpec false
set_option bootstrap.genMatcherCode false
namespace Mine
open PySem PySem.W PySem.Calls PyProof.Rows
variable {A:Around} {n:Nat} {pos:Pos} {α:Type} {vs:List Value} {E Q:Value→Shared→Prop} {d:Addr} {c:Nat} {po:Bool} {a:Addr} {fd:FuncData} {ns:List Str} {o:Obj} {h:Heap} {q:Bool} {ln:Int} {wh:Bool} {r:List Nat} {b:Bool} {h':Heap} {env:Env} {m:Nat} {i:Int} {y:Str} {R:Result→Shared→Prop} {β:Type} {gd:List Prop} {I:Addr} {body:List Stmt} {K:Frag} {t:Tok} {ks tk:List Nat} {op:Operator} {T:String} {Φ:α→Prop} {C:Addr} {s':Shared} {xp:Pos} {j:Nat} {P1 P2:Prop} {name:Str} {cT:Shared} {nm:Str} {done lf buf:List Nat} {P3:Prop} {gs:List Prop} {ta sl:Addr} {us:List Value} {ag:Shared} {St:Nat→Heap→Prop} {tgt:Expr} {ap:Pos} {pn c':List Nat} {P4:Prop} {apos cp:Pos} {fp wr:List Addr} {ifs:List Expr} {iter:Expr} {Acc:Type} {kp:List Nat} {q':Bool} {P5:Prop} {vl vu:Value} {lo hi:Option Int} {prog:Program} {ops:List CmpOp} {id:String} {fa:Addr} {sc:Scope} {yp ip tp:Pos}
noncomputable abbrev S (l:List Nat):Str:=⟨l.toArray⟩
noncomputable def cs (x:Str):List Nat:=x.cps.toList
theorem Cd (x:Str):S (cs x)=x:=by induction x using Str.casesOn;simp[cs]
theorem MG (l:List Nat):cs (S l)=l:=by simp[cs]
theorem MH {a b:List Nat} (h:S a=S b):a=b:=by have:=congrArg cs h;rwa[MG,MG] at this
noncomputable def lEq (x:List Nat):List Nat→Bool:=by
 induction x with
 | nil=>intro y;induction y using List.casesOn with|nil=>exact true|cons b y=>exact false
 | cons a x ih=>intro y;induction y using List.casesOn with|nil=>exact false|cons b y=>exact Nat.beq a b&&ih y
theorem lEq_iff {x:List Nat}:∀{y:List Nat},lEq x y=true↔x=y:=by
 induction x with
 | nil=>intro y;induction y using List.casesOn with|nil=>exact ⟨λz=>rfl,λz=>rfl⟩|cons b y=>exact ⟨λh=>Bool.noConfusion h,λh=>nomatch h⟩
 | cons a x ih=>intro y;induction y using List.casesOn with|nil=>exact ⟨λh=>Bool.noConfusion h,λh=>nomatch h⟩|cons b y=>show (Nat.beq a b&&lEq x y)=true↔_;rw[Bool.and_eq_true,Nat.beq_eq,ih,List.cons.injEq]
theorem uA (x:List Nat):lEq x x=true:=lEq_iff.mpr rfl
noncomputable def seq (a b:Str):Bool:=lEq (cs a) (cs b)
theorem aK {a b:Str}:seq a b=true↔a=b:=by
 unfold seq;rw[lEq_iff];constructor
 ·intro h;rw[←Cd a,←Cd b,h]
 ·rintro rfl;rfl
inductive PV where
 | none
 | bool (b:Bool)
 | int (i:Int)
 | str (s:List Nat)
 | tup (xs:List PV)
 | lst (xs:List PV)
 | arr (xs:List PV)
 | lF (kvs:List (List Nat×List Nat))
 | ref (k:Nat)
 | glob (v:Value)
variable {xs:List PV} {pl:PV} {row args:List PV} {rn:PV} {iS ys:List PV} {vw z:PV} {as:List PV}
def AllP (l_:List Prop):Prop:=by induction l_ with|nil=>exact True|cons p r ih=>exact p∧ih
theorem AllP.append:∀{a b:List Prop},AllP (a++b)→AllP a∧AllP b|[],_,h=>⟨trivial,h⟩|_::_,_,h=>⟨⟨h.1,(AllP.append h.2).1⟩,(AllP.append h.2).2⟩
theorem AllP.iL {c:Prop} (hc:c):∀{a:List Prop},AllP (a.map (λp=>c→p))→AllP a|[],_=>trivial|_::_,h=>⟨h.1 hc,AllP.iL hc h.2⟩
abbrev Fz:=Addr→Option Obj
variable {P':Fz}
abbrev bq:=Nat→Option (Addr×Addr)
variable {jA:bq}
def MI (w:World) (e:DictEntry) (kv:List Nat×List Nat):Prop:=(∃t,e.key=.str (S kv.1) t)∧e.hash=PyData.keyHash w.params (S kv.1)∧(∃t,e.val=.str (S kv.2) t)∧kv.2.length≤sizeLine
inductive bY (w:World):List DictEntry→List (List Nat×List Nat)→Prop
 | nil:bY w [] []
 | cons {e es kv kvs}:MI w e kv→bY w es kvs→bY w (e::es) (kv::kvs)
def Rv (w:World) (P:Fz) (ι:bq) (v:Value) (x:PV):Prop:=PV.rec (motive_1:=λz=>Value→Prop) (motive_2:=λz=>List Value→Prop) (λv=>v=.none) (λb v=>v=.bool b) (λi v=>∃t,v=.int i t) (λs v=>∃t,v=.str (S s) t∧s.length≤sizeLine) (λxs ih v=>∃a vs n,v=.ref a∧P a=some {cls:=.type "tuple",data:=.seq vs.toArray n}∧xs.length≤sizeLine∧ih vs) (λxs ih v=>∃a vs n,v=.ref a∧P a=some {cls:=.type "list",data:=.seq vs.toArray n}∧xs.length≤sizeLine∧ih vs) (λxs ih v=>∃a vs n dd sl,v=.ref a∧P a=some {cls:=.type "list",dict:=dd,data:=.seq vs.toArray n,slots:=sl}∧xs.length≤sizeLine∧ih vs) (λkvs v=>∃d es n,v=.ref d∧(d==sysModules)=false∧P d=some {cls:=.type "dict",data:=.dict es.toArray n}∧bY w es kvs) (λk v=>∃a d,v=.ref a∧ι k=some (a,d)) (λu v=>v=u) (λvs=>vs=[]) (λx xs Ap Aq vs=>∃u us,vs=u::us∧Ap u∧Aq us) x v
def aT (w:World) (P:Fz) (ι:bq) (vs:List Value) (xs:List PV):Prop:=PV.rec_1 (motive_1:=λz=>Value→Prop) (motive_2:=λz=>List Value→Prop) (λv=>v=.none) (λb v=>v=.bool b) (λi v=>∃t,v=.int i t) (λs v=>∃t,v=.str (S s) t∧s.length≤sizeLine) (λxs ih v=>∃a vs n,v=.ref a∧P a=some {cls:=.type "tuple",data:=.seq vs.toArray n}∧xs.length≤sizeLine∧ih vs) (λxs ih v=>∃a vs n,v=.ref a∧P a=some {cls:=.type "list",data:=.seq vs.toArray n}∧xs.length≤sizeLine∧ih vs) (λxs ih v=>∃a vs n dd sl,v=.ref a∧P a=some {cls:=.type "list",dict:=dd,data:=.seq vs.toArray n,slots:=sl}∧xs.length≤sizeLine∧ih vs) (λkvs v=>∃d es n,v=.ref d∧(d==sysModules)=false∧P d=some {cls:=.type "dict",data:=.dict es.toArray n}∧bY w es kvs) (λk v=>∃a d,v=.ref a∧ι k=some (a,d)) (λu v=>v=u) (λvs=>vs=[]) (λx xs Ap Aq vs=>∃u us,vs=u::us∧Ap u∧Aq us) xs vs
theorem PV.both {M:PV→Prop} {N:List PV→Prop} (m1:M .none) (m2:∀b,M (.bool b)) (m3:∀i,M (.int i)) (m4:∀s,M (.str s)) (m5:∀xs,N xs→M (.tup xs)) (m6:∀xs,N xs→M (.lst xs)) (m7:∀xs,N xs→M (.arr xs)) (m8:∀k,M (.lF k)) (m9:∀k,M (.ref k)) (Sj:∀v,M (.glob v)) (Sk:N []) (Sl:∀x xs,M x→N xs→N (x::xs)):(∀x,M x)∧∀xs,N xs:=⟨PV.rec m1 m2 m3 m4 m5 m6 m7 m8 m9 Sj Sk Sl,PV.rec_1 m1 m2 m3 m4 m5 m6 m7 m8 m9 Sj Sk Sl⟩
section
variable {α β γ:Type} {C:Prop}
theorem bS {o:Option α} {f:α→Option β} {r:β} (h:o.bind f=some r) (k:∀a,o=some a→f a=some r→C):C:=(Option.bind_eq_some_iff.mp h).elim λa q=>k a q.1 q.2
theorem bP {o:Option (α×γ)} {f:α×γ→Option β} {r:β} (h:o.bind f=some r) (k:∀g a,o=some (g,a)→f (g,a)=some r→C):C:=(Option.bind_eq_some_iff.mp h).elim λa q=>k a.1 a.2 q.1 q.2
theorem mS {o:Option α} {f:α→β} {r:β} (h:o.map f=some r) (k:∀a,o=some a→f a=r→C):C:=(Option.map_eq_some_iff.mp h).elim λa q=>k a q.1 q.2
theorem mP {o:Option (α×γ)} {f:α×γ→β} {r:β} (h:o.map f=some r) (k:∀g a,o=some (g,a)→f (g,a)=r→C):C:=(Option.map_eq_some_iff.mp h).elim λa q=>k a.1 a.2 q.1 q.2
theorem mR {R:β→Prop} {o:Option α} {f:α→β} {r:β} (h:o.map f=some r) (k:∀a,o=some a→R (f a)):R r:=(Option.map_eq_some_iff.mp h).elim λa q=>Eq.subst q.2 (k a q.1)
theorem au {R:α→Prop} {a b:α} (h:some a=some b) (k:R a):R b:=Eq.subst (Option.some.inj h) k
theorem fQ {R:α→β→Prop} {a c:α} {b d:β} (h:some (a,b)=some (c,d)) (k:R a b):R c d:=by obtain ⟨rfl,rfl⟩:=Prod.mk.inj (Option.some.inj h);exact k
theorem nS {a:α} (h:Option.none=some a):C:=nomatch h
theorem sN {a:α} (h:some a=Option.none):C:=nomatch h
theorem fT (h:false=true):C:=nomatch h
theorem tF (h:true=false):C:=nomatch h
end
section
variable {A1:Sort _} {A2:Sort _} {A3:Sort _} {A4:Sort _} {A5:Sort _} {A6:Sort _} {C:Prop}
theorem aj (h:P1∧P2) (k:P1→P2→C):C:=k h.1 h.2
theorem fK (h:P1∧P2∧P3) (k:P1→P2→P3→C):C:=k h.1 h.2.1 h.2.2
theorem lG (h:P1∧P2∧P3∧P4) (k:P1→P2→P3→P4→C):C:=k h.1 h.2.1 h.2.2.1 h.2.2.2
theorem MJ (h:P1∧P2∧P3∧P4∧P5) (k:P1→P2→P3→P4→P5→C):C:=k h.1 h.2.1 h.2.2.1 h.2.2.2.1 h.2.2.2.2
theorem Sm {P6:Prop} (h:P1∧P2∧P3∧P4∧P5∧P6) (k:P1→P2→P3→P4→P5→P6→C):C:=k h.1 h.2.1 h.2.2.1 h.2.2.2.1 h.2.2.2.2.1 h.2.2.2.2.2
theorem MK {P6 P7:Prop} (h:P1∧P2∧P3∧P4∧P5∧P6∧P7) (k:P1→P2→P3→P4→P5→P6→P7→C):C:=k h.1 h.2.1 h.2.2.1 h.2.2.2.1 h.2.2.2.2.1 h.2.2.2.2.2.1 h.2.2.2.2.2.2
theorem bZ {P1:A1→Prop} (h:∃a1,P1 a1) (k:∀a1,P1 a1→C):C:=h.elim λa1 h=>k a1 h
theorem aG {P1 P2:A1→Prop} (h:∃a1,P1 a1∧P2 a1) (k:∀a1,P1 a1→P2 a1→C):C:=h.elim λa1 h=>k a1 h.1 h.2
theorem w6 {P1 P2 P3:A1→Prop} (h:∃a1,P1 a1∧P2 a1∧P3 a1) (k:∀a1,P1 a1→P2 a1→P3 a1→C):C:=h.elim λa1 h=>k a1 h.1 h.2.1 h.2.2
theorem Mo {P1 P2 P3 P4:A1→Prop} (h:∃a1,P1 a1∧P2 a1∧P3 a1∧P4 a1) (k:∀a1,P1 a1→P2 a1→P3 a1→P4 a1→C):C:=h.elim λa1 h=>k a1 h.1 h.2.1 h.2.2.1 h.2.2.2
theorem rh {P1:A1→A2→Prop} (h:∃a1 a2,P1 a1 a2) (k:∀a1 a2,P1 a1 a2→C):C:=h.elim λa1 h=>h.elim λa2 h=>k a1 a2 h
theorem gU {P1 P2:A1→A2→Prop} (h:∃a1 a2,P1 a1 a2∧P2 a1 a2) (k:∀a1 a2,P1 a1 a2→P2 a1 a2→C):C:=h.elim λa1 h=>h.elim λa2 h=>k a1 a2 h.1 h.2
theorem cY {P1 P2 P3:A1→A2→Prop} (h:∃a1 a2,P1 a1 a2∧P2 a1 a2∧P3 a1 a2) (k:∀a1 a2,P1 a1 a2→P2 a1 a2→P3 a1 a2→C):C:=h.elim λa1 h=>h.elim λa2 h=>k a1 a2 h.1 h.2.1 h.2.2
theorem Ce {P1 P2 P3 P4:A1→A2→Prop} (h:∃a1 a2,P1 a1 a2∧P2 a1 a2∧P3 a1 a2∧P4 a1 a2) (k:∀a1 a2,P1 a1 a2→P2 a1 a2→P3 a1 a2→P4 a1 a2→C):C:=h.elim λa1 h=>h.elim λa2 h=>k a1 a2 h.1 h.2.1 h.2.2.1 h.2.2.2
theorem TM {P1 P2 P3 P4 P5 P6 P7:A1→A2→Prop} (h:∃a1 a2,P1 a1 a2∧P2 a1 a2∧P3 a1 a2∧P4 a1 a2∧P5 a1 a2∧P6 a1 a2∧P7 a1 a2) (k:∀a1 a2,P1 a1 a2→P2 a1 a2→P3 a1 a2→P4 a1 a2→P5 a1 a2→P6 a1 a2→P7 a1 a2→C):C:=h.elim λa1 h=>h.elim λa2 h=>k a1 a2 h.1 h.2.1 h.2.2.1 h.2.2.2.1 h.2.2.2.2.1 h.2.2.2.2.2.1 h.2.2.2.2.2.2
theorem IC {P1 P2:A1→A2→A3→Prop} (h:∃a1 a2 a3,P1 a1 a2 a3∧P2 a1 a2 a3) (k:∀a1 a2 a3,P1 a1 a2 a3→P2 a1 a2 a3→C):C:=h.elim λa1 h=>h.elim λa2 h=>h.elim λa3 h=>k a1 a2 a3 h.1 h.2
theorem PN {P1 P2 P3:A1→A2→A3→Prop} (h:∃a1 a2 a3,P1 a1 a2 a3∧P2 a1 a2 a3∧P3 a1 a2 a3) (k:∀a1 a2 a3,P1 a1 a2 a3→P2 a1 a2 a3→P3 a1 a2 a3→C):C:=h.elim λa1 h=>h.elim λa2 h=>h.elim λa3 h=>k a1 a2 a3 h.1 h.2.1 h.2.2
theorem kq {P1 P2 P3 P4:A1→A2→A3→Prop} (h:∃a1 a2 a3,P1 a1 a2 a3∧P2 a1 a2 a3∧P3 a1 a2 a3∧P4 a1 a2 a3) (k:∀a1 a2 a3,P1 a1 a2 a3→P2 a1 a2 a3→P3 a1 a2 a3→P4 a1 a2 a3→C):C:=h.elim λa1 h=>h.elim λa2 h=>h.elim λa3 h=>k a1 a2 a3 h.1 h.2.1 h.2.2.1 h.2.2.2
theorem Sn {P1 P2 P3 P4 P5 P6:A1→A2→A3→Prop} (h:∃a1 a2 a3,P1 a1 a2 a3∧P2 a1 a2 a3∧P3 a1 a2 a3∧P4 a1 a2 a3∧P5 a1 a2 a3∧P6 a1 a2 a3) (k:∀a1 a2 a3,P1 a1 a2 a3→P2 a1 a2 a3→P3 a1 a2 a3→P4 a1 a2 a3→P5 a1 a2 a3→P6 a1 a2 a3→C):C:=h.elim λa1 h=>h.elim λa2 h=>h.elim λa3 h=>k a1 a2 a3 h.1 h.2.1 h.2.2.1 h.2.2.2.1 h.2.2.2.2.1 h.2.2.2.2.2
theorem So {P1:A1→A2→A3→A4→Prop} (h:∃a1 a2 a3 a4,P1 a1 a2 a3 a4) (k:∀a1 a2 a3 a4,P1 a1 a2 a3 a4→C):C:=h.elim λa1 h=>h.elim λa2 h=>h.elim λa3 h=>h.elim λa4 h=>k a1 a2 a3 a4 h
theorem PO {P1 P2:A1→A2→A3→A4→Prop} (h:∃a1 a2 a3 a4,P1 a1 a2 a3 a4∧P2 a1 a2 a3 a4) (k:∀a1 a2 a3 a4,P1 a1 a2 a3 a4→P2 a1 a2 a3 a4→C):C:=h.elim λa1 h=>h.elim λa2 h=>h.elim λa3 h=>h.elim λa4 h=>k a1 a2 a3 a4 h.1 h.2
theorem TN {P1 P2 P3:A1→A2→A3→A4→Prop} (h:∃a1 a2 a3 a4,P1 a1 a2 a3 a4∧P2 a1 a2 a3 a4∧P3 a1 a2 a3 a4) (k:∀a1 a2 a3 a4,P1 a1 a2 a3 a4→P2 a1 a2 a3 a4→P3 a1 a2 a3 a4→C):C:=h.elim λa1 h=>h.elim λa2 h=>h.elim λa3 h=>h.elim λa4 h=>k a1 a2 a3 a4 h.1 h.2.1 h.2.2
theorem PQ {P1 P2 P3 P4 P5:A1→A2→A3→A4→Prop} (h:∃a1 a2 a3 a4,P1 a1 a2 a3 a4∧P2 a1 a2 a3 a4∧P3 a1 a2 a3 a4∧P4 a1 a2 a3 a4∧P5 a1 a2 a3 a4) (k:∀a1 a2 a3 a4,P1 a1 a2 a3 a4→P2 a1 a2 a3 a4→P3 a1 a2 a3 a4→P4 a1 a2 a3 a4→P5 a1 a2 a3 a4→C):C:=h.elim λa1 h=>h.elim λa2 h=>h.elim λa3 h=>h.elim λa4 h=>k a1 a2 a3 a4 h.1 h.2.1 h.2.2.1 h.2.2.2.1 h.2.2.2.2
theorem TO {P1 P2:A1→A2→A3→A4→A5→Prop} (h:∃a1 a2 a3 a4 a5,P1 a1 a2 a3 a4 a5∧P2 a1 a2 a3 a4 a5) (k:∀a1 a2 a3 a4 a5,P1 a1 a2 a3 a4 a5→P2 a1 a2 a3 a4 a5→C):C:=h.elim λa1 h=>h.elim λa2 h=>h.elim λa3 h=>h.elim λa4 h=>h.elim λa5 h=>k a1 a2 a3 a4 a5 h.1 h.2
theorem TP {P1 P2 P3:A1→A2→A3→A4→A5→Prop} (h:∃a1 a2 a3 a4 a5,P1 a1 a2 a3 a4 a5∧P2 a1 a2 a3 a4 a5∧P3 a1 a2 a3 a4 a5) (k:∀a1 a2 a3 a4 a5,P1 a1 a2 a3 a4 a5→P2 a1 a2 a3 a4 a5→P3 a1 a2 a3 a4 a5→C):C:=h.elim λa1 h=>h.elim λa2 h=>h.elim λa3 h=>h.elim λa4 h=>h.elim λa5 h=>k a1 a2 a3 a4 a5 h.1 h.2.1 h.2.2
theorem yR {P1 P2 P3 P4:A1→A2→A3→A4→A5→Prop} (h:∃a1 a2 a3 a4 a5,P1 a1 a2 a3 a4 a5∧P2 a1 a2 a3 a4 a5∧P3 a1 a2 a3 a4 a5∧P4 a1 a2 a3 a4 a5) (k:∀a1 a2 a3 a4 a5,P1 a1 a2 a3 a4 a5→P2 a1 a2 a3 a4 a5→P3 a1 a2 a3 a4 a5→P4 a1 a2 a3 a4 a5→C):C:=h.elim λa1 h=>h.elim λa2 h=>h.elim λa3 h=>h.elim λa4 h=>h.elim λa5 h=>k a1 a2 a3 a4 a5 h.1 h.2.1 h.2.2.1 h.2.2.2
theorem Sp {P1:A1→A2→A3→A4→A5→A6→Prop} (h:∃a1 a2 a3 a4 a5 a6,P1 a1 a2 a3 a4 a5 a6) (k:∀a1 a2 a3 a4 a5 a6,P1 a1 a2 a3 a4 a5 a6→C):C:=h.elim λa1 h=>h.elim λa2 h=>h.elim λa3 h=>h.elim λa4 h=>h.elim λa5 h=>h.elim λa6 h=>k a1 a2 a3 a4 a5 a6 h
theorem Sq {P1 P2 P3:A1→A2→A3→A4→A5→A6→Prop} (h:∃a1 a2 a3 a4 a5 a6,P1 a1 a2 a3 a4 a5 a6∧P2 a1 a2 a3 a4 a5 a6∧P3 a1 a2 a3 a4 a5 a6) (k:∀a1 a2 a3 a4 a5 a6,P1 a1 a2 a3 a4 a5 a6→P2 a1 a2 a3 a4 a5 a6→P3 a1 a2 a3 a4 a5 a6→C):C:=h.elim λa1 h=>h.elim λa2 h=>h.elim λa3 h=>h.elim λa4 h=>h.elim λa5 h=>h.elim λa6 h=>k a1 a2 a3 a4 a5 a6 h.1 h.2.1 h.2.2
end
section
variable {w:World} {P P':Fz} {ι jA:bq} {v:Value} {x:PV} {vs ws:List Value} {xs ys:List PV} {a:Addr} {n:Nat}
theorem Rv.none:Rv w P ι .none .none:=rfl
theorem Rv.bool (b:Bool):Rv w P ι (.bool b) (.bool b):=rfl
theorem Rv.int (i:Int) (t:Tok):Rv w P ι (.int i t) (.int i):=⟨t,rfl⟩
theorem Rv.str (s:List Nat) (t:Tok) (z:s.length≤sizeLine):Rv w P ι (.str (S s) t) (.str s):=⟨t,rfl,z⟩
theorem Rv.tup (h:P a=some {cls:=.type "tuple",data:=.seq vs.toArray n}) (z:xs.length≤sizeLine) (r:aT w P ι vs xs):Rv w P ι (.ref a) (.tup xs):=⟨a,vs,n,rfl,h,z,r⟩
theorem Rv.lst (h:P a=some {cls:=.type "list",data:=.seq vs.toArray n}) (z:xs.length≤sizeLine) (r:aT w P ι vs xs):Rv w P ι (.ref a) (.lst xs):=⟨a,vs,n,rfl,h,z,r⟩
theorem Rv.lF {es:List DictEntry} {kvs:List (List Nat×List Nat)} (d:(a==sysModules)=false) (h:P a=some {cls:=.type "dict",data:=.dict es.toArray n}) (r:bY w es kvs):Rv w P ι (.ref a) (.lF kvs):=⟨a,es,n,rfl,d,h,r⟩
theorem Rv.ref {k:Nat} (e:ι k=some (a,d)):Rv w P ι (.ref a) (.ref k):=⟨a,d,rfl,e⟩
theorem Rv.glob (v:Value):Rv w P ι v (.glob v):=rfl
theorem aT.nil:aT w P ι [] []:=rfl
theorem aT.cons (h:Rv w P ι v x) (r:aT w P ι vs xs):aT w P ι (v::vs) (x::xs):=⟨v,vs,rfl,h,r⟩
theorem Rv.none_inv (r:Rv w P ι v .none):v=.none:=r
theorem Rv.bool_inv (r:Rv w P ι v (.bool b)):v=.bool b:=r
theorem Rv.int_inv (r:Rv w P ι v (.int i)):∃t,v=.int i t:=r
theorem Rv.str_inv {k:List Nat} (r:Rv w P ι v (.str k)):∃t,v=.str (S k) t∧k.length≤sizeLine:=r
theorem Rv.fR (r:Rv w P ι v (.tup xs)):∃a vs n,v=.ref a∧P a=some {cls:=.type "tuple",data:=.seq vs.toArray n}∧xs.length≤sizeLine∧aT w P ι vs xs:=r
theorem Rv.lst_inv (r:Rv w P ι v (.lst xs)):∃a vs n,v=.ref a∧P a=some {cls:=.type "list",data:=.seq vs.toArray n}∧xs.length≤sizeLine∧aT w P ι vs xs:=r
theorem Rv.gW (r:Rv w P ι v (.arr xs)):∃a vs n dd sl,v=.ref a∧P a=some {cls:=.type "list",dict:=dd,data:=.seq vs.toArray n,slots:=sl}∧xs.length≤sizeLine∧aT w P ι vs xs:=r
theorem Rv.jh {kvs:List (List Nat×List Nat)} (r:Rv w P ι v (.lF kvs)):∃d es n,v=.ref d∧(d==sysModules)=false∧P d=some {cls:=.type "dict",data:=.dict es.toArray n}∧bY w es kvs:=r
theorem Rv.n8 {k:Nat} (r:Rv w P ι v (.ref k)):∃a d,v=.ref a∧ι k=some (a,d):=r
theorem Rv.iT {u:Value} (r:Rv w P ι v (.glob u)):v=u:=r
theorem aT.cons_inv (r:aT w P ι vs (x::xs)):∃u us,vs=u::us∧Rv w P ι u x∧aT w P ι us xs:=r
theorem aT.nil_inv (r:aT w P ι vs []):vs=[]:=r
theorem aT.dv {R:List Value→Prop} (r:aT w P ι vs (x::xs)) (k:∀u us,Rv w P ι u x→aT w P ι us xs→R (u::us)):R vs:=cY r.cons_inv λu us e a b=>Eq.substr e (k u us a b)
theorem aT.eL {R:List Value→Prop} (r:aT w P ι vs []) (k:R []):R vs:=Eq.substr r.nil_inv k
theorem Rv.rj (hP:∀b o,P b=some o→P' b=some o) (fL:∀k a,ι k=some a→jA k=some a):(∀x v,Rv w P ι v x→Rv w P' jA v x)∧∀xs vs,aT w P ι vs xs→aT w P' jA vs xs:=PV.both (λy h=>h) (λy y h=>h) (λy y h=>h) (λy y h=>h) (λy ih v h=>kq h λa vs n e p z r=>⟨a,vs,n,e,hP _ _ p,z,ih vs r⟩) (λy ih v h=>kq h λa vs n e p z r=>⟨a,vs,n,e,hP _ _ p,z,ih vs r⟩) (λy ih v h=>yR h λa vs n dd sl e p z r=>⟨a,vs,n,dd,sl,e,hP _ _ p,z,ih vs r⟩) (λy v h=>kq h λd es n e s p r=>⟨d,es,n,e,s,hP _ _ p,r⟩) (λy v h=>gU h λa d e q=>⟨a,d,e,fL _ _ q⟩) (λy y h=>h) (λy h=>h) λy y Ap Aq vs h=>cY h λu us e a b=>⟨u,us,e,Ap u a,Aq us b⟩
theorem Rv.eS (hP:∀b o,P b=some o→P' b=some o) (fL:∀k a,ι k=some a→jA k=some a) {v:Value} {x:PV} (r:Rv w P ι v x):Rv w P' jA v x:=(Rv.rj hP fL).1 x v r
theorem aT.eS (hP:∀b o,P b=some o→P' b=some o) (fL:∀k a,ι k=some a→jA k=some a) (r:aT w P ι vs xs):aT w P' jA vs xs:=(Rv.rj hP fL).2 xs vs r
theorem Rv.mono (hP:∀b o,P b=some o→P' b=some o) {v:Value} {x:PV} (r:Rv w P ι v x):Rv w P' ι v x:=Rv.eS hP (λz z e=>e) r
theorem aT.mono (hP:∀b o,P b=some o→P' b=some o) (r:aT w P ι vs xs):aT w P' ι vs xs:=aT.eS hP (λz z e=>e) r
theorem aT.length (r:aT w P ι vs xs):vs.length=xs.length:=by induction xs generalizing vs with|nil=>rw[r.nil_inv];rfl|cons x xs ih=>exact r.dv (R:=λvs=>vs.length=_) λu us z q=>congrArg (·+1) (ih q)
theorem aT.append (r:aT w P ι vs xs) (k:aT w P ι ws ys):aT w P ι (vs++ws) (xs++ys):=by induction xs generalizing vs with|nil=>exact r.eL (R:=λvs=>aT w P ι (vs++ws) ys) k|cons x xs ih=>exact r.dv (R:=λvs=>aT w P ι (vs++ws) (x::xs++ys)) λu us h q=>.cons h (ih q)
theorem aT.one (h:Rv w P ι v x):aT w P ι [v] [x]:=.cons h .nil
theorem aT.get {k:Nat} (r:aT w P ι vs xs) (e:xs[k]?=some x):∃v,vs[k]?=some v∧Rv w P ι v x:=by induction xs generalizing vs k with|nil=>exact nS e|cons y xs ih=>refine r.dv (R:=λvs=>∃v,vs[k]?=some v∧Rv w P ι v x) λu us h q=>?_;induction k using Nat.casesOn with|zero=>exact ⟨u,rfl,Option.some.inj e▸h⟩|succ k=>exact ih (vs:=us) (k:=k) q e
theorem aT.drop (k:Nat) (r:aT w P ι vs xs):aT w P ι (vs.drop k) (xs.drop k):=by induction k generalizing vs xs with|zero=>exact r|succ k ih=>induction xs using List.casesOn with|nil=>exact r.eL (R:=λvs=>aT w P ι (vs.drop (k+1)) []) .nil|cons x xs=>exact r.dv (R:=λvs=>aT w P ι (vs.drop (k+1)) (xs.drop k)) λu us z q=>ih q
theorem aT.take (k:Nat) (r:aT w P ι vs xs):aT w P ι (vs.take k) (xs.take k):=by induction k generalizing vs xs with|zero=>exact .nil|succ k ih=>induction xs using List.casesOn with|nil=>exact r.eL (R:=λvs=>aT w P ι (vs.take (k+1)) []) .nil|cons x xs=>exact r.dv (R:=λvs=>aT w P ι (vs.take (k+1)) (x::xs.take k)) λu us h q=>.cons h (ih q)
theorem aT.set (k:Nat) (r:aT w P ι vs xs) (h:Rv w P ι v x):aT w P ι (vs.set k v) (xs.set k x):=by induction xs generalizing vs k with|nil=>exact r.eL (R:=λvs=>aT w P ι (vs.set k v) []) .nil|cons y xs ih=>refine r.dv (R:=λvs=>aT w P ι (vs.set k v) ((y::xs).set k x)) λu us h' q=>?_;induction k using Nat.casesOn with|zero=>exact .cons h q|succ k=>exact .cons h' (ih k q)
end
structure cm (P:Fz) (h:Heap) (P':Fz) (h':Heap):Prop where
 stays:h.StaysIn h'
 le:∀b o,P b=some o→P' b=some o
 new:∀b o,P' b=some o→P b=some o∨(h.get? b=Option.none∧h'.get? b=some o)
def aB (P:Fz) (h:Heap):Prop:=∀b o,P b=some o→h.get? b=some o
section
variable {P P' Vu:Fz} {h h' gm:Heap}
theorem cm.refl:cm P h P h:=⟨λz z e=>e,λz z e=>e,λz z e=>.inl e⟩
theorem cm.keep (k:h.StaysIn h'):cm P h P h':=⟨k,λz z e=>e,λz z e=>.inl e⟩
theorem aw (k:h.StaysIn h') {b:Addr} (e:h'.get? b=Option.none):h.get? b=Option.none:=by induction q:h.get? b with|none=>rfl|some o=>rw[k b o q] at e;cases e
theorem aB.grow (F:aB P h) (x:cm P h P' h'):aB P' h':=λb o e=>by
 rcases x.new b o e with q | ⟨_,q⟩
 ·exact x.stays b o (F b o q)
 ·exact q
noncomputable def Fz.put (P:Fz) (a:Addr) (o:Obj):Fz:=λb=>if b=a then some o else P b
theorem cm.put (k:h.StaysIn h') (F:aB P h) (hn:h.get? a=Option.none) (ho:h'.get? a=some o):cm P h (P.put a o) h':=by
 refine ⟨k,λb o' e=>?_,λb o' e=>?_⟩
 ·unfold Fz.put;split
  ·rename_i q;subst q;rw[F b o' e] at hn;cases hn
  ·exact e
 ·unfold Fz.put at e;split at e
  ·rename_i q;subst q;obtain rfl:=Option.some.inj e;exact .inr ⟨hn,ho⟩
  ·exact .inl e
theorem dH :P.put a o a=some o:=by simp[Fz.put]
end
structure G where
 prog:Program
 w:World
 K:Frag
 p:Program
 loose:List Str
 mg:Str→Option Value
 mb:Str→Option Value
variable {g:G}
def G.Ok (g:G) (h:Heap):Prop:=g.K.In h∧TopRead g.p g.loose g.mg g.mb h
theorem G.Ok.keeps (x:g.Ok h) (k:h.StaysIn h'):g.Ok h':=⟨x.1.keeps k,x.2.keeps k⟩
structure Vv (A:Around) (dep:Nat):Prop where
 handled:A.handled=Option.none
 depth:A.depth+dep<recursionLimit
 units:A.units+10*dep+100<cLine
def Pu (g:G) (A:Around) (ι:bq) (P:Fz) (s:Shared) (t:Sem Value) (pv:PV):Prop:=∀(Q:Value→Shared→Prop) (E:Value→Shared→Prop),(∀v h' tk P',cm P s.heap P' h'→s.toks≤tk→Rv g.w P' ι v pv→Q v {s with heap:=h',toks:=tk})→wpAny (model g.prog g.w) A t Q E s
def qA (g:G) (A:Around) (P:Fz) (s:Shared) (t:Sem Bool) (b:Bool):Prop:=∀(Q:Bool→Shared→Prop) (E:Value→Shared→Prop),(∀h' tk P',cm P s.heap P' h'→s.toks≤tk→Q b {s with heap:=h',toks:=tk})→wpAny (model g.prog g.w) A t Q E s
section
variable {w:World} {P:Fz} {ι:bq} {v:Value} {xs:List PV} {x:PV} {R:Value→Prop}
theorem Rv.et (r:Rv w P ι v .none) (k:R .none):R v:=Eq.substr r.none_inv k
theorem Rv.eY (r:Rv w P ι v (.bool b)) (k:R (.bool b)):R v:=Eq.substr r.bool_inv k
theorem Rv.bx (r:Rv w P ι v (.int i)) (k:∀t,R (.int i t)):R v:=r.int_inv.elim λt e=>Eq.substr e (k t)
theorem Rv.aZ {s:List Nat} (r:Rv w P ι v (.str s)) (k:∀t,s.length≤sizeLine→R (.str (S s) t)):R v:=r.str_inv.elim λt e=>Eq.substr e.1 (k t e.2)
theorem Rv.lI (r:Rv w P ι v (.tup xs)) (k:∀a vs n,P a=some {cls:=.type "tuple",data:=.seq vs.toArray n}→xs.length≤sizeLine→aT w P ι vs xs→R (.ref a)):R v:=by obtain ⟨a,vs,n,rfl,h,z,r⟩:=r.fR;exact k a vs n h z r
theorem Rv.gn (r:Rv w P ι v (.lst xs)) (k:∀a vs n,P a=some {cls:=.type "list",data:=.seq vs.toArray n}→xs.length≤sizeLine→aT w P ι vs xs→R (.ref a)):R v:=by obtain ⟨a,vs,n,rfl,h,z,r⟩:=r.lst_inv;exact k a vs n h z r
theorem Rv.JU {k:Nat} (r:Rv w P ι v (.ref k)) (c:∀a d,ι k=some (a,d)→R (.ref a)):R v:=by obtain ⟨a,d,rfl,e⟩:=r.n8;exact c a d e
end
noncomputable def yS (h:Heap):List Obj→Heap|[]=>h|o::r=>yS (h.push o) r
def qB (h:Heap) (l_:List (Option (Addr×Obj))):Prop:=by induction l_ with|nil=>exact True|cons e r ih=>exact (∀q,e=some q→h.get? q.1=some q.2)∧ih
noncomputable def TQ (K:Frag) (S:Setting) (p:List (Option (Addr×Obj))→Addr→Tok→Sem α→List Prop×List Obj×Tok×Sem α) (l:List (Option (Addr×Obj))) (b:Addr) (t:Tok) (x:Sem α):List Prop×List Obj×Tok×Sem α→List Prop×List Obj×Tok×Sem α:=by
 induction x using Sem.casesOn with
 | rule z k=>exact λz=>p l b t (k ())
 | «at» z k=>exact λz=>p l b t (k ())
 | point z k=>exact λz=>p l b t (k ())
 | ask k=>exact λz=>p l b t (k S)
 | fresh k=>exact λz=>p l b (t+1) (k t)
 | alloc o k=>exact λz=>let r:=p l (b+1) t (k b);(r.1,o::r.2.1,r.2.2)
 | load a z k=>exact λx=>l.head?.join.elim ((K.lookup a).elim ([False],x.2) λo=>p l.tail b t (k o)) λq=>((q.1=a)::(p l.tail b t (k q.2)).1,(p l.tail b t (k q.2)).2)
 | _=>exact λz=>z
noncomputable def pk (K:Frag) (S:Setting) (n:Nat):List (Option (Addr×Obj))→Addr→Tok→Sem α→List Prop×List Obj×Tok×Sem α:=by induction n with|zero=>exact λl b t x=>([],[],t,x)|succ n ih=>exact λl b t x=>TQ K S ih l b t x ([],[],t,x)
section
variable {α:Type} {K:Frag} {S:Setting} {n:Nat} {l:List (Option (Addr×Obj))} {b:Addr} {t:Tok} {a:Addr} {p:Option Value} {k:Obj→Sem α}
theorem Gw {y:Addr×Obj} (q:l.head?.join=some y):pk K S (n+1) l b t (.load a p k)=((y.1=a)::(pk K S n l.tail b t (k y.2)).1,(pk K S n l.tail b t (k y.2)).2):=by show Option.elim l.head?.join _ _=_;rw[q];rfl
theorem Gx (q:l.head?.join=Option.none) (q2:K.lookup a=some o):pk K S (n+1) l b t (.load a p k)=pk K S n l.tail b t (k o):=by show Option.elim l.head?.join (Option.elim (K.lookup a) _ _) _=_;rw[q,q2];rfl
theorem ML (q:l.head?.join=Option.none) (q2:K.lookup a=Option.none):(pk K S (n+1) l b t (.load a p k)).1=[False]:=by refine (congrArg Prod.fst (show _=Option.elim l.head?.join (Option.elim (K.lookup a) _ _) _ from rfl)).trans ?_;rw[q,q2];rfl
end
theorem qB.push {l:List (Option (Addr×Obj))} (x:qB h l):qB (h.push o) l:=by induction l with|nil=>trivial|cons e r ih=>exact ⟨λq z=>Heap.get?_push_of_some _ (x.1 q z),ih x.2⟩
theorem qB.tl {l:List (Option (Addr×Obj))} (x:qB h l):qB h l.tail:=by induction l with|nil=>trivial|cons e r _=>exact x.2
theorem qB.hd {l:List (Option (Addr×Obj))} {q:Addr×Obj} (x:qB h l) (e:l.head?.join=some q):h.get? q.1=some q.2:=by induction l with|nil=>exact nS e|cons y r _=>exact x.1 q e
theorem MM {M:Model} {Γ:PySem.Ctx} {Q:α→Pos→Shared→Prop} {E:Value→Pos→Shared→Prop} (n:Nat):∀{l:List (Option (Addr×Obj))} {x:Sem α} {p:Pos} {s:Shared},K.In s.heap→qB s.heap l→ AllP (pk K ⟨M.prog,M.w.params⟩ n l s.heap.objs.size s.toks x).1→(∀p,Sem.wp M Γ (pk K ⟨M.prog,M.w.params⟩ n l s.heap.objs.size s.toks x).2.2.2 Q E p {s with heap:=yS s.heap (pk K ⟨M.prog,M.w.params⟩ n l s.heap.objs.size s.toks x).2.1,toks:=(pk K ⟨M.prog,M.w.params⟩ n l s.heap.objs.size s.toks x).2.2.1})→Sem.wp M Γ x Q E p s:=by
 induction n with|zero=>exact λz z z h=>h _|succ n ih=>
  intro l x p s X L hp h;induction x using Sem.casesOn with
  | rule _ k=>exact ih (x:=k ()) X L hp h
  | «at» _ k=>exact ih (x:=k ()) X L hp h
  | point _ k=>exact ih (x:=k ()) X L hp h
  | ask k=>exact ih (x:=k _) X L hp h
  | fresh k=>exact ih (x:=k _) (s:={s with toks:=s.toks+1}) X L hp h
  | alloc o k=>
   have e:(s.heap.push o).objs.size=s.heap.objs.size+1:=Heap.size_push _ _;refine ih (x:=k _) (s:={s with heap:=s.heap.push o}) (X.keeps λz z=>Heap.get?_push_of_some _) L.push ?_ ?_
   ·rw[e];exact hp
   ·rw[e];exact h
  | load a _ k=>induction q:l.head?.join with|some y=>rw[Gw q] at hp h;exact ⟨y.2,hp.1▸L.hd q,ih X L.tl hp.2 h⟩|none=>induction q2:K.lookup a with|some o=>rw[Gx q q2] at hp h;exact ⟨o,X _ _ q2,ih X L.tl hp h⟩|none=>exact (ML q q2▸hp).1.elim
  | _=>exact h p
theorem JV {M:Model} {Q:α→Shared→Prop} {s:Shared} {x y:Sem α} {l:List (Option (Addr×Obj))} {os:List Obj} (n:Nat) (X:K.In s.heap) (L:qB s.heap l) (e:pk K ⟨M.prog,M.w.params⟩ n l s.heap.objs.size s.toks x=(gs,os,t,y)) (hg:AllP gs) (h:wpAny M A y Q E {s with heap:=yS s.heap os,toks:=t}):wpAny M A x Q E s:=λΓ p TR=>MM n X L (e.symm▸hg) λp=>e.symm▸h Γ p TR
theorem yT {M:Model} {Q:α→Shared→Prop} {s:Shared} {x y:Sem α} {os:List Obj} (X:K.In s.heap) (e:pk K ⟨M.prog,M.w.params⟩ n [] s.heap.objs.size s.toks x=([],os,t,y)) (h:wpAny M A y Q E {s with heap:=yS s.heap os,toks:=t}):wpAny M A x Q E s:=JV (l:=[]) n X trivial e trivial h
noncomputable def PV.d3 (x_:PV):Option (List Nat):=by induction x_ using PV.casesOn with|str s=>exact some s|_=>exact Option.none
noncomputable def PV.int? (x_:PV):Option Int:=by induction x_ using PV.casesOn with|int s=>exact some s|_=>exact Option.none
theorem PV.b9 {x:PV} {s:List Nat} (h:x.d3=some s):x=.str s:=by induction x using PV.casesOn <;> first | exact congrArg _ (Option.some.inj h) | exact nS h
theorem PV.cy {x:PV} {s:Int} (h:x.int?=some s):x=.int s:=by induction x using PV.casesOn <;> first | exact congrArg _ (Option.some.inj h) | exact nS h
noncomputable def PV.sv (x_:PV):Option (List PV):=by induction x_ using PV.casesOn with|lst s=>exact some s|_=>exact Option.none
noncomputable def PV.Ar (x_:PV):Option (List PV):=by induction x_ using PV.casesOn with|tup s=>exact some s|_=>exact Option.none
noncomputable def PV.sx (x_:PV):Option Nat:=by induction x_ using PV.casesOn with|ref s=>exact some s|_=>exact Option.none
theorem PV.ku {x:PV} {s:List PV} (h:x.sv=some s):x=.lst s:=by induction x using PV.casesOn <;> first | exact congrArg _ (Option.some.inj h) | exact nS h
theorem PV.n9 {x:PV} {s:List PV} (h:x.Ar=some s):x=.tup s:=by induction x using PV.casesOn <;> first | exact congrArg _ (Option.some.inj h) | exact nS h
theorem PV.kx {x:PV} {s:Nat} (h:x.sx=some s):x=.ref s:=by induction x using PV.casesOn <;> first | exact congrArg _ (Option.some.inj h) | exact nS h
def GO (o:Option (List Prop×α)) (T:α→Prop):Prop:=∀g a,o=some (g,a)→AllP g→T a
section
variable {α β:Type} {T:α→Prop}
theorem GO.no {o:Option (List Prop×α)} (h:o=Option.none):GO o T:=λz z e=>nS (h.symm.trans e)
theorem GO.sm {g:List Prop} {a:α} (h:AllP g→T a):GO (some (g,a)) T:=λz z e=>fQ (R:=λg a=>AllP g→T a) e h
theorem GO.cond {c:Bool} {o o':Option (List Prop×α)} (h:c=true→GO o T) (h':c=false→GO o' T):GO (bif c then o else o') T:=match c,h,h' with|true,h,_=>h rfl|false,_,h'=>h' rfl
theorem GO.bd {γ:Type} {o:Option (List Prop×γ)} {k:List Prop×γ→Option (List Prop×α)} (h:∀g a,o=some (g,a)→GO (k (g,a)) T):GO (o.bind k) T:=match o,h with|Option.none,_=>.no rfl|some (g,a),h=>h g a rfl
theorem GO.bs {o:Option β} {k:β→Option (List Prop×α)} (h:∀a,o=some a→GO (k a) T):GO (o.bind k) T:=match o,h with|Option.none,_=>.no rfl|some a,h=>h a rfl
theorem GO.bm {g:List Prop} {o:Option (List Prop×α)} (h:GO o λa=>AllP g→T a):GO (o.bind λc=>some (g++c.1,c.2)) T:=.bd λg' a e=>.sm λhg=>h g' a e hg.append.2 hg.append.1
theorem GO.mm {g:List Prop} {o:Option (List Prop×α)} (h:GO o λa=>AllP g→T a):GO (o.map λc=>(g++c.1,c.2)) T:=match o,h with|Option.none,_=>.no rfl|some (g',a),h=>.sm λhg=>h g' a rfl hg.append.2 hg.append.1
theorem GO.Mp {o:Option β} {n:Option (List Prop×α)} {k:β→Option (List Prop×α)} (h:∀a,o=some a→GO (k a) T) (h':GO n T):GO (o.elim n k) T:=match o,h with|Option.none,_=>h'|some a,h=>h a rfl
theorem GO.map {o:Option β} {g:β→List Prop} {f:β→α} (h:∀v,o=some v→AllP (g v)→T (f v)):GO (o.map λv=>(g v,f v)) T:=match o,h with|Option.none,_=>.no rfl|some v,h=>.sm (h v rfl)
end
section
variable {g:G} {A:Around} {ι:bq} {P:Fz} {s:Shared} {t:Sem Value} {pv:PV}
theorem Pu.mk (h:∀(Q:Value→Shared→Prop) (E:Value→Shared→Prop),(∀v h' tk P',cm P s.heap P' h'→Rv g.w P' ι v pv→Q v {s with heap:=h',toks:=tk})→wpAny (model g.prog g.w) A t Q E s):Pu g A ι P s t pv:=λQ E hQ=>wpAny_with_toks (Nat.le_refl s.toks) (h (λv s'=>s.toks≤s'.toks→Q v s') (λe s'=>s.toks≤s'.toks→E e s') λv h' tk P' x r ht=>hQ v h' tk P' x ht r)
theorem Pu.same (h:∀(Q:Value→Shared→Prop) (E:Value→Shared→Prop),(∀v tk,Rv g.w P ι v pv→Q v {s with toks:=tk})→wpAny (model g.prog g.w) A t Q E s):Pu g A ι P s t pv:=Pu.mk λQ E hQ=>h Q E λv tk r=>hQ v s.heap tk P .refl r
theorem qA.mk {t:Sem Bool} (h:∀(Q:Bool→Shared→Prop) (E:Value→Shared→Prop),(∀h' tk P',cm P s.heap P' h'→Q b {s with heap:=h',toks:=tk})→wpAny (model g.prog g.w) A t Q E s):qA g A P s t b:=λQ E hQ=>wpAny_with_toks (Nat.le_refl s.toks) (h (λv s'=>s.toks≤s'.toks→Q v s') (λe s'=>s.toks≤s'.toks→E e s') λh' tk P' x ht=>hQ h' tk P' x ht)
theorem qA.same {t:Sem Bool} (h:∀(Q:Bool→Shared→Prop) (E:Value→Shared→Prop),(∀tk,Q b {s with toks:=tk})→wpAny (model g.prog g.w) A t Q E s):qA g A P s t b:=qA.mk λQ E hQ=>h Q E λtk=>hQ s.heap tk P .refl
end
theorem az (h:Heap) (o:Obj):h.StaysIn (h.push o):=λz z e=>Heap.get?_push_of_some o e
theorem bA (h:Heap):h.get? h.objs.size=Option.none:=by induction q:h.get? h.objs.size with|none=>rfl|some o=>exact absurd (Heap.lt_size q) (Nat.lt_irrefl _)
theorem cm.push {P:Fz} (F:aB P h) (o:Obj) (hf:o.isFreed=false):cm P h (P.put h.objs.size o) (h.push o):=cm.put (az h o) F (bA h) (Heap.get?_push_size _ hf)
section
variable {g:G} {A:Around} {ι:bq} {P:Fz} {s:Shared}
theorem uB (F:aB P s.heap) (r:aT g.w P ι vs xs) (hz:xs.length≤sizeLine):Pu g A ι P s (newTuple vs) (.tup xs):=Pu.mk λQ E hQ=>wpAny_newObj_type (hQ _ _ _ _ (cm.push F _ rfl) (.tup dH hz (aT.mono (cm.push F _ rfl).le r))) (by show vs.toArray.size≤sizeLine;rw[List.size_toArray,r.length];exact hz)
theorem oL (F:aB P s.heap) (r:aT g.w P ι vs xs) (hz:xs.length≤sizeLine):Pu g A ι P s (newList vs) (.lst xs):=Pu.mk λQ E hQ=>wpAny_newObj_type (hQ _ _ _ _ (cm.push F _ rfl) (.lst dH hz (aT.mono (cm.push F _ rfl).le r))) (by show vs.toArray.size≤sizeLine;rw[List.size_toArray,r.length];exact hz)
end
noncomputable def fits (n:Nat):Bool:=Nat.ble n 16777216
theorem cL (h:fits n=true):n≤sizeLine:=by have:=Nat.le_of_ble_eq_true h;rw[sizeLine_eq];exact this
noncomputable def sy (b:Int):Bool:=decide (b.natAbs.log2<9000)
noncomputable abbrev RP:=Option (List Prop×PV)
noncomputable def As (g:Int→Int→List Prop) (f:Int→Int→Int) (x y:PV):RP:=x.int?.bind λa=>y.int?.map λb=>(g a b,.int (f a b))
noncomputable def PR (a:Int) (x_:PV):RP:=by induction x_ using PV.casesOn with|int b=>exact some ([],.int (a+b))|bool b=>exact some ([],.int (a+(if b=true then (1:Int) else 0)))|_=>exact Option.none
noncomputable def ID (x y:PV):RP:=by induction x using PV.casesOn with|int a=>exact PR a y|str a=>exact y.d3.map λb=>([fits (a.length+b.length)=true],.str (a++b))|tup a=>exact y.Ar.map λb=>([fits (a.length+b.length)=true],.tup (a++b))|lst a=>exact y.sv.map λb=>([fits (a.length+b.length)=true],.lst (a++b))|_=>exact Option.none
noncomputable def rk (op:Operator) (x y:PV):RP:=by induction op using Operator.casesOn with|Add=>exact ID x y|Sub=>exact As (λz z=>[]) (λa b=>a - b) x y|Mult=>exact As (λz b=>[decide (Builtin.Int.intBits b≤64)=true]) (λa b=>a*b) x y|Mod=>exact As (λz b=>[(b==0)=false]) (λa b=>a.fmod b) x y|FloorDiv=>exact As (λz b=>[(b==0)=false,sy b=true]) (λa b=>a.fdiv b) x y|Pow=>exact As (λa b=>[decide (0≤b)=true,decide ((Builtin.Int.intBits a:Int)*b≤2 ^ 27)=true]) (λa b=>a ^ b.toNat) x y|_=>exact Option.none
theorem ky (a b:List Nat):(S a++S b:Str)=S (a++b):=by show Str.append (S a) (S b)=_;simp[Str.append]
theorem a9 (a:List Nat):(S a).length=a.length:=by simp[Str.length]
section
variable {g:G} {A:Around} {ι:bq} {P:Fz} {s:Shared} {a b:Value} {x y z:PV} {gd:Bool}
theorem dk {t:Addr} {vs:List Value} {n:Nat} (F:aB P h) (e:P t=some {cls:=.type "tuple",data:=.seq vs.toArray n}):IsTup h t vs.toArray:=⟨_,F _ _ e,rfl,n,rfl⟩
theorem bh {l:Addr} {vs:List Value} {n:Nat} {dd:Option Addr} {sl:Array (Option Value)} (F:aB P h) (e:P l=some {cls:=.type "list",dict:=dd,data:=.seq vs.toArray n,slots:=sl}):h.IsList l vs.toArray:=⟨_,F _ _ e,rfl,n,rfl⟩
theorem sA (F:aB P s.heap) (ra:Rv g.w P ι a (.tup xs)) (rb:Rv g.w P ι b (.tup ys)) (hz:xs.length+ys.length≤sizeLine):Pu g A ι P s (binaryOp .Add a b) (.tup (xs++ys)):=by
 obtain ⟨ta,vs,n,rfl,ea,za,ra⟩:=ra.fR;obtain ⟨tb,ws,m,rfl,eb,zb,rb⟩:=rb.fR;have ha:s.heap.get? ta=some {cls:=.type "tuple",data:=.seq vs.toArray n}:=F _ _ ea;have hb:s.heap.get? tb=some {cls:=.type "tuple",data:=.seq ws.toArray m}:=F _ _ eb;have la:=ra.length;have lb:=rb.length;have e:vs.toArray++ws.toArray=(vs++ws).toArray:=by simp
 refine Pu.mk λQ E hQ=>?_
 by_cases hv:vs=[]
 ·have:xs=[]:=by subst hv;exact List.eq_nil_of_length_eq_zero la.symm
  exact concat_meets ⟨_,ha,rfl⟩ ⟨_,hb,rfl⟩ noFill_tuple_add seq_tuple_add PySem.F.slot_tuple_add PySem.F.entry_tuple_add (PySem.F.args_tuple_add_2 _ _) (tuple_addW0 ta tb vs.toArray ws.toArray n m Option.none Option.none #[] #[] (by simp[hv])) ⟨ha,hb,hQ _ _ _ _ .refl (by rw[this];exact .tup eb zb rb)⟩
 ·by_cases hw:ws=[]
  ·have:ys=[]:=by subst hw;exact List.eq_nil_of_length_eq_zero lb.symm
   exact concat_meets ⟨_,ha,rfl⟩ ⟨_,hb,rfl⟩ noFill_tuple_add seq_tuple_add PySem.F.slot_tuple_add PySem.F.entry_tuple_add (PySem.F.args_tuple_add_2 _ _) (tuple_addW1 ta tb vs.toArray ws.toArray n m Option.none Option.none #[] #[] (by simpa using hv) (by simp[hw])) ⟨ha,hb,hQ _ _ _ _ .refl (by rw[this,List.append_nil];exact .tup ea za ra)⟩
  ·refine concat_meets ⟨_,ha,rfl⟩ ⟨_,hb,rfl⟩ noFill_tuple_add seq_tuple_add PySem.F.slot_tuple_add PySem.F.entry_tuple_add (PySem.F.args_tuple_add_2 _ _)
    (tuple_addW2 ta tb vs.toArray ws.toArray n m Option.none Option.none #[] #[] (by simpa using hv) (by simpa using hw) (by rw[List.size_toArray,List.size_toArray,la,lb];exact hz)) ⟨ha,hb,?_⟩
   rw[e]
   exact hQ _ _ _ _ (cm.push F _ rfl) (.tup dH (by rw[List.length_append];exact hz) (aT.mono (cm.push F _ rfl).le (ra.append rb)))
theorem uC (F:aB P s.heap) (ra:Rv g.w P ι a (.lst xs)) (rb:Rv g.w P ι b (.lst ys)) (hz:xs.length+ys.length≤sizeLine):Pu g A ι P s (binaryOp .Add a b) (.lst (xs++ys)):=by
 obtain ⟨ta,vs,n,rfl,ea,za,ra⟩:=ra.lst_inv;obtain ⟨tb,ws,m,rfl,eb,zb,rb⟩:=rb.lst_inv;have ha:=F _ _ ea;have hb:=F _ _ eb;have la:=ra.length;have lb:=rb.length;have e:vs.toArray++ws.toArray=(vs++ws).toArray:=by simp
 refine Pu.mk λQ E hQ=>?_;refine concat_meets ⟨_,ha,rfl⟩ ⟨_,hb,rfl⟩ noFill_list_add seq_list_add PySem.F.slot_list_add PySem.F.entry_list_add (PySem.F.args_list_add_2 _ _) (list_addW ta tb vs.toArray ws.toArray n m Option.none Option.none #[] #[] (by rw[List.size_toArray,List.size_toArray,la,lb];exact hz)) ⟨ha,hb,?_⟩;rw[e];exact hQ _ _ _ _ (cm.push F _ rfl) (.lst dH (by rw[List.length_append];exact hz) (aT.mono (cm.push F _ rfl).le (ra.append rb)))
noncomputable abbrev uD (g:G) (A:Around) (ι:bq) (P:Fz) (s:Shared) (op:Operator) (z:PV) (a b:Value):Prop:=Pu g A ι P s (binaryOp op a b) z
theorem kA {op:Operator} {gf:Int→Int→List Prop} {f:Int→Int→Int} (ra:Rv g.w P ι a x) (rb:Rv g.w P ι b y) (h:∀(i j:Int) (t u:Tok),AllP (gf i j)→∀(Q:Value→Shared→Prop) (E:Value→Shared→Prop),(∀v tk,Rv g.w P ι v (.int (f i j))→Q v {s with toks:=tk})→wpAny (model g.prog g.w) A (binaryOp op (.int i t) (.int j u)) Q E s) : GO (As gf f x y) (Pu g A ι P s (binaryOp op a b)):=.bs λi hi=>.map λj hj hg=>(PV.cy hi▸ra:Rv g.w P ι a (.int i)).bx (R:=λa=>uD g A ι P s op (.int (f i j)) a b) λt=>(PV.cy hj▸rb:Rv g.w P ι b (.int j)).bx (R:=λb=>uD g A ι P s op (.int (f i j)) (.int i t) b) λu=>Pu.same (h i j t u hg)
theorem Cf (F:aB P s.heap) (ra:Rv g.w P ι a x) (rb:Rv g.w P ι b y):GO (ID x y) (Pu g A ι P s (binaryOp .Add a b)):=by
 induction x using PV.casesOn with
 | int i=>induction y using PV.casesOn with|int j=>exact .sm λz=>ra.bx (R:=λa=>uD g A ι P s .Add (.int (i+j)) a b) λt=>rb.bx (R:=λb=>uD g A ι P s .Add (.int (i+j)) (.int i t) b) λu=>Pu.same λQ E hQ=>add_int (hQ _ _ (.int _ _))|bool j=>exact .sm λz=>ra.bx (R:=λa=>uD g A ι P s .Add (.int (i+(if j=true then (1:Int) else 0))) a b) λt=>rb.eY (R:=λb=>uD g A ι P s .Add (.int (i+(if j=true then (1:Int) else 0))) (.int i t) b) (Pu.same λQ E hQ=>PySem.add_int_bool (hQ _ _ (.int _ _)))|_=>exact .no rfl
 | str i=>exact .map λj hj hg=>ra.aZ (R:=λa=>uD g A ι P s .Add (.str (i++j)) a b) λt z=>(PV.b9 hj▸rb:Rv g.w P ι b (.str j)).aZ (R:=λb=>uD g A ι P s .Add (.str (i++j)) (.str (S i) t) b) λu z=>Pu.same λQ E hQ=>add_str (λt' tk=>ky i j▸hQ _ _ (.str _ _ (by rw[List.length_append];exact cL hg.1))) (by rw[a9,a9];exact cL hg.1)
 | tup i=>exact .map λj hj hg=>sA F ra (PV.n9 hj▸rb) (cL hg.1)
 | lst i=>exact .map λj hj hg=>uC F ra (PV.ku hj▸rb) (cL hg.1)
 | _=>exact .no rfl
theorem uE (F:aB P s.heap) (ra:Rv g.w P ι a x) (rb:Rv g.w P ι b y):GO (rk op x y) (Pu g A ι P s (binaryOp op a b)):=by induction op using Operator.casesOn with|Add=>exact Cf F ra rb|Sub=>exact kA ra rb λi j t u hg Q E hQ=>sub_int (hQ _ _ (.int _ _))|Mult=>exact kA ra rb λi j t u hg Q E hQ=>mul_int (hQ _ _ (.int _ _)) (IntMulOk.of_right (of_decide_eq_true hg.1))|Mod=>exact kA ra rb λi j t u hg Q E hQ=>mod_int (beq_eq_false_iff_ne.mp hg.1) (hQ _ _ (.int _ _))|FloorDiv=>exact kA ra rb λi j t u hg Q E hQ=>floordiv_int (beq_eq_false_iff_ne.mp hg.1) (hQ _ _ (.int _ _)) (.inl (PyProof.noPylong_of_log2 (of_decide_eq_true hg.2.1)))|Pow=>exact kA ra rb λi j t u hg Q E hQ=>pow_int (of_decide_eq_true hg.1) (of_decide_eq_true hg.2.1) (hQ _ _ (.int _ _))|_=>exact .no rfl
end
noncomputable def aa (y x:List Nat):Bool:=!(Builtin.Str.occurrences (S x) (S y) 0 (S x).length 1).isEmpty
noncomputable def JW (a b:List Nat):Bool:=decide (a<b)
noncomputable def strs?:List PV→Option (List (List Nat))|[]=>some []|.str x::r=>(strs? r).map (x::·)|_=>Option.none
noncomputable def cK (k:List Nat) (l_:List (List Nat×List Nat)):Bool:=by induction l_ with|nil=>exact false|cons e r ih=>exact lEq e.1 k||ih
noncomputable def cz (x:List Nat) (l_:List (List Nat)):Bool:=by induction l_ with|nil=>exact false|cons y r ih=>exact lEq y x||ih
noncomputable def uF (x_:PV):Bool:=by induction x_ using PV.casesOn with|glob _=>exact true|_=>exact false
noncomputable def MN (x_:PV):Bool:=by induction x_ using PV.casesOn with|none=>exact true|_=>exact false
noncomputable def MO (b:Bool) (x_:PV):Bool:=by induction x_ using PV.casesOn with|bool a=>exact a==b|_=>exact false
noncomputable def PS (b:String) (v:Value):Option Bool:=by induction v using Value.casesOn with|type a=>exact some (a==b)|_=>exact Option.none
noncomputable def TS (b:String) (x:PV):Option Bool:=by induction x using PV.casesOn with|glob v=>exact PS b v|_=>exact Option.none
noncomputable def PT (x:PV) (u:Value):Option Bool:=by induction u using Value.casesOn with|type b=>exact TS b x|_=>exact Option.none
noncomputable def Gy (x y:PV):Option Bool:=by induction y using PV.casesOn with|none=>exact bif uF x then Option.none else some (MN x)|bool b=>exact bif uF x then Option.none else some (MO b x)|glob u=>exact PT x u|_=>exact Option.none
noncomputable def Sr (a:Int) (x_:PV):Option Bool:=by induction x_ using PV.casesOn with|int b=>exact some (a==b)|str _=>exact some false|none=>exact some false|_=>exact Option.none
noncomputable def sEq (a b:List Nat):Bool:=lEq a b
noncomputable def Ss (a:List Nat) (x_:PV):Option Bool:=by induction x_ using PV.casesOn with|str b=>exact some (sEq a b)|int _=>exact some false|none=>exact some false|bool _=>exact some false|_=>exact Option.none
noncomputable def Su (x_:PV):Option Bool:=by induction x_ using PV.casesOn with|none=>exact some true|str _=>exact some false|int _=>exact some false|_=>exact Option.none
noncomputable def eqB (a:Bool) (x_:PV):Option Bool:=by induction x_ using PV.casesOn with|bool b=>exact some (a==b)|str _=>exact some false|_=>exact Option.none
noncomputable def Au (x y:PV):Option Bool:=by induction x using PV.casesOn with|int a=>exact Sr a y|str a=>exact Ss a y|none=>exact Su y|bool a=>exact eqB a y|_=>exact Option.none
noncomputable def Sv (k:List Nat) (x_:PV):Option Bool:=by induction x_ using PV.casesOn with|str x=>exact some (aa k x)|tup xs=>exact (strs? xs).map (cz k)|lF kvs=>exact some (cK k kvs)|_=>exact Option.none
noncomputable def PU (x_:PV):Option Bool:=by induction x_ using PV.casesOn with|lF _=>exact some false|_=>exact Option.none
noncomputable def Gz (x y:PV):Option Bool:=by induction x using PV.casesOn with|str k=>exact Sv k y|int _=>exact PU y|none=>exact PU y|_=>exact Option.none
noncomputable def Cg (f:Int→Int→Bool) (x y:PV):Option Bool:=x.int?.bind λi=>y.int?.map λj=>f i j
noncomputable def mG:CmpOp→PV→PV→Option Bool
 | .Eq,a,b=>Au a b
 | .NotEq,a,b=>(Au a b).map (!·)
 | .Lt,a,b=>Cg (λi j=>decide (i<j)) a b
 | .LtE,a,b=>match a with|.int _=>Cg (λi j=>decide (i≤j)) a b|.str i=>b.d3.map λj=>!(JW j i)|_=>Option.none
 | .Gt,a,b=>Cg (λi j=>decide (j<i)) a b
 | .GtE,a,b=>Cg (λi j=>decide (j≤i)) a b
 | .Is,a,b=>Gy a b
 | .IsNot,a,b=>(Gy a b).map (!·)
 | .In,a,b=>Gz a b
 | .NotIn,a,b=>(Gz a b).map (!·)
theorem uG (a b:List Nat):(S a==S b)=lEq a b:=by
 rw[Bool.eq_iff_iff,lEq_iff];constructor
 ·intro h;exact MH (eq_of_beq h)
 ·rintro rfl;exact beq_self_eq_true _
theorem MP (a b:List Nat):(S a != S b)=!lEq a b:=by simp only[bne,uG]
theorem gX {w:World} {P:Fz} {ι:bq} {ss:List (List Nat)} (r:aT w P ι vs xs) (e:strs? xs=some ss):StrsAre vs (ss.map S):=by induction xs generalizing vs ss with|nil=>exact r.eL (R:=λvs=>StrsAre vs (ss.map S)) (au (R:=λss=>StrsAre [] (ss.map S)) e .nil)|cons x xs ih=>refine r.dv (R:=λvs=>StrsAre vs (ss.map S)) λu us h q=>?_;induction x using PV.casesOn with|str y=>exact mS e λTU e1 e2=>e2▸h.aZ (R:=λu=>StrsAre (u::us) ((y::TU).map S)) λt z=>.cons _ _ (ih q e1)|_=>exact nS e
theorem lJ (x:List Nat):∀ss:List (List Nat),(ss.map S).any (·==S x)=cz x ss|[]=>rfl|y::r=>by simp only[List.map_cons,List.any_cons,cz,uG,lJ x r]
section
variable {g:G} {A:Around} {ι:bq} {P:Fz} {s:Shared} {a b:Value} {x y z:PV}
structure sC (v:Value):Prop where
 ne:∀(k:Str) (t:Tok),((Value.str k t==v):Bool)=false
 eq:∀{p:Program} {w:World} {A:Around} {E:Value→Shared→Prop} {s:Shared} {k:Str} {t:Tok} {Q:Value→Shared→Prop},Q (.bool false) s→wpAny (model p w) A (compareOp .Eq (.str k t) v) Q E s
 hash:∃n,∀{p:Program} {w:World} {A:Around} {E:Value→Shared→Prop} {s:Shared} {Q:Int→Shared→Prop},Q n {s with toks:=s.toks+1}→wpAny (model p w) A (pyHash v) Q E s
 TV:carriedByValue v=true
 is:(∃i u,v=.int i u)∨v=.none
theorem Ci (i:Int) (u:Tok):sC (.int i u):=⟨λk t=>beq_eq_false_iff_ne.mpr (λq=>nomatch q),λh=>EqMixed.eq_str_int h,⟨hashInt i,λh=>wpAny_pyHash_int h⟩,rfl,.inl ⟨i,u,rfl⟩⟩
theorem uH {p:Program} {w:World} {A:Around} {E:Value→Shared→Prop} {s:Shared} {Q:Int→Shared→Prop} (h:Q 0xFCA86420 {s with toks:=s.toks+1}):wpAny (model p w) A (pyHash .none) Q E s:=by
 unfold pyHash;have hT:s.TypeIs .none "NoneType":=rfl;refine wpAny_bind (wpAny_pure ?_);refine wpAny_bind (wpAny_specialOf hT PySem.F.slot_NoneType_hash.lookup ?_);show wpAny _ _ (if (some (Value.builtin "NoneType.__hash__")==some Value.none)=true then _ else _) Q E s;rw[if_neg (by rw[beq_builtin_none];exact Bool.false_ne_true)];refine wpAny_bind (wpAny_specialOf hT PySem.F.slot_NoneType_hash.lookup ?_);refine wpAny_bind (wpAny_callSpecialIfBoundUnlessNone?_slot hT PySem.F.slot_NoneType_hash
  (wpAny_call_entry PySem.F.slot_NoneType_hash hT PySem.F.entry_NoneType_hash (show wpAny _ _ (do ret (←mkInt 0xFCA86420)) _ _ s from wpAny_ret_mkInt ?_) (PySem.F.args_NoneType_hash_1 _)))
 exact wpAny_pure h
theorem Av:sC .none:=⟨λk t=>beq_eq_false_iff_ne.mpr (λq=>nomatch q),λh=>EqNone.eq_str_none h,⟨_,λh=>uH h⟩,rfl,.inr rfl⟩
theorem oM {p:Program} {w:World} {k:Str} {v:Value} (O:sC v) {Q:Bool→Shared→Prop} (h:Q false s):wpAny (model p w) A (eqBool (.str k t) v) Q E s:=by unfold eqBool;refine wpAny_holding ?_;rw[O.ne,if_neg Bool.false_ne_true];refine wpAny_bind (m:=richCompare .Eq (.str k t) v) (O.eq ?_);exact wpAny_truthy_bool h
theorem bY.get {w:World} {es:List DictEntry} {kvs:List (List Nat×List Nat)} {e:DictEntry} (D:bY w es kvs):∀{i:Nat},es[i]?=some e→∃kv,kvs[i]?=some kv∧MI w e kv:=by induction D with|nil=>exact λq=>nS q|@cons e' es kv kvs h r ih=>intro i q;induction i using Nat.casesOn with|zero=>exact ⟨_,rfl,Option.some.inj q▸h⟩|succ i=>rw[List.getElem?_cons_succ] at q ⊢;exact ih q
theorem fg {p:Program} {w:World} {es:List DictEntry} {ep:Nat} {kvs:List (List Nat×List Nat)} {v:Value} (O:sC v) {Sw:Int} {Q:Option Nat→Shared→Prop} (ho:s.heap.get? d=some o) (hd:o.data=.dict es.toArray ep) (D:bY w es kvs) (h:Q Option.none s) : ∀places:List Nat,wpAny (model p w) A (dictWalkPlain d v Sw es.toArray places) Q E s:=by
 intro places;unfold dictWalkPlain;refine wpAny_bind ?_;refine wpAny_forIn_list (I:=λz b s'=>b=⟨Option.none,()⟩∧s'=s) _ _ (λx rest b s' hI=>?_) (λb s' hI=>?_) places _ ⟨rfl,rfl⟩
 ·refine aj hI λae bX=>?_;subst ae;subst bX;induction q:es.toArray[x]? with|none=>exact wpAny_pure ⟨rfl,rfl⟩|some e=>
   dsimp only
   by_cases hh:(e.hash==Sw)=true
   ·rw[if_pos hh];refine w6 (bY.get D (by simpa using q)) λkv z ae z=>?_;refine bZ ae λt ek=>?_;refine wpAny_bind (wpAny_dictEpoch ho hd ?_);rw[ek];refine wpAny_bind (oM O ?_);refine wpAny_bind (wpAny_dictEpoch ho hd ?_);simp only[bne_self_eq_false,Bool.false_eq_true,if_false];exact wpAny_bind (wpAny_rule (wpAny_pure ⟨rfl,rfl⟩))
   ·rw[if_neg hh];exact wpAny_pure ⟨rfl,rfl⟩
 ·refine aj hI λae bX=>?_;subst ae;subst bX;exact wpAny_pure h
theorem bY.keysOf {p:Program} {w:World} {es:List DictEntry} {kvs:List (List Nat×List Nat)} (D:bY w es kvs):∀e∈es,∃k,(strKind p w).is k e.key=true∧e.hash=(strKind p w).hash k:=by
 induction D with|nil=>intro e h;exact absurd h List.not_mem_nil|@cons e' es kv kvs h r ih=>
  intro e m;rcases List.mem_cons.mp m with q | m
  ·refine fK h λae e2 z=>?_;refine bZ ae λt e1=>?_;rw[q];exact ⟨S kv.1,by rw[e1];exact strKind_is p w _ t,e2⟩
  ·exact ih e m
noncomputable def bE (k:List Nat) (l_:List (List Nat×List Nat)):Option (List Nat):=by induction l_ with|nil=>exact Option.none|cons e r ih=>exact bif lEq e.1 k then some e.2 else ih
theorem rm (k a:List Nat) (t:Tok):Value.isStrOf (S k) (.str (S a) t)=lEq a k:=by show (S a==S k)=_;exact uG _ _
theorem bY.find {w:World} (k:List Nat) {es:List DictEntry} {kvs:List (List Nat×List Nat)} (D:bY w es kvs) : match bE k kvs with
  | some v=>(∃t,(es.find? λe=>Value.isStrOf (S k) e.key).map (·.val)=some (.str (S v) t))∧v.length≤sizeLine
  | none=>(es.find? λe=>Value.isStrOf (S k) e.key).map (·.val)=Option.none:=by
 induction D with|nil=>exact rfl|@cons e es kv kvs h r ih=>refine lG h λae z bX hz=>?_;refine bZ ae λt e1=>?_;refine bZ bX λt2 e2=>?_;simp only[bE,List.find?_cons,e1,rm];induction q:lEq kv.1 k with|true=>simp only[cond_true];exact ⟨⟨t2,by rw[Option.map_some,e2]⟩,hz⟩|false=>simp only[cond_false];exact ih
theorem ji (k:List Nat):∀kvs:List (List Nat×List Nat),(bE k kvs).isSome=cK k kvs|[]=>rfl|e::r=>by simp only[bE,cK];induction q:lEq e.1 k with|true=>rfl|false=>simp only[cond_false,Bool.false_or];exact ji k r
theorem lK {es:List DictEntry} {n:Nat} {kvs:List (List Nat×List Nat)} (p:Program) {w:World} (ho:h.get? d=some {cls:=.type "dict",data:=.dict es.toArray n}) (D:bY w es kvs) : h.MapOf (strKind p w) d (λk=>(es.find? λe=>Value.isStrOf k e.key).map (·.val)):=⟨_,es.toArray,n,ho,⟨rfl,rfl,rfl⟩,rfl,λe he=>bY.keysOf D e (by simpa using he),λk=>by show findBy Value.isStrOf es.toArray k=_;unfold findBy;rw[List.find?_toArray]⟩
theorem qC (F:aB P s.heap) {k:List Nat} {kvs:List (List Nat×List Nat)} (ra:Rv g.w P ι a (.str k)) (rb:Rv g.w P ι b (.lF kvs)) : Pu g A ι P s (compareOp .In a b) (.bool (cK k kvs))∧Pu g A ι P s (compareOp .NotIn a b) (.bool (!cK k kvs)):=by
 refine aG ra.str_inv λt ae z=>?_;subst ae;refine kq rb.jh λd es n eq3 hd eb D=>?_;subst eq3;have ho:=F _ _ eb;have hm:=lK g.prog ho D;have hf:=bY.find k D;have e:((es.find? λe=>Value.isStrOf (S k) e.key).map (·.val)).isSome=cK k kvs:=by rw[←ji];induction q:bE k kvs with|some v=>rw[q] at hf;refine aj hf λae z=>?_;refine bZ ae λt hf=>?_;rw[hf];rfl|none=>rw[q] at hf;rw[hf];rfl
 constructor
 ·refine Pu.same λQ E hQ=>wpAny_in_of (strKind_is g.prog g.w (S k) t) hd hm ?_;rw[e];exact hQ _ _ (.bool _)
 ·refine Pu.same λQ E hQ=>wpAny_notIn_of (strKind_is g.prog g.w (S k) t) hd hm ?_;rw[e];exact hQ _ _ (.bool _)
theorem lL {p:Program} {w:World} {E:Value→Shared→Prop} {es:List DictEntry} {ep:Nat} {kvs:List (List Nat×List Nat)} {v:Value} (O:sC v) {Q:Option Value→Shared→Prop} (ho:s.heap.get? d=some {cls:=.type "dict",data:=.dict es.toArray ep}) (D:bY w es kvs) (h:∀tk,Q Option.none {s with toks:=tk}):wpAny (model p w) A (dictGet d v) Q E s:=by
 refine bZ O.hash λn hn=>?_;unfold dictGet;refine wpAny_holding ?_;refine wpAny_bind (hn ?_);refine wpAny_bind ?_;unfold dictFind;refine wpAny_holding ?_;refine wpAny_bind (wpAny_dictEntries (s:={s with toks:=s.toks+1}) ho rfl ?_);have MQ:(v::(placesWithHash es.toArray.size (λi=>es.toArray[i]?.map (·.hash)) n).filterMap λi=>es.toArray[i]?.map (·.key)).all carriedByValue=true:=by simp only[List.all_cons,List.all_eq_true,Bool.and_eq_true];refine ⟨O.TV,λv hv=>?_⟩;refine aG (List.mem_filterMap.mp hv) λj z e=>?_;refine aG (Option.map_eq_some_iff.mp e) λe' q ae=>?_;subst ae;refine w6 (bY.get D (by simpa using q)) λkv z ae z=>?_;refine bZ ae λt ek=>?_;rw[ek];rfl
 rcases O.is with ⟨i,u,rfl⟩ | rfl
 ·show wpAny _ _ (if _=true then _ else _) _ E _;rw[if_pos MQ];exact fg O (s:={s with toks:=s.toks+1}) ho rfl D (wpAny_pure (h _)) _
 ·show wpAny _ _ (if _=true then _ else _) _ E _;rw[if_pos MQ];exact fg O (s:={s with toks:=s.toks+1}) ho rfl D (wpAny_pure (h _)) _
theorem qD (F:aB P s.heap) {kvs:List (List Nat×List Nat)} (O:sC a) (rb:Rv g.w P ι b (.lF kvs)) : Pu g A ι P s (compareOp .In a b) (.bool false)∧Pu g A ι P s (compareOp .NotIn a b) (.bool true):=by
 refine kq rb.jh λd es n eq3 hd eb D=>?_;subst eq3;have ho:=F _ _ eb;have hm:=lK g.prog ho D;have key:∀(Q:Bool→Shared→Prop) (E:Value→Shared→Prop),(∀tk,Q false {s with toks:=tk})→wpAny (model g.prog g.w) A (contains (.ref d) a) Q E s:=by intro Q E hQ;unfold contains;refine wpAny_holding ?_;refine wpAny_bind (wpAny_specialOf hm.typeIs slot_dict_contains.lookup ?_);show wpAny _ _ (if (some (Value.builtin "dict.__contains__")==some Value.none)=true then _ else _) _ E s;rw[if_neg (by rw[beq_builtin_none];exact Bool.false_ne_true)];refine wpAny_bind (wpAny_callSpecialUnlessNone?_slot (name:=Str.ofString "__contains__") hm.typeIs slot_dict_contains (wpAny_call_entry slot_dict_contains hm.typeIs entry_dict_contains ?_ (args_dict_contains _ _)));show wpAny _ _ (dictGet d a >>= _) _ _ s;refine wpAny_bind (lL O ho D λtk=>?_);show wpAny _ _ (Builtin.Dict.pendingKey? d a >>= _) _ _ _;exact wpAny_bind (wpAny_pendingKey_other hd (wpAny_pure ⟨_,rfl,wpAny_truthy_bool (hQ tk)⟩))
 constructor
 ·refine Pu.same λQ E hQ=>?_;show wpAny _ _ (do return .bool (←contains (.ref d) a)) Q E s;exact wpAny_bind (key _ _ λtk=>wpAny_pure (hQ _ _ (.bool _)))
 ·refine Pu.same λQ E hQ=>?_;show wpAny _ _ (do return .bool (!(←contains (.ref d) a))) Q E s;exact wpAny_bind (key _ _ λtk=>wpAny_pure (hQ _ _ (.bool _)))
end
section
variable {g:G} {A:Around} {ι:bq} {P:Fz} {s:Shared} {a b:Value} {x y z:PV} {c:Bool}
theorem Aw (b c:Bool):(Value.bool b==Value.bool c)=(b==c):=by rw[Bool.eq_iff_iff,beq_iff_eq,beq_iff_eq,Value.bool.injEq]
theorem Ax (b c:String):(Value.type b==Value.type c)=(b==c):=by rw[Bool.eq_iff_iff,beq_iff_eq,beq_iff_eq,Value.type.injEq]
theorem kB (h:∃d,a=.ref d):isSame a .none=pure false∧∀b,isSame a (.bool b)=pure false:=h.elim λz e=>Eq.substr (p:=λa=>isSame a .none=pure false∧∀b,isSame a (.bool b)=pure false) e ⟨rfl,λz=>rfl⟩
theorem Rv.PW {w:World} {R:Value→Prop} (r:Rv w P ι a x) (h:uF x=false) (h1:R .none) (h2:∀b,R (.bool b)) (h3:∀i t,R (.int i t)) (h4:∀s t,R (.str s t)) (h5:∀a,R (.ref a)):R a:=by induction x using PV.casesOn with|none=>exact r.et h1|bool c=>exact r.eY (h2 c)|int i=>exact r.bx (h3 i)|str s=>exact r.aZ λt z=>h4 (S s) t|tup xs=>exact r.lI λa z z z z z=>h5 a|lst xs=>exact r.gn λa z z z z z=>h5 a|arr xs=>exact yR r.gW λa z z z z e z z z=>Eq.substr e (h5 a)|lF xs=>exact kq r.jh λa z z e z z z=>Eq.substr e (h5 a)|ref k=>exact r.JU λa z z=>h5 a|glob v=>exact tF h
theorem yU (r:Rv g.w P ι a x) (h:uF x=false):isSame a .none=pure (MN x)∧∀b,isSame a (.bool b)=pure (MO b x):=by induction x using PV.casesOn with|none=>exact r.et (R:=λv=>isSame v .none=pure true∧∀b,isSame v (.bool b)=pure false) ⟨rfl,λz=>rfl⟩|bool c=>exact r.eY (R:=λv=>isSame v .none=pure false∧∀b,isSame v (.bool b)=pure (c==b)) ⟨rfl,λb=>congrArg pure (Aw c b)⟩|int i=>exact r.bx (R:=λv=>isSame v .none=pure false∧∀b,isSame v (.bool b)=pure false) λz=>⟨rfl,λz=>rfl⟩|str s=>exact r.aZ (R:=λv=>isSame v .none=pure false∧∀b,isSame v (.bool b)=pure false) λz z=>⟨rfl,λz=>rfl⟩|tup xs=>exact kB (kq r λa z z e z z z=>⟨a,e⟩)|lst xs=>exact kB (kq r λa z z e z z z=>⟨a,e⟩)|arr xs=>exact kB (yR r λa z z z z e z z z=>⟨a,e⟩)|lF xs=>exact kB (kq r λa z z e z z z=>⟨a,e⟩)|ref k=>exact kB (gU r λa z e z=>⟨a,e⟩)|glob v=>exact tF h
theorem rq (ra:Rv g.w P ι a x) (rb:Rv g.w P ι b y) (e:Gy x y=some c):isSame a b=pure c:=by
 have key:∀{d:Bool} {t:Sem Bool},(bif uF x then Option.none else some d:Option Bool)=some c→(uF x=false→t=pure d)→t=pure c:=λ{d t} e h=>by induction q:uF x with|true=>rw[q] at e;exact nS e|false=>rw[q] at e;exact (h q).trans (congrArg pure (Option.some.inj e))
 induction y using PV.casesOn with
 | none=>exact Eq.substr (p:=λb=>isSame a b=pure c) rb.none_inv (key e λh=>(yU ra h).1)
 | bool bb=>exact Eq.substr (p:=λb=>isSame a b=pure c) rb.bool_inv (key e λh=>(yU ra h).2 bb)
 | glob v=>
  refine Eq.substr (p:=λb=>isSame a b=pure c) rb.iT ?_;clear rb key;induction v using Value.casesOn with
  | type q=>
   induction x using PV.casesOn with
   | glob u=>refine Eq.substr (p:=λa=>isSame a (.type q)=pure c) ra.iT ?_;induction u using Value.casesOn with|type p=>exact congrArg pure ((Ax p q).trans (Option.some.inj e))|_=>exact nS e
   | _=>exact nS e
  | _=>exact nS e
 | _=>exact nS e
theorem cn {t:Sem Value} (h:∀(Q:Value→Shared→Prop) (E:Value→Shared→Prop),Q (.bool c) s→wpAny (model g.prog g.w) A t Q E s):Pu g A ι P s t (.bool c):=Pu.same λQ E hQ=>h Q E (hQ _ s.toks (.bool _))
def TX (g:G) (A:Around) (s:Shared) (o o':CmpOp) (a b:Value) (c:Bool):Prop:=(∀(Q:Value→Shared→Prop) (E:Value→Shared→Prop),Q (.bool c) s→wpAny (model g.prog g.w) A (compareOp o a b) Q E s)∧∀(Q:Value→Shared→Prop) (E:Value→Shared→Prop),Q (.bool (!c)) s→wpAny (model g.prog g.w) A (compareOp o' a b) Q E s
noncomputable abbrev jB (g:G) (A:Around) (s:Shared) (a b:Value) (c:Bool):Prop:=TX g A s .Eq .NotEq a b c
theorem GA (i:Int) (t:Tok) (rb:Rv g.w P ι b y) (e:Sr i y=some c):jB g A s (.int i t) b c:=by induction y using PV.casesOn with|int j=>exact rb.bx (R:=λb=>jB g A s (.int i t) b c) λu=>au (R:=jB g A s (.int i t) (.int j u)) e ⟨λz z h=>eq_int h,λz z h=>ne_int h⟩|str j=>exact rb.aZ (R:=λb=>jB g A s (.int i t) b c) λu z=>au (R:=jB g A s (.int i t) (.str (S j) u)) e ⟨λz z h=>EqMixed.eq_int_str h,λz z h=>EqMixed.ne_int_str h⟩|none=>exact rb.et (R:=λb=>jB g A s (.int i t) b c) (au (R:=jB g A s (.int i t) .none) e ⟨λz z h=>EqNone.eq_int_none h,λz z h=>EqNone.ne_int_none h⟩)|_=>exact nS e
theorem GB (i:List Nat) (t:Tok) (rb:Rv g.w P ι b y) (e:Ss i y=some c):jB g A s (.str (S i) t) b c:=by induction y using PV.casesOn with|int j=>exact rb.bx (R:=λb=>jB g A s (.str (S i) t) b c) λu=>au (R:=jB g A s (.str (S i) t) (.int j u)) e ⟨λz z h=>EqMixed.eq_str_int h,λz z h=>EqMixed.ne_str_int h⟩|str j=>exact rb.aZ (R:=λb=>jB g A s (.str (S i) t) b c) λu z=>au (R:=jB g A s (.str (S i) t) (.str (S j) u)) e ⟨λz z h=>eq_str (by rw[uG];exact h),λz z h=>ne_str (by rw[MP];exact h)⟩|none=>exact rb.et (R:=λb=>jB g A s (.str (S i) t) b c) (au (R:=jB g A s (.str (S i) t) .none) e ⟨λz z h=>EqNone.eq_str_none h,λz z h=>EqNone.ne_str_none h⟩)|bool j=>exact rb.eY (R:=λb=>jB g A s (.str (S i) t) b c) (au (R:=jB g A s (.str (S i) t) (.bool j)) e ⟨λz z h=>EqMixed.eq_str_bool h,λz z h=>EqMixed.ne_str_bool h⟩)|_=>exact nS e
theorem Cj (rb:Rv g.w P ι b y) (e:Su y=some c):jB g A s .none b c:=by induction y using PV.casesOn with|int j=>exact rb.bx (R:=λb=>jB g A s .none b c) λu=>au (R:=jB g A s .none (.int j u)) e ⟨λz z h=>EqNone.eq_none_int h,λz z h=>EqNone.ne_none_int h⟩|str j=>exact rb.aZ (R:=λb=>jB g A s .none b c) λu z=>au (R:=jB g A s .none (.str (S j) u)) e ⟨λz z h=>EqNone.eq_none_str h,λz z h=>EqNone.ne_none_str h⟩|none=>exact rb.et (R:=λb=>jB g A s .none b c) (au (R:=jB g A s .none .none) e ⟨λz z h=>EqNone.eq_none_none h,λz z h=>EqNone.ne_none_none h⟩)|_=>exact nS e
theorem Ck (i:Bool) (rb:Rv g.w P ι b y) (e:eqB i y=some c):jB g A s (.bool i) b c:=by induction y using PV.casesOn with|bool j=>exact rb.eY (R:=λb=>jB g A s (.bool i) b c) (au (R:=jB g A s (.bool i) (.bool j)) e ⟨λz z h=>eq_bool h,λz z h=>ne_bool h⟩)|str j=>exact rb.aZ (R:=λb=>jB g A s (.bool i) b c) λu z=>au (R:=jB g A s (.bool i) (.str (S j) u)) e ⟨λz z h=>EqMixed.eq_bool_str h,λz z h=>EqMixed.ne_bool_str h⟩|_=>exact nS e
theorem yV (ra:Rv g.w P ι a x) (rb:Rv g.w P ι b y) (e:Au x y=some c):jB g A s a b c:=by induction x using PV.casesOn with|int i=>exact ra.bx (R:=λa=>jB g A s a b c) λt=>GA i t rb e|str i=>exact ra.aZ (R:=λa=>jB g A s a b c) λt z=>GB i t rb e|none=>exact ra.et (R:=λa=>jB g A s a b c) (Cj rb e)|bool i=>exact ra.eY (R:=λa=>jB g A s a b c) (Ck i rb e)|_=>exact nS e
theorem JX (ra:Rv g.w P ι a x) (rb:Rv g.w P ι b y) (e:Au x y=some c):Pu g A ι P s (compareOp .Eq a b) (.bool c):=cn (yV ra rb e).1
theorem JY (ra:Rv g.w P ι a x) (rb:Rv g.w P ι b y) (e:Au x y=some c):Pu g A ι P s (compareOp .NotEq a b) (.bool (!c)):=cn (yV ra rb e).2
theorem GC (F:aB P s.heap) {k:List Nat} (ra:Rv g.w P ι a (.str k)) (rb:Rv g.w P ι b y) (e:Sv k y=some c):Pu g A ι P s (compareOp .In a b) (.bool c)∧Pu g A ι P s (compareOp .NotIn a b) (.bool (!c)):=by induction y using PV.casesOn with|str j=>exact au (R:=λc=>Pu g A ι P s (compareOp .In a b) (.bool c)∧Pu g A ι P s (compareOp .NotIn a b) (.bool (!c))) e (ra.aZ (R:=λa=>Pu g A ι P s (compareOp .In a b) (.bool (aa k j))∧Pu g A ι P s (compareOp .NotIn a b) (.bool (!aa k j))) λt z=>rb.aZ (R:=λb=>Pu g A ι P s (compareOp .In (.str (S k) t) b) (.bool (aa k j))∧Pu g A ι P s (compareOp .NotIn (.str (S k) t) b) (.bool (!aa k j))) λu z=>⟨cn λQ E hQ=>in_str hQ,cn λQ E hQ=>notIn_str hQ⟩)|tup xs=>refine mR (R:=λc=>Pu g A ι P s (compareOp .In a b) (.bool c)∧Pu g A ι P s (compareOp .NotIn a b) (.bool (!c))) e λss e1=>ra.aZ (R:=λa=>Pu g A ι P s (compareOp .In a b) (.bool (cz k ss))∧Pu g A ι P s (compareOp .NotIn a b) (.bool (!cz k ss))) λt z=>rb.lI (R:=λb=>Pu g A ι P s (compareOp .In (.str (S k) t) b) (.bool (cz k ss))∧Pu g A ι P s (compareOp .NotIn (.str (S k) t) b) (.bool (!cz k ss))) λtb ws m eb zb rb=>?_;exact ⟨cn λQ E hQ=>in_tuple_strs (dk F eb) (gX rb e1) (by rw[lJ];exact hQ),cn λQ E hQ=>notin_tuple_strs (dk F eb) (gX rb e1) (by rw[lJ];exact hQ)⟩|lF kvs=>exact au (R:=λc=>Pu g A ι P s (compareOp .In a b) (.bool c)∧Pu g A ι P s (compareOp .NotIn a b) (.bool (!c))) e (qC F ra rb)|_=>exact nS e
theorem yW (F:aB P s.heap) (O:sC a) (rb:Rv g.w P ι b y) (e:PU y=some c):Pu g A ι P s (compareOp .In a b) (.bool c)∧Pu g A ι P s (compareOp .NotIn a b) (.bool (!c)):=by induction y using PV.casesOn with|lF kvs=>exact au (R:=λc=>Pu g A ι P s (compareOp .In a b) (.bool c)∧Pu g A ι P s (compareOp .NotIn a b) (.bool (!c))) e (qD F O rb)|_=>exact nS e
theorem Cm (F:aB P s.heap) (ra:Rv g.w P ι a x) (rb:Rv g.w P ι b y) (e:Gz x y=some c):Pu g A ι P s (compareOp .In a b) (.bool c)∧Pu g A ι P s (compareOp .NotIn a b) (.bool (!c)):=by induction x using PV.casesOn with|str k=>exact GC F ra rb e|int i=>exact yW F (ra.bx (R:=sC) λt=>Ci i t) rb e|none=>exact yW F (ra.et (R:=sC) Av) rb e|_=>exact nS e
theorem kC {op:CmpOp} (ra:Rv g.w P ι a x) (rb:Rv g.w P ι b y) (f:Int→Int→Bool) (h:∀(Q:Value→Shared→Prop) (E:Value→Shared→Prop) (i j:Int) (t u:Tok),Q (.bool (f i j)) s→wpAny (model g.prog g.w) A (compareOp op (.int i t) (.int j u)) Q E s) (e:Cg f x y=some c):Pu g A ι P s (compareOp op a b) (.bool c):=by refine bS e λi hi e=>mR (R:=λc=>Pu g A ι P s (compareOp op a b) (.bool c)) e λj hj=>?_;refine (PV.cy hi▸ra).bx (R:=λa=>Pu g A ι P s (compareOp op a b) (.bool (f i j))) λt=>(PV.cy hj▸rb).bx (R:=λb=>Pu g A ι P s (compareOp op (.int i t) b) (.bool (f i j))) λu=>?_;exact cn λQ E hQ=>h Q E i j t u hQ
theorem JZ (ra:Rv g.w P ι a x) (rb:Rv g.w P ι b y) (e:mG .LtE x y=some c):Pu g A ι P s (compareOp .LtE a b) (.bool c):=by induction x using PV.casesOn with|int i=>exact kC ra rb (λi j=>decide (i≤j)) (λQ E i j t u h=>le_int h) e|str i=>refine mR (R:=λc=>Pu g A ι P s (compareOp .LtE a b) (.bool c)) e λj hj=>ra.aZ (R:=λa=>Pu g A ι P s (compareOp .LtE a b) (.bool (!JW j i))) λt z=>(PV.b9 hj▸rb).aZ (R:=λb=>Pu g A ι P s (compareOp .LtE (.str (S i) t) b) (.bool (!JW j i))) λu z=>?_;exact cn λQ E hQ=>PySem.P.le_str hQ|_=>exact nS e
theorem fS {op:CmpOp} (F:aB P s.heap) (ra:Rv g.w P ι a x) (rb:Rv g.w P ι b y) (e:mG op x y=some c):Pu g A ι P s (compareOp op a b) (.bool c):=by induction op using CmpOp.casesOn with|Eq=>exact JX ra rb e|NotEq=>refine aG (Option.map_eq_some_iff.mp (show (Au x y).map (!·)=some c from e)) λd e1 ae=>?_;subst ae;exact JY ra rb e1|Is=>refine cn λQ E hQ=>?_;show wpAny _ _ (do return .bool (←isSame a b)) Q E s;rw[rq ra rb e];exact wpAny_bind (wpAny_pure (wpAny_pure hQ))|IsNot=>refine aG (Option.map_eq_some_iff.mp (show (Gy x y).map (!·)=some c from e)) λd e1 ae=>?_;subst ae;refine cn λQ E hQ=>?_;show wpAny _ _ (do return .bool (!(←isSame a b))) Q E s;rw[rq ra rb e1];exact wpAny_bind (wpAny_pure (wpAny_pure hQ))|In=>exact (Cm F ra rb e).1|NotIn=>refine aG (Option.map_eq_some_iff.mp (show (Gz x y).map (!·)=some c from e)) λd e1 ae=>?_;subst ae;exact (Cm F ra rb e1).2|Lt=>exact kC ra rb (λi j=>decide (i<j)) (λQ E i j t u h=>lt_int h) e|Gt=>exact kC ra rb (λi j=>decide (j<i)) (λQ E i j t u h=>gt_int h) e|GtE=>exact kC ra rb (λi j=>decide (j≤i)) (λQ E i j t u h=>ge_int h) e|LtE=>exact JZ ra rb e
end
noncomputable def ix (i:Int) (n:Nat):Nat:=(seqIndex? i n).getD 0
noncomputable def bD (i:Int) (n:Nat):Bool:=(seqIndex? i n).isSome
theorem yX (h:bD i n=true):seqIndex? i n=some (ix i n)∧ix i n<n∧0≤i+n∧i<n:=by
 unfold bD at h;refine bZ (Option.isSome_iff_exists.mp h) λk hk=>?_;have e:ix i n=k:=by unfold ix;rw[hk];rfl
 rw[e];refine ⟨hk,?_⟩;unfold seqIndex? at hk
 by_cases hi:i<0
 ·simp only[hi,if_true] at hk;split at hk
  ·rename_i hc;simp only[Bool.and_eq_true,decide_eq_true_eq] at hc;simp only[Option.some.injEq] at hk;omega
  ·exact nS hk
 ·simp only[hi,if_false] at hk;split at hk
  ·rename_i hc;simp only[Bool.and_eq_true,decide_eq_true_eq] at hc;simp only[Option.some.injEq] at hk;omega
  ·exact nS hk
noncomputable def cA (s:List Nat) (i:Int):List Nat:=[s.getD (ix i s.length) 0]
noncomputable def ez (xs:List PV) (i:Int):PV:=xs.getD (ix i xs.length) .none
noncomputable def iM (n:Nat) (lo:Option Int):Nat:=lo.elim 0 (clipAt n)
noncomputable def og (n:Nat) (hi:Option Int):Nat:=hi.elim n (clipAt n)
noncomputable def cq (s:List Nat) (lo hi:Option Int):List Nat:=(s.drop (iM s.length lo)).take (og s.length hi - iM s.length lo)
noncomputable def jU (xs:List PV) (lo hi:Option Int):List PV:=(xs.drop (iM xs.length lo)).take (og xs.length hi - iM xs.length lo)
noncomputable def Cn (x y:PV):RP:=by induction x using PV.casesOn with|str s=>exact y.int?.map λi=>([bD i s.length=true],.str (cA s i))|tup xs=>exact y.int?.map λi=>([bD i xs.length=true],ez xs i)|lst xs=>exact y.int?.map λi=>([bD i xs.length=true,decide (0≤i)=true],ez xs i)|arr xs=>exact y.int?.map λi=>([bD i xs.length=true,decide (0≤i)=true],ez xs i)|lF kvs=>exact y.d3.map λk=>([(bE k kvs).isSome=true],.str ((bE k kvs).getD []))|_=>exact Option.none
noncomputable def oN (n:Nat) (lo hi:Option Int):Bool:=(lo.elim true λa=>decide (0≤a)&&decide (a≤n))&&(hi.elim true λa=>decide (0≤a)&&decide (a≤n))&&Nat.ble (iM n lo) (og n hi)&&!(Nat.beq (og n hi - iM n lo) n)
noncomputable def sD:PV→Option Int→Option Int→Option (List Prop×PV)|.str s,lo,hi=>some ([],.str (cq s lo hi))|.lst xs,lo,hi=>some ([],.lst (jU xs lo hi))|.arr xs,lo,hi=>some ([],.lst (jU xs lo hi))|.tup xs,lo,hi=>some ([oN xs.length lo hi=true],.tup (jU xs lo hi))|_,_,_=>Option.none
set_option tactic.hygienic true in
theorem c0 (slice:Expr) (o i:Value):∃ops,subscripted slice false o i=operate ops (getItem o i):=by
 induction slice using Expr.casesOn
 case Slice l u st p=>induction st <;> exact ⟨_,rfl⟩
 all_goals exact ⟨_,rfl⟩
section
variable {g:G} {A:Around} {ι:bq} {P:Fz} {s:Shared} {a b:Value} {x y z:PV}
theorem oO {vs:List Value} {n:Nat} {xs:List PV} {i:Int} {u:Tok} {value slice:Expr} {dd:Option Addr} {sl:Array (Option Value)} (ho:s.heap.get? ta=some {cls:=.type "list",dict:=dd,data:=.seq vs.toArray n,slots:=sl}) (za:xs.length≤sizeLine) (ra:aT g.w P ι vs xs) (e1:bD i xs.length=true) (e2:0≤i) : Pu g A ι P s (subscriptTail value slice (.ref ta) (.int i u)) (ez xs i):=by
 refine bZ (c0 slice (.ref ta) (.int i u)) λops hs=>?_;refine lG (yX e1) λh1 h2 h3 h4=>?_;refine aG (ra.get (List.getElem?_eq_getElem h2)) λv hv rv=>?_;rw[sizeLine_eq] at za;have ht:s.heap.IsList ta vs.toArray:=⟨_,ho,rfl,n,rfl⟩;have hi:i.toNat=ix i xs.length:=by
  have:seqIndex? i xs.length=some i.toNat:=by
   unfold seqIndex?;have h0:¬ i<0:=by lia
   simp only[h0,if_false];rw[if_pos (by simp only[Bool.and_eq_true,decide_eq_true_eq];lia)]
  rw[this] at h1;exact Option.some.inj h1
 refine Pu.same λQ E hQ=>tail_any ht.typeIs slot_list_getitem.lookup (wpAny_getItem_list (x:=v) ht e2 (by lia) (by rw[hi];simpa using hv) (hQ v s.toks ?_)) hs;have:ez xs i=xs[ix i xs.length]:=by unfold ez;simp[List.getD,List.getElem?_eq_getElem h2]
 rw[this];exact rv
noncomputable abbrev uw (g:G) (A:Around) (ι:bq) (P:Fz) (s:Shared) (v l:Expr) (z:PV) (a b:Value):Prop:=Pu g A ι P s (subscriptTail v l a b) z
theorem sE {n:String} {v l:Expr} (hT:s.TypeIs a T) (hl:typeLookup (.type T) "__getitem__"=pure (some (.builtin n))) (h:∀(Q:Value→Shared→Prop) (E:Value→Shared→Prop),(∀v tk,Rv g.w P ι v z→Q v {s with toks:=tk})→wpAny (model g.prog g.w) A (getItem a b) Q E s):uw g A ι P s v l z a b:=bZ (c0 l a b) λops e=>Pu.same λQ E hQ=>tail_any hT hl (h Q E hQ) e
theorem item_str {v l:Expr} {k:List Nat} {u:Tok} (hz:k.length≤sizeLine) (hi:bD i k.length=true):uw g A ι P s v l (.str (cA k i)) (.str (S k) t) (.int i u):=by
 refine lG (yX hi) λh1 h2 h3 h4=>?_;rw[sizeLine_eq] at hz;refine sE (typeIs_str s _ t) slot_str_getitem.lookup λQ E hQ=>getItem_str ?_ (c:=k.getD (ix i k.length) 0) ?_ (hQ _ _ (.str _ _ ?_))
 ·simp only[Bool.or_eq_false_iff,decide_eq_false_iff_not];lia
 ·rw[a9,h1];simp[List.getElem?_eq_getElem h2,List.getD]
 ·rw[sizeLine_eq];exact Nat.le_of_ble_eq_true rfl
theorem Co (h2:ix i xs.length<xs.length):ez xs i=xs[ix i xs.length]:=by unfold ez;rw[List.getD_eq_getElem?_getD,List.getElem?_eq_getElem h2];rfl
theorem item_tup {v l:Expr} {n:Nat} {u:Tok} (ht:IsTup s.heap ta vs.toArray) (za:xs.length≤sizeLine) (r:aT g.w P ι vs xs) (hi:bD i xs.length=true):uw g A ι P s v l (ez xs i) (.ref ta) (.int i u):=by refine lG (yX hi) λh1 h2 h3 h4=>aG (r.get (List.getElem?_eq_getElem h2)) λw hv rv=>?_;rw[sizeLine_eq] at za;refine sE ht.typeIs slot_tuple_getitem.lookup λQ E hQ=>getItem_tuple (j:=ix i xs.length) (x:=w) ht (by lia) (by lia) ?_ (by simpa using hv) (hQ w s.toks (Co h2▸rv));rw[List.size_toArray,r.length];exact h1
theorem Cp (F:aB P s.heap) {v l:Expr} {kvs:List (List Nat×List Nat)} {k:List Nat} (ra:Rv g.w P ι a (.lF kvs)) (rb:Rv g.w P ι b (.str k)) (h:(bE k kvs).isSome=true):uw g A ι P s v l (.str ((bE k kvs).getD [])) a b:=by refine kq ra.jh λd es n e hd ea D=>Eq.substr (p:=λa=>uw g A ι P s v l (.str ((bE k kvs).getD [])) a b) e (rb.aZ (R:=λb=>uw g A ι P s v l (.str ((bE k kvs).getD [])) (.ref d) b) λt hz=>?_);have hm:=lK g.prog (F _ _ ea) D;have hf:=bY.find k D;revert hf h;induction bE k kvs with|none=>exact λh=>fT h|some v=>exact λz hf=>hf.1.elim λt2 h2=>sE hm.typeIs slot_dict_getitem.lookup λQ E hQ=>wpAny_getItem_of (strKind_is g.prog g.w (S k) t) hm h2 (hQ _ _ (.str _ _ hf.2))
theorem Ay (F:aB P s.heap) {v l:Expr} (ra:Rv g.w P ι a x) (rb:Rv g.w P ι b y):GO (Cn x y) (λz=>uw g A ι P s v l z a b):=by induction x using PV.casesOn with|str k=>exact .map λi hi hg=>ra.aZ (R:=λa=>uw g A ι P s v l (.str (cA k i)) a b) λt hz=>(PV.cy hi▸rb:Rv g.w P ι b (.int i)).bx (R:=λb=>uw g A ι P s v l (.str (cA k i)) (.str (S k) t) b) λu=>item_str hz hg.1|tup xs=>exact .map λi hi hg=>ra.lI (R:=λa=>uw g A ι P s v l (ez xs i) a b) λta vs n ea za r=>(PV.cy hi▸rb:Rv g.w P ι b (.int i)).bx (R:=λb=>uw g A ι P s v l (ez xs i) (.ref ta) b) λu=>item_tup (n:=n) (dk F ea) za r hg.1|lst xs=>exact .map λi hi hg=>ra.gn (R:=λa=>uw g A ι P s v l (ez xs i) a b) λta vs n ea za r=>(PV.cy hi▸rb:Rv g.w P ι b (.int i)).bx (R:=λb=>uw g A ι P s v l (ez xs i) (.ref ta) b) λu=>oO (F _ _ ea) za r hg.1 (of_decide_eq_true hg.2.1)|arr xs=>exact .map λi hi hg=>yR ra.gW λta vs n q q e ea za r=>Eq.substr (p:=λa=>uw g A ι P s v l (ez xs i) a b) e ((PV.cy hi▸rb:Rv g.w P ι b (.int i)).bx (R:=λb=>uw g A ι P s v l (ez xs i) (.ref ta) b) λu=>oO (F _ _ ea) za r hg.1 (of_decide_eq_true hg.2.1))|lF kvs=>exact .map λk hk hg=>Cp F ra (PV.b9 hk▸rb) hg.1|_=>exact .no rfl
theorem gB {k:Nat} (h:k≤n):clipAt n (k:Int)=k:=by unfold clipAt;rw[if_neg (Int.not_lt.mpr (Int.natCast_nonneg k)),Int.min_eq_left (Int.ofNat_le.mpr h),Int.max_eq_right (Int.natCast_nonneg _),Int.toNat_natCast]
theorem Cq {k:Nat} (h:n≤k):clipAt n (k:Int)=n:=by unfold clipAt;rw[if_neg (Int.not_lt.mpr (Int.natCast_nonneg k)),Int.min_eq_right (Int.ofNat_le.mpr h),Int.max_eq_right (Int.natCast_nonneg _),Int.toNat_natCast]
theorem GD (n:Nat) (i:Int):clipAt n i≤n:=Int.toNat_le.mpr (Int.max_le.mpr ⟨Int.natCast_nonneg n,Int.min_le_right _ _⟩)
theorem J0 (n:Nat) (hi:Option Int):og n hi≤n:=by induction hi with|none=>exact Nat.le_refl _|some i=>exact GD n i
theorem iU (lo hi:Option Int) (n:Nat):Builtin.Str.strSliceIndices lo hi 1 n=sliceRange (iM n lo) (og n hi) 1:=by unfold Builtin.Str.strSliceIndices iM og;induction lo <;> induction hi <;> simp[clipAt_cast]
theorem Az (k:List Nat) (a n:Nat):((List.range n).map (a+·)).filterMap ((S k).cps[·]?)=(k.drop a).take n:=by have:=pick_run k.toArray a n;simpa using this
theorem qE (k:List Nat) (lo hi:Option Int):(Builtin.Str.strSliceIndices lo hi 1 (S k).length).filterMap ((S k).cps[·]?)=cq k lo hi:=by rw[iU,sliceRange_one,a9];exact Az k _ _
theorem sF {k:List Nat} {l u:Option (Int×Tok)} (hz:k.length≤sizeLine) (hs:s.heap.IsSlice sl l u Option.none) : Pu g A ι P s (getItem (.str (S k) t) (.ref sl)) (.str (cq k (l.map (·.1)) (u.map (·.1)))):=by
 have MR:(cq k (l.map (·.1)) (u.map (·.1))).length≤sizeLine:=by unfold cq;rw[List.length_take,List.length_drop];exact Nat.le_trans (Nat.min_le_right _ _) (Nat.le_trans (Nat.sub_le _ _) hz)
 refine Pu.same λQ E hQ=>wpAny_getItem_str_slice hs rfl ?_;unfold sliceMade;have hp:slicePicked (S k) l u Option.none=Builtin.Str.strSliceIndices (l.map (·.1)) (u.map (·.1)) 1 (S k).length:=rfl;have e2:=qE k (l.map (·.1)) (u.map (·.1))
 split
 ·rename_i hc;simp only[Option.map_none,Option.getD_none,Bool.and_eq_true,beq_iff_eq,hp] at hc;show Q (.str (S k) t) s;have:cq k (l.map (·.1)) (u.map (·.1))=k:=by
   have h1:(Builtin.Str.strSliceIndices (l.map (·.1)) (u.map (·.1)) 1 (S k).length).length=k.length:=by rw[hc.2,a9]
   rw[iU,sliceRange_one,a9] at h1;simp only[List.length_map,List.length_range] at h1;unfold cq;have h2:=J0 k.length (u.map (·.1));have h3:iM k.length (l.map (·.1))=0∨k.length=0:=(Nat.eq_zero_or_pos _).imp id λhl=>(Nat.eq_zero_or_pos _).elim id λhn=>absurd (Nat.sub_lt hn hl) (Nat.not_lt.mpr (Nat.le_trans (Nat.le_of_eq h1.symm) (Nat.sub_le_sub_right h2 _)));rcases h3 with h3 | h3
   ·rw[h3] at h1 ⊢;rw[List.drop_zero,List.take_of_length_le (Nat.le_of_eq h1.symm)]
   ·have:k=[]:=List.eq_nil_of_length_eq_zero h3;subst this;simp
  have hq:=hQ (.str (S k) t) s.toks (by rw[this];exact .str _ _ hz)
  exact hq
 ·rw[hp,e2];refine ⟨by show (S _).length≤sizeLine;rw[a9];exact MR,?_⟩;exact hQ _ _ (.str _ _ MR)
end
section
variable {g:G} {A:Around} {ι:bq} {P:Fz} {s:Shared} {a b:Value} {x y z:PV}
theorem yY (xs:List PV) (lo hi:Option Int):(jU xs lo hi).length≤xs.length:=by unfold jU;rw[List.length_take,List.length_drop];lia
theorem aT.cut {w:World} (r:aT w P ι vs xs) (lo hi:Option Int):aT w P ι ((vs.drop (iM xs.length lo)).take (og xs.length hi - iM xs.length lo)) (jU xs lo hi):=aT.take _ (aT.drop _ r)
theorem kE (F:aB P s.heap) (hl:s.heap.IsList ta vs.toArray) (za:xs.length≤sizeLine) (ra:aT g.w P ι vs xs) (hs:s.heap.IsSliceOf sl vl vu .none) (pl:IsPart vl lo) (pu:IsPart vu hi) : Pu g A ι P s (getItem (.ref ta) (.ref sl)) (.lst (jU xs lo hi)):=by have ln:=ra.length;refine Pu.mk λQ E hQ=>wpAny_getItem_list_slice hl hs pl pu .none (by simp) ?_ (by rw[List.size_toArray,ln];exact za);rw[slicePick_plain,show vs.toArray.size=xs.length from by rw[List.size_toArray,ln]];exact hQ _ _ _ _ (cm.push F _ rfl) (.lst dH (Nat.le_trans (yY ..) za) (aT.mono (cm.push F _ rfl).le (ra.cut lo hi)))
theorem mH {v:Value} {k:Option Int} {Q:Option Int→Shared→Prop} (hp:IsPart v k) (h:Q k s):wpAny (model g.prog g.w) A (Builtin.Slice.slicePartIndex v) Q E s:=by induction hp using IsPart.casesOn with|none=>exact slicePart_none h|int i t=>exact slicePart_int h
theorem sG (n:Nat) (lo hi:Option Int) (h:oN n lo hi=true):Builtin.Slice.sliceAdjust lo hi 1 (n:Int)=((iM n lo:Int),(og n hi:Int)):=by
 unfold oN at h;simp only[Bool.and_eq_true] at h;obtain ⟨⟨⟨h1,h2⟩,_⟩,_⟩:=h;have hl:((iM n lo:Nat):Int)=lo.elim 0 id:=by
  induction lo with|none=>rfl|some i=>
   simp only[Option.elim,Bool.and_eq_true,decide_eq_true_eq] at h1;show ((clipAt n i:Nat):Int)=i;rw[clipAt_cast];have:¬ i<0:=by lia
   simp only[this,if_false];lia
 have hh:((og n hi:Nat):Int)=hi.elim (n:Int) id:=by
  induction hi with|none=>rfl|some i=>
   simp only[Option.elim,Bool.and_eq_true,decide_eq_true_eq] at h2;show ((clipAt n i:Nat):Int)=i;rw[clipAt_cast];have:¬ i<0:=by lia
   simp only[this,if_false];lia
 rw[hl,hh];unfold Builtin.Slice.sliceAdjust;have hn:¬ ((1:Int)<0):=by lia
 induction lo with
 | none=>
  induction hi with|none=>simp[hn]|some j=>
   simp only[Option.elim,Bool.and_eq_true,decide_eq_true_eq] at h2;have:¬ j<0:=by lia
   simp only[hn,if_false,this,Option.elim,id]
   congr 1;lia
 | some i=>
  simp only[Option.elim,Bool.and_eq_true,decide_eq_true_eq] at h1;have h3:¬ i<0:=by lia
  induction hi with
  | none=>
   simp only[hn,if_false,h3,Option.elim,id]
   congr 1;lia
  | some j=>
   simp only[Option.elim,Bool.and_eq_true,decide_eq_true_eq] at h2;have h4:¬ j<0:=by lia
   simp only[hn,if_false,h3,h4,Option.elim,id]
   congr 1 <;> lia
theorem sH (a b:Nat) (h:a≤b):Builtin.Slice.slicePlaces (a:Int) (b:Int) 1=b - a:=by
 unfold Builtin.Slice.slicePlaces;have h1:(1:Int) > 0:=by lia
 simp only[h1,if_true,Int.ediv_one]
 split <;> lia
theorem sJ (F:aB P s.heap) (ra:Rv g.w P ι a (.tup xs)) (hs:s.heap.IsSliceOf sl vl vu .none) (pl:IsPart vl lo) (pu:IsPart vu hi) (hc:oN xs.length lo hi=true):Pu g A ι P s (getItem a (.ref sl)) (.tup (jU xs lo hi)):=by
 obtain ⟨ta,vs,n,rfl,ea,za,ra⟩:=ra.fR;have ht:=dk F ea;have ln:=ra.length;refine w6 (id hs) λos O7 J2 PX=>?_;have TY:s.TypeIs (.ref sl) "slice":=⟨os,O7,J2⟩;have PY:=sG xs.length lo hi hc;have Gm:iM xs.length lo≤og xs.length hi∧og xs.length hi - iM xs.length lo≠xs.length:=by unfold oN at hc;simp only[Bool.and_eq_true,Bool.not_eq_true'] at hc;exact ⟨Nat.le_of_ble_eq_true hc.1.2,Nat.ne_of_beq_eq_false hc.2⟩
 refine Pu.mk λQ E hQ=>?_;unfold getItem
 try with_reducible refine wpAny_holding ?_
 first | refine wpAny_bind (wpAny_pure ?_) | skip
 refine wpAny_bind (wpAny_sequenceKey ht.typeIs (by decide) ?_);refine wpAny_bind (wpAny_callSpecial?_slot (name:=Str.ofString "__getitem__") ht.typeIs slot_tuple_getitem (wpAny_call_entry slot_tuple_getitem ht.typeIs entry_tuple_getitem ?_ (args_tuple_getitem _ _)));show wpAny _ _ (Builtin.Tuple.tupleItemsOf (.ref ta) >>= _) _ _ s;refine wpAny_bind (tupleItemsOf_ ht ?_);refine wpAny_bind (wpAny_typeOf TY ?_);rw[if_pos (by decide)];refine wpAny_bind (m:=Builtin.Slice.sliceApplied (.ref sl) (pure (vs.toArray.size:Int))) ?_;unfold Builtin.Slice.sliceApplied Builtin.Slice.sliceFields;refine wpAny_bind (wpAny_bind (wpAny_field O7 PX (x:=vl) rfl (wpAny_bind (wpAny_field O7 PX (x:=vu) rfl (wpAny_bind (wpAny_field O7 PX (x:=.none) rfl (wpAny_pure ?_)))))));refine wpAny_bind (slicePart_none ?_);show wpAny _ _ (if ((1:Int)==0)=true then _ else _) _ _ s;rw[if_neg (by decide)];refine wpAny_bind (mH pl (wpAny_bind (mH pu (wpAny_bind (wpAny_pure ?_)))));show wpAny _ _ (match Builtin.Slice.sliceAdjust lo hi 1 (vs.toArray.size:Int) with | (lo,hi)=>pure (lo,(1:Int),Builtin.Slice.slicePlaces lo hi 1)) _ _ s;rw[List.size_toArray,ln,PY];show wpAny _ _ (pure ((iM xs.length lo:Int),(1:Int),Builtin.Slice.slicePlaces (iM xs.length lo:Int) (og xs.length hi:Int) 1)) _ _ s;rw[sH _ _ Gm.1];refine wpAny_pure ?_;have TZ:¬ ((((iM xs.length lo:Nat):Int)==0&&(1:Int)==1&&(og xs.length hi - iM xs.length lo)==xs.length)=true):=by
  have:((og xs.length hi - iM xs.length lo)==xs.length)=false:=by rw[beq_eq_false_iff_ne];exact Gm.2
  rw[this];simp
 show wpAny _ _ (if (((iM xs.length lo:Nat):Int)==0&&(1:Int)==1&&(og xs.length hi - iM xs.length lo)==xs.length)=true then _ else _) _ _ s;rw[if_neg TZ];have e2:((List.range (og xs.length hi - iM xs.length lo)).filterMap λ(k:Nat)=>vs.toArray[(((iM xs.length lo:Nat):Int)+(k:Int)*1).toNat]?).toArray=((vs.drop (iM xs.length lo)).take (og xs.length hi - iM xs.length lo)).toArray:=by
  have:=pick_run vs.toArray (iM xs.length lo) (og xs.length hi - iM xs.length lo);rw[List.filterMap_map] at this;rw[←(show vs.toArray.toList=vs from rfl),←this]
  congr 1
  congr 1
  funext k
  have:((((iM xs.length lo:Nat):Int)+(k:Int)*1).toNat)=iM xs.length lo+k:=by lia
  rw[this];rfl
 rw[e2];have MR:(jU xs lo hi).length≤sizeLine:=Nat.le_trans (yY ..) za;have mI:sizeOk (.seq ((vs.drop (iM xs.length lo)).take (og xs.length hi - iM xs.length lo)).toArray):=by show Array.size _≤sizeLine;rw[List.size_toArray,(ra.cut lo hi).length];exact MR
 have fin:=hQ _ _ s.toks _ (cm.push F {cls:=.type "tuple",data:=.seq ((vs.drop (iM xs.length lo)).take (og xs.length hi - iM xs.length lo)).toArray} rfl) (.tup dH MR (aT.mono (cm.push F _ rfl).le (ra.cut lo hi)))
 first
  | exact wpAny_bind (m:=Builtin.Tuple.tupleExact _) (wpAny_newObj_type (wpAny_pure ⟨_,rfl,wpAny_pure fin⟩) mI)
  | exact wpAny_bind (m:=Builtin.Tuple.tupleExact _) (wpAny_newObj_type (wpAny_bind (wpAny_pure (wpAny_pure ⟨_,rfl,wpAny_pure fin⟩))) mI)
  | exact wpAny_bind (wpAny_bind (m:=Builtin.Tuple.tupleExact _) (wpAny_newObj_type (wpAny_pure (wpAny_pure ⟨_,rfl,wpAny_pure fin⟩)) mI))
  | exact wpAny_bind (wpAny_bind (m:=Builtin.Tuple.tupleExact _) (wpAny_newObj_type (wpAny_pure ⟨_,rfl,wpAny_pure fin⟩) mI))
end
noncomputable def IE (x_:PV):Option Bool:=by induction x_ using PV.casesOn with|none=>exact some false|bool b=>exact some b|int i=>exact some (i != 0)|str x=>exact some (!x.isEmpty)|lst xs=>exact some (!xs.isEmpty)|tup xs=>exact some (!xs.isEmpty)|arr xs=>exact some (!xs.isEmpty)|_=>exact Option.none
section
variable {g:G} {A:Around} {ι:bq} {P:Fz} {s:Shared} {a b:Value} {x y z:PV} {c:Bool}
theorem Cr (h:n≤sizeLine):(n:Int)<2 ^ 63:=by rw[sizeLine_eq] at h;lia
theorem sM (za:xs.length≤sizeLine) (ln:vs.length=xs.length):(vs.toArray.size:Int)<2 ^ 63:=Cr (by rw[List.size_toArray,ln];exact za)
theorem Cs {vs:List α} {xs:List β} (ln:vs.length=xs.length):vs.isEmpty=xs.isEmpty:=by induction vs using List.casesOn <;> induction xs using List.casesOn <;> first | rfl | exact nomatch ln
theorem Ct (ln:vs.length=xs.length):(!vs.toArray.isEmpty)=!xs.isEmpty:=congrArg _ ((List.isEmpty_toArray _).trans (Cs ln))
theorem uI (hl:s.heap.IsList ta vs.toArray) (za:xs.length≤sizeLine) (ln:vs.length=xs.length):qA g A P s (truthy (.ref ta)) (!xs.isEmpty):=Ct ln▸qA.same λQ E hQ=>wpAny_truthy_list hl (sM za ln) (hQ _)
theorem rr (hl:s.heap.IsList ta vs.toArray) (za:xs.length≤sizeLine) (ln:vs.length=xs.length):Pu g A ι P s (call (.builtin "len") [.ref ta]) (.int xs.length):=ln▸Pu.same λQ E hQ=>PyProof.Rows.len_list hl (sM za ln) (hQ _ _ (.int _ _))
theorem GF (k:List Nat):(((S k).length:Int) != 0)=!k.isEmpty:=by rw[a9];induction k using List.casesOn <;> rfl
noncomputable abbrev kF (g:G) (A:Around) (P:Fz) (s:Shared) (c:Bool) (a:Value):Prop:=qA g A P s (truthy a) c
theorem uJ (F:aB P s.heap) (ra:Rv g.w P ι a x) (e:IE x=some c):qA g A P s (truthy a) c:=by induction x using PV.casesOn with|none=>exact ra.et (R:=kF g A P s c) (au (R:=λc=>kF g A P s c .none) e (qA.same λQ E hQ=>PyProof.Rows.truthy_none (hQ s.toks)))|bool b=>exact ra.eY (R:=kF g A P s c) (au (R:=λc=>kF g A P s c (.bool b)) e (qA.same λQ E hQ=>wpAny_truthy_bool (hQ s.toks)))|int i=>exact ra.bx (R:=kF g A P s c) λt=>au (R:=λc=>kF g A P s c (.int i t)) e (qA.same λQ E hQ=>PyProof.Rows.truthy_int (hQ s.toks))|str k=>exact ra.aZ (R:=kF g A P s c) λt hz=>au (R:=λc=>kF g A P s c (.str (S k) t)) e (GF k▸qA.same λQ E hQ=>PySem.P.truthy_str (Int.not_le.mpr (Cr (by rw[a9];exact hz))) (hQ _))|tup xs=>exact ra.lI (R:=kF g A P s c) λta vs n ea za rb=>au (R:=λc=>kF g A P s c (.ref ta)) e (Ct rb.length▸qA.same λQ E hQ=>truthy_tuple (dk F ea) (sM za rb.length) (hQ _))|lst xs=>exact ra.gn (R:=kF g A P s c) λta vs n ea za rb=>au (R:=λc=>kF g A P s c (.ref ta)) e (uI (bh F ea) za rb.length)|arr xs=>exact yR ra.gW λta vs n dd sl e1 ea za rb=>Eq.substr (p:=kF g A P s c) e1 (au (R:=λc=>kF g A P s c (.ref ta)) e (uI (bh F ea) za rb.length))|_=>exact nS e
noncomputable abbrev mJ (g:G) (A:Around) (ι:bq) (P:Fz) (s:Shared) (v l:Expr) (sl:Addr) (z:PV) (a:Value):Prop:=Pu g A ι P s (subscriptTail v l a (.ref sl)) z
theorem oh {n:String} {v l:Expr} (hT:s.TypeIs a T) (hl:typeLookup (.type T) "__getitem__"=pure (some (.builtin n))) (h:Pu g A ι P s (getItem a (.ref sl)) z):mJ g A ι P s v l sl z a:=bZ (c0 l a (.ref sl)) λops e Q E hQ=>tail_any hT hl (h Q E hQ) e
theorem oP {v:Value} {o:Option Int} (h:IsPart v o):∃l:Option (Int×Tok),o=l.map (·.1)∧v=partValue l:=by induction h using IsPart.casesOn with|none=>exact ⟨Option.none,rfl,rfl⟩|int i t=>exact ⟨some (i,t),rfl,rfl⟩
theorem xb (F:aB P s.heap) {value slice:Expr} (ra:Rv g.w P ι a x) (hs:s.heap.IsSliceOf sl vl vu .none) (pl:IsPart vl lo) (pu:IsPart vu hi) (e:sD x lo hi=some (gd,z)) (hg:AllP gd):Pu g A ι P s (subscriptTail value slice a (.ref sl)) z:=by induction x using PV.casesOn with|str k=>refine fQ (R:=λy z=>mJ g A ι P s value slice sl z a) e (ra.aZ (R:=mJ g A ι P s value slice sl (.str (cq k lo hi))) λt hz=>?_);refine aG (oP pl) λl e1 e2=>aG (oP pu) λu e3 e4=>?_;subst e1;subst e3;subst e2;subst e4;exact oh (typeIs_str s _ t) slot_str_getitem.lookup (sF hz hs)|lst xs=>exact fQ (R:=λy z=>mJ g A ι P s value slice sl z a) e (ra.gn (R:=mJ g A ι P s value slice sl (.lst (jU xs lo hi))) λta vs n ea za ra=>oh (bh F ea).typeIs slot_list_getitem.lookup (kE F (bh F ea) za ra hs pl pu))|arr xs=>exact fQ (R:=λy z=>mJ g A ι P s value slice sl z a) e (yR ra.gW λta vs n y y e1 ea za ra=>Eq.substr (p:=mJ g A ι P s value slice sl (.lst (jU xs lo hi))) e1 (oh (bh F ea).typeIs slot_list_getitem.lookup (kE F (bh F ea) za ra hs pl pu)))|tup xs=>refine fQ (R:=λg' z=>AllP g'→mJ g A ι P s value slice sl z a) e (λhg=>oh (ra.lI (R:=λa=>s.TypeIs a "tuple") λta vs n ea za ra=>(dk F ea).typeIs) slot_tuple_getitem.lookup (sJ F ra hs pl pu hg.1)) hg|_=>exact nS e
noncomputable def IF (x_:PV):Option Nat:=by induction x_ using PV.casesOn with|str k=>exact some k.length|lst xs=>exact some xs.length|tup xs=>exact some xs.length|arr xs=>exact some xs.length|_=>exact Option.none
noncomputable abbrev uK (g:G) (A:Around) (ι:bq) (P:Fz) (s:Shared) (n:Nat) (a:Value):Prop:=Pu g A ι P s (call (.builtin "len") [a]) (.int n)
theorem uL (F:aB P s.heap) (ra:Rv g.w P ι a x) (e:IF x=some n):Pu g A ι P s (call (.builtin "len") [a]) (.int n):=by induction x using PV.casesOn with|str k=>exact au (R:=λn=>uK g A ι P s n a) e (ra.aZ (R:=uK g A ι P s k.length) λt hz=>a9 k▸Pu.same λQ E hQ=>len_str (Int.not_le.mpr (Cr (by rw[a9];exact hz))) (hQ _ _ (.int _ _)))|tup xs=>exact au (R:=λn=>uK g A ι P s n a) e (ra.lI (R:=uK g A ι P s xs.length) λta vs n ea za ra=>ra.length▸Pu.same λQ E hQ=>PyProof.Rows.len_tuple (dk F ea) (sM za ra.length) (hQ _ _ (.int _ _)))|lst xs=>exact au (R:=λn=>uK g A ι P s n a) e (ra.gn (R:=uK g A ι P s xs.length) λta vs n ea za ra=>rr (bh F ea) za ra.length)|arr xs=>exact au (R:=λn=>uK g A ι P s n a) e (yR ra.gW λta vs n z z e1 ea za ra=>Eq.substr (p:=uK g A ι P s xs.length) e1 (rr (bh F ea) za ra.length))|_=>exact nS e
theorem AA (ra:Rv g.w P ι a (.int i)) (h:(decide (0≤i)&&decide (i≤1114111))=true):Pu g A ι P s (call (.builtin "chr") [a]) (.str [i.toNat]):=ra.bx (R:=λa=>Pu g A ι P s (call (.builtin "chr") [a]) (.str [i.toNat])) λt=>Pu.same λQ E hQ=>chr_of_range (of_decide_eq_true (Bool.and_eq_true_iff.mp h).1) (of_decide_eq_true (Bool.and_eq_true_iff.mp h).2) (hQ (.str (S [i.toNat]) _) _ (.str _ _ (by rw[sizeLine_eq];exact Nat.le_of_ble_eq_true rfl)))
noncomputable def gY (k y:List Nat):Int:=Txt.find (S k) (S y)
noncomputable def fh (k y:List Nat):Int:=Txt.count (S k) (S y)
theorem xc {k y:List Nat} (ra:Rv g.w P ι a (.str k)) (rb:Rv g.w P ι b (.str y)):Pu g A ι P s (call (.builtin "str.find") [a,b]) (.int (gY k y)):=ra.aZ (R:=λa=>Pu g A ι P s (call (.builtin "str.find") [a,b]) (.int (gY k y))) λt z=>rb.aZ (R:=λb=>Pu g A ι P s (call (.builtin "str.find") [.str (S k) t,b]) (.int (gY k y))) λz z=>Pu.same λQ E hQ=>SC.find (hQ _ _ (.int _ _))
theorem uM {k y:List Nat} (ra:Rv g.w P ι a (.str k)) (rb:Rv g.w P ι b (.str y)):Pu g A ι P s (call (.builtin "str.count") [a,b]) (.int (fh k y)):=ra.aZ (R:=λa=>Pu g A ι P s (call (.builtin "str.count") [a,b]) (.int (fh k y))) λt z=>rb.aZ (R:=λb=>Pu g A ι P s (call (.builtin "str.count") [.str (S k) t,b]) (.int (fh k y))) λz z=>Pu.same λQ E hQ=>SC.count (hQ _ _ (.int _ _))
end
noncomputable def d4:List PV→Bool|[]=>true|.str _::r=>d4 r|_=>false
noncomputable def strsOf:List PV→List (List Nat)|[]=>[]|.str x::r=>x::strsOf r|_::r=>strsOf r
noncomputable def d5 (l_:List (List Nat)):List Nat:=by induction l_ with|nil=>exact []|cons x r ih=>exact x++ih
theorem oQ:∀{xs:List PV},d4 xs=true→strs? xs=some (strsOf xs)|[],_=>rfl|.str x::r,h=>show (strs? r).map (x::·)=some (x::strsOf r) from by rw[oQ (xs:=r) h];rfl|.none::_,h | .bool _::_,h | .int _::_,h | .tup _::_,h | .lst _::_,h | .arr _::_,h | .lF _::_,h | .ref _::_,h | .glob _::_,h=>by exact fT h
theorem qF {ss:List Str} (h:StrsAre vs ss):∃l:List (Str×Tok),vs=strValues l∧l.map (·.1)=ss:=by induction h with|nil=>exact ⟨[],rfl,rfl⟩|cons y t r ih=>refine aG ih λl eq1 e=>?_;subst eq1;exact ⟨(y,t)::l,rfl,by simp[e]⟩
theorem AB:∀ss:List (List Nat),Txt.join (S []) (ss.map S)=S (d5 ss):=by
 have e:∀ss:List (List Nat),Str.join (S []) (ss.map S)=S (d5 ss):=by intro ss;induction ss with|nil=>rfl|cons x r ih=>induction r using List.casesOn with|nil=>simp[Str.join,d5]|cons y r=>show S x++S []++Str.join (S []) ((y::r).map S)=_;rw[ih,ky,ky];simp[d5]
 intro ss;rw[←e ss];exact StrLaws.glued_eq_join _ _
noncomputable def bF (k:List Nat) (l_:List (List Nat)):Nat:=by induction l_ with|nil=>exact 0|cons x r ih=>exact (bif lEq x k then 1 else 0)+ih
theorem mK (k:List Nat):∀ss:List (List Nat),Spec.countIn (.str (S k)) ((ss.map S).map PyData.str)=bF k ss|[]=>rfl|x::r=>by have ih:=mK k r;simp only[List.map_cons,show bF k (x::r)=(bif lEq x k then 1 else 0)+bF k r from rfl,Spec.countIn,Spec.same,uG,ih];induction lEq x k <;> simp
theorem uN:∀ss:List (List Nat),((ss.map S).toArray.foldl (λn x=>n+x.length+(S []).length) 0)=(d5 ss).length:=by
 intro ss;have gen:∀(ss:List (List Nat)) (n:Nat),(ss.map S).foldl (λn x=>n+x.length+(S []).length) n=n+(d5 ss).length:=by intro ss;induction ss with|nil=>intro n;rfl|cons x r ih=>intro n;rw[List.map_cons,List.foldl_cons,ih,show d5 (x::r)=x++d5 r from rfl,List.length_append,a9,a9];simp only[List.length_nil];lia
 rw[List.foldl_toArray];rw[gen ss 0,Nat.zero_add]
section
variable {g:G} {A:Around} {ι:bq} {P:Fz} {s:Shared} {a b:Value} {x y z:PV} {c:Bool}
theorem xd (F:aB P s.heap) (ra:Rv g.w P ι a (.str [])) (rb:Rv g.w P ι b (.lst xs)) (h:(d4 xs&&fits (d5 (strsOf xs)).length)=true) : Pu g A ι P s (call (.builtin "str.join") [a,b]) (.str (d5 (strsOf xs))):=by
 simp only[Bool.and_eq_true] at h;refine aG ra.str_inv λt ae hz=>?_;subst ae;refine kq rb.lst_inv λta vs n ae ea za ra=>?_;subst ae;have hs:=gX ra (oQ h.1);refine aG (qF hs) λl eq1 hl=>?_;subst eq1;have hz:=cL h.2;refine Pu.same λQ E hQ=>SC.join (bh F ea) hl ?_ λt' k=>?_
 ·unfold JoinOk;rw[uN,Bool.not_eq_true'];unfold Builtin.Str.tooLong;rw[decide_eq_false_iff_not];lia
 ·rw[AB];exact hQ _ _ (.str _ _ hz)
theorem sO (F:aB P s.heap) {k:List Nat} (ra:Rv g.w P ι a (.lst xs)) (rb:Rv g.w P ι b (.str k)) (h:d4 xs=true) : Pu g A ι P s (call (.builtin "list.count") [a,b]) (.int (bF k (strsOf xs))):=by obtain ⟨ta,vs,n,rfl,ea,za,ra⟩:=ra.lst_inv;obtain ⟨t,rfl,hz⟩:=rb.str_inv;have hs:=gX ra (oQ h);refine Pu.same λQ E hQ=>count_list_strs (bh F ea) hs ?_;rw[mK];exact hQ _ _ (.int _ _)
end
inductive AO where
 | lst (xs:List PV)
 | ew (xs:List PV)
 | inst (C:Addr) (fs:List (Str×PV))
 | exc (m:List Nat)
 | IG (ks:List Nat)
variable {os:List AO}
noncomputable def qG (ks:List Nat) (i:Int):Option Value:=if ks.any (λc=>decide (i=(c:Int))) then some .none else Option.none
abbrev Hp:=List (Nat×AO)
variable {H:Hp} {Hc:Hp→Prop}
abbrev Loc:=List (Str×PV)
variable {loc:Loc} {F:Loc→PV→PV}
abbrev R1:=Option (List Prop×PV)
variable {fns:Addr→List PV→Hp→R1}
abbrev RB:=Option (List Prop×Bool)
noncomputable def ax (x:Str) (l_:Loc):Option PV:=by induction l_ with|nil=>exact Option.none|cons e r ih=>exact bif seq e.1 x then some e.2 else ih
noncomputable def cM (x:Str) (v:PV) (l_:Loc):Loc:=by induction l_ with|nil=>exact [(x,v)]|cons e r ih=>exact bif seq e.1 x then (e.1,v)::r else e::ih
noncomputable def AE (x:Str) (l_:Loc):Loc:=by induction l_ with|nil=>exact []|cons e r ih=>exact bif seq e.1 x then ih else e::ih
noncomputable def aO (k:Nat) (l_:Hp):Option AO:=by induction l_ with|nil=>exact Option.none|cons e r ih=>exact bif Nat.beq e.1 k then some e.2 else ih
noncomputable def bG (k:Nat) (o:AO) (l_:Hp):Hp:=by induction l_ with|nil=>exact []|cons e r ih=>exact bif Nat.beq e.1 k then (e.1,o)::r else e::ih
noncomputable def ic (x:Str) (l_:List (Str×NameKind)):Option NameKind:=by induction l_ with|nil=>exact Option.none|cons e r ih=>exact bif seq e.1 x then some e.2 else ih
theorem d6 {x:Str} {e:Str×PV} {r:Loc}:ax x (e::r)=bif seq e.1 x then some e.2 else ax x r:=rfl
theorem rt {x:Str} {v:PV} {e:Str×PV} {r:Loc}:cM x v (e::r)=bif seq e.1 x then (e.1,v)::r else e::cM x v r:=rfl
theorem AF {x:Str} {e:Str×PV} {r:Loc}:AE x (e::r)=bif seq e.1 x then AE x r else e::AE x r:=rfl
theorem jj {k:Nat} {e:Nat×AO} {r:Hp}:aO k (e::r)=bif Nat.beq e.1 k then some e.2 else aO k r:=rfl
theorem rA {k:Nat} {o:AO} {e:Nat×AO} {r:Hp}:bG k o (e::r)=bif Nat.beq e.1 k then (e.1,o)::r else e::bG k o r:=rfl
theorem dI (x:Str):∀l:List (Str×NameKind),ic x l=l.lookup x
 | []=>rfl
 | (y,k)::r=>by
  have ih:=dI x r;show (bif seq y x then some k else ic x r)=(match x==y with | true=>some k | false=>r.lookup x);induction h:seq y x with
  | true=>
   have:(x==y)=true:=by rw[aK.mp h];exact beq_self_eq_true _
   rw[this];rfl
  | false=>
   have:(x==y)=false:=by rw[beq_eq_false_iff_ne];intro q;rw[←q,aK.mpr rfl] at h;exact tF h
   rw[this];exact ih
inductive AK where
 | field
 | prop (f:Addr)
 | lM (f:Addr)
set_option genCtorIdx true in
inductive xe where
 | len | chr | ty | int | list | str
structure fM where
 e:Expr
 f:Loc→Hp→R1
structure Ctx where
 scope:Scope
 w:Str→Bool
 nh:Bool
 glob:Str→Option PV
 blt:Str→Option xe
 attr:Addr→Str→Option AK
 fns:Addr→List PV→Hp→R1
 comps:List ((Nat×Nat×Nat)×fM)
variable {Γ:Ctx}
noncomputable def cb (p:Pos) (l_:List ((Nat×Nat×Nat)×fM)):Option fM:=by induction l_ with|nil=>exact Option.none|cons e r ih=>exact bif Nat.beq e.1.1 p.line&&(Nat.beq e.1.2.1 p.col&&Nat.beq e.1.2.2 p.endCol) then some e.2 else ih
noncomputable def ct (c:Bool):PV→PV→PV|.bool x,.bool y=>.bool (bif c then x else y)|.int x,.int y=>.int (bif c then x else y)|.str x,.str y=>.str (bif c then x else y)|.lst x,.lst y=>.lst (bif c then x else y)|x,y=>bif c then x else y
noncomputable def one?:List PV→Option PV|[a]=>some a|_=>Option.none
noncomputable def eA (H:Hp) (v:PV):Option (Nat×List PV):=v.sx.bind λk=>(aO k H).bind λo=>match o with
 | .lst xs=>some (k,xs)
 | _=>Option.none
noncomputable def jJ (H:Hp) (v:PV):Option (Nat×List PV):=v.sx.bind λk=>(aO k H).bind λo=>match o with
 | .ew xs=>some (k,xs)
 | _=>Option.none
noncomputable def c6 (H:Hp) (v:PV):Option (Nat×Addr×List (Str×PV)):=v.sx.bind λk=>(aO k H).bind λo=>match o with
 | .inst C fs=>some (k,C,fs)
 | _=>Option.none
noncomputable def excOf (H:Hp) (v:PV):Option (Nat×List Nat):=v.sx.bind λk=>(aO k H).bind λo=>match o with
 | .exc m=>some (k,m)
 | _=>Option.none
theorem yZ {vs:List PV} {v:PV} (h:one? vs=some v):vs=[v]:=by match vs,h with|[_],h=>obtain rfl:=Option.some.inj h;rfl
theorem dJ {v:PV} {i:Nat×List PV} (h:eA H v=some i):v=.ref i.1∧aO i.1 H=some (.lst i.2):=by refine bS h λk hk h=>?_;refine bS h λo ho h=>?_;induction o using AO.casesOn <;> cases h;exact ⟨PV.kx hk,ho⟩
theorem iV {v:PV} {i:Nat×List PV} (h:jJ H v=some i):v=.ref i.1∧aO i.1 H=some (.ew i.2):=by refine bS h λk hk h=>?_;refine bS h λo ho h=>?_;induction o using AO.casesOn <;> cases h;exact ⟨PV.kx hk,ho⟩
theorem cB {v:PV} {i:Nat×Addr×List (Str×PV)} (h:c6 H v=some i):v=.ref i.1∧aO i.1 H=some (.inst i.2.1 i.2.2):=by refine bS h λk hk h=>?_;refine bS h λo ho h=>?_;induction o using AO.casesOn <;> cases h;exact ⟨PV.kx hk,ho⟩
theorem kG {v:PV} {i:Nat×List Nat} (h:excOf H v=some i):v=.ref i.1∧aO i.1 H=some (.exc i.2):=by refine bS h λk hk h=>?_;refine bS h λo ho h=>?_;induction o using AO.casesOn <;> cases h;exact ⟨PV.kx hk,ho⟩
noncomputable def uO (H:Hp) (v:PV):Option Bool:=match jJ H v with
 | some i=>some (!i.2.isEmpty)
 | Option.none=>match eA H v with|some i=>some (!i.2.isEmpty)|Option.none=>IE v
noncomputable def y0 (H:Hp) (a b:PV):R1:=(eA H a).elim (Cn a b) λi=>b.int?.map λj=>([bD j i.2.length=true,decide (0≤j)=true],ez i.2 j)
noncomputable abbrev qH (r:Option (List Prop×α)) (f:α→Option (List Prop×β)):Option (List Prop×β):=r.bind λa=>(f a.2).bind λc=>some (a.1++c.1,c.2)
noncomputable def fO (f:Expr→R1) (l_:List Expr):Option (List Prop×List PV):=by induction l_ with|nil=>exact some ([],[])|cons e r ih=>exact (f e).bind λa=>ih.bind λb=>some (a.1++b.1,a.2::b.2)
noncomputable def lN (f:Expr→R1):PV→List CmpOp→List Expr→RB|a,[op],[r]=>(f r).bind λb=>(mG op a b.2).bind λc=>some (b.1,c)|a,op::J3::ops,r::r'::rs=>(f r).bind λb=>(mG op a b.2).bind λc=>(lN f b.2 (J3::ops) (r'::rs)).bind λd=>some (b.1++d.1.map (c=true→·),c&&d.2)|_,_,_=>Option.none
noncomputable def y3 (H:Hp) (f:Expr→R1) (op:BoolOp):List Expr→R1|[]=>Option.none|[e]=>f e|e::e'::r=>(f e).bind λa=>(uO H a.2).bind λt=>(y3 H f op (e'::r)).bind λb=>match op with|.And=>some (a.1++b.1.map (t=true→·),ct t b.2 a.2)|.Or=>some (a.1++b.1.map (t=false→·),ct t a.2 b.2)
noncomputable def Cu (f:Expr→RB) (op:BoolOp) (l_:List Expr):RB:=by
 induction l_ with
 | nil=>exact match op with|.And=>some ([],true)|.Or=>some ([],false)
 | cons e r ih=>exact ((f e).bind λa=>ih.bind λb=>match op with|.And=>some (a.1++b.1.map (a.2=true→·),a.2&&b.2)|.Or=>some (a.1++b.1.map (a.2=false→·),a.2||b.2))
noncomputable def MS (H:Hp) (v:PV):Option String:=match v with
 | .int _=>some "int"
 | .str _=>some "str"
 | .none=>some "NoneType"
 | .bool _=>some "bool"
 | v=>(excOf H v).map λz=>"ValueError"
noncomputable def MT (nh:Bool) (H:Hp) (v:PV) (x_:xe):R1:=by induction x_ using xe.casesOn with|len=>exact (IF v).map λ(n:Nat)=>([],PV.int (n:Int))|chr=>exact v.int?.map λi=>([(decide (0≤i)&&decide (i≤1114111))=true],.str [i.toNat])|ty=>exact (MS H v).map λT=>([],.glob (.type T))|int=>exact v.int?.map λi=>([],.int i)|list=>exact bif nh then (jJ H v).map λi=>([],.lst i.2) else Option.none|str=>exact (excOf H v).bind λi=>bif fits i.2.length then some ([],.str i.2) else Option.none
noncomputable def MU (nh:Bool) (b:xe) (vs:List PV) (H:Hp):R1:=(one? vs).bind λv=>MT nh H v b
noncomputable def MV (name:Str) (k:List Nat) (vs:List PV):R1:=bif seq name "join" then (match k with|[]=>(one? vs).bind λv=>v.sv.map λxs=>([(d4 xs&&fits (d5 (strsOf xs)).length)=true],.str (d5 (strsOf xs)))|_=>Option.none) else (one? vs).bind λv=>v.d3.bind λy=>
  bif seq name "find" then some ([],.int (gY k y))
  else bif seq name "count" then some ([],.int (fh k y))
  else Option.none
noncomputable def MW (x_:PV):Option (Option Int):=by induction x_ using PV.casesOn with|int i=>exact some (some i)|none=>exact some Option.none|_=>exact Option.none
noncomputable def intOf (o:Option R1):Option (List Prop×Option Int):=o.elim (some ([],Option.none)) λr=>r.bind λa=>(MW a.2).map λi=>(a.1,i)
noncomputable def bC (v:PV):Bool:=!uF v
noncomputable def lO (i:Nat) (e:Expr):Bool:=Nat.beq e.ctorIdx i
noncomputable def eM (e:Expr):Bool:=lO 23 e||(lO 20 e||(lO 19 e||lO 21 e))
noncomputable abbrev isStar (e:Expr):Bool:=lO 22 e
noncomputable def noStar (l_:List Expr):Bool:=by induction l_ with|nil=>exact true|cons e r ih=>exact !isStar e&&ih
noncomputable def Cv (e:Expr):Bool:=lO 16 e||eM e
noncomputable def kH (e:Expr):Bool:=!lO 26 e
noncomputable def Cw (Γ:Ctx) (H:Hp) (b:PV) (a:Str):R1:=(c6 H b).bind λi=>(Γ.attr i.2.1 a).bind λk=>match k with
 | .field=>(ax a i.2.2).map λx=>([bC x=true],x)
 | .prop f=>(Γ.fns f [b] H).map λx=>(x.1++[bC x.2=true],x.2)
 | .lM _=>Option.none
noncomputable def oR (Γ:Ctx) (i:Nat×Addr×List (Str×PV)) (name:Str):Option Addr:=(Γ.attr i.2.1 name).bind λk=>match k with
 | .lM f=>bif (ax name i.2.2).isNone then some f else Option.none
 | _=>Option.none
noncomputable def Cy (Γ:Ctx) (H:Hp) (b:PV) (name:Str) (vs:List PV):R1:=b.d3.elim (b.sv.elim ((c6 H b).bind λi=>(oR Γ i name).bind λf=>Γ.fns f (b::vs) H) λxs=>bif seq name "count" then (one? vs).bind λv=>v.d3.map λk=>([d4 xs=true],.int (bF k (strsOf xs))) else Option.none) λk=>MV name k vs
theorem uP {u v:Value} (h:PV.glob u=.glob v):u=v:=by injection h
noncomputable def Cz (u:Value):Option Addr:=by induction u using Value.casesOn with|ref a=>exact some a|_=>exact Option.none
noncomputable def PV.cls? (v:PV):Option Addr:=by induction v using PV.casesOn with|glob u=>exact Cz u|_=>exact Option.none
theorem PV.sP {v:PV} (h:v.cls?=some a):v=.glob (.ref a):=by
 induction v using PV.casesOn with
 | glob u=>induction u using Value.casesOn with|ref b=>exact congrArg _ (congrArg _ (Option.some.inj h))|_=>exact nS h
 | _=>exact nS h
noncomputable def II (Γ:Ctx) (H:Hp) (x:Str) (vs:List PV):R1:=(Γ.blt x).elim ((Γ.glob x).bind λv=>v.cls?.bind λf=>Γ.fns f vs H) λb=>MU Γ.nh b vs H
noncomputable def fj (Γ:Ctx) (loc:Loc) (x:Str):Option PV:=bif seq x "__debug__" then Option.none else (ic x Γ.scope.names).bind λk=>match k with
  | .local | .cell | .free=>ax x loc
  | .globalImplicit=>Γ.glob x
  | _=>Option.none
noncomputable def d7 (Γ:Ctx) (x:Str):Bool:=!seq x "__debug__"&&(match ic x Γ.scope.names with
 | some .globalImplicit=>true
 | _=>false)
noncomputable def jV (o:Expr) (args:List Expr) (apos pos:Pos):Bool:=eM o&&noStar args&&Nat.blt args.length 30&&Nat.beq apos.endLine pos.line
noncomputable def gp (es:List Expr):Bool:=noStar es&&fits es.length
noncomputable def J4 (e:Expr) (f:Str→α) (d:α):α:=by induction e using Expr.casesOn with|Name x q=>exact f x|_=>exact d
noncomputable def y4 (e:Expr) (f:List Expr→α) (d:α):α:=by induction e using Expr.casesOn with|List es q=>exact f es|_=>exact d
noncomputable def MX (e:Expr) (f:List Expr→α) (d:α):α:=by induction e using Expr.casesOn with|Tuple es k q=>exact f es|_=>exact d
noncomputable def PZ (e:Expr) (f:Option Expr→Option Expr→Option Expr→α) (d:α):α:=by induction e using Expr.casesOn with|Slice l u t q=>exact f l u t|_=>exact d
noncomputable def MY (e:Expr) (f:Const→α) (d:α):α:=by induction e using Expr.casesOn with|Constant c k q=>exact f c|_=>exact d
noncomputable def MZ (c:Const) (f:Int→α) (d:α):α:=by induction c using Const.casesOn with|int i=>exact f i|_=>exact d
noncomputable def strOr (c:Const) (f:Str→α) (d:α):α:=by induction c using Const.casesOn with|str x=>exact f x|_=>exact d
noncomputable def y5 (Γ:Ctx) (ev:Expr→R1) (H:Hp) (pos:Pos) (args:List Expr) (f:Expr) (ks:List Keyword):R1:=by
 induction ks using List.casesOn with
 | nil=>induction f using Expr.casesOn with|Attribute o name apos=>exact bif jV o args apos pos then (ev o).bind λb=>qH (fO ev args) λvs=>(Cy Γ H b.2 name vs).map λc=>(b.1++c.1,c.2) else Option.none|Name x q=>exact bif d7 Γ x&&noStar args then qH (fO ev args) λvs=>II Γ H x vs else Option.none|_=>exact Option.none
 | cons k r=>exact Option.none
noncomputable def P0 (Γ:Ctx) (loc:Loc) (H:Hp) (p:Expr→R1) (b:Expr→RB) (e:Expr):R1:=by
 induction e using Expr.casesOn with
 | Constant c k q=>induction c using Const.casesOn with|none=>exact some ([],.none)|bool b=>exact some ([],.bool b)|int i=>exact some ([],.int i)|str x=>exact bif fits (cs x).length then some ([],.str (cs x)) else Option.none|_=>exact Option.none
 | Name x q=>exact (fj Γ loc x).map λv=>([],v)
 | BinOp l op r q=>exact (p l).bind λa=>qH (p r) λb=>(rk op a.2 b).map λc=>(a.1++c.1,c.2)
 | UnaryOp op x q=>induction op using UnaryOp.casesOn with|Not=>exact (p x).bind λa=>(uO H a.2).bind λt=>some (a.1,.bool (!t))|USub=>exact MY x (λc=>MZ c (λi=>some ([],.int (-i))) Option.none) Option.none|_=>exact Option.none
 | IfExp t a d q=>exact (b t).bind λc=>(p a).bind λx=>(p d).bind λy=>some (c.1++(x.1.map (c.2=true→·)++y.1.map (c.2=false→·)),ct c.2 x.2 y.2)
 | BoolOp op vs q=>exact y3 H p op vs
 | Compare l ops rs q=>exact bif lastMarks ops rs then Option.none else (p l).bind λa=>(lN p a.2 ops rs).bind λc=>some (a.1++c.1,.bool c.2)
 | Subscript v i q=>exact PZ i (λlo hi t=>t.elim ((p v).bind λa=>(intOf (lo.map p)).bind λl=>(intOf (hi.map p)).bind λu=>(sD a.2 l.2 u.2).bind λc=>some (a.1++(l.1++(u.1++c.1)),c.2)) λz=>Option.none) (bif kH i then (p v).bind λa=>qH (p i) λb=>(y0 H a.2 b).map λc=>(a.1++c.1,c.2) else Option.none)
 | Tuple es k q=>exact bif gp es then (fO p es).map λa=>(a.1,.tup a.2) else Option.none
 | List es q=>exact bif gp es then (fO p es).map λa=>(a.1,.lst a.2) else Option.none
 | Attribute v a q=>exact bif eM v then qH (p v) λb=>Cw Γ H b a else Option.none
 | Call f args sQ pos=>exact (match cb pos Γ.comps with | some t=>(t.f loc H).map λr=>((t.e=.Call f args sQ pos)::r.1,r.2) | Option.none=>y5 Γ p H pos args f sQ)
 | ListComp a b c d=>exact (cb d Γ.comps).bind λt=>(t.f loc H).map λr=>((t.e=.ListComp a b c d)::r.1,r.2)
 | DictComp a b c d e=>exact (cb e Γ.comps).bind λt=>(t.f loc H).map λr=>((t.e=.DictComp a b c d e)::r.1,r.2)
 | _=>exact Option.none
noncomputable def P8 (p:Expr→R1) (b:Expr→RB) (e:Expr):RB→RB:=by
 induction e using Expr.casesOn with
 | UnaryOp op x q=>induction op using UnaryOp.casesOn with|Not=>exact λz=>(b x).map λa=>(a.1,!a.2)|_=>exact λz=>z
 | BoolOp op vs q=>exact λz=>Cu b op vs
 | Compare l ops rs q=>exact λz=>bif lastMarks ops rs then Option.none else (p l).bind λa=>(lN p a.2 ops rs).bind λc=>some (a.1++c.1,c.2)
 | _=>exact λz=>z
noncomputable def M0 (Γ:Ctx) (loc:Loc) (H:Hp) (n:Nat):(Expr→R1)×(Expr→RB):=by induction n with|zero=>exact (λz=>Option.none,λz=>Option.none)|succ n ih=>exact (P0 Γ loc H ih.1 ih.2,λe=>P8 ih.1 ih.2 e (bif Cv e then (ih.1 e).bind λa=>(uO H a.2).map λt=>(a.1,t) else Option.none))
noncomputable def dU (Γ:Ctx) (loc:Loc) (H:Hp) (n:Nat):Expr→R1:=(M0 Γ loc H n).1
noncomputable def CA (Γ:Ctx) (loc:Loc) (H:Hp) (n:Nat):Expr→RB:=(M0 Γ loc H n).2
inductive Tr (α:Type) where
 | fail
 | leaf (a:α)
 | br (b:Bool) (t e:Tr α)
 | need (gs:List Prop) (t:Tr α)
variable {tr:Tr β}
noncomputable def Tr.bind (f:α→Tr β) (t:Tr α):Tr β:=by induction t with|fail=>exact .fail|leaf a=>exact f a|br b t e i j=>exact .br b i j|need gs t i=>exact .need gs i
def Tr.Sat (Φ:α→Prop) (t:Tr α):Prop:=by induction t with|fail=>exact False|leaf a=>exact Φ a|br b t e i j=>exact (b=true→i)∧(b=false→j)|need gs t i=>exact AllP gs∧i
theorem aP {f:α→Tr β} {Φ:β→Prop} {t:Tr α}:(t.bind f).Sat Φ↔t.Sat (λa=>(f a).Sat Φ):=by induction t with|fail=>exact Iff.rfl|leaf a=>exact Iff.rfl|br b t e i j=>exact ⟨λh=>And.intro (λz=>i.mp (h.1 z)) λz=>j.mp (h.2 z),λh=>And.intro (λz=>i.mpr (h.1 z)) λz=>j.mpr (h.2 z)⟩|need gs t i=>exact ⟨λh=>And.intro h.1 (i.mp h.2),λh=>And.intro h.1 (i.mpr h.2)⟩
theorem Tr.Sat.mono {Ψ:α→Prop} (h:∀a,Φ a→Ψ a) {t:Tr α}:t.Sat Φ→t.Sat Ψ:=by induction t with|fail=>exact id|leaf a=>exact h a|br b t e i j=>exact λx=>And.intro (λq=>i (x.1 q)) λq=>j (x.2 q)|need gs t i=>exact λx=>And.intro x.1 (i x.2)
noncomputable def iW :Option (List Prop×α)→Tr α|Option.none=>.fail|some (gd,a)=>.need gd (.leaf a)
theorem qI {t:Option (List Prop×α)} {f:α→Tr β} {Φ:β→Prop} (h:((iW t).bind f).Sat Φ):∃gd a,t=some (gd,a)∧AllP gd∧(f a).Sat Φ:=by induction t with|none=>exact h.elim|some r=>exact ⟨r.1,r.2,rfl,h.1,h.2⟩
noncomputable def iN (f:α→Tr β):Option α→Tr β|Option.none=>.fail|some a=>f a
theorem gC {t:Option α} {f:α→Tr β} {Φ:β→Prop} (h:(iN f t).Sat Φ):∃a,t=some a∧(f a).Sat Φ:=by induction t with|none=>exact h.elim|some r=>exact ⟨r,rfl,h⟩
noncomputable def iO (c:Bool) (t:Tr α):Tr α:=bif c then t else .fail
theorem oS {c:Bool} {t:Tr α} (h:(iO c t).Sat Φ):c=true∧t.Sat Φ:=by induction c with|false=>exact h.elim|true=>exact ⟨rfl,h⟩
inductive RE where
 | ok (v:PV) (H:Hp)
 | exc (m:List Nat) (H:Hp)
inductive Fl where
 | next | brk | cont
 | ret (v:PV)
 | exc (m:List Nat)
variable {fl:Fl}
structure Out where
 fl:Fl
 loc:Loc
 H:Hp
structure sR where
 st:Stmt
 f:Loc→Hp→Tr Out
structure aA where
 c:Ctx
 set:Addr→Str→Bool
 km:Addr→List PV→Hp→Tr RE
 loops:List ((Nat×Nat)×sR)
 mt:Str→Bool
 fold:Nat→Option Bool
 rs:Bool
noncomputable def mL (p:Pos) (l_:List ((Nat×Nat)×sR)):Option sR:=by induction l_ with|nil=>exact Option.none|cons e r ih=>exact bif Nat.beq e.1.1 p.line&&Nat.beq e.1.2 p.col then some e.2 else ih
noncomputable def M1 (name:Str) (xs vs:List PV):Option (List Prop×PV×List PV):=bif seq name "append" then (one? vs).map λv=>([fits (xs.length+1)=true],.none,xs++[v]) else bif seq name "appendleft" then (one? vs).map λv=>([fits (xs.length+1)=true],.none,v::xs) else match vs with|[]=>bif seq name "pop" then some ([xs.isEmpty=false],xs.getLastD .none,xs.dropLast) else bif seq name "popleft" then some ([xs.isEmpty=false],xs.headD .none,xs.tail) else Option.none|_=>Option.none
noncomputable def M3 (name:Str) (xs vs:List PV):Option (List Prop×PV×List PV):=bif seq name "append" then (one? vs).map λv=>([fits (xs.length+1)=true],.none,xs++[v]) else Option.none
noncomputable def RE.then (f:PV→Hp→Tr RE) (x_:RE):Tr RE:=by induction x_ using RE.casesOn with|ok v H=>exact f v H|exc m H=>exact .leaf (.exc m H)
noncomputable def CB (Γ:aA) (H:Hp) (b:PV) (name:Str) (vs:List PV):Tr RE:=match jJ H b with
 | some i=>(iW (M1 name i.2 vs)).bind λr=>.leaf (.ok r.1 (bG i.1 (.ew r.2) H))
 | Option.none=>match eA H b with|some i=>(iW (M3 name i.2 vs)).bind λr=>.leaf (.ok r.1 (bG i.1 (.lst r.2) H))|Option.none=>iN (λi=>iN (λf=>Γ.km f (b::vs) H) (oR Γ.c i name)) (c6 H b)
noncomputable def IJ (Γ:aA) (H:Hp) (x:Str) (vs:List PV):Tr RE:=iN (λv=>match v with
 | .glob (.ref f)=>Γ.km f vs H
 | .glob (.type T)=>(match vs with|[]=>.need [T="collections.deque"] (.leaf (.ok (.ref H.length) (H++[(H.length,.ew [])])))|_=>.fail)
 | _=>.fail) (Γ.c.glob x)
noncomputable def O8 (Γ:aA) (loc:Loc) (H:Hp) (n:Nat) (e:Expr):Tr RE:=by
 induction e using Expr.casesOn with
 | Call f args ks pos=>induction ks using List.casesOn with
  | nil=>induction f using Expr.casesOn with|Attribute o name apos=>exact iO (jV o args apos pos) ((iW (dU Γ.c loc H n o)).bind λb=>(iW (fO (dU Γ.c loc H n) args)).bind λvs=>CB Γ H b name vs)|Name x q=>exact iO (d7 Γ.c x&&noStar args) ((iW (fO (dU Γ.c loc H n) args)).bind λvs=>IJ Γ H x vs)|_=>exact .fail
  | cons k r=>exact .fail
 | _=>exact .fail
noncomputable def J5 (Γ:aA) (loc:Loc) (H:Hp) (n:Nat) (e:Expr):Tr RE:=match dU Γ.c loc H n e with|some (gd,v)=>.need gd (.leaf (.ok v H))|Option.none=>O8 Γ loc H n e
noncomputable def CC (Γ:aA) (loc:Loc) (n:Nat) (k:List PV→Hp→Tr RE):List Expr→List PV→Hp→Tr RE|[],acc,H=>k acc H|e::r,acc,H=>(J5 Γ loc H n e).bind (RE.then λv H'=>CC Γ loc n k r (acc++[v]) H')
noncomputable def GG (Γ:aA) (loc:Loc) (H:Hp) (n:Nat) (e:Expr):Tr RE:=match dU Γ.c loc H n e with|some (gd,v)=>.need gd (.leaf (.ok v H))|Option.none=>y4 e (λes=>iO (gp es) (CC Γ loc n (λvs H'=>.leaf (.ok (.lst vs) H')) es [] H)) (O8 Γ loc H n e)
noncomputable def jW (e:Expr):Bool:=lO 8 e||(lO 10 e||(lO 9 e||lO 11 e))
noncomputable def GH (e:Expr):Bool:=lO 8 e
noncomputable def dw (Γ:Ctx) (x:Str):Bool:=match ic x Γ.scope.names with
 | some .local=>true
 | some .cell=>Γ.w x
 | _=>false
noncomputable def AG (Γ:aA) (n:Nat) (t:Expr) (v:PV) (loc:Loc) (H:Hp):Tr (Loc×Hp):=by induction t using Expr.casesOn with|Name x _=>exact iO (dw Γ.c x) (.leaf (cM x v loc,H))|Attribute o a _=>exact (iW (dU Γ.c loc H n o)).bind λb=>iN (λi=>iO (Γ.set i.2.1 a&&Nat.ble (cM a v i.2.2).length 1000) (.leaf (loc,bG i.1 (.inst i.2.1 (cM a v i.2.2)) H))) (c6 H b)|Subscript o i _=>exact (iO (kH i) ((iW (dU Γ.c loc H n o)).bind λb=>(iW (dU Γ.c loc H n i)).bind λj=>iN (λl=>iN (λ(j:Int)=>.need [(decide (0≤j)&&decide (j<l.2.length))=true] (.leaf (loc,bG l.1 (.lst (l.2.set j.toNat v)) H))) j.int?) (eA H b)))|_=>exact .fail
noncomputable def sS (Γ:aA) (n:Nat):List Expr→List PV→Loc→Hp→Tr (Loc×Hp)|[],[],loc,H=>.leaf (loc,H)|t::ts,v::vs,loc,H=>(AG Γ n t v loc H).bind λr=>sS Γ n ts vs r.1 r.2|_,_,_,_=>.fail
noncomputable def namesOf (l:List Expr):Option (List Str):=by induction l with|nil=>exact some []|cons e r ih=>exact J4 e (λx=>ih.map (x::·)) Option.none
noncomputable def oT (Γ:Ctx) (l_:List Str):Bool:=by induction l_ with|nil=>exact true|cons x r ih=>exact (match ic x Γ.scope.names with | some .local=>true | _=>false)&&ih
noncomputable def GI:List Str→List PV→Loc→Option Loc|[],[],loc=>some loc|x::xs,v::vs,loc=>GI xs vs (cM x v loc)|_,_,_=>Option.none
def Mq (sc:Scope) (ts:List Expr) (e:Expr) (r:Option (List Str)):Prop:=∀env:Env,env.scope=sc→swappedStores ts e env=pure r
noncomputable def isTup (e:Expr):Bool:=lO 25 e
noncomputable def asg (Γ:aA) (n:Nat) (t e:Expr) (v:PV) (loc:Loc) (H:Hp):Tr (Loc×Hp):=MX t (λts=>iN (λxs=>iO (Nat.beq xs.length ts.length&&noStar ts&&Γ.c.nh) (bif isTup e then (match namesOf ts with
    | some ns=>bif oT Γ.c ns then iN (λfm=>.need [Mq Γ.c.scope [t] e (some ns)] (.leaf (fm,H))) (GI ns.reverse xs.reverse loc) else .need [Mq Γ.c.scope [t] e Option.none] (sS Γ n ts xs loc H)
    | Option.none=>.need [Mq Γ.c.scope [t] e Option.none] (sS Γ n ts xs loc H))
   else sS Γ n ts xs loc H)) v.Ar) (AG Γ n t v loc H)
noncomputable def uQ (op:Operator) (a b:PV):R1:=match op,a,b with
 | .Add,.int _,.int _=>rk .Add a b
 | .Add,.int _,.bool _=>rk .Add a b
 | .Add,.str _,.str _=>rk .Add a b
 | _,_,_=>Option.none
noncomputable def isVal (x_:PV):Bool:=by induction x_ using PV.casesOn with|none=>exact true|bool _=>exact true|int _=>exact true|str _=>exact true|_=>exact false
noncomputable def AH (loc:Loc) (k:PV→Hp→Tr Out) (x_:RE):Tr Out:=by induction x_ using RE.casesOn with|ok v H=>exact k v H|exc m H=>exact .leaf ⟨.exc m,loc,H⟩
noncomputable def isAdd (x_:Operator):Bool:=by induction x_ using Operator.casesOn with|Add=>exact true|_=>exact false
noncomputable def P9 (Γ:aA) (n:Nat) (ss:List Stmt→Loc→Hp→Tr Out) (st:Stmt) (loc:Loc) (H:Hp):Tr Out:=by
 induction st using Stmt.casesOn with
 | Pass q=>exact .leaf ⟨.next,loc,H⟩
 | Break q=>exact .leaf ⟨.brk,loc,H⟩
 | Continue q=>exact .leaf ⟨.cont,loc,H⟩
 | Return e q=>exact e.elim (.leaf ⟨.ret .none,loc,H⟩) λe=>(GG Γ loc H n e).bind (AH loc λv H'=>.leaf ⟨.ret v,loc,H'⟩)
 | Expr e q=>exact iO (!jW e) ((GG Γ loc H n e).bind (AH loc λv H'=>iO (isVal v) (.leaf ⟨.next,loc,H'⟩)))
 | If t a b q=>exact (iW (CA Γ.c loc H n t)).bind λc=>match Γ.fold t.pos.line with | some true=>.need [c=true] (ss a loc H) | some false=>.need [c=false] (ss b loc H) | Option.none=>.br c (ss a loc H) (ss b loc H)
 | Assign ts e pos=>induction ts using List.casesOn with|nil=>exact .fail|cons t r=>induction r using List.casesOn with|nil=>exact J4 t (λx=>iO (dw Γ.c x) (bif jW e then iO (GH e) (iN (λt=>(iW (t.f loc H)).bind λv=>.need [t.e=e] (.leaf ⟨.next,cM x v loc,H⟩)) (cb e.pos Γ.c.comps)) else bif Γ.mt x then y4 e (λes=>iO (gp es) ((iW (fO (dU Γ.c loc H n) es)).bind λvs=>.leaf ⟨.next,cM x (.ref H.length) loc,H++[(H.length,.lst vs)]⟩)) .fail else (GG Γ loc H n e).bind (AH loc λv H'=>.leaf ⟨.next,cM x v loc,H'⟩))) (iO (!jW e) ((GG Γ loc H n e).bind (AH loc λv H'=>(asg Γ n t e v loc H').bind λq=>.leaf ⟨.next,q.1,q.2⟩)))|cons u r=>exact .fail
 | AugAssign t op e pos=>induction t using Expr.casesOn with|Name x p=>exact iO (dw Γ.c x&&!seq x "__debug__") (iN (λold=>(iW (dU Γ.c loc H n e)).bind λv=>match eA H old with | some i=>iO (isAdd op) (iN (λys=>.need [fits (i.2.length+ys.length)=true] (.leaf ⟨.next,cM x old loc,bG i.1 (.lst (i.2++ys)) H⟩)) v.sv) | Option.none=>(iW (uQ op old v)).bind λz=>.leaf ⟨.next,cM x z loc,H⟩) (ax x loc))|Attribute o a p=>exact iO (eM o) ((iW (dU Γ.c loc H n o)).bind λb=>iN (λi=>iN (λold=>(iW (dU Γ.c loc H n e)).bind λv=>(iW (uQ op old v)).bind λz=>iO ((match Γ.c.attr i.2.1 a with | some .field=>true | _=>false)&&(Γ.set i.2.1 a&&Nat.ble (cM a z i.2.2).length 1000)) (.leaf ⟨.next,loc,bG i.1 (.inst i.2.1 (cM a z i.2.2)) H⟩)) (ax a i.2.2)) (c6 H b))|_=>exact .fail
 | Raise x c q=>exact c.elim (x.elim .fail λx=>by
   induction x using Expr.casesOn with
   | Call f args ks q=>induction ks using List.casesOn with
    | nil=>induction args using List.casesOn with|nil=>exact .fail|cons a r=>induction r using List.casesOn with|nil=>exact J4 f (λx=>MY a (λk=>strOr k (λm=>iO (Γ.rs&&(Γ.c.nh&&(d7 Γ.c x&&fits (cs m).length))) (iN (λv=>match v with | .glob (.type T)=>.need [T="ValueError"] (.leaf ⟨.exc (cs m),loc,H⟩) | _=>.fail) (Γ.c.glob x))) .fail) .fail) .fail|cons b r=>exact .fail
    | cons k r=>exact .fail
   | _=>exact .fail) λz=>.fail
 | _=>exact .fail
noncomputable def M4 (Γ:aA) (s:Stmt→Loc→Hp→Tr Out) (ss:List Stmt→Loc→Hp→Tr Out) (l:List Stmt) (loc:Loc) (H:Hp):Tr Out:=by induction l using List.casesOn with|nil=>exact .leaf ⟨.next,loc,H⟩|cons st r=>exact Tr.bind (λo=>match o.fl with | .next=>ss r o.loc o.H | _=>.leaf o) (match mL st.pos Γ.loops with | some t=>.need [t.st=st] (t.f loc H) | Option.none=>s st loc H)
noncomputable def M5 (Γ:aA) (n:Nat):(Stmt→Loc→Hp→Tr Out)×(List Stmt→Loc→Hp→Tr Out):=by induction n with|zero=>exact (λz z z=>.fail,λz z z=>.fail)|succ n ih=>exact (P9 Γ n ih.2,M4 Γ ih.1 ih.2)
noncomputable def oU (Γ:aA) (n:Nat):Stmt→Loc→Hp→Tr Out:=(M5 Γ n).1
noncomputable def av (Γ:aA) (n:Nat):List Stmt→Loc→Hp→Tr Out:=(M5 Γ n).2
def uR (env:Env) (h:Heap) (x:Str) (v:Value):Prop:=(env.kindOf x=some .local∧∃m,h.Ns env.locals m∧m x=some v)∨ ((env.kindOf x=some .cell∨(env.kindOf x=some .free∧(x==("__classdict__":Str))=false))∧∃c,env.cells.lookup x=some c∧h.IsCell c (some v))
def Qa (w:World) (P:Fz) (ι:bq) (e:DictEntry) (f:Str×PV):Prop:=(∃t,e.key=.str f.1 t)∧e.hash=PyData.keyHash w.params f.1∧Rv w P ι e.val f.2
inductive dY (w:World) (P:Fz) (ι:bq):List DictEntry→List (Str×PV)→Prop
 | nil:dY w P ι [] []
 | cons {e es f fs}:Qa w P ι e f→dY w P ι es fs→dY w P ι (e::es) (f::fs)
theorem dY.mono {w:World} {P:Fz} {ι:bq} (hP:∀b o,P b=some o→P' b=some o) (fL:∀k p,ι k=some p→jA k=some p) {es:List DictEntry} {fs:List (Str×PV)} (h:dY w P ι es fs):dY w P' jA es fs:=by induction h with|nil=>exact .nil|cons h _ ih=>exact .cons ⟨h.1,h.2.1,h.2.2.eS hP fL⟩ ih
noncomputable def aR (n:Int) (vs:List Value):Obj:={cls:=.type "collections.deque",data:=.fields (#[.none,.int n 0]++vs.toArray)}
noncomputable abbrev jX (vs:List Value) (n:Nat):Obj:={cls:=.type "list",data:=.seq vs.toArray n}
def Shape (w:World) (P:Fz) (ι:bq) (h:Heap) (a d:Addr) (x_:AO):Prop:=by induction x_ using AO.casesOn with|lst xs=>exact ∃vs n,h.get? a=some (jX vs n)∧xs.length≤sizeLine∧aT w P ι vs xs|ew xs=>exact ∃vs n,h.get? a=some (aR n vs)∧xs.length≤sizeLine∧aT w P ι vs xs|inst C fs=>exact ∃es n,h.get? a=some (instObj C d)∧h.get? d=some (dictOf es n)∧dY w P ι es fs|exc m=>exact ∃oe ws t nt tk,h.get? a=some oe∧oe.cls=.type "ValueError"∧oe.data=.fields ws∧ws[0]?=some (.ref d)∧h.get? d=some t∧t.cls=.type "tuple"∧t.data=.seq #[.str (S m) tk] nt|IG ks=>exact (a==sysModules)=false∧∀prog,h.MapOf (intKind prog w) a (qG ks)
def M6 (w:World) (p:bq) (P:Fz) (h:Heap) (k:Nat) (o:AO):Prop:=∃a d,p k=some (a,d)∧Shape w P p h a d o
theorem Shape.on {w:World} {P:Fz} {ι:bq} {o:AO} (x:Shape w P ι h a d o) (ka:∀q,h.get? a=some q→h'.get? a=some q) (kd:∀q,h.get? d=some q→h'.get? d=some q) (hP:∀b o,P b=some o→P' b=some o) (fL:∀k p,ι k=some p→jA k=some p):Shape w P' jA h' a d o:=by induction o using AO.casesOn with|lst xs=>refine cY x λvs n e z r=>?_;exact ⟨vs,n,ka _ e,z,r.eS hP fL⟩|ew xs=>refine cY x λvs n e z r=>?_;exact ⟨vs,n,ka _ e,z,r.eS hP fL⟩|inst C fs=>refine cY x λes n e b r=>?_;exact ⟨es,n,ka _ e,kd _ b,r.mono hP fL⟩|exc m=>refine yR x λoe ws t nt tk e1 e2 e3 ae=>?_;refine fK ae λe4 e5 r=>?_;exact ⟨oe,ws,t,nt,tk,ka _ e1,e2,e3,e4,kd _ e5,r⟩|IG ks=>exact ⟨x.1,λprog=>IC (x.2 prog) λo es ep e r=>⟨o,es,ep,ka o e,r⟩⟩
structure Pt where
 ι:bq
 P:Fz
variable {p p' cJ p₁:Pt}
abbrev Pt.Le (p p':Pt):Prop:=(∀b o,p.P b=some o→p'.P b=some o)∧∀k q,p.ι k=some q→p'.ι k=some q
structure Bs where
 h:Heap
 fr:List Addr
variable {B:Bs}
def Own (p:Pt) (b:Addr):Prop:=∃k a d,p.ι k=some (a,d)∧(b=a∨b=d)
structure HI (g:G) (B:Bs) (H:Hp) (p:Pt) (h:Heap):Prop where
 ok:g.Ok B.h
 st:B.h.StaysIn h
 fz:aB p.P h
 objs:∀k o,aO k H=some o→M6 g.w p.ι p.P h k o
 xf:∀k q,p.ι k=some q→k<H.length
 new:∀b,Own p b→B.h.get? b=Option.none∧p.P b=Option.none∧∃o,h.get? b=some o
 inj:∀k k' a d a' d',p.ι k=some (a,d)→p.ι k'=some (a',d')→k≠k'→a≠a'∧a≠d'∧d≠a'∧d≠d'
 fr:∀L∈B.fr,B.h.get? L=Option.none∧p.P L=Option.none∧¬ Own p L∧∃o,h.get? L=some o∧∀vs,o.data≠.fields vs
structure Step (F:List Addr) (X:Addr→Prop) (p:Pt) (h:Heap) (p':Pt) (h':Heap):Prop where
 keep:∀b o,h.get? b=some o→¬ Own p b→¬ X b→b∉F→h'.get? b=some o
 slot:∀b o,h.get? b=some o→¬ Own p b→¬ X b→∃sl,h'.get? b=some {o with slots:=sl}
 live:∀b o,h.get? b=some o→∃o',h'.get? b=some o'
 le:p.Le p'
 gD:∀b o,p'.P b=some o→p.P b=some o∨h.get? b=Option.none
 ie:∀b,Own p' b→Own p b∨h.get? b=Option.none
theorem Pt.Le.refl :p.Le p:=⟨λz z e=>e,λz z e=>e⟩
theorem Pt.Le.trans {CD:Pt} (x:p.Le p') (y:p'.Le CD):p.Le CD:=⟨λb o e=>y.1 b o (x.1 b o e),λk q e=>y.2 k q (x.2 k q e)⟩
theorem eZ (l:∀b o,h.get? b=some o→∃o',h'.get? b=some o') {b:Addr} (e:h'.get? b=Option.none):h.get? b=Option.none:=by induction q:h.get? b with|none=>rfl|some o=>refine bZ (l b o q) λo' e'=>?_;rw[e] at e';exact nS e'
theorem aE {b:Addr} {C:Prop} (e:h.get? b=some o) (n:h.get? b=Option.none):C:=by rw[e] at n;exact sN n
theorem rB {P:Fz} (F:aB P h) {b:Addr} (e:h.get? b=Option.none):P b=Option.none:=by induction q:P b with|none=>rfl|some o=>exact aE (F b o q) e
section
variable {F:List Addr} {X Y:Addr→Prop} {p p' CD:Pt} {h h' gm:Heap}
theorem Step.refl:Step F X p h p h:=⟨λz z e z z z=>e,λz o e z z=>⟨o.slots,e⟩,λz z e=>⟨_,e⟩,.refl,λz z e=>.inl e,λz e=>.inl e⟩
theorem Step.own {b:Addr} (x:Step F X p h p' h') (e:h.get? b=some o) (n:¬ Own p b):¬ Own p' b:=λq=>by
 rcases x.ie b q with q | q
 ·exact n q
 ·exact aE e q
theorem Step.trans (x:Step F X p h p' h') (y:Step F X p' h' CD gm):Step F X p h CD gm where
 keep:=λb o e n nx nf=>y.keep b o (x.keep b o e n nx nf) (x.own e n) nx nf
 slot:=λb o e n nx=>by refine bZ (x.slot b o e n nx) λsl e1=>?_;refine bZ (y.slot b _ e1 (x.own e n) nx) λT9 e2=>?_;exact ⟨T9,e2⟩
 live:=λb o e=>let ⟨o',e'⟩:=x.live b o e;y.live b o' e'
 le:=x.le.trans y.le
 gD:=λb o e=>by
  rcases y.gD b o e with q | q
  ·exact x.gD b o q
  ·exact .inr (eZ x.live q)
 ie:=λb e=>by
  rcases y.ie b e with q | q
  ·exact x.ie b q
  ·exact .inr (eZ x.live q)
theorem Step.wk {F':List Addr} (x:Step F X p h p' h') (f:∀b o,h.get? b=some o→X b→Y b) (k:∀b o,h.get? b=some o→b∈F→b∈F'∨Y b):Step F' Y p h p' h':=⟨λb o e n m nf=>x.keep b o e n (λq=>m (f b o e q)) λq=>(k b o e q).elim nf m,λb o e n m=>x.slot b o e n λq=>m (f b o e q),x.live,x.le,x.gD,x.ie⟩
theorem cm.step (x:cm p.P h P' h'):Step F X p h ⟨p.ι,P'⟩ h' where
 keep:=λb o e z z z=>x.stays b o e
 slot:=λb o e z z=>⟨o.slots,x.stays b o e⟩
 live:=λb o e=>⟨o,x.stays b o e⟩
 le:=⟨x.le,λz z e=>e⟩
 gD:=λb o e=>by
  rcases x.new b o e with q | ⟨q,_⟩
  ·exact .inl q
  ·exact .inr q
 ie:=λz e=>.inl e
abbrev No:Addr→Prop:=λz=>False
theorem Step.no (x:Step F No p h p' h'):Step F X p h p' h':=x.wk (λz z z q=>q.elim) λz z z q=>.inl q
end
structure Cx where
 g:G
 B:Bs
 env:Env
 W:Str→Bool
variable {κ:Cx}
def Cx.All (κ:Cx) (a:Addr):Prop:=a=κ.env.locals∨∃x,κ.env.cells.lookup x=some a
def Cx.GJ (κ:Cx) (a:Addr):Prop:=a=κ.env.locals∨∃x,κ.W x=true∧κ.env.cells.lookup x=some a
theorem Cx.GJ.all :κ.GJ a→κ.All a|.inl e=>.inl e|.inr ⟨x,_,e⟩=>.inr ⟨x,e⟩
noncomputable abbrev Cx.M (κ:Cx):Model:=model κ.g.prog κ.g.w
structure EI (κ:Cx) (loc:Loc) (p:Pt) (h:Heap):Prop where
 ns:∃m,h.Ns κ.env.locals m
 cells:∀x c,κ.env.cells.lookup x=some c→∃v,h.IsCell c v
 has:∀x,κ.env.kindOf x=some .cell→∃c,κ.env.cells.lookup x=some c
 vars:∀x v,ax x loc=some v→∃u,Rv κ.g.w p.P p.ι u v∧uR κ.env h x u
 lP:∀a,κ.All a→κ.B.h.get? a=Option.none∧p.P a=Option.none∧¬ Own p a
 apart:∀x y c,κ.env.cells.lookup x=some c→κ.env.cells.lookup y=some c→x=y
 off:∀x c,κ.env.cells.lookup x=some c→c≠κ.env.locals
structure Inv (κ:Cx) (loc:Loc) (H:Hp) (p:Pt) (s:Shared):Prop where
 hi:HI κ.g κ.B H p s.heap
 ei:EI κ loc p s.heap
structure To (κ:Cx) (p:Pt) (s:Shared) (p':Pt) (s':Shared):Prop where
 eq:∃h tk,s'={s with heap:=h,toks:=tk}
 le:s.toks≤s'.toks
 st:Step κ.B.fr κ.GJ p s.heap p' s'.heap
abbrev RV (κ:Cx) (p:Pt) (u:Value) (v:PV):Prop:=Rv κ.g.w p.P p.ι u v
abbrev ux (κ:Cx) (p:Pt) (u:List Value) (v:List PV):Prop:=aT κ.g.w p.P p.ι u v
section
variable {κ:Cx} {loc:Loc} {H:Hp} {p p' CD:Pt} {s s' AI:Shared} {g:G} {B:Bs} {h h':Heap}
theorem To.refl:To κ p s p s:=⟨⟨_,_,rfl⟩,Nat.le_refl _,.refl⟩
theorem To.trans (x:To κ p s p' s') (y:To κ p' s' CD AI):To κ p s CD AI:=by refine rh x.eq λh1 t1 eq2=>?_;subst eq2;refine rh y.eq λh2 t2 eq2=>?_;subst eq2;exact ⟨⟨_,_,rfl⟩,Nat.le_trans x.le y.le,x.st.trans y.st⟩
theorem To.rv (x:To κ p s p' s') {u:Value} {v:PV} (r:RV κ p u v):RV κ p' u v:=Rv.eS x.st.le.1 x.st.le.2 r
theorem To.AJ (x:To κ p s p' s') {u:List Value} {v:List PV} (r:ux κ p u v):ux κ p' u v:=aT.eS x.st.le.1 x.st.le.2 r
theorem HI.gV (X:HI g B H p h):g.Ok h:=X.ok.keeps X.st
theorem HI.away (Y:HI g B H p h) (le:p.Le p') (fz:aB p'.P h') (M7:p'.ι=p.ι) (kp:∀b o,h.get? b=some o→(Own p b∨(B.h.get? b).isSome=true∨b∈B.fr)→h'.get? b=some o) (nw:∀b o,p'.P b=some o→p.P b=some o∨h.get? b=Option.none):HI g B H p' h':=by
 have ow:∀b,Own p' b↔Own p b:=λb=>by unfold Own;rw[M7]
 have np:∀b o,h.get? b=some o→p.P b=Option.none→p'.P b=Option.none:=λb o e n=>by
  induction q:p'.P b with|none=>rfl|some o'=>
   rcases nw b o' q with z | z
   ·rw[n] at z;exact nS z
   ·exact aE e z
 refine ⟨Y.ok,λb o e=>kp b o (Y.st b o e) (.inr (.inl (by rw[e];rfl))),fz,λk o e=>?_,λk q e=>Y.xf k q (M7▸e),λb q=>?_,λk k' a d a' d' e e'=>Y.inj k k' a d a' d' (M7▸e) (M7▸e'),λL hL=>?_⟩
 ·refine gU (Y.objs k o e) λa d i sh=>?_;exact ⟨a,d,M7▸i,sh.on (λq e=>kp a q e (.inl ⟨k,a,d,i,.inl rfl⟩)) (λq e=>kp d q e (.inl ⟨k,a,d,i,.inr rfl⟩)) le.1 le.2⟩
 ·refine fK (Y.new b ((ow b).mp q)) λh1 h2 ae=>?_;refine bZ ae λo h3=>?_;exact ⟨h1,np b o h3 h2,o,kp b o h3 (.inl ((ow b).mp q))⟩
 ·refine lG (Y.fr L hL) λh1 h2 h3 ae=>?_;refine aG ae λo h4 h5=>?_;exact ⟨h1,np L o h4 h2,λq=>h3 ((ow L).mp q),o,kp L o h4 (.inr (.inr hL)),h5⟩
theorem HI.grow (Y:HI g B H p h) (x:cm p.P h P' h'):HI g B H ⟨p.ι,P'⟩ h':=Y.away ⟨x.le,λz z e=>e⟩ (Y.fz.grow x) rfl (λb o e z=>x.stays b o e) λb o e=>(x.new b o e).imp id (·.1)
theorem uR.on {x:Str} {v:Value} (V:uR env h x v) (k:∀a o,(a=env.locals∨∃y,env.cells.lookup y=some a)→h.get? a=some o→∃sl,h'.get? a=some {o with slots:=sl}):uR env h' x v:=by
 rcases V with ⟨a,m,⟨o,es,ep,e,d,r⟩,e2⟩ | ⟨a,c,l,o,e,d⟩
 ·obtain ⟨sl,e'⟩:=k _ _ (.inl rfl) e;exact .inl ⟨a,m,⟨_,es,ep,e',d,r⟩,e2⟩
 ·obtain ⟨sl,e'⟩:=k _ _ (.inr ⟨x,l⟩) e;exact .inr ⟨a,c,l,_,e',d⟩
theorem EI.there (Z:EI κ loc p h) (q:κ.All a):∃o,h.get? a=some o∧∀vs,o.data≠.fields vs:=by
 rcases q with rfl | ⟨x,q⟩
 ·refine TN Z.ns λm o es ep e d y=>?_;exact ⟨o,e,λvs z=>by rw[d] at z;cases z⟩
 ·refine gU (Z.cells x a q) λv o e d=>?_;exact ⟨o,e,λvs z=>by rw[d] at z;cases z⟩
theorem EI.away (Z:EI κ loc p h) (le:p.Le p') (kp:∀a o,κ.All a→h.get? a=some o→∃sl,h'.get? a=some {o with slots:=sl}) (nP:∀b o,p'.P b=some o→p.P b=some o∨h.get? b=Option.none) (Ua:∀b,Own p' b→Own p b∨h.get? b=Option.none):EI κ loc p' h':=by
 refine ⟨?_,λy c e=>?_,Z.has,λy v e=>?_,λa q=>?_,Z.apart,Z.off⟩
 ·refine PO Z.ns λm o es ep e r=>?_;refine bZ (kp _ _ (.inl rfl) e) λsl e'=>?_;exact ⟨m,_,es,ep,e',r⟩
 ·refine gU (Z.cells y c e) λv o e1 e2=>?_;refine bZ (kp _ _ (.inr ⟨y,e⟩) e1) λsl e'=>?_;exact ⟨v,_,e',e2⟩
 ·refine aG (Z.vars y v e) λu r V=>?_;exact ⟨u,r.eS le.1 le.2,V.on kp⟩
 ·refine fK (Z.lP a q) λh1 h2 h3=>?_;refine aG (Z.there q) λo ho x=>?_;refine ⟨h1,?_,λz=>?_⟩
  ·induction e:p'.P a with|none=>rfl|some o'=>
    rcases nP a o' e with z | z
    ·rw[h2] at z;exact nS z
    ·exact aE ho z
  ·rcases Ua a z with z | z
   ·exact h3 z
   ·exact aE ho z
theorem EI.step {F:List Addr} (Z:EI κ loc p h) (x:Step F No p h p' h'):EI κ loc p' h':=Z.away x.le (λa o q e=>x.slot a o e (Z.lP a q).2.2 id) x.gD x.ie
theorem EI.grow (Z:EI κ loc p h) (x:cm p.P h P' h'):EI κ loc ⟨p.ι,P'⟩ h':=Z.step (F:=[]) (cm.step x)
theorem jk (x y:Str) (v:PV):∀l:Loc,ax y (cM x v l)=if y=x then some v else ax y l
 | []=>by
  show (bif seq x y then some v else Option.none)=if y=x then some v else Option.none
  by_cases h:y=x
  ·subst h;rw[if_pos rfl,aK.mpr rfl];rfl
  ·rw[if_neg h];induction q:seq x y with|true=>exact absurd (aK.mp q).symm h|false=>rfl
 | e::r=>by
  simp only[rt];induction q:seq e.1 x with
  | true=>
   have e1:=aK.mp q;simp only[cond_true,d6]
   by_cases h:y=x
   ·subst h;rw[if_pos rfl,aK.mpr e1];rfl
   ·rw[if_neg h];induction q2:seq e.1 y with|true=>exact absurd ((aK.mp q2).symm.trans e1) h|false=>rfl
  | false=>
   simp only[cond_false,d6,jk x y v r];induction q2:seq e.1 y with
   | true=>
    have e1:=aK.mp q2;have:y≠x:=λh=>by rw[←h,←e1,aK.mpr rfl] at q;exact tF q
    simp only[cond_true,if_neg this]
   | false=>rfl
theorem Inv.xg (I:Inv κ loc H p s) (q:κ.GJ a) (sb:Heap.SameBut a s.heap s'.heap) (hl:∃o,s'.heap.get? a=some o∧∀vs,o.data≠.fields vs) (eq:∃h tk,s'={s with heap:=h,toks:=tk}) (tk:s.toks≤s'.toks) : HI κ.g κ.B H p s'.heap∧To κ p s p s':=by
 refine fK (I.ei.lP a q.all) λh1 h2 h3=>?_;have k:∀b o,b≠a→s.heap.get? b=some o→s'.heap.get? b=some o:=λb o n e=>(sb.2 b n).trans e;have Y:=I.hi;constructor
 ·refine ⟨Y.ok,λb o e=>k b o (λn=>by rw[n,h1] at e;exact nS e) (Y.st b o e),λb o e=>k b o (λn=>by rw[n,h2] at e;exact nS e) (Y.fz b o e),λi o e=>?_,Y.xf,λb z=>?_,Y.inj,λL hL=>?_⟩
  ·refine gU (Y.objs i o e) λa' d i1 sh=>?_;exact ⟨a',d,i1,sh.on (λq=>k a' q λn=>h3 ⟨i,a',d,i1,.inl n.symm⟩) (λq=>k d q λn=>h3 ⟨i,a',d,i1,.inr n.symm⟩) (λy y e=>e) λy y e=>e⟩
  ·refine fK (Y.new b z) λq1 q2 ae=>?_;refine bZ ae λo q3=>?_;exact ⟨q1,q2,o,k b o (λn=>h3 (n▸z)) q3⟩
  ·refine lG (Y.fr L hL) λq1 q2 q3 ae=>?_;refine aG ae λo q4 q5=>?_;by_cases n:L=a
   ·rw[n] at q1 q2 q3 ⊢;exact ⟨q1,q2,q3,hl⟩
   ·exact ⟨q1,q2,q3,o,k L o n q4,q5⟩
 ·exact ⟨eq,tk,λb o e y n y=>k b o (λz=>n (z▸q)) e,λb o e y n=>⟨o.slots,k b o (λz=>n (z▸q)) e⟩,λb o e=>by
   by_cases n:b=a
   ·rw[n];refine aG hl λo' h' y=>?_;exact ⟨o',h'⟩
   ·exact ⟨o,k b o n e⟩,.refl,λy y e=>.inl e,λy e=>.inl e⟩
theorem bO {Q:Unit→Shared→Prop} {x:Str} {u:Value} {v:PV} (hk:κ.env.scope.kind=.function) (hx:κ.env.kindOf x=some .local∨(κ.env.kindOf x=some .cell∧κ.W x=true)) (I:Inv κ loc H p s) (r:RV κ p u v) (h:∀s',Inv κ (cM x v loc) H p s'→To κ p s p s'→Q () s'):wpAny κ.M A (storeName κ.env x u) Q E s:=by
 rcases hx with hx | ⟨hx,hw⟩
 ·refine bZ I.ei.ns λm hn=>?_;refine wpAny_storeName_local hx hn (λh' IK AL=>?_) (by rw[hk];rfl);have hl:∃o,h'.get? κ.env.locals=some o∧∀vs,o.data≠.fields vs:=by refine PN IK λo t t e d t=>?_;exact ⟨o,e,λvs z=>by rw[d] at z;cases z⟩
  have kc:∀y c v',κ.env.cells.lookup y=some c→s.heap.IsCell c v'→h'.IsCell c v':=λy c v' e z=>z.sameBut AL (I.ei.off y c e)
  refine aj (I.xg (s':={s with heap:=h',toks:=s.toks+1}) (.inl rfl) AL hl ⟨_,_,rfl⟩ (Nat.le_succ _)) λY' T=>?_
  refine h _ ⟨Y',⟨⟨_,IK⟩,λy c e=>?_,I.ei.has,λy w e=>?_,I.ei.lP,I.ei.apart,I.ei.off⟩⟩ T
  ·refine bZ (I.ei.cells y c e) λv' z=>?_;exact ⟨v',kc y c v' e z⟩
  ·rw[jk] at e;by_cases q:y=x
   ·subst q;rw[if_pos rfl] at e;obtain rfl:=Option.some.inj e;exact ⟨u,r,.inl ⟨hx,_,IK,by simp⟩⟩
   ·rw[if_neg q] at e;refine aG (I.ei.vars y w e) λu' r' V=>?_;refine ⟨u',r',?_⟩;rcases V with ⟨a,m',n',e2⟩ | ⟨a,c,l,z⟩
    ·refine .inl ⟨a,_,IK,?_⟩;rw[if_neg q];rw[←hn.agree n' y] at e2;exact e2
    ·exact .inr ⟨a,c,l,kc y c _ l z⟩
 ·refine bZ (I.ei.has x hx) λc hc=>?_;refine bZ (I.ei.cells x c hc) λuS hv=>?_;refine wpAny_storeName_cell hk hx hc hv λh' y6 AL=>?_;have hl:∃o,h'.get? c=some o∧∀vs,o.data≠.fields vs:=by refine aG y6 λo e d=>?_;exact ⟨o,e,λvs z=>by rw[d] at z;cases z⟩
  have xh:κ.env.locals≠c:=λq=>I.ei.off x c hc q.symm
  refine aj (I.xg (s':={s with heap:=h'}) (.inr ⟨x,hw,hc⟩) AL hl ⟨_,_,rfl⟩ (Nat.le_refl _)) λY' T=>?_
  refine h _ ⟨Y',⟨?_,λy c2 e=>?_,I.ei.has,λy w e=>?_,I.ei.lP,I.ei.apart,I.ei.off⟩⟩ T
  ·refine bZ I.ei.ns λm hn=>?_;exact ⟨m,hn.sameBut AL xh⟩
  ·by_cases q:c2=c
   ·subst q;exact ⟨_,y6⟩
   ·refine bZ (I.ei.cells y c2 e) λv' z=>?_;exact ⟨v',z.sameBut AL q⟩
  ·rw[jk] at e;by_cases q:y=x
   ·subst q;rw[if_pos rfl] at e;obtain rfl:=Option.some.inj e;exact ⟨u,r,.inr ⟨.inl hx,c,hc,y6⟩⟩
   ·rw[if_neg q] at e;refine aG (I.ei.vars y w e) λu' r' V=>?_;refine ⟨u',r',?_⟩;rcases V with ⟨a,m',n',e2⟩ | ⟨a,c2,l,z⟩
    ·exact .inl ⟨a,m',n'.sameBut AL xh,e2⟩
    ·exact .inr ⟨a,c2,l,z.sameBut AL λq2=>q (I.ei.apart y x c (q2▸l) hc)⟩
theorem Pu.to {t:Sem Value} {v:PV} (I:Inv κ loc H p s) (x:Pu κ.g A p.ι p.P s t v) (h:∀p' s' u,Inv κ loc H p' s'→To κ p s p' s'→RV κ p' u v→Q u s'):wpAny κ.M A t Q E s:=x Q E λu h' tk P' gr ht r=>h ⟨p.ι,P'⟩ _ u ⟨I.hi.grow gr,I.ei.grow gr⟩ ⟨⟨_,_,rfl⟩,ht,cm.step gr⟩ r
theorem qA.to {t:Sem Bool} {v:Bool} {Q:Bool→Shared→Prop} (I:Inv κ loc H p s) (x:qA κ.g A p.P s t v) (h:∀p' s',Inv κ loc H p' s'→To κ p s p' s'→Q v s'):wpAny κ.M A t Q E s:=x Q E λh' tk P' gr ht=>h ⟨p.ι,P'⟩ _ ⟨I.hi.grow gr,I.ei.grow gr⟩ ⟨⟨_,_,rfl⟩,ht,cm.step gr⟩
theorem Inv.toks (I:Inv κ loc H p s) {tk:Nat} (ht:s.toks≤tk):Inv κ loc H p {s with toks:=tk}∧To κ p s p {s with toks:=tk}:=⟨⟨I.hi,I.ei⟩,⟨⟨_,_,rfl⟩,ht,.refl⟩⟩
theorem Inv.keep (I:Inv κ loc H p s) {tk:Nat} (x:s.heap.StaysIn h') (ht:s.toks≤tk):Inv κ loc H p {s with heap:=h',toks:=tk}∧To κ p s p {s with heap:=h',toks:=tk}:=⟨⟨I.hi.grow (.keep x),I.ei.grow (.keep x)⟩,⟨⟨_,_,rfl⟩,ht,cm.step (p:=p) (.keep x)⟩⟩
end
open Sem (wp)
theorem cN:Slot "collections.deque" "__len__" "collections.deque.__len__":=.of (owner:="collections.deque") (n:="__len__") (by rw[typeLookup_type,builtinLookup_eq_fast];kernel_rfl) (by decide +kernel) (by decide +kernel) (by decide +kernel) (by first | exact .inl (by decide +kernel) | exact .inr (by decide +kernel)) (by rw[isSubtype_type];kernel_rfl)
theorem jK:entryFor table "collections.deque.__len__"=some Builtin.«collections.deque.__len__»:=entryFor_of_tree (by kernel_rfl)
theorem kI (a:Value):argsOk "collections.deque.__len__" ⟨[a],[]⟩:=by unfold argsOk;kernel_rfl
theorem oV:typeLookup (.type "collections.deque") "__bool__"=pure none:=by rw[typeLookup_type,builtinLookup_eq_fast];kernel_rfl
theorem ij:Slot "collections.deque" "append" "collections.deque.append":=.of (owner:="collections.deque") (n:="append") (by rw[typeLookup_type,builtinLookup_eq_fast];kernel_rfl) (by decide +kernel) (by decide +kernel) (by decide +kernel) (by first | exact .inl (by decide +kernel) | exact .inr (by decide +kernel)) (by rw[isSubtype_type];kernel_rfl)
theorem lQ:entryFor table "collections.deque.append"=some Builtin.«collections.deque.append»:=entryFor_of_tree (by kernel_rfl)
theorem nC (a b:Value):argsOk "collections.deque.append" ⟨[a,b],[]⟩:=by unfold argsOk;kernel_rfl
theorem eT:Slot "collections.deque" "appendleft" "collections.deque.appendleft":=.of (owner:="collections.deque") (n:="appendleft") (by rw[typeLookup_type,builtinLookup_eq_fast];kernel_rfl) (by decide +kernel) (by decide +kernel) (by decide +kernel) (by first | exact .inl (by decide +kernel) | exact .inr (by decide +kernel)) (by rw[isSubtype_type];kernel_rfl)
theorem iX:entryFor table "collections.deque.appendleft"=some Builtin.«collections.deque.appendleft»:=entryFor_of_tree (by kernel_rfl)
theorem jC (a b:Value):argsOk "collections.deque.appendleft" ⟨[a,b],[]⟩:=by unfold argsOk;kernel_rfl
theorem kJ:Slot "collections.deque" "pop" "collections.deque.pop":=.of (owner:="collections.deque") (n:="pop") (by rw[typeLookup_type,builtinLookup_eq_fast];kernel_rfl) (by decide +kernel) (by decide +kernel) (by decide +kernel) (by first | exact .inl (by decide +kernel) | exact .inr (by decide +kernel)) (by rw[isSubtype_type];kernel_rfl)
theorem qJ:entryFor table "collections.deque.pop"=some Builtin.«collections.deque.pop»:=entryFor_of_tree (by kernel_rfl)
theorem sT (a:Value):argsOk "collections.deque.pop" ⟨[a],[]⟩:=by unfold argsOk;kernel_rfl
theorem gE:Slot "collections.deque" "popleft" "collections.deque.popleft":=.of (owner:="collections.deque") (n:="popleft") (by rw[typeLookup_type,builtinLookup_eq_fast];kernel_rfl) (by decide +kernel) (by decide +kernel) (by decide +kernel) (by first | exact .inl (by decide +kernel) | exact .inr (by decide +kernel)) (by rw[isSubtype_type];kernel_rfl)
theorem kK:entryFor table "collections.deque.popleft"=some Builtin.«collections.deque.popleft»:=entryFor_of_tree (by kernel_rfl)
theorem lR (a:Value):argsOk "collections.deque.popleft" ⟨[a],[]⟩:=by unfold argsOk;kernel_rfl
theorem oW:PlainAttrs "collections.deque":=⟨⟨"collections.deque.__getattribute__",by rw[typeLookup_type,builtinLookup_eq_fast];kernel_rfl,by decide +kernel⟩,by rw[typeLookup_type,builtinLookup_eq_fast];kernel_rfl⟩
theorem nH:typeOf (.builtin "collections.deque.append")=pure (.type "method_descriptor"):=by show builtinType _=_;rw[builtinType_eq_fast];kernel_rfl
theorem jD:typeOf (.builtin "collections.deque.appendleft")=pure (.type "method_descriptor"):=by show builtinType _=_;rw[builtinType_eq_fast];kernel_rfl
theorem sU:typeOf (.builtin "collections.deque.pop")=pure (.type "method_descriptor"):=by show builtinType _=_;rw[builtinType_eq_fast];kernel_rfl
theorem lS:typeOf (.builtin "collections.deque.popleft")=pure (.type "method_descriptor"):=by show builtinType _=_;rw[builtinType_eq_fast];kernel_rfl
section
variable {prog:Program} {w:World} {A:Around} {E:Value→Shared→Prop} {s:Shared}
theorem cO {n:Int} (ho:s.heap.get? d=some (aR n vs)):s.TypeIs (.ref d) "collections.deque":=⟨_,ho,rfl⟩
theorem bQ (n:Int) (vs:List Value):(aR n vs).data=.fields (#[.none,.int n 0]++vs.toArray):=rfl
theorem lT {n:Int} {Q:Bool→Shared→Prop} (ho:s.heap.get? d=some (aR n vs)) (J6:(vs.length:Int)<2 ^ 63) (h:Q (!vs.isEmpty) {s with toks:=s.toks+1+1}):wpAny (model prog w) A (truthy (.ref d)) Q E s:=by
 have hT:=cO ho;have xh:((vs.length:Int) != 0)=!vs.isEmpty:=by induction vs using List.casesOn with|nil=>rfl|cons a r=>simp only[List.length_cons,List.isEmpty_cons,Bool.not_false,bne_iff_ne];lia
 have key:wpAny (model prog w) A (runValue (.builtin "len" ⟨[.ref d],[]⟩)) (λr s'=>r=.int vs.length (s.toks+1)∧Q (!vs.isEmpty) s') E s:=by
  refine wpAny_runValue (codeAny_builtin entry_len ?_);rw[Around.under_plainId plain_len _];refine wpAny_mono (Q:=λfin s'=>∃r,fin=.done (.ret r)∧(r=.int vs.length (s.toks+1)∧Q (!vs.isEmpty) s')) ?_ (λfin s' h'=>by refine aG h' λr eq1 hq=>?_;subst eq1;exact hq) λz z e=>e;unfold Builtin.«len»;refine wpAny_bind (m:=oneArg "len" _) (wpAny_pure ?_);refine wpAny_bind (m:=callSpecial? (.ref d) (Str.ofString "__len__")) (wpAny_callSpecial?_slot (name:=Str.ofString "__len__") hT cN (wpAny_call_entry cN hT jK ?_ (kI _)));show wpAny _ _ (do retInt (←Builtin.Deque.size (.ref d))) _ _ s;unfold Builtin.Deque.size;refine wpAny_bind (wpAny_bind (wpAny_fieldsOf ho (bQ n vs) ?_));refine wpAny_pure ?_;have e:(#[Value.none,.int n 0]++vs.toArray).size - 2=vs.length:=by simp
  rw[e];refine wpAny_bind (wpAny_mkInt (wpAny_pure ⟨_,rfl,?_⟩));refine wpAny_bind (wpAny_holding (wpAny_pure ?_));refine wpAny_bind (wpAny_letGo ?_);show wpAny _ _ (if ((vs.length:Nat):Int)<0 then _ else _) _ _ _;rw[if_neg (by lia)];show wpAny _ _ (if ((vs.length:Nat):Int)≥2 ^ 63 then _ else _) _ _ _;rw[if_neg (by lia)];exact wpAny_bind (wpAny_mkInt (wpAny_pure ⟨_,rfl,rfl,h⟩))
 unfold truthy
 first
  | refine wpAny_bind (wpAny_callSpecial?_none (name:=Str.ofString "__bool__") hT oV ?_)
  | refine wpAny_bind (wpAny_pure (wpAny_bind (wpAny_callSpecial?_none (name:=Str.ofString "__bool__") hT oV ?_)))
 first
  | refine wpAny_bind (wpAny_specialOf (name:=Str.ofString "__len__") hT cN.lookup ?_)
  | refine wpAny_bind (wpAny_pure (wpAny_bind (wpAny_specialOf (name:=Str.ofString "__len__") hT cN.lookup ?_)))
 first
  | exact wpAny_bind (wpAny_mono key (λr s' h'=>by refine aj h' λCE hq=>?_;subst CE;exact wpAny_pure (xh▸hq)) λz z e=>e)
  | exact wpAny_bind (wpAny_pure (wpAny_bind (wpAny_mono key (λr s' h'=>by obtain ⟨rfl,hq⟩:=h';exact wpAny_pure (xh▸hq)) λz z e=>e)))
theorem xi {n:Int} {vs':List Value} {n':Int} (ho:h.get? d=some (aR n vs)) (f:Array Value→Array Value) (e:f (#[.none,.int n 0]++vs.toArray)=#[.none,.int n' 0]++vs'.toArray) : (h.update d (Obj.mapFields f)).get? d=some (aR n' vs'):=by rw[Heap.get?_update_self _ ho (by show _=_;rfl)];show some (({cls:=.type "collections.deque",data:=.fields (f (#[.none,.int n 0]++vs.toArray))}:Obj))=_;rw[e];rfl
theorem de {n:Int} {vs':List Value} {f:Array Value→Array Value} {Q:Unit→Shared→Prop} (ho:s.heap.get? d=some (aR n vs)) (e:f vs.toArray=vs'.toArray) (hz:vs'.length≤sizeLine) (h:∀h',h'.get? d=some (aR (n+1) vs')→Heap.SameBut d s.heap h'→Q () {s with heap:=h'}):wpAny (model prog w) A (Builtin.Deque.change (.ref d) f) Q E s:=by
 unfold Builtin.Deque.change Builtin.Deque.state;refine wpAny_bind (wpAny_bind (wpAny_field ho (bQ n vs) (i:=1) (x:=.int n 0) (by simp) (wpAny_pure ?_)));have e2:(#[(#[Value.none,.int n 0]++vs.toArray).getD 0 .none,rawInt (if true=true then n+1 else n)]++f ((#[Value.none,.int n 0]++vs.toArray).extract 2 (#[Value.none,.int n 0]++vs.toArray).size))=#[Value.none,.int (n+1) 0]++vs'.toArray:=by
  have hd:(#[Value.none,.int n 0]++vs.toArray).getD 0 .none=.none:=by simp
  have:(#[Value.none,.int n 0]++vs.toArray).extract 2 (#[Value.none,.int n 0]++vs.toArray).size=vs.toArray:=by apply Array.ext';simp
  rw[this,e,hd];rfl
 refine wpAny_updateFields ho (bQ n vs) (h _ ?_ (Heap.SameBut.update _ _ _)) ?_
 ·exact xi ho _ e2
 ·refine Nat.le_trans (Nat.le_of_eq (congrArg Array.size e2)) ?_;simp;lia
theorem jl {n:Int} {Q:Array Value→Shared→Prop} (ho:s.heap.get? d=some (aR n vs)) (h:Q vs.toArray s):wpAny (model prog w) A (Builtin.Deque.items (.ref d)) Q E s:=by
 unfold Builtin.Deque.items;refine wpAny_bind (wpAny_fieldsOf ho (bQ n vs) (wpAny_pure ?_));have:(#[Value.none,.int n 0]++vs.toArray).extract 2 (#[Value.none,.int n 0]++vs.toArray).size=vs.toArray:=by apply Array.ext';simp
 rw[this];exact h
theorem oX {n:Int} {Q:Option Nat→Shared→Prop} (ho:s.heap.get? d=some (aR n vs)) (h:Q Option.none s):wpAny (model prog w) A (Builtin.Deque.maxlen (.ref d)) Q E s:=by unfold Builtin.Deque.maxlen;exact wpAny_bind (wpAny_field ho (bQ n vs) (i:=0) (x:=.none) (by simp) (wpAny_pure h))
theorem xj {n:Int} {v:Value} (ho:s.heap.get? d=some (aR n vs)) (hz:vs.length+1≤sizeLine) (h:∀h',h'.get? d=some (aR (n+1) (vs++[v]))→Heap.SameBut d s.heap h'→Q .none {s with heap:=h'}):wpAny (model prog w) A (call (.builtin "collections.deque.append") [.ref d,v]) Q E s:=by refine wpAny_call_entry ij (cO ho) lQ ?_ (nC _ _);unfold Builtin.«collections.deque.append»;refine wpAny_bind (m:=selfAndOne "deque.append" _) (wpAny_pure ?_);unfold Builtin.Deque.pushRight;refine wpAny_bind (wpAny_bind (de ho (vs':=vs++[v]) (by simp) (by simpa using hz) λh' e x=>?_));exact wpAny_bind (oX (s:={s with heap:=h'}) e (wpAny_pure (wpAny_pure ⟨_,rfl,h h' e x⟩)))
theorem oY {n:Int} {v:Value} (ho:s.heap.get? d=some (aR n vs)) (hz:vs.length+1≤sizeLine) (h:∀h',h'.get? d=some (aR (n+1) (v::vs))→Heap.SameBut d s.heap h'→Q .none {s with heap:=h'}):wpAny (model prog w) A (call (.builtin "collections.deque.appendleft") [.ref d,v]) Q E s:=by refine wpAny_call_entry eT (cO ho) iX ?_ (jC _ _);unfold Builtin.«collections.deque.appendleft»;refine wpAny_bind (m:=selfAndOne "deque.appendleft" _) (wpAny_pure ?_);unfold Builtin.Deque.pushLeft;refine wpAny_bind (wpAny_bind (de ho (vs':=v::vs) (by simp) (by simpa using hz) λh' e x=>?_));exact wpAny_bind (oX (s:={s with heap:=h'}) e (wpAny_pure (wpAny_pure ⟨_,rfl,h h' e x⟩)))
theorem GK {n:Int} {v:Value} (ho:s.heap.get? d=some (aR n (vs++[v]))) (hz:vs.length≤sizeLine) (h:∀h',h'.get? d=some (aR (n+1) vs)→Heap.SameBut d s.heap h'→Q v {s with heap:=h'}):wpAny (model prog w) A (call (.builtin "collections.deque.pop") [.ref d]) Q E s:=by
 refine wpAny_call_entry kJ (cO ho) qJ ?_ (sT _);unfold Builtin.«collections.deque.pop»;refine wpAny_bind (m:=selfOnly "deque.pop" _) (wpAny_pure ?_);refine wpAny_bind (jl ho ?_);have e:(vs++[v]).toArray.back?=some v:=by simp
 rw[e];refine wpAny_bind (de ho (vs':=vs) (by simp) hz λh' e x=>?_);exact wpAny_pure ⟨_,rfl,h h' e x⟩
theorem uT {n:Int} {v:Value} (ho:s.heap.get? d=some (aR n (v::vs))) (hz:vs.length≤sizeLine) (h:∀h',h'.get? d=some (aR (n+1) vs)→Heap.SameBut d s.heap h'→Q v {s with heap:=h'}):wpAny (model prog w) A (call (.builtin "collections.deque.popleft") [.ref d]) Q E s:=by
 refine wpAny_call_entry gE (cO ho) kK ?_ (lR _);unfold Builtin.«collections.deque.popleft»;refine wpAny_bind (m:=selfOnly "deque.popleft" _) (wpAny_pure ?_);refine wpAny_bind (jl ho ?_);have e:(v::vs).toArray[0]?=some v:=by simp
 rw[e];refine wpAny_bind (de ho (vs':=vs) (by simp) hz λh' e x=>?_);exact wpAny_pure ⟨_,rfl,h h' e x⟩
end
theorem d8 (k j:Nat) (o:AO):∀H:Hp,aO j (bG k o H)=if j=k then (aO k H).map (λy=>o) else aO j H
 | []=>by simp[bG,aO]
 | e::r=>by
  have ih:=d8 k j o r;simp only[rA];induction q:Nat.beq e.1 k with
  | true=>
   have q1:=Nat.eq_of_beq_eq_true q;simp only[cond_true,jj]
   by_cases z:j=k
   ·subst z;rw[if_pos rfl,q];rfl
   ·rw[if_neg z];have:Nat.beq e.1 j=false:=by induction q2:Nat.beq e.1 j with|true=>exact absurd ((Nat.eq_of_beq_eq_true q2).symm.trans q1) z|false=>rfl
    rw[this];rfl
  | false=>
   simp only[cond_false,jj,ih,q];induction q2:Nat.beq e.1 j with
   | true=>
    have q3:=Nat.eq_of_beq_eq_true q2;have:j≠k:=λz=>by rw[←z,←q3] at q;rw[Nat.beq_refl] at q;exact tF q
    simp only[cond_true,if_neg this]
   | false=>simp only[cond_false]
theorem iY (k:Nat) (o:AO):∀H:Hp,(bG k o H).length=H.length|[]=>rfl|e::r=>by simp only[rA];induction Nat.beq e.1 k <;> simp[iY k o r]
theorem eB (k j:Nat) (o:AO):∀H:Hp,aO j (H++[(k,o)])=match aO j H with | some x=>some x | Option.none=>if j=k then some o else Option.none
 | []=>by
  simp only[List.nil_append,jj]
  by_cases z:j=k
  ·subst z;rw[if_pos rfl,Nat.beq_refl];rfl
  ·rw[if_neg z];have:Nat.beq k j=false:=by induction q2:Nat.beq k j with|true=>exact absurd (Nat.eq_of_beq_eq_true q2).symm z|false=>rfl
   rw[this];rfl
 | e::r=>by simp only[List.cons_append,jj];induction Nat.beq e.1 j with|true=>rfl|false=>exact eB k j o r
noncomputable def c7 (ι:bq) (k:Nat) (q:Addr×Addr):bq:=λj=>if j=k then some q else ι j
section
variable {κ:Cx} {loc:Loc} {H:Hp} {p:Pt} {s:Shared} {g:G} {B:Bs} {h h':Heap}
theorem HI.put (Y:HI g B H p h) {k:Nat} {o:AO} (hk:p.ι k=some (a,d)) (sb:∀b q,b≠a→b≠d→h.get? b=some q→h'.get? b=some q) (la:∃q,h'.get? a=some q) (ld:∃q,h'.get? d=some q) (ho:Shape g.w p.P p.ι h' a d o):HI g B (bG k o H) p h'∧Step [] No p h p h':=by
 have own:∀b,(b=a∨b=d)→Own p b:=λb q=>⟨k,a,d,hk,q⟩;have off:∀b q,¬ Own p b→h.get? b=some q→h'.get? b=some q:=λb q n e=>sb b q (λz=>n (own b (.inl z))) (λz=>n (own b (.inr z))) e;have lv:∀b q,h.get? b=some q→∃q',h'.get? b=some q':=λb q e=>by
  by_cases z:b=a
  ·subst z;exact la
  ·by_cases z2:b=d
   ·subst z2;exact ld
   ·exact ⟨q,sb b q z z2 e⟩
 refine ⟨⟨Y.ok,λb q e=>off b q (λz=>aE e (Y.new b z).1) (Y.st b q e),λb q e=>off b q (λz=>by have:=(Y.new b z).2.1;rw[e] at this;exact sN this) (Y.fz b q e),λj q e=>?_,λj p e=>by rw[iY];exact Y.xf j p e,λb q=>?_,Y.inj,λL hL=>?_⟩,λb q e n y y=>off b q n e,λb q e n y=>⟨q.slots,off b q n e⟩,lv,.refl,λy y e=>.inl e,λy e=>.inl e⟩
 ·rw[d8] at e;by_cases z:j=k
  ·subst z;rw[if_pos rfl] at e;refine mR e λy y=>?_;exact ⟨a,d,hk,ho⟩
  ·rw[if_neg z] at e;refine gU (Y.objs j q e) λa' d' hi sh=>?_;refine lG (Y.inj k j a d a' d' hk hi (Ne.symm z)) λi1 i2 i3 i4=>?_;exact ⟨a',d',hi,sh.on (λq=>sb _ q (Ne.symm i1) (Ne.symm i3)) (λq=>sb _ q (Ne.symm i2) (Ne.symm i4)) (λy y e=>e) λy y e=>e⟩
 ·refine fK (Y.new b q) λq1 q2 ae=>?_;refine bZ ae λo' q3=>?_;exact ⟨q1,q2,lv b o' q3⟩
 ·refine lG (Y.fr L hL) λq1 q2 q3 ae=>?_;refine aG ae λo' q4 q5=>?_;exact ⟨q1,q2,q3,o',off L o' q3 q4,q5⟩
theorem Inv.AM {H':Hp} (I:Inv κ loc H p s) (Y:HI κ.g κ.B H' p' s'.heap) (st:Step κ.B.fr No p s.heap p' s'.heap) (eq:∃h tk,s'={s with heap:=h,toks:=tk}) (tk:s.toks≤s'.toks):Inv κ loc H' p' s'∧To κ p s p' s':=⟨⟨Y,I.ei.step st⟩,⟨eq,tk,st.no⟩⟩
theorem Step.fr {F:List Addr} {X:Addr→Prop} (x:Step [] X p h p' h'):Step F X p h p' h':=x.wk (λz z z q=>q) λz z z q=>nomatch q
theorem HI.alloc (Y:HI g B H p h) {o:AO} (kp:∀b q,h.get? b=some q→h'.get? b=some q) (na:h.get? a=Option.none) (nd:h.get? d=Option.none) (la:∃q,h'.get? a=some q) (ld:∃q,h'.get? d=some q) (ho:Shape g.w p.P (c7 p.ι H.length (a,d)) h' a d o):HI g B (H++[(H.length,o)]) ⟨c7 p.ι H.length (a,d),p.P⟩ h'∧Step [] No p h ⟨c7 p.ι H.length (a,d),p.P⟩ h':=by
 have le:∀k q,p.ι k=some q→c7 p.ι H.length (a,d) k=some q:=λk q e=>by unfold c7;rw[if_neg (λz=>Nat.lt_irrefl _ (z▸Y.xf k q e))];exact e
 have nw:∀b,Own ⟨c7 p.ι H.length (a,d),p.P⟩ b→Own p b∨(b=a∨b=d):=λb ⟨k,a',d',e,q⟩=>by
  dsimp only[c7] at e
  split at e
  ·refine aj (Prod.mk.inj (Option.some.inj e)) λae bX=>?_;subst ae;subst bX;exact .inr q
  ·exact .inl ⟨k,a',d',e,q⟩
 have O9:∀b,(b=a∨b=d)→h.get? b=Option.none:=λb q=>by rcases q with rfl | rfl <;> assumption
 refine ⟨⟨Y.ok,λb q e=>kp b q (Y.st b q e),λb q e=>kp b q (Y.fz b q e),λj q e=>?_,λj p e=>?_,λb q=>?_,?_,λL hL=>?_⟩,λb q e v v v=>kp b q e,λb q e v v=>⟨q.slots,kp b q e⟩,λb q e=>⟨q,kp b q e⟩,⟨λv v e=>e,le⟩,λv v e=>.inl e,λb e=>(nw b e).imp id (O9 b)⟩
 ·rw[eB] at e;induction q1:aO j H with
  | some x=>rw[q1] at e;cases e;refine gU (Y.objs j q q1) λa' d' i sh=>?_;exact ⟨a',d',le _ _ i,sh.on (λq=>kp _ q) (λq=>kp _ q) (λv v e=>e) le⟩
  | none=>
   rw[q1] at e;dsimp only at e
   split at e
   ·rename_i z;subst z;refine au e ?_;exact ⟨a,d,by dsimp only[c7];rw[if_pos rfl],ho⟩
   ·exact nS e
 ·rw[List.length_append];dsimp only[c7] at e;split at e
  ·rename_i z;subst z;exact Nat.lt_succ_self _
  ·exact Nat.lt_succ_of_lt (Y.xf j p e)
 ·rcases nw b q with q | q
  ·refine fK (Y.new b q) λq1 q2 ae=>?_;refine bZ ae λo' q3=>?_;exact ⟨q1,q2,o',kp b o' q3⟩
  ·refine ⟨aw Y.st (O9 b q),rB Y.fz (O9 b q),?_⟩;rcases q with rfl | rfl <;> assumption
 ·intro k k' a1 d1 a2 d2 e1 e2 ne;have old:∀j p' q,p.ι j=some (p',q)→(∃o',h.get? p'=some o')∧∃o',h.get? q=some o':=λj p' q e=>⟨(Y.new p' ⟨j,p',q,e,.inl rfl⟩).2.2,(Y.new q ⟨j,p',q,e,.inr rfl⟩).2.2⟩;have ne':∀{b c:Addr},(∃o',h.get? b=some o')→h.get? c=Option.none→b≠c:=λ⟨o',e⟩ n z=>by rw[z,n] at e;exact nS e
  dsimp only[c7] at e1 e2
  split at e1
  ·rename_i z1;refine aj (Prod.mk.inj (Option.some.inj e1)) λae bX=>?_;subst ae;subst bX;split at e2
   ·rename_i z2;exact absurd (z1.trans z2.symm) ne
   ·refine aj (old _ _ _ e2) λx y=>?_;exact ⟨(ne' x na).symm,(ne' y na).symm,(ne' x nd).symm,(ne' y nd).symm⟩
  ·split at e2
   ·refine aj (Prod.mk.inj (Option.some.inj e2)) λae bX=>?_;subst ae;subst bX;refine aj (old _ _ _ e1) λx y=>?_;exact ⟨ne' x na,ne' x nd,ne' y na,ne' y nd⟩
   ·exact Y.inj _ _ _ _ _ _ e1 e2 ne
 ·refine lG (Y.fr L hL) λq1 q2 q3 ae=>?_;refine aG ae λo' q4 q5=>?_;exact ⟨q1,q2,λz=>(nw L z).elim q3 λz=>aE q4 (O9 L z),o',kp L o' q4,q5⟩
theorem rC {k:Value} {f a:Str} (h:∃t,k=.str f t):k.isStr a=seq f a:=by obtain ⟨t,rfl⟩:=h;show (f==a)=_;induction q:seq f a with|true=>rw[aK.mp q];exact beq_self_eq_true _|false=>rw[beq_eq_false_iff_ne];intro q2;rw[aK.mpr q2] at q;exact tF q
theorem dY.put {w:World} {P:Fz} {ι:bq} {a:Str} {v:Value} {pv:PV} {tk:Tok} (r:Rv w P ι v pv) {es:List DictEntry} {fs:List (Str×PV)} (h:dY w P ι es fs) : dY w P ι (putL a (PyData.keyHash w.params a) (.str a tk) v es) (cM a pv fs):=by induction h with|nil=>exact .cons ⟨⟨tk,rfl⟩,rfl,r⟩ .nil|@cons e es f fs h rest ih=>simp only[putL,rt,rC h.1];induction q:seq f.1 a with|true=>exact .cons ⟨h.1,h.2.1,r⟩ rest|false=>exact .cons h ih
theorem dY.length {w:World} {P:Fz} {ι:bq} {es:List DictEntry} {fs:List (Str×PV)} (h:dY w P ι es fs):es.length=fs.length:=by induction h with|nil=>rfl|cons _ _ ih=>rw[List.length_cons,List.length_cons,ih]
theorem dY.look {w:World} {P:Fz} {ι:bq} (a:Str) {es:List DictEntry} {fs:List (Str×PV)} (h:dY w P ι es fs) : (∀x,ax a fs=some x→∃v,getL a es=some (some v)∧Rv w P ι v x)∧(ax a fs=Option.none→getL a es=some Option.none):=by
 induction h with|nil=>exact ⟨λy h=>(nomatch h),λy=>rfl⟩|@cons e es f fs h rest ih=>
  have hr:e.refKey=false:=by refine bZ h.1 λt hk=>?_;unfold DictEntry.refKey;rw[hk]
  simp only[d6];unfold getL;rw[List.find?_cons,rC h.1];induction q:seq f.1 a with|true=>exact ⟨λx z=>(by obtain rfl:=Option.some.inj z;exact ⟨_,rfl,h.2.2⟩),λz=>by exact sN z⟩|false=>simp only[cond_false,List.any_cons,hr,Bool.false_or];exact ih
structure y7 (g:G) (C:Addr) (a:Str):Prop where
 over:findIn g.K (.ref C) "__setattr__"=some (some (.builtin "object.__setattr__"))
 plain:plainOver g.K C=true
 M8:takerIn g.K C a=some Option.none
 has:hasDictIn g.K C=true
set_option tactic.hygienic true in
theorem GL {prog:Program} {w:World} {A:Around} {x dx:Addr} {ox:Obj} {tk:Tok} {v:Value} {es oi:List DictEntry} (X:K.In s.heap) (I:InstAt s.heap x ox C (some (dictOf es n))) (hd:ox.dict=some dx) (D:s.heap.get? dx=some (dictOf es n)) (hp:plainOver K C=true) (ht:takerIn K C name=some Option.none) (hh:hasDictIn K C=true) (hl:(getL name es).isSome=true) (e:putL name (PyData.keyHash w.params name) (.str name s.toks) v es=oi) (hz:oi.length≤1000) (hQ:∀h',h'.get? dx=some (dictOf oi (putN name es n))→Heap.SameBut dx s.heap h'→R (.ok (.ret .none)) {s with heap:=h',toks:=s.toks+1}) : codeAny (model prog w) A (.call (.builtin "object.__setattr__") ⟨[.ref x,.str name tk,v],[]⟩) R s:=by
 refine osa_open X I hp ht λb=>?_;refine aG (any_some hh) λcd hc B8=>?_;have e2:Obj.putName name (PyData.keyHash w.params name) (.str name s.toks) v (dictOf es n)=dictOf oi (putN name es n):=by rw[putName_dict,e]
 have D':(s.heap.update dx (Obj.putName name (PyData.keyHash w.params name) (.str name s.toks) v)).get? dx=some (dictOf oi (putN name es n)):=by have:=Heap.get?_update_self (Obj.putName name (PyData.keyHash w.params name) (.str name s.toks) v) D (by rw[e2];rfl);rw[this,e2]
 obtain ⟨hx,Mr,hn,-⟩:=I;obtain ⟨oc,Vw,Vx,Qb⟩:=ox;dsimp only at Mr hd;subst Mr hd;refine wpAny_bind (wpAny_pure (wpAny_bind (wpAny_bind (wpAny_loadPart hx (wpAny_bind ((looks_clsIn X hc).here ?_))))));rw[B8];refine wpAny_pure (a:=some dx) (wpAny_bind (wpAny_pure (wpAny_bind ?_)));unfold nsSet;refine wpAny_bind (wpAny_bind (wpAny_askSetting (wpAny_pure (wpAny_bind (wpAny_mkText (wpAny_bind (wpAny_loadPart D ?_)))))));dsimp only[dictOf];have c:(!es.toArray.any (·.key.isStr name)&&es.toArray.any (·.refKey))=false:=by
  rw[←Array.any_toList,←Array.any_toList];unfold getL at hl
  split at hl
  ·rename_i en he;rw[List.any_eq_true.mpr ⟨en,List.mem_of_find?_eq_some he,List.find?_some he⟩];rfl
  ·split at hl
   ·exact fT hl
   ·rename_i z;rw[Bool.not_eq_true] at z;simp only[z,Bool.and_false]
 rw[aRefKeyMayBeTheName_at,c];refine wpAny_updatePart D ?_;refine wpAny_bind (wpAny_lookBehind D' (by exact pastItsLine_dict (by rw[List.size_toArray,sizeLine_eq];lia)) ?_);exact wpAny_pure (hQ _ D' (Heap.SameBut.update _ _ _))
theorem jm {es:List DictEntry} (h1:h.get? a=some (instObj C d)) (h2:h.get? d=some (dictOf es n)):InstAt h a (instObj C d) C (some (dictOf es n)):=⟨h1,rfl,rfl,h2⟩
theorem Inv.obj (I:Inv κ loc H p s) {u:Value} {k:Nat} {o:AO} (r:RV κ p u (.ref k)) (hH:aO k H=some o):∃a d,u=.ref a∧p.ι k=some (a,d)∧Shape κ.g.w p.P p.ι s.heap a d o:=by refine gU (I.hi.objs k o hH) λa d fL sh=>?_;refine gU r.n8 λz z ae e=>?_;subst ae;rw[fL] at e;refine aj (Prod.mk.inj (Option.some.inj e)) λae bX=>?_;subst ae;subst bX;exact ⟨_,_,rfl,fL,sh⟩
theorem uU {k:Nat} {fs:List (Str×PV)} {a:Str} {u v:Value} {pv:PV} {Q:Unit→Shared→Prop} (I:Inv κ loc H p s) (ro:RV κ p u (.ref k)) (hH:aO k H=some (.inst C fs)) (W:y7 κ.g C a) (hz:Nat.ble (cM a pv fs).length 1000=true) (r:RV κ p v pv) (hQ:∀s',Inv κ loc (bG k (.inst C (cM a pv fs)) H) p s'→To κ p s p s'→Q () s'):wpAny κ.M A (setAttr u a v) Q E s:=by
 refine cY (I.obj ro hH) λx d ae hk bX=>?_;subst ae;refine cY bX λes n ho hd fe=>?_;have J:=jm ho hd;have hl:(getL a es).isSome=true:=by induction q:ax a fs with|none=>rw[(fe.look a).2 q];rfl|some y=>refine aG ((fe.look a).1 y q) λu e z=>?_;rw[e];rfl
 have ne:x≠d:=λq=>by rw[q,hd] at ho;cases ho
 have Sx:=fe.put (a:=a) (tk:=s.toks+1) r;have lz:(putL a (PyData.keyHash κ.g.w.params a) (.str a (s.toks+1)) v es).length≤1000:=by rw[Sx.length];exact Nat.le_of_ble_eq_true hz
 refine set_plain I.hi.gV.1 J W.over (GL (s:={s with toks:=s.toks+1}) I.hi.gV.1 J rfl hd W.plain W.M8 W.has hl rfl lz λh' e sb=>?_);refine aj (I.hi.put (k:=k) (a:=x) (d:=d) (o:=.inst C (cM a pv fs)) (h':=h') hk (λb q n1 n2 e'=>(sb.2 b n2).trans e') ⟨_,(sb.2 x ne).trans ho⟩ ⟨_,e⟩ ⟨_,_,(sb.2 x ne).trans ho,e,Sx⟩) λy1 y2=>?_;refine aj (I.AM (s':={s with heap:=h',toks:=s.toks+2}) y1 y2.fr ⟨_,_,rfl⟩ (Nat.le_add_right _ _)) λz1 z2=>?_;exact hQ _ z1 z2
theorem oj {k:Nat} {o:AO} (I:Inv κ loc H p s) (hk:p.ι k=some (a,d)) (sb:Heap.SameBut a s.heap h') (la:∃q,h'.get? a=some q) (sh:Shape κ.g.w p.P p.ι h' a d o) : Inv κ loc (bG k o H) p {s with heap:=h'}∧To κ p s p {s with heap:=h'}:=by
 have ld:∃q,h'.get? d=some q:=by
  by_cases z:d=a
  ·rw[z];exact la
  ·refine bZ ((I.hi.new d ⟨k,a,d,hk,.inr rfl⟩).2.2) λq hq=>?_;exact ⟨q,(sb.2 d z).trans hq⟩
 refine aj (I.hi.put (h':=h') hk (λb q n1 y e'=>(sb.2 b n1).trans e') la ld sh) λy1 y2=>?_;exact I.AM (s':={s with heap:=h'}) y1 y2.fr ⟨_,_,rfl⟩ (Nat.le_refl _)
theorem GN (I:Inv κ loc H p s) {ao:AO} (hf:o.isFreed=false) (sh:Shape κ.g.w p.P (c7 p.ι H.length (s.heap.objs.size,s.heap.objs.size)) (s.heap.push o) s.heap.objs.size s.heap.objs.size ao) : ∃p',Inv κ loc (H++[(H.length,ao)]) p' {s with heap:=s.heap.push o}∧To κ p s p' {s with heap:=s.heap.push o}∧RV κ p' (.ref s.heap.objs.size) (.ref H.length):=by have la:∃q,(s.heap.push o).get? s.heap.objs.size=some q:=⟨_,Heap.get?_push_size _ hf⟩;obtain ⟨y1,y2⟩:=I.hi.alloc (az s.heap o) (bA _) (bA _) la la sh;obtain ⟨z1,z2⟩:=I.AM (s':={s with heap:=s.heap.push o}) y1 y2.fr ⟨_,_,rfl⟩ (Nat.le_refl _);exact ⟨_,z1,z2,.ref (by dsimp only[c7];rw[if_pos rfl])⟩
end
open Sem (wp)
theorem jL:Slot "collections.deque" "__iter__" "collections.deque.__iter__":=.of (owner:="collections.deque") (n:="__iter__") (by rw[typeLookup_type,builtinLookup_eq_fast];kernel_rfl) (by decide +kernel) (by decide +kernel) (by decide +kernel) (by first | exact .inl (by decide +kernel) | exact .inr (by decide +kernel)) (by rw[isSubtype_type];kernel_rfl)
theorem oZ:entryFor table "collections.deque.__iter__"=some Builtin.«collections.deque.__iter__»:=entryFor_of_tree (by kernel_rfl)
theorem qK (a:Value):argsOk "collections.deque.__iter__" ⟨[a],[]⟩:=by unfold argsOk;kernel_rfl
theorem df:Slot "collections._deque_iterator" "__next__" "collections._deque_iterator.__next__":=.of (owner:="collections._deque_iterator") (n:="__next__") (by rw[typeLookup_type,builtinLookup_eq_fast];kernel_rfl) (by decide +kernel) (by decide +kernel) (by decide +kernel) (by first | exact .inl (by decide +kernel) | exact .inr (by decide +kernel)) (by rw[isSubtype_type];kernel_rfl)
theorem jM:entryFor table "collections._deque_iterator.__next__"=some Builtin.«collections._deque_iterator.__next__»:=entryFor_of_tree (by kernel_rfl)
theorem kL (a:Value):argsOk "collections._deque_iterator.__next__" ⟨[a],[]⟩:=by unfold argsOk;kernel_rfl
theorem kM:Slot "collections._deque_iterator" "__iter__" "collections._deque_iterator.__iter__":=.of (owner:="collections._deque_iterator") (n:="__iter__") (by rw[typeLookup_type,builtinLookup_eq_fast];kernel_rfl) (by decide +kernel) (by decide +kernel) (by decide +kernel) (by first | exact .inl (by decide +kernel) | exact .inr (by decide +kernel)) (by rw[isSubtype_type];kernel_rfl)
theorem qL:entryFor table "collections._deque_iterator.__iter__"=some Builtin.«dict_keyiterator.__iter__»:=entryFor_alias (id':="dict_keyiterator.__iter__") (by kernel_rfl) (by first | rfl | decide +kernel | (unfold String.splitOn;simp +decide [String.splitOnAux])) (by decide +kernel) (by kernel_rfl)
theorem sV (a:Value):argsOk "collections._deque_iterator.__iter__" ⟨[a],[]⟩:=by unfold argsOk;kernel_rfl
noncomputable def eU (d:Addr) (i st left:Int):Obj:={cls:=.type "collections._deque_iterator",data:=.fields #[.ref d,rawInt i,rawInt st,rawInt left]}
section
variable {prog:Program} {w:World} {A:Around} {E:Value→Shared→Prop} {s:Shared}
theorem GP {n:Int} (ho:s.heap.get? d=some (aR n vs)) (h:Q (.ref s.heap.objs.size) {s with heap:=s.heap.push (eU d 0 n vs.length)}):wpAny (model prog w) A (pyIter (.ref d)) Q E s:=by
 have hT:=cO ho;refine wpAny_pyIter_slot hT jL (wpAny_call_entry jL hT oZ ?_ (qK _));unfold Builtin.«collections.deque.__iter__»;refine wpAny_bind (m:=slotArgs "__iter__" 0 _) (wpAny_pure ?_);unfold Builtin.Deque.state Builtin.Deque.size;refine wpAny_bind (wpAny_bind (wpAny_field ho (bQ n vs) (i:=1) (x:=.int n 0) (by simp) (wpAny_pure ?_)));refine wpAny_bind (wpAny_bind (wpAny_fieldsOf ho (bQ n vs) (wpAny_pure ?_)));have e:(#[Value.none,.int n 0]++vs.toArray).size - 2=vs.length:=by simp
 rw[e];unfold newFields;refine wpAny_bind (wpAny_newObj_type (wpAny_pure ⟨_,rfl,"collections._deque_iterator",_,⟨_,Heap.get?_push_size _ rfl,rfl⟩,df.lookup,h⟩) (by size_fits))
theorem xk {n:Int} {i:Nat} {v:Value} {Q:Option Value→Shared→Prop} (hi:s.heap.get? I=some (eU d i n (vs.length - i))) (ho:s.heap.get? d=some (aR n vs)) (hv:vs[i]?=some v) (h:∀h',h'.get? I=some (eU d (i+1) n (vs.length - (i+1)))→Heap.SameBut I s.heap h'→Q (some v) {s with heap:=h'}):wpAny (model prog w) A (Builtin.DequeIter.advance (.ref I) 1) Q E s:=by
 have om:i<vs.length:=by refine bZ (List.getElem?_eq_some_iff.mp hv) λh1 z=>?_;exact h1
 have fl:(eU d i n (vs.length - i)).data=.fields #[.ref d,rawInt i,rawInt n,rawInt (vs.length - i)]:=rfl;unfold Builtin.DequeIter.advance;refine wpAny_bind (wpAny_field hi fl (i:=0) (x:=.ref d) rfl ?_);rw[if_neg (by decide)];unfold Builtin.Deque.state Builtin.DequeIter.raw;refine wpAny_bind (wpAny_bind (wpAny_field ho (bQ n vs) (i:=1) (x:=.int n 0) (by simp) (wpAny_pure ?_)));refine wpAny_bind (wpAny_bind (wpAny_field hi fl (i:=2) (x:=rawInt n) rfl (wpAny_pure ?_)));rw[if_neg (by simp)];refine wpAny_bind (wpAny_bind (wpAny_field hi fl (i:=3) (x:=rawInt (vs.length - i)) rfl (wpAny_pure ?_)));have xh:((vs.length:Int) - i==0)=false:=by rw[beq_eq_false_iff_ne];lia
 rw[xh];refine wpAny_bind (wpAny_bind (wpAny_field hi fl (i:=1) (x:=rawInt i) rfl (wpAny_pure ?_)));refine wpAny_bind (jl ho ?_);have e:vs.toArray[(i:Int).toNat]?=some v:=by simpa using hv
 rw[e];refine wpAny_bind (wpAny_setField hi fl (by simp) ?_);have h2:=Heap.get?_update_self (Obj.mapFields (·.setIfInBounds 1 (rawInt ((i:Int)+1)))) hi (by rfl);refine wpAny_bind (wpAny_setField (i:=3) h2 (vs:=#[.ref d,rawInt ((i:Int)+1),rawInt n,rawInt (vs.length - i)]) rfl (by simp) (wpAny_pure (h _ ?_ ((Heap.SameBut.update ..).trans (Heap.SameBut.update ..)))));have h3:=Heap.get?_update_self (Obj.mapFields (·.setIfInBounds 3 (rawInt ((vs.length:Int) - i - 1)))) h2 (by rfl);refine h3.trans ?_;have:((vs.length:Int) - i - 1)=vs.length - (i+1):=by lia
 rw[this];rfl
theorem GQ {n:Int} {i:Nat} {v:Value} {Q:Option Value→Shared→Prop} (hi:s.heap.get? I=some (eU d i n (vs.length - i))) (ho:s.heap.get? d=some (aR n vs)) (hv:vs[i]?=some v) (h:∀h',h'.get? I=some (eU d (i+1) n (vs.length - (i+1)))→Heap.SameBut I s.heap h'→Q (some v) {s with heap:=h'}):wpAny (model prog w) A (pyNext (.ref I)) Q E s:=by have hT:s.TypeIs (.ref I) "collections._deque_iterator":=⟨_,hi,rfl⟩;unfold pyNext;refine wpAny_bind (wpAny_attempt (wpAny_callSpecial?_slot (name:=Str.ofString "__next__") hT df (wpAny_call_entry df hT jM ?_ (kL _))));show wpAny _ _ (do match←Builtin.DequeIter.advance (.ref I) 1 with | some x=>ret x | none=>raiseNew (←newExc (.type "StopIteration") [])) _ _ s;refine wpAny_bind (xk hi ho hv λh' e sb=>?_);exact wpAny_pure ⟨_,rfl,wpAny_pure (h h' e sb)⟩
theorem J7 {n:Int} {Q:Option Value→Shared→Prop} (hh:A.handled=Option.none) (hi:s.heap.get? I=some (eU d vs.length n 0)) (ho:s.heap.get? d=some (aR n vs)) (h:∀h',Heap.ExtBut I s.heap h'→Q Option.none {s with heap:=h'}):wpAny (model prog w) A (pyNext (.ref I)) Q E s:=by
 have hT:s.TypeIs (.ref I) "collections._deque_iterator":=⟨_,hi,rfl⟩;have fl:(eU d vs.length n 0).data=.fields #[.ref d,rawInt vs.length,rawInt n,rawInt 0]:=rfl;unfold pyNext;refine wpAny_bind (wpAny_attempt (wpAny_callSpecial?_slot (name:=Str.ofString "__next__") hT df (wpAny_call_entry df hT jM ?_ (kL _))));show wpAny _ _ (do match←Builtin.DequeIter.advance (.ref I) 1 with | some x=>ret x | none=>raiseNew (←newExc (.type "StopIteration") [])) _ _ s;refine wpAny_bind ?_;unfold Builtin.DequeIter.advance;refine wpAny_bind (wpAny_field hi fl (i:=0) (x:=.ref d) rfl ?_);rw[if_neg (by decide)];unfold Builtin.Deque.state Builtin.DequeIter.raw;refine wpAny_bind (wpAny_bind (wpAny_field ho (bQ n vs) (i:=1) (x:=.int n 0) (by simp) (wpAny_pure ?_)));refine wpAny_bind (wpAny_bind (wpAny_field hi fl (i:=2) (x:=rawInt n) rfl (wpAny_pure ?_)));rw[if_neg (by simp)];refine wpAny_bind (wpAny_bind (wpAny_field hi fl (i:=3) (x:=rawInt 0) rfl (wpAny_pure ?_)));rw[if_pos (by rfl)];refine wpAny_pure ?_;show wpAny _ _ (newExc (.type "StopIteration") [] >>= _) _ _ _;refine wpAny_bind ?_;unfold newExc newTuple;refine wpAny_bind (wpAny_newObj_type ?_ (by size_fits));refine wpAny_bind (m:=firstArgMember _ _) (wpAny_of_eq (a:=Value.none) (by first | rfl | (simp only[firstArgMember];rfl)) ?_);refine wpAny_newObj_type ?_ (by size_fits);unfold raiseNew;refine wpAny_bind (wpAny_handled ?_)
 first | rw[show A.in1.handled=Option.none from hh] | rw[hh]
 refine wpAny_bind (wpAny_pure (wpAny_throw ?_));refine wpAny_bind (wpAny_isInstance (T:="StopIteration") (b:=true) ⟨_,Heap.get?_push_size _ rfl,rfl⟩ isSubtype_stop ?_);exact wpAny_pure (h _ (((Heap.ExtBut.refl I s.heap).push _).push _))
theorem CF (hh:A.handled=Option.none) (ne:d≠I) (n:Int) (vs:List Value):Walks prog w A I [I,d] [I] vs.length (λi v=>vs[i]?=some v) (λi h=>h.get? I=some (eU d i n (vs.length - i))∧h.get? d=some (aR n vs)) where
 sub:=λb hb=>by simp at hb;simp[hb]
 frame:=λz z z st hk=>⟨hk I (by simp) _ st.1,hk d (by simp) _ st.2⟩
 item:=λi s Q E hi st hQ=>GQ st.1 st.2 (List.getElem?_eq_getElem hi) λh' e sb=>hQ _ h' s.toks (List.getElem?_eq_getElem hi) ⟨by simpa using e,(sb.2 d ne).trans st.2⟩ λb o hb e=>(sb.2 b λq=>hb (by simp[q])).trans e
 done:=λs Q E st hQ=>J7 hh (by simpa using st.1) st.2 λh' he=>hQ h' s.toks λb o hb e=>he b o (λq=>hb (by simp[q])) e
 self:=λi s Q E st hQ=>by have hT:s.TypeIs (.ref I) "collections._deque_iterator":=⟨_,st.1,rfl⟩;refine wpAny_pyIter_slot hT kM (wpAny_call_entry kM hT qL ?_ (sV _));show wpAny _ _ (ret (.ref I)) _ _ s;exact wpAny_pure ⟨_,rfl,"collections._deque_iterator",_,hT,df.lookup,hQ⟩
theorem CG {n:Int} {Q:Bool→Shared→Prop} (ho:s.heap.get? d=some (aR n vs)) (hz:vs.length≤2 ^ 24) (h:∀b tk,s.toks≤tk→Q b {s with toks:=tk}):wpAny (model prog w) A (Builtin.List.listLengthHint (.ref d)) Q E s:=by
 have hT:=cO ho;unfold Builtin.List.listLengthHint;refine wpAny_bind (wpAny_specialOf hT cN.lookup ?_);generalize Sy:("collections.deque.__len__":String)=Ub
 wp_delta
 rw[show splitId Ub=some ("collections.deque","__len__") from by subst Sy;decide +kernel];subst Sy;refine wpAny_bind (wpAny_isInstance (T:="collections.deque") (b:=true) hT (by rw[isSubtype_type];kernel_rfl) ?_);refine wpAny_ite_split (λGm=>absurd Gm (by decide)) (λz=>?_);refine wpAny_ite_split (λGm=>absurd Gm (by decide +kernel)) (λz=>?_);refine wpAny_ite_split (λz=>?_) (λGm=>absurd rfl Gm);refine wpAny_bind (wpAny_rule ?_);refine wpAny_bind (wpAny_attempt (call_len_slot (n:=vs.length) hT cN (λQ' hq=>?_) (by lia) (by lia) ?_))
 ·refine wpAny_call_entry cN hT jK ?_ (kI _);show wpAny _ _ (do retInt (←Builtin.Deque.size (.ref d))) _ _ s;unfold Builtin.Deque.size;refine wpAny_bind (wpAny_bind (wpAny_fieldsOf ho (bQ n vs) (wpAny_pure ?_)));have e:(#[Value.none,.int n 0]++vs.toArray).size - 2=vs.length:=by simp
  rw[e]
  exact wpAny_bind (wpAny_mkInt (wpAny_pure ⟨_,rfl,hq⟩))
 ·have Uc:Builtin.List.listTooLong ((vs.length:Int).toNat)=false:=by simp[Builtin.List.listTooLong,sizeLine];lia
  refine wpAny_bind (m:=asInt? _) (wpAny_pure ?_)
  exact wpAny_ite_split (λGm=>absurd Gm (by rw[Uc];decide)) (λz=>wpAny_pure (h _ _ (by lia)))
theorem J8 {acc:Array Value} (h:ItemsOf (λi v=>vs[i]?=some v) acc vs.length):acc=vs.toArray:=by
 obtain ⟨l⟩:=acc
 congr 1
 have hs:l.length=vs.length:=h.1;apply List.ext_getElem?;intro j
 by_cases hj:j<l.length
 ·rw[List.getElem?_eq_getElem hj];exact (h.2 j _ (by simp[hj])).symm
 ·rw[List.getElem?_eq_none (Nat.not_lt.mp hj),List.getElem?_eq_none (by rw[←hs];exact Nat.not_lt.mp hj)]
theorem qM {n:Int} (hh:A.handled=Option.none) (ho:s.heap.get? d=some (aR n vs)) (hz:vs.length≤sizeLine) (hQ:∀h' tk m,(∀b o,s.heap.get? b=some o→h'.get? b=some o)→h'.get? s.heap.objs.size=some (jX vs m)→s.toks≤tk→Q (.ref s.heap.objs.size) {s with heap:=h',toks:=tk}) : wpAny (model prog w) A (call (.type "list") [.ref d]) Q E s:=by
 rw[sizeLine_eq] at hz;refine wpAny_with_toks (n:=s.toks) (Nat.le_refl _) ?_;refine callType_codes (Q₁:=λobj ag=>obj=.ref s.heap.objs.size∧ag={s with heap:=s.heap.push {cls:=.type "list",data:=.seq #[]}}) F.called_list (F.typeCall_list_1 _) F.entry_list_init (code_list_new _ ⟨rfl,rfl⟩) λobj ag fq=>?_;obtain ⟨rfl,rfl⟩:=fq;have hS:(s.heap.push {cls:=.type "list",data:=.seq #[]}).get? s.heap.objs.size=some {cls:=.type "list",data:=.seq #[]}:=Heap.get?_push_size _ rfl;have hd:=Heap.get?_push_of_some {cls:=.type "list",data:=.seq #[]} ho;refine ⟨⟨_,hS,rfl⟩,F.args_list_init_2 _ _,?_⟩;generalize hH:s.heap.push {cls:=.type "list",data:=.seq #[]}=H at hS hd;have Pa:s.heap.objs.size≠d:=Nat.ne_of_gt (Heap.lt_size ho);have M9:∀b o,s.heap.get? b=some o→H.get? b=some o:=λb o e=>hH▸Heap.get?_push_of_some _ e;show wpAny _ _ (do let old←Builtin.List.listItems (.ref s.heap.objs.size);Builtin.List.listUpdate (.ref s.heap.objs.size) (λz=>#[]);letGo old.toList.reverse;Builtin.List.listExtendWith (.ref s.heap.objs.size) (.ref d) .none) _ _ _;refine wpAny_bind ?_;unfold Builtin.List.listItems;refine wpAny_bind (wpAny_seqItems hS rfl (wpAny_pure ?_));show wpAny _ _ (updateSeq s.heap.objs.size (λz=>#[]) >>= λz=>letGo (#[]:Array Value).toList.reverse >>= λz=>Builtin.List.listExtendWith (.ref s.heap.objs.size) (.ref d) .none) _ _ _;refine wpAny_bind (wpAny_updateSeq hS rfl ?_);have CH:=Heap.get?_update_self (Obj.mapSeq (λz=>(#[]:Array Value))) hS rfl;have Qc:∀b o,b≠s.heap.objs.size→H.get? b=some o→(H.update s.heap.objs.size (Obj.mapSeq (λz=>(#[]:Array Value)))).get? b=some o:=λb o hb e=>(Heap.get?_update_other _ _ (Ne.symm hb)).trans e;have hd2:=Qc d _ (Ne.symm Pa) hd;refine wpAny_bind (wpAny_letGo ?_);generalize Vy:H.update s.heap.objs.size (Obj.mapSeq (λz=>(#[]:Array Value)))=H2 at CH hd2 Qc;have Na:s.heap.objs.size<H2.objs.size:=Heap.lt_size CH;have Qd:s.heap.objs.size≠H2.objs.size:=Nat.ne_of_lt Na;have Sz:d≠H2.objs.size:=Nat.ne_of_lt (Heap.lt_size hd2);have W:=(CF (prog:=prog) (w:=w) (A:=A.in1.in1) hh Sz n vs).toS;have fin:∀(h:Heap) (c₁ tk:Nat),h.get? H2.objs.size=some (eU d (0:Nat) n (vs.length - (0:Nat)))→(∀b o,b≠s.heap.objs.size→H2.get? b=some o→h.get? b=some o)→s.toks≤tk→
   h.get? s.heap.objs.size=some {cls:=.type "list",data:=.seq #[] c₁}→codeAny (model prog w) A.in1 (.builtin "list.extend.loop" ⟨[.ref s.heap.objs.size,.ref H2.objs.size,.none],[]⟩) (wants (λr cU=>r=.none∧(s.toks≤cU.toks→Q (.ref s.heap.objs.size) cU)) (λe cU=>s.toks≤cU.toks→E e cU)) {s with heap:=h,toks:=tk}:=by
  intro h c₁ tk hit hk ht uV
  refine codeAny_extend_loopS W (by rw[sizeLine_eq];exact hz) _ (by simp[Qd,Ne.symm Sz,Pa]) .none vs.length 0 _ #[] c₁ rfl (Nat.zero_le _) ⟨hit,hk d _ (Ne.symm Pa) hd2⟩ uV (ItemsOf.nil _) λs' Qe c' hm SA Qf=>?_
  rw[Moved.eq_with hm]
  refine ⟨rfl,λUd=>?_⟩
  have e:Qe=vs.toArray:=J8 Qf
  rw[e] at SA
  refine hQ s'.heap s'.toks _ (λb o eb=>?_) SA Ud
  have Qg:b≠s.heap.objs.size:=Nat.ne_of_lt (Heap.lt_size eb)
  refine hm.heap b o (λJ9=>?_) (hk b o Qg (Qc b o Qg (M9 b o eb)))
  rcases List.mem_cons.mp J9 with e' | J9
  ·exact Qg e'
  ·have e3:=List.mem_singleton.mp J9;exact Nat.lt_irrefl _ (Nat.lt_trans Na (by rw[←e3];exact Heap.lt_size eb))
 unfold Builtin.List.listExtendWith;refine wpAny_bind (wpAny_typeOf (T:="collections.deque") (cO (s:={s with heap:=H2}) hd2) ?_);have h1:Builtin.List.listSameRef (.ref s.heap.objs.size) (.ref d)=false:=by simp[Builtin.List.listSameRef,Pa]
 have h2:(Value.type "collections.deque"==Value.type "list")=false:=by decide
 have h3:(Value.type "collections.deque"==Value.type "tuple")=false:=by decide
 simp only[h1,h2,h3,Bool.or_false,Bool.false_eq_true,if_false];refine wpAny_bind (GP (s:={s with heap:=H2}) hd2 ?_);have Ue:=Heap.get?_push_of_some (eU d 0 n vs.length) hd2;have CI:(H2.push (eU d 0 n vs.length)).get? H2.objs.size=some (eU d (0:Nat) n (vs.length - (0:Nat))):=by have:=Heap.get?_push_size (o:=eU d 0 n vs.length) H2 rfl;simpa using this
 have uV:=Heap.get?_push_of_some (eU d 0 n vs.length) CH;refine wpAny_bind (wpAny_holding (CG (s:={s with heap:=H2.push (eU d 0 n vs.length)}) Ue (by omega) λb tk ht=>?_));refine wpAny_ite_split (λz=>?_) (λz=>wpAny_pure ⟨plainId_quiet F.plain_extend_loop _,fin _ _ _ CI (λb o z e=>Heap.get?_push_of_some _ e) ht uV⟩);refine wpAny_bind (wpAny_rule ?_);refine wpAny_bind ?_;show wpAny _ _ (updateSeq s.heap.objs.size (·.push .none) >>= λz=>updateSeq s.heap.objs.size (·.pop)) _ _ _;refine wpAny_bind (wpAny_updateSeq uV rfl ?_);have CJ:=Heap.get?_update_self (Obj.mapSeq (·.push Value.none)) uV rfl;refine wpAny_updateSeq (hz:=by seq_fits) CJ rfl ?_;have Nb:=Heap.get?_update_self (Obj.mapSeq (·.pop)) CJ rfl;refine wpAny_pure ⟨plainId_quiet F.plain_extend_loop _,fin _ _ _ ?_ (λb o hb e=>?_) ht Nb⟩
 ·exact (Heap.get?_update_other _ _ Qd).trans ((Heap.get?_update_other _ _ Qd).trans CI)
 ·exact (Heap.get?_update_other _ _ (Ne.symm hb)).trans ((Heap.get?_update_other _ _ (Ne.symm hb)).trans (Heap.get?_push_of_some _ e))
end
open Sem (wp)
theorem qN:Slot "collections.deque" "__init__" "collections.deque.__init__":=.of (owner:="collections.deque") (n:="__init__") (by rw[typeLookup_type,builtinLookup_eq_fast];kernel_rfl) (by decide +kernel) (by decide +kernel) (by decide +kernel) (by first | exact .inl (by decide +kernel) | exact .inr (by decide +kernel)) (by rw[isSubtype_type];kernel_rfl)
theorem o1:entryFor table "collections.deque.__init__"=some Builtin.«collections.deque.__init__»:=entryFor_of_tree (by kernel_rfl)
theorem qO:entryFor table "collections.deque.__new__"=some Builtin.«collections.deque.__new__»:=entryFor_of_tree (by kernel_rfl)
theorem qP (a:Value):argsOk "collections.deque.__init__" ⟨[a],[]⟩:=by unfold argsOk;kernel_rfl
theorem y8:mroOf (.type "collections.deque")=pure [.type "collections.deque",.type "object"]:=by rw[mroOf_type];kernel_rfl
theorem o3:typeLookup (.type "collections.deque") "__new__"=pure (some (.builtin "collections.deque.__new__")):=by rw[typeLookup_type,builtinLookup_eq_fast];kernel_rfl
theorem kN:isSubtype (.type "collections.deque") (.type "collections.deque")=pure true:=by rw[isSubtype_type];kernel_rfl
theorem gq:plainId "collections.deque.__new__"=true:=by decide +kernel
theorem xl:TypeCalled "collections.deque" "collections.deque.__new__" "collections.deque.__init__":=⟨by decide +kernel,by decide +kernel,⟨_,_,y8⟩,madeBy_type y8 o3 (by decide +kernel),gq,kN,qN⟩
theorem sW:checkTypeCall "collections.deque" ⟨[],[]⟩=pure ():=by kernel_rfl
theorem uW:checkBuiltinCall "collections.deque.__new__" ⟨[.type "collections.deque"],[]⟩=pure ():=by kernel_rfl
section
variable {prog:Program} {w:World} {A:Around} {E:Value→Shared→Prop} {s:Shared}
theorem sX (h:∀h',(∀b o,s.heap.get? b=some o→h'.get? b=some o)→(∃n,h'.get? s.heap.objs.size=some (aR n []))→Q (.ref s.heap.objs.size) {s with heap:=h'}) : wpAny (model prog w) A (call (.type "collections.deque") []) Q E s:=by
 refine callType_codes (Q₁:=λobj ag=>obj=.ref s.heap.objs.size∧ag={s with heap:=s.heap.push (aR 0 [])}) xl sW o1 ?_ λobj ag fq=>?_
 ·refine codeAny_of_tree ?_;show wpAny _ A.in1.in1 (do checkBuiltinCall "collections.deque.__new__" ⟨[.type "collections.deque"],[]⟩;again (.builtin "collections.deque.__new__" ⟨[.type "collections.deque"],[]⟩)) _ _ s;refine wpAny_bind (wpAny_of_eq uW (wpAny_pure ⟨plainId_quiet gq _,codeAny_builtin qO ?_⟩));rw[Around.under_plainId gq _];unfold Builtin.«collections.deque.__new__» Builtin.Deque.newArgs Builtin.Deque.new Builtin.Deque.ty;have Qh:=kN;obtain ⟨hp,g,d,tk,os⟩:=s;wp_walk
  exact ⟨rfl,rfl⟩
 ·obtain ⟨rfl,rfl⟩:=fq;have ho:(s.heap.push (aR 0 [])).get? s.heap.objs.size=some (aR 0 []):=Heap.get?_push_size _ rfl;refine ⟨⟨_,ho,rfl⟩,qP _,?_⟩;unfold Builtin.«collections.deque.__init__»;refine wpAny_bind (wpAny_pure (wpAny_bind (wpAny_pure (wpAny_bind (wpAny_pure ?_)))));refine wpAny_bind (wpAny_setField (i:=0) ho (bQ 0 []) (by simp) ?_);have h2:=Heap.get?_update_self (Obj.mapFields (·.setIfInBounds 0 Value.none)) ho (by rfl);have e2:Obj.mapFields (·.setIfInBounds 0 Value.none) (aR 0 [])=aR 0 []:=rfl;rw[e2] at h2;refine wpAny_bind ?_;unfold Builtin.Deque.clear;refine wpAny_bind (jl (s:={s with heap:=_}) h2 (wpAny_pure ?_));refine wpAny_pure ⟨rfl,h _ (λb o e=>?_) ⟨0,h2⟩⟩;have ne:s.heap.objs.size≠b:=Nat.ne_of_gt (Heap.lt_size e);exact (Heap.get?_update_other _ _ ne).trans (Heap.get?_push_of_some _ e)
end
abbrev XP:=Heap→List Nat→Value→Heap→Prop
variable {X X':XP}
abbrev ba:XP:=λz z z z=>False
structure nI (F:List Addr) (p:Pt) (s:Shared) (p':Pt) (s':Shared):Prop where
 eq:∃h tk,s'={s with heap:=h,toks:=tk}
 le:s.toks≤s'.toks
 st:Step F No p s.heap p' s'.heap
noncomputable def Cx.Bc (κ:Cx):Bs:=⟨κ.B.h,κ.env.locals::κ.B.fr⟩
def dA (g:G) (B:Bs) (X:XP) (p:Pt) (s:Shared) (R:Result→Shared→Prop) (x_:RE):Prop:=by induction x_ using RE.casesOn with|ok v H'=>exact ∀p' s' u,HI g B H' p' s'.heap→nI B.fr p s p' s'→Rv g.w p'.P p'.ι u v→R (.ok (.ret u)) s'|exc m H'=>exact ∀p' s' e gm,HI g B H' p' s'.heap→nI B.fr p s p' s'→X s'.heap m e gm→R (.error e) {s' with heap:=gm}
section
variable {κ:Cx} {loc:Loc} {H:Hp} {p:Pt} {s:Shared}
theorem HI.push (I:Inv κ loc H p s):HI κ.g κ.Bc H p s.heap:=by
 obtain ⟨Y,Z⟩:=I;refine ⟨Y.ok,Y.st,Y.fz,Y.objs,Y.xf,Y.new,Y.inj,λL hL=>?_⟩;rcases List.mem_cons.mp hL with rfl | hL
 ·refine fK (Z.lP _ (.inl rfl)) λh1 h2 h3=>?_;exact ⟨h1,h2,h3,Z.there (.inl rfl)⟩
 ·exact Y.fr L hL
theorem HI.pop (Y:HI κ.g κ.Bc H p h):HI κ.g κ.B H p h:=⟨Y.ok,Y.st,Y.fz,Y.objs,Y.xf,Y.new,Y.inj,λL hL=>Y.fr L (List.mem_cons_of_mem _ hL)⟩
theorem Inv.back (I:Inv κ loc H p s) {H':Hp} (Y:HI κ.g κ.Bc H' p' s'.heap) (T:nI κ.Bc.fr p s p' s'):Inv κ loc H' p' s'∧To κ p s p' s':=⟨⟨Y.pop,I.ei.step T.st⟩,⟨T.eq,T.le,T.st.wk (λz z z q=>q.elim) λb o z q=>by
  rcases List.mem_cons.mp q with rfl | q
  ·exact .inr (.inl rfl)
  ·exact .inl q⟩⟩
end
def eV (g:G) (A:Around) (fns:Addr→List PV→Hp→R1):Prop:=∀f args H gd r,fns f args H=some (gd,r)→AllP gd→(∃o fd,g.K.lookup f=some o∧o.data=.func fd)∧ ∀B p s vs,HI g B H p s.heap→aT g.w p.P p.ι vs args→∀R,dA g B ba p s R (.ok r H)→codeAny (model g.prog g.w) A (.call (.ref f) ⟨vs,[]⟩) R s
def b6 (g:G) (x:Str) (u:Value):Prop:=nsIn g.K mainGlobals x=some (some u)∨(nsIn g.K mainGlobals x=some Option.none∧bootBuiltins x=some u∧x≠"__name__")
noncomputable def jY (x_:xe):Value:=by induction x_ using xe.casesOn with|len=>exact .builtin "len"|chr=>exact .builtin "chr"|ty=>exact .type "type"|int=>exact .type "int"|list=>exact .type "list"|str=>exact .type "str"
def gv (g:G) (C:Addr) (a:Str) (x_:AK):Prop:=by induction x_ using AK.casesOn with|field=>exact plainGet g.K C a=true∧hasDictIn g.K C=true∧∃attr,findIn g.K (.ref C) a=some attr∧noGet g.K attr=true|prop f=>exact plainGet g.K C a=true∧hasDictIn g.K C=true∧∃p rest,findIn g.K (.ref C) a=some (some (.ref p))∧specialIn g.K (.ref p) "__get__"=some (some (.builtin "property.__get__"))∧takesIn g.K (.ref p)=some true∧recIn g.K p "property"=some (.ref f::rest)|lM f=>exact plainGet g.K C a=true∧findIn g.K (.ref C) a=some (some (.ref f))∧isFn g.K (.ref f)=true
def fU (κ:Cx) (A:Around) (loc:Loc) (H:Hp) (t:Sem Value) (v:PV):Prop:=∀p s,Inv κ loc H p s→∀(Q:Value→Shared→Prop) (E:Value→Shared→Prop),(∀p' s' u,Inv κ loc H p' s'→To κ p s p' s'→RV κ p' u v→Q u s')→wpAny κ.M A t Q E s
def CK (κ:Cx) (A:Around) (loc:Loc) (H:Hp) (t:Sem Bool) (b:Bool):Prop:=∀p s,Inv κ loc H p s→∀(Q:Bool→Shared→Prop) (E:Value→Shared→Prop),(∀p' s',Inv κ loc H p' s'→To κ p s p' s'→Q b s')→wpAny κ.M A t Q E s
structure af (κ:Cx) (A:Around) (Γ:Ctx):Prop where
 scope:κ.env.scope=Γ.scope
 w:κ.W=Γ.w
 kind:κ.env.scope.kind=.function
 globals:κ.env.globals=mainGlobals
 builtins:κ.env.builtins=builtinsNs
 hd:Γ.nh=true→A.handled=Option.none
 un:A.units+9<cLine
 glob:∀x v,Γ.glob x=some v→∃u,v=.glob u∧b6 κ.g x u
 blt:∀x b,Γ.blt x=some b→b6 κ.g x (jY b)
 attr:∀C a k,Γ.attr C a=some k→gv κ.g C a k
 fns:eV κ.g A.in1 Γ.fns
 comps:∀p t,cb p Γ.comps=some t→∀loc H gd v,t.f loc H=some (gd,v)→AllP gd→fU κ A loc H (eval t.e κ.env) v
theorem eV.use {s:Shared} {f:Addr} {r:PV} (F:eV κ.g A fns) (e:fns f args H=some (gd,r)) (hg:AllP gd) (I:Inv κ loc H p s) (Ka:To κ cJ cT p s) (rv:ux κ p vs args) (hQ:∀p' s' u,Inv κ loc H p' s'→To κ cJ cT p' s'→RV κ p' u r→Q u s'):wpAny κ.M A (call (.ref f) vs) Q E s:=
 wpAny_call ((F f args H gd r e hg).2 κ.Bc p s vs (HI.push I) rv _ λp' s' u Y T ru=>let ⟨I',T'⟩:=I.back Y T;hQ p' s' u I' (Ka.trans T') ru)
section
variable {κ:Cx} {A:Around} {Γ:Ctx} {loc:Loc} {H:Hp} {p:Pt} {s:Shared} {a b:Value} {x y z:PV} {c:Bool} {gd:List Prop}
theorem fU.at {t:Sem Value} (h:∀p s,Inv κ loc H p s→Pu κ.g A p.ι p.P s t x):fU κ A loc H t x:=λp s I Q E hQ=>(h p s I).to I hQ
theorem fU.use {t:Sem Value} (h:fU κ A loc H t x) (I:Inv κ loc H p s) (T:To κ cJ cT p s) (hQ:∀p' s' u,Inv κ loc H p' s'→To κ cJ cT p' s'→RV κ p' u x→Q u s'):wpAny κ.M A t Q E s:=h p s I Q E λp' s' u I' T' r=>hQ p' s' u I' (T.trans T') r
theorem CK.use {t:Sem Bool} {Q:Bool→Shared→Prop} (h:CK κ A loc H t c) (I:Inv κ loc H p s) (T:To κ cJ cT p s) (hQ:∀p' s',Inv κ loc H p' s'→To κ cJ cT p' s'→Q c s'):wpAny κ.M A t Q E s:=h p s I Q E λp' s' I' T'=>hQ p' s' I' (T.trans T')
theorem Pu.up {t:Sem Value} (h:Pu κ.g A p.ι p.P s t x) (I:Inv κ loc H p s) (T:To κ cJ cT p s) (hQ:∀p' s' u,Inv κ loc H p' s'→To κ cJ cT p' s'→RV κ p' u x→Q u s'):wpAny κ.M A t Q E s:=h.to I λp' s' u I' T' r=>hQ p' s' u I' (T.trans T') r
theorem qA.up {t:Sem Bool} {Q:Bool→Shared→Prop} (h:qA κ.g A p.P s t c) (I:Inv κ loc H p s) (T:To κ cJ cT p s) (hQ:∀p' s',Inv κ loc H p' s'→To κ cJ cT p' s'→Q c s'):wpAny κ.M A t Q E s:=h.to I λp' s' I' T'=>hQ p' s' I' (T.trans T')
def GR (κ:Cx) (A:Around) (loc:Loc) (H:Hp) (p:Pt) (s:Shared) (t:Sem Value) (v:PV):Prop:=∀(Q:Value→Shared→Prop) (E:Value→Shared→Prop),(∀p' s' u,Inv κ loc H p' s'→To κ p s p' s'→RV κ p' u v→Q u s')→wpAny κ.M A t Q E s
theorem Pu.ev {t:Sem Value} (h:Pu κ.g A p.ι p.P s t x) (I:Inv κ loc H p s):GR κ A loc H p s t x:=λQ E hQ=>h.to I hQ
theorem GR.up {t:Sem Value} (h:GR κ A loc H p s t x) (T:To κ cJ cT p s) (hQ:∀p' s' u,Inv κ loc H p' s'→To κ cJ cT p' s'→RV κ p' u x→Q u s'):wpAny κ.M A t Q E s:=h Q E λp' s' u I' T' r=>hQ p' s' u I' (T.trans T') r
theorem mM {a:List α} {b:List β} (h:a.length=b.length):a.isEmpty=b.isEmpty:=by induction a using List.casesOn <;> induction b using List.casesOn <;> first | rfl | cases h
theorem gZ (I:Inv κ loc H p s) (ra:RV κ p a x) (e:uO H x=some c):qA κ.g A p.P s (truthy a) c:=by
 unfold uO at e;induction q:jJ H x with|some i=>rw[q] at e;refine aj (iV q) λCE hH=>?_;subst CE;refine cY (I.obj ra hH) λb d ae fL bX=>?_;subst ae;refine cY bX λvs n ho hz r=>?_;have ln:=r.length;rw[sizeLine_eq] at hz;refine qA.same λQ E hQ=>lT ho (by lia) ?_;have:(!vs.isEmpty)=!i.2.isEmpty:=congrArg _ (mM ln);rw[this,Option.some.inj e];exact hQ _|none=>
 rw[q] at e;induction q:eA H x with|some i=>simp only[q] at e;refine aj (dJ q) λCE hH=>?_;subst CE;refine cY (I.obj ra hH) λb d ae fL bX=>?_;subst ae;refine cY bX λvs n ho hz r=>?_;have ln:=r.length;rw[sizeLine_eq] at hz;refine qA.same λQ E hQ=>wpAny_truthy_list ⟨_,ho,rfl,n,rfl⟩ (by rw[List.size_toArray];lia) ?_;have:(!vs.toArray.isEmpty)=!i.2.isEmpty:=congrArg _ ((List.isEmpty_toArray _).trans (mM ln));rw[this,Option.some.inj e];exact hQ _|none=>simp only[q] at e;exact uJ I.hi.fz ra e
theorem cC (C:af κ A Γ) {x:Str} {u:Value} (hx:κ.env.kindOf x=some .globalImplicit) (ok:κ.g.Ok s.heap) (hu:b6 κ.g x u) {pos:Pos} (hd:(x==("__debug__":Str))=false) {A:Around} {Q:Value→Shared→Prop} {E:Value→Shared→Prop} (h:Q u s):wpAny κ.M A (eval (.Name x pos) κ.env) Q E s:=by
 refine Name_function_global C.kind hx ?_ hd;refine aj ok λX T=>?_;rcases hu with hu | ⟨h1,h2,h3⟩
 ·exact loadGlobal_global (C.globals▸T.g) (mg_of X T.g hu) h
 ·exact loadGlobal_builtin (C.globals▸T.g) (mg_none_of X T.g h1) (C.builtins▸T.b) ((T.builtins x h3).trans h2) h
theorem rD {x:Str} (h:seq x "__debug__"=false):(x==("__debug__":Str))=false:=by rw[beq_eq_false_iff_ne];intro q;rw[aK.mpr q] at h;exact tF h
theorem aW (C:af κ A Γ) {x:Str} (h:d7 Γ x=true):κ.env.kindOf x=some .globalImplicit∧(x==("__debug__":Str))=false:=by refine aj (Bool.and_eq_true_iff.mp h) λh1 h2=>?_;refine ⟨?_,rD (by simpa using h1)⟩;rw[dI,←C.scope] at h2;show κ.env.scope.names.lookup x=_;induction hk:κ.env.scope.names.lookup x with|none=>rw[hk] at h2;exact fT h2|some k=>rw[hk] at h2;induction k using NameKind.casesOn <;> first | rfl | exact fT h2
theorem o4 (hk:κ.env.scope.kind=.function) {x:Str} {u:Value} (V:uR κ.env s.heap x u) {M:Model} (h:Q u s):wpAny M A (loadName κ.env x) Q E s:=by
 rcases V with ⟨o5,m,hn,hm⟩ | ⟨o5 | ⟨o5,hc⟩,cc,hl,y6⟩
 ·exact wpAny_loadName_local hk o5 hn hm h
 ·exact wpAny_loadName_cell hk o5 hl y6 h
 ·exact wpAny_loadName_free hk o5 hl y6 h hc
theorem dK (C:af κ A Γ) {x:Str} {v:PV} (e:fj Γ loc x=some v):fU κ A loc H (eval (.Name x pos) κ.env) v:=by
 unfold fj at e;induction hd:seq x "__debug__" with|true=>rw[hd] at e;exact nS e|false=>
 rw[hd,cond_false] at e;refine bS e λk hk e=>?_;rw[dI,←C.scope] at hk;have B8:=rD hd;have o6:ax x loc=some v→fU κ A loc H (eval (.Name x pos) κ.env) v:=λhv p s I Q E hQ=>by refine aG (I.ei.vars x v hv) λu r V=>?_;exact wpAny_Name (o4 C.kind V (hQ p s u I .refl r)) B8
 induction k using NameKind.casesOn with|«local»=>exact o6 e|cell=>exact o6 e|free=>exact o6 e|globalImplicit=>refine aG (C.glob x v e) λu eq1 hu=>?_;subst eq1;exact λp s I Q E hQ=>cC C hk I.hi.gV hu B8 (hQ p s u I .refl (.glob u))|_=>exact nS e
theorem gF (c:Bool) (a b:PV):ct c a b=bif c then a else b:=by induction a using PV.casesOn with|bool x=>induction b using PV.casesOn <;> induction c <;> rfl|int x=>induction b using PV.casesOn <;> induction c <;> rfl|str x=>induction b using PV.casesOn <;> induction c <;> rfl|lst x=>induction b using PV.casesOn <;> induction c <;> rfl|_=>rfl
theorem rE {w:World} {P:Fz} {ι:bq} {c:Bool} {u:Value} {a b:PV} (ht:c=true→Rv w P ι u a) (hf:c=false→Rv w P ι u b):Rv w P ι u (ct c a b):=Eq.substr (p:=λv=>Rv w P ι u v) (gF c a b) (match c,ht,hf with|true,h,_=>h rfl|false,_,h=>h rfl)
theorem xm {w:World} {P:Fz} {ι:bq} {u:Value} {a b:PV} (h:Rv w P ι u a):Rv w P ι u (ct true a b):=rE (λz=>h) (λq=>tF q)
theorem mergeF {w:World} {P:Fz} {ι:bq} {u:Value} {a b:PV} (h:Rv w P ι u b):Rv w P ι u (ct false a b):=rE (λq=>fT q) (λz=>h)
theorem fV {e:Expr} {r:List Expr} (h:noStar (e::r)=true):isStar e=false∧noStar r=true:=⟨Bool.not_inj (Bool.and_eq_true_iff.mp h).1,(Bool.and_eq_true_iff.mp h).2⟩
theorem qQ (env:Env) {e:Expr} {r:List Expr} (h:isStar e=false):starEach (e::r) env=(false,eval e env)::starEach r env:=by induction e using Expr.casesOn <;> first | rfl | exact tF h
theorem bJ (env:Env) {es:List Expr} (h:noStar es=true):starEach es env=es.map λe=>(false,eval e env):=by induction es with|nil=>rfl|cons e r ih=>exact (qQ env (fV h).1).trans (congrArg _ (ih (fV h).2))
theorem cW (pos:Pos) (env:Env) (es:List Expr):backTo pos (es.map λe=>(false,eval e env))=es.map λe=>(false,eval e env):=by unfold backTo;rw[List.map_map];rfl
abbrev mN (κ:Cx) (A:Around) (loc:Loc) (H:Hp) (f:Expr→R1):Prop:=∀e gd v,f e=some (gd,v)→AllP gd→fU κ A loc H (eval e κ.env) v
abbrev Nc (κ:Cx) (A:Around) (loc:Loc) (H:Hp) (f:Expr→RB):Prop:=∀e gd b,f e=some (gd,b)→AllP gd→CK κ A loc H (isTrue e κ.env (eval e κ.env)) b
variable {f:Expr→R1} {fb:Expr→RB}
theorem bR (ih:mN κ A loc H f):∀{es:List Expr} {gd:List Prop} {xs:List PV},fO f es=some (gd,xs)→AllP gd→∀{p s},Inv κ loc H p s→ ∀{Q:List Value→Shared→Prop} {E:Value→Shared→Prop},(∀p' s' vs,Inv κ loc H p' s'→To κ p s p' s'→ux κ p' vs xs→Q vs s')→wpAny κ.M A (spliced (es.map λe=>(false,eval e κ.env))) Q E s:=by intro es;induction es with|nil=>intro gd xs h _ p s I Q E hQ;refine aj (Prod.mk.inj (Option.some.inj h)) λae bX=>?_;subst ae;subst bX;exact Calls.spliced_nil (hQ p s [] I .refl .nil)|cons e r IH=>intro gd xs h hg p s I Q E hQ;refine bP h λga a ha h=>?_;refine bP h λgb b hb h=>?_;refine aj (Prod.mk.inj (Option.some.inj h)) λae bX=>?_;subst ae;subst bX;refine aj hg.append λh1 h2=>?_;refine Calls.spliced_cons (ih e ga a ha h1 p s I _ _ λp1 s1 v I1 T1 r1=>IH hb h2 I1 λp2 s2 vs I2 T2 r2=>?_);exact hQ p2 s2 (v::vs) I2 (T1.trans T2) (.cons (T2.rv r1) r2)
theorem mO:∀{es:List Expr} {gd:List Prop} {xs:List PV},fO f es=some (gd,xs)→xs.length=es.length:=by intro es;induction es with|nil=>intro gd xs h;refine aj (Prod.mk.inj (Option.some.inj h)) λae bX=>?_;subst ae;subst bX;rfl|cons e r IH=>intro gd xs h;refine bS h λa ha h=>?_;refine bS h λb hb h=>?_;refine aj (Prod.mk.inj (Option.some.inj h)) λae bX=>?_;subst ae;subst bX;rw[List.length_cons,List.length_cons,IH hb]
theorem CL (ih:mN κ A loc H f) {l r:Expr} {t:Sem Value} {op:Value→Value→Sem Value} {F:PV→PV→R1} (ht:∀(Q:Value→Shared→Prop) (E:Value→Shared→Prop) s,wpAny κ.M A (eval l κ.env) (λa s1=>wpAny κ.M A (eval r κ.env) (λb s2=>wpAny κ.M A (op a b) Q E s2) E s1) E s→wpAny κ.M A t Q E s) (Nd:∀{p s a b x y gd z},Inv κ loc H p s→RV κ p a x→RV κ p b y→F x y=some (gd,z)→AllP gd→Pu κ.g A p.ι p.P s (op a b) z) (e:((f l).bind λa=>qH (f r) λb=>(F a.2 b).map λc=>(a.1++c.1,c.2))=some (gd,z)) (hg:AllP gd):fU κ A loc H t z:=by refine bP e λga va ha e=>?_;refine bP e λgb vb hb e=>?_;refine bP e λgc c hc e=>?_;refine mP hc λVz c' hd hc=>?_;refine aj (Prod.mk.inj hc) λae bX=>?_;subst ae;subst bX;refine aj (Prod.mk.inj (Option.some.inj e)) λae bX=>?_;subst ae;subst bX;refine aj hg.append λh2 Ug=>?_;refine aj Ug.append λh1 h3=>?_;intro p s I Q E hQ;refine ht Q E s (ih l _ _ ha h1 p s I _ _ λp1 s1 u I1 T1 r1=>ih r _ _ hb h2 p1 s1 I1 _ _ λp2 s2 u2 I2 T2 r2=>?_);exact (Nd I2 (T2.rv r1) r2 hd h3).up I2 (T1.trans T2) hQ
theorem CM (ih:mN κ A loc H f) (GS:Nc κ A loc H fb) {t a b:Expr} {v:PV} (e:((fb t).bind λc=>(f a).bind λx=>(f b).bind λy=>some (c.1++(x.1.map (c.2=true→·)++y.1.map (c.2=false→·)),ct c.2 x.2 y.2))=some (gd,v)) (hg:AllP gd):fU κ A loc H (eval (.IfExp t a b pos) κ.env) v:=(show GO ((fb t).bind λc=>(f a).bind λx=>(f b).bind λy=>some (c.1++(x.1.map (c.2=true→·)++y.1.map (c.2=false→·)),ct c.2 x.2 y.2)) (fU κ A loc H (eval (.IfExp t a b pos) κ.env)) from .bd λgc c hc=>.bd λga va ha=>.bd λgb vb hb=>.sm λhg p s I Q E hQ=>wpAny_IfExp (GS t _ _ hc hg.append.1 p s I _ _ λp1 s1 I1 T1=>by have hg:=hg.append.2.append;induction c with|true=>exact (ih a _ _ ha (hg.1.iL rfl)).use I1 T1 λp' s' u I' T' r=>hQ p' s' u I' T' (xm r)|false=>exact (ih b _ _ hb (hg.2.iL rfl)).use I1 T1 λp' s' u I' T' r=>hQ p' s' u I' T' (mergeF r))) _ _ e hg
theorem and_val {x y:Expr} {r:List Expr} {va vb:PV} {t:Bool} (h1:fU κ A loc H (eval x κ.env) va) (ht:uO H va=some t) (h2:t=true→fU κ A loc H (eval (.BoolOp .And (y::r) pos) κ.env) vb):fU κ A loc H (eval (.BoolOp .And (x::y::r) pos) κ.env) (ct t vb va):=λp s I Q E hQ=>BoolOp_and (h1 p s I _ _ λp1 s1 u I1 T1 r1=>(gZ I1 r1 ht).to I1 λp2 s2 I2 T2=>match t,h2,hQ with|true,h2,hQ=>(h2 rfl).use I2 (T1.trans T2) λp' s' u I' T' r=>hQ p' s' u I' T' (xm r)|false,_,hQ=>hQ p2 s2 u I2 (T1.trans T2) (mergeF (T2.rv r1)))
theorem or_val {x y:Expr} {r:List Expr} {va vb:PV} {t:Bool} (h1:fU κ A loc H (eval x κ.env) va) (ht:uO H va=some t) (h2:t=false→fU κ A loc H (eval (.BoolOp .Or (y::r) pos) κ.env) vb):fU κ A loc H (eval (.BoolOp .Or (x::y::r) pos) κ.env) (ct t va vb):=λp s I Q E hQ=>BoolOp_or (h1 p s I _ _ λp1 s1 u I1 T1 r1=>(gZ I1 r1 ht).to I1 λp2 s2 I2 T2=>by induction t with|false=>exact (h2 rfl).use I2 (T1.trans T2) λp' s' u I' T' r=>hQ p' s' u I' T' (mergeF r)|true=>exact hQ p2 s2 u I2 (T1.trans T2) (xm (T2.rv r1)))
theorem AN (ih:mN κ A loc H f) {op:BoolOp} {es:List Expr}:∀{gd:List Prop} {v:PV},y3 H f op es=some (gd,v)→AllP gd→fU κ A loc H (eval (.BoolOp op es pos) κ.env) v:=by
 have:GO (y3 H f op es) (fU κ A loc H (eval (.BoolOp op es pos) κ.env)):=by induction es with|nil=>exact .no rfl|cons x r IH=>induction r using List.casesOn with|nil=>exact λg v e hg p s I Q E hQ=>BoolOp_one (ih x _ _ e hg p s I Q E hQ)|cons y r=>exact .bd λga va ha=>.bs λt ht=>.bd λgb vb hb=>match op,IH,hb with|.And,IH,hb=>.sm λhg=>and_val (ih x _ _ ha hg.append.1) ht λq=>IH _ _ hb (hg.append.2.iL q)|.Or,IH,hb=>.sm λhg=>or_val (ih x _ _ ha hg.append.1) ht λq=>IH _ _ hb (hg.append.2.iL q)
 exact λ{_ _} e hg=>this _ _ e hg
theorem CN (GS:Nc κ A loc H fb) {op:BoolOp} {es:List Expr}:∀{gd:List Prop} {v:Bool},Cu fb op es=some (gd,v)→AllP gd→CK κ A loc H (allTrue op es κ.env) v:=by
 have:GO (Cu fb op es) (CK κ A loc H (allTrue op es κ.env)):=by
  induction es with
  | nil=>induction op using BoolOp.casesOn with|And=>exact .sm λz p s I Q E hQ=>wpAny_allTrue_And_nil (hQ p s I .refl)|Or=>exact .sm λz p s I Q E hQ=>wpAny_allTrue_Or_nil (hQ p s I .refl)
  | cons x r IH=>
   refine .bd λga va ha=>.bd λgb vb hb=>?_;induction op using BoolOp.casesOn with
   | And=>refine .sm λhg p s I Q E hQ=>wpAny_allTrue_And_cons (GS x _ _ ha hg.append.1 p s I _ _ λp1 s1 I1 T1=>?_);have hg:=hg.append.2;induction va with|true=>exact (IH _ _ hb (hg.iL rfl)).use I1 T1 hQ|false=>exact hQ p1 s1 I1 T1
   | Or=>refine .sm λhg p s I Q E hQ=>wpAny_allTrue_Or_cons (GS x _ _ ha hg.append.1 p s I _ _ λp1 s1 I1 T1=>?_);have hg:=hg.append.2;induction va with|false=>exact (IH _ _ hb (hg.iL rfl)).use I1 T1 hQ|true=>exact hQ p1 s1 I1 T1
 exact λ{_ _} e hg=>this _ _ e hg
def Pb (κ:Cx) (A:Around) (loc:Loc) (H:Hp) (pos:Pos) (x:PV) (ops:List CmpOp) (rs:List Expr) (c:Bool):Prop:=∀p s a,Inv κ loc H p s→RV κ p a x→∀(Q:Value→Shared→Prop) (E:Value→Shared→Prop),(∀p' s' u,Inv κ loc H p' s'→To κ p s p' s'→RV κ p' u (.bool c)→Q u s')→wpAny κ.M A (compareChain pos a ops (evalEach rs κ.env)) Q E s
def Pc (κ:Cx) (A:Around) (loc:Loc) (H:Hp) (pos:Pos) (x:PV) (ops:List CmpOp) (rs:List Expr) (c:Bool):Prop:=∀p s a,Inv κ loc H p s→RV κ p a x→∀(Q:Bool→Shared→Prop) (E:Value→Shared→Prop),(∀p' s',Inv κ loc H p' s'→To κ p s p' s'→Q c s')→wpAny κ.M A (testChain pos a ops (evalEach rs κ.env)) Q E s
section
variable {pos:Pos} {x b:PV} {op J3:CmpOp} {ops:List CmpOp} {r r':Expr} {rs:List Expr} {c d:Bool}
theorem CO (h1:fU κ A loc H (eval r κ.env) b) (hc:mG op x b=some c):Pb κ A loc H pos x [op] [r] c:=λp s a I ra Q E hQ=>chain_last (h1 p s I _ _ λp1 s1 u I1 T1 r1=>(fS I1.hi.fz (T1.rv ra) r1 hc).up I1 T1 hQ)
theorem CP (h1:fU κ A loc H (eval r κ.env) b) (hc:mG op x b=some c):Pc κ A loc H pos x [op] [r] c:=λp s a I ra Q E hQ=>test_last (h1 p s I _ _ λp1 s1 u I1 T1 r1=>(fS I1.hi.fz (T1.rv ra) r1 hc).up I1 T1 λp2 s2 v I2 T2 rv=>Eq.substr (p:=λv=>wpAny κ.M A (truthy v) Q E s2) rv.bool_inv (wpAny_truthy_bool (hQ p2 s2 I2 T2)))
theorem CQ (h1:fU κ A loc H (eval r κ.env) b) (hc:mG op x b=some c) (k:c=true→Pb κ A loc H pos b (J3::ops) (r'::rs) d):Pb κ A loc H pos x (op::J3::ops) (r::r'::rs) (c&&d):=λp s a I ra Q E hQ=>chain_link (h1 p s I _ _ λp1 s1 u I1 T1 r1=>(fS I1.hi.fz (T1.rv ra) r1 hc).to I1 λp2 s2 v I2 T2 rv=>by have:=rv.bool_inv;subst this;exact wpAny_truthy_bool (by induction c with|true=>exact k rfl p2 s2 u I2 (T2.rv r1) _ _ λp' s' u I' T' r=>hQ p' s' u I' ((T1.trans T2).trans T') r|false=>exact hQ p2 s2 _ I2 (T1.trans T2) (.bool false)))
theorem CR (h1:fU κ A loc H (eval r κ.env) b) (hc:mG op x b=some c) (k:c=true→Pc κ A loc H pos b (J3::ops) (r'::rs) d):Pc κ A loc H pos x (op::J3::ops) (r::r'::rs) (c&&d):=λp s a I ra Q E hQ=>test_link (h1 p s I _ _ λp1 s1 u I1 T1 r1=>(fS I1.hi.fz (T1.rv ra) r1 hc).to I1 λp2 s2 v I2 T2 rv=>by have:=rv.bool_inv;subst this;exact wpAny_truthy_bool (match c,k,hQ with|true,k,hQ=>k rfl p2 s2 u I2 (T2.rv r1) _ _ λp' s' I' T'=>hQ p' s' I' ((T1.trans T2).trans T')|false,_,hQ=>hQ p2 s2 I2 (T1.trans T2)))
end
theorem kO (ih:mN κ A loc H f) :∀(rs:List Expr) (x:PV),GO (lN f x ops rs) λc=>Pb κ A loc H pos x ops rs c∧Pc κ A loc H pos x ops rs c:=by
 induction ops with|nil=>exact λrs x=>.no rfl|cons op ops IH=>
  intro rs x;induction rs using List.casesOn with|nil=>exact .no (by induction ops using List.casesOn <;> rfl)|cons r rs=>
  induction ops using List.casesOn with
  | nil=>induction rs using List.casesOn with|cons _ _=>exact .no rfl|nil=>exact .bd λg b hb=>.bs λc hc=>.sm λhg=>⟨CO (ih r _ _ hb hg) hc,CP (ih r _ _ hb hg) hc⟩
  | cons J3 ops=>induction rs using List.casesOn with|nil=>exact .no rfl|cons r' rs=>exact .bd λg b hb=>.bs λc hc=>.bd λg' d hd=>.sm λhg=>⟨CQ (ih r _ _ hb hg.append.1) hc λq=>(IH _ _ _ _ hd (hg.append.2.iL q)).1,CR (ih r _ _ hb hg.append.1) hc λq=>(IH _ _ _ _ hd (hg.append.2.iL q)).2⟩
theorem xn (ih:mN κ A loc H f) {l:Expr} {rs:List Expr} {gc:List Prop} (hm:lastMarks ops rs=false) (ha:f l=some (gc,x)) (Pd:AllP gc) (hc:lN f x ops rs=some (gd,c)) (hg:AllP gd) : fU κ A loc H (eval (.Compare l ops rs pos) κ.env) (.bool c)∧∀p s,Inv κ loc H p s→∀(Q:Bool→Shared→Prop) (E:Value→Shared→Prop) whole,(∀p' s',Inv κ loc H p' s'→To κ p s p' s'→Q c s')→wpAny κ.M A (isTrue (.Compare l ops rs pos) κ.env whole) Q E s:=by
 constructor
 ·intro p s I Q E hQ;rw[arm_eval_Compare,markedEach_of_false _ _ _ hm];exact wpAny_bind (ih l _ _ ha Pd p s I _ _ λp1 s1 u I1 T1 r1=>(kO ih _ _ _ _ hc hg).1 _ _ _ I1 r1 _ _ λp' s' u I' T' r=>hQ p' s' u I' (T1.trans T') r)
 ·intro p s I Q E whole hQ;rw[arm_isTrue_Compare,markedEach_of_false _ _ _ hm];exact wpAny_bind (ih l _ _ ha Pd p s I _ _ λp1 s1 u I1 T1 r1=>(kO ih _ _ _ _ hc hg).2 _ _ _ I1 r1 _ _ λp' s' I' T'=>hQ p' s' I' (T1.trans T'))
end
section
variable {κ:Cx} {A:Around} {Γ:Ctx} {loc:Loc} {H:Hp} {p:Pt} {s:Shared} {a b:Value} {x y z:PV} {c:Bool} {gd:List Prop} {f:Expr→R1} {fb:Expr→RB}
theorem lU {w:World} {P:Fz} {ι:bq} {v:Value} {x:PV} (r:Rv w P ι v x) (h:bC x=true):handedIn v=true:=r.PW (R:=λv=>handedIn v=true) (Bool.not_inj h) rfl (λz=>rfl) (λz z=>rfl) (λz z=>rfl) λz=>rfl
theorem AP {w:World} {P:Fz} {ι:bq} {u:Value} {v:PV} {i:Option Int} (h:MW v=some i) (r:Rv w P ι u v):IsPart u i:=by induction v using PV.casesOn with|none=>exact au (R:=IsPart u) h (r.et (R:=λu=>IsPart u Option.none) .none)|int i=>exact au (R:=IsPart u) h (r.bx (R:=λu=>IsPart u (some i)) λt=>.int i t)|_=>exact nS h
theorem o7 (ih:mN κ A loc H f) {lo:Option Expr}:GO (intOf (lo.map f)) λl=>∀{p s},Inv κ loc H p s→∀{Q:Value→Shared→Prop} {E:Value→Shared→Prop},(∀p' s' v,Inv κ loc H p' s'→To κ p s p' s'→IsPart v l→Q v s')→wpAny κ.M A (evalPart lo κ.env) Q E s:=by induction lo with|none=>exact .sm λ_ {p s} I Q E hQ=>by rw[evalPart_none];exact wpAny_pure (hQ p s .none I .refl .none)|some x=>exact .bd λg v hv=>.map λi hi hg {p s} I Q E hQ=>by rw[evalPart_some];exact ih x _ _ hv hg p s I _ _ λp1 s1 u I1 T1 r=>hQ _ _ _ I1 T1 (AP hi r)
theorem CS (ih:mN κ A loc H f) {v:Expr} {lo hi:Option Expr} {q:Pos} : GO ((f v).bind λa=>(intOf (lo.map f)).bind λl=>(intOf (hi.map f)).bind λu=>(sD a.2 l.2 u.2).bind λc=>some (a.1++(l.1++(u.1++c.1)),c.2)) (fU κ A loc H (eval (.Subscript v (.Slice lo hi .none q) pos) κ.env)):=.bd λga a ha=>.bd λgl l hl=>.bd λgu u hu=>.bd λgc c hc=>.sm λhg p s I Q E hQ=>Subscript_ (ih v _ _ ha hg.append.1 p s I _ _ λp1 s1 va I1 T1 ra=>wpAny_Slice (o7 ih _ _ hl hg.append.2.append.1 I1 λp2 s2 vl I2 T2 pl=>o7 ih _ _ hu hg.append.2.append.2.append.1 I2 λp3 s3 vu I3 T3 pu=>evalPart_none κ.env▸wpAny_pure (aj (I3.keep (h':=s3.heap.push {cls:=.type "slice",data:=.fields #[vl,vu,.none]}) (az _ _) (Nat.le_refl _)) λI4 T4=>(xb I4.hi.fz (T4.rv (T3.rv (T2.rv ra))) (.new _ _ _ _) pl pu hc hg.append.2.append.2.append.2).up I4 (((T1.trans T2).trans T3).trans T4) hQ)))
theorem uX {value slice:Expr} (I:Inv κ loc H p s) (ra:RV κ p a x) (rb:RV κ p b y):GO (y0 H x y) λz=>uw κ.g A p.ι p.P s value slice z a b:=.Mp (λi hi=>.map λj hj hg=>cY (I.obj ((dJ hi).1▸ra) (dJ hi).2) λb' d e w z=>cY z λvs n ho hz r=>Eq.substr (p:=λa=>uw κ.g A p.ι p.P s value slice (ez i.2 j) a b) e ((PV.cy hj▸rb:RV κ p b (.int j)).bx (R:=λb=>uw κ.g A p.ι p.P s value slice (ez i.2 j) (.ref b') b) λu=>oO ho hz r hg.1 (of_decide_eq_true hg.2.1))) (Ay I.hi.fz ra rb)
theorem jn {es:List Expr} (h:gp es=true):noStar es=true∧es.length≤sizeLine:=by refine aj (Bool.and_eq_true_iff.mp h) λa b=>?_;exact ⟨a,cL b⟩
theorem y9 (ih:mN κ A loc H f) {es:List Expr} {t:Sem Value} {k:List Value→Sem Value} {K:List PV→PV} (ht:∀(Q:Value→Shared→Prop) (E:Value→Shared→Prop) s,wpAny κ.M A (spliced (backTo pos (starEach es κ.env))) (λvs s1=>wpAny κ.M A (k vs) Q E s1) E s→wpAny κ.M A t Q E s) (hk:∀{p s vs xs},Inv κ loc H p s→ux κ p vs xs→xs.length≤sizeLine→Pu κ.g A p.ι p.P s (k vs) (K xs)):GO (bif gp es then (fO f es).map λa=>(a.1,K a.2) else Option.none) (fU κ A loc H t):=.cond (λhc=>.map λa ha hg p s I Q E hQ=>ht Q E s (by rw[bJ κ.env (jn hc).1,cW];exact bR ih ha hg I λp1 s1 vs I1 T1 r=>(hk I1 r (by rw[mO ha];exact (jn hc).2)).up I1 T1 hQ)) λz=>.no rfl
theorem zd {v:Expr} (h:eM v=true) (a:Str) (env:Env):attributeBase v a env (eval v env)=eval v env:=by induction v using Expr.casesOn <;> first | rfl | exact fT h
theorem uY (C:af κ A Γ) (I:Inv κ loc H p s) {u:Value} (ru:RV κ p u x):GO (Cw Γ H x nm) (GR κ A loc H p s (getAttr u nm true)):=
 .bs λi hi=>.bs λk hA gd z e hg Q E hQ=>cY (I.obj ((cB hi).1▸ru) (cB hi).2) λb d eu fL z=>cY z λes n ho hd fe=>by
 have Pe:=C.attr _ _ _ hA
 induction k using AK.casesOn with|field=>subst eu;refine mS e λv hv e=>?_;refine aj (Prod.mk.inj e) λe1 e2=>aG ((fe.look nm).1 v hv) λv' hl rv=>fK Pe λp1 p2 z=>aG z λattr p3 p4=>?_;exact get_value I.hi.gV.1 (jm ho hd) (plainGet_of p1).1 (findObj_own p2 p3 p4 hl) (lU rv (e1▸hg).1) (aj (I.toks (Nat.le_succ _)) λI' T'=>hQ _ _ _ I' T' (e2▸rv))|prop fa=>refine mP e λgx v hv e=>aj (Prod.mk.inj e) λe1 e2=>aj (e1▸hg:AllP (gx++[bC v=true])).append λh2 h3=>fK Pe λp1 p2 z=>Ce z λpr rest p3 p4 p5 p6=>aj (I.toks (Nat.le_succ _)) λI' T'=>?_;refine Eq.substr (p:=λu=>wpAny κ.M A (getAttr u nm true) Q E s) eu (get_bind I.hi.gV.1 (jm ho hd) (plainGet_of p1).1 (findObj_data (aG (any_some p2) λcd hc y=>by rw[hc];rfl) p3 p4 p5) (plainGet_of p1).2 (wpAny_call (prop_get (s:={s with toks:=s.toks+1}) I.hi.gV.1 p6 ?_)));refine (C.fns _ _ _ _ _ hv h2).2 κ.Bc p _ [.ref b] (HI.push I') (.cons (eu▸ru) .nil) _ λp2 s2 u Y T Pf=>aj (I'.back Y T) λI2 T2=>?_;dsimp only;rw[handedOut_of (lU Pf h3.1)];exact wpAny_pure (hQ _ _ _ I2 (T'.trans T2) (e2▸Pf))|lM _=>exact nS e
theorem GU (ih:mN κ A loc H f) (C:af κ A Γ) {v:Expr} :GO (bif eM v then qH (f v) λb=>Cw Γ H b nm else Option.none) (fU κ A loc H (eval (.Attribute v nm pos) κ.env)):=.cond (λhb=>.bd λgb b hv=>.bm λgd z e h2 h1 p s I Q E hQ=>by rw[arm_eval_Attribute,zd hb];exact wpAny_bind (ih v _ _ hv h1 p s I _ _ λp1 s1 u I1 T1 ru=>wpAny_bind (wpAny_standAt (wpAny_bind (wpAny_holding (uY C I1 ru _ _ e h2 _ _ λp2 s2 w I2 T2 rw=>wpAny_bind (wpAny_letTemporaryGo (wpAny_pure (hQ _ _ _ I2 (T1.trans T2) rw))))))))) λy=>.no rfl
end
theorem jZ (env:Env) (es:List Expr):(es.map λe=>(false,eval e env)).any (·.1)=false:=by induction es with|nil=>rfl|cons e r ih=>simp only[List.map_cons,List.any_cons,ih,Bool.or_false]
theorem xo (env:Env) (es:List Expr):(es.map λe=>(false,eval e env)).all (λx=>!x.1)=true:=by induction es with|nil=>rfl|cons e r ih=>simp only[List.map_cons,List.all_cons,ih,Bool.not_false,Bool.and_true]
theorem dM {M:Model} {s:Shared} {f:Value} {es:List Expr} {Q:Args→Shared→Prop} (h:wpAny M A (spliced (es.map λe=>(false,eval e env))) (λvs s'=>Q ⟨vs,[]⟩ s') E s):wpAny M A (evalArgs f true (es.map λe=>(false,eval e env)) []) Q E s:=by induction es using List.casesOn with|nil=>unfold evalArgs;show wpAny M A (spliced [] >>= _) Q E s;refine wpAny_bind (wpAny_mono h (λvs s' h'=>?_) λz z x=>x);refine wpAny_bind (wpAny_pure ?_);refine wpAny_holding ?_;exact wpAny_bind (wpAny_pure (wpAny_bind (wpAny_pure (wpAny_pure h'))))|cons e r=>exact evalArgs_plain h
theorem bc {M:Model} {s:Shared} {o:Expr} {args:List Expr} (hc:jV o args apos pos=true) (h:∀pl,wpAny M A (eval o env) (λov ag=>wpAny M A (getMethod ov name pl) (λfx cU=>wpAny M A (callWith pos fx.1 fx.2 (args.map λe=>(false,eval e env)) []) Q E cU) E ag) E s) : wpAny M A (eval (.Call (.Attribute o name apos) args [] pos) env) Q E s:=by
 refine aj (Bool.and_eq_true_iff.mp hc) λhb Nf=>?_;refine aj (Bool.and_eq_true_iff.mp hb) λhb hl=>?_;refine aj (Bool.and_eq_true_iff.mp hb) λhb hs=>?_;rw[arm_eval_Call,zd hb];refine wpAny_bind (wpAny_mono (h (do return (←importBound o env).getD true)) (λov ag fq=>wpAny_bind (wpAny_standAt ?_)) λz z e=>e);have SD:backToKw pos (keywordEach [] env)=[]:=rfl;have Ng:methodCallForm (args.length+([]:List Keyword).length) (backTo pos (starEach args env)) (backToKw pos (keywordEach [] env))=true:=by unfold methodCallForm;rw[bJ env hs,cW,xo,SD];simp only[List.all_nil,Bool.true_and,List.length_nil,List.isEmpty_nil,if_true,Nat.add_zero,decide_eq_true_eq];have:args.length+1≤30:=Nat.le_of_ble_eq_true hl;lia
 have Qi:methodCallPos true o env apos pos=pure pos:=by
  unfold methodCallPos;have:(apos.endLine==pos.line)=true:=by rw[beq_iff_eq];exact Nat.eq_of_beq_eq_true Nf
  simp[this]
 unfold methodCall;rw[Ng];unfold calleeOf;rw[if_pos rfl];refine wpAny_bind (wpAny_holding (wpAny_mono fq (λfx cU xr=>?_) λz z e=>e));obtain ⟨f,first⟩:=fx;refine wpAny_bind (wpAny_of_eq Qi ?_);rw[bJ env hs,cW,SD];exact xr
theorem aq {M:Model} {s:Shared} {first:List Value} {es:List Expr}  (h:wpAny M A (spliced (es.map λe=>(false,eval e env))) (λvs ag=>wpAny M A (call (.builtin id) (first++vs)) Q E ag) E s) : wpAny M A (callWith pos (.builtin id) first (es.map λe=>(false,eval e env)) []) Q E s:=callWith_builtin (jZ env es) (dM h)
theorem dN {M:Model} {s:Shared} {first:List Value} {es:List Expr}  (h:wpAny M A (spliced (es.map λe=>(false,eval e env))) (λvs ag=>wpAny M A (call (.type T) (first++vs)) Q E ag) E s) : wpAny M A (callWith pos (.type T) first (es.map λe=>(false,eval e env)) []) Q E s:=PyProof.Rows.callWith_type (jZ env es) (dM h)
theorem eN {M:Model} {s:Shared} {f:Addr} {first:List Value} {es:List Expr}  (h:wpAny M A (spliced (es.map λe=>(false,eval e env))) (λvs ag=>(ag.heap.get? f=some o∧o.data=.func fd)∧wpAny M A (call (.ref f) (first++vs)) Q E ag) E s) : wpAny M A (callWith pos (.ref f) first (es.map λe=>(false,eval e env)) []) Q E s:=callWith_function (dM h)
theorem lV {M:Model} {s:Shared} {b:xe} {es:List Expr}  (h:wpAny M A (spliced (es.map λe=>(false,eval e env))) (λvs ag=>wpAny M A (call (jY b) vs) Q E ag) E s) : wpAny M A (callWith pos (jY b) [] (es.map λe=>(false,eval e env)) []) Q E s:=by induction b using xe.casesOn <;> first | exact aq h | exact dN h
section
variable {κ:Cx} {A:Around} {Γ:Ctx} {loc:Loc} {H:Hp} {p:Pt} {s:Shared} {a b:Value} {x y z:PV} {c:Bool} {gd:List Prop} {f:Expr→R1} {fb:Expr→RB} {vs:List Value} {xs:List PV}
theorem aT.one? {w:World} {P:Fz} {ι:bq} {v:PV} {R:List Value→Prop} (r:aT w P ι vs xs) (e:one? xs=some v) (k:∀u,Rv w P ι u v→R [u]):R vs:=(yZ e▸r:aT w P ι vs [v]).dv λu us r1 r2=>r2.eL (R:=λus=>R (u::us)) (k u r1)
theorem Inv.exc (I:Inv κ loc H p s) {k:Nat} {m:List Nat} {u:Value} {R:Value→Prop} (ru:RV κ p u (.ref k)) (hH:aO k H=some (.exc m)) (c:∀e t tk,s.heap.ExcAt e "ValueError" (.ref t)→s.heap.TupAt t [.str (S m) tk]→R (.ref e)):R u:=cY (I.obj ru hH) λb d e y z=>yR z λoe ws t nt tk e1 e2 e3 z=>lG z λe4 e5 e6 e7=>Eq.substr e (c b d tk ⟨oe,ws,e1,e2,e3,e4⟩ ⟨t,nt,e5,e6,e7⟩)
theorem Nh (I:Inv κ loc H p s) {u:Value} {v:PV} (ru:RV κ p u v) (h:MS H v=some T):GR κ A loc H p s (call (.type "type") [u]) (.glob (.type T)):=by have R:∀{Q:Value→Shared→Prop},(∀p' s' u,Inv κ loc H p' s'→To κ p s p' s'→RV κ p' u (.glob (.type T))→Q u s')→Q (.type T) s:=λhQ=>hQ p s _ I .refl (.glob _);intro Q E hQ;have q:=R hQ;clear R hQ;induction v using PV.casesOn with|int _=>exact ru.bx (R:=λu=>wpAny κ.M A (call (.type "type") [u]) Q E s) λt=>call_type_of (typeIs_int s _ _) (by decide) (Option.some.inj h▸q)|str _=>exact ru.aZ (R:=λu=>wpAny κ.M A (call (.type "type") [u]) Q E s) λt z=>call_type_of (typeIs_str s _ _) (by decide) (Option.some.inj h▸q)|none=>exact ru.et (R:=λu=>wpAny κ.M A (call (.type "type") [u]) Q E s) (call_type_of (Tx:="NoneType") rfl (by decide) (Option.some.inj h▸q))|bool _=>exact ru.eY (R:=λu=>wpAny κ.M A (call (.type "type") [u]) Q E s) (call_type_of (Tx:="bool") rfl (by decide) (Option.some.inj h▸q))|ref k=>exact mS h λi hi e=>I.exc ((kG hi).1▸ru) (kG hi).2 (R:=λu=>wpAny κ.M A (call (.type "type") [u]) Q E s) λea t tk x1 x2=>call_type_of x1.typeIs (by decide) (e▸q)|_=>exact nS h
theorem GV (C:af κ A Γ) (I:Inv κ loc H p s) {u:Value} {v:PV} {i:Nat×List PV} (hn:Γ.nh=true) (ru:RV κ p u v) (hi:jJ H v=some i):GR κ A loc H p s (call (.type "list") [u]) (.lst i.2):=λQ E hQ=>
 cY (I.obj ((iV hi).1▸ru) (iV hi).2) λb d e y z=>cY z λws n ho hz r=>Eq.substr (p:=λu=>wpAny κ.M A (call (.type "list") [u]) Q E s) e (qM (C.hd hn) ho (by rw[r.length];exact hz) λh' tk m hk hd ht=>
  have gr:cm p.P s.heap (p.P.put s.heap.objs.size (jX ws m)) h':=cm.put hk I.hi.fz (bA _) hd
  hQ ⟨p.ι,_⟩ _ _ ⟨I.hi.grow gr,I.ei.grow gr⟩ ⟨⟨_,_,rfl⟩,ht,cm.step gr⟩ (.lst dH hz (aT.mono gr.le r)))
theorem Kb (C:af κ A Γ) (I:Inv κ loc H p s) {u:Value} {v:PV} {i:Nat×List Nat} (hf:fits i.2.length=true) (ru:RV κ p u v) (hi:excOf H v=some i):GR κ A loc H p s (call (.type "str") [u]) (.str i.2):=λQ E hQ=>I.exc ((kG hi).1▸ru) (kG hi).2 (R:=λu=>wpAny κ.M A (call (.type "str") [u]) Q E s) λea t tk x1 x2=>P.str_of_exc_one F.excStr_ValueError (Nat.lt_of_le_of_lt (Nat.add_le_add_left (Nat.le_of_ble_eq_true rfl) _) C.un) x1 x2 (hQ p s _ I .refl (.str _ _ (cL hf)))
theorem Kc (C:af κ A Γ) (I:Inv κ loc H p s) {u:Value} {v:PV} (ru:RV κ p u v) (b:xe):GO (MT Γ.nh H v b) (GR κ A loc H p s (call (jY b) [u])):=by induction b using xe.casesOn with|len=>exact .map λn hn z=>(uL I.hi.fz ru hn).ev I|chr=>exact .map λn hn hg=>(AA (PV.cy hn▸ru) hg.1).ev I|int=>exact .map λn hn z Q E hQ=>(PV.cy hn▸ru:RV κ p u (.int n)).bx (R:=λu=>wpAny κ.M A (call (.type "int") [u]) Q E s) λz=>call_int_int (hQ p s _ I .refl (.int _ _))|ty=>exact .map λT hT z=>Nh I ru hT|list=>exact .cond (λhn=>.map λi hi z=>GV C I hn ru hi) λz=>.no rfl|str=>exact .bs λi hi=>.cond (λhf=>.sm λz=>Kb C I hf ru hi) λz=>.no rfl
theorem uZ (C:af κ A Γ) (ih:mN κ A loc H f) {args:List Expr} : GO (bif d7 Γ nm&&noStar args then qH (fO f args) λvs=>II Γ H nm vs else Option.none) (fU κ A loc H (eval (.Call (.Name nm xp) args [] pos) κ.env)):=.cond (λhc=>.bd λga xs uy=>.bm (.Mp (λb hb=>.bs λv hv gd z e h2 h1 p s I Q E hQ=>by refine Call_ (cC C (aW C (Bool.and_eq_true_iff.mp hc).1).1 I.hi.gV (C.blt nm b hb) (aW C (Bool.and_eq_true_iff.mp hc).1).2 ?_);rw[bJ κ.env (Bool.and_eq_true_iff.mp hc).2,cW];exact lV (bR ih uy h1 I λp1 s1 vs I1 T1 AJ=>AJ.one? hv (R:=λvs=>wpAny κ.M A (call (jY b) vs) Q E s1) λu ru=>(Kc C I1 ru b _ _ e h2).up T1 hQ)) (.bs λv hv=>.bs λfa hf gd z e h2 h1 p s I Q E hQ=>aG (C.glob nm _ hv) λu eq1 hG=>aj (C.fns _ _ _ _ _ e h2) λz0 y=>gU z0 λo fd hK CT=>by refine Call_ (cC C (aW C (Bool.and_eq_true_iff.mp hc).1).1 I.hi.gV ((uP (eq1.symm.trans (PV.sP hf))▸hG:b6 κ.g nm (.ref fa))) (aW C (Bool.and_eq_true_iff.mp hc).1).2 ?_);rw[bJ κ.env (Bool.and_eq_true_iff.mp hc).2,cW];exact eN (o:=o) (fd:=fd) (bR ih uy h1 I λp1 s1 vs I1 T1 AJ=>⟨⟨I1.hi.gV.1 _ _ hK,CT⟩,wpAny_of_in1 (C.fns.use e h2 I1 T1 AJ hQ)⟩)))) λy=>.no rfl
theorem sY (C:af κ A Γ) {i:Nat×Addr×List (Str×PV)} (e:oR Γ i nm=some fa):gv κ.g i.2.1 nm (.lM fa)∧ax nm i.2.2=Option.none:=by
 refine bS e λk hA e=>?_;have Pe:=C.attr _ _ _ hA;induction k using AK.casesOn with
 | lM g=>have e:(bif (ax nm i.2.2).isNone then some g else Option.none)=some fa:=e;revert e;induction ax nm i.2.2 with|some _=>exact λe=>nS e|none=>exact λe=>⟨Option.some.inj e▸Pe,rfl⟩
 | _=>exact nS e
theorem jN (C:af κ A Γ) (I:Inv κ loc H p s) {u:Value} {i:Nat×Addr×List (Str×PV)} {pl:Sem Bool} (hi:c6 H x=some i) (hm:oR Γ i nm=some fa) (ru:RV κ p u x) {Q:Value×List Value→Shared→Prop} (h:∀s',Inv κ loc H p s'→To κ p s p s'→Q (.ref fa,[u]) s'):wpAny κ.M A (getMethod u nm pl) Q E s:=cY (I.obj ((cB hi).1▸ru) (cB hi).2) λb d e fL z=>cY z λes n ho hd fe=>aj (sY C hm) λz0 hn=>fK z0 λp1 p2 p3=>by subst e;exact method_fn (Q:=Q) (E:=E) I.hi.gV.1 (jm ho hd) (plainGet_of p1).1 (plainGet_of p1).2 p2 (beq_iff_eq.mp p3) (by show (lookIn nm (dictOf es n)).map _=_;rw[lookIn_dict,(fe.look nm).2 hn];rfl) (h _ I .refl)
def u0 (κ:Cx) (A:Around) (loc:Loc) (H:Hp) (nm:Str) (pl:Sem Bool) (pos:Pos) (args:List Expr) (p:Pt) (s:Shared) (u:Value) (v:PV):Prop:=∀(Q:Value→Shared→Prop) (E:Value→Shared→Prop),(∀p' s' w,Inv κ loc H p' s'→To κ p s p' s'→RV κ p' w v→Q w s')→ wpAny κ.M A (getMethod u nm pl) (λfx cU=>wpAny κ.M A (callWith pos fx.1 fx.2 (args.map λe=>(false,eval e κ.env)) []) Q E cU) E s
section
variable {pl:Sem Bool} {pos:Pos} {args:List Expr} {nm:Str} {k:List Nat} {u:Value} {gx:List Prop}
theorem o9 (ih:mN κ A loc H f) (I:Inv κ loc H p s) (ru:RV κ p u (.str k)) (uy:fO f args=some (gx,xs)) (AQ:AllP gx) (slot:Slot "str" nm id) (Qj:typeOf (.builtin id)=pure (.type "method_descriptor")) {v:PV} (hv:one? xs=some v) (kk:∀{p' s' w},Inv κ loc H p' s'→RV κ p' w v→RV κ p' u (.str k)→Pu κ.g A p'.ι p'.P s' (call (.builtin id) [u,w]) z):u0 κ A loc H nm pl pos args p s u z:=λQ E hQ=>getMethod_builtin (ru.aZ (R:=λu=>s.TypeIs u "str") λt y=>typeIs_str _ _ _) PySem.F.plainAttrs_str slot Qj (ru.aZ (R:=λu=>∀a,u=.ref a→∃o,s.heap.get? a=some o∧o.dict=Option.none) λt y a q=>nomatch q) (aq (bR ih uy AQ I λp1 s1 vs I1 T1 AJ=>(AJ.one? hv (R:=λvs=>Pu κ.g A p1.ι p1.P s1 (call (.builtin id) (u::vs)) z) λw jo=>kk I1 jo (T1.rv ru)).up I1 T1 hQ))
theorem xt (ih:mN κ A loc H f) (I:Inv κ loc H p s) (ru:RV κ p u (.str k)) (uy:fO f args=some (gx,xs)) (AQ:AllP gx):GO (MV nm k xs) (u0 κ A loc H nm pl pos args p s u):=.cond (λhj=>by induction k using List.casesOn with|cons _ _=>exact .no rfl|nil=>exact .bs λv hv=>.map λys hy hg=>o9 ih I ru uy AQ (aK.mp hj▸PySem.F.slot_str_join) PySem.F.type_str_join hv λI1 jo r1=>xd I1.hi.fz r1 (PV.ku hy▸jo) hg.1) λz=>.bs λv hv=>.bs λys hy=>.cond (λhj=>.sm λz=>o9 ih I ru uy AQ (aK.mp hj▸PySem.F.slot_str_find) PySem.F.type_str_find hv λI1 jo r1=>xc r1 (PV.b9 hy▸jo)) λz=>.cond (λhj=>.sm λz=>o9 ih I ru uy AQ (aK.mp hj▸PySem.F.slot_str_count) PySem.F.type_str_count hv λI1 jo r1=>uM r1 (PV.b9 hy▸jo)) λz=>.no rfl
theorem CU (ih:mN κ A loc H f) (I:Inv κ loc H p s) {v:PV} (ru:RV κ p u (.lst ys)) (uy:fO f args=some (gx,xs)) (AQ:AllP gx) (hj:seq nm "count"=true) (hv:one? xs=some v) (hk:v.d3=some k) (hg:d4 ys=true) : u0 κ A loc H nm pl pos args p s u (.int (bF k (strsOf ys))):=λQ E hQ=>getMethod_builtin (ru.gn (R:=λu=>s.TypeIs u "list") λz z z ea z z=>(bh I.hi.fz ea).typeIs) PySem.F.plainAttrs_list (aK.mp hj▸PySem.F.slot_list_count) PySem.F.type_list_count (ru.gn (R:=λu=>∀a,u=.ref a→∃o,s.heap.get? a=some o∧o.dict=Option.none) λa z z ea z z a' q=>⟨_,Value.ref.inj q▸I.hi.fz _ _ ea,rfl⟩) (aq (bR ih uy AQ I λp2 s2 vs I2 T2 AJ=>AJ.one? hv (R:=λvs=>wpAny κ.M A (call (.builtin "list.count") (u::vs)) Q E s2) λw jo=>(sO I2.hi.fz (T2.rv ru) (PV.b9 hk▸jo) hg).up I2 T2 hQ))
theorem CV (C:af κ A Γ) (ih:mN κ A loc H f) (I:Inv κ loc H p s) {b:PV} {i:Nat×Addr×List (Str×PV)} (ru:RV κ p u b) (uy:fO f args=some (gx,xs)) (AQ:AllP gx) (hi:c6 H b=some i) (hf:oR Γ i nm=some fa) (e:Γ.fns fa (b::xs) H=some (gd,z)) (hg:AllP gd):u0 κ A loc H nm pl pos args p s u z:=λQ E hQ=>
 jN C I hi hf ru λs2 I2 T2=>aj (C.fns _ _ _ _ _ e hg) λz0 y=>gU z0 λo' fd hK CT=>
 eN (o:=o') (fd:=fd) (bR ih uy AQ I2 λp3 s3 vs I3 T3 AJ=>⟨⟨I3.hi.gV.1 _ _ hK,CT⟩,wpAny_of_in1 (C.fns.use e hg I3 (T2.trans T3) (.cons (T3.rv (T2.rv ru)) AJ) hQ)⟩)
theorem CW (C:af κ A Γ) (ih:mN κ A loc H f) (I:Inv κ loc H p s) {b:PV} (ru:RV κ p u b) (uy:fO f args=some (gx,xs)) (AQ:AllP gx):GO (Cy Γ H b nm xs) (u0 κ A loc H nm pl pos args p s u):=.Mp (λk hk=>xt ih I (PV.b9 hk▸ru) uy AQ) (.Mp (λys hy=>.cond (λhj=>.bs λv hv=>.map λk hk hg=>CU ih I (PV.ku hy▸ru) uy AQ hj hv hk hg.1) λy=>.no rfl) (.bs λi hi=>.bs λfa hf gd z e hg=>CV C ih I ru uy AQ hi hf e hg))
end
theorem u5 (C:af κ A Γ) (ih:mN κ A loc H f) {o:Expr} {args:List Expr} : GO (bif jV o args apos pos then (f o).bind λb=>qH (fO f args) λvs=>(Cy Γ H b.2 nm vs).map λc=>(b.1++c.1,c.2) else Option.none) (fU κ A loc H (eval (.Call (.Attribute o nm apos) args [] pos) κ.env)):=.cond (λhc=>.bd λgb b hb=>.bd λga xs uy=>.bm (.mm λgd z e hg Qk Pd p s I Q E hQ=>bc hc λpl=>ih o _ _ hb Qk p s I _ _ λp1 s1 u I1 T1 ru=>CW C ih I1 ru uy Pd gd z e hg Q E λp' s' v I' T' r=>hQ _ _ _ I' (T1.trans T') r)) λy=>.no rfl
end
section
variable {κ:Cx} {A:Around} {Γ:Ctx} {loc:Loc} {H:Hp} {p:Pt} {s:Shared} {gd:List Prop} {z:PV} {b:Bool} {n:Nat}
def Ke (κ:Cx) (A:Around) (Γ:Ctx) (loc:Loc) (H:Hp) (n:Nat) (e:Expr):Prop:=GO (dU Γ loc H (n+1) e) (fU κ A loc H (eval e κ.env))
def SE (κ:Cx) (A:Around) (Γ:Ctx) (loc:Loc) (H:Hp) (n:Nat) (e:Expr):Prop:=GO (CA Γ loc H (n+1) e) (CK κ A loc H (isTrue e κ.env (eval e κ.env)))
theorem Ke.no {e:Expr} (h:dU Γ loc H (n+1) e=Option.none):Ke κ A Γ loc H n e:=GO.no h
theorem AR (c:Const) (k:Nat) (pos:Pos):Ke κ A Γ loc H n (.Constant c k pos):=by induction c using Const.casesOn with|none=>exact .sm λz=>.at λp s I=>Pu.same λQ E hQ=>wpAny_Constant_none (hQ _ s.toks .none)|bool b=>exact .sm λz=>.at λp s I=>Pu.same λQ E hQ=>wpAny_Constant_bool (hQ _ s.toks (.bool b))|int i=>exact .sm λz=>.at λp s I=>Pu.same λQ E hQ=>λz z z=>hQ (.int i _) (s.toks+1) (.int _ _)|str x=>exact .cond (λhf=>.sm λz=>.at λp s I=>Pu.same λQ E hQ=>wpAny_Constant_str (hQ _ (s.toks+1) (Eq.subst (motive:=λy=>RV κ p (.str y s.toks) (.str (cs x))) (Cd x) (.str (cs x) s.toks (cL hf))))) λz=>.no rfl|_=>exact .no rfl
theorem u6 (C:af κ A Γ) {e:Expr} {t:fM} (ht:cb pos Γ.comps=some t):GO ((t.f loc H).map λr=>((t.e=e)::r.1,r.2)) (fU κ A loc H (eval e κ.env)):=.map λr hr hg=>Eq.subst (motive:=λe=>fU κ A loc H (eval e κ.env) r.2) hg.1 (C.comps _ t ht loc H r.1 r.2 hr hg.2)
theorem u7 (C:af κ A Γ) {e:Expr} :GO ((cb pos Γ.comps).bind λt=>(t.f loc H).map λr=>((t.e=e)::r.1,r.2)) (fU κ A loc H (eval e κ.env)):=.bs λt ht=>u6 C ht
theorem CX {f:Expr→R1} {args:List Expr} {k:Keyword} {ks:List Keyword} (e:Expr):y5 Γ f H pos args e (k::ks)=Option.none:=by induction e using Expr.casesOn <;> rfl
theorem AS (ih:mN κ A loc H (dU Γ loc H n)) (op:UnaryOp) (x:Expr) (pos:Pos):Ke κ A Γ loc H n (.UnaryOp op x pos):=by
 induction op using UnaryOp.casesOn with
 | Not=>exact .bd (T:=fU κ A loc H (eval (.UnaryOp .Not x pos) κ.env)) λga a ha=>.bs λt ht=>.sm λhg p s I Q E hQ=>wpAny_UnaryOp (ih x _ _ ha hg p s I _ _ λp1 s1 u I1 T1 r1=>not_value ((gZ I1 r1 ht).up I1 T1 λp2 s2 I2 T2=>hQ p2 s2 _ I2 T2 (.bool _)))
 | USub=>
  induction x using Expr.casesOn with
  | Constant c k q=>induction c using Const.casesOn with|int i=>exact .sm λz=>.at λp s I=>Pu.same λQ E hQ=>wpAny_UnaryOp (λz z z=>show wpAny κ.M A (unaryOp .USub (.int i s.toks)) Q E {s with toks:=s.toks+1} from PySem.P.neg_int (hQ (.int (-i) _) (s.toks+1+1) (.int _ _)))|_=>exact .no rfl
  | _=>exact .no rfl
 | _=>exact .no rfl
theorem GW (ih:mN κ A loc H (dU Γ loc H n)) (v i:Expr) (pos:Pos):Ke κ A Γ loc H n (.Subscript v i pos):=by
 induction hn:kH i with
 | true=>have:GO ((dU Γ loc H n v).bind λa=>qH (dU Γ loc H n i) λb=>(y0 H a.2 b).map λc=>(a.1++c.1,c.2)) (fU κ A loc H (eval (.Subscript v i pos) κ.env)):=λz z h hg=>CL ih (op:=subscriptTail v i) (F:=y0 H) (λQ E s h=>Subscript_ h) (λI ra rb e hg=>uX I ra rb _ _ e hg) h hg;induction i using Expr.casesOn with|Slice lo hi st q=>exact tF hn.symm|_=>exact this
 | false=>
  induction i using Expr.casesOn with
  | Slice lo hi st q=>induction st with|none=>exact CS ih|some _=>exact .no rfl
  | _=>exact tF hn
theorem AU (C:af κ A Γ) (ih:mN κ A loc H (dU Γ loc H n)) (f:Expr) (args:List Expr) (sQ:List Keyword) (pos:Pos):GO (y5 Γ (dU Γ loc H n) H pos args f sQ) (fU κ A loc H (eval (.Call f args sQ pos) κ.env)):=by
 induction sQ using List.casesOn with
 | nil=>induction f using Expr.casesOn with|Attribute o name apos=>exact u5 C ih|Name x xp=>exact uZ C ih|_=>exact .no rfl
 | cons k ks=>exact .no (CX f)
theorem CY (C:af κ A Γ) (ih:mN κ A loc H (dU Γ loc H n)) (f:Expr) (args:List Expr) (sQ:List Keyword) (pos:Pos):Ke κ A Γ loc H n (.Call f args sQ pos):=by show GO (match cb pos Γ.comps with|some t=>(t.f loc H).map λr=>((t.e=.Call f args sQ pos)::r.1,r.2)|Option.none=>y5 Γ (dU Γ loc H n) H pos args f sQ) _;have cu:∀t,cb pos Γ.comps=some t→GO ((t.f loc H).map λr=>((t.e=.Call f args sQ pos)::r.1,r.2)) _:=λt ht=>u6 C ht;revert cu;induction cb pos Γ.comps with|none=>exact λz=>AU C ih f args sQ pos|some t=>exact λcu=>cu t rfl
theorem ze (ih:mN κ A loc H (dU Γ loc H n)) {T:α→Prop} {l:Expr} {rs:List Expr} {k:Bool→α} (h:∀c,(∀pos,fU κ A loc H (eval (.Compare l ops rs pos) κ.env) (.bool c)∧∀p s,Inv κ loc H p s→∀(Q:Bool→Shared→Prop) (E:Value→Shared→Prop) whole,(∀p' s',Inv κ loc H p' s'→To κ p s p' s'→Q c s')→wpAny κ.M A (isTrue (.Compare l ops rs pos) κ.env whole) Q E s)→T (k c)) : GO (bif lastMarks ops rs then Option.none else (dU Γ loc H n l).bind λa=>(lN (dU Γ loc H n) a.2 ops rs).bind λc=>some (a.1++c.1,k c.2)) T:=.cond (λz=>.no rfl) λhm=>.bd λga a ha=>.bd λgc c hc=>.sm λhg=>h c λpos=>xn ih hm ha hg.append.1 hc hg.append.2
theorem Uh (C:af κ A Γ) (ih:mN κ A loc H (dU Γ loc H n)) (GS:Nc κ A loc H (CA Γ loc H n)) (e:Expr):Ke κ A Γ loc H n e:=by induction e using Expr.casesOn with|Constant c k pos=>exact AR c k pos|Name x pos=>exact .map (T:=fU κ A loc H (eval (.Name x pos) κ.env)) (g:=λz=>[]) (f:=id) λv hv z=>dK C hv|BinOp l op r pos=>exact λz z h hg=>CL ih (op:=binaryOp op) (F:=rk op) (λQ E s h=>wpAny_BinOp h) (λI ra rb e hg=>uE I.hi.fz ra rb _ _ e hg) h hg|UnaryOp op x pos=>exact AS ih op x pos|IfExp t a b pos=>exact λz z h hg=>CM ih GS h hg|BoolOp op vs pos=>exact λz z h hg=>AN ih h hg|Compare l ops rs pos=>exact ze ih (T:=fU κ A loc H (eval (.Compare l ops rs pos) κ.env)) λc h=>(h pos).1|Subscript v i pos=>exact GW ih v i pos|Tuple es k pos=>exact y9 ih (k:=newTuple) (K:=.tup) (λQ E s h=>Tuple_ h) (λI r hz=>uB I.hi.fz r hz)|List es pos=>exact y9 ih (k:=newList) (K:=.lst) (λQ E s h=>List_ h) (λI r hz=>oL I.hi.fz r hz)|Attribute v a pos=>exact GU ih C|Call f args sQ pos=>exact CY C ih f args sQ pos|ListComp a b c d=>exact u7 C|DictComp a b c d e'=>exact u7 C|_=>exact .no rfl
theorem vc (ih:mN κ A loc H (dU Γ loc H n)) {e:Expr} (he:isTrue e κ.env (eval e κ.env)=(do let v←eval e κ.env;standAt e.pos;holding [v] (truthy v)))
  (q:CA Γ loc H (n+1) e=bif Cv e then (dU Γ loc H n e).bind λa=>(uO H a.2).map λt=>(a.1,t) else Option.none):SE κ A Γ loc H n e:=
 Eq.substr (p:=λx=>GO x (CK κ A loc H (isTrue e κ.env (eval e κ.env)))) q (.cond (λz=>.bd λga a ha=>.map λt ht hg p s I Q E hQ=>wpAny_isTrue_value (ih e _ _ ha hg p s I _ _ λp1 s1 u I1 T1 r1=>(gZ I1 r1 ht).up I1 T1 hQ) he) λz=>.no rfl)
theorem Ui (ih:mN κ A loc H (dU Γ loc H n)) (GS:Nc κ A loc H (CA Γ loc H n)) (e:Expr):SE κ A Γ loc H n e:=by
 induction e using Expr.casesOn with
 | UnaryOp op x pos=>induction op using UnaryOp.casesOn with|Not=>exact .map (T:=CK κ A loc H (isTrue (.UnaryOp .Not x pos) κ.env (eval (.UnaryOp .Not x pos) κ.env))) λa ha hg p s I Q E hQ=>wpAny_isTrue_Not (GS x _ _ ha hg p s I _ _ hQ)|_=>exact vc ih rfl rfl
 | BoolOp op vs pos=>exact λz z h hg p s I Q E hQ=>PySem.wpAny_isTrue_BoolOp (CN GS h hg p s I Q E hQ)
 | Compare l ops rs pos=>exact ze ih (T:=CK κ A loc H (isTrue (.Compare l ops rs pos) κ.env (eval (.Compare l ops rs pos) κ.env))) λc h p s I Q E hQ=>(h pos).2 p s I Q E _ hQ
 | IfExp t a b pos=>exact GO.no rfl
 | _=>exact vc ih rfl rfl
theorem cD (C:af κ A Γ) (n:Nat):mN κ A loc H (dU Γ loc H n)∧Nc κ A loc H (CA Γ loc H n):=by induction n with|zero=>exact ⟨λe=>GO.no rfl,λe=>GO.no rfl⟩|succ n ih=>exact ⟨Uh C ih.1 ih.2,Ui ih.1 ih.2⟩
end
def gG (κ:Cx) (X:XP) (loc:Loc) (p:Pt) (s:Shared) (Q:Value→Shared→Prop) (E:Value→Shared→Prop) (x_:RE):Prop:=by induction x_ using RE.casesOn with|ok v H'=>exact ∀p' s' u,Inv κ loc H' p' s'→To κ p s p' s'→RV κ p' u v→Q u s'|exc m H'=>exact ∀p' s' e gm,Inv κ loc H' p' s'→To κ p s p' s'→X s'.heap m e gm→E e {s' with heap:=gm}
def vd (κ:Cx) (X:XP) (p:Pt) (s:Shared) (Q:Flow→Shared→Prop) (E:Value→Shared→Prop) (o:Out):Prop:=∀p' s',Inv κ o.loc o.H p' s'→To κ p s p' s'→match o.fl with|.next=>Q .next s'|.brk=>Q .brk s'|.cont=>Q .cont s'|.ret v=>∀u,RV κ p' u v→Q (.ret u) s'|.exc m=>∀e gm,X s'.heap m e gm→E e {s' with heap:=gm}
def bt (κ:Cx) (A:Around) (X:XP) (t:Sem Flow) (loc:Loc) (H:Hp) (tr:Tr Out):Prop:=∀p s,Inv κ loc H p s→∀(Q:Flow→Shared→Prop) (E:Value→Shared→Prop),PassesOwn κ.M A κ.env E→tr.Sat (vd κ X p s Q E)→wpAny κ.M A t Q E s
def eO (g:G) (f:Addr):Prop:=∀(A:Around) (E:Value→Shared→Prop) (s:Shared) (pos:Pos) (first:List Value) (env:Env) (es:List Expr) (Q:Value→Shared→Prop),wpAny (model g.prog g.w) A (spliced (es.map λe=>(false,eval e env))) (λvs ag=>g.Ok ag.heap∧wpAny (model g.prog g.w) A (call (.ref f) (first++vs)) Q E ag) E s→ wpAny (model g.prog g.w) A (callWith pos (.ref f) first (es.map λe=>(false,eval e env)) []) Q E s
theorem eO.fn {f:Addr} (hK:g.K.lookup f=some o) (hd:o.data=.func fd):eO g f:=λA E s pos first env es Q h=>eN (o:=o) (fd:=fd) (wpAny_mono h (λvs ag x=>⟨⟨x.1.1 _ _ hK,hd⟩,x.2⟩) λz z x=>x)
def IL (g:G) (A:Around) (B:Bs) (X:XP) (km:Addr→List PV→Hp→Tr RE):Prop:=∀f args H p s vs,HI g B H p s.heap→aT g.w p.P p.ι vs args→∀R,(km f args H).Sat (dA g B X p s R)→codeAny (model g.prog g.w) A (.call (.ref f) ⟨vs,[]⟩) R s
def iq (κ:Cx) (A:Around) (t:fM):Prop:=∀loc H gd v,t.f loc H=some (gd,v)→AllP gd→∀p s,Inv κ loc H p s→∀x q pos,(κ.env.kindOf x=some .local∨(κ.env.kindOf x=some .cell∧κ.W x=true))→∀(Q:Flow→Shared→Prop) (E:Value→Shared→Prop),(∀p' s',Inv κ (cM x v loc) H p' s'→To κ p s p' s'→Q .next s')→wpAny κ.M A (exec (.Assign [.Name x q] t.e pos) κ.env) Q E s
structure cE (κ:Cx) (A:Around) (X:XP) (Γ:aA):Prop where
 c:af κ A Γ.c
 set:∀C a,Γ.set C a=true→y7 κ.g C a
 km:IL κ.g A.in1 κ.Bc X Γ.km
 ve:∀f args H,Γ.km f args H≠.fail→eO κ.g f
 loops:∀p t,mL p Γ.loops=some t→∀loc H,bt κ A X (exec t.st κ.env) loc H (t.f loc H)
 uses:∀p t,cb p Γ.c.comps=some t→GH t.e=true→iq κ A t
 raises:Γ.rs=true→∀h' gm e m t,Heap.MadeExc h' gm e "ValueError" [.str (S m) t]→X h' m (.ref e) gm
section
variable {κ:Cx} {A:Around} {Γ:aA} {loc:Loc} {H:Hp} {p cJ:Pt} {s cT:Shared} {X:XP} {n:Nat} {Q:Value→Shared→Prop} {E:Value→Shared→Prop}
theorem gG.trans (T:To κ cJ cT p s) {r:RE} (h:gG κ X loc cJ cT Q E r):gG κ X loc p s Q E r:=by induction r using RE.casesOn with|ok v H'=>exact λp' s' u I' T' ru=>h p' s' u I' (T.trans T') ru|exc m H'=>exact λp' s' e gm I' T' x=>h p' s' e gm I' (T.trans T') x
theorem vd.trans {Q:Flow→Shared→Prop} (T:To κ cJ cT p s) {o:Out} (h:vd κ X cJ cT Q E o):vd κ X p s Q E o:=λp' s' I' T'=>h p' s' I' (T.trans T')
theorem dO (C:af κ A Γ.c) {e:Expr} {v:PV} (h:dU Γ.c loc H n e=some (gd,v)) (hg:AllP gd):fU κ A loc H (eval e κ.env) v:=(cD C n).1 e gd v h hg
theorem zf (C:cE κ A X Γ) {f:Addr} (I:Inv κ loc H p s) (rv:ux κ p vs args) (h:(Γ.km f args H).Sat (gG κ X loc p s Q E)):eO κ.g f∧wpAny κ.M A (call (.ref f) vs) Q E s:=by
 refine ⟨C.ve f args H λq=>by rw[q] at h;exact h,wpAny_of_in1 (wpAny_call (C.km f args H p s vs (HI.push I) rv (λr s'=>match r with | .ok (.ret v)=>Q v s' | .ok _=>False | .error e=>E e s') (h.mono λr hr=>?_)))⟩;induction r using RE.casesOn with
 | ok v H'=>exact λp' s' u Y T ru=>let ⟨I',T'⟩:=I.back Y T;hr p' s' u I' T' ru
 | exc m H'=>exact λp' s' e gm Y T x=>let ⟨I',T'⟩:=I.back Y T;hr p' s' e gm I' T' x
theorem mQ (h:eO κ.g f) {first:List Value} {args:List Expr} (hk:wpAny κ.M A (spliced (args.map λe=>(false,eval e κ.env))) (λvs ag=>κ.g.Ok ag.heap∧wpAny κ.M A (call (.ref f) (first++vs)) Q E ag) E s) : wpAny κ.M A (callWith pos (.ref f) first (args.map λe=>(false,eval e κ.env)) []) Q E s:=h A E s pos first κ.env args Q hk
def Im (Φ:β→Prop) (C:Prop) (tr:Tr β):Prop:=tr.Sat Φ→C
section
variable {α β:Type} {Φ:β→Prop} {D:Prop}
theorem Im.no {tr:Tr β} (e:tr=.fail):Im Φ D tr:=λh=>(show Tr.Sat Φ .fail from e▸h).elim
theorem Im.tO {o:Option (List Prop×α)} {f:α→Tr β} (h:∀g a,o=some (g,a)→AllP g→Im Φ D (f a)):Im Φ D ((iW o).bind f):=λx=>by induction o with|none=>exact x.elim|some r=>exact h r.1 r.2 rfl x.1 x.2
theorem Im.tS {o:Option α} {f:α→Tr β} (h:∀a,o=some a→Im Φ D (f a)):Im Φ D (iN f o):=λx=>match o,h,x with|some a,h,x=>h a rfl x
theorem Im.tI {c:Bool} {tr:Tr β} (h:c=true→Im Φ D tr):Im Φ D (iO c tr):=λx=>match c,h,x with|true,h,x=>h rfl x
theorem Im.tN {tr:Tr β} (h:AllP gs→Im Φ D tr):Im Φ D (.need gs tr):=λx=>h x.1 x.2
theorem Im.tB {c:Bool} {tr te:Tr β} (h:c=true→Im Φ D tr) (h':c=false→Im Φ D te):Im Φ D (bif c then tr else te):=match c,h,h' with|true,h,_=>h rfl|false,_,h'=>h' rfl
end
theorem xu (h:xs.isEmpty=false):xs=xs.dropLast++[xs.getLastD .none]:=by
 have hx:xs≠[]:=λe=>by rw[e] at h;exact tF h
 refine (List.getLastD_eq_getLast?)▸(List.getLast?_eq_some_getLast hx)▸?_;exact (List.dropLast_concat_getLast hx).symm
theorem aT.heads {w:World} {P:Fz} {ι:bq} {ys:List Value} (h:xs.isEmpty=false) (r:aT w P ι ys xs):∃u us,ys=u::us∧Rv w P ι u (xs.headD .none)∧aT w P ι us xs.tail:=by induction xs using List.casesOn with|nil=>exact tF h|cons x xs=>exact r.cons_inv
theorem aT.xv {w:World} {P:Fz} {ι:bq} {vs:List PV} {v:PV} {R:List Value→Prop} (r:aT w P ι us vs) (e:Mine.one? vs=Option.some v) (k:∀u,Rv w P ι u v→R [u]):R us:=r.one? e k
theorem Inv.pd {u:Value} {b:PV} {i:Nat×List PV} {R:Value→Prop} (I:Inv κ loc H p s) (r:RV κ p u b) (hi:jJ H b=some i) (k:∀a d ys m,p.ι i.1=some (a,d)→s.heap.get? a=some (aR m ys)→i.2.length≤sizeLine→ux κ p ys i.2→R (.ref a)):R u:=cY (I.obj ((iV hi).1▸r) (iV hi).2) λa d e fL z=>cY z λys m ho hz rx=>Eq.substr (p:=R) e (k a d ys m fL ho hz rx)
theorem Inv.gn {u:Value} {b:PV} {i:Nat×List PV} {R:Value→Prop} (I:Inv κ loc H p s) (r:RV κ p u b) (hi:eA H b=some i) (k:∀a d ys m,p.ι i.1=some (a,d)→s.heap.get? a=some (jX ys m)→i.2.length≤sizeLine→ux κ p ys i.2→R (.ref a)):R u:=cY (I.obj ((dJ hi).1▸r) (dJ hi).2) λa d e fL z=>cY z λys m ho hz rx=>Eq.substr (p:=R) e (k a d ys m fL ho hz rx)
theorem aT.snoc {w:World} {P:Fz} {ι:bq} {x:PV} :∀{ws:List Value},aT w P ι ws (xs++[x])→∃a b,ws=a++[b]∧aT w P ι a xs∧Rv w P ι b x:=by induction xs with|nil=>intro ws r;apply r.dv;intro u us r1 r2;apply r2.eL;exact ⟨[],u,rfl,.nil,r1⟩|cons y ys ih=>intro ws r;apply r.dv;intro u us r1 r2;exact cY (ih r2) λa b e ra rb=>⟨u::a,b,congrArg (u::·) e,.cons r1 ra,rb⟩
def vf (κ:Cx) (A:Around) (loc:Loc) (H:Hp) (T:String) (k:Nat) (mk:List PV→AO) (name:Str) (b:PV) (vs:List PV) (r:PV×List PV):Prop:=∃id,Slot T name id∧typeOf (.builtin id)=pure (.type "method_descriptor")∧∀p s u us (Q:Value→Shared→Prop) (E:Value→Shared→Prop),Inv κ loc H p s→RV κ p u b→ux κ p us vs→ (∀s' w,Inv κ loc (bG k (mk r.2) H) p s'→To κ p s p s'→RV κ p w r.1→Q w s')→wpAny κ.M A (call (.builtin id) (u::us)) Q E s
theorem vf.mk {k:Nat} {mk:List PV→AO} {b:PV} {vs:List PV} {r:PV×List PV} {nm:String} (hn:seq name (Str.ofString nm)=true) (h1:Slot T (Str.ofString nm) id) (h2:typeOf (.builtin id)=pure (.type "method_descriptor")) (h3:∀p s u us (Q:Value→Shared→Prop) (E:Value→Shared→Prop),Inv κ loc H p s→RV κ p u b→ux κ p us vs→(∀s' w,Inv κ loc (bG k (mk r.2) H) p s'→To κ p s p s'→RV κ p w r.1→Q w s')→wpAny κ.M A (call (.builtin id) (u::us)) Q E s):vf κ A loc H T k mk name b vs r:=aK.mp hn▸⟨id,h1,h2,h3⟩
section
variable {name:Str} {i:Nat×List PV} {vs:List PV} {gd:List Prop} {r:PV×List PV}
theorem oo {s:Shared} {m:Int} {ys:List Value} {w:Value} {v:PV} {zs:List PV} {k:Nat} (I:Inv κ loc H p s) (hQ:∀s' w,Inv κ loc (bG k (.ew zs) H) p s'→To κ p s p s'→RV κ p w v→Q w s') (fL:p.ι k=some (a,d)) (e:h'.get? a=some (aR m ys)) (sb:Heap.SameBut a s.heap h') (hz:zs.length≤sizeLine) (rz:ux κ p ys zs) (jo:RV κ p w v):Q w {s with heap:=h'}:=aj (oj (o:=.ew _) I fL sb ⟨_,e⟩ ⟨_,_,e,hz,rz⟩) λI' T'=>hQ _ _ I' T' jo
theorem xw {b:PV} (hi:jJ H b=some i):GO (M1 name i.2 vs) (vf κ A loc H "collections.deque" i.1 .ew name b vs):=.cond (λq=>.map λv hv hg=>.mk q ij nH λp s u us Q E I ru vg hQ=>by
   apply I.pd ru hi;intro a d ys m fL ho hz rx
   apply vg.xv hv;intro w jo
   have zz:=cL hg.1
   exact xj ho (by refine rx.length▸?_;exact zz) λh' e sb=>oo I hQ fL e sb (by refine List.length_append▸?_;exact zz) (rx.append (.one jo)) .none)
  λz=>.cond (λq=>.map λv hv hg=>.mk q eT jD λp s u us Q E I ru vg hQ=>by apply I.pd ru hi;intro a d ys m fL ho hz rx;apply vg.xv hv;intro w jo;have zz:=cL hg.1;exact oY ho (by refine rx.length▸?_;exact zz) λh' e sb=>oo I hQ fL e sb zz (.cons jo rx) .none)
  λz=>by
   induction vs using List.casesOn with|cons _ _=>exact .no rfl|nil=>
    exact .cond (λq=>.sm λhg=>.mk q kJ sU λp s u us Q E I ru vg hQ=>by
      apply vg.eL
      apply I.pd ru hi;intro a d ys m fL ho hz rx
      have zz:i.2.dropLast.length≤sizeLine:=Nat.le_trans (by refine List.length_dropLast▸?_;exact Nat.sub_le _ _) hz
      refine cY (aT.snoc ((xu hg.1)▸rx)) λUj w e0 r1 r2=>?_
      subst e0
      exact GK ho (by refine r1.length▸?_;exact zz) λh' e sb=>oo I hQ fL e sb zz r1 r2)
     λz=>.cond (λq=>.sm λhg=>.mk q gE lS λp s u us Q E I ru vg hQ=>by apply vg.eL;apply I.pd ru hi;intro a d ys m fL ho hz rx;have zz:i.2.tail.length≤sizeLine:=Nat.le_trans (by refine List.length_tail▸?_;exact Nat.sub_le _ _) hz;refine cY (aT.heads hg.1 rx) λw Uj e0 r1 r2=>?_;subst e0;exact uT ho (by refine r2.length▸?_;exact zz) λh' e sb=>oo I hQ fL e sb zz r2 r1)
     λz=>.no rfl
end
section
variable {name:Str} {i:Nat×List PV} {vs:List PV}
theorem xy {b:PV} (hi:eA H b=some i):GO (M3 name i.2 vs) (vf κ A loc H "list" i.1 .lst name b vs):=.cond (λq=>.map λv hv hg=>.mk q PySem.F.slot_list_append PySem.F.type_list_append λp s u us Q E I ru vg hQ=>by
   apply I.gn ru hi;intro a d ys m fL ho hz rx
   apply vg.xv hv;intro w jo
   refine append_at ho (λh' sb e=>?_) (by refine List.size_toArray▸rx.length▸?_;exact hz)
   rw[List.push_toArray] at e
   exact aj (oj (o:=.lst (i.2++[v])) I fL sb ⟨_,e⟩ ⟨_,_,e,by refine List.length_append▸?_;exact cL hg.1,rx.append (.one jo)⟩) λI' T'=>hQ _ _ I' T' .none)
  λz=>.no rfl
end
theorem vh (C:cE κ A X Γ) {o:Expr} {args:List Expr} {k:Nat} {mk:List PV→AO} {g1 g2:List Prop} {b:PV} {vs:List PV} {r:PV×List PV} (hc:jV o args apos pos=true) (e1:dU Γ.c loc H n o=some (g1,b)) (lW:AllP g1) (e2:fO (dU Γ.c loc H n) args=some (g2,vs)) (mT:AllP g2) (hp:PlainAttrs T) (ht:∀p s u,Inv κ loc H p s→RV κ p u b→s.TypeIs u T∧∀a,u=.ref a→∃o,s.heap.get? a=some o∧o.dict=Option.none) (m:vf κ A loc H T k mk name b vs r) (I:Inv κ loc H p s) (h:gG κ X loc p s Q E (.ok r.1 (bG k (mk r.2) H))):wpAny κ.M A (eval (.Call (.Attribute o name apos) args [] pos) κ.env) Q E s:=w6 m λid slot Qj kk=>bc hc λpl=>dO C.c e1 lW p s I _ _ λp1 s1 u I1 T1 ru=>aj (ht p1 s1 u I1 ru) λT0 nr=>getMethod_builtin T0 hp slot Qj nr (aq (bR (cD C.c n).1 e2 mT I1 λp2 s2 us I2 T2 vg=>kk _ _ _ _ _ _ I2 (T2.rv ru) vg λs3 w I3 T3 jo=>h p2 s3 w I3 ((T1.trans T2).trans T3) jo))
theorem GX {b:PV} {i:Nat×List PV} (hi:jJ H b=some i) (p:Pt) (s:Shared) (u:Value) (I:Inv κ loc H p s) (ru:RV κ p u b):s.TypeIs u "collections.deque"∧∀a,u=.ref a→∃o,s.heap.get? a=some o∧o.dict=Option.none:=by apply I.pd ru hi;intro a d ys m fL ho hz rx;exact ⟨cO ho,λa' q=>Value.ref.inj q▸⟨_,ho,rfl⟩⟩
theorem GY {b:PV} {i:Nat×List PV} (hi:eA H b=some i) (p:Pt) (s:Shared) (u:Value) (I:Inv κ loc H p s) (ru:RV κ p u b):s.TypeIs u "list"∧∀a,u=.ref a→∃o,s.heap.get? a=some o∧o.dict=Option.none:=by apply I.gn ru hi;intro a d ys m fL ho hz rx;exact ⟨⟨_,ho,rfl⟩,λa' q=>Value.ref.inj q▸⟨_,ho,rfl⟩⟩
theorem vi (C:cE κ A X Γ) {o:Expr} {args:List Expr} (I:Inv κ loc H p s) : Im (gG κ X loc p s Q E) (wpAny κ.M A (eval (.Call (.Attribute o name apos) args [] pos) κ.env) Q E s) (iO (jV o args apos pos) ((iW (dU Γ.c loc H n o)).bind λb=>(iW (fO (dU Γ.c loc H n) args)).bind λvs=>CB Γ H b name vs)):=.tI λhc=>.tO λz b e1 lW=>.tO λz vs e2 mT=>by
 unfold CB;induction hd:jJ H b with|some i=>exact .tO λgd r er Ql h=>vh C hc e1 lW e2 mT oW (GX hd) (xw hd _ _ er Ql) I h|none=>
 induction hl:eA H b with|some i=>exact .tO λgd r er Ql h=>vh C hc e1 lW e2 mT PySem.F.plainAttrs_list (GY hl) (xy hl _ _ er Ql) I h|none=>exact .tS λi hi=>.tS λfa hf h=>bc hc λpl=>dO C.c e1 lW p s I _ _ λp1 s1 u I1 T1 ru=>jN C.c I1 hi hf ru λs2 I2 T2=>mQ (C.ve fa _ H λq=>by rw[q] at h;exact h) (bR (cD C.c n).1 e2 mT I2 λp3 s3 us I3 T3 vg=>⟨I3.hi.gV,(zf C I3 (.cons (T3.rv (T2.rv ru)) vg) (h.mono λr hr=>hr.trans ((T1.trans T2).trans T3))).2⟩)
theorem CZ (I1:Inv κ loc H p s) (hQ:∀p' s' u,Inv κ loc (H++[(H.length,.ew [])]) p' s'→To κ p s p' s'→RV κ p' u (.ref H.length)→Q u s'):wpAny κ.M A (call (.type "collections.deque") []) Q E s:=by refine sX λh' hk ⟨m,ho⟩=>?_;refine aj (I1.hi.alloc (o:=.ew []) hk (bA _) (bA _) ⟨_,ho⟩ ⟨_,ho⟩ ⟨[],m,ho,Nat.zero_le _,.nil⟩) λY st=>?_;refine aj (I1.AM (s':={s with heap:=h'}) Y st.fr ⟨_,_,rfl⟩ (Nat.le_refl _)) λI2 T2=>?_;exact hQ _ _ _ I2 T2 (.ref (by dsimp only[c7];rw[if_pos rfl]))
def Ms (κ:Cx) (A:Around) (X:XP) (loc:Loc) (p:Pt) (s:Shared) (Q:Value→Shared→Prop) (E:Value→Shared→Prop) (e:Expr) (tr:Tr RE):Prop:=Im (gG κ X loc p s Q E) (wpAny κ.M A (eval e κ.env) Q E s) tr
theorem Ms.no {e:Expr} {tr:Tr RE} (h:tr=.fail):Ms κ A X loc p s Q E e tr:=Im.no h
theorem rF (C:cE κ A X Γ) {x:Str} {args:List Expr} {u:Value} (hc:(d7 Γ.c x&&noStar args)=true) (hu:b6 κ.g x u) (I:Inv κ loc H p s) (h:wpAny κ.M A (callWith pos u [] (args.map λe=>(false,eval e κ.env)) []) Q E s):wpAny κ.M A (eval (.Call (.Name x xp) args [] pos) κ.env) Q E s:=by have hG:=aW C.c (Bool.and_eq_true_iff.mp hc).1;refine Call_ (cC C.c hG.1 I.hi.gV hu hG.2 ?_);rw[bJ κ.env (Bool.and_eq_true_iff.mp hc).2,cW];exact h
theorem vj (C:cE κ A X Γ) {x:Str} {args:List Expr} (I:Inv κ loc H p s):Ms κ A X loc p s Q E (.Call (.Name x xp) args [] pos) (iO (d7 Γ.c x&&noStar args) ((iW (fO (dU Γ.c loc H n) args)).bind λvs=>IJ Γ H x vs)):=Im.tI λhc=>Im.tO λz vs e2 mT=>Im.tS λv hv=>(C.c.glob x v hv).elim λu hu=>by
 obtain ⟨rfl,hu⟩:=hu;induction u using Value.casesOn with
 | ref fa=>exact λh=>rF C hc hu I (mQ (C.ve fa vs H λq=>(show Tr.Sat (gG κ X loc p s Q E) .fail from Eq.subst (motive:=λt=>Tr.Sat (gG κ X loc p s Q E) t) q h)) (bR (cD C.c n).1 e2 mT I λp1 s1 us I1 T1 vg=>⟨I1.hi.gV,(zf C I1 vg (Tr.Sat.mono (λr hr=>hr.trans T1) h)).2⟩))
 | type T=>induction vs using List.casesOn with|cons _ _=>exact Im.no rfl|nil=>exact Im.tN λhT h=>rF C hc hu I (dN (bR (cD C.c n).1 e2 mT I λp1 s1 us I1 T1 vg=>by apply vg.eL;refine hT.1▸?_;exact CZ I1 λp2 s2 u I2 T2 ru=>h _ _ _ I2 (T1.trans T2) ru))
 | _=>exact Im.no rfl
theorem rG (C:cE κ A X Γ) {e:Expr} (I:Inv κ loc H p s):Ms κ A X loc p s Q E e (O8 Γ loc H n e):=by
 induction e using Expr.casesOn with
 | Call f args sQ pos=>
  induction sQ using List.casesOn with
  | nil=>induction f using Expr.casesOn with|Attribute o name apos=>exact vi C I|Name x xp=>exact vj C I|_=>exact .no rfl
  | cons _ _=>exact .no (by induction f using Expr.casesOn <;> rfl)
 | _=>exact .no rfl
theorem xA (C:cE κ A X Γ) {e:Expr} (I:Inv κ loc H p s) (h:(J5 Γ loc H n e).Sat (gG κ X loc p s Q E)):wpAny κ.M A (eval e κ.env) Q E s:=by unfold J5 at h;induction q:dU Γ.c loc H n e with|none=>rw[q] at h;exact rG C I h|some r=>rw[q] at h;exact dO C.c q h.1 p s I Q E h.2
theorem xB (C:cE κ A X Γ) {k:List PV→Hp→Tr RE} {K:List Value→Sem Value}:∀{es:List Expr} {acc:List PV} {us:List Value} {H:Hp} {p:Pt} {s:Shared},(∀{vs us H p s},Inv κ loc H p s→ux κ p us vs→vs.length≤acc.length+es.length→(k vs H).Sat (gG κ X loc p s Q E)→wpAny κ.M A (K us) Q E s)→ Inv κ loc H p s→ux κ p us acc→(CC Γ loc n k es acc H).Sat (gG κ X loc p s Q E)→wpAny κ.M A (spliced (es.map λe=>(false,eval e κ.env))) (λvs s'=>wpAny κ.M A (K (us++vs)) Q E s') E s:=by intro es;induction es with|nil=>intro acc us H p s hK I r h;exact Calls.spliced_nil (by rw[List.append_nil];exact hK I r (Nat.le_refl _) h)|cons e es ih=>intro acc us H p s hK I r h;have h:=aP.mp h;refine Calls.spliced_cons (xA C I (h.mono λre SF=>?_));induction re using RE.casesOn with|exc m H'=>exact SF|ok v H'=>intro p1 s1 u I1 T1 ru;have:=ih (acc:=acc++[v]) (us:=us++[u]) (λI r hl h=>hK I r (by rw[List.length_append,List.length_singleton] at hl;rw[List.length_cons];lia) h) I1 ((T1.AJ r).append (.one ru)) (Tr.Sat.mono (λr hr=>hr.trans T1) SF);refine wpAny_mono this (λvs s' hv=>?_) λz z x=>x;rw[List.append_assoc] at hv;exact hv
theorem xC (C:cE κ A X Γ) {es:List Expr} (I:Inv κ loc H p s):Ms κ A X loc p s Q E (.List es pos) (iO (gp es) (CC Γ loc n (λvs H'=>.leaf (.ok (.lst vs) H')) es [] H)):=Im.tI λhc h=>by refine aj (jn hc) λhs hz=>?_;refine List_ ?_;rw[bJ κ.env hs,cW];refine xB C (us:=[]) (K:=newList) (λI r hl h=>?_) I .nil h;exact (oL I.hi.fz r (Nat.le_trans hl (by simpa using hz))).to I h
theorem xD (C:cE κ A X Γ) (e:Expr) (I:Inv κ loc H p s):Ms κ A X loc p s Q E e (y4 e (λes=>iO (gp es) (CC Γ loc n (λvs H'=>.leaf (.ok (.lst vs) H')) es [] H)) (O8 Γ loc H n e)):=by induction e using Expr.casesOn with|List es pos=>exact xC C I|Call f args sQ pos=>exact rG C I|_=>exact .no rfl
theorem rH (C:cE κ A X Γ) {e:Expr} (I:Inv κ loc H p s) (h:(GG Γ loc H n e).Sat (gG κ X loc p s Q E)):wpAny κ.M A (eval e κ.env) Q E s:=by unfold GG at h;induction q:dU Γ.c loc H n e with|some r=>rw[q] at h;exact dO C.c q h.1 p s I Q E h.2|none=>rw[q] at h;exact xD C e I h
end
section
variable {prog:Program} {w:World} {A:Around} {E:Value→Shared→Prop} {s:Shared}
theorem rI (its:Array Value) (n:Nat) (f:Array Value→Array Value):∃n',Obj.mapSeq f {cls:=.type "list",data:=.seq its n}={cls:=.type "list",data:=.seq (f its) n'}:=⟨_,rfl⟩
theorem xE {l:Addr} {items:Array Value} {n:Nat} {k:Int} {t:Tok} {v:Value} {Q:Unit→Shared→Prop} (ho:s.heap.get? l=some {cls:=.type "list",data:=.seq items n}) (h0:0≤k) (J6:k<2 ^ 63) (hn:k<items.size) (hQ:∀h' n',h'.get? l=some {cls:=.type "list",data:=.seq (items.setIfInBounds k.toNat v) n'}→Heap.SameBut l s.heap h'→Q () {s with heap:=h'}) : wpAny (model prog w) A (setItem (.ref l) (.int k t) v) Q E s:=by
 have hl:s.heap.IsList l items:=⟨_,ho,rfl,n,rfl⟩;unfold setItem
 try with_reducible refine wpAny_holding ?_
 first | refine wpAny_bind (wpAny_pure ?_) | skip
 refine wpAny_bind (wpAny_sequenceKey hl.typeIs (by decide) ?_);refine wpAny_bind (wpAny_callSpecial?_slot (name:=Str.ofString "__setitem__") hl.typeIs slot_list_setitem (wpAny_call_entry slot_list_setitem hl.typeIs entry_list_setitem ?_ (args_list_setitem _ _ _)));show wpAny _ _ (Builtin.List.listSubscript? (.int k t) >>= _) _ _ s;refine wpAny_bind (wpAny_listSubscript_int (fitsIndex_of h0 J6) ?_);clear J6;obtain ⟨j,rfl⟩:=Int.eq_ofNat_of_zero_le h0;have hj:j<items.size:=by lia
 have Ni:items[j]?=some items[j]:=Array.getElem?_eq_getElem hj;show wpAny _ _ ((seqItemAt l j >>= λr=>pure (r.map (j,·))) >>= _) _ _ s;refine wpAny_bind (wpAny_bind (wpAny_seqItemAt ho rfl (wpAny_pure ?_)));rw[Ni];show wpAny _ _ (setSeqItemAt l j v >>= _) _ _ s;obtain ⟨n',B8⟩:=rI items n (·.setIfInBounds j v);have C3:(s.heap.update l (Obj.mapSeq (·.setIfInBounds j v))).get? l=some {cls:=.type "list",data:=.seq (items.setIfInBounds j v) n'}:=by rw[Heap.get?_update_self _ ho (by rw[B8];rfl),B8]
 refine wpAny_bind (wpAny_setSeqItemAt ho rfl ?_)
 first
  | exact wpAny_bind (wpAny_pure (wpAny_pure ⟨.none,rfl,wpAny_pure (hQ _ n' C3 (Heap.SameBut.update ..))⟩))
  | exact wpAny_pure ⟨.none,rfl,wpAny_pure (hQ _ n' C3 (Heap.SameBut.update ..))⟩
theorem qR:seqSlot? (.type "list") (dunderI "add")=pure (some (.builtin "list.__iadd__")):=PySem.seqSlot_of PySem.F.slot_list_iadd.lookup (by decide +kernel)
theorem lX:fillsInplaceSlot (.type "list") "add" (Operator.Add==.Add)=pure false:=by unfold fillsInplaceSlot;show (typeLookup (.type "list") (dunderI "add") >>= λfi=>pure (fi.isSome&&!isSeqSlot fi))=pure false;rw[PySem.F.slot_list_iadd.lookup];rfl
theorem GZ {l b:Addr} {items lY:Array Value} {n n2:Nat} {Q:Value→Shared→Prop} (hl:s.heap.get? l=some {cls:=.type "list",data:=.seq items n}) (hb:s.heap.get? b=some {cls:=.type "list",data:=.seq lY n2}) (hz:items.size+lY.size≤sizeLine) (hQ:∀h' n',h'.get? l=some {cls:=.type "list",data:=.seq (items++lY) n'}→Heap.SameBut l s.heap h'→Q (.ref l) {s with heap:=h'}) : wpAny (model prog w) A (inplaceOp .Add (.ref l) (.ref b)) Q E s:=by
 have tl:s.TypeIs (.ref l) "list":=⟨_,hl,rfl⟩;have tb:s.TypeIs (.ref b) "list":=⟨_,hb,rfl⟩;unfold inplaceOp;refine wpAny_holding ?_;refine wpAny_bind (wpAny_typeOf tl (wpAny_bind (wpAny_of_eq lX ?_)));show wpAny _ A (if false=true then _ else _) Q E s;rw[if_neg Bool.false_ne_true];refine wpAny_bind (wpAny_binaryOp1_none (nm:="add") tl tb noFill_list_add ?_);refine wpAny_bind (wpAny_of_eq qR ?_);refine wpAny_bind (wpAny_rule ?_);refine bZ (rI items n (λx=>x++lY)) λn' B8=>?_;refine call_meets PySem.F.slot_list_iadd tl PySem.F.entry_list_iadd (PySem.F.args_list_iadd_2 _ _) (AutoSeq1.list___iadd___list_list_0 l items n b lY n2 ?_ (by lia) (by lia)) ⟨hl,hb,hQ _ n' ?_ (Heap.SameBut.update ..)⟩
 ·have:Builtin.List.listTooLong (items.size+lY.size)=false:=by
   unfold Builtin.List.listTooLong
   exact decide_eq_false (by lia)
  rw[this,Bool.and_false];exact Bool.false_ne_true
 ·rw[Heap.get?_update_self _ hl (by rw[B8];rfl),B8]
end
section
variable {g:G} {A:Around} {ι:bq} {P:Fz} {s:Shared}
def AV (g:G) (A:Around) (ι:bq) (P:Fz) (s:Shared) (t:Value→Value→Sem Value) (x y:PV) (o:R1):Prop:=∀gd z a b,Rv g.w P ι a x→Rv g.w P ι b y→o=some (gd,z)→AllP gd→Pu g A ι P s (t a b) z
theorem AV.no {t:Value→Value→Sem Value} {x y:PV} {o:R1} (h:o=Option.none):AV g A ι P s t x y o:=λz z z z z z e=>nS (h.symm.trans e)
theorem G0 {x y:PV}:AV g A ι P s (inplaceOp .Add) x y (uQ .Add x y):=by
 induction x using PV.casesOn with
 | int i=>induction y using PV.casesOn with|int j=>intro gd z a b ra rb e hg;apply ra.bx;intro _;apply rb.bx;intro _;exact fQ (R:=λw z=>Pu g A ι P s (inplaceOp .Add _ _) z) e (Pu.same λQ E hQ=>iadd_int (hQ _ _ (.int _ _)))|bool j=>intro gd z a b ra rb e hg;apply ra.bx;intro _;apply rb.eY;exact fQ (R:=λw z=>Pu g A ι P s (inplaceOp .Add _ _) z) e (Pu.same λQ E hQ=>PySem.iadd_int_bool (hQ _ _ (.int _ _)))|_=>exact AV.no rfl
 | str k=>induction y using PV.casesOn with|str l=>intro gd z a b ra rb e hg;apply ra.aZ;intro _ _;apply rb.aZ;intro _ _;refine fQ (R:=λgd z=>AllP gd→Pu g A ι P s (inplaceOp .Add _ _) z) e (λhg=>?_) hg;have zz:=cL hg.1;refine Pu.same λQ E hQ=>PySem.SB.iadd (λt' k=>?_) (by rw[a9,a9];exact zz);rw[ky];exact hQ _ _ (.str _ _ (by rw[List.length_append];exact zz))|_=>exact AV.no rfl
 | _=>exact AV.no rfl
theorem rJ {a b:Value} {x y:PV} (F:aB P s.heap) (ra:Rv g.w P ι a x) (rb:Rv g.w P ι b y) (e:uQ op x y=some (gd,z)) (hg:AllP gd):Pu g A ι P s (inplaceOp op a b) z:=by induction op using Operator.casesOn with|Add=>exact G0 _ _ _ _ ra rb e hg|_=>exact nS e
end
theorem pe {e:Expr} (h:jW e=false) (t:Option Expr) (line:Nat) (env:Env):swapsWith e t line env=pure false:=by induction e using Expr.casesOn <;> first | rfl | exact tF h
theorem nJ (env:Env) {e:Expr} {r:List Expr} (h:isStar e=false):assignEach (e::r) env=(false,assign e env)::assignEach r env:=by induction e using Expr.casesOn <;> first | rfl | exact tF h
theorem jO (env:Env) {ts:List Expr} (h:noStar ts=true):assignEach ts env=ts.map λt=>(false,assign t env):=by induction ts with|nil=>rfl|cons e r ih=>exact (nJ env (fV h).1).trans (congrArg _ (ih (fV h).2))
theorem g4 (env:Env):∀ts:List Expr,(ts.map λt=>((false:Bool),assign t env)).findIdx? (·.1)=Option.none|[]=>rfl|t::r=>by rw[List.map_cons,List.findIdx?_cons];simp only[Bool.false_eq_true,if_false];rw[g4 env r];rfl
theorem vk:∀{ts:List Expr} {ns:List Str},namesOf ts=some ns→ns.length=ts.length:=by
 intro ts;induction ts with
 | nil=>intro ns e;obtain rfl:=Option.some.inj e;rfl
 | cons t r ih=>intro ns e;induction t using Expr.casesOn with|Name x p=>refine aG (Option.map_eq_some_iff.mp (show (namesOf r).map (x::·)=some ns from e)) λa ha ae=>?_;subst ae;rw[List.length_cons,List.length_cons,ih ha]|_=>exact nomatch (show (Option.none:Option (List Str))=some _ from e)
theorem aT.reverse {w:World} {P:Fz} {ι:bq} (r:aT w P ι vs xs):aT w P ι vs.reverse xs.reverse:=by induction xs generalizing vs with|nil=>exact r.eL (R:=λvs=>aT w P ι vs.reverse []) .nil|cons x xs ih=>rw[List.reverse_cons];refine r.dv (R:=λvs=>aT w P ι vs.reverse (xs.reverse++[x])) λu us a r=>?_;rw[List.reverse_cons];exact (ih r).append (.one a)
section
variable {κ:Cx} {A:Around} {Γ:aA} {loc:Loc} {H:Hp} {p cJ:Pt} {s cT:Shared} {X:XP} {n:Nat} {E:Value→Shared→Prop}
theorem d9 (C:af κ A Γ.c) {x:Str} (h:dw Γ.c x=true):κ.env.kindOf x=some .local∨(κ.env.kindOf x=some .cell∧κ.W x=true):=by unfold dw at h;rw[dI,←C.scope] at h;show κ.env.scope.names.lookup x=_∨(κ.env.scope.names.lookup x=_∧_);induction hk:κ.env.scope.names.lookup x with|none=>rw[hk] at h;exact fT h|some k=>rw[hk] at h;induction k using NameKind.casesOn with|«local»=>exact .inl rfl|cell=>exact .inr ⟨rfl,by rw[C.w];exact h⟩|_=>exact fT h
theorem vm (C:af κ A Γ.c):∀{ns:List Str},oT Γ.c ns=true→∀x∈ns,κ.env.kindOf x=some .local:=by
 intro ns;induction ns with
 | nil=>intro _ x hx;cases hx
 | cons y r ih=>
  intro h x hx;refine aj (Bool.and_eq_true_iff.mp h) λh1 h2=>?_;rcases List.mem_cons.mp hx with rfl | hx
  ·rw[dI,←C.scope] at h1;show κ.env.scope.names.lookup x=_;induction hk:κ.env.scope.names.lookup x with|none=>rw[hk] at h1;exact fT h1|some k=>rw[hk] at h1;induction k using NameKind.casesOn <;> first | rfl | exact fT h1
  ·exact ih h2 x hx
def ir (κ:Cx) (p:Pt) (s:Shared) (Q:Unit→Shared→Prop) (r:Loc×Hp):Prop:=∀p' s',Inv κ r.1 r.2 p' s'→To κ p s p' s'→Q () s'
theorem ir.trans {Q:Unit→Shared→Prop} (T:To κ cJ cT p s) {r:Loc×Hp} (h:ir κ cJ cT Q r):ir κ p s Q r:=λp' s' I' T'=>h p' s' I' (T.trans T')
theorem G1 (I:Inv κ loc H p s) {uo ui u:Value} {b j v:PV} {l:Nat×List PV} {k:Int} {Q:Unit→Shared→Prop} (ro:RV κ p uo b) (hl:eA H b=some l) (ri:RV κ p ui j) (hk:j.int?=some k) (hj:(decide (0≤k)&&decide (k<l.2.length))=true) (ru:RV κ p u v) (kk:∀s',Inv κ loc (bG l.1 (.lst (l.2.set k.toNat v)) H) p s'→To κ p s p s'→Q () s'):wpAny κ.M A (setItem uo ui u) Q E s:=by refine aj (dJ hl) λae hH=>?_;subst ae;have:=PV.cy hk;subst this;refine cY (I.obj ro hH) λb d ae fL bX=>?_;subst ae;refine cY bX λws m ho hz rx=>?_;refine bZ ri.int_inv λti ae=>?_;subst ae;have j0:=of_decide_eq_true (Bool.and_eq_true_iff.mp hj).1;have j1:=of_decide_eq_true (Bool.and_eq_true_iff.mp hj).2;have lw:=rx.length;refine xE ho j0 (Int.lt_of_lt_of_le j1 (Int.ofNat_le.mpr (Nat.le_trans hz (by decide)))) (by rw[List.size_toArray,lw];exact (Int.toNat_lt j0).mpr j1 |> λh=>by omega) λh3 m' e sb=>?_;rw[List.setIfInBounds_toArray] at e;refine aj (oj (o:=.lst (l.2.set k.toNat v)) I fL sb ⟨_,e⟩ ⟨_,_,e,by rw[List.length_set];exact hz,rx.set _ ru⟩) λI3 T3=>?_;exact kk _ I3 T3
theorem ft (C:cE κ A X Γ) (I:Inv κ loc H p s) {t:Expr} {u:Value} {v:PV} (ru:RV κ p u v) {Q:Unit→Shared→Prop}:Im (ir κ p s Q) (wpAny κ.M A (assign t κ.env u) Q E s) (AG Γ n t v loc H):=by induction t using Expr.casesOn with|Name x q=>exact .tI λhx h=>PyProof.Rows.assign_Name (bO C.c.kind (d9 C.c hx) I ru λs' I' T'=>h _ _ I' T')|Attribute o a q=>exact .tO λz z e1 lW=>.tS λi hi=>.tI λhc h=>wpAny_bind (wpAny_holding (dO C.c e1 lW p s I _ _ λp1 s1 uo I1 T1 ro=>wpAny_bind (wpAny_standAt (wpAny_bind (wpAny_holding (uU I1 ((cB hi).1▸ro) (cB hi).2 (C.set _ _ (Bool.and_eq_true_iff.mp hc).1) (Bool.and_eq_true_iff.mp hc).2 (T1.rv ru) λs2 I2 T2=>wpAny_release' (h _ _ I2 (T1.trans T2))))))))|Subscript o i q=>refine .tI λhn=>.tO λz z e1 lW=>.tO λz z e2 mT=>.tS λl hl=>.tS λk hk=>.tN λhj h=>?_;rw[PySem.assign_Subscript];exact wpAny_bind (wpAny_holding (dO C.c e1 lW p s I _ _ λp1 s1 uo I1 T1 ro=>wpAny_bind (wpAny_holding (dO C.c e2 mT p1 s1 I1 _ _ λp2 s2 ui I2 T2 ri=>wpAny_bind (wpAny_standAt (wpAny_bind (wpAny_holding (G1 I2 (T2.rv ro) hl ri hk hj.1 (T2.rv (T1.rv ru)) λs3 I3 T3=>wpAny_release' (h _ _ I3 ((T1.trans T2).trans T3))))))))))|_=>exact .no rfl
theorem pf (C:cE κ A X Γ) {Q:Unit→Shared→Prop}:∀{ts:List Expr} {us:List Value} {vs:List PV} {loc:Loc} {H:Hp} {p:Pt} {s:Shared},Inv κ loc H p s→ux κ p us vs→ (sS Γ n ts vs loc H).Sat (ir κ p s Q)→wpAny κ.M A (assignInOrder (ts.map λt=>assign t κ.env) us) Q E s:=by
 intro ts;induction ts with
 | nil=>intro us vs loc H p s I ru h;induction vs using List.casesOn with|nil=>have:=ru.nil_inv;subst this;exact wpAny_pure (h p s I .refl)|cons _ _=>exact h.elim
 | cons t ts ih=>
  intro us vs loc H p s I ru h;induction vs using List.casesOn with|nil=>exact h.elim|cons v vs=>
  refine cY ru.cons_inv λu Nj ae r1 r2=>?_;subst ae;have h:=aP.mp h;show wpAny _ _ (do holding Nj (assign t κ.env u);assignInOrder (ts.map λt=>assign t κ.env) Nj) Q E s;refine wpAny_bind (wpAny_holding (ft C I r1 (h.mono λr hr=>λp1 s1 I1 T1=>?_)));exact ih I1 (T1.AJ r2) (Tr.Sat.mono (λr hr=>hr.trans T1) hr)
theorem xF (C:cE κ A X Γ) {Q:Unit→Shared→Prop}:∀{ns:List Str} {us:List Value} {vs:List PV} {loc fm:Loc} {s:Shared},Inv κ loc H p s→ux κ p us vs→(∀x∈ns,κ.env.kindOf x=some .local)→GI ns vs loc=some fm→ ir κ p s Q (fm,H)→wpAny κ.M A (assignInOrder (ns.map λn=>bindName κ.env n) us) Q E s:=by
 intro ns;induction ns with
 | nil=>
  intro us vs loc fm s I ru hl e h;induction vs using List.casesOn with
  | nil=>have:=ru.nil_inv;subst this;obtain rfl:=Option.some.inj e;exact wpAny_pure (h p s I .refl)
  | cons _ _=>exact nS e
 | cons x ns ih=>
  intro us vs loc fm s I ru hl e h;induction vs using List.casesOn with|nil=>exact nS e|cons v vs=>
  refine cY ru.cons_inv λu Nj ae r1 r2=>?_;subst ae;show wpAny _ _ (do holding Nj (bindName κ.env x u);assignInOrder (ns.map λn=>bindName κ.env n) Nj) Q E s;refine wpAny_bind (wpAny_holding (wpAny_bindName (bO C.c.kind (.inl (hl x List.mem_cons_self)) I r1 λs1 I1 T1=>?_)));exact ih I1 r2 (λy hy=>hl y (List.mem_cons_of_mem _ hy)) e (h.trans T1)
theorem j2 (hh:A.handled=Option.none) {u:Value} (I:Inv κ loc H p s) (ru:RV κ p u (.tup xs)) {k:Nat} (hk:k=xs.length) {Q:List Value→Shared→Prop} (hQ:∀us s',ux κ p us xs→Inv κ loc H p s'→To κ p s p s'→Q us s'):wpAny κ.M A (unpackItems u k Option.none) Q E s:=by
 refine kq ru.fR λta vs m ae ea za ra=>?_;subst ae;have ek:k=vs.toArray.size:=by rw[List.size_toArray,ra.length,hk]
 rw[ek];refine unpackItems_tuple hh (dk I.hi.fz ea) λh' he=>?_;refine aj (I.keep (tk:=s.toks) (λb o e=>he b o (Nat.ne_of_lt (Heap.lt_size e)) e) (Nat.le_refl _)) λI' T'=>?_;exact hQ vs _ ra I' T'
theorem zg {a c:Bool} (h:(a&&b&&c)=true):a=true∧b=true∧c=true:=by induction a <;> induction b <;> induction c <;> first | exact ⟨rfl,rfl,rfl⟩ | exact fT h
def xG (κ:Cx) (A:Around) (E:Value→Shared→Prop) (s:Shared) (Q:Flow→Shared→Prop) (e:Expr) (u:Value) (t:Expr):Prop:=wpAny κ.M A (do assignStores κ.env u (←swappedStores [t] e κ.env) ((assignEach [t] κ.env).map (·.2))) Q E s
section
variable {Q:Flow→Shared→Prop} {e:Expr} {u:Value} {v:PV}
theorem ou {t:Expr} {f:Value→Sem Unit} (h1:swappedStores [t] e κ.env=pure Option.none) (h2:(assignEach [t] κ.env).map (·.2)=[f]) (k:wpAny κ.M A (f u) (λz s'=>Q .next s') E s):xG κ A E s Q e u t:=by unfold xG;rw[h1,h2];exact wpAny_bind (wpAny_pure (wpAny_bind (wpAny_mono k (λz z x=>wpAny_pure x) λz z x=>x)))
theorem lZ (C:cE κ A X Γ) (I:Inv κ loc H p s) {ts:List Expr} {k:Nat} {q:Pos} (ru:RV κ p u (.tup xs)) (hh:A.handled=Option.none) (hs:noStar ts=true) (hlen:xs.length=ts.length) (h1:swappedStores [.Tuple ts k q] e κ.env=pure Option.none) : Im (ir κ p s λz s'=>Q .next s') (xG κ A E s Q e u (.Tuple ts k q)) (sS Γ n ts xs loc H):=λh2=>ou (f:=assign (.Tuple ts k q) κ.env) h1 rfl (by show wpAny _ A (do standAt q;unpack u (assignEach ts κ.env)) _ E s;refine wpAny_bind (wpAny_standAt ?_);unfold unpack;rw[jO κ.env hs,g4];refine wpAny_bind (wpAny_holding (j2 hh I ru (by rw[List.length_map,hlen]) λus s1 rs I1 T1=>?_));rw[List.map_map];exact pf C I1 rs (h2.mono λr hr=>hr.trans T1))
theorem C4 (C:cE κ A X Γ) (I:Inv κ loc H p s) {t:Expr} {fm:Loc} (ru:RV κ p u (.tup xs)) (hh:A.handled=Option.none) (hlen:xs.length=ns.length) (hl:oT Γ.c ns=true) (ha:GI ns.reverse xs.reverse loc=some fm) (h1:swappedStores [t] e κ.env=pure (some ns)) : Im (ir κ p s λz s'=>Q .next s') (xG κ A E s Q e u t) (.leaf (fm,H)):=λh=>by unfold xG;rw[h1];refine wpAny_bind (wpAny_pure ?_);show wpAny _ A (do rule "assign.swapped-stores";let items←unpackItems u ns.length Option.none;assignInOrder (ns.reverse.map λn=>bindName κ.env n) items.reverse;pure .next) Q E s;exact wpAny_bind (wpAny_rule (wpAny_bind (j2 hh I ru hlen.symm λus s1 rs I1 T1=>wpAny_bind (wpAny_mono (xF C I1 rs.reverse (λx hx=>vm C.c hl x (List.mem_reverse.mp hx)) ha (Q:=λz s'=>Q .next s') (ir.trans T1 h)) (λz z x=>wpAny_pure x) λz z x=>x))))
theorem C5 {ts:List Expr} {k:Nat} {q:Pos} (h:isTup e=false):swappedStores [.Tuple ts k q] e env=pure Option.none:=by induction e using Expr.casesOn <;> first | rfl | exact tF h
theorem AW (C:cE κ A X Γ) (I:Inv κ loc H p s) {ts:List Expr} {k:Nat} {q:Pos} (ru:RV κ p u v):Im (ir κ p s λz s'=>Q .next s') (xG κ A E s Q e u (.Tuple ts k q)) (asg Γ n (.Tuple ts k q) e v loc H):=.tS λxs hx=>.tI λhc=>.tB (λz=>by
   have ru:=PV.n9 hx▸ru
   refine fK (zg hc) λhlen hs C6=>?_
   have hlen:=Nat.eq_of_beq_eq_true hlen
   induction hn:namesOf ts with|none=>exact .tN λh1=>lZ C I ru (C.c.hd C6) hs hlen (h1.1 κ.env C.c.scope)|some ns=>exact .tB (λhl=>.tS λfm ha=>.tN λh1=>C4 C I ru (C.c.hd C6) (hlen.trans (vk hn).symm) hl ha (h1.1 κ.env C.c.scope)) λz=>.tN λh1=>lZ C I ru (C.c.hd C6) hs hlen (h1.1 κ.env C.c.scope))
  λhT=>lZ C I (PV.n9 hx▸ru) (C.c.hd (zg hc).2.2) (zg hc).2.1 (Nat.eq_of_beq_eq_true (zg hc).1) (C5 hT)
theorem AX (C:cE κ A X Γ) (I:Inv κ loc H p s) {t:Expr} (ru:RV κ p u v):Im (ir κ p s λz s'=>Q .next s') (xG κ A E s Q e u t) (asg Γ n t e v loc H):=by induction t using Expr.casesOn with|Tuple ts k q=>exact AW C I ru|Name _ _=>exact λh=>ou (f:=assign _ κ.env) rfl rfl (ft (n:=n) C I ru h)|Attribute _ _ _=>exact λh=>ou (f:=assign _ κ.env) rfl rfl (ft (n:=n) C I ru h)|Subscript _ _ _=>exact λh=>ou (f:=assign _ κ.env) rfl rfl (ft (n:=n) C I ru h)|_=>exact .no rfl
end
end
section
variable {κ:Cx} {A:Around} {Γ:aA} {loc:Loc} {H:Hp} {p cJ:Pt} {s cT:Shared} {X:XP} {n:Nat} {Q:Flow→Shared→Prop} {E:Value→Shared→Prop}
abbrev SG (κ:Cx) (A:Around) (X:XP) (Γ:aA) (n:Nat):Prop:=∀st loc H,bt κ A X (exec st κ.env) loc H (oU Γ n st loc H)
abbrev Kf (κ:Cx) (A:Around) (X:XP) (Γ:aA) (n:Nat):Prop:=∀Pg loc H,bt κ A X (execs Pg κ.env) loc H (av Γ n Pg loc H)
theorem bt.tO {t:Sem Flow} {o:Option (List Prop×α)} {f:α→Tr Out} (h:∀g a,o=some (g,a)→AllP g→bt κ A X t loc H (f a)):bt κ A X t loc H ((iW o).bind f):=λp s I Q E hE x=>by induction o with|none=>exact x.elim|some r=>exact h r.1 r.2 rfl x.1 p s I Q E hE x.2
theorem bt.tS {t:Sem Flow} {o:Option α} {f:α→Tr Out} (h:∀a,o=some a→bt κ A X t loc H (f a)):bt κ A X t loc H (iN f o):=λp s I Q E hE x=>match o,h,x with|some a,h,x=>h a rfl p s I Q E hE x
theorem bt.tI {t:Sem Flow} {c:Bool} {tr:Tr Out} (h:c=true→bt κ A X t loc H tr):bt κ A X t loc H (iO c tr):=λp s I Q E hE x=>match c,h,x with|true,h,x=>h rfl p s I Q E hE x
theorem bt.tN {t:Sem Flow} {tr:Tr Out} (h:AllP gs→bt κ A X t loc H tr):bt κ A X t loc H (.need gs tr):=λp s I Q E hE x=>h x.1 p s I Q E hE x.2
theorem kP (C:cE κ A X Γ) {e:Expr} {k:PV→Hp→Tr Out} {K:Value→Shared→Prop} (I:Inv κ loc H p s) (h:((GG Γ loc H n e).bind (AH loc k)).Sat (vd κ X p s Q E)) (hk:∀{v H' p' s' u},Inv κ loc H' p' s'→To κ p s p' s'→RV κ p' u v→(k v H').Sat (vd κ X p s Q E)→K u s'):wpAny κ.M A (eval e κ.env) K E s:=by refine rH C I ((aP.mp h).mono λr hr=>?_);induction r using RE.casesOn with|ok v H'=>exact λp' s' u I' T' ru=>hk I' T' ru hr|exc m H'=>exact λp' s' e gm I' T' x=>hr p' s' I' T' e gm x
theorem xH (C:cE κ A X Γ) {e:Expr} :bt κ A X (exec (.Return (some e) pos) κ.env) loc H (oU Γ (n+1) (.Return (some e) pos) loc H):=λp s I Q E hE h=>wpAny_Return_some (kP C I h λI' T' ru hr=>hr _ _ I' T' _ ru)
theorem C7 {w:World} {P:Fz} {ι:bq} {u:Value} {v:PV} {C:Prop} (h:isVal v=true) (q:C):Rv w P ι u v→(match u with | .ref _=>False | _=>C):=by
 intro r;induction v using PV.casesOn with
 | none=>obtain rfl:=r.none_inv;exact q
 | bool b=>obtain rfl:=r.bool_inv;exact q
 | int i=>obtain ⟨_,rfl⟩:=r.int_inv;exact q
 | str s=>obtain ⟨_,rfl,_⟩:=r.str_inv;exact q
 | _=>exact fT h
theorem C8 (C:cE κ A X Γ) {e:Expr} :bt κ A X (exec (.Expr e pos) κ.env) loc H (oU Γ (n+1) (.Expr e pos) loc H):=.tI λhc p s I Q E hE h=>wpAny_Expr (kP C I h λ{v H' p' s' u} I' T' ru h0=>C7 (C:=Q .next s') (oS h0).1 ((oS h0).2 _ _ I' T') ru) (by unfold interactive;rw[C.c.kind];rfl) (pe (Bool.not_eq_true' _▸hc) _ _ _)
theorem xI (C:cE κ A X Γ) {t e:Expr} :bt κ A X (exec (.Assign [t] e pos) κ.env) loc H (iO (!jW e) ((GG Γ loc H n e).bind (AH loc λv H'=>(asg Γ n t e v loc H').bind λq=>.leaf ⟨.next,q.1,q.2⟩))):=λp s I Q E hE h=>by
 refine aj (oS h) λhc h=>?_;have hc:jW e=false:=by simpa using hc
 rw[PyProof.Rows.exec_Assign];refine wpAny_bind (wpAny_standAt ?_);have hs:swapsWithSole [t] e pos.line κ.env=pure false:=pe hc _ _ _;rw[hs];refine wpAny_bind (wpAny_pure ?_);rw[if_neg (by decide)];refine wpAny_bind (kP C I h λI1 T1 ru hr=>?_);exact AX C I1 ru ((aP.mp hr).mono λq hq=>λp2 s2 I2 T2=>hq p2 s2 I2 (T1.trans T2))
theorem C9 (I:Inv κ loc H p s) {vs:List PV} (r:ux κ p us vs) (hz:vs.length≤sizeLine) {Q:Value→Shared→Prop}  (hQ:∀p' s' u,Inv κ loc (H++[(H.length,.lst vs)]) p' s'→To κ p s p' s'→RV κ p' u (.ref H.length)→Q u s'):wpAny κ.M A (newList us) Q E s:=by
 refine wpAny_newObj_type ?_ (by show us.toArray.size≤sizeLine;rw[List.size_toArray,r.length];exact hz);have hlen:∀k q,p.ι k=some q→c7 p.ι H.length (s.heap.objs.size,s.heap.objs.size) k=some q:=λk q e=>by dsimp only[c7];rw[if_neg (λz=>Nat.lt_irrefl _ (z▸I.hi.xf k q e))];exact e
 refine w6 (GN (ao:=.lst vs) (o:={cls:=.type "list",data:=.seq us.toArray}) I rfl ⟨us,_,Heap.get?_push_size _ rfl,hz,r.eS (λy y e=>e) hlen⟩) λp' I' T' r'=>?_;exact hQ _ _ _ I' T' r'
theorem bt.tB {t:Sem Flow} {c:Bool} {tr te:Tr Out} (h:c=true→bt κ A X t loc H tr) (h':c=false→bt κ A X t loc H te):bt κ A X t loc H (bif c then tr else te):=match c,h,h' with|true,h,_=>h rfl|false,_,h'=>h' rfl
theorem AY (C:cE κ A X Γ) {x:Str} {q lp:Pos} {es:List Expr} (hx:dw Γ.c x=true):bt κ A X (exec (.Assign [.Name x q] (.List es lp) pos) κ.env) loc H (iO (gp es) ((iW (fO (dU Γ.c loc H n) es)).bind λvs=>.leaf ⟨.next,cM x (.ref H.length) loc,H++[(H.length,.lst vs)]⟩)):=.tI λhl=>.tO λgd vs e1 hg p s I Q E hE h=>by refine aj (jn hl) λhs hz=>?_;refine wpAny_Assign_Name (List_ ?_);rw[bJ κ.env hs,cW];exact bR (cD C.c n).1 e1 hg I λp1 s1 us I1 T1 rv=>C9 I1 rv (by rw[mO e1];exact hz) λp2 s2 u I2 T2 ru=>bO C.c.kind (d9 C.c hx) I2 ru λs3 I3 T3=>h _ _ I3 ((T1.trans T2).trans T3)
theorem G2 (C:cE κ A X Γ) {x:Str} {q:Pos} (e:Expr) (hx:dw Γ.c x=true):bt κ A X (exec (.Assign [.Name x q] e pos) κ.env) loc H (y4 e (λes=>iO (gp es) ((iW (fO (dU Γ.c loc H n) es)).bind λvs=>.leaf ⟨.next,cM x (.ref H.length) loc,H++[(H.length,.lst vs)]⟩)) .fail):=by induction e using Expr.casesOn with|List es lp=>exact AY C hx|_=>exact λp s I Q E hE h=>False.elim h
theorem pg (C:cE κ A X Γ) {x:Str} {q:Pos} {e:Expr}:bt κ A X (exec (.Assign [.Name x q] e pos) κ.env) loc H (oU Γ (n+1) (.Assign [.Name x q] e pos) loc H):=.tI λhx=>.tB (λz=>.tI λUk=>.tS λt ht=>.tO λgd v e1 hg=>.tN λh1 p s I Q E hE h=>
   Eq.subst (motive:=λe=>wpAny κ.M A (exec (.Assign [.Name x q] e pos) κ.env) Q E s) h1.1 (C.uses _ t ht (Eq.substr (p:=λe=>GH e=true) h1.1 Uk) loc H gd v e1 hg p s I x q pos (d9 C.c hx) Q E λp' s' I' T'=>h p' s' I' T'))
  λhc=>.tB (λz=>G2 C e hx) λz p s I Q E hE h=>wpAny_Assign_Name (kP C I h λI1 T1 ru hr=>bO C.c.kind (d9 C.c hx) I1 ru λs2 I2 T2=>hr _ _ I2 (T1.trans T2)) (pe hc _ _ _)
theorem Dc (h:isAdd op=true):op=.Add:=by induction op using Operator.casesOn <;> first | rfl | exact fT h
theorem Dd {Q:Value→Shared→Prop} {u u2:Value} {old v:PV} {i:Nat×List PV} (I1:Inv κ loc H p s) (Nd:op=.Add) (hl:old=.ref i.1∧aO i.1 H=some (.lst i.2)) (hv:v=.lst ys) (ru:RV κ p u old) (r2:RV κ p u2 v) (zz:i.2.length+ys.length≤sizeLine) (k:∀s',Inv κ loc (bG i.1 (.lst (i.2++ys)) H) p s'→To κ p s p s'→RV κ p u old→Q u s'):wpAny κ.M A (inplaceOp op u u2) Q E s:=by
 subst Nd;refine aj hl λae hH=>?_;subst ae;subst hv;refine cY (I1.obj ru hH) λb d ae fL bX=>?_;subst ae;refine cY bX λws m zh hz rx=>?_;refine kq r2.lst_inv λtb SH n2 ae eb zb rb=>?_;subst ae;refine GZ zh (I1.hi.fz _ _ eb) (by rw[List.size_toArray,List.size_toArray,rx.length,rb.length];exact zz) λh2 m' e2 sb=>?_;have ea:ws.toArray++SH.toArray=(ws++SH).toArray:=by simp
 rw[ea] at e2;refine aj (oj (o:=.lst (i.2++ys)) I1 fL sb ⟨_,e2⟩ ⟨_,_,e2,by rw[List.length_append];exact zz,rx.append rb⟩) λI2 T2=>?_;exact k _ I2 T2 ru
theorem vo (C:cE κ A X Γ) {x:Str} {q:Pos} {e:Expr}:bt κ A X (exec (.AugAssign (.Name x q) op e pos) κ.env) loc H (oU Γ (n+1) (.AugAssign (.Name x q) op e pos) loc H):=
 .tI λhx=>.tS λold ho=>.tO λgd v e1 hg=>by
 have hk:=d9 C.c (Bool.and_eq_true_iff.mp hx).1
 have ev:=dO C.c e1 hg
 clear hx
 induction hl:eA H old with|none=>exact .tO λgz z e2 Ul p s I Q E hE h=>(I.ei.vars x old ho).elim λu hu=>wpAny_AugAssign_Name (o4 C.c.kind hu.2 (ev p s I _ _ λp1 s1 u2 I1 T1 r2=>(rJ I1.hi.fz (T1.rv hu.1) r2 e2 Ul).to I1 λp2 s2 u3 I2 T2 r3=>bO C.c.kind hk I2 r3 λs3 I3 T3=>h _ _ I3 ((T1.trans T2).trans T3)))|some i=>exact .tI λNd=>.tS λys hy=>.tN λgz p s I Q E hE h=>(I.ei.vars x old ho).elim λu hu=>wpAny_AugAssign_Name (o4 C.c.kind hu.2 (ev p s I _ _ λp1 s1 u2 I1 T1 r2=>Dd I1 (Dc Nd) (dJ hl) (PV.ku hy) (T1.rv hu.1) r2 (cL gz.1) λs2 I2 T2 ru=>bO C.c.kind hk I2 ru λs3 I3 T3=>h _ _ I3 ((T1.trans T2).trans T3)))
theorem xJ {a:Str} {u:Value} {v x:PV} {i:Nat×Addr×List (Str×PV)} {ex:Bool} {Q:Value→Shared→Prop} (I:Inv κ loc H p s) (r:RV κ p u v) (hi:c6 H v=some i) (ha:gv κ.g i.2.1 a .field) (hf:ax a i.2.2=some x) (hn:bC x=true) (k:∀s' u',Inv κ loc H p s'→To κ p s p s'→RV κ p u' x→Q u' s'):wpAny κ.M A (getAttr u a ex) Q E s:=by refine aj (cB hi) λae hH=>?_;subst ae;refine cY (I.obj r hH) λb d ae fL bX=>?_;subst ae;refine cY bX λes m ho hd fe=>?_;refine aG ((fe.look a).1 x hf) λv' hl rv=>?_;refine fK ha λUm Un ae=>?_;refine aG ae λattr p3 p4=>?_;have T:=I.toks (Nat.le_succ s.toks);exact get_value I.hi.gV.1 (jm ho hd) (plainGet_of Um).1 (findObj_own Un p3 p4 hl) (lU rv hn) (k _ _ T.1 T.2 rv)
theorem Nk {a c d:Bool} (h:(a&&(b&&(c&&d)))=true):a=true∧b=true∧c=true∧d=true:=by induction a <;> induction b <;> induction c <;> induction d <;> first | exact ⟨rfl,rfl,rfl,rfl⟩ | exact fT h
theorem xK {o:Option AK} (h:(match o with | some .field=>true | _=>false)=true):o=some .field:=by induction o with|none=>exact fT h|some k=>induction k using AK.casesOn <;> first | rfl | exact fT h
theorem vp {old v:PV} {g:List Prop} (h:uQ op old v=some (g,z)):bC old=true:=by induction old using PV.casesOn <;> first | rfl | (exfalso;induction op using Operator.casesOn <;> exact nS h)
theorem vq (C:cE κ A X Γ) {o:Expr} {a:Str} {q:Pos} {e:Expr}:bt κ A X (exec (.AugAssign (.Attribute o a q) op e pos) κ.env) loc H (oU Γ (n+1) (.AugAssign (.Attribute o a q) op e pos) loc H):=.tI λz=>.tO λz z e1 lW=>.tS λi hi=>.tS λold hf=>.tO λz z e2 mT=>.tO λz z e3 Uo=>.tI λhc p s I Q E hE h=>
 wpAny_AugAssign_AttributeAny (dO C.c e1 lW p s I _ _ λp1 s1 uo I1 T1 ro=>
  xJ I1 ro hi (C.c.attr i.2.1 a _ (xK (Bool.and_eq_true_iff.mp hc).1)) hf (vp e3) λVA v' Up Uq rv=>
  dO C.c e2 mT _ _ Up _ _ λp2 s2 uv I2 T2 r2=>(rJ I2.hi.fz (T2.rv rv) r2 e3 Uo).to I2 λp3 s3 u3 I3 T3 r3=>
  uU I3 (T3.rv (T2.rv ((cB hi).1▸ro))) (cB hi).2 (C.set _ _ (Bool.and_eq_true_iff.mp (Bool.and_eq_true_iff.mp hc).2).1) (Bool.and_eq_true_iff.mp (Bool.and_eq_true_iff.mp hc).2).2 r3 λs4 I4 T4=>h _ _ I4 ((((T1.trans Uq).trans T2).trans T3).trans T4))
theorem AZ (C:cE κ A X Γ) {x m:Str} {q kp:Pos} {kk:Nat}:bt κ A X (exec (.Raise (some (.Call (.Name x q) [.Constant (.str m) kk kp] [] cp)) Option.none pos) κ.env) loc H (oU Γ (n+1) (.Raise (some (.Call (.Name x q) [.Constant (.str m) kk kp] [] cp)) Option.none pos) loc H):=.tI λhx=>.tS λv hv=>(C.c.glob x v hv).elim λu hu=>by obtain ⟨rfl,Qm⟩:=hu;induction u using Value.casesOn with|type T=>exact .tN λh1 p s I Q E hE h=>lG (Nk hx) λUr C6 hG hf=>wpAny_Raise_call PySem.F.excCall_ValueError PySem.F.excRaise_ValueError (C.c.hd C6) rfl (cC C.c (aW C.c hG).1 I.hi.gV (h1.1▸Qm) (aW C.c hG).2 ⟨rfl,evalArgs_plain (rest:=[]) (x:=eval (.Constant (.str m) kk kp) κ.env) (spliced_cons (wpAny_Constant_str (spliced_nil ⟨rfl,Nat.le_of_ble_eq_true rfl,λh' e he=>h _ _ (I.toks (Nat.le_succ s.toks)).1 (I.toks (Nat.le_succ s.toks)).2 (.ref e) h' (C.raises Ur _ _ _ _ s.toks ((Cd m).symm▸he))⟩)))⟩)|_=>exact λp s I Q E hE h=>h.elim
theorem bt.fail {t:Sem Flow} {tr:Tr Out} (e:tr=.fail):bt κ A X t loc H tr:=λp s I Q E hE h=>by rw[e] at h;exact h.elim
theorem De (C:cE κ A X Γ) {st:Stmt} {t:sR} (ht:mL pos Γ.loops=some t):bt κ A X (exec st κ.env) loc H (.need [t.st=st] (t.f loc H)):=λp s I Q E hE ⟨h1,h⟩=>by have key:=C.loops pos t ht loc H;rw[h1.1] at key;exact key p s I Q E hE h
def IM (κ:Cx) (A:Around) (X:XP) (Γ:aA) (n:Nat) (loc:Loc) (H:Hp) (st:Stmt):Prop:=bt κ A X (exec st κ.env) loc H (oU Γ (n+1) st loc H)
theorem IM.no {st:Stmt} (e:oU Γ (n+1) st loc H=.fail):IM κ A X Γ n loc H st:=bt.fail e
theorem A0 (C:cE κ A X Γ) (e c:Option Expr) (q:Pos):IM κ A X Γ n loc H (.Raise e c q):=by
 induction c with|some _=>exact .no rfl|none=>
 induction e with|none=>exact .no rfl|some e=>
 induction e using Expr.casesOn with
 | Call f args sQ cp=>
  induction sQ using List.casesOn with|cons _ _=>exact .no rfl|nil=>
  induction args using List.casesOn with|nil=>exact .no rfl|cons a r=>
  induction r using List.casesOn with|cons _ _=>exact .no rfl|nil=>
  induction f using Expr.casesOn with
  | Name x xp=>
   induction a using Expr.casesOn with
   | Constant k kk kp=>induction k using Const.casesOn with|str m=>exact AZ C|_=>exact .no rfl
   | _=>exact .no rfl
  | _=>exact .no rfl
 | _=>exact .no rfl
theorem G3 (C:cE κ A X Γ) (t:Expr) (op:Operator) (e:Expr) (q:Pos):IM κ A X Γ n loc H (.AugAssign t op e q):=by induction t using Expr.casesOn with|Name x q=>exact vo C|Attribute o a q=>exact vq C|_=>exact .no rfl
theorem Df (C:cE κ A X Γ) (t e:Expr) (q:Pos):IM κ A X Γ n loc H (.Assign [t] e q):=by induction t using Expr.casesOn with|Name x q=>exact pg C|_=>exact xI C
theorem Dg (t t':Expr) (r:List Expr) (e:Expr) (q:Pos):IM κ A X Γ n loc H (.Assign (t::t'::r) e q):=.no rfl
theorem Nl {f:Option Bool} {c:Bool} {ta tb:Tr Out} {Φ:Out→Prop} (h:(match f with
  | some true=>Tr.need [c=true] ta
  | some false=>.need [c=false] tb
  | Option.none=>.br c ta tb).Sat Φ):(c=true→ta.Sat Φ)∧(c=false→tb.Sat Φ):=
 match f,c,h with|Option.none,_,h=>h|some true,_,h=>⟨λz=>h.2,λq=>tF (h.1.1.symm.trans q)⟩|some false,_,h=>⟨λq=>tF (q.symm.trans h.1.1),λz=>h.2⟩
theorem Kg (C:cE κ A X Γ) (Ph:Kf κ A X Γ n) (t:Expr) (a b:List Stmt) (q:Pos):IM κ A X Γ n loc H (.If t a b q):=by show bt κ A X _ loc H ((iW (CA Γ.c loc H n t)).bind λc=>match Γ.fold t.pos.line with|some true=>.need [c=true] (av Γ n a loc H)|some false=>.need [c=false] (av Γ n b loc H)|Option.none=>.br c (av Γ n a loc H) (av Γ n b loc H));refine .tO λgd c e1 hg p s I Q E hE h=>wpAny_If ((cD C.c n).2 t gd c e1 hg p s I _ _ λp1 s1 I1 T1=>?_);have h:=Nl h;induction c with|true=>exact Ph a _ _ p1 s1 I1 Q E hE ((h.1 rfl).mono λo ho=>ho.trans T1)|false=>exact Ph b _ _ p1 s1 I1 Q E hE ((h.2 rfl).mono λo ho=>ho.trans T1)
theorem Us (C:cE κ A X Γ) (Ph:Kf κ A X Γ n) (st:Stmt):IM κ A X Γ n loc H st:=by
 induction st using Stmt.casesOn with
 | Pass q=>exact λp s I Q E hE h=>wpAny_Pass (h p s I .refl)
 | Break q=>exact λp s I Q E hE h=>wpAny_Break (h p s I .refl)
 | Continue q=>exact λp s I Q E hE h=>wpAny_Continue (h p s I .refl)
 | Return e q=>induction e with|none=>exact λp s I Q E hE h=>wpAny_Return_none (h p s I .refl .none .none)|some e=>exact xH C
 | Expr e q=>exact C8 C
 | If t a b q=>exact Kg C Ph t a b q
 | Assign ts e q=>induction ts using List.casesOn with|nil=>exact .no rfl|cons t r=>induction r using List.casesOn with|cons t' r=>exact Dg t t' r e q|nil=>exact Df C t e q
 | AugAssign t op e q=>exact G3 C t op e q
 | Raise e c q=>exact A0 C e c q
 | _=>exact .no rfl
theorem Dh (C:cE κ A X Γ) (ih:SG κ A X Γ n) (st:Stmt):bt κ A X (exec st κ.env) loc H (match mL st.pos Γ.loops with
  | some t=>.need [t.st=st] (t.f loc H)
  | Option.none=>oU Γ n st loc H):=by
 induction ht:mL st.pos Γ.loops with|none=>exact ih st loc H|some t=>exact De C ht
theorem cF (C:cE κ A X Γ) (n:Nat):SG κ A X Γ n∧Kf κ A X Γ n:=by induction n with|zero=>exact ⟨λst loc H p s I Q E hE h=>False.elim h,λst loc H p s I Q E hE h=>False.elim h⟩|succ n ih=>exact ⟨λst loc H=>Us C ih.2 st,λPg loc H=>match Pg with|[]=>λp s I Q E hE h=>wpAny_execs_nil (h p s I .refl)|st::r=>λp s I Q E hE h=>wpAny_execs_cons (Dh C ih.1 st p s I _ E hE ((aP.mp h).mono λo ho p1 s1 I1 T1=>by induction o using Out.casesOn with|mk fl l' H'=>induction fl using Fl.casesOn with|next=>exact ih.2 r l' H' p1 s1 I1 Q E hE (Tr.Sat.mono (λo2 Mt=>Mt.trans T1) ho)|_=>exact ho p1 s1 I1 T1))⟩
end
inductive Binds (w:World) (P:Fz) (ι:bq):List (Str×Value)→Loc→Prop
 | nil:Binds w P ι [] []
 | cons {x:Str} {u:Value} {v:PV} {bs:List (Str×Value)} {l:Loc}:Rv w P ι u v→Binds w P ι bs l→Binds w P ι ((x,u)::bs) ((x,v)::l)
 | skip {x:Str} {u:Value} {bs:List (Str×Value)} {l:Loc}:Binds w P ι bs l→Binds w P ι ((x,u)::bs) l
theorem A7 {k:Str→Option NameKind} {x:Str} {bs:List (Str×Value)}:∀{m:Str→Option Value},(∀p∈bs,p.1≠x)→bindL k bs m x=m x:=by
 induction bs with|nil=>intro m _;rfl|cons p r ih=>
  intro m h;unfold bindL;rw[ih λp hp=>h p (List.mem_cons_of_mem _ hp)]
  split
  ·exact if_neg (Ne.symm (h p List.mem_cons_self))
  ·rfl
theorem A8 {k:Str→Option NameKind} {x:Str} {bs:List (Str×Value)}:∀{m:Str→Option Value},(∀p∈bs,p.1≠x)→bindC k bs m x=m x:=by
 induction bs with|nil=>intro m _;rfl|cons p r ih=>
  intro m h;unfold bindC;rw[ih λp hp=>h p (List.mem_cons_of_mem _ hp)]
  split
  ·rfl
  ·exact if_neg (Ne.symm (h p List.mem_cons_self))
theorem Binds.get {w:World} {P:Fz} {ι:bq} {k:Str→Option NameKind} {x:Str} {v:PV} {bs:List (Str×Value)} {l:Loc} (B:Binds w P ι bs l):∀{m mc:Str→Option Value},(bs.map (·.1)).Nodup→ax x l=some v→ ∃u,Rv w P ι u v∧(∃p∈bs,p.1=x)∧(k x=some .local→bindL k bs m x=some u)∧(k x≠some .local→bindC k bs mc x=some u):=by
 have tail:∀{y:Str} {Di:Value} {bs:List (Str×Value)} {m mc:Str→Option Value},(∃u,Rv w P ι u v∧(∃p∈bs,p.1=x)∧(k x=some .local→bindL k bs (if k y=some .local then λz=>if z=y then some Di else m z else m) x=some u)∧(k x≠some .local→bindC k bs (if k y=some .local then mc else λz=>if z=y then some Di else mc z) x=some u))→ ∃u,Rv w P ι u v∧(∃p∈(y,Di)::bs,p.1=x)∧(k x=some .local→bindL k ((y,Di)::bs) m x=some u)∧(k x≠some .local→bindC k ((y,Di)::bs) mc x=some u):=λh=>Mo h λu' r' z a b=>aG z λp hp hx=>⟨u',r',⟨p,List.mem_cons_of_mem _ hp,hx⟩,a,b⟩;induction B with|nil=>intro m mc _ e;exact nS e|skip rest ih=>intro m mc nd e;simp only[List.map_cons,List.nodup_cons] at nd;exact tail (ih nd.2 e)|@cons y u v' bs l r rest ih=>
  intro m mc nd e;simp only[d6] at e;simp only[List.map_cons,List.nodup_cons] at nd;induction q:seq y x with
  | true=>
   rw[q] at e;cases e;have:=aK.mp q;subst this;have off:∀p∈bs,p.1≠y:=λp hp z=>nd.1 (List.mem_map.mpr ⟨p,hp,z⟩);refine ⟨u,r,⟨_,List.mem_cons_self,rfl⟩,λhk=>?_,λhk=>?_⟩
   ·unfold bindL;rw[A7 off,if_pos hk];exact if_pos rfl
   ·unfold bindC;rw[A8 off,if_neg hk];exact if_pos rfl
  | false=>rw[q,cond_false] at e;exact tail (ih nd.2 e)
structure FnAt (g:G) (f:Addr) (o:Obj) (fd:FuncData) (body:List Stmt):Prop where
 look:g.K.lookup f=some o
 data:o.data=.func fd
 body:fd.body=.stmts body
 Qn:fd.closure=[]
 glob:fd.globals=mainGlobals
 blt:fd.builtins=builtinsNs
 code:codeIn g.K fd.code fd.qualname=true
 co:fd.scope.isCoroutine=false
 gen:fd.scope.isGenerator=false
 kind:fd.scope.kind=.function
structure iu (fd:FuncData) (ns:List Str):Prop where
 nd:ns.Nodup
 kind:∀L,∀x∈ns,fd.scope.names.lookup x=some .local∨(fd.scope.names.lookup x=some .cell∧((cellsFrom (L+1) fd.scope.names []).lookup x).isSome=true)
 cells:∀L x,fd.scope.names.lookup x=some .cell→((cellsFrom (L+1) fd.scope.names []).lookup x).isSome=true
def gw (A:Around) (fr:List Addr) (l:List Env):Prop:=A.frames=some l∧∀e∈l,e.scope.kind≠.module∧∃L,e.frame=some L∧L∈fr
section
variable {g:G} {B:Bs} {A:Around} {Γ:aA} {p:Pt} {s:Shared} {loc:Loc} {H:Hp} {X X':XP}
noncomputable abbrev c5 (g:G) (B:Bs) (fd:FuncData) (L f:Addr):Cx:=⟨g,B,callEnvC fd L f,λz=>true⟩
theorem iu.mem (P:iu fd ns) {binds:List (Str×Value)} (e:binds.map (·.1)=ns) {x:Str×Value} (hx:x∈binds):x.1∈ns:=e▸List.mem_map.mpr ⟨x,hx,rfl⟩
theorem G4 {f:Addr} {binds:List (Str×Value)} (Y:HI g B H p s.heap) (Bi:Binds g.w p.P p.ι binds loc) (hn:binds.map (·.1)=ns) (Po:iu fd ns) (x:InCallC s (callEnvC fd s.heap.objs.size f).locals (bindL (callEnvC fd s.heap.objs.size f).kindOf binds λt=>Option.none) (callEnvC fd s.heap.objs.size f).cells (bindC (callEnvC fd s.heap.objs.size f).kindOf binds λt=>Option.none) ag):Inv (c5 g B fd s.heap.objs.size f) loc H p ag:=by
 have keep:s.heap.StaysIn ag.heap:=x.toInCall.keep;have new:∀a,s.heap.objs.size≤a→B.h.get? a=Option.none∧p.P a=Option.none∧¬ Own p a:=λa ha=>by
  have n:s.heap.get? a=Option.none:=by induction q:s.heap.get? a with|none=>rfl|some o=>exact absurd (Heap.lt_size q) (Nat.not_lt.mpr ha)
  exact ⟨aw Y.st n,rB Y.fz n,λq=>by refine bZ ((Y.new a q).2.2) λo e=>?_;exact aE e n⟩
 refine ⟨Y.grow (.keep keep),⟨⟨_,x.toInCall.ns⟩,λy c e=>⟨_,x.cell y c e⟩,λy e=>?_,λy v e=>?_,λa q=>?_,λy z c e1 e2=>?_,λy c e=>?_⟩⟩
 ·exact Option.isSome_iff_exists.mp (Po.cells _ y e)
 ·refine Mo (Bi.get (k:=(callEnvC fd s.heap.objs.size f).kindOf) (m:=λt=>Option.none) (mc:=λt=>Option.none) (hn▸Po.nd) e) λu r ae h1 h2=>?_;refine aG ae λq hq hx=>?_;refine ⟨u,r,?_⟩;have hm:=Po.mem hn hq;rw[hx] at hm;rcases Po.kind s.heap.objs.size y hm with hk | ⟨hk,hc⟩
  ·exact .inl ⟨hk,_,x.toInCall.ns,h1 hk⟩
  ·refine bZ (Option.isSome_iff_exists.mp hc) λc hc=>?_;refine .inr ⟨.inl hk,c,hc,?_⟩;have:=x.cell y c hc;have nl:(callEnvC fd s.heap.objs.size f).kindOf y≠some .local:=λq=>by have q:fd.scope.names.lookup y=some .local:=q;rw[hk] at q;cases q
   rwa[h2 nl] at this
 ·rcases q with rfl | ⟨y,e⟩
  ·exact new _ (Nat.le_refl _)
  ·exact new _ (Nat.le_of_lt (x.above y a (mem_of_lookup e)))
 ·exact name_of_addr x.apart (mem_of_lookup e1) (mem_of_lookup e2)
 ·exact Nat.ne_of_gt (x.above y c (mem_of_lookup e))
def vr (g:G) (B:Bs) (X':XP) (p:Pt) (s:Shared) (R:Result→Shared→Prop) (o:Out):Prop:=match o.fl with
 | .ret v=>dA g B X' p s R (.ok v o.H)
 | .exc m=>dA g B X' p s R (.exc m o.H)
 | _=>dA g B X' p s R (.ok .none o.H)
theorem nI.cat {F:List Addr} {CD:Pt} {s AI:Shared} (x:nI F p s p' s') (y:nI F p' s' CD AI):nI F p s CD AI:=by refine rh x.eq λh1 t1 eq2=>?_;subst eq2;refine rh y.eq λh2 t2 eq2=>?_;subst eq2;exact ⟨⟨_,_,rfl⟩,Nat.le_trans x.le y.le,x.st.trans y.st⟩
theorem dA.trans (T:nI B.fr p s p₁ ag):∀{r:RE},dA g B X p s R r→dA g B X p₁ ag R r|.ok _ _,h=>λp' s' u Y T' r=>h p' s' u Y (T.cat T') r|.exc _ _,h=>λp' s' e gm Y T' x=>h p' s' e gm Y (T.cat T') x
def fW (g:G) (fd:FuncData) (ns:List Str) (args:List PV) (loc:Loc):Prop:=∀(A:Around) (s:Shared) (p:Pt) (vs:List Value),g.Ok s.heap→aT g.w p.P p.ι vs args→∀(Q:List (Str×Value)→Shared→Prop) (E:Value→Shared→Prop),(∀binds fq tk,s.heap.StaysIn fq→s.toks≤tk→binds.map (·.1)=ns→Binds g.w p.P p.ι binds loc→Q binds {s with heap:=fq,toks:=tk})→wpAny (model g.prog g.w) A (bindArgs fd ⟨vs,[]⟩) Q E s
theorem Kh {f:Addr} {binds:List (Str×Value)} {n:Nat} (F:FnAt g f o fd body) (Po:iu fd ns) (Y:HI g B H p s.heap) (hn:binds.map (·.1)=ns) (Bi:Binds g.w p.P p.ι binds loc) (C:cE (c5 g B fd s.heap.objs.size f) (A.deeper (callEnvC fd s.heap.objs.size f)) X Γ) (hX:∀m l H' p' s' e gm,Inv (c5 g B fd s.heap.objs.size f) l H' p' s'→nI B.fr p s p' s'→X s'.heap m e gm→dA g B X' p s R (.exc m H')→ wpAny (model g.prog g.w) (A.deeper (callEnvC fd s.heap.objs.size f)) (leaving (callEnvC fd s.heap.objs.size f) e) (λt AI=>R (.error e) AI) (λe' AI=>R (.error e') AI) {s' with heap:=gm}) (h:(av Γ n body loc H).Sat (vr g B X' p s R)) : wpAny (model g.prog g.w) A.in1 (newFunctionEnv fd.scope fd.globals [] binds (fd.qualname++".<locals>.") (some f) fd.code Option.none fd.builtins) (λenv cU=>cU.heap.NoLimit∧codeAny (model g.prog g.w) A (.func body env) R cU) (λe s'=>R (.error e) s') s:=by
 refine wpAny_with_toks (Q:=λenv cU=>cU.heap.NoLimit∧codeAny (model g.prog g.w) A (.func body env) R cU) (Nat.le_refl s.toks) (wpAny_newFunctionEnv_cells F.kind (λx hx=>Po.kind _ x.1 (Po.mem hn hx)) λenv he ag x Nm=>?_);subst he;refine ⟨Y.gV.2.nolimit.keeps x.toInCall.keep,codeAny_func ?_⟩;have I1:Inv (c5 g B fd s.heap.objs.size f) loc H p ag:=G4 Y Bi hn Po x;refine rh x.toInCall.same λfq SI eq2=>?_;subst eq2;have keep:s.heap.StaysIn fq:=x.toInCall.keep;refine (cF C n).2 body loc H p _ I1 _ _ PassesOwn.leaving (h.mono λo ho=>?_);intro p' s' I' T';have T:nI B.fr p s p' s':=by
  refine ⟨?_,Nat.le_trans Nm T'.le,(Step.trans (p:=p) (p':=p) (cm.step (X:=Cx.GJ (c5 g B fd s.heap.objs.size f)) (.keep keep)) T'.st).wk (λb q e z=>?_) λb q e z=>.inl z⟩
  ·refine rh T'.eq λh2 t2 e=>?_;exact ⟨h2,t2,e⟩
  ·have hb:=Heap.lt_size e;rcases z.all with z | ⟨y,z⟩
   ·exact Nat.lt_irrefl _ (z▸hb:(callEnvC fd s.heap.objs.size f).locals<s.heap.objs.size)
   ·exact Nat.lt_irrefl _ (Nat.lt_trans hb (x.above y b (mem_of_lookup z)))
 obtain ⟨fl,l',H'⟩:=o;induction fl using Fl.casesOn with|ret v=>exact λu ru=>ho p' s' u I'.hi T ru|next=>exact ho p' s' .none I'.hi T .none|brk=>exact ho p' s' .none I'.hi T .none|cont=>exact ho p' s' .none I'.hi T .none|exc m=>exact λe gm x=>hX m l' H' p' s' e gm I' T x ho
theorem vr.trans (T:nI B.fr p s p₁ ag) {o:Out} (h:vr g B X' p s R o):vr g B X' p₁ ag R o:=by obtain ⟨fl,l,H'⟩:=o;induction fl using Fl.casesOn with|ret v=>exact dA.trans (X:=X') (r:=.ok v H') T h|exc m=>exact dA.trans (X:=X') (r:=.exc m H') T h|_=>exact dA.trans (X:=X') (r:=.ok .none H') T h
def ph (g:G) (B:Bs) (A:Around) (fd:FuncData) (f:Addr) (X X':XP):Prop:=∀(H:Hp) (p:Pt) (s:Shared) (R:Result→Shared→Prop),HI g B H p s.heap→∀m l H' p' s' e gm,Inv (c5 g B fd s.heap.objs.size f) l H' p' s'→nI B.fr p s p' s'→X s'.heap m e gm→dA g B X' p s R (.exc m H')→ wpAny (model g.prog g.w) (A.deeper (callEnvC fd s.heap.objs.size f)) (leaving (callEnvC fd s.heap.objs.size f) e) (λz AI=>R (.error e) AI) (λe' AI=>R (.error e') AI) {s' with heap:=gm}
theorem ph.never {f:Addr}:ph g B A fd f ba X':=λz z z z z z z z z z z z z z x=>x.elim
theorem xM {f:Addr} (F:FnAt g f o fd body) (Po:iu fd ns) (fu:A.depth<recursionLimit) (Y:HI g B H p s.heap) (hb:fW g fd ns args loc) (rv:aT g.w p.P p.ι vs args) (C:∀L,cE (c5 g B fd L f) (A.deeper (callEnvC fd L f)) X Γ) (hX:ph g B A fd f X X') (h:(av Γ n body loc H).Sat (vr g B X' p s R)):codeAny (model g.prog g.w) A (.call (.ref f) ⟨vs,[]⟩) R s:=by refine codeAny_call_function fu (Y.gV.1 _ _ F.look) F.data F.co F.gen F.body (codeRec_of Y.gV.1 F.code) ?_;rw[F.Qn];refine hb _ s p vs Y.gV rv _ _ λbinds fq Qo k ht hn Bi=>?_;have gr:cm p.P s.heap p.P fq:=.keep k;have T:nI B.fr p s p {s with heap:=fq,toks:=Qo}:=⟨⟨_,_,rfl⟩,ht,cm.step (p:=p) gr⟩;have Y1:=Y.grow gr;exact Kh F Po Y1 hn Bi (C _) (hX H p _ R Y1) (h.mono λo ho=>ho.trans T)
def Made (h:Heap) (m:List Nat) (e:Value) (gm:Heap):Prop:=∃ea t,e=.ref ea∧Heap.MadeExc h gm ea "ValueError" [.str (S m) t]
def kQ (l:List Env) (fr:List Addr) (h:Heap) (m:List Nat) (e:Value) (gm:Heap):Prop:=∃ea t tk base,e=.ref ea∧Heap.FlyingW base l ea (.type "ValueError") (.ref t) gm∧gm.TupAt t [.str (S m) tk]∧(h.get? ea=Option.none∧h.get? t=Option.none)∧h.UpToSlots gm∧∀b o,h.get? b=some o→b∉fr→base.get? b=some o
theorem sZ {M:Model} {E:Value→Shared→Prop} {s:Shared} {base:Heap} {outer:List Env} {L e:Addr} {cls:Value} {args:List Value} {Q:Unit→Shared→Prop} (Qp:A.frames=some (env::outer)) (hf:env.frame=some L) (Qq:base.StaysIn h) (hl:h.FunFrames base (env::outer)) (hx:Heap.MadeExcOf h s.heap e cls args) (hQ:∀h' t,Heap.FlyingW base outer e cls (.ref t) h'→h'.TupAt t args→h.get? t=Option.none→s.heap.UpToSlots h'→Q () {s with heap:=h'}):wpAny M A (leaving env (.ref e)) Q E s:=by refine w6 hx.there λt he Ut ht=>?_;refine wpAny_leaving_firstW (a0:=.ref t) Qp (hl.of_keeps λb o hb z=>⟨o,hx.keeps b o hb,rfl⟩) hf he (λb o hb=>hx.keeps b o (Qq b o hb)) (aw Qq hx.new) rfl rfl rfl λh' hL=>?_;refine lG hL λk1 ae k3 k4=>?_;refine fK ae λz z k2=>?_;exact hQ h' t ⟨k1,aw Qq hx.new,k2,k3⟩ (Heap.TupAt.of_slots ⟨_,_,ht,rfl,rfl⟩ k4) Ut k4
theorem HI.hide {s:Shared} (I:Inv κ loc H p s) (off:κ.env.locals∉κ.B.fr):HI κ.g κ.B H p (s.heap.hide κ.env.locals):=by
 refine fK (I.ei.lP _ (.inl rfl)) λh1 h2 h3=>?_;refine I.hi.away .refl (λb o e=>?_) rfl (λb o e q=>(Heap.hide_ne _ ?_).trans e) λy y e=>.inl e
 ·exact (Heap.hide_ne _ λz=>by rw[z,h2] at e;exact nS e).trans (I.hi.fz b o e)
 ·rintro rfl;rcases q with q | q | q
  ·exact h3 q
  ·rw[h1] at q;exact fT q
  ·exact off q
theorem xN {f:Addr} {l:List Env} (FO:gw A B.fr l) (hk:fd.scope.kind=.function):ph g B A fd f Made (kQ l B.fr):=by
 intro H p s R Qr;intro m fm H' p' s' e gm I T ⟨ea,tk,ee,mk⟩ hR;subst ee;have Qs:s.heap.objs.size∉B.fr:=λq=>by refine lG (Qr.fr _ q) λy y y ae=>?_;refine aG ae λo e y=>?_;exact Nat.lt_irrefl _ (Heap.lt_size e)
 let Qt:=s.heap.objs.size::B.fr
 have ff:∀{l:List Env},(∀e∈l,e.scope.kind≠.module∧∃L,e.frame=some L∧L∈Qt)→s'.heap.FunFrames (hideAll s'.heap Qt) l:=by
  intro l;induction l with|nil=>intro _;trivial|cons e r ih=>
   intro h;refine aj (h e List.mem_cons_self) λh1 ae=>?_;refine aG ae λL h2 h3=>?_;refine ⟨h1,⟨L,?_⟩,ih λe he=>h e (List.mem_cons_of_mem _ he)⟩;have:∃o,s'.heap.get? L=some o∧∀vs,o.data≠.fields vs:=by
    rcases List.mem_cons.mp h3 with rfl | h3
    ·exact I.ei.there (.inl rfl)
    ·exact (I.hi.fr L h3).2.2.2
   refine aG this λo e1 e2=>?_;exact ⟨o,h2,hideAll_none _ h3,e1,e2⟩
 have hl:s'.heap.FunFrames (hideAll s'.heap Qt) (callEnvC fd s.heap.objs.size f::l):=ff λe he=>by
  rcases List.mem_cons.mp he with rfl | he
  ·exact ⟨λq=>(by have q:fd.scope.kind=.module:=q;rw[hk] at q;exact nomatch q),_,rfl,List.mem_cons_self⟩
  ·refine aj (FO.2 e he) λh1 ae=>?_;refine aG ae λL h2 h3=>?_;exact ⟨h1,L,h2,List.mem_cons_of_mem _ h3⟩
 refine sZ (Around.frames_deeper FO.1) rfl (λb o e=>of_hideAll _ e) hl ⟨mk.keeps,mk.new,mk.there⟩ λh3 t x1 x2 x3 x4=>?_;have hd:∀b o,(s'.heap.hide s.heap.objs.size).get? b=some o→s'.heap.get? b=some o∧b≠s.heap.objs.size:=λb o e=>⟨Heap.of_hide e,λz=>by rw[z,Heap.hide_self] at e;exact nS e⟩;have hn:∀b,s'.heap.get? b=Option.none→(s'.heap.hide s.heap.objs.size).get? b=Option.none:=λb e=>by induction q:(s'.heap.hide s.heap.objs.size).get? b with|none=>rfl|some o=>rw[(hd b o q).1] at e;exact sN e
 refine hR p' {s' with heap:=s'.heap.hide s.heap.objs.size} (.ref ea) h3 (HI.hide I Qs) ?_ ⟨ea,t,tk,_,rfl,x1,x2,⟨hn _ mk.new,hn _ x3⟩,?_,?_⟩
 ·refine rh T.eq λh5 t5 e5=>?_;have st:=T.st;have ne:∀b o,s.heap.get? b=some o→b≠s.heap.objs.size:=λb o e=>Nat.ne_of_lt (Heap.lt_size e);exact ⟨⟨_,t5,by rw[e5]⟩,T.le,λb o e n m k=>(Heap.hide_ne _ (ne b o e)).trans (st.keep b o e n m k),λb o e n m=>let ⟨sl,e'⟩:=st.slot b o e n m;⟨sl,(Heap.hide_ne _ (ne b o e)).trans e'⟩,
   λb o e=>let ⟨o',e'⟩:=st.live b o e;⟨o',(Heap.hide_ne _ (ne b o e)).trans e'⟩,st.le,st.gD,st.ie⟩
 ·exact λb o e n=>((Heap.UpToSlots.of_keeps mk.keeps).trans x4) b o (hd b o e).1 n
 ·exact λb o e n=>hideAll_get _ (hd b o e).1 λq=>by
   rcases List.mem_cons.mp q with q | q
   ·exact (hd b o e).2 q
   ·exact n q
end
mutual
noncomputable def noRef:PV→Bool|.ref _=>false|.tup xs=>ar xs|.lst xs=>ar xs|.arr xs=>ar xs|_=>true
noncomputable def ar:List PV→Bool|[]=>true|x::r=>noRef x&&ar r
end
mutual
noncomputable def kR (H:Hp):PV→PV
 | .ref k=>match aO k H with|some (.lst xs)=>.lst xs|_=>.ref k
 | .tup xs=>.tup (jE H xs)
 | .lst xs=>.lst (jE H xs)
 | .arr xs=>.arr (jE H xs)
 | v=>v
noncomputable def jE (H:Hp):List PV→List PV|[]=>[]|x::r=>kR H x::jE H r
end
theorem fX (H:Hp):∀xs:List PV,(jE H xs).length=xs.length|[]=>rfl|x::r=>congrArg (·+1) (fX H r)
theorem dB {x:PV} {r:List PV} (h:ar (x::r)=true):noRef x=true∧ar r=true:=Bool.and_eq_true_iff.mp h
section
variable {w:World} {P P':Fz} {ι jA:bq}
theorem Rv.kS (hP:∀b o,P b=some o→P' b=some o):(∀{u:Value} {v:PV},Rv w P ι u v→noRef v=true→Rv w P' jA u v)∧(∀{us:List Value} {vs:List PV},aT w P ι us vs→ar vs=true→aT w P' jA us vs):=
 have key:=PV.both (M:=λv=>∀u,Rv w P ι u v→noRef v=true→Rv w P' jA u v) (N:=λvs=>∀us,aT w P ι us vs→ar vs=true→aT w P' jA us vs) (λy h y=>h) (λy y h y=>h) (λy y h y=>h) (λy y h y=>h) (λy ih u h n=>kq h.fR λa vs m e p z r=>⟨a,vs,m,e,hP _ _ p,z,ih vs r n⟩) (λy ih u h n=>kq h.lst_inv λa vs m e p z r=>⟨a,vs,m,e,hP _ _ p,z,ih vs r n⟩) (λy ih u h n=>yR h.gW λa vs m dd sl e p z r=>⟨a,vs,m,dd,sl,e,hP _ _ p,z,ih vs r n⟩) (λy u h y=>kq h.jh λd es m e s p r=>⟨d,es,m,e,s,hP _ _ p,r⟩) (λy y y n=>fT n) (λy y h y=>h) (λy h y=>h) λy y Ap Aq us h n=>cY h.cons_inv λu us e a b=>⟨u,us,e,Ap u a (dB n).1,Aq us b (dB n).2⟩
 ⟨λr n=>key.1 _ _ r n,λr n=>key.2 _ _ r n⟩
theorem xO (hP:∀b o,P b=some o→P' b=some o) (hF:∀k a d xs,ι k=some (a,d)→aO k H=some (.lst xs)→∃vs n,P' a=some {cls:=.type "list",data:=.seq vs.toArray n}∧xs.length≤sizeLine∧aT w P ι vs xs) {k:Nat} (e:ι k=some (a,d)) (n:noRef (kR H (.ref k))=true):Rv w P' jA (.ref a) (kR H (.ref k)):=by
 have red:kR H (.ref k)=match aO k H with|some (.lst xs)=>.lst xs|_=>.ref k:=rfl
 rw[red] at n ⊢;induction q:aO k H with|none=>rw[q] at n;exact fT n|some ao=>rw[q] at n;induction ao using AO.casesOn with|lst xs=>exact cY (hF k _ _ xs e q) λvs m p1 z r=>.lst p1 z ((Rv.kS hP).2 r n)|_=>exact fT n
theorem Rv.frozen (hP:∀b o,P b=some o→P' b=some o) (hF:∀k a d xs,ι k=some (a,d)→aO k H=some (.lst xs)→∃vs n,P' a=some {cls:=.type "list",data:=.seq vs.toArray n}∧xs.length≤sizeLine∧aT w P ι vs xs) {u:Value} {v:PV} (r:Rv w P ι u v) (n:noRef (kR H v)=true):Rv w P' jA u (kR H v):=(PV.both (M:=λv=>∀u,Rv w P ι u v→noRef (kR H v)=true→Rv w P' jA u (kR H v)) (N:=λvs=>∀us,aT w P ι us vs→ar (jE H vs)=true→aT w P' jA us (jE H vs)) (λy h y=>h) (λy y h y=>h) (λy y h y=>h) (λy y h y=>h) (λxs ih u h n=>kq h.fR λa vs m e p z r=>⟨a,vs,m,e,hP _ _ p,by rw[fX];exact z,ih vs r n⟩) (λxs ih u h n=>kq h.lst_inv λa vs m e p z r=>⟨a,vs,m,e,hP _ _ p,by rw[fX];exact z,ih vs r n⟩) (λxs ih u h n=>yR h.gW λa vs m dd sl e p z r=>⟨a,vs,m,dd,sl,e,hP _ _ p,by rw[fX];exact z,ih vs r n⟩) (λy u h y=>kq h.jh λd es m e s p r=>⟨d,es,m,e,s,hP _ _ p,r⟩) (λk u h n=>gU h.n8 λa d e q=>Eq.substr (p:=λu=>Rv w P' jA u (kR H (.ref k))) e (xO hP hF q n)) (λy y h y=>h) (λy h y=>h) λy y Ap Aq us h n=>cY h.cons_inv λu us e a b=>⟨u,us,e,Ap u a (dB n).1,Aq us b (dB n).2⟩).1 v u r n
end
section
variable {g:G} {B:Bs} {A:Around} {Γ:aA} {p:Pt} {s:Shared} {loc:Loc} {H:Hp} {X X':XP}
noncomputable abbrev zi:bq:=λz=>Option.none
theorem Dj {P:Fz} (ok:g.Ok s.heap) (fz:aB P s.heap):HI g ⟨s.heap,[]⟩ [] ⟨zi,P⟩ s.heap:=⟨ok,λz z e=>e,fz,λk o e=>(by (exact nS e)),λk p e=>(by (exact nS e)),λb z=>IC z λk a d e z=>(by (exact nS e)),λk k' a d a' d' e=>(by (exact nS e)),λL hL=>nomatch hL⟩
noncomputable def fv:List Str→List PV→Loc|n::ns,v::vs=>(n,v)::fv ns vs|_,_=>[]
theorem vt {w:World} {P:Fz} {ι:bq} {vs:List PV} (r:aT w P ι us vs):Binds w P ι (ns.zip us) (fv ns vs):=by induction ns generalizing us vs with|nil=>exact .nil|cons n ns ih=>induction vs using List.casesOn with|nil=>exact r.eL (R:=λus=>Binds w P ι ((n::ns).zip us) []) .nil|cons v vs=>exact r.dv (R:=λus=>Binds w P ι ((n::ns).zip us) (fv (n::ns) (v::vs))) λu us a b=>.cons a (ih b)
theorem zj :∀{l:List α} {k:List β},l.length=k.length→(l.zip k).map (·.1)=l:=by
 intro l;induction l with|nil=>intro k _;rfl|cons a l ih=>
  intro k h;induction k using List.casesOn with
  | nil=>cases h
  | cons b k=>exact congrArg (a::·) (ih (Nat.succ.inj h))
noncomputable def pj (P:Fz) (ι:bq) (H:Hp) (h:Heap):Fz:=λb=>open Classical in if (P b).isSome then P b else if ∃k d xs,ι k=some (b,d)∧aO k H=some (.lst xs) then h.get? b else Option.none
theorem rK {P:Fz} {ι:bq} :∀b o,P b=some o→pj P ι H h b=some o:=λb o e=>by unfold pj;rw[if_pos (by rw[e];rfl)];exact e
noncomputable def mU (o:Out):Option PV:=match o.fl with
 | .ret v=>some v
 | .exc _=>Option.none
 | _=>some .none
def a7 (g:G) (A:Around) (H:Hp) (f:Addr) (args:List PV) (r:PV):Prop:=∀B p s vs,HI g B H p s.heap→aT g.w p.P p.ι vs args→∀R,dA g B ba p s R (.ok r H)→codeAny (model g.prog g.w) A (.call (.ref f) ⟨vs,[]⟩) R s
theorem fW.plain (hlen:ns.length=args.length) (Nn:∀vs:List Value,vs.length=ns.length→bindArgs fd ⟨vs,[]⟩=pure (ns.zip vs)):fW g fd ns args (fv ns args):=λA s p vs ok rv Q E hQ=>by have lv:ns.length=vs.length:=hlen.trans rv.length.symm;rw[Nn vs lv.symm];exact wpAny_pure (hQ _ s.heap s.toks (λz z e=>e) (Nat.le_refl _) (zj lv) (vt rv))
theorem G5 {f:Addr} {r:PV} (F:FnAt g f o fd body) (Po:iu fd ns) (fu:A.depth<recursionLimit) (hn:ar args=true) (hb:fW g fd ns args loc) (C:∀h L,cE (c5 g ⟨h,[]⟩ fd L f) (A.deeper (callEnvC fd L f)) ba Γ) (h:(av Γ n body loc []).Sat (λo=>∃v,mU o=some v∧kR o.H v=r∧noRef r=true)):a7 g A H f args r:=λB p s vs Y rv R hR=>by
 refine xM (B:=⟨s.heap,[]⟩) (p:=⟨zi,p.P⟩) (X':=ba) F Po fu (Dj Y.gV Y.fz) hb ((Rv.kS (λy y e=>e)).2 rv hn) (C s.heap) .never (h.mono λo ho=>?_);refine w6 ho λv e ae hr=>?_;subst ae;have fin:dA g ⟨s.heap,[]⟩ ba ⟨zi,p.P⟩ s R (.ok v o.H):=λp' s' u Y' T ru=>by
  have gr:cm p.P s.heap (pj p'.P p'.ι o.H s'.heap) s'.heap:=⟨Y'.st,λb q e=>rK b q (T.st.le.1 b q e),λb q e=>by
   unfold pj at e
   split at e
   ·rcases T.st.gD b q e with z | z
    ·exact .inl z
    ·exact .inr ⟨z,Y'.fz b q e⟩
   ·split at e
    ·rename_i z;refine IC z λk d xs z1 z2=>?_;exact .inr ⟨(Y'.new b ⟨k,b,d,z1,.inl rfl⟩).1,e⟩
    ·exact nS e⟩
  refine hR ⟨p.ι,_⟩ s' u (Y.grow gr) ⟨T.eq,T.le,cm.step gr⟩ (Rv.frozen rK (λk a d xs e q=>?_) ru hr);refine gU (Y'.objs k _ q) λa' d' e' ae=>?_;refine cY ae λus m ho hz rx=>?_;rw[e] at e';refine aj (Prod.mk.inj (Option.some.inj e')) λae bX=>?_;subst ae;subst bX;refine ⟨us,m,?_,hz,rx⟩;unfold pj;rw[if_neg (by rw[(Y'.new a ⟨k,a,d,e,.inl rfl⟩).2.1];exact Bool.false_ne_true),if_pos ⟨k,d,xs,e,q⟩];exact ho
 obtain ⟨fl,l',H'⟩:=o;induction fl using Fl.casesOn with
 | ret v'=>obtain rfl:=Option.some.inj e;exact fin
 | exc m=>exact nS e
 | next=>obtain rfl:=Option.some.inj e;exact fin
 | brk=>obtain rfl:=Option.some.inj e;exact fin
 | cont=>obtain rfl:=Option.some.inj e;exact fin
theorem G6 {f:Addr} {r:PV} (F:FnAt g f o fd body) (Po:iu fd ns) (fu:A.depth<recursionLimit) (hb:fW g fd ns args loc) (C:∀B L,cE (c5 g B fd L f) (A.deeper (callEnvC fd L f)) ba Γ) (h:(av Γ n body loc H).Sat (λo=>mU o=some r∧o.H=H)):a7 g A H f args r:=λB p s vs Y rv R hR=>by
 refine xM (X':=ba) F Po fu Y hb rv (C B) .never (h.mono λo ho=>?_);obtain ⟨fl,l',H'⟩:=o;obtain ⟨e,rfl⟩:=ho;induction fl using Fl.casesOn with
 | ret v'=>obtain rfl:=Option.some.inj e;exact hR
 | exc m=>exact nS e
 | next=>obtain rfl:=Option.some.inj e;exact hR
 | brk=>obtain rfl:=Option.some.inj e;exact hR
 | cont=>obtain rfl:=Option.some.inj e;exact hR
def Runs (g:G) (A:Around) (B:Bs) (X:XP) (f:Addr) (args:List PV) (H:Hp) (tr:Tr RE):Prop:=∀p s vs,HI g B H p s.heap→aT g.w p.P p.ι vs args→∀R,tr.Sat (dA g B X p s R)→codeAny (model g.prog g.w) A (.call (.ref f) ⟨vs,[]⟩) R s
noncomputable def Ki:Out→RE|⟨.ret v,_,H⟩=>.ok v H|⟨.exc m,_,H⟩=>.exc m H|⟨_,_,H⟩=>.ok .none H
theorem s9 {f:Addr} (F:FnAt g f o fd body) (Po:iu fd ns) (fu:A.depth<recursionLimit) (hb:fW g fd ns args loc) (C:∀L,cE (c5 g B fd L f) (A.deeper (callEnvC fd L f)) X Γ) (hX:ph g B A fd f X X'):Runs g A B X' f args H ((av Γ n body loc H).bind λo=>.leaf (Ki o)):=λp s vs Y rv R h=>xM F Po fu Y hb rv C hX ((aP.mp h).mono λo ho=>by obtain ⟨fl,l,H'⟩:=o;induction fl using Fl.casesOn <;> exact ho)
end
def IP (g:G) (tgt:Expr) (p:Pt) (h:Heap) (v:Value) (y:PV):Prop:=Rv g.w p.P p.ι v y∨isTup tgt=true∧∃T vals ys,v=.ref T∧y=.tup ys∧h.IsTuple T vals∧aT g.w p.P p.ι vals.toList ys
structure Wk (g:G) (A:Around) (I:Addr) (tgt:Expr) (fp wr:List Addr) (p₁:Pt) (xs:List PV) (Hc:Hp→Prop) (St:Nat→Heap→Prop):Prop where
 sub:∀b∈wr,b∈fp
 frame:∀i h h',St i h→(∀b∈fp,∀o,h.get? b=some o→h'.get? b=some o)→St i h'
 item:∀i (B:Bs) (H:Hp) (p:Pt) (s:Shared) (Q:Value→Shared→Prop) (E:Value→Shared→Prop) y,xs[i]?=some y→St i s.heap→HI g B H p s.heap→p₁.Le p→Hc H→ (∀v h' tk,IP g tgt p h' v y→St (i+1) h'→(∀b o,b∉wr→s.heap.get? b=some o→h'.get? b=some o)→s.toks≤tk→Q v {s with heap:=h',toks:=tk})→ wpAny (model g.prog g.w) A (pyNext (.ref I)) (λr ag=>match r with|Option.none=>False|some v=>wpAny (model g.prog g.w) A (letOwnedTupleGo tgt (.ref I) v) (λz cU=>Q v cU) E ag) E s
 done:∀(B:Bs) (H:Hp) (p:Pt) (s:Shared) (Q:Option Value→Shared→Prop) (E:Value→Shared→Prop),St xs.length s.heap→HI g B H p s.heap→p₁.Le p→Hc H→ (∀h' tk,(∀b o,b∉wr→s.heap.get? b=some o→h'.get? b=some o)→s.toks≤tk→Q Option.none {s with heap:=h',toks:=tk})→wpAny (model g.prog g.w) A (pyNext (.ref I)) Q E s
 self:∀i (s:Shared) (Q:Value→Shared→Prop) (E:Value→Shared→Prop),St i s.heap→Q (.ref I) s→wpAny (model g.prog g.w) A (pyIter (.ref I)) Q E s
 ex:∀i h,St i h→∀b∈wr,∃o,h.get? b=some o
section
variable {κ:Cx} {A:Around} {Γ:Ctx} {loc:Loc} {H:Hp} {p:Pt} {s:Shared} {n:Nat} {tgt:Expr} {g:G}
def iZ (κ:Cx) (A:Around) (loc:Loc) (H:Hp) (tgt:Expr) (p:Pt) (s ag:Shared) (u:Value) (xs:List PV) (Hc:Hp→Prop):Prop:=∀(Q:Value→Shared→Prop) (E:Value→Shared→Prop),(∀I fp wr St s',Wk κ.g A I tgt fp wr p xs Hc St→St 0 s'.heap→Inv κ loc H p s'→To κ p s p s'→s.heap.StaysIn s'.heap→ (∀b∈wr,s.heap.get? b=Option.none)→(∀b∈fp,(b∈wr∨∃o,p.P b=some o)∧∃o,s'.heap.get? b=some o)→Q (.ref I) s')→wpAny κ.M A (pyIter u) Q E ag
abbrev pq (κ:Cx) (A:Around) (loc:Loc) (H:Hp) (tgt:Expr) (p:Pt) (s:Shared) (u:Value) (xs:List PV) (Hc:Hp→Prop):Prop:=iZ κ A loc H tgt p s s u xs Hc
theorem Wk.of {Pv:Nat→Value→Prop} (W:Walks g.prog g.w A I fp wr xs.length Pv St) (rel:∀i v y,Pv i v→xs[i]?=some y→Rv g.w p₁.P p₁.ι v y) (go:∀i v (s:Shared) (Q:Unit→Shared→Prop) (E:Value→Shared→Prop),St i s.heap→Q () s→wpAny (model g.prog g.w) A (letOwnedTupleGo tgt (.ref I) v) Q E s) (ex:∀i h,St i h→∀b∈wr,∃o,h.get? b=some o):Wk g A I tgt fp wr p₁ xs (λz=>True) St where
 ex:=ex
 sub:=W.sub
 frame:=W.frame
 item:=λi B H p s Q E y hy st z le z hQ=>by
  have hi:i<xs.length:=by refine bZ (List.getElem?_eq_some_iff.mp hy) λh z=>?_;exact h
  refine wpAny_with_toks (Nat.le_refl s.toks) (W.item i s _ _ hi st λv h' tk hP IQ hk ht=>?_);exact go (i+1) v {s with heap:=h',toks:=tk} _ _ IQ (hQ v h' tk (.inl ((rel i v y hP hy).eS le.1 le.2)) IQ hk ht)
 done:=λB H p s Q E st z z z hQ=>wpAny_with_toks (Nat.le_refl s.toks) (W.done s _ _ st λh' tk hk ht=>hQ h' tk hk ht)
 self:=W.self
theorem gH {M:Model} {v:Value} {nm:String} {Q:Unit→Shared→Prop} (hI:s.heap.get? I=some o) (hc:o.cls=.type nm) (hn:["enumerate","zip","dict_itemiterator","dict_reverseitemiterator","odict_iterator","itertools.zip_longest","itertools.pairwise"].contains nm=false) (h:Q () s):wpAny M A (letOwnedTupleGo tgt (.ref I) v) Q E s:=by
 have key:wpAny M A (do
   let (.ref r,.ref a):=(Value.ref I,v) | return
   let o←load r
   match o.cls,o.data with
   | .type n,.fields vs=>
    if ["enumerate","zip","dict_itemiterator","dict_reverseitemiterator","odict_iterator","itertools.zip_longest","itertools.pairwise"].contains n&&vs[0]?==some (rawInt a) then
     rule "for.unpacks-the-owned-tuple"
     updateField r 0 .none
   | _,_=>pure ()) Q E s:=by
  induction v using Value.casesOn with
  | ref a=>refine wpAny_bind (wpAny_load hI ?_);rw[hc];induction o.data using Data.casesOn with|fields vs=>show wpAny M A (if (_&&_)=true then _ else _) Q E s;rw[hn,Bool.false_and];exact wpAny_pure h|_=>exact wpAny_pure h
  | _=>exact wpAny_pure h
 induction tgt using Expr.casesOn with|Tuple _ _ _=>exact key|List _ _=>exact key|_=>exact wpAny_pure h
theorem gI {Q:Value→Shared→Prop} (W:Wk κ.g A I tgt fp wr p xs Hc St) (cV:Inv κ loc H p s) (o:Obj) (hs:s'={s with heap:=s.heap.push o}) (hf:o.isFreed=false) (st:St 0 s'.heap) (A9:∀b∈wr,s.heap.get? b=Option.none) (Dk:∀b∈fp,(b∈wr∨∃o,p.P b=some o)∧∃o,s'.heap.get? b=some o) (hQ:∀I fp wr St s',Wk κ.g A I tgt fp wr p xs Hc St→St 0 s'.heap→Inv κ loc H p s'→To κ p s p s'→s.heap.StaysIn s'.heap→ (∀b∈wr,s.heap.get? b=Option.none)→(∀b∈fp,(b∈wr∨∃o,p.P b=some o)∧∃o,s'.heap.get? b=some o)→Q (.ref I) s'):Q (.ref I) s':=by subst hs;refine aj (cV.keep (tk:=s.toks) (az s.heap o) (Nat.le_refl _)) λI1 T1=>?_;exact hQ I fp wr St _ W st I1 T1 (az _ _) A9 Dk
theorem pw (hh:A.handled=Option.none) {u:Value} (cV:Inv κ loc H p s) (ru:RV κ p u (.lst xs)):pq κ A loc H tgt p s u xs (λz=>True):=λQ E hQ=>by
 refine kq ru.lst_inv λa vs n ae ea za ra=>?_;subst ae;have hl:=bh cV.hi.fz ea;have om:a<s.heap.objs.size:=Heap.lt_size (cV.hi.fz _ _ ea);refine wpAny_pyIter_list hl ?_;have W:=Walks.list (prog:=κ.g.prog) (w:=κ.g.w) hh s.heap.objs.size a (Nat.ne_of_lt om) vs.toArray;have hsz:vs.toArray.size=xs.length:=by rw[List.size_toArray,ra.length]
 rw[hsz] at W;have it:=Heap.get?_push_size (o:={cls:=.type "list_iterator",data:=.fields #[.ref a,.int 0 0]}) s.heap rfl;refine gI (Wk.of W (λi v y hv hx=>?_) (λi v s Q E st h=>?_) λi h st b hb=>?_) cV _ rfl rfl ⟨⟨_,it,rfl,rfl⟩,bh (λb o e=>az _ _ b o (cV.hi.fz b o e)) ea⟩ (λb hb=>by rw[List.mem_singleton.mp hb];exact bA _) (λb hb=>?_) hQ
 ·refine aG (ra.get hx) λv' e r=>?_;rw[List.getElem?_toArray,e] at hv;obtain rfl:=Option.some.inj hv;exact r
 ·refine aj st λae z=>?_;refine w6 ae λo ho hc z=>?_;exact gH ho hc (by decide) h
 ·refine aj st λae z=>?_;refine aG ae λo ho z=>?_;exact ⟨o,List.mem_singleton.mp hb▸ho⟩
 ·rcases List.mem_cons.mp hb with e | hb
  ·subst e;exact ⟨.inl (List.mem_singleton.mpr rfl),_,it⟩
  ·have:=List.mem_singleton.mp hb;subst this;exact ⟨.inr ⟨_,ea⟩,_,az _ _ _ _ (cV.hi.fz _ _ ea)⟩
theorem xP (hh:A.handled=Option.none) {u:Value} (cV:Inv κ loc H p s) (ru:RV κ p u (.tup xs)):pq κ A loc H tgt p s u xs (λz=>True):=λQ E hQ=>by
 refine kq ru.fR λa vs n ae ea za ra=>?_;subst ae;have hl:s.heap.IsTuple a vs.toArray:=dk cV.hi.fz ea;have om:a<s.heap.objs.size:=Heap.lt_size (cV.hi.fz _ _ ea);refine wpAny_pyIter_tuple hl ?_;have W:=Walks.tuple (prog:=κ.g.prog) (w:=κ.g.w) hh s.heap.objs.size a (Nat.ne_of_lt om) vs.toArray;have hsz:vs.toArray.size=xs.length:=by rw[List.size_toArray,ra.length]
 rw[hsz] at W;have it:=Heap.get?_push_size (o:={cls:=.type "tuple_iterator",data:=.fields #[.ref a,.int 0 0]}) s.heap rfl;refine gI (Wk.of W (λi v y hv hx=>?_) (λi v s Q E st h=>?_) λi h st b hb=>?_) cV _ rfl rfl ⟨⟨_,it,rfl,rfl⟩,dk (λb o e=>az _ _ b o (cV.hi.fz b o e)) ea⟩ (λb hb=>by rw[List.mem_singleton.mp hb];exact bA _) (λb hb=>?_) hQ
 ·refine aG (ra.get hx) λv' e r=>?_;rw[List.getElem?_toArray,e] at hv;obtain rfl:=Option.some.inj hv;exact r
 ·refine aj st λae z=>?_;refine w6 ae λo ho hc z=>?_;exact gH ho hc (by decide) h
 ·refine aj st λae z=>?_;refine aG ae λo ho z=>?_;exact ⟨o,List.mem_singleton.mp hb▸ho⟩
 ·rcases List.mem_cons.mp hb with e | hb
  ·subst e;exact ⟨.inl (List.mem_singleton.mpr rfl),_,it⟩
  ·have:=List.mem_singleton.mp hb;subst this;exact ⟨.inr ⟨_,ea⟩,_,az _ _ _ _ (cV.hi.fz _ _ ea)⟩
theorem xQ (hh:A.handled=Option.none) {u:Value} {k:List Nat} (cV:Inv κ loc H p s) (ru:RV κ p u (.str k)):pq κ A loc H tgt p s u (k.map λc=>.str [c]) (λz=>True):=λQ E hQ=>by
 refine aG ru.str_inv λt ae hz=>?_;subst ae;have hs:(S k).cps.size=(k.map λc=>PV.str [c]).length:=by simp
 have item:∀i v y,SignAt (S k) i v→(k.map λc=>PV.str [c])[i]?=some y→RV κ p v y:=λi v x hv hx=>by
  refine gU hv λc t' e eq3=>?_;subst eq3;have e':k[i]?=some c:=by simpa using e
  rw[List.getElem?_map,e'] at hx;refine au hx ?_;exact .str [c] t' (by rw[sizeLine_eq];simp)
 have SJ:∀{o:Obj},o.isFreed=false→∀b∈[s.heap.objs.size],(b∈[s.heap.objs.size]∨∃o,p.P b=some o)∧∃q,(s.heap.push o).get? b=some q:=λhf b hb=>by have:=List.mem_singleton.mp hb;subst this;exact ⟨.inl hb,_,Heap.get?_push_size _ hf⟩
 induction ha:(S k).cps.all (·<128)
 ·have W:=Walks.strWide (prog:=κ.g.prog) (w:=κ.g.w) (A:=A) hh s.heap.objs.size (S k) t;rw[hs] at W;exact wpAny_pyIter_wide ha (gI (Wk.of W item (λi v s Q E st h=>by (refine w6 st λo ho hc z=>?_;exact gH ho hc (by decide) h)) λi h ⟨o,ho,_⟩ b hb=>⟨o,List.mem_singleton.mp hb▸ho⟩) cV _ rfl rfl ⟨_,Heap.get?_push_size _ rfl,rfl,rfl⟩ (λb hb=>by rw[List.mem_singleton.mp hb];exact bA _) (SJ rfl) hQ)
 ·have W:=Walks.strAscii (prog:=κ.g.prog) (w:=κ.g.w) (A:=A) hh s.heap.objs.size (S k) t;rw[hs] at W;exact wpAny_pyIter_ascii ha (gI (Wk.of W item (λi v s Q E st h=>by (refine w6 st λo ho hc z=>?_;exact gH ho hc (by decide) h)) λi h ⟨o,ho,_⟩ b hb=>⟨o,List.mem_singleton.mp hb▸ho⟩) cV _ rfl rfl ⟨_,Heap.get?_push_size _ rfl,rfl,rfl⟩ (λb hb=>by rw[List.mem_singleton.mp hb];exact bA _) (SJ rfl) hQ)
theorem xR (hh:A.handled=Option.none) {u:Value} {i:Nat×List PV} {x:PV} (cV:Inv κ loc H p s) (hi:eA H x=some i) (ru:RV κ p u x):pq κ A loc H tgt p s u i.2 (λH'=>aO i.1 H'=some (.lst i.2)):=λQ E hQ=>by
 refine aj (dJ hi) λex hH=>?_;rw[ex] at ru;refine cY (cV.obj ru hH) λa d ae fL bX=>?_;subst ae;refine cY bX λvs n ho hz rx=>?_;have hl:s.heap.IsList a vs.toArray:=⟨_,ho,rfl,n,rfl⟩;have om:a<s.heap.objs.size:=Heap.lt_size ho;have xh:a≠s.heap.objs.size:=Nat.ne_of_lt om;have it:=Heap.get?_push_size (o:={cls:=.type "list_iterator",data:=.fields #[.ref a,.int 0 0]}) s.heap rfl;have look:∀{B:Bs} {H':Hp} {p':Pt} {h:Heap},HI κ.g B H' p' h→p.Le p'→aO i.1 H'=some (.lst i.2)→∃ws m,h.get? a=some (jX ws m)∧aT κ.g.w p'.P p'.ι ws i.2:=λY le e=>by refine gU (Y.objs _ _ e) λa' d' Np ae=>?_;refine cY ae λws m zh t r=>?_;have:=le.2 _ _ fL;rw[this] at Np;refine aj (Prod.mk.inj (Option.some.inj Np)) λae bX=>?_;subst ae;subst bX;exact ⟨ws,m,zh,r⟩
 refine wpAny_pyIter_list hl (gI (St:=λj h=>h.IsListIter s.heap.objs.size a j) (fp:=[s.heap.objs.size]) (wr:=[s.heap.objs.size]) ⟨λt hb=>hb,λj h h' st k=>st.at λo e=>k _ (by simp) o e,λj B H' p' s1 Q E y hy st Y le hc hQ=>?_,λB H' p' s1 Q E st Y le hc hQ=>?_,λj s1 Q E st hQ=>wpAny_pyIter_listiter st hQ,λj h ⟨o,ho,_⟩ b hb=>⟨o,List.mem_singleton.mp hb▸ho⟩⟩ cV _ rfl rfl ⟨_,it,rfl,rfl⟩ (λb hb=>by rw[List.mem_singleton.mp hb];exact bA _) (λb hb=>?_) hQ)
 ·refine gU (look Y le hc) λws m zh r=>?_;refine aG (r.get hy) λv hv rv=>?_;refine wpAny_pyNext_list_item st ⟨_,zh,rfl,m,rfl⟩ (x:=v) (by simpa using hv) λh' Qu AL=>?_;refine w6 Qu λo Mt SK hd2=>?_;exact gH Mt SK (by decide) (hQ v h' s1.toks (.inl rv) ⟨o,Mt,SK,hd2⟩ (λb o hb e=>(AL.2 b λz=>hb (by simp[z])).trans e) (Nat.le_refl _))
 ·refine gU (look Y le hc) λws m zh r=>?_;exact wpAny_pyNext_list_end hh st ⟨_,zh,rfl,m,rfl⟩ (by rw[←r.length];simp) λh' he=>hQ h' s1.toks (λb o hb e=>he b o (λz=>hb (by simp[z])) e) (Nat.le_refl _)
 ·have:=List.mem_singleton.mp hb;subst this;exact ⟨.inl hb,_,it⟩
end
def fY (κ:Cx) (Z:List Addr):Prop:=∀b∈Z,¬ κ.All b∧b∉κ.B.fr∧κ.B.h.get? b=Option.none
def dC (p:Pt) (h:Heap) (Z:List Addr):Prop:=∀b∈Z,¬ Own p b∧p.P b=Option.none∧∃o,h.get? b=some o
section
variable {κ:Cx} {A:Around} {loc:Loc} {H:Hp} {p p' pb:Pt} {s s' sb:Shared} {Z:List Addr} {F:List Addr} {X:Addr→Prop}
theorem dD (C:fY κ Z) (S:dC p s.heap Z) (T:To κ p s p' s'):dC p' s'.heap Z∧∀b∈Z,∀o,s.heap.get? b=some o→s'.heap.get? b=some o:=by
 have keep:∀b∈Z,∀o,s.heap.get? b=some o→s'.heap.get? b=some o:=λb hb o e=>T.st.keep b o e (S b hb).1 (λq=>(C b hb).1 q.all) (C b hb).2.1;refine ⟨λb hb=>?_,keep⟩;refine fK (S b hb) λh1 h2 ae=>?_;refine bZ ae λo h3=>?_;refine ⟨T.st.own h3 h1,?_,o,keep b hb o h3⟩;induction e:p'.P b with|none=>rfl|some o'=>
  rcases T.st.gD b o' e with z | z
  ·rw[h2] at z;exact nS z
  ·exact aE h3 z
theorem kT (C:fY κ Z) (S:dC p s.heap Z) (I:Inv κ loc H p s) {tk:Nat} (kp:∀b o,b∉Z→s.heap.get? b=some o→h'.get? b=some o) (ht:s.toks≤tk):Inv κ loc H p {s with heap:=h',toks:=tk}:=by
 refine ⟨I.hi.away .refl (λb o e=>kp b o (λz=>?_) (I.hi.fz b o e)) rfl (λb o e q=>kp b o (λz=>?_) e) λy y e=>.inl e,I.ei.away .refl (λa o q e=>⟨o.slots,kp a o (λz=>(C a z).1 q) e⟩) (λy y e=>.inl e) λy e=>.inl e⟩
 ·rw[(S b z).2.1] at e;exact nS e
 ·rcases q with q | q | q
  ·exact (S b z).1 q
  ·rw[(C b z).2.2] at q;exact fT q
  ·exact (C b z).2.1 q
theorem mV (C:fY κ Z) (S:dC p s.heap Z) (I:Inv κ loc H p s) {tk:Nat} (kp:∀b o,b∉Z→s.heap.get? b=some o→h'.get? b=some o) (ex:∀b∈Z,∃o,h'.get? b=some o) (ht:s.toks≤tk) : Inv κ loc H p {s with heap:=h',toks:=tk}∧dC p h' Z∧Step F (·∈Z) p s.heap p h':=by
 refine ⟨kT C S I kp ht,λb hb=>⟨(S b hb).1,(S b hb).2.1,ex b hb⟩,λb o e y n y=>kp b o n e,λb o e y n=>⟨o.slots,kp b o n e⟩,λb o e=>?_,.refl,λy y e=>.inl e,λy e=>.inl e⟩
 by_cases z:b∈Z
 ·exact ex b z
 ·exact ⟨o,kp b o z e⟩
theorem nI.more (T:nI F pb sb p s) (st:Step F X p s.heap p' s'.heap) (eq:∃h tk,s'={s with heap:=h,toks:=tk}) (le:s.toks≤s'.toks) (n:∀b o,sb.heap.get? b=some o→¬ X b):nI F pb sb p' s':=by refine rh T.eq λh1 t1 eq2=>?_;subst eq2;refine rh eq λh2 t2 eq2=>?_;subst eq2;exact ⟨⟨_,_,rfl⟩,Nat.le_trans T.le le,((T.st.no (X:=X)).trans st).wk (λb o e q=>n b o e q) λz z z q=>.inl q⟩
variable {Γ:aA} {Xx:XP} {E:Value→Shared→Prop} {n:Nat}
noncomputable def Dl (Γ:aA) (t:Expr) (y:PV) (loc:Loc) (H:Hp):Tr (Loc×Hp):=by induction t using Expr.casesOn with|Name x q=>exact AG Γ 0 (.Name x q) y loc H|Tuple ts k q=>exact iN (λxs=>iO (Nat.beq xs.length ts.length&&noStar ts&&Γ.c.nh) (sS Γ 0 ts xs loc H)) y.Ar|_=>exact .fail
theorem px (C:cE κ A Xx Γ) (I:Inv κ loc H p s) {t:Expr} {v:Value} {y:PV} (r:IP κ.g t p s.heap v y) {Q:Unit→Shared→Prop} (h:(Dl Γ t y loc H).Sat (ir κ p s Q)):wpAny κ.M A (assign t κ.env v) Q E s:=by
 induction t using Expr.casesOn with
 | Name x q=>
  have rv:RV κ p v y:=by
   rcases r with r | ⟨z,_⟩
   ·exact r
   ·exact fT z
  exact ft (n:=0) C I rv h
 | Tuple ts k q=>
  refine aG (gC h) λxs hx h=>?_;have hx:=PV.n9 hx;refine aj (oS h) λhc h=>?_;refine aj (Bool.and_eq_true_iff.mp hc) λhc C6=>?_;refine aj (Bool.and_eq_true_iff.mp hc) λhlen hs=>?_;have hlen:=Nat.eq_of_beq_eq_true hlen;have hh:=C.c.hd C6;show wpAny _ A (do standAt q;unpack v (assignEach ts κ.env)) _ E s;refine wpAny_bind (wpAny_standAt ?_);unfold unpack;rw[jO κ.env hs,g4];have fin:∀us s',ux κ p us xs→Inv κ loc H p s'→To κ p s p s'→wpAny κ.M A (assignInOrder ((ts.map λt=>((false:Bool),assign t κ.env)).map (·.2)) us) Q E s':=λus s1 rs I1 T1=>by rw[List.map_map];exact pf C I1 rs (h.mono λr hr=>hr.trans T1)
  rcases r with r | ⟨_,T,vals,ys,rfl,ey,ht,rs⟩
  ·rw[hx] at r;exact wpAny_bind (wpAny_holding (j2 hh I r (by rw[List.length_map,hlen]) λus s1 rs I1 T1=>fin us s1 rs I1 T1))
  ·rw[hx] at ey;cases ey;have ek:(ts.map λt=>((false:Bool),assign t κ.env)).length=vals.size:=by rw[List.length_map,←hlen,←rs.length];simp
   rw[ek]
   refine wpAny_bind (wpAny_holding (unpackItems_tuple hh ht λh' he=>?_))
   refine aj (I.keep (tk:=s.toks) (λb o e=>he b o (Nat.ne_of_lt (Heap.lt_size e)) e) (Nat.le_refl _)) λI' T'=>?_
   exact fin _ _ rs I' T'
 | _=>exact h.elim
theorem vx {t:Expr} {v:PV} {Φ:Loc×Hp→Prop} (h:(AG Γ n t v loc H).Sat Φ):(AG Γ n t v loc H).Sat (λr=>Φ r∧∀y,dw Γ.c y=false→ax y r.1=ax y loc):=by induction t using Expr.casesOn with|Name x q=>refine aj (oS h) λhx h=>?_;show (iO (dw Γ.c x) _).Sat _;rw[hx];refine ⟨h,λy hy=>?_⟩;rw[jk];exact if_neg λz=>by rw[z,hx] at hy;exact tF hy|Attribute o a q=>refine cY (qI h) λg1 b e1 lW h=>?_;refine aG (gC h) λi hi h=>?_;refine aj (oS h) λhc h=>?_;show ((iW (dU Γ.c loc H n o)).bind _).Sat _;rw[e1];refine ⟨lW,?_⟩;show (iN _ (c6 H b)).Sat _;rw[hi];show (iO _ _).Sat _;rw[hc];exact ⟨h,λw w=>rfl⟩|Subscript o i q=>refine aj (oS h) λhn h=>?_;refine cY (qI h) λg1 b e1 lW h=>?_;refine cY (qI h) λg2 j e2 mT h=>?_;refine aG (gC h) λl hl h=>?_;refine aG (gC h) λk hk h=>?_;show (iO (kH i) _).Sat _;rw[hn];show ((iW (dU Γ.c loc H n o)).bind _).Sat _;rw[e1];refine ⟨lW,?_⟩;show ((iW (dU Γ.c loc H n i)).bind _).Sat _;rw[e2];refine ⟨mT,?_⟩;show (iN _ (eA H b)).Sat _;rw[hl];show (iN _ j.int?).Sat _;rw[hk];exact ⟨h.1,h.2,λw w=>rfl⟩|_=>exact h.elim
theorem Dm {Φ:Loc×Hp→Prop}:∀{ts:List Expr} {vs:List PV} {loc:Loc} {H:Hp},(sS Γ n ts vs loc H).Sat Φ→(sS Γ n ts vs loc H).Sat (λr=>Φ r∧∀y,dw Γ.c y=false→ax y r.1=ax y loc):=by
 intro ts;induction ts with
 | nil=>intro vs loc H h;induction vs using List.casesOn with|nil=>exact ⟨h,λz z=>rfl⟩|cons _ _=>exact h.elim
 | cons t ts ih=>intro vs loc H h;induction vs using List.casesOn with|nil=>exact h.elim|cons v vs=>refine aP.mpr ((vx (aP.mp h)).mono λr hr=>(ih hr.1).mono λq hq=>⟨hq.1,λy hy=>(hq.2 y hy).trans (hr.2 y hy)⟩)
theorem Dn {t:Expr} {v:PV} {Φ:Loc×Hp→Prop} (h:(Dl Γ t v loc H).Sat Φ):(Dl Γ t v loc H).Sat (λr=>Φ r∧∀y,dw Γ.c y=false→ax y r.1=ax y loc):=by induction t using Expr.casesOn with|Name x q=>exact vx (n:=0) (t:=.Name x q) h|Tuple ts k q=>refine aG (gC h) λxs hx h=>?_;refine aj (oS h) λhc h=>?_;show (iN _ v.Ar).Sat _;rw[hx];show (iO _ _).Sat _;rw[hc];exact Dm h|_=>exact h.elim
theorem Inv.less {fm:Loc} (I:Inv κ loc H p s) (h:∀x v,ax x fm=some v→ax x loc=some v):Inv κ fm H p s:=⟨I.hi,⟨I.ei.ns,I.ei.cells,I.ei.has,λx v e=>I.ei.vars x v (h x v e),I.ei.lP,I.ei.apart,I.ei.off⟩⟩
noncomputable def SM (Γ:Ctx) (loc:Loc) (H:Hp) (n:Nat):List Expr→RB|[]=>some ([],true)|[c]=>CA Γ loc H n c|_=>Option.none
theorem Ba {Γ:Ctx} (C:af κ A Γ) (e:SM Γ loc H n ifs=some (gd,b)) (hg:AllP gd) : CK κ A loc H (forIn ifs true λc r=>if r=true then do let ok←isTrue c κ.env (eval c κ.env);pure (ForInStep.yield ok) else pure (ForInStep.yield r)) b:=λp s I Q E hQ=>by
 induction ifs using List.casesOn with
 | nil=>obtain ⟨rfl,rfl⟩:=Prod.mk.inj (Option.some.inj e);rw[List.forIn_nil];exact wpAny_pure (hQ p s I .refl)
 | cons c r=>induction r using List.casesOn with|cons _ _=>exact nS e|nil=>rw[List.forIn_cons];refine wpAny_bind ?_;rw[if_pos rfl];refine wpAny_bind ((cD C n).2 c gd b e hg p s I _ _ λp1 s1 I1 T1=>wpAny_pure ?_);show wpAny _ A (forIn [] b _) Q E _;rw[List.forIn_nil];exact wpAny_pure (hQ _ _ I1 T1)
end
noncomputable def cP (names:List (Str×NameKind)) (loc:Loc):Loc:=match names with
 | []=>[]
 | (n,.free)::r=>match ax n loc with|some v=>(n,v)::cP r loc|Option.none=>cP r loc
 | _::r=>cP r loc
noncomputable def dP (names:List (Str×NameKind)) (loc:Loc):Bool:=match names with
 | []=>true
 | (n,.free)::r=>(ax n loc).isSome&&dP r loc
 | _::r=>dP r loc
noncomputable def l5 (scope sc:Scope):Scope:={scope with names:=scope.names.map λ(n,k)=>if (k==.free&&sc.kind==.function&&sc.names.lookup n==some .cell) then (n,.cell) else (n,k)}
theorem pz {names:List (Str×NameKind)} {v:PV}:ax y (cP names loc)=some v→(y,NameKind.free)∈names∧ax y loc=some v:=by
 induction names with|nil=>intro e;exact nS e|cons a r ih=>
  obtain ⟨n,k⟩:=a;intro e;have tl:ax y (cP r loc)=some v→(y,NameKind.free)∈(n,k)::r∧ax y loc=some v:=λe=>⟨List.mem_cons_of_mem _ (ih e).1,(ih e).2⟩;induction k using NameKind.casesOn with
  | free=>
   induction q:ax n loc with|none=>rw[show cP ((n,.free)::r) loc=match ax n loc with | some v=>(n,v)::cP r loc | Option.none=>cP r loc from rfl,q] at e;exact tl e|some w=>
    rw[show cP ((n,.free)::r) loc=match ax n loc with | some v=>(n,v)::cP r loc | Option.none=>cP r loc from rfl,q] at e;rw[show (match some w with | some v=>(n,v)::cP r loc | Option.none=>cP r loc)=(n,w)::cP r loc from rfl,d6] at e;induction q2:seq n y with
    | true=>rw[q2] at e;obtain rfl:=Option.some.inj e;have:=aK.mp q2;subst this;exact ⟨List.mem_cons_self,q⟩
    | false=>rw[q2] at e;exact tl e
  | _=>exact tl e
noncomputable def l8 (env:Env):List (Str×NameKind)→List (Str×Addr)→List (Str×Addr)|[],acc=>acc|(n,.free)::r,acc=>l8 env r ((n,(env.cells.lookup n).getD 0)::acc)|_::r,acc=>l8 env r acc
theorem xS (env:Env) {l:List (Str×NameKind)}:∀(acc:List (Str×Addr)),(∀n,(n,NameKind.free)∈l→∃c,env.cells.lookup n=some c)→ (forIn l acc (λx r=>(do let (name,kind):=x;if kind==.free then (do let a←cellOf env name;pure (ForInStep.yield ((name,a)::r))) else pure (ForInStep.yield r):Sem (ForInStep (List (Str×Addr))))))=pure (l8 env l acc):=by
 induction l with|nil=>intro acc _;rw[List.forIn_nil];rfl|cons a r ih=>
  obtain ⟨n,k⟩:=a;intro acc h;rw[List.forIn_cons];have hr:∀m,(m,NameKind.free)∈r→∃c,env.cells.lookup m=some c:=λm hm=>h m (List.mem_cons_of_mem _ hm);induction hk:(k==NameKind.free) with
  | true=>
   have ek:k=.free:=by simpa using hk
   subst ek;obtain ⟨c,hc⟩:=h n List.mem_cons_self;have e:cellOf env n=pure c:=by unfold cellOf;rw[hc]
   refine (congrArg (· >>= _) (show _=pure (ForInStep.yield ((n,c)::acc)) from (if_pos rfl).trans (by rw[e,pure_bind]))).trans ?_;rw[pure_bind];refine (ih _ hr).trans (congrArg pure ?_);show _=l8 env r ((n,(env.cells.lookup n).getD 0)::acc);rw[hc];rfl
  | false=>refine (congrArg (· >>= _) (show _=pure (ForInStep.yield acc) from if_neg (by rw[hk];exact Bool.false_ne_true))).trans ?_;rw[pure_bind];refine (ih acc hr).trans (congrArg pure ?_);induction k using NameKind.casesOn <;> first | rfl | exact tF hk
theorem qS {scope:Scope} (h:∀n,(n,NameKind.free)∈scope.names→∃c,env.cells.lookup n=some c):closureFor scope env=pure (l8 env scope.names []):=by unfold closureFor;exact (congrArg (· >>= pure) (xS env [] h)).trans (by rw[pure_bind])
theorem rL (env:Env) {c:Addr} {l:List (Str×NameKind)}:∀(acc:List (Str×Addr)),(∀n,(n,NameKind.free)∈l→∃c,env.cells.lookup n=some c)→(l8 env l acc).lookup y=some c→env.cells.lookup y=some c∨acc.lookup y=some c:=by
 induction l with|nil=>intro acc _ h;exact .inr h|cons a r ih=>
  obtain ⟨n,k⟩:=a;intro acc ha h;have Gn:∀m,(m,NameKind.free)∈r→∃c,env.cells.lookup m=some c:=λm hm=>ha m (List.mem_cons_of_mem _ hm);induction k using NameKind.casesOn with
  | free=>
   rcases ih _ Gn h with z | z
   ·exact .inl z
   ·refine bZ (ha n List.mem_cons_self) λc' hq=>?_;rw[List.lookup_cons] at z;induction hn:y==n with|true=>rw[hn,hq] at z;rw[beq_iff_eq.mp hn,hq];exact .inl z|false=>rw[hn] at z;exact .inr z
  | _=>exact ih _ Gn h
theorem Dp (env:Env) {c:Addr} (hc:env.cells.lookup y=some c) {l:List (Str×NameKind)}:∀(acc:List (Str×Addr)),(∀n,(n,NameKind.free)∈l→∃c,env.cells.lookup n=some c)→((y,NameKind.free)∈l∨acc.lookup y=some c)→(l8 env l acc).lookup y=some c:=by
 induction l with
 | nil=>
  intro acc _ h;rcases h with h | h
  ·cases h
  ·exact h
 | cons a r ih=>
  obtain ⟨n,k⟩:=a;intro acc ha h;have Gn:∀m,(m,NameKind.free)∈r→∃c,env.cells.lookup m=some c:=λm hm=>ha m (List.mem_cons_of_mem _ hm);induction k using NameKind.casesOn with
  | free=>
   refine bZ (ha n List.mem_cons_self) λc' hq=>?_;refine ih _ Gn ?_
   by_cases hn:y=n
   ·subst hn;right;rw[List.lookup_cons,beq_self_eq_true,hc];rfl
   ·rcases h with h | h
    ·rcases List.mem_cons.mp h with h | h
     ·cases h;exact absurd rfl hn
     ·exact .inl h
    ·right;rw[List.lookup_cons,beq_eq_false_iff_ne.mpr hn];exact h
  | _=>
   refine ih _ Gn ?_;rcases h with h | h
   ·rcases List.mem_cons.mp h with h | h
    ·cases h
    ·exact .inl h
   ·exact .inr h
theorem fw {k:NameKind}:∀{names:List (Str×NameKind)},names.lookup y=some k→ (names.map λ(n,k)=>if (k==NameKind.free&&sc.kind==.function&&sc.names.lookup n==some .cell) then (n,NameKind.cell) else (n,k)).lookup y=some (if (k==NameKind.free&&sc.kind==.function&&sc.names.lookup y==some .cell) then .cell else k):=by
 intro names;induction names with|nil=>intro h;exact nS h|cons a r ih=>
  obtain ⟨n,k'⟩:=a;intro h;show List.lookup y ((if (k'==NameKind.free&&sc.kind==.function&&sc.names.lookup n==some .cell)=true then (n,NameKind.cell) else (n,k'))::_)=_;induction hx:y==n with
  | true=>
   rw[List.lookup_cons,hx] at h;obtain rfl:=Option.some.inj h;have:=beq_iff_eq.mp hx;subst this
   split <;> simp only[List.lookup_cons,beq_self_eq_true]
  | false=>
   rw[List.lookup_cons,hx] at h
   split <;> (simp only[List.lookup_cons,hx];exact ih h)
theorem jF {k:NameKind}:∀{names:List (Str×NameKind)},(names.map λ(n,k)=>if (k==NameKind.free&&sc.kind==.function&&sc.names.lookup n==some .cell) then (n,NameKind.cell) else (n,k)).lookup y=some k→∃k',names.lookup y=some k':=by intro names;induction names with|nil=>intro h;exact nS h|cons a r ih=>obtain ⟨n,k'⟩:=a;intro h;induction hx:y==n with|true=>exact ⟨k',by rw[List.lookup_cons,hx]⟩|false=>have h:List.lookup y ((if (k'==NameKind.free&&sc.kind==.function&&sc.names.lookup n==some .cell)=true then (n,NameKind.cell) else (n,k'))::_)=some k:=h;refine bZ (ih (by split at h <;> (rw[List.lookup_cons] at h;simp only[hx] at h;exact h))) λk2 e=>?_;exact ⟨k2,by rw[List.lookup_cons,hx];exact e⟩
noncomputable def xT (sc:Scope) (l:List (Str×NameKind)):List (Str×NameKind)→Bool|[]=>true|(n,.free)::r=>(match ic n l with | some .free=>true | _=>false)&&(match ic n sc.names with | some .cell=>true | some .free=>!seq n "__classdict__" | _=>false)&&xT sc l r|(n,.local)::r=>(match ic n l with | some .local=>true | _=>false)&&xT sc l r|(n,.cell)::r=>(match ic n l with | some .cell=>true | _=>false)&&xT sc l r|_::r=>xT sc l r
structure vy (sc:Scope) (scope:Scope):Prop where
 kind:scope.kind=.function
 free:∀y,(y,NameKind.free)∈scope.names→scope.names.lookup y=some .free∧(sc.names.lookup y=some .cell∨(sc.names.lookup y=some .free∧(y==("__classdict__":Str))=false))
 loc:∀y,(y,NameKind.local)∈scope.names→scope.names.lookup y=some .local
 cell:∀y,(y,NameKind.cell)∈scope.names→scope.names.lookup y=some .cell
theorem zl {l r:List (Str×NameKind)}:xT sc l r=true→(∀y,(y,NameKind.free)∈r→l.lookup y=some .free∧(sc.names.lookup y=some .cell∨(sc.names.lookup y=some .free∧(y==("__classdict__":Str))=false)))∧(∀y,(y,NameKind.local)∈r→l.lookup y=some .local)∧∀y,(y,NameKind.cell)∈r→l.lookup y=some .cell:=by
 induction r with|nil=>intro _;exact ⟨λy h=>(nomatch h),λy h=>(nomatch h),λy h=>(nomatch h)⟩|cons a r ih=>
  obtain ⟨n,k⟩:=a;intro h;have look:∀{m:List (Str×NameKind)} {k:NameKind} {c:Option NameKind→Bool},c (ic n m)=true→(∀q,c (some q)=true→q=k)→c Option.none=false→m.lookup n=some k:=λ{m k c} h1 h2 h3=>by rw[dI] at h1;induction q:m.lookup n with|none=>rw[q,h3] at h1;exact fT h1|some k'=>rw[q] at h1;rw[h2 _ h1]
  induction k using NameKind.casesOn with
  | free=>
   refine aj (Bool.and_eq_true_iff.mp h) λh1 h2=>?_;refine aj (Bool.and_eq_true_iff.mp h1) λh0 h1=>?_;refine fK (ih h2) λi1 i2 i3=>?_;refine ⟨λy hy=>?_,λy hy=>(List.mem_cons.mp hy).elim (λz=>by cases z) (i2 y),λy hy=>(List.mem_cons.mp hy).elim (λz=>by cases z) (i3 y)⟩;rcases List.mem_cons.mp hy with hy | hy
   ·cases hy;refine ⟨look (c:=λq=>match q with | some .free=>true | _=>false) h0 (λq h=>by induction q using NameKind.casesOn <;> first | rfl | exact fT h) rfl,?_⟩;rw[dI] at h1;induction q:sc.names.lookup n with|none=>rw[q] at h1;exact fT h1|some k'=>rw[q] at h1;induction k' using NameKind.casesOn with|cell=>exact .inl rfl|free=>refine .inr ⟨rfl,?_⟩;have h1:(!seq n "__classdict__")=true:=h1;rw[beq_eq_false_iff_ne];intro z;rw[aK.mpr z] at h1;exact fT h1|_=>exact fT h1
   ·exact i1 y hy
  | «local»=>
   refine aj (Bool.and_eq_true_iff.mp h) λh1 h2=>?_;refine fK (ih h2) λi1 i2 i3=>?_;refine ⟨λy hy=>(List.mem_cons.mp hy).elim (λz=>by cases z) (i1 y),λy hy=>?_,λy hy=>(List.mem_cons.mp hy).elim (λz=>by cases z) (i3 y)⟩;rcases List.mem_cons.mp hy with hy | hy
   ·cases hy;exact look (c:=λq=>match q with | some .local=>true | _=>false) h1 (λq h=>by induction q using NameKind.casesOn <;> first | rfl | exact fT h) rfl
   ·exact i2 y hy
  | cell=>
   refine aj (Bool.and_eq_true_iff.mp h) λh1 h2=>?_;refine fK (ih h2) λi1 i2 i3=>?_;refine ⟨λy hy=>(List.mem_cons.mp hy).elim (λz=>by cases z) (i1 y),λy hy=>(List.mem_cons.mp hy).elim (λz=>by cases z) (i2 y),λy hy=>?_⟩;rcases List.mem_cons.mp hy with hy | hy
   ·cases hy;exact look (c:=λq=>match q with | some .cell=>true | _=>false) h1 (λq h=>by induction q using NameKind.casesOn <;> first | rfl | exact fT h) rfl
   ·exact i3 y hy
  | _=>refine fK (ih h) λi1 i2 i3=>?_;exact ⟨λy hy=>(List.mem_cons.mp hy).elim (λz=>by cases z) (i1 y),λy hy=>(List.mem_cons.mp hy).elim (λz=>by cases z) (i2 y),λy hy=>(List.mem_cons.mp hy).elim (λz=>by cases z) (i3 y)⟩
theorem bL (names:List (Str×NameKind)):∀(n:Nat) (acc:List (Str×Addr)),cellsFrom n names acc=cellsFrom n names []++acc:=by
 induction names with|nil=>intro n acc;rfl|cons a r ih=>
  obtain ⟨x,k⟩:=a;intro n acc;show (if (k==.cell)=true then cellsFrom (n+1) r ((x,n)::acc) else cellsFrom n r acc)=(if (k==.cell)=true then cellsFrom (n+1) r [(x,n)] else cellsFrom n r [])++acc
  split
  ·rw[ih (n+1) ((x,n)::acc),ih (n+1) [(x,n)],List.append_assoc];rfl
  ·exact ih n acc
theorem qT {names:List (Str×NameKind)} {c:Addr}:∀{n:Nat},(y,c)∈cellsFrom n names []→(y,NameKind.cell)∈names:=by
 induction names with
 | nil=>intro n h;cases h
 | cons a r ih=>
  obtain ⟨x,k⟩:=a;intro n h;have h:(y,c)∈(if (k==.cell)=true then cellsFrom (n+1) r [(x,n)] else cellsFrom n r []):=h
  split at h
  ·rename_i hk;rw[bL] at h;rcases List.mem_append.mp h with h | h
   ·exact List.mem_cons_of_mem _ (ih h)
   ·have h:=List.mem_singleton.mp h;refine aj (Prod.mk.inj h) λae bX=>?_;subst ae;subst bX;rw[beq_iff_eq.mp hk];exact List.mem_cons_self
  ·exact List.mem_cons_of_mem _ (ih h)
theorem jP {names:List (Str×NameKind)} :∀{n:Nat},(y,NameKind.cell)∈names→((cellsFrom n names []).lookup y).isSome=true:=by
 induction names with
 | nil=>intro n h;cases h
 | cons a r ih=>
  obtain ⟨x,k⟩:=a;intro n h;show (List.lookup y (if (k==.cell)=true then cellsFrom (n+1) r [(x,n)] else cellsFrom n r [])).isSome=true
  split
  ·rename_i hk;rw[bL,List.lookup_append];rcases List.mem_cons.mp h with h | h
   ·refine aj (Prod.mk.inj h) λae bX=>?_;subst ae;subst bX;induction (cellsFrom (n+1) r []).lookup y with|some _=>rfl|none=>simp
   ·rw[Option.isSome_or,ih h];rfl
  ·rename_i hk;rcases List.mem_cons.mp h with h | h
   ·refine aj (Prod.mk.inj h) λae bX=>?_;subst ae;subst bX;exact absurd rfl hk
   ·exact ih h
section
variable {κ:Cx} {A:Around} {loc:Loc} {H:Hp} {p:Pt} {s:Shared} {E:Value→Shared→Prop}
noncomputable def jq (names:List (Str×NameKind)) (x:Str):Bool:=match ic x names with
 | some .cell=>true
 | _=>false
noncomputable def oy (κ:Cx) (scope:Scope) (L:Addr):Cx:=⟨κ.g,κ.Bc,compEnvC scope (cellsFrom (L+1) scope.names (l8 κ.env scope.names [])) L κ.env,jq scope.names⟩
theorem xU {l:List (Str×NameKind)}:dP l loc=true→∀n,(n,NameKind.free)∈l→(ax n loc).isSome=true:=by
 induction l with
 | nil=>intro _ n h;cases h
 | cons a r ih=>
  obtain ⟨n',k⟩:=a;intro hc n h;induction k using NameKind.casesOn with
  | free=>
   obtain ⟨h1,h2⟩:=Bool.and_eq_true_iff.mp hc;rcases List.mem_cons.mp h with h | h
   ·cases h;exact h1
   ·exact ih h2 n h
  | _=>
   rcases List.mem_cons.mp h with h | h
   ·cases h
   ·exact ih hc n h
theorem vz {scope:Scope} (hs:vy κ.env.scope scope) (l9:dP scope.names loc=true) (I:Inv κ loc H p s):∀n,(n,NameKind.free)∈scope.names→∃c,κ.env.cells.lookup n=some c:=λn hn=>by
 refine bZ (Option.isSome_iff_exists.mp (xU l9 n hn)) λv hv=>?_;refine aG (I.ei.vars n v hv) λu r V=>?_;have hk:=(hs.free n hn).2;rcases V with ⟨a,_⟩ | ⟨_,c,l,_⟩
 ·have a':κ.env.scope.names.lookup n=some .local:=a;rcases hk with hk | ⟨hk,_⟩ <;> (rw[a'] at hk;cases hk)
 ·exact ⟨c,l⟩
theorem xV {scope:Scope} (hs:vy κ.env.scope scope) (Bb:κ.env.scope.kind=.function) (l9:dP scope.names loc=true) (I:Inv κ loc H p s) {Q:Env→Shared→Prop} (hQ:∀G7 h',{G7 with scope:=relabel scope κ.env}=(oy κ scope s.heap.objs.size).env→G7.locals=s.heap.objs.size→Inv (oy κ scope s.heap.objs.size) (cP scope.names loc) H p {s with heap:=h'}→s.heap.StaysIn h'→Q G7 {s with heap:=h'}) : wpAny κ.M A (newFunctionEnv scope κ.env.globals (l8 κ.env scope.names []) [] κ.env.qual Option.none .none (some κ.env)) Q E s:=by
 have ma:=vz hs l9 I;simp only[newFunctionEnv,Option.isSome_some,if_true];refine wpAny_bind (wpAny_alloc ?_);refine wpAny_bind (wpAny_layCells _ (λname kind cells=>by induction VB:kind==NameKind.cell <;> simp) _ _ _ _ ?_);have ok:=cellsFrom_ok scope.names (s.heap.push {cls:=.type "dict",data:=.dict #[]}) (s.heap.objs.size+1) [] ⟨λx x hm=>(nomatch hm),List.Pairwise.nil⟩ (by rw[Heap.size_push];exact Nat.le_refl _);rw[Heap.size_push] at ok;rw[show ({s with heap:=s.heap.push {cls:=.type "dict",data:=.dict #[]}}:Shared).heap.objs.size=s.heap.objs.size+1 from Heap.size_push ..];refine wpAny_bind ?_;rw[List.forIn_nil];refine wpAny_pure (wpAny_pure ?_);have kp:s.heap.StaysIn (pushCells (s.heap.push {cls:=.type "dict",data:=.dict #[]}) scope.names):=λb o e=>pushCells_keeps _ _ b o (Heap.get?_push_of_some _ e);refine hQ _ _ rfl rfl ?_ kp;have two:∀{y c},(cellsFrom (s.heap.objs.size+1) scope.names (l8 κ.env scope.names [])).lookup y=some c→((cellsFrom (s.heap.objs.size+1) scope.names []).lookup y=some c)∨κ.env.cells.lookup y=some c:=λ{y c} e=>by
  rw[bL,List.lookup_append] at e;induction q:(cellsFrom (s.heap.objs.size+1) scope.names []).lookup y with|some c'=>rw[q] at e;exact .inl e|none=>
   rw[q] at e;rcases rL κ.env [] ma e with z | z
   ·exact .inr z
   ·exact nS z
 have SN:∀{y c},(y,NameKind.free)∈scope.names→κ.env.cells.lookup y=some c→(cellsFrom (s.heap.objs.size+1) scope.names (l8 κ.env scope.names [])).lookup y=some c:=λ{y c} hy e=>by
  rw[bL,List.lookup_append];induction q:(cellsFrom (s.heap.objs.size+1) scope.names []).lookup y with
  | some c'=>have h1:=hs.cell y (qT (mem_of_lookup q));rw[(hs.free y hy).1] at h1;cases h1
  | none=>exact Dp κ.env e [] ma (.inl hy)
 have fresh:∀a,s.heap.objs.size≤a→s.heap.get? a=Option.none:=λa ha=>by induction q:s.heap.get? a with|none=>rfl|some o=>exact absurd (Heap.lt_size q) (Nat.not_lt.mpr ha)
 have new:∀a,s.heap.objs.size≤a→κ.B.h.get? a=Option.none∧p.P a=Option.none∧¬ Own p a:=λa ha=>⟨aw I.hi.st (fresh a ha),rB I.hi.fz (fresh a ha),λq=>by refine bZ ((I.hi.new a q).2.2) λo e=>?_;exact aE e (fresh a ha)⟩;have lt:∀{y c},κ.env.cells.lookup y=some c→c<s.heap.objs.size:=λe=>by refine gU (I.ei.cells _ _ e) λv o h x=>?_;exact Heap.lt_size h
 have own:∀{y c},(cellsFrom (s.heap.objs.size+1) scope.names []).lookup y=some c→Heap.IsCell (pushCells (s.heap.push {cls:=.type "dict",data:=.dict #[]}) scope.names) c Option.none∧s.heap.objs.size+1≤c:=λe=>ok.empty _ _ (mem_of_lookup e);refine ⟨(HI.push I).grow (.keep kp),⟨⟨_,(Heap.Ns.new s.heap (.type "dict")).keeps (pushCells_keeps _ _)⟩,λy c e=>?_,λy e=>?_,λy v e=>?_,λa q=>?_,λy z c e1 e2=>?_,λy c e=>?_⟩⟩
 ·rcases two e with z | z
  ·exact ⟨_,(own z).1⟩
  ·refine bZ (I.ei.cells y c z) λv q=>?_;exact ⟨v,q.keeps kp⟩
 ·refine bZ (jF e) λk' o5=>?_;have e2:some _=some _:=(fw (sc:=κ.env.scope) o5).symm.trans e;by_cases hc:k'=.cell
  ·subst hc;have:=jP (n:=s.heap.objs.size+1) (mem_of_lookup o5);refine bZ (Option.isSome_iff_exists.mp this) λc hc=>?_;exact ⟨c,by show List.lookup y (cellsFrom _ _ _)=_;rw[bL,List.lookup_append,hc];rfl⟩
  ·by_cases hf:k'=.free
   ·subst hf;refine bZ (ma y (mem_of_lookup o5)) λc hc=>?_;exact ⟨c,SN (mem_of_lookup o5) hc⟩
   ·exfalso;injection e2 with e2
    rw[if_neg (by simp[hf])] at e2
    exact hc e2
 ·refine aj (pz e) λhy e'=>?_;refine aG (I.ei.vars y v e') λu r V=>?_;refine ⟨u,r,?_⟩;refine aj (hs.free y hy) λhl qU=>?_;have kk:(oy κ scope s.heap.objs.size).env.kindOf y=some (if (NameKind.free==NameKind.free&&κ.env.scope.kind==.function&&κ.env.scope.names.lookup y==some .cell) then .cell else .free):=fw hl;rcases V with ⟨a,_⟩ | ⟨a,c,l,hc⟩
  ·have a':κ.env.scope.names.lookup y=some .local:=a;rcases qU with qU | ⟨qU,_⟩ <;> (rw[a'] at qU;cases qU)
  ·refine .inr ⟨?_,c,SN hy l,hc.keeps kp⟩;rw[kk];rcases qU with qU | ⟨qU,SO⟩
   ·left;rw[qU,Bb];rfl
   ·right;rw[qU,Bb];exact ⟨rfl,SO⟩
 ·rcases q with rfl | ⟨y,e⟩
  ·exact new _ (Nat.le_refl _)
  ·rcases two e with z | z
   ·exact new _ (Nat.le_of_succ_le (own z).2)
   ·exact I.ei.lP a (.inr ⟨y,z⟩)
 ·rcases two e1 with z1 | z1 <;> rcases two e2 with z2 | z2
  ·exact name_of_addr ok.apart (mem_of_lookup z1) (mem_of_lookup z2)
  ·exact absurd (Nat.lt_of_lt_of_le (lt z2) (Nat.le_of_succ_le (own z1).2)) (Nat.lt_irrefl _)
  ·exact absurd (Nat.lt_of_lt_of_le (lt z1) (Nat.le_of_succ_le (own z2).2)) (Nat.lt_irrefl _)
  ·exact I.ei.apart y z c z1 z2
 ·rcases two e with z | z
  ·exact Nat.ne_of_gt (own z).2
  ·exact Nat.ne_of_lt (lt z)
theorem kU {names:List (Str×NameKind)} {c:Addr}:∀{n:Nat},(y,c)∈cellsFrom n names []→n≤c:=by
 induction names with
 | nil=>intro n h;cases h
 | cons a r ih=>
  obtain ⟨x,k⟩:=a;intro n h;have h:(y,c)∈(if (k==.cell)=true then cellsFrom (n+1) r [(x,n)] else cellsFrom n r []):=h
  split at h
  ·rw[bL] at h;rcases List.mem_append.mp h with h | h
   ·exact Nat.le_of_succ_le (ih h)
   ·have h:=List.mem_singleton.mp h;refine aj (Prod.mk.inj h) λae bX=>?_;subst ae;subst bX;exact Nat.le_refl _
  ·exact ih h
theorem G8 {scope:Scope} {L:Addr} (ha:(oy κ scope L).GJ a):L≤a:=by
 rcases ha with rfl | ⟨x,hx,e⟩
 ·exact Nat.le_refl _
 ·have hk:scope.names.lookup x=some .cell:=by
   have hx:jq scope.names x=true:=hx
   unfold jq at hx
   rw[dI] at hx
   induction q:scope.names.lookup x with|none=>rw[q] at hx;exact fT hx|some k=>rw[q] at hx;induction k using NameKind.casesOn <;> first | rfl | exact fT hx
  obtain ⟨c,Pj⟩:=Option.isSome_iff_exists.mp (jP (n:=L+1) (mem_of_lookup hk))
  have e:(cellsFrom (L+1) scope.names (l8 κ.env scope.names [])).lookup x=some a:=e
  rw[bL,List.lookup_append,Pj] at e
  refine au e ?_
  exact Nat.le_of_succ_le (kU (mem_of_lookup Pj))
theorem G9 {scope:Scope} {L:Addr} (ha:(oy κ scope L).All a) (hc:∀n,(n,NameKind.free)∈scope.names→∃c,κ.env.cells.lookup n=some c):L≤a∨κ.All a:=by
 rcases ha with rfl | ⟨x,e⟩
 ·exact .inl (Nat.le_refl _)
 ·have e:(cellsFrom (L+1) scope.names (l8 κ.env scope.names [])).lookup x=some a:=e;rw[bL,List.lookup_append] at e;induction q:(cellsFrom (L+1) scope.names []).lookup x with
  | some c'=>rw[q] at e;obtain rfl:=Option.some.inj e;exact .inl (Nat.le_of_succ_le (kU (mem_of_lookup q)))
  | none=>
   rw[q] at e;rcases rL κ.env [] hc e with z | z
   ·exact .inr (.inr ⟨x,z⟩)
   ·exact nS z
end
noncomputable abbrev oz (ifs:List Expr) (env:Env):Sem Bool:=forIn ifs true λc r=>if r=true then do let ok←isTrue c env (eval c env);pure (ForInStep.yield ok) else pure (ForInStep.yield r)
theorem Bd {w:World} {s:Shared} {e:Expr} {it acc:Value} {emit:Sem Unit} (vA:compTurn e 0 it acc env=(do
   standAt iter.pos
   match←pyNext it with
   | Option.none=>pure (.done .next)
   | some v=>
    letOwnedTupleGo tgt it v
    assign tgt env v
    let ok←oz ifs env
    if ok then emit
    again (.compLoop e 0 it acc env))) (pA:A.under (.compLoop e 0 it acc env)=A) (Dq:(model prog w).den (.compLoop e 0 it acc env)=(compTurn e 0 it acc env).onRaise (λx=>do noteFrame x env;theTreesLotGoes x)) (I:Nat→Shared→Prop)
  (turn:∀n s,I n s→wpAny (model prog w) A (pyNext it) (λr ag=>match r with
   | Option.none=>R (.ok .next) ag
   | some v=>wpAny (model prog w) A (letOwnedTupleGo tgt it v) (λz cU=>wpAny (model prog w) A (assign tgt env v) (λz xW=>wpAny (model prog w) A (oz ifs env) (λok Kj=>
     if ok=true then wpAny (model prog w) A emit (λz Nq=>∃m,m<n∧I m Nq) (notedBy (model prog w) A env λe s'=>R (.error e) s') Kj else ∃m,m<n∧I m Kj)
     (notedBy (model prog w) A env λe s'=>R (.error e) s') xW) (notedBy (model prog w) A env λe s'=>R (.error e) s') cU) (notedBy (model prog w) A env λe s'=>R (.error e) s') ag) (notedBy (model prog w) A env λe s'=>R (.error e) s') s)
  (n:Nat) (h:I n s):codeAny (model prog w) A (.compLoop e 0 it acc env) R s:=by
 refine codeAny_loop rfl I (λn s hI=>?_) n h
 rw[pA,Dq]
 refine wpAny_noted ?_
 rw[vA]
 refine wpAny_bind (wpAny_standAt (wpAny_bind (wpAny_mono (turn n s hI) (λr ag fq=>?_) λz z h'=>h')))
 induction r with|none=>exact wpAny_pure fq|some v=>refine wpAny_bind (wpAny_mono fq (λz cU xr=>wpAny_bind (wpAny_mono xr (λz xW Be=>wpAny_bind (wpAny_mono Be (λok Kj Nr=>?_) λz z h'=>h')) λz z h'=>h')) λz z h'=>h');induction ok with|false=>exact wpAny_pure ⟨rfl,Nr⟩|true=>exact wpAny_bind (wpAny_mono Nr (λz Nq Qv=>wpAny_pure ⟨rfl,Qv⟩) λz z h'=>h')
section
variable {κ:Cx} {A:Around} {Γ':aA} {loc:Loc} {H:Hp} {p:Pt} {s:Shared} {E:Value→Shared→Prop} {n:Nat}
noncomputable def zm (Γ:aA) (tgt:Expr) (ifs:List Expr) (n:Nat) (emT:Loc→Hp→Acc→Tr (Hp×Acc)) (y:PV) (acc:Acc) (loc:Loc) (H:Hp):Tr (Loc×Hp×Acc):=(Dl Γ tgt y loc H).bind λq=>(iW (SM Γ.c q.1 q.2 n ifs)).bind λb=>.br b ((emT q.1 q.2 acc).bind λr=>.leaf (q.1,r.1,r.2)) (.leaf (q.1,q.2,acc))
def tc (κ:Cx) (A:Around) (At:Pt→Obj→Acc→Prop) (emT:Loc→Hp→Acc→Tr (Hp×Acc)) (D:Addr) (emit:Sem Unit):Prop:=∀loc H acc p s o,Inv κ loc H p s→fY κ [D]→dC p s.heap [D]→s.heap.get? D=some o→At p o acc→∀(Q:Unit→Shared→Prop) (E:Value→Shared→Prop),(emT loc H acc).Sat (λr=>∀p1 s1 s' o',To κ p s p1 s1→Inv κ loc r.1 p1 s1→Inv κ loc r.1 p1 s'→Heap.SameBut D s1.heap s'.heap→(∃h tk,s'={s1 with heap:=h,toks:=tk})→s1.toks≤s'.toks→s'.heap.get? D=some o'→At p1 o' r.2→Q () s')→wpAny κ.M A emit Q E s
theorem Bf {At:Pt→Obj→Acc→Prop} (mono:∀p p' o a,p.Le p'→At p o a→At p' o a) {emT:Loc→Hp→Acc→Tr (Hp×Acc)} {e:Expr} {D:Addr} {emit:Sem Unit}    {pb:Pt} {sb:Shared} (C:cE κ A ba Γ') (he:env=κ.env) (W:Wk κ.g A I tgt fp wr pb xs Hc St) (Qw:tc κ A At emT D emit) (vA:compTurn e 0 (.ref I) (.ref D) env=(do
   standAt iter.pos
   match←pyNext (.ref I) with
   | Option.none=>pure (.done .next)
   | some v=>
    letOwnedTupleGo tgt (.ref I) v
    assign tgt env v
    let ok←oz ifs env
    if ok then emit
    again (.compLoop e 0 (.ref I) (.ref D) env))) (pA:A.under (.compLoop e 0 (.ref I) (.ref D) env)=A) (Dq:κ.M.den (.compLoop e 0 (.ref I) (.ref D) env)=(compTurn e 0 (.ref I) (.ref D) env).onRaise (λx=>do noteFrame x env;theTreesLotGoes x))
  (Kk:∀y v,ax y loc=some v→dw Γ'.c y=false) (Lp:List PV→Acc→Hp→Prop) (Fin:Acc→Hp→Prop) (step:∀y r acc H,Lp (y::r) acc H→Hc H∧(zm Γ' tgt ifs n emT y acc loc H).Sat (λo=>Lp r o.2.2 o.2.1)) (base:∀acc H,Lp [] acc H→Hc H∧Fin acc H)
  (hD:D∉fp) (sc:fY κ (D::wr)) (Dk:∀b∈fp,b∈wr∨∃o,pb.P b=some o) (xX:∀b o,sb.heap.get? b=some o→¬ κ.GJ b∧b∉D::wr)
  (cV:Inv κ loc H p s) (Ka:nI κ.B.fr pb sb p s) (sp:dC p s.heap (D::wr)) (st:St 0 s.heap) {o₀:Obj} {acc₀:Acc} (ho:s.heap.get? D=some o₀) (ha:At p o₀ acc₀) (hL:Lp xs acc₀ H)
  (hR:∀p' s' H' acc o,Inv κ loc H' p' s'→nI κ.B.fr pb sb p' s'→dC p' s'.heap [D]→s'.heap.get? D=some o→At p' o acc→Fin acc H'→R (.ok .next) s') :
  codeAny κ.M A (.compLoop e 0 (.ref I) (.ref D) env) R s:=by
 subst he
 have SP:fY κ wr:=λb hb=>sc b (List.mem_cons_of_mem _ hb)
 have Uu:fY κ [D]:=λb hb=>sc b (by rw[List.mem_singleton.mp hb];exact List.mem_cons_self)
 have Nt:D∉wr:=λh=>hD (W.sub _ h)
 have vB:∀{p p':Pt} {h h':Heap} {k:Nat},(∀b∈wr,∀o,h.get? b=some o→h'.get? b=some o)→pb.Le p→aB p.P h→aB p'.P h'→p.Le p'→St k h→St k h':=λ{p p' h h' k} hw le F F' IS hs=>
  W.frame _ _ _ hs λb hb o e=>by
   rcases Dk b hb with hb | ⟨o',hb⟩
   ·exact hw b hb o e
   ·have h1:=F b o' (le.1 _ _ hb);rw[h1] at e;obtain rfl:=Option.some.inj e;exact F' b _ (IS.1 _ _ (le.1 _ _ hb))
 let Iv:Nat→Shared→Prop:=λj s'=>∃k p' H' acc o,j=xs.length+1 - k∧k≤xs.length∧Inv κ loc H' p' s'∧nI κ.B.fr pb sb p' s'∧dC p' s'.heap (D::wr)∧St k s'.heap∧s'.heap.get? D=some o∧At p' o acc∧Lp (xs.drop k) acc H'
 refine Bd vA pA Dq Iv (λj s' hI=>?_) (xs.length+1) ⟨0,p,H,acc₀,o₀,by lia,Nat.zero_le _,cV,Ka,sp,st,ho,ha,hL⟩
 obtain ⟨k,p',H',acc,o,rfl,hk,I',T',Ds,IQ,zh,Gn,Ha⟩:=hI
 by_cases om:k<xs.length
 ·have mI:xs.drop k=xs[k]::xs.drop (k+1):=List.drop_eq_getElem_cons om;rw[mI] at Ha;refine aj (step _ _ _ _ Ha) λhc ht=>?_;refine wpAny_mono (W.item k κ.B H' p' s' _ _ xs[k] (List.getElem?_eq_getElem om) IQ I'.hi T'.st.le hc λv h4 IT rel IU k4 t4=>?_) (λr s1 hr=>by induction r with|none=>exact hr.elim|some v=>exact hr) λw w x=>x;have Qx:=W.ex _ _ IU;refine fK (mV (F:=κ.B.fr) SP (λb hb=>Ds b (List.mem_cons_of_mem _ hb)) I' k4 Qx t4) λI4 Uv Qy=>?_;have Qz:dC p' h4 (D::wr):=λb hb=>by
   rcases List.mem_cons.mp hb with rfl | hb
   ·exact ⟨(Ds _ List.mem_cons_self).1,(Ds _ List.mem_cons_self).2.1,o,k4 _ o Nt zh⟩
   ·exact Uv b hb
  have T4:=T'.more Qy ⟨_,_,rfl⟩ t4 λb o e=>λz=>(xX b o e).2 (List.mem_cons_of_mem _ z)
  have Uw:h4.get? D=some o:=k4 _ o Nt zh
  have ht:=aP.mp ht
  refine px C I4 rel ((Dn ht).mono λq hq=>λp5 s5 I5 T5=>?_)
  have back:∀{H p s},Inv κ q.1 H p s→Inv κ loc H p s:=λI=>I.less λy v e=>(hq.2 y (Kk y v e)).trans e
  have hq:=hq.1
  refine aj (dD sc Qz T5) λQA k5=>?_
  have ht:=aP.mp hq
  refine Ce (qI hq) λgd b eb Qk Ux Uy=>?_
  refine Ba C.c eb Qk p5 s5 I5 _ _ λp6 s6 I6 T6=>?_
  refine aj (dD sc QA T6) λMu k6=>?_
  have Dt:To κ p' {s' with heap:=h4,toks:=IT} p6 s6:=T5.trans T6
  have QB:=T4.more Dt.st Dt.eq Dt.le λb o e=>(xX b o e).1
  have SQ:s6.heap.get? D=some o:=k6 D List.mem_cons_self o (k5 D List.mem_cons_self o Uw)
  have Nu:St (k+1) s6.heap:=vB (λb hb o e=>k6 b (List.mem_cons_of_mem _ hb) o (k5 b (List.mem_cons_of_mem _ hb) o e)) T4.st.le I4.hi.fz I6.hi.fz Dt.st.le IU
  have a6:At p6 o acc:=mono _ _ _ _ Dt.st.le Gn
  induction b with|false=>rw[if_neg Bool.false_ne_true];exact ⟨xs.length+1 - (k+1),by lia,k+1,p6,q.2,acc,o,rfl,om,back I6,QB,Mu,Nu,SQ,a6,Uy rfl⟩|true=>
   rw[if_pos rfl];refine Qw q.1 q.2 acc p6 s6 o I6 Uu (λb hb=>Mu b (by rw[List.mem_singleton.mp hb];exact List.mem_cons_self)) SQ a6 _ _ ((aP.mp (Ux rfl)).mono λr hr=>?_);intro p7 s7 s8 o8 T7 I7 I8 Uz UA t8 QC a8;refine aj (dD sc Mu T7) λUB k7=>?_;have UC:=QB.more T7.st T7.eq T7.le λb o e=>(xX b o e).1;have kD:∀b o,b≠D→s7.heap.get? b=some o→s8.heap.get? b=some o:=λb o n e=>(Uz.2 b n).trans e;have UD:Step κ.B.fr (·=D) p7 s7.heap p7 s8.heap:=⟨λb o e w n w=>kD b o n e,λb o e w n=>⟨o.slots,kD b o n e⟩,λb o e=>by
    by_cases z:b=D
    ·exact ⟨o8,z▸QC⟩
    ·exact ⟨o,kD b o z e⟩,.refl,λw w e=>.inl e,λw e=>.inl e⟩
   have T8:=UC.more UD UA t8 λb o e z=>(xX b o e).2 (z▸List.mem_cons_self);have SR:∀b∈wr,b≠D:=λb hb z=>Nt (z▸hb);have UE:dC p7 s8.heap (D::wr):=λb hb=>by
    obtain ⟨h1,h2,o',h3⟩:=UB b hb;rcases List.mem_cons.mp hb with rfl | hb
    ·exact ⟨h1,h2,_,QC⟩
    ·exact ⟨h1,h2,o',kD b o' (SR b hb) h3⟩
   have UG:St (k+1) s8.heap:=vB (λb hb o e=>kD b o (SR b hb) (k7 b (List.mem_cons_of_mem _ hb) o e)) QB.st.le I6.hi.fz I8.hi.fz T7.st.le Nu;exact ⟨xs.length+1 - (k+1),by lia,k+1,p7,r.1,r.2,o8,rfl,om,back I8,T8,UE,UG,QC,a8,hr⟩
 ·have QD:k=xs.length:=Nat.le_antisymm hk (Nat.not_lt.mp om);subst QD;rw[List.drop_length] at Ha;refine aj (base _ _ Ha) λhc hf=>?_;refine W.done κ.B H' p' s' _ _ IQ I'.hi T'.st.le hc λh4 IT k4 t4=>?_;have I4:=kT SP (λb hb=>Ds b (List.mem_cons_of_mem _ hb)) I' k4 t4;have nw:∀b o,sb.heap.get? b=some o→b∉wr:=λb o e z=>(xX b o e).2 (List.mem_cons_of_mem _ z);refine rh T'.eq λh1 t1 e1=>?_;refine hR p' {s' with heap:=h4,toks:=IT} H' acc o I4 ⟨⟨h4,IT,by rw[e1]⟩,Nat.le_trans T'.le t4,λb o e n m f=>k4 b o (nw b o e) (T'.st.keep b o e n m f),λb o e n m=>let ⟨sl,z⟩:=T'.st.slot b o e n m;⟨sl,k4 b _ (nw b o e) z⟩,
   λb o e=>let ⟨o',z⟩:=T'.st.live b o e;⟨o',k4 b o' (nw b o e) z⟩,T'.st.le,T'.st.gD,T'.st.ie⟩ (λb hb=>?_) (k4 D o Nt zh) Gn hf
  have:=List.mem_singleton.mp hb
  subst this
  exact ⟨(Ds _ List.mem_cons_self).1,(Ds _ List.mem_cons_self).2.1,o,k4 _ o Nt zh⟩
end
section
variable {κ:Cx} {A:Around} {Γ:aA} {loc:Loc} {H:Hp} {p:Pt} {s:Shared} {n:Nat} {h₀:Heap}
def g5 (κ:Cx) (A:Around) (loc:Loc) (H:Hp) (tgt iter:Expr) (xs:List PV) (Hc:Hp→Prop):Prop:=∀p s,Inv κ loc H p s→∀(Q:Value→Shared→Prop) (E:Value→Shared→Prop),(∀p' s' ag u,Inv κ loc H p' s'→To κ p s p' s'→iZ κ A loc H tgt p' s' ag u xs Hc→Q u ag)→wpAny κ.M A (eval iter κ.env) Q E s
theorem Kl (I:Inv κ loc H p s):(s.heap.objs.size==sysModules)=false:=by refine IC I.hi.gV.2.g λo es ep e y=>?_;have:3<s.heap.objs.size:=Heap.lt_size e;exact beq_eq_false_iff_ne.mpr λz=>by rw[z] at this;exact absurd this (by decide)
theorem vC {At:Pt→Obj→Acc→Prop} (mono:∀p p' o a,p.Le p'→At p o a→At p' o a) {emT:Loc→Hp→Acc→Tr (Hp×Acc)} {e:Expr} {scope:Scope} {pos:Pos} {Du:Sem Value} {use:Option (Value→Sem Unit)} {emit:Addr→Env→Sem Unit} {Γ':aA} {o₀:Obj} {acc₀:Acc} {xs:List PV} {Hc:Hp→Prop}   (Mr:clausesOf e=[⟨tgt,iter,ifs,0⟩]) (eC:∀v,foldedSetIterable iter κ.env v=pure v) (hs:vy κ.env.scope scope) (Bb:κ.env.scope.kind=.function) (l9:dP scope.names loc=true) (C:∀L,cE (oy κ scope L) A ba Γ') (Qw:∀L D,tc (oy κ scope L) A At emT D (emit D (oy κ scope L).env)) (hf:o₀.isFreed=false) (Nv:∀p,At p o₀ acc₀) (QE:∀(s:Shared) (Q:Value→Shared→Prop) (E:Value→Shared→Prop),Q (.ref s.heap.objs.size) {s with heap:=s.heap.push o₀}→wpAny κ.M A Du Q E s) (vA:∀I D env,compTurn e 0 (.ref I) (.ref D) env=(do
   standAt iter.pos
   match←pyNext (.ref I) with
   | Option.none=>pure (.done .next)
   | some v=>
    letOwnedTupleGo tgt (.ref I) v
    assign tgt env v
    let ok←oz ifs env
    if ok then emit D env
    again (.compLoop e 0 (.ref I) (.ref D) env)))
  (pA:∀I D env,A.under (.compLoop e 0 (.ref I) (.ref D) env)=A) (Dq:∀I D env,κ.M.den (.compLoop e 0 (.ref I) (.ref D) env)=(compTurn e 0 (.ref I) (.ref D) env).onRaise (λx=>do noteFrame x env;theTreesLotGoes x))
  (Km:∀{env:Env} {R:Result→Shared→Prop} {s:Shared} {I D:Addr},codeAny κ.M A (.compLoop e 0 (.ref I) (.ref D) env) R s→wpAny κ.M A (pyIter (.ref I)) (λUH s'=>codeAny κ.M A (.compLoop e 0 UH (.ref D) env) R s') (notedBy κ.M A env λx s'=>R (.error x) s') s→codeAny κ.M A (.compStart e 0 (.ref I) (.ref D) env) R s)
  (Lp:List PV→Acc→Hp→Prop) (Fin:Acc→Hp→Prop) (step:∀y r acc H,Lp (y::r) acc H→Hc H∧(zm Γ' tgt ifs n emT y acc (cP scope.names loc) H).Sat (λo=>Lp r o.2.2 o.2.1)) (base:∀acc H,Lp [] acc H→Hc H∧Fin acc H)
  (cV:Inv κ loc H p s) (hit:g5 κ A loc H tgt iter xs Hc) (hL:Lp xs acc₀ H)
  (hQ:∀p' s' D L o acc H' m,Fin acc H'→Inv κ loc H' p' s'→To κ p s p' s'→s'.heap.get? D=some o→At p' o acc→fY κ [L,D]→dC p' s'.heap [L,D]→D≠L∧(D==sysModules)=false→s.heap.get? D=Option.none→s.heap.get? L=Option.none→s'.heap.Ns L m→compPost κ.M A E use Q (.ref D) L (.ok .next) s') :
  wpAny κ.M A (comprehension e scope κ.env pos Du false (eval iter κ.env) use) Q E s:=by
 have ma:=vz hs l9 cV
 have Kk:∀y v,ax y (cP scope.names loc)=some v→dw Γ'.c y=false:=λy v e=>by
  have hy:=(pz e).1;have hl:=(hs.free y hy).1;induction q:dw Γ'.c y with|false=>rfl|true=>
   exfalso;have C0:=(C 0).c;have kk:(oy κ scope 0).env.kindOf y=some (if (NameKind.free==NameKind.free&&κ.env.scope.kind==.function&&κ.env.scope.names.lookup y==some .cell) then .cell else .free):=fw hl;rcases d9 C0 q with z | ⟨_,z⟩
   ·rw[kk] at z;split at z <;> cases z
   ·have z:jq scope.names y=true:=z;unfold jq at z;rw[dI,hl] at z;exact fT z
 refine wpAny_comprehension_free Mr eC (qS ma) hs.kind (λx hx hk=>?_) (hit p s cV _ _ λp1 s1 w u I1 T1 hw=>hw _ _ λI fp wr St s2 W Nw I2 T2 k2 A9 Dk=>?_)
 ·obtain ⟨y,k⟩:=x;have hk:k=.local:=hk;subst hk;exact hs.loc y hx
 refine QE s2 _ _ ?_
 have nD:s2.heap.get? s2.heap.objs.size=Option.none:=bA _
 have oD:=Heap.get?_push_size (o:=o₀) s2.heap hf
 refine aj (I2.keep (h':=s2.heap.push o₀) (tk:=s2.toks) (az _ _) (Nat.le_refl _)) λI3 T3=>?_
 refine xV (s:={s2 with heap:=s2.heap.push o₀}) hs Bb l9 I3 λG7 h4 UI Mr I4 k4=>?_
 rw[UI,Mr]
 have SS:(s2.heap.push o₀).objs.size=s2.heap.objs.size+1:=Heap.size_push ..
 have nL:s2.heap.get? (s2.heap.push o₀).objs.size=Option.none:=by induction q:s2.heap.get? (s2.heap.push o₀).objs.size with|none=>rfl|some o=>have:=Heap.lt_size q;rw[SS] at this;exact absurd (Nat.lt_of_succ_lt this) (Nat.lt_irrefl _)
 have QF:s2.heap.objs.size≠(s2.heap.push o₀).objs.size:=by rw[SS];exact Nat.ne_of_lt (Nat.lt_succ_self _)
 have QG:∀b o,s2.heap.get? b=some o→h4.get? b=some o:=λb o e=>k4 b o (Heap.get?_push_of_some _ e)
 have SU:h4.get? s2.heap.objs.size=some o₀:=k4 _ _ oD
 have xX:∀b o,(s2.heap.push o₀).get? b=some o→¬ (oy κ scope (s2.heap.push o₀).objs.size).GJ b:=λb o e z=>Nat.lt_irrefl _ (Nat.lt_of_lt_of_le (Heap.lt_size e) (G8 z))
 have QH:∀b o,s1.heap.get? b=some o→(s2.heap.push o₀).get? b=some o:=λb o e=>Heap.get?_push_of_some _ (k2 b o e)
 have Mv:s1.heap.get? s2.heap.objs.size=Option.none:=aw k2 nD
 have SV:s1.heap.get? (s2.heap.push o₀).objs.size=Option.none:=aw k2 nL
 have UJ:s2.heap.objs.size∉fp:=λhm=>by refine bZ ((Dk _ hm).2) λo e=>?_;exact aE e nD
 have Nx:∀b,s1.heap.get? b=Option.none→(∃o,(s2.heap.push o₀).get? b=some o)→¬ (oy κ scope (s2.heap.push o₀).objs.size).All b∧b∉κ.Bc.fr∧κ.Bc.h.get? b=Option.none:=λb nb ⟨o,eb⟩=>by
  refine ⟨λz=>?_,λz=>?_,aw I1.hi.st nb⟩
  ·rcases G9 z ma with z | z
   ·exact Nat.lt_irrefl _ (Nat.lt_of_lt_of_le (Heap.lt_size eb) z)
   ·refine aG (I1.ei.there z) λo' e' w=>?_;exact aE e' nb
  ·refine lG ((HI.push I1).fr b z) λw w w ae=>?_;refine aG ae λo' e' w=>?_;exact aE e' nb
 have sc:fY (oy κ scope (s2.heap.push o₀).objs.size) (s2.heap.objs.size::wr):=λb hb=>by
  rcases List.mem_cons.mp hb with rfl | hb
  ·exact Nx _ Mv ⟨_,oD⟩
  ·refine bZ ((Dk b (W.sub b hb)).2) λo e=>?_;exact Nx b (A9 b hb) ⟨o,Heap.get?_push_of_some _ e⟩
 have gD:∀b,s1.heap.get? b=Option.none→¬ Own p1 b∧p1.P b=Option.none:=λb nb=>⟨λq=>by refine bZ ((I1.hi.new b q).2.2) λo e=>?_;exact aE e nb,rB I1.hi.fz nb⟩
 have sp:dC p1 h4 (s2.heap.objs.size::wr):=λb hb=>by
  rcases List.mem_cons.mp hb with rfl | hb
  ·exact ⟨(gD _ Mv).1,(gD _ Mv).2,_,SU⟩
  ·refine bZ ((Dk b (W.sub b hb)).2) λo e=>?_;exact ⟨(gD b (A9 b hb)).1,(gD b (A9 b hb)).2,o,QG b o e⟩
 have T4:nI κ.Bc.fr p1 s1 p1 {s2 with heap:=h4}:=by refine rh T2.eq λh2 t2 e2=>?_;exact ⟨⟨h4,t2,by rw[e2]⟩,T2.le,cm.step (p:=p1) (.keep λb o e=>QG b o (k2 b o e))⟩
 have IU:St 0 h4:=W.frame _ _ _ Nw λb w o e=>QG b o e
 have loop:codeAny κ.M A (.compLoop e 0 (.ref I) (.ref s2.heap.objs.size) (oy κ scope (s2.heap.push o₀).objs.size).env) (compPost κ.M A E use Q (.ref s2.heap.objs.size) (s2.heap.push o₀).objs.size) {s2 with heap:=h4}:=by
  refine Bf (κ:=oy κ scope (s2.heap.push o₀).objs.size) mono (C _) rfl W (Qw _ _) (vA _ _ _) (pA _ _ _) (Dq _ _ _) Kk Lp Fin step base UJ sc (λb hb=>(Dk b hb).1) (λb o e=>⟨xX b o (QH b o e),λz=>?_⟩) I4 T4 sp IU SU (Nv _) hL λp' s' H' acc o I' T' Ds zh Gn UK=>?_
  ·rcases List.mem_cons.mp z with rfl | z
   ·exact aE e Mv
   ·exact aE e (A9 b z)
  ·refine aj (I1.back (HI.mk I'.hi.ok I'.hi.st I'.hi.fz I'.hi.objs I'.hi.xf I'.hi.new I'.hi.inj I'.hi.fr) T') λI5 T5=>?_;refine bZ I'.ei.ns λm hm=>?_;have pl:=I'.ei.lP (s2.heap.push o₀).objs.size (.inl rfl);have QI:∀b,s1.heap.get? b=Option.none→¬ κ.All b∧b∉κ.B.fr∧κ.B.h.get? b=Option.none:=λb nb=>⟨λz=>by (refine aG (I1.ei.there z) λo' e' w=>?_;exact aE e' nb),λz=>by (refine lG (I1.hi.fr b z) λw w w ae=>?_;refine aG ae λo' e' w=>?_;exact aE e' nb),aw I1.hi.st nb⟩;have nb:∀b∈[(s2.heap.push o₀).objs.size,s2.heap.objs.size],s1.heap.get? b=Option.none:=λb hb=>by
    rcases List.mem_cons.mp hb with rfl | hb
    ·exact SV
    ·rw[List.mem_singleton.mp hb];exact Mv
   refine hQ p' s' _ _ o acc H' m UK I5 (T1.trans T5) zh Gn (λb hb=>QI b (nb b hb)) (λb hb=>?_) ⟨QF,Kl I2⟩ (eZ T1.st.live Mv) (eZ T1.st.live SV) hm
   rcases List.mem_cons.mp hb with rfl | hb
   ·refine fK pl λq1 q2 q3=>?_;refine aG (I'.ei.there (.inl rfl:(oy κ scope (s2.heap.push o₀).objs.size).All _)) λo' e' w=>?_;exact ⟨q3,q2,o',e'⟩
   ·exact Ds b hb
 exact Km loop (W.self 0 _ _ _ IU loop)
end
noncomputable def jG (k v:List Nat) (l_:List (List Nat×List Nat)):List (List Nat×List Nat):=by induction l_ with|nil=>exact [(k,v)]|cons e r ih=>exact bif lEq e.1 k then (e.1,v)::r else e::ih
theorem mW (k v:List Nat) (l:List (List Nat×List Nat)):(jG k v l).length≤l.length+1:=by induction l with|nil=>exact Nat.le_refl _|cons e r ih=>simp only[jG];induction lEq e.1 k with|true=>exact Nat.le_succ _|false=>exact Nat.succ_le_succ ih
theorem bY.length {w:World} {es:List DictEntry} {kvs:List (List Nat×List Nat)} (D:bY w es kvs):es.length=kvs.length:=by induction D with|nil=>rfl|cons _ _ ih=>rw[List.length_cons,List.length_cons,ih]
theorem bY.set {w:World} {k v:List Nat} {u key:Value} (hk:∃t,key=.str (S k) t) (hu:∃t,u=.str (S v) t) (hz:v.length≤sizeLine) {es:List DictEntry} {kvs:List (List Nat×List Nat)} (D:bY w es kvs) : match es.findIdx? (λe=>Value.isStrOf (S k) e.key) with
  | some i=>bY w (es.modify i λe=>{e with val:=u}) (jG k v kvs)
  | Option.none=>bY w (es++[⟨PyData.keyHash w.params (S k),key,u⟩]) (jG k v kvs):=by
 induction D with|nil=>exact .cons ⟨hk,rfl,hu,hz⟩ .nil|@cons e es kv kvs h r ih=>obtain ⟨t,e1⟩:=h.1;rw[List.findIdx?_cons,e1,rm];simp only[jG];induction q:lEq kv.1 k with|true=>exact .cons ⟨⟨t,e1⟩,h.2.1,hu,hz⟩ r|false=>rw[if_neg Bool.false_ne_true];simp only[cond_false];induction q2:es.findIdx? (λe=>Value.isStrOf (S k) e.key) with|none=>rw[q2] at ih;exact .cons h ih|some i=>rw[q2] at ih;exact .cons h ih
section
variable {prog:Program} {w:World} {A:Around} {E:Value→Shared→Prop} {s:Shared}
noncomputable abbrev td (es:List DictEntry) (n:Nat):Obj:={cls:=.type "dict",data:=.dict es.toArray n}
theorem vD {es:List DictEntry} {kvs:List (List Nat×List Nat)} {k v:List Nat} {key u:Value} {Q:Unit→Shared→Prop} (ho:s.heap.get? d=some (td es n)) (D:bY w es kvs) (hz:kvs.length≤sizeLine) (hk:∃t,key=.str (S k) t) (hu:∃t,u=.str (S v) t) (hv:v.length≤sizeLine) (h:∀h' oi n' tk,h'.get? d=some (td oi n')→bY w oi (jG k v kvs)→Heap.SameBut d s.heap h'→s.toks≤tk→Q () {s with heap:=h',toks:=tk}):wpAny (model prog w) A (dictSet d key u) Q E s:=by
 have Hb:=D.set hk hu hv;have UL:=D.keysOf (p:=prog);unfold dictSet;refine wpAny_holding ?_;obtain ⟨tk,rfl⟩:=hk;refine wpAny_bind ((strKind prog w).pyHash (k:=S k) (strKind_is prog w _ tk) ?_);unfold dictSetHashed;refine wpAny_holding ?_;refine wpAny_bind (wpAny_dictFind_of (knd:=strKind prog w) (s:={s with toks:=s.toks+1}) (strKind_is prog w _ tk) ho rfl (λe he=>UL e (by simpa using he)) ?_);have e0:(es.toArray.findIdx? λe=>(strKind prog w).is (S k) e.key)=es.findIdx? (λe=>Value.isStrOf (S k) e.key):=by simp;rfl
 rw[e0];have UM:es.toArray.size≤sizeLine:=by rw[List.size_toArray,D.length];exact hz
 induction q:es.findIdx? (λe=>Value.isStrOf (S k) e.key) with|some i=>rw[q] at Hb;refine wpAny_bind (wpAny_rule (wpAny_bind (wpAny_updateDict (s:={s with toks:=s.toks+1}) ho rfl (wpAny_point (h _ (es.modify i λe=>{e with val:=u}) n _ ?_ Hb (Heap.SameBut.update ..) (Nat.le_succ _))))));refine (Heap.get?_update_self _ ho rfl).trans ?_;show some ({cls:=.type "dict",data:=.dict (es.toArray.modify i _) n}:Obj)=_;rw[List.modify_toArray]|none=>rw[q] at Hb;refine wpAny_bind (wpAny_rule (wpAny_updateDictKeys (hz:=UM) (s:={s with toks:=s.toks+1}) ho rfl (h _ (es++[⟨PyData.keyHash w.params (S k),.str (S k) tk,u⟩]) (n+1) _ ?_ Hb (Heap.SameBut.update ..) (Nat.le_succ _))));refine (Heap.get?_update_self _ ho rfl).trans ?_;show some ({cls:=.type "dict",data:=.dict (es.toArray.push _) (n+1)}:Obj)=_;rw[List.push_toArray];rfl
end
def Sub (l l':Loc):Prop:=∀x v,ax x l=some v→ax x l'=some v
theorem Sub.app:∀{l r:Loc},Sub l (l++r)|e::l,r,x,v,h=>by have h:(bif seq e.1 x then some e.2 else ax x l)=some v:=h;show (bif seq e.1 x then some e.2 else ax x (l++r))=some v;induction q:seq e.1 x with|true=>rw[q] at h;exact h|false=>rw[q] at h;exact Sub.app (l:=l) x v h
def g6 (next:Loc→Hp→Prop) (Φ:Out→Prop) (o:Out):Prop:=∃l,Sub l o.loc∧match o.fl with
 | .next | .cont=>next l o.H
 | .brk=>Φ ⟨.next,l,o.H⟩
 | .ret v=>Φ ⟨.ret v,l,o.H⟩
 | .exc m=>Φ ⟨.exc m,l,o.H⟩
section
variable {κ:Cx} {A:Around} {Γ:aA} {X:XP}
end
theorem Dv {w:World} {s:Shared} {target:Expr} {it:Value} (I:Nat→Shared→Prop) (turn:∀n s,I n s→wpAny (model prog w) A (pyNext it) (λr ag=>match r with
   | Option.none=>R (.ok .next) ag
   | some v=>wpAny (model prog w) A (letOwnedTupleGo target it v) (λz ag=>wpAny (model prog w) A (assign target env v) (λz cU=>wpAny (model prog w) A (execs body env) (λf xW=>match f with
     | .next | .cont=>∃m,m<n∧I m xW
     | .brk=>R (.ok .next) xW
     | .ret v=>R (.ok (.ret v)) xW) (notedBy (model prog w) A env λe s'=>R (.error e) s') cU) (notedBy (model prog w) A env λe s'=>R (.error e) s') ag) (notedBy (model prog w) A env λe s'=>R (.error e) s') ag) (notedBy (model prog w) A env λe s'=>R (.error e) s') s)
  (n:Nat) (h:I n s):codeAny (model prog w) A (.forLoop target it body [] env) R s:=by
 refine codeAny_loop' rfl I (λn s hI=>?_) n h
 show wpAny _ _ ((forTurn target it body [] env).onRaise (λx=>do noteFrame x env;theTreesLotGoes x)) _ _ s
 refine wpAny_noted ?_
 unfold forTurn
 refine wpAny_bind (wpAny_standAt (wpAny_bind (wpAny_onRaise (wpAny_mono (turn n s hI) (λr ag fq=>?_) λz z h'=>wpAny_standAt h'))))
 induction r with|none=>exact wpAny_pure (.inr ⟨rfl,codeAny_block (wpAny_execs_nil fq)⟩)|some v=>refine wpAny_bind (wpAny_mono fq (λz cU xr=>wpAny_bind (wpAny_mono xr (λz cU xr=>wpAny_bind (wpAny_mono xr (λf xW Be=>?_) λz z h'=>h')) λz z h'=>h')) λz z h'=>h');induction f using Flow.casesOn with|next=>exact wpAny_pure (.inl ⟨rfl,Be⟩)|cont=>exact wpAny_pure (.inl ⟨rfl,Be⟩)|brk=>exact wpAny_pure Be|ret v=>exact wpAny_pure Be
section
variable {κ:Cx} {A:Around} {Γ:aA} {X:XP}
theorem To.more {pb:Pt} {s sb:Shared} {Y:Addr→Prop} (T:To κ pb sb p s) (st:Step κ.B.fr Y p s.heap p' s'.heap) (eq:∃h tk,s'={s with heap:=h,toks:=tk}) (le:s.toks≤s'.toks) (n:∀b o,sb.heap.get? b=some o→¬ Y b):To κ pb sb p' s':=by refine rh T.eq λh1 t1 eq2=>?_;subst eq2;refine rh eq λh2 t2 eq2=>?_;subst eq2;exact ⟨⟨_,_,rfl⟩,Nat.le_trans T.le le,((T.st.wk (Y:=λb=>κ.GJ b∨Y b) (λb o e q=>.inl q) λy y y q=>.inl q).trans (st.wk (λb o e q=>.inr q) λy y y q=>.inl q)).wk (λb o e q=>q.elim id λz=>(n b o e z).elim) λy y y q=>.inl q⟩
theorem xY (C:cE κ A X Γ) (eC:∀v,foldedSetIterable iter κ.env v=pure v) (W:Loc→Hp→Tr Out) (start:∀loc H Φ,(W loc H).Sat Φ→∃(xs:List PV) (Hc:Hp→Prop) (Lp:List PV→Loc→Hp→Prop),g5 κ A loc H tgt iter xs Hc∧Lp xs loc H∧(∀loc H,Lp [] loc H→Hc H∧Φ ⟨.next,loc,H⟩)∧ ∀y r loc H,Lp (y::r) loc H→Hc H∧((Dl Γ tgt y loc H).bind λq=>av Γ n body q.1 q.2).Sat (g6 (Lp r) Φ)) : ∀loc H,bt κ A X (exec (.For tgt iter body [] pos) κ.env) loc H (W loc H):=λloc H p s I Q E hE h=>by
 refine kq (start _ _ _ h) λxs Hc Lp hit hL base step=>?_;refine wpAny_For (hit p s I _ _ λp1 s1 w u I1 T1 hw=>hw _ _ λit fp wr St s2 W Nw I2 T2 k2 A9 Dk=>?_) eC;have Pk:=T1.trans T2;have old:∀b o,s.heap.get? b=some o→b∉wr:=λb o e z=>by refine bZ (T1.st.live b o e) λo' e'=>?_;exact aE e' (A9 b z)
 have sc:fY κ wr:=λb hb=>⟨λz=>by (refine aG (I1.ei.there z) λo' e' w=>?_;exact aE e' (A9 b hb)),λz=>by (obtain ⟨_,_,_,o',e',_⟩:=I1.hi.fr b z;exact aE e' (A9 b hb)),aw I1.hi.st (A9 b hb)⟩;have sp:dC p1 s2.heap wr:=λb hb=>⟨λq=>by (refine bZ ((I1.hi.new b q).2.2) λo e=>?_;exact aE e (A9 b hb)),rB I1.hi.fz (A9 b hb),(Dk b (W.sub b hb)).2⟩;have vB:∀{p p':Pt} {h h':Heap} {k:Nat},(∀b∈wr,∀o,h.get? b=some o→h'.get? b=some o)→p1.Le p→aB p.P h→aB p'.P h'→p.Le p'→St k h→St k h':=λ{p p' h h' k} hw le F F' IS hs=>
  W.frame _ _ _ hs λb hb o e=>by
   rcases (Dk b hb).1 with hb | ⟨o',hb⟩
   ·exact hw b hb o e
   ·have h1:=F b o' (le.1 _ _ hb);rw[h1] at e;obtain rfl:=Option.some.inj e;exact F' b _ (IS.1 _ _ (le.1 _ _ hb))
 let Iv:Nat→Shared→Prop:=λj s'=>∃k p' fm H',j=xs.length+1 - k∧k≤xs.length∧Inv κ fm H' p' s'∧To κ p s p' s'∧p1.Le p'∧dC p' s'.heap wr∧St k s'.heap∧Lp (xs.drop k) fm H'
 refine Dv Iv (λj s' hI=>?_) (xs.length+1) ⟨0,p1,loc,H,rfl,Nat.zero_le _,I2,Pk,.refl,sp,Nw,hL⟩;obtain ⟨k,p',fm,H',rfl,hk,I',T',IS,Ds,IQ,Ha⟩:=hI
 by_cases om:k<xs.length
 ·have mI:xs.drop k=xs[k]::xs.drop (k+1):=List.drop_eq_getElem_cons om;rw[mI] at Ha;refine aj (step _ _ _ _ Ha) λhc ht=>?_;refine wpAny_mono (W.item k κ.B H' p' s' _ _ xs[k] (List.getElem?_eq_getElem om) IQ I'.hi IS hc λv h4 IT rel IU k4 t4=>?_) (λr s1 hr=>by induction r with|none=>exact hr.elim|some v=>exact hr) λw w x=>x;have Qx:=W.ex _ _ IU;refine fK (mV (F:=κ.B.fr) sc Ds I' k4 Qx t4) λI4 Qz Qy=>?_;have T4:=T'.more Qy ⟨_,_,rfl⟩ t4 old;refine px C I4 rel ((aP.mp ht).mono λq hq=>λp5 s5 I5 T5=>?_);refine aj (dD sc Qz T5) λQA k5=>?_;have UN:=vB k5 IS I4.hi.fz I5.hi.fz T5.st.le IU;have UO:=T4.trans T5;have QJ:=IS.trans T5.st.le;refine wpAny_mono ((cF C n).2 body q.1 q.2 p5 s5 I5 _ E hE (hq.mono λo ho=>?_)) (λw w q=>q) hE;intro p6 s6 I6 T6;have Dt:=UO.trans T6;refine aj (dD sc QA T6) λMu k6=>?_;have Nu:=vB k6 QJ I5.hi.fz I6.hi.fz T6.st.le UN;obtain ⟨fl,l3,H3⟩:=o;refine aG ho λl sub ho=>?_;have I6:=I6.less sub;induction fl using Fl.casesOn with|next=>exact ⟨xs.length+1 - (k+1),by lia,k+1,p6,l,H3,rfl,om,I6,Dt,QJ.trans T6.st.le,Mu,Nu,ho⟩|cont=>exact ⟨xs.length+1 - (k+1),by lia,k+1,p6,l,H3,rfl,om,I6,Dt,QJ.trans T6.st.le,Mu,Nu,ho⟩|brk=>exact ho p6 s6 I6 Dt|ret v=>exact ho p6 s6 I6 Dt|exc m=>exact ho p6 s6 I6 Dt
 ·have QD:k=xs.length:=Nat.le_antisymm hk (Nat.not_lt.mp om);subst QD;rw[List.drop_length] at Ha;refine aj (base _ _ Ha) λhc hf=>?_;refine W.done κ.B H' p' s' _ _ IQ I'.hi IS hc λh4 IT k4 t4=>?_;have I4:=kT sc Ds I' k4 t4;refine rh T'.eq λh1 t1 e1=>?_;refine hf p' {s' with heap:=h4,toks:=IT} I4 ⟨⟨h4,IT,by rw[e1]⟩,Nat.le_trans T'.le t4,λb o e n m f=>k4 b o (old b o e) (T'.st.keep b o e n m f),λb o e n m=>let ⟨sl,z⟩:=T'.st.slot b o e n m;⟨sl,k4 b _ (old b o e) z⟩,
   λb o e=>let ⟨o',z⟩:=T'.st.live b o e;⟨o',k4 b o' (old b o e) z⟩,T'.st.le,T'.st.gD,T'.st.ie⟩
end
section
variable {g:G} {κ:Cx} {A:Around} {Γ:Ctx} {loc:Loc} {H:Hp} {p:Pt} {s:Shared} {n:Nat} {tgt:Expr}
theorem Wk.ofT {Pv:Nat→Array Value→Prop} {UP:Nat→Addr→Heap→Prop} (W:WalksT g.prog g.w A I fp wr xs.length Pv St UP) (ht:isTup tgt=true) (rel:∀i vals y,Pv i vals→xs[i]?=some y→∃ys,y=.tup ys∧aT g.w p₁.P p₁.ι vals.toList ys) (ex:∀i h,St i h→∀b∈wr,∃o,h.get? b=some o):Wk g A I tgt fp wr p₁ xs (λx=>True) St where
 ex:=ex
 sub:=W.sub
 frame:=W.frame
 item:=λi B H p s Q E y hy st x le x hQ=>by
  have hi:i<xs.length:=by refine bZ (List.getElem?_eq_some_iff.mp hy) λh x=>?_;exact h
  refine wpAny_with_toks (Nat.le_refl s.toks) (W.item i s _ _ hi st λT vals h' tk hP x hT hm hk Pl=>?_);refine aG (rel i vals y hP hy) λys eq1 r=>?_;subst eq1;induction tgt using Expr.casesOn with|Tuple elts k pos=>refine W.go elts k pos i T {s with heap:=h',toks:=tk} _ _ hm λh2 Nw Pm=>hQ (.ref T) h2 tk (.inr ⟨rfl,T,vals,ys,rfl,rfl,?_,r.eS le.1 le.2⟩) Nw (λb o hb e=>Pm b o hb (hk b o hb e)) Pl;refine aG hT λo e z=>?_;exact ⟨o,Pm T o (W.apart _ _ _ hm) e,z⟩|_=>exact fT ht
 done:=λB H p s Q E st x x x hQ=>wpAny_with_toks (Nat.le_refl s.toks) (W.done s _ _ st λh' tk hk ht=>hQ h' tk hk ht)
 self:=W.self
noncomputable def pB:Nat→List PV→List PV|_,[]=>[]|k,x::r=>.tup [.int k,x]::pB (k+1) r
theorem vE:∀(xs:List PV) (k i:Nat),(pB k xs)[i]?=(xs[i]?).map λx=>.tup [.int ((k+i:Nat):Int),x]|[],_,i=>by induction i using Nat.casesOn <;> rfl|x::r,k,0=>rfl|x::r,k,i+1=>by have:=vE r (k+1) i;rw[show k+1+i=k+(i+1) by lia] at this;exact this
theorem vF (xs:List PV) (k:Nat):(pB k xs).length=xs.length:=by induction xs generalizing k with|nil=>rfl|cons x r ih=>exact congrArg (·+1) (ih (k+1))
theorem Hd (hh:A.handled=Option.none) (ht:isTup tgt=true) {u:Value} (cV:Inv κ loc H p s) (ru:RV κ p u (.lst xs))   (hQ:∀ag u',iZ κ A loc H tgt p s ag u' (pB 0 xs) (λz=>True)→Q u' ag):wpAny κ.M A (call (.type "enumerate") [u]) Q E s:=by
 refine kq ru.lst_inv λa vs n ae ea za ra=>?_;subst ae;have hl:=bh cV.hi.fz ea;have om:a<s.heap.objs.size:=Heap.lt_size (cV.hi.fz _ _ ea);refine call_enumerate_list hl λh' he hit hz hk=>hQ _ _ λQ2 E2 QK=>wpAny_pyIter_enum (it:=s.heap.objs.size) (i:=0) he ?_;have n1:s.heap.get? (s.heap.objs.size+1)=Option.none:=by induction q:s.heap.get? (s.heap.objs.size+1) with|none=>rfl|some o=>exact absurd (Heap.lt_size q) (Nat.not_lt.mpr (Nat.le_succ _))
 have W:=WalksT.enumerate (prog:=κ.g.prog) (w:=κ.g.w) hh (s.heap.objs.size+1) s.heap.objs.size a (Nat.succ_ne_self _) (Nat.ne_of_lt (Nat.lt_succ_of_lt om)) (Nat.ne_of_lt om) vs.toArray;have hsz:vs.toArray.size=(pB 0 xs).length:=by rw[List.size_toArray,ra.length,vF]
 rw[hsz] at W;refine aj (cV.keep (tk:=s.toks) (h':=h') (λb o e=>hk b o e) (Nat.le_refl _)) λI1 T1=>?_;refine QK _ _ _ _ _ (Wk.ofT (p₁:=p) W ht (λi vals y hv hx=>?_) λi h st b hb=>?_) ⟨⟨_,he⟩,hit,hl.at λo e=>hk _ o e⟩ I1 T1 (λb o e=>hk b o e) (λb hb=>?_) λb hb=>?_
 ·refine gU hv λt x Ni eq3=>?_;subst eq3;rw[List.getElem?_toArray] at Ni;rw[vE] at hx;refine mS hx λy' hy e=>?_;subst e;refine aG (ra.get hy) λv' e r=>?_;rw[e] at Ni;obtain rfl:=Option.some.inj Ni;rw[Nat.zero_add];exact ⟨_,rfl,.cons (.int _ _) (.one r)⟩
 ·refine fK st λae bX z=>?_;refine bZ ae λold h1=>?_;refine aG bX λo2 h2 z=>?_;rcases List.mem_cons.mp hb with rfl | hb
  ·exact ⟨_,h1⟩
  ·rw[List.mem_singleton.mp hb];exact ⟨_,h2⟩
 ·rcases List.mem_cons.mp hb with rfl | hb
  ·exact n1
  ·rw[List.mem_singleton.mp hb];exact bA _
 ·refine aG (id hit) λo2 h2 z=>?_;rcases List.mem_cons.mp hb with rfl | hb
  ·exact ⟨.inl (by simp),_,he⟩
  ·rcases List.mem_cons.mp hb with rfl | hb
   ·exact ⟨.inl (by simp),_,h2⟩
   ·have:=List.mem_singleton.mp hb;subst this;exact ⟨.inr ⟨_,ea⟩,_,hk _ _ (cV.hi.fz _ _ ea)⟩
noncomputable def Dw (l:Int):Obj:={cls:=.type "range_iterator",dict:=Option.none,data:=.fields #[rawInt 0,rawInt l,rawInt 1],slots:=#[]}
theorem Dx (hh:A.handled=Option.none) {u:Value} (hm:m≤1000) (cV:Inv κ loc H p s) (ru:RV κ p u (.int m))   (hQ:∀ag u',iZ κ A loc H tgt p s ag u' ((List.range m).map λi=>.int (i:Nat)) (λz=>True)→Q u' ag):wpAny κ.M A (call (.type "range") [u]) Q E s:=by
 obtain ⟨t,rfl⟩:=ru.int_inv;refine call_range_1 (hQ _ _ λQ2 E2 QK=>?_);have VC:(m:Int)≤1000:=by exact_mod_cast hm
 have hsz:Builtin.Range.rangeSize 0 (m:Int) 1=m:=by
  rw[rangeSize_one]
  split <;> lia
 have Kn:Builtin.Range.small 0 (m:Int) 1=true:=by unfold Builtin.Range.small Builtin.Range.rangeFitsLong;rw[hsz];simp only[Bool.and_eq_true,decide_eq_true_eq,Bool.or_eq_true];refine ⟨⟨⟨⟨by decide,?_⟩,by decide⟩,?_⟩,.inr ?_⟩ <;> (try rw[if_pos (by decide)]) <;> (try simp) <;> lia
 refine wpAny_pyIter_range (IsRange.new s.heap 0 m 1 _ _ _) Kn ?_;have hl:((List.range m).map λi=>PV.int (i:Nat)).length=m:=by simp
 have W:=Walks.range (prog:=κ.g.prog) (w:=κ.g.w) hh (s.heap.push {cls:=.type "range",data:=.fields #[.int 0 s.toks,.int m t,.int 1 (s.toks+1)]}).objs.size 0 1 ((List.range m).map λi=>PV.int (i:Nat)).length;have k1:s.heap.StaysIn ((s.heap.push {cls:=.type "range",data:=.fields #[.int 0 s.toks,.int m t,.int 1 (s.toks+1)]}).push (Dw (Builtin.Range.rangeSize 0 (m:Int) 1))):=λb o e=>az _ _ b o (az _ _ b o e);obtain ⟨I1,T1⟩:=cV.keep (tk:=s.toks+1+1) k1 (by lia);have it:((s.heap.push {cls:=.type "range",data:=.fields #[.int 0 s.toks,.int m t,.int 1 (s.toks+1)]}).push (Dw (Builtin.Range.rangeSize 0 (m:Int) 1))).get? (s.heap.push {cls:=.type "range",data:=.fields #[.int 0 s.toks,.int m t,.int 1 (s.toks+1)]}).objs.size=some (Dw (Builtin.Range.rangeSize 0 (m:Int) 1)):=Heap.get?_push_size _ rfl;refine QK _ _ _ _ _ (Wk.of W (λi v y hv hx=>?_) (λi v s Q E st h=>gH st rfl (by decide) h) λi h st b hb=>⟨_,List.mem_singleton.mp hb▸st⟩) ?_ I1 T1 k1 (λb hb=>?_) λb hb=>?_
 ·obtain ⟨t,rfl⟩:=hv;have:y=.int (i:Nat):=by
   rw[List.getElem?_map] at hx
   by_cases hi:i<m
   ·rw[List.getElem?_range hi] at hx;obtain rfl:=Option.some.inj hx;rfl
   ·rw[List.getElem?_eq_none (by simpa using hi)] at hx;exact nS hx
  subst this
  have e:(0+(i:Int)*1)=(i:Int):=by lia
  rw[e]
  exact .int _ _
 ·rw[hsz,hl] at *;show IsRangeIter _ _ (0+((0:Nat):Int)*1) ((m:Int) - ((0:Nat):Int)) 1;have e1:(0+((0:Nat):Int)*1)=0:=by lia
  have e2:((m:Int) - ((0:Nat):Int))=m:=by lia
  rw[e1,e2]
  exact it
 ·rw[List.mem_singleton.mp hb,Heap.size_push];induction q:s.heap.get? (s.heap.objs.size+1) with|none=>rfl|some o=>exact absurd (Heap.lt_size q) (Nat.not_lt.mpr (Nat.le_succ _))
 ·have:=List.mem_singleton.mp hb;subst this;exact ⟨.inl hb,_,it⟩
end
section
variable {κ:Cx} {A:Around} {loc:Loc} {H:Hp} {p cJ:Pt} {s cT:Shared} {E:Value→Shared→Prop} {D L:Addr} {o:Obj} {v:PV}
theorem pC (sc:fY κ [D]) (sp:dC p s.heap [D]) (I:Inv κ loc H p s) {tk:Nat} (sb:Heap.SameBut D s.heap h') (ht:s.toks≤tk):Inv κ loc H p {s with heap:=h',toks:=tk}:=kT sc sp I (λb o n e=>(sb.2 b (λz=>n (by rw[z];exact List.mem_singleton.mpr rfl))).trans e) ht
theorem freeze (T:To κ cJ cT p s) (I:Inv κ loc H p s) (sc:fY κ [D]) (sp:dC p s.heap [D]) (n0:cT.heap.get? D=Option.none) (ho:s.heap.get? D=some o):Inv κ loc H ⟨p.ι,p.P.put D o⟩ s∧To κ cJ cT ⟨p.ι,p.P.put D o⟩ s:=by
 refine fK (sc D (List.mem_singleton.mpr rfl)) λc1 c2 c3=>?_;refine fK (sp D (List.mem_singleton.mpr rfl)) λq1 q2 y=>?_;have le:∀b q,p.P b=some q→p.P.put D o b=some q:=λb q e=>by
  unfold Fz.put;split
  ·rename_i z;rw[z,q2] at e;exact nS e
  ·exact e
 have back:∀b q,p.P.put D o b=some q→p.P b=some q∨(b=D∧q=o):=λb q e=>by
  unfold Fz.put at e;split at e
  ·rename_i z;obtain rfl:=Option.some.inj e;exact .inr ⟨z,rfl⟩
  ·exact .inl e
 have off:∀b,b≠D→p.P b=Option.none→p.P.put D o b=Option.none:=λb n e=>(if_neg n).trans e;have Y:=I.hi;refine ⟨⟨⟨Y.ok,Y.st,λb q e=>(back b q e).elim (Y.fz b q) λ⟨z1,z2⟩=>z1▸z2▸ho,λk x e=>?_,Y.xf,λb z=>?_,Y.inj,λL hL=>?_⟩,⟨I.ei.ns,I.ei.cells,I.ei.has,λx u e=>?_,λa q=>?_,I.ei.apart,I.ei.off⟩⟩,⟨T.eq,T.le,T.st.keep,T.st.slot,T.st.live,⟨λb q e=>le b q (T.st.le.1 b q e),T.st.le.2⟩,λb q e=>(back b q e).elim (T.st.gD b q) λ⟨z,_⟩=>.inr (z▸n0),T.st.ie⟩⟩
 ·refine gU (Y.objs k x e) λa d i sh=>?_;exact ⟨a,d,i,sh.on (λy q=>q) (λy q=>q) le λy y q=>q⟩
 ·refine fK (Y.new b z) λz1 z2 z3=>?_;exact ⟨z1,off b (λn=>q1 (n▸z)) z2,z3⟩
 ·refine fK (Y.fr L hL) λz1 z2 z3=>?_;exact ⟨z1,off L (λn=>c2 (n▸hL)) z2,z3⟩
 ·refine aG (I.ei.vars x u e) λw r V=>?_;exact ⟨w,Rv.mono le r,V⟩
 ·refine fK (I.ei.lP a q) λz1 z2 z3=>?_;exact ⟨z1,off a (λn=>c1 (n▸q)) z2,z3⟩
theorem rM (I:Inv κ loc H p s) (T:To κ cJ cT p s) (sc:fY κ [L]) (sp:dC p s.heap [L]) (nL:cT.heap.get? L=Option.none) (sb:Heap.SameBut L s.heap h'):Inv κ loc H p {s with heap:=h'}∧To κ cJ cT p {s with heap:=h'}:=by
 refine ⟨pC sc sp I sb (Nat.le_refl _),?_⟩;have nb:∀b o,cT.heap.get? b=some o→b≠L:=λb o e z=>by rw[z,nL] at e;exact nS e
 refine rh T.eq λh1 t1 e1=>?_;exact ⟨⟨h',t1,by rw[e1]⟩,T.le,λb o e n m f=>(sb.2 b (nb b o e)).trans (T.st.keep b o e n m f),λb o e n m=>let ⟨sl,z⟩:=T.st.slot b o e n m;⟨sl,(sb.2 b (nb b o e)).trans z⟩,λb o e=>let ⟨o',z⟩:=T.st.live b o e;⟨o',(sb.2 b (nb b o e)).trans z⟩,T.st.le,T.st.gD,T.st.ie⟩
structure Bg (κ:Cx) (loc:Loc) (H:Hp) (cJ:Pt) (cT:Shared) (p:Pt) (s:Shared) (L D:Addr) (o:Obj):Prop where
 I:Inv κ loc H p s
 T:To κ cJ cT p s
 ho:s.heap.get? D=some o
 sc:fY κ [L,D]
 sp:dC p s.heap [L,D]
 ne:D≠L
 hD:cT.heap.get? D=Option.none
 hL:cT.heap.get? L=Option.none
 ns:∃m,s.heap.Ns L m
theorem Bg.val (X:Bg κ loc H cJ cT p s L D o) (r:Rv κ.g.w (p.P.put D o) p.ι (.ref D) v) (hQ:∀p' s' u,Inv κ loc H p' s'→To κ cJ cT p' s'→RV κ p' u v→Q u s'):compPost κ.M A E Option.none Q (.ref D) L (.ok .next) s:=by
 refine bZ X.ns λm hm=>?_;have c:∀{b},b∈[L]→b∈[L,D]:=λh=>by rw[List.mem_singleton.mp h];exact List.mem_cons_self
 have d:∀{b},b∈[D]→b∈[L,D]:=λh=>by rw[List.mem_singleton.mp h];exact List.mem_cons_of_mem _ (List.mem_singleton.mpr rfl)
 refine ⟨m,hm,λh' sb=>?_⟩;refine aj (rM X.I X.T (λb h=>X.sc b (c h)) (λb h=>X.sp b (c h)) X.hL sb) λI1 T1=>?_;have ho:h'.get? D=some o:=(sb.2 D X.ne).trans X.ho;refine aj (freeze T1 I1 (λb h=>X.sc b (d h)) (λb h=>⟨(X.sp b (d h)).1,(X.sp b (d h)).2.1,o,by rw[List.mem_singleton.mp h];exact ho⟩) X.hD ho) λI2 T2=>?_;exact hQ _ _ _ I2 T2 r
theorem Bg.use (X:Bg κ loc H cJ cT p s L D o) (r:Rv κ.g.w (p.P.put D o) p.ι (.ref D) v) (hk:κ.env.scope.kind=.function) {x:Str} {q:Pos} (hx:κ.env.kindOf x=some .local∨(κ.env.kindOf x=some .cell∧κ.W x=true)) {Q:Flow→Shared→Prop} (hQ:∀p' s',Inv κ (cM x v loc) H p' s'→To κ cJ cT p' s'→Q .next s'):compPost κ.M A E (some (assign (.Name x q) κ.env)) (λy s'=>Q .next s') (.ref D) L (.ok .next) s:=by
 refine PO X.ns λm o2 es ep e1 e2=>?_;have c:∀{b},b∈[L]→b∈[L,D]:=λh=>by rw[List.mem_singleton.mp h];exact List.mem_cons_self
 have d:∀{b},b∈[D]→b∈[L,D]:=λh=>by rw[List.mem_singleton.mp h];exact List.mem_cons_of_mem _ (List.mem_singleton.mpr rfl)
 refine aj (freeze X.T X.I (λb h=>X.sc b (d h)) (λb h=>X.sp b (d h)) X.hD X.ho) λI1 T1=>?_;show wpAny κ.M A (assign (.Name x q) κ.env (.ref D)) _ E s;refine PyProof.Rows.assign_Name (bO hk hx I1 r λs2 I2 T2=>?_);have QL:dC ⟨p.ι,p.P.put D o⟩ s.heap [L]:=λb h=>⟨(X.sp b (c h)).1,(if_neg (λ(z:b=D)=>X.ne (z.symm.trans (List.mem_singleton.mp h)))).trans (X.sp b (c h)).2.1,(X.sp b (c h)).2.2⟩;refine aj (dD (λb h=>X.sc b (c h)) QL T2) λQM k2=>?_;refine ⟨m,⟨o2,es,ep,k2 L (List.mem_singleton.mpr rfl) _ e1,e2⟩,λh' sb=>?_⟩;refine aj (rM I2 (T1.trans T2) (λb h=>X.sc b (c h)) QM X.hL sb) λI3 T3=>?_;exact hQ _ _ I3 T3
def di (κ:Cx) (A:Around) (t:fM):Prop:=∀loc H gd v,t.f loc H=some (gd,v)→AllP gd→fU κ A loc H (eval t.e κ.env) v
noncomputable def aN (Γ:Ctx) (scope:Scope) (cs:List ((Nat×Nat×Nat)×fM)):Ctx:={Γ with scope:=l5 scope Γ.scope,w:=jq scope.names,comps:=cs}
noncomputable def aC (Γ:Ctx):aA:=⟨Γ,λz z=>false,λz z z=>.fail,[],λz=>false,λz=>Option.none,false⟩
theorem fy (C:af κ A Γ) {scope:Scope} {L:Addr} (hk:scope.kind=.function) {cs:List ((Nat×Nat×Nat)×fM)} (J2:∀p t,cb p cs=some t→di (oy κ scope L) A t):af (oy κ scope L) A (aN Γ scope cs) where
 scope:=by show l5 scope κ.env.scope=l5 scope Γ.scope;rw[C.scope]
 w:=rfl
 kind:=hk
 globals:=C.globals
 builtins:=C.builtins
 hd:=C.hd
 un:=C.un
 glob:=C.glob
 blt:=C.blt
 attr:=C.attr
 fns:=C.fns
 comps:=J2
theorem bu (C:af κ A Γ) (u:∀p t,cb p Γ.comps=some t→iq κ A t):cE κ A X (aC Γ) where
 c:=C
 set:=λz z h=>nomatch h
 km:=λz z z z z z z z z h=>h.elim
 ve:=λz z z h=>(h rfl).elim
 loops:=λz z h=>nomatch h
 uses:=λp t h z=>u p t h
 raises:=λh=>nomatch h
theorem Bh (C:af κ A Γ) (u:∀p t,cb p Γ.comps=some t→GH t.e=false):cE κ A X (aC Γ) where
 c:=C
 set:=λz z h=>nomatch h
 km:=λz z z z z z z z z h=>h.elim
 ve:=λz z z h=>(h rfl).elim
 loops:=λz z h=>nomatch h
 uses:=λp t h q=>by have:=u p t h;rw[q] at this;exact tF this
 raises:=λh=>nomatch h
structure LC where
 elt:Expr
 tgt:Expr
 iter:Expr
 ifs:List Expr
 scope:Scope
 pos:Pos
 n:Nat
noncomputable def LC.e (c:LC):Expr:=.ListComp c.elt [⟨c.tgt,c.iter,c.ifs,0⟩] c.scope c.pos
noncomputable def QN (Γ:aA) (n:Nat) (elt:Expr) (loc:Loc) (H:Hp) (acc:List PV):Tr (Hp×List PV):=(GG Γ loc H n elt).bind λr=>match r with
 | .ok v H'=>.need [fits (acc.length+1)=true] (.leaf (H',acc++[v]))
 | .exc _ _=>.fail
noncomputable def LC.turn (c:LC) (Γ':aA) (loc:Loc) (y:PV) (acc:List PV) (H:Hp):Tr (Loc×Hp×List PV):=zm Γ' c.tgt c.ifs c.n (QN Γ' c.n c.elt) y acc (cP c.scope.names loc) H
def Mw (w:World) (p:Pt) (o:Obj) (acc:List PV):Prop:=∃vs n,o=jX vs n∧acc.length≤sizeLine∧aT w p.P p.ι vs acc
theorem Mw.mono {w:World} (p p':Pt) (o:Obj) (a:List PV) (l:p.Le p'):Mw w p o a→Mw w p' o a:=λ⟨vs,n,e,z,r⟩=>⟨vs,n,e,z,r.eS l.1 l.2⟩
theorem Ko {Γ:aA} (C:cE κ A ba Γ) {elt:Expr}:tc κ A (Mw κ.g.w) (QN Γ n elt) D (do let _←call (.builtin "list.append") [.ref D,←eval elt κ.env]):=λloc H acc p s o I sc sp ho z Q E h=>by refine cY z λvs m e hz rs=>?_;subst e;refine wpAny_bind (rH C (n:=n) I ((aP.mp h).mono λr hr=>?_));induction r using RE.casesOn with|exc m H'=>exact hr.elim|ok v H'=>intro p1 s1 u I1 T1 ru;refine aj (dD sc sp T1) λQL k1=>?_;have UQ:=k1 D (List.mem_singleton.mpr rfl) _ ho;have zz:=cL hr.1.1;have la:=rs.length;refine wpAny_bind (append_at UQ (λh' sb e=>wpAny_pure ?_) (by rw[List.size_toArray,la];exact hz));rw[List.push_toArray] at e;exact hr.2 p1 s1 {s1 with heap:=h'} _ T1 I1 (pC sc QL I1 sb (Nat.le_refl _)) sb ⟨_,_,rfl⟩ (Nat.le_refl _) e ⟨_,_,rfl,by rw[List.length_append];exact zz,(T1.AJ rs).append (.one ru)⟩
noncomputable def IV:ScopeKind→Bool|.function=>true|_=>false
noncomputable def LC.ok (c:LC) (Γ:Ctx):Bool:=IV c.scope.kind&&xT Γ.scope c.scope.names c.scope.names
end
section
variable {κ:Cx} {A:Around} {loc:Loc} {H:Hp} {p:Pt} {s:Shared} {E:Value→Shared→Prop} {c:LC} {Γ':aA} {xs:List PV} {Hc:Hp→Prop}
theorem Dy (hs:vy κ.env.scope c.scope) (Bb:κ.env.scope.kind=.function) (eC:∀v,foldedSetIterable c.iter κ.env v=pure v) (C:∀L,cE (oy κ c.scope L) A ba Γ') (l9:dP c.scope.names loc=true) (cV:Inv κ loc H p s) (hit:g5 κ A loc H c.tgt c.iter xs Hc) (Lp:List PV→List PV→Hp→Prop) (Fin:List PV→Hp→Prop) (step:∀y r acc H,Lp (y::r) acc H→Hc H∧(c.turn Γ' loc y acc H).Sat (λo=>Lp r o.2.2 o.2.1)) (base:∀acc H,Lp [] acc H→Hc H∧Fin acc H) (hL:Lp xs [] H) {use:Option (Value→Sem Unit)} (hQ:∀p' s' D L o acc H',Fin acc H'→Bg κ loc H' p s p' s' L D o→Rv κ.g.w (p'.P.put D o) p'.ι (.ref D) (.lst acc)→compPost κ.M A E use Q (.ref D) L (.ok .next) s') : wpAny κ.M A (comprehension c.e c.scope κ.env pos (newList []) false (eval c.iter κ.env) use) Q E s:=by
 refine vC (At:=Mw κ.g.w) Mw.mono (emT:=QN Γ' c.n c.elt) (o₀:=jX [] 0) (acc₀:=[]) (emit:=λD env=>do let _←call (.builtin "list.append") [.ref D,←eval c.elt env]) rfl eC hs Bb l9 C (λL D=>Ko (C L)) rfl (λp=>⟨[],0,rfl,Nat.zero_le _,.nil⟩)
  (λs Q E h=>wpAny_newObj_type h (Nat.zero_le _)) (λI D env=>rfl) (λx x x=>rfl) (λx x x=>rfl) codeAny_compStart_list Lp Fin step base cV hit hL λp' s' D L o acc H' m hf I T ho ha sc sp ne hD QO hm=>?_
 refine cY ha λvs n eq2 hz rs=>?_;subst eq2;refine hQ p' s' D L _ acc H' hf ⟨I,T,ho,sc,sp,ne.1,hD,QO,m,hm⟩ (.lst dH hz (aT.mono (λb q e=>?_) rs));unfold Fz.put;split
 ·rename_i z;have:=(sp D (List.mem_cons_of_mem _ (List.mem_singleton.mpr rfl))).2.1;rw[z,this] at e;exact nS e
 ·exact e
theorem Dz (hs:vy κ.env.scope c.scope) (Bb:κ.env.scope.kind=.function) (eC:∀v,foldedSetIterable c.iter κ.env v=pure v) (C:∀L,cE (oy κ c.scope L) A ba Γ') (l9:dP c.scope.names loc=true) (cV:Inv κ loc H p s) (hit:g5 κ A loc H c.tgt c.iter xs Hc) (Lp:List PV→List PV→Hp→Prop) (Fin:List PV→Hp→Prop) (step:∀y r acc H,Lp (y::r) acc H→Hc H∧(c.turn Γ' loc y acc H).Sat (λo=>Lp r o.2.2 o.2.1)) (base:∀acc H,Lp [] acc H→Hc H∧Fin acc H) (hL:Lp xs [] H) (hQ:∀acc H' p' s' u,Fin acc H'→Inv κ loc H' p' s'→To κ p s p' s'→RV κ p' u (.lst acc)→Q u s'):wpAny κ.M A (eval c.e κ.env) Q E s:=by unfold LC.e;rw[eval_ListComp];exact Dy hs Bb eC C l9 cV hit Lp Fin step base hL λp' s' D L o acc H' hf X r=>X.val r λp2 s2 u I2 T2 ru=>hQ _ _ _ _ _ hf I2 T2 ru
theorem DA (hs:vy κ.env.scope c.scope) (Bb:κ.env.scope.kind=.function) (eC:∀v,foldedSetIterable c.iter κ.env v=pure v) (C:∀L,cE (oy κ c.scope L) A ba Γ') (l9:dP c.scope.names loc=true) (cV:Inv κ loc H p s) (hit:g5 κ A loc H c.tgt c.iter xs Hc) (Lp:List PV→List PV→Hp→Prop) (Fin:List PV→Hp→Prop) (step:∀y r acc H,Lp (y::r) acc H→Hc H∧(c.turn Γ' loc y acc H).Sat (λo=>Lp r o.2.2 o.2.1)) (base:∀acc H,Lp [] acc H→Hc H∧Fin acc H) (hL:Lp xs [] H) {x:Str} {q:Pos} (hx:κ.env.kindOf x=some .local∨(κ.env.kindOf x=some .cell∧κ.W x=true)) {Q:Flow→Shared→Prop} (hQ:∀acc H' p' s',Fin acc H'→Inv κ (cM x (.lst acc) loc) H' p' s'→To κ p s p' s'→Q .next s'):wpAny κ.M A (exec (.Assign [.Name x q] c.e pos) κ.env) Q E s:=by have sw:∃b,swapsWith c.e (some (.Name x q)) pos.line κ.env=pure b:=⟨_,rfl⟩;refine bZ sw λb sw=>?_;induction b with|false=>exact wpAny_Assign_Name (Dz hs Bb eC C l9 cV hit Lp Fin step base hL λacc H' p1 s1 u hf I1 T1 ru=>bO Bb hx I1 ru λs2 I2 T2=>hQ _ _ _ _ hf I2 (T1.trans T2)) sw|true=>rw[exec_Assign_Name_used _ _ _ _ sw];refine wpAny_bind (wpAny_standAt (wpAny_bind ?_));show wpAny _ A (do let _←comprehension c.e c.scope κ.env (firstIterPos [⟨c.tgt,c.iter,c.ifs,0⟩] c.pos) (newList []) false (eval c.iter κ.env) (some (assign (.Name x q) κ.env))) _ _ s;exact wpAny_bind (wpAny_mono (Dy (Q:=λz s'=>Q .next s') hs Bb eC C l9 cV hit Lp Fin step base hL λp' s' D L o acc H' hf X r=>X.use r Bb hx λp2 s2 I2 T2=>hQ _ _ _ _ hf I2 T2) (λz s' hq=>wpAny_pure (wpAny_pure hq)) λz z e=>e)
end
theorem Ny {R:Option α→Prop} {o:Option α} (h:o=Option.none→R Option.none) (h':∀a,o=some a→R (some a)):R o:=by induction o with|none=>exact h rfl|some a=>exact h' a rfl
noncomputable def DB (x_:PV):Option (List PV):=by induction x_ using PV.casesOn with|lst xs=>exact some xs|tup xs=>exact some xs|str k=>exact some (k.map λc=>.str [c])|_=>exact Option.none
noncomputable def itemsOf (H:Hp) (v:PV):Option (List PV):=(eA H v).elim (DB v) λi=>some i.2
noncomputable def isIt (x:Str):Bool:=seq x "range"||seq x "enumerate"
noncomputable def He (u:Value):Option String:=by induction u using Value.casesOn with|type a=>exact some a|_=>exact Option.none
noncomputable def PV.type? (v:PV):Option String:=by induction v using PV.casesOn with|glob u=>exact He u|_=>exact Option.none
theorem PV.DD {v:PV} (h:v.type?=some T):v=.glob (.type T):=by
 induction v using PV.casesOn with
 | glob u=>induction u using Value.casesOn with|type b=>exact congrArg _ (congrArg _ (Option.some.inj h))|_=>exact nS h
 | _=>exact nS h
noncomputable def SW (Γ:Ctx) (tgt:Expr) (x:Str) (v:PV):Option (List Prop×List PV):=(Γ.glob x).bind λt=>t.type?.bind λT=>
 bif seq x "range" then v.int?.map λm=>([T="range",(decide (0≤m)&&decide (m≤1000))=true],(List.range m.toNat).map λi=>.int (i:Nat))
 else bif isTup tgt then v.sv.map λxs=>([T="enumerate"],pB 0 xs) else Option.none
noncomputable def DE (Γ:Ctx) (loc:Loc) (H:Hp) (n:Nat) (e:Expr):Option (List Prop×List PV):=(dU Γ loc H n e).bind λa=>(itemsOf H a.2).map λxs=>(a.1,xs)
noncomputable def SX (x_:Expr):Option (Str×Pos):=by induction x_ using Expr.casesOn with|Name x p=>exact some (x,p)|_=>exact Option.none
noncomputable def IW:List Expr→List Keyword→Option Expr|[a],[]=>some a|_,_=>Option.none
noncomputable def DF (x_:Expr):Option (Str×Expr):=by induction x_ using Expr.casesOn with|Call f as ks _=>exact (IW as ks).bind λa=>(SX f).map λx=>(x.1,a)|_=>exact Option.none
theorem Kp {e:Expr} {x:Str×Pos} (h:SX e=some x):e=.Name x.1 x.2:=by induction e using Expr.casesOn with|Name y p=>exact au (R:=λx=>Expr.Name y p=.Name x.1 x.2) h rfl|_=>exact nS h
theorem DG {as:List Expr} {ks:List Keyword} {a:Expr} (h:IW as ks=some a):as=[a]∧ks=[]:=by induction as using List.casesOn with|nil=>exact nS h|cons b r=>induction r using List.casesOn with|cons c r=>exact nS h|nil=>induction ks using List.casesOn with|nil=>exact ⟨congrArg (λx=>[x]) (Option.some.inj h),rfl⟩|cons k ks=>exact nS h
theorem Bj {e:Expr} {x:Str} {a:Expr} (h:DF e=some (x,a)):∃xp pos,e=.Call (.Name x xp) [a] [] pos:=by induction e using Expr.casesOn with|Call f as ks pos=>exact bS h λb hb h=>mS h λy hy h=>aj (Prod.mk.inj h) λe1 e2=>aj (DG hb) λe3 e4=>⟨y.2,pos,by rw[Kp hy,e3,e4,e1,e2]⟩|_=>exact nS h
noncomputable def Hf (Γ:Ctx) (tgt:Expr) (loc:Loc) (H:Hp) (n:Nat) (e:Expr):Option (List Prop×List PV):=(DF e).elim (DE Γ loc H n e) λq=>bif isIt q.1 then (bif d7 Γ q.1&&noStar [q.2] then (dU Γ loc H n q.2).bind λv=>(SW Γ tgt q.1 v.2).map λr=>(v.1++r.1,r.2) else Option.none) else DE Γ loc H n e
section
variable {κ:Cx} {A:Around} {Γ:Ctx} {loc:Loc} {H:Hp} {p:Pt} {s:Shared} {E:Value→Shared→Prop} {n:Nat} {tgt e:Expr}
theorem i5 (C:af κ A Γ) {e:Expr} {v:PV} (h:dU Γ loc H n e=some (gd,v)) (hg:AllP gd):fU κ A loc H (eval e κ.env) v:=(cD C n).1 e gd v h hg
def vG (κ:Cx) (A:Around) (loc:Loc) (H:Hp) (tgt e:Expr) (xs:List PV):Prop:=∃Hc:Hp→Prop,Hc H∧g5 κ A loc H tgt e xs Hc
theorem DH (hh:A.handled=Option.none) {v:PV} (hv:fU κ A loc H (eval e κ.env) v) (h:itemsOf H v=some xs):vG κ A loc H tgt e xs:=by
 have go:∀{Hc:Hp→Prop},Hc H→(∀{p s u},Inv κ loc H p s→RV κ p u v→pq κ A loc H tgt p s u xs Hc)→vG κ A loc H tgt e xs:=λh0 hw=>⟨_,h0,λp s I Q E hQ=>hv p s I Q E λp' s' u I' T' ru=>hQ _ _ _ _ I' T' (hw I' ru)⟩;clear hv;revert h;refine Ny (R:=λo=>o.elim (DB v) (λi=>some i.2)=some xs→vG κ A loc H tgt e xs) (o:=eA H v) (λz h=>?_) λi q h=>?_
 ·induction v using PV.casesOn with
  | lst _=>obtain rfl:=Option.some.inj h;exact go trivial λI r=>pw hh I r
  | tup _=>obtain rfl:=Option.some.inj h;exact go trivial λI r=>xP hh I r
  | str _=>obtain rfl:=Option.some.inj h;exact go trivial λI r=>xQ hh I r
  | _=>exact nS h
 ·obtain rfl:=Option.some.inj h;exact go (dJ q).2 λI r=>xR hh I q r
theorem vH (C:af κ A Γ) (hh:A.handled=Option.none):GO (DE Γ loc H n e) (vG κ A loc H tgt e):=.bd λg1 v h1=>.map λxs hx hg=>DH hh (i5 C h1 hg) hx
def UR (κ:Cx) (A:Around) (loc:Loc) (H:Hp) (tgt:Expr) (x:Str) (v:PV) (ys:List PV):Prop:=∃T,b6 κ.g x (.type T)∧∀{p s w} {Q:Value→Shared→Prop} {E:Value→Shared→Prop},Inv κ loc H p s→RV κ p w v→(∀ag u',iZ κ A loc H tgt p s ag u' ys (λz=>True)→Q u' ag)→wpAny κ.M A (call (.type T) [w]) Q E s
theorem Kq (C:af κ A Γ) (hh:A.handled=Option.none) {x:Str} {v:PV}:GO (SW Γ tgt x v) (UR κ A loc H tgt x v):=
 .bs λt ht=>.bs λT hT=>have hG:b6 κ.g x (.type T):=aG (C.glob x t ht) λu e1 h=>uP (e1.symm.trans (PV.DD hT))▸h
  .cond (λz=>.map λm hm hg=>⟨T,hG,λI r hQ=>aj (Bool.and_eq_true_iff.mp hg.2.1) λb1 b2=>by have e:=hg.1;subst e;exact Dx hh (m:=m.toNat) (Int.toNat_le.mpr (of_decide_eq_true b2)) I (by rw[Int.toNat_of_nonneg (of_decide_eq_true b1)];exact PV.cy hm▸r) hQ⟩)
  λz=>.cond (λht=>.map λzs hz hg=>⟨T,hG,λI r hQ=>by have e:=hg.1;subst e;exact Hd hh ht I (PV.ku hz▸r) hQ⟩) λz=>.no rfl
theorem zo (C:af κ A Γ) (hh:A.handled=Option.none) {e:Expr} (h:Hf Γ tgt loc H n e=some (gd,xs)) (hg:AllP gd):∃Hc:Hp→Prop,Hc H∧g5 κ A loc H tgt e xs Hc:=(show GO (Hf Γ tgt loc H n e) (vG κ A loc H tgt e) from .Mp (λq hq=>.cond (λz=>.cond (λhc=>.bd λg1 v h1=>.mm λgd ys h2 mT lW=>rh (Bj hq) λxp pos eq=>aG (Kq C hh gd ys h2 mT) λT Qm hw=>⟨λz=>True,trivial,λp s I Q E hQ=>by subst eq;refine Call_ (cC C (aW C (Bool.and_eq_true_iff.mp hc).1).1 I.hi.gV Qm (aW C (Bool.and_eq_true_iff.mp hc).1).2 ?_);rw[bJ κ.env (Bool.and_eq_true_iff.mp hc).2,cW];refine dN ?_;show wpAny _ A (spliced [(false,eval q.2 κ.env)]) _ E s;exact spliced_cons (i5 C h1 lW p s I _ _ λp1 s1 w I1 T1 jo=>spliced_nil (hw I1 jo λag u' US=>hQ _ _ _ _ I1 T1 US))⟩) λz=>.no rfl) λz=>vH C hh) (vH C hh)) gd xs h hg
end
def LC.side (c:LC) (Γ':aA) (q:Loc→PV→Bool) (F:Loc→PV→PV) (loc:Loc) (H:Hp) (xs:List PV):Prop:=∀y∈xs,∀acc:List PV,acc.length<xs.length→(c.turn Γ' loc y acc H).Sat (λo=>o.2.1=H∧o.2.2=bif q loc y then acc++[F loc y] else acc)
noncomputable def LC.val (q:Loc→PV→Bool) (F:Loc→PV→PV) (loc:Loc) (xs:List PV):List PV:=(xs.filter (q loc)).map (F loc)
noncomputable def LC.f (c:LC) (Γ:Ctx) (Γ':aA) (q:Loc→PV→Bool) (F:Loc→PV→PV) (loc:Loc) (H:Hp):R1:=bif dP c.scope.names loc then (Hf Γ c.tgt loc H c.n c.iter).map λa=>(a.1++[c.side Γ' q F loc H a.2],.lst (LC.val q F loc a.2)) else Option.none
section
variable {κ:Cx} {A:Around} {Γ:Ctx} {loc:Loc} {H:Hp} {p:Pt} {s:Shared} {E:Value→Shared→Prop} {c:LC} {Γ':aA}
theorem LC.vI (C:af κ A Γ) (h:c.ok Γ=true):vy κ.env.scope c.scope:=by
 refine aj (Bool.and_eq_true_iff.mp h) λh1 h2=>?_;have hk:c.scope.kind=.function:=by induction q:c.scope.kind using ScopeKind.casesOn <;> rw[q] at h1 <;> first | rfl | exact fT h1
 rw[←C.scope] at h2;refine fK (zl h2) λi1 i2 i3=>?_;exact ⟨hk,i1,i2,i3⟩
theorem vJ {q:Loc→PV→Bool} {v:PV} (C:af κ A Γ) (hh:A.handled=Option.none) (h:c.f Γ Γ' q F loc H=some (gd,v)) (hg:AllP gd):∃(xs:List PV) (Hc:Hp→Prop) (Lp:List PV→List PV→Hp→Prop) (Fin:List PV→Hp→Prop),dP c.scope.names loc=true∧ g5 κ A loc H c.tgt c.iter xs Hc∧(∀y r acc H,Lp (y::r) acc H→Hc H∧(c.turn Γ' loc y acc H).Sat (λo=>Lp r o.2.2 o.2.1))∧(∀acc H,Lp [] acc H→Hc H∧Fin acc H)∧Lp xs [] H∧∀acc H',Fin acc H'→H'=H∧.lst acc=v:=by
 unfold LC.f at h;induction hc:dP c.scope.names loc with|false=>rw[hc] at h;exact nS h|true=>
 rw[hc,cond_true] at h;refine mP h λg1 xs h1 h=>?_;obtain ⟨rfl,rfl⟩:=Prod.mk.inj h;refine aj hg.append λlW mT=>?_;refine aG (zo (tgt:=c.tgt) C hh h1 lW) λHc hH hit=>?_;refine ⟨xs,Hc,λr acc H'=>H'=H∧∃d,xs=d++r∧acc=(d.filter (q loc)).map (F loc),λacc H'=>H'=H∧acc=(xs.filter (q loc)).map (F loc),rfl,hit,λy r acc H' h=>?_,λacc H' h=>?_,⟨rfl,[],rfl,rfl⟩,λacc H' h=>⟨h.1,congrArg _ h.2⟩⟩
 ·obtain ⟨rfl,d,ex,rfl⟩:=h;refine ⟨hH,(mT.1 y (by rw[ex];simp) _ ?_).mono λo ho=>⟨ho.1,d++[y],by rw[ex];simp,?_⟩⟩
  ·have:=List.length_filter_le (q loc) d;have e:xs.length=d.length+(r.length+1):=by rw[ex];simp
   rw[List.length_map]
   show _<xs.length
   lia
  ·rw[ho.2,List.filter_append];induction hq:q loc y <;> simp[hq]
 ·obtain ⟨rfl,d,ex,rfl⟩:=h;rw[List.append_nil] at ex;exact ⟨hH,rfl,by rw[ex]⟩
theorem DI {q:Loc→PV→Bool} (C:af κ A Γ) (hh:A.handled=Option.none) (Kr:c.ok Γ=true) (eC:∀v,foldedSetIterable c.iter κ.env v=pure v) (C':∀L,cE (oy κ c.scope L) A ba Γ'):di κ A ⟨c.e,c.f Γ Γ' q F⟩∧iq κ A ⟨c.e,c.f Γ Γ' q F⟩:=by
 refine ⟨λloc H gd v h hg p s I Q E hQ=>?_,λloc H gd v h hg p s I x qp pos hx Q E hQ=>?_⟩
 ·refine PQ (vJ C hh h hg) λxs Hc Lp Fin h1 h2 h3 h4 ae=>?_;refine aj ae λh5 h6=>?_;refine Dz (LC.vI C Kr) C.kind eC C' h1 I h2 Lp Fin h3 h4 h5 λacc H' p' s' u hf I' T' r=>?_;refine aj (h6 _ _ hf) λCE eq1=>?_;subst CE;subst eq1;exact hQ _ _ _ I' T' r
 ·refine PQ (vJ C hh h hg) λxs Hc Lp Fin h1 h2 h3 h4 ae=>?_;refine aj ae λh5 h6=>?_;refine DA (LC.vI C Kr) C.kind eC C' h1 I h2 Lp Fin h3 h4 h5 hx λacc H' p' s' hf I' T'=>?_;refine aj (h6 _ _ hf) λCE eq1=>?_;subst CE;subst eq1;exact hQ _ _ I' T'
structure DC where
 k:Expr
 v:Expr
 tgt:Expr
 iter:Expr
 ifs:List Expr
 scope:Scope
 pos:Pos
 n:Nat
end
noncomputable def DC.e (c:DC):Expr:=.DictComp c.k c.v [⟨c.tgt,c.iter,c.ifs,0⟩] c.scope c.pos
abbrev KV:=List (List Nat×List Nat)
noncomputable def QP (Γ:aA) (n:Nat) (k v:Expr) (loc:Loc) (H:Hp) (acc:KV):Tr (Hp×KV):=(iW (dU Γ.c loc H n k)).bind λa=>(iW (dU Γ.c loc H n v)).bind λb=>iN (λa=>iN (λb=>.need [fits (acc.length+1)=true] (.leaf (H,jG a b acc))) b.d3) a.d3
noncomputable def DC.turn (c:DC) (Γ':aA) (loc:Loc) (y:PV) (acc:KV) (H:Hp):Tr (Loc×Hp×KV):=zm Γ' c.tgt c.ifs c.n (QP Γ' c.n c.k c.v) y acc (cP c.scope.names loc) H
def SY (w:World) (p:Pt) (o:Obj) (acc:KV):Prop:=∃es n,o=td es n∧acc.length≤sizeLine∧bY w es acc
noncomputable def putAll (F:PV→List Nat×List Nat):List PV→KV→KV|[],acc=>acc|y::r,acc=>putAll F r (jG (F y).1 (F y).2 acc)
def DC.side (c:DC) (Γ':aA) (F:Loc→PV→List Nat×List Nat) (loc:Loc) (H:Hp) (xs:List PV):Prop:=∀y∈xs,∀acc:KV,acc.length<xs.length→(c.turn Γ' loc y acc H).Sat (λo=>o.2.1=H∧o.2.2=jG (F loc y).1 (F loc y).2 acc)
noncomputable def DC.f (c:DC) (Γ:Ctx) (Γ':aA) (F:Loc→PV→List Nat×List Nat) (loc:Loc) (H:Hp):R1:=bif dP c.scope.names loc then (Hf Γ c.tgt loc H c.n c.iter).map λa=>(a.1++[c.side Γ' F loc H a.2],.lF (putAll (F loc) a.2 [])) else Option.none
noncomputable def DC.ok (c:DC) (Γ:Ctx):Bool:=IV c.scope.kind&&xT Γ.scope c.scope.names c.scope.names
section
variable {κ:Cx} {A:Around} {Γ:Ctx} {loc:Loc} {H:Hp} {p:Pt} {s:Shared} {E:Value→Shared→Prop} {c:DC} {Γ':aA} {D:Addr}
theorem Ks {Γ:aA} (C:cE κ A ba Γ) {k v:Expr}:tc κ A (SY κ.g.w) (QP Γ n k v) D (do
    let kv←eval k κ.env
    let vv←holding [kv] (eval v κ.env)
    match Value.ref D with
    | .ref d=>do
     standAt {k.pos with endLine:=v.pos.endLine,endCol:=v.pos.endCol}
     holding [kv,vv] (dictSet d kv vv)
    | _=>unsupported "internal:dictcomp"):=λloc H acc p s o I sc sp ho z Q E h=>by
 refine cY z λes m e hz rs=>?_
 subst e
 refine cY (qI h) λg1 a e1 lW h=>?_
 refine cY (qI h) λg2 b e2 mT h=>?_
 refine aG (gC h) λka hk h=>?_
 refine aG (gC h) λvb hv h=>?_
 have:=PV.b9 hk;subst this
 have:=PV.b9 hv;subst this
 refine wpAny_bind (i5 C.c e1 lW p s I _ _ λp1 s1 u I1 T1 ru=>wpAny_bind (wpAny_holding (i5 C.c e2 mT p1 s1 I1 _ _ λp2 s2 w I2 T2 jo=>?_)))
 refine wpAny_bind (wpAny_standAt (wpAny_holding ?_))
 have Pk:=T1.trans T2
 refine aj (dD sc sp Pk) λQM k2=>?_
 have Mt:=k2 D (List.mem_singleton.mpr rfl) _ ho
 have Pf:=T2.rv ru
 refine aG Pf.str_inv λt ae zk=>?_;subst ae
 refine aG jo.str_inv λt2 ae zv=>?_;subst ae
 refine vD (kvs:=acc) Mt rs hz ⟨_,rfl⟩ ⟨_,rfl⟩ zv λh' oi n' tk e D' sb ht=>?_
 exact h.2 p2 s2 {s2 with heap:=h',toks:=tk} _ Pk I2 (pC sc QM I2 sb ht) sb ⟨_,_,rfl⟩ ht e ⟨_,_,rfl,Nat.le_trans (mW ..) (cL h.1.1),D'⟩
theorem DC.vI (C:af κ A Γ) (h:c.ok Γ=true):vy κ.env.scope c.scope:=by
 refine aj (Bool.and_eq_true_iff.mp h) λh1 h2=>?_;have hk:c.scope.kind=.function:=by induction q:c.scope.kind using ScopeKind.casesOn <;> rw[q] at h1 <;> first | rfl | exact fT h1
 rw[←C.scope] at h2;refine fK (zl h2) λi1 i2 i3=>?_;exact ⟨hk,i1,i2,i3⟩
theorem qV (F:PV→List Nat×List Nat) (d:List PV):∀acc,(putAll F d acc).length≤acc.length+d.length:=by induction d with|nil=>intro acc;exact Nat.le_refl _|cons y r ih=>intro acc;have h1:=ih (jG (F y).1 (F y).2 acc);have h2:=mW (F y).1 (F y).2 acc;show (putAll F r (jG (F y).1 (F y).2 acc)).length≤acc.length+(r.length+1);lia
theorem qW (F:PV→List Nat×List Nat) (d r:List PV):∀acc,putAll F (d++r) acc=putAll F r (putAll F d acc):=by induction d with|nil=>intro acc;rfl|cons y d ih=>intro acc;exact ih _
theorem Kt {F:Loc→PV→List Nat×List Nat} (C:af κ A Γ) (hh:A.handled=Option.none) (Kr:c.ok Γ=true) (eC:∀v,foldedSetIterable c.iter κ.env v=pure v) (C':∀L,cE (oy κ c.scope L) A ba Γ'):di κ A ⟨c.e,c.f Γ Γ' F⟩:=λloc H gd v h hg p s I Q E hQ=>by
 have h:c.f Γ Γ' F loc H=some (gd,v):=h;unfold DC.f at h;induction hc:dP c.scope.names loc with|false=>rw[hc] at h;exact nS h|true=>
 rw[hc,cond_true] at h;refine mP h λg1 xs h1 h=>?_;obtain ⟨rfl,rfl⟩:=Prod.mk.inj h;refine aj hg.append λlW mT=>?_;refine aG (zo (tgt:=c.tgt) C hh h1 lW) λHc hH hit=>?_;show wpAny _ A (eval c.e κ.env) Q E s;unfold DC.e;rw[arm_eval_DictComp];show wpAny _ A (comprehension (.DictComp c.k c.v [⟨c.tgt,c.iter,c.ifs,0⟩] c.scope c.pos) c.scope κ.env (firstIterPos [⟨c.tgt,c.iter,c.ifs,0⟩] c.pos) newDict false (eval c.iter κ.env) Option.none) Q E s;refine vC (n:=c.n) (At:=SY κ.g.w) (λz z z z z h=>h) (emT:=QP Γ' c.n c.k c.v) (o₀:=td [] 0) (acc₀:=[]) (emit:=λD env=>do
    let kv←eval c.k env
    let vv←holding [kv] (eval c.v env)
    match Value.ref D with
    | .ref d=>do
     standAt {c.k.pos with endLine:=c.v.pos.endLine,endCol:=c.v.pos.endCol}
     holding [kv,vv] (dictSet d kv vv)
    | _=>unsupported "internal:dictcomp") rfl eC (DC.vI C Kr) C.kind hc C' (λL D=>Ks (C' L)) rfl (λp=>⟨[],0,rfl,Nat.zero_le _,.nil⟩)
  (λs Q E h=>wpAny_newObj_type h (Nat.zero_le _)) (λI D env=>rfl) (λz z z=>rfl) (λz z z=>rfl) codeAny_compStart_dict (λr acc H'=>H'=H∧∃d,xs=d++r∧acc=putAll (F loc) d []) (λacc H'=>H'=H∧acc=putAll (F loc) xs []) (λy r acc H' h=>?_) (λacc H' h=>?_) I hit ⟨rfl,[],rfl,rfl⟩ λp' s' D L o acc H' m hf I' T' ho ha sc sp ne hD QO hm=>?_
 ·obtain ⟨rfl,d,ex,rfl⟩:=h;refine ⟨hH,(mT.1 y (by rw[ex];simp) _ ?_).mono λo ho=>⟨ho.1,d++[y],by rw[ex];simp,?_⟩⟩
  ·have:=qV (F loc) d [];have e:xs.length=d.length+(r.length+1):=by rw[ex];simp
   show _<xs.length
   rw[List.length_nil] at this
   lia
  ·rw[ho.2,qW];rfl
 ·obtain ⟨rfl,d,ex,rfl⟩:=h;rw[List.append_nil] at ex;exact ⟨hH,rfl,by rw[ex]⟩
 ·refine cY ha λes n eq2 hz rs=>?_;subst eq2;refine aj hf λCE eq1=>?_;subst CE;subst eq1;exact Bg.val ⟨I',T',ho,sc,sp,ne.1,hD,QO,m,hm⟩ (.lF ne.2 dH rs) hQ
end
theorem Bk {n:Str} {v:PV} {l:Loc}:ax y (AE n l)=some v→y≠n∧ax y l=some v:=by
 induction l with|nil=>intro h;exact nS h|cons e r ih=>
  intro h;simp only[AF] at h;induction q:seq e.1 n with
  | true=>
   rw[q] at h;refine aj (ih h) λh1 h2=>?_;refine ⟨h1,?_⟩;have:seq e.1 y=false:=by induction z:seq e.1 y with|true=>exact absurd ((aK.mp z).symm.trans (aK.mp q)) h1|false=>rfl
   simp only[d6,this];exact h2
  | false=>rw[q] at h;simp only[cond_false,d6] at h ⊢;induction z:seq e.1 y with|true=>rw[z] at h;refine ⟨λw=>?_,h⟩;rw[←w,z] at q;exact tF q|false=>rw[z] at h;exact ih h
section
variable {g:G} {B:Bs} {κ:Cx} {A:Around} {loc:Loc} {H:Hp} {p:Pt} {s:Shared} {h h':Heap} {E:Value→Shared→Prop}
theorem HI.slots (Y:HI g B H p h) (kp:∀b o,h.get? b=some o→b∉B.fr→h'.get? b=some o) (up:h.UpToSlots h'):HI g B H p h':=by
 have own:∀b,Own p b→b∉B.fr:=λb q z=>(Y.fr b z).2.2.1 q;refine ⟨Y.ok,λb o e=>kp b o (Y.st b o e) λz=>aE e (Y.fr b z).1,λb o e=>kp b o (Y.fz b o e) λz=>(by rw[(Y.fr b z).2.1] at e;exact nS e),λk o e=>?_,Y.xf,λb q=>?_,Y.inj,λL hL=>?_⟩
 ·refine gU (Y.objs k o e) λa d i sh=>?_;exact ⟨a,d,i,sh.on (λq e=>kp a q e (own a ⟨k,a,d,i,.inl rfl⟩)) (λq e=>kp d q e (own d ⟨k,a,d,i,.inr rfl⟩)) (λy y e=>e) λy y e=>e⟩
 ·refine fK (Y.new b q) λh1 h2 ae=>?_;refine bZ ae λo h3=>?_;exact ⟨h1,h2,o,kp b o h3 (own b q)⟩
 ·refine lG (Y.fr L hL) λh1 h2 h3 ae=>?_;refine aG ae λo h4 h5=>?_;refine bZ (up L o h4 h5) λsl e=>?_;exact ⟨h1,h2,h3,_,e,h5⟩
theorem HI.adopt (Y:HI g B H p h) {o:AO} (la:∃q,h.get? a=some q) (ld:∃q,h.get? d=some q) (c:∀b,(b=a∨b=d)→¬ Own p b∧p.P b=Option.none∧B.h.get? b=Option.none∧b∉B.fr) (ho:Shape g.w p.P (c7 p.ι H.length (a,d)) h a d o):HI g B (H++[(H.length,o)]) ⟨c7 p.ι H.length (a,d),p.P⟩ h∧(∀k q,p.ι k=some q→c7 p.ι H.length (a,d) k=some q)∧∀b,Own ⟨c7 p.ι H.length (a,d),p.P⟩ b→Own p b∨(b=a∨b=d):=by
 have le:∀k q,p.ι k=some q→c7 p.ι H.length (a,d) k=some q:=λk q e=>by unfold c7;rw[if_neg (λz=>Nat.lt_irrefl _ (z▸Y.xf k q e))];exact e
 have nw:∀b,Own ⟨c7 p.ι H.length (a,d),p.P⟩ b→Own p b∨(b=a∨b=d):=λb ⟨k,a',d',e,q⟩=>by
  dsimp only[c7] at e
  split at e
  ·refine aj (Prod.mk.inj (Option.some.inj e)) λae bX=>?_;subst ae;subst bX;exact .inr q
  ·exact .inl ⟨k,a',d',e,q⟩
 have ne:∀{b c},Own p b→(c=a∨c=d)→b≠c:=λ{b x} q z w=>(c x z).1 (w▸q);refine ⟨⟨Y.ok,Y.st,Y.fz,λj q e=>?_,λj p e=>?_,λb q=>?_,?_,λL hL=>?_⟩,le,nw⟩
 ·rw[eB] at e;induction q1:aO j H with
  | some x=>rw[q1] at e;cases e;refine gU (Y.objs j q q1) λa' d' i sh=>?_;exact ⟨a',d',le _ _ i,sh.on (λv q=>q) (λv q=>q) (λv v e=>e) le⟩
  | none=>
   rw[q1] at e;dsimp only at e
   split at e
   ·rename_i z;subst z;refine au e ?_;exact ⟨a,d,by dsimp only[c7];rw[if_pos rfl],ho⟩
   ·exact nS e
 ·rw[List.length_append];dsimp only[c7] at e;split at e
  ·rename_i z;subst z;exact Nat.lt_succ_self _
  ·exact Nat.lt_succ_of_lt (Y.xf j p e)
 ·rcases nw b q with q | q
  ·exact Y.new b q
  ·exact ⟨(c b q).2.2.1,(c b q).2.1,by rcases q with rfl | rfl <;> assumption⟩
 ·intro k k' a1 d1 a2 d2 e1 e2 xh;have own:∀{j p' q},p.ι j=some (p',q)→Own p p'∧Own p q:=λ{j p' q} e=>⟨⟨j,p',q,e,.inl rfl⟩,⟨j,p',q,e,.inr rfl⟩⟩;dsimp only[c7] at e1 e2;split at e1
  ·rename_i z1;refine aj (Prod.mk.inj (Option.some.inj e1)) λae bX=>?_;subst ae;subst bX;split at e2
   ·rename_i z2;exact absurd (z1.trans z2.symm) xh
   ·refine aj (own e2) λx y=>?_;exact ⟨(ne x (.inl rfl)).symm,(ne y (.inl rfl)).symm,(ne x (.inr rfl)).symm,(ne y (.inr rfl)).symm⟩
  ·split at e2
   ·refine aj (Prod.mk.inj (Option.some.inj e2)) λae bX=>?_;subst ae;subst bX;refine aj (own e1) λx y=>?_;exact ⟨ne x (.inl rfl),ne x (.inr rfl),ne y (.inl rfl),ne y (.inr rfl)⟩
   ·exact Y.inj _ _ _ _ _ _ e1 e2 xh
 ·refine lG (Y.fr L hL) λq1 q2 q3 q4=>?_;exact ⟨q1,q2,λz=>(nw L z).elim q3 λz=>(c L z).2.2.2 hL,q4⟩
theorem DJ (I:Inv κ loc H p s) {ea t:Addr} {m:List Nat} (kp:∀b o,s.heap.get? b=some o→b∉κ.Bc.fr→h'.get? b=some o) (up:s.heap.UpToSlots h') (na:s.heap.get? ea=Option.none) (nt:s.heap.get? t=Option.none) (sh:Shape κ.g.w p.P (c7 p.ι H.length (ea,t)) h' ea t (.exc m)):Inv κ loc (H++[(H.length,.exc m)]) ⟨c7 p.ι H.length (ea,t),p.P⟩ {s with heap:=h'}∧To κ p s ⟨c7 p.ι H.length (ea,t),p.P⟩ {s with heap:=h'}:=by
 have YB:=(HI.push I).slots kp up;have nn:∀b,(b=ea∨b=t)→s.heap.get? b=Option.none:=λb q=>by rcases q with rfl | rfl <;> assumption
 have all:∀b,(b=ea∨b=t)→¬ κ.All b:=λb q z=>by refine aG (I.ei.there z) λo e x=>?_;exact aE e (nn b q)
 have id:∃q,h'.get? ea=some q:=by refine TO sh λoe x x x x e x=>?_;exact ⟨_,e⟩
 have UT:∃q,h'.get? t=some q:=by refine yR sh λx x x x x x x x ae=>?_;refine fK ae λx e x=>?_;exact ⟨_,e⟩
 refine fK (YB.pop.adopt id UT (λb q=>⟨λz=>by (obtain ⟨_,_,o,e⟩:=I.hi.new b z;exact aE e (nn b q)),rB I.hi.fz (nn b q),aw I.hi.st (nn b q),λz=>by (obtain ⟨_,_,_,o,e,_⟩:=I.hi.fr b z;exact aE e (nn b q))⟩) sh) λY1 le nw=>?_;have fr:∀b∈κ.Bc.fr,∃o,s.heap.get? b=some o∧∀vs,o.data≠.fields vs:=λb hb=>((HI.push I).fr b hb).2.2.2;have sl:∀b o,s.heap.get? b=some o→b∉κ.Bc.fr∨∀vs,o.data≠.fields vs:=λb o e=>by
  by_cases z:b∈κ.Bc.fr
  ·refine aG (fr b z) λo' e' n=>?_;rw[e] at e';obtain rfl:=Option.some.inj e';exact .inr n
  ·exact .inl z
 have any:∀b o,s.heap.get? b=some o→∃sl,h'.get? b=some {o with slots:=sl}:=λb o e=>(sl b o e).elim (λz=>⟨o.slots,kp b o e z⟩) (up b o e);have Z:=I.ei;refine ⟨⟨Y1,⟨?_,λy c e=>?_,Z.has,λy v e=>?_,λa q=>?_,Z.apart,Z.off⟩⟩,⟨⟨_,_,rfl⟩,Nat.le_refl _,λb o e n1 n2 n3=>kp b o e λz=>?_,λb o e x x=>any b o e,λb o e=>let ⟨_,q⟩:=any b o e;⟨_,q⟩,⟨λx x e=>e,le⟩,λx x e=>.inl e,λb e=>(nw b e).imp_right (nn b)⟩⟩
 ·refine PO Z.ns λm o es ep e r=>?_;refine bZ (any _ _ e) λsl e'=>?_;exact ⟨m,_,es,ep,e',r⟩
 ·refine gU (Z.cells y c e) λv o e1 e2=>?_;refine bZ (any _ _ e1) λsl e'=>?_;exact ⟨v,_,e',e2⟩
 ·refine aG (Z.vars y v e) λu r V=>?_;exact ⟨u,r.eS (λx x e=>e) le,V.on λa o x e=>any a o e⟩
 ·refine fK (Z.lP a q) λh1 h2 h3=>?_;exact ⟨h1,h2,λz=>(nw a z).elim h3 λw=>all a w q⟩
 ·rcases List.mem_cons.mp z with z | z
  ·exact n2 (.inl z)
  ·exact n3 z
theorem name_goes (I:Inv κ loc H p s) (hk:κ.env.scope.kind=.function) {n:Str} (hx:κ.env.kindOf n=some .local) {Q:Unit→Shared→Prop} (hQ:∀s',Inv κ (AE n loc) H p s'→To κ p s p s'→Q () s') : wpAny κ.M A (do bindName κ.env n .none;unbindBehindTheSuite κ.env n pos) Q E s:=by
 refine bZ I.ei.ns λm hn=>?_;refine wpAny_nameGoes_keeps hx hn (by rw[hk];rfl) λh' v IK AL=>?_;have hl:∃o,h'.get? κ.env.locals=some o∧∀vs,o.data≠.fields vs:=by refine PN IK λo x x e d x=>?_;exact ⟨o,e,λvs z=>by rw[d] at z;cases z⟩
 have kc:∀y c v',κ.env.cells.lookup y=some c→s.heap.IsCell c v'→h'.IsCell c v':=λy c v' e z=>z.sameBut AL (I.ei.off y c e);refine aj (I.xg (s':={s with heap:=h',toks:=s.toks+1}) (.inl rfl) AL hl ⟨_,_,rfl⟩ (Nat.le_succ _)) λY' T=>?_;refine hQ _ ⟨Y',⟨⟨_,IK⟩,λy c e=>?_,I.ei.has,λy w e=>?_,I.ei.lP,I.ei.apart,I.ei.off⟩⟩ T
 ·refine bZ (I.ei.cells y c e) λv' z=>?_;exact ⟨v',kc y c v' e z⟩
 ·refine aj (Bk e) λne e=>?_;refine aG (I.ei.vars y w e) λu' r' V=>?_;refine ⟨u',r',?_⟩;rcases V with ⟨a,m',n',e2⟩ | ⟨a,c,l,z⟩
  ·refine .inl ⟨a,_,IK,?_⟩;rw[if_neg ne];rw[←hn.agree n' y] at e2;exact e2
  ·exact .inr ⟨a,c,l,kc y c _ l z⟩
variable {X:XP} {Pn Pp:aA} {Γ:Ctx}
noncomputable def Nz (Pn Pp:aA) (nb nh:Nat) (body suite:List Stmt) (n:Str) (loc:Loc) (H:Hp):Tr Out:=(av Pn nb body loc H).bind λo=>match o.fl with
 | .exc m=>(av Pp nh suite (cM n (.ref o.H.length) o.loc) (o.H++[(o.H.length,.exc m)])).bind λq=>.leaf ⟨q.fl,AE n q.loc,q.H⟩
 | _=>.leaf o
theorem Ku {l:List Env} (C:af κ A Γ) (FO:A.frames=some (κ.env::l)) (Qp:κ.env.frame=some κ.env.locals) (Cb:cE κ A (kQ (κ.env::l) κ.Bc.fr) Pn) (Ch:∀e,cE κ (A.mark (some (.ref e))) ba Pp) {n x:Str} (hn:κ.env.kindOf n=some .local) (hx:d7 Γ x=true) (hg:b6 κ.g x (.type "ValueError")) {suite:List Stmt} {b₀:Stmt} {np hp:Pos} {nb nh:Nat} : ∀loc H,bt κ A X (exec (.Try body [.ExceptHandler (some (.Name x np)) (some n) (b₀::suite) hp] [] [] pos) κ.env) loc H (Nz Pn Pp nb nh body (b₀::suite) n loc H):=λloc H p s I Q E hE h=>by
 have h:=aP.mp h;refine wpAny_Try_except ((cF Cb nb).2 body loc H p s I _ _ PassesOwn.looking (h.mono λo ho=>?_));intro p1 s1 I1 T1;obtain ⟨fl,l1,H1⟩:=o;induction fl using Fl.casesOn with|next=>exact wpAny_execs_nil (ho p1 s1 I1 T1)|brk=>exact ho p1 s1 I1 T1|cont=>exact ho p1 s1 I1 T1|ret v=>exact ho p1 s1 I1 T1|exc m=>
  intro e h2 QQ;refine PQ QQ λea t tk base ee UU tup z0 z1=>aj z0 λna nt=>aj z1 λup kb=>?_;subst ee;refine wpAny_looks_onW FO Qp UU λh3 held S2=>wpAny_landsW held λh4 Kv S3=>?_;have NA:=(up.trans S2).trans S3;refine wpAny_handleBy_builtin_as (X:="ValueError") (T:="ValueError") (b:=true) PySem.F.isExc_ValueError PySem.F.notTuple_ValueError (by rw[isSubtype_type];kernel_rfl) ?_;have kp:∀{h'},base.StaysIn h'→∀b o,s1.heap.get? b=some o→b∉κ.Bc.fr→h'.get? b=some o:=λk b o e z=>k b o (kb b o e z);have UW:κ.g.Ok h4:=I1.hi.ok.keeps ((HI.push I1).slots (kp Kv.1) NA).st;refine aj (aW C hx) λhk hd=>?_;refine cC (s:={s1 with heap:=h4}) C hk UW hg hd ⟨rfl,Kv.there,?_⟩;refine lands_againW Kv λh5 NB S4=>?_;have QR:=NA.trans S4;refine Ce NB.first λoe ws e1 e2 e3 e4=>?_
  refine cY (((tup.of_slots S2).of_slots S3).of_slots S4) λot n' t1 t2 t3=>?_;refine aj (DJ I1 (kp NB.1) QR na nt ⟨oe,ws,ot,_,_,e1,e2,e3,e4,t1,t2,t3⟩) λI5 T5=>?_;have r:RV κ ⟨c7 p1.ι H1.length (ea,t),p1.P⟩ (.ref ea) (.ref H1.length):=.ref (by show c7 _ _ _ _=_;unfold c7;exact if_pos rfl);refine bO C.kind (.inl hn) I5 r λs6 I6 T6=>?_;have ho:=aP.mp ho;refine wpAny_mono ((cF (Ch ea) nh).2 (b₀::suite) _ _ _ s6 I6 _ (λy y=>False) PassesOwn.never (ho.mono λq hq=>?_)) (λy y z=>z) λy y z=>z.elim;intro p7 s7 I7 T7;obtain ⟨fl,l7,H7⟩:=q;have Pq:=((T1.trans T5).trans T6).trans T7;induction fl using Fl.casesOn with|next=>exact name_goes I7 C.kind hn λs8 I8 T8=>hq p7 s8 I8 (Pq.trans T8)|brk=>exact name_goes I7 C.kind hn λs8 I8 T8=>hq p7 s8 I8 (Pq.trans T8)|cont=>exact name_goes I7 C.kind hn λs8 I8 T8=>hq p7 s8 I8 (Pq.trans T8)|ret v=>exact λu ru=>name_goes I7 C.kind hn λs8 I8 T8=>hq p7 s8 I8 (Pq.trans T8) u (T8.rv ru)|exc m'=>exact λy y z=>z.elim
end
section
variable {g:G} {B:Bs} {A:Around} {X:XP} {H:Hp} {args:List PV} {tr:Tr RE}
noncomputable def DK (k:Nat):RE→Tr RE|.ok .none H=>.leaf (.ok (.ref k) H)|.ok _ _=>.fail|.exc m H=>.leaf (.exc m H)
noncomputable abbrev Mx (C:Addr) (vs:List Value):Code:=.builtin "type.__call__" ⟨.ref C::vs,[]⟩
theorem pD {k:Nat} {s:Shared} {x:Addr} (T:nI B.fr p s p' s') (hx:∀p2 s2,nI B.fr p' s' p2 s2→p2.ι k=some (x,d)) (h:(tr.bind (DK k)).Sat (dA g B X p s R)):tr.Sat (dA g B X p' s' (InitBack x R)):=(aP.mp h).mono λr hr=>by induction r using RE.casesOn with|exc m H'=>exact λp2 s2 e gm Y T2 xx=>hr p2 s2 e gm Y (T.cat T2) xx|ok v H'=>induction v using PV.casesOn with|none=>exact λp2 s2 u Y T2 ru=>by have:=ru.none_inv;subst this;exact ⟨rfl,hr p2 s2 (.ref x) Y (T.cat T2) (.ref (hx _ _ T2))⟩|_=>exact hr.elim
theorem HI.made {hh:Heap} (Y:HI g B H p hh):HI g B (H++[(H.length,.inst C [])]) ⟨c7 p.ι H.length (hh.objs.size+1,hh.objs.size),p.P⟩ ((hh.push emptyDict).push (instObj C hh.objs.size))∧Step [] No p hh ⟨c7 p.ι H.length (hh.objs.size+1,hh.objs.size),p.P⟩ ((hh.push emptyDict).push (instObj C hh.objs.size)):=by have hd:=Heap.get?_push_of_some (instObj C hh.objs.size) (Heap.get?_push_size (o:=emptyDict) hh rfl);have hx:=Heap.get?_push_size (o:=instObj C hh.objs.size) (hh.push emptyDict) rfl;rw[Heap.size_push] at hx;exact Y.alloc (λb o e=>Heap.get?_push_of_some _ (Heap.get?_push_of_some _ e)) (Heap.get?_none_of_le (Nat.le_succ _)) (bA _) ⟨_,hx⟩ ⟨_,hd⟩ ⟨[],0,hx,hd,.nil⟩
theorem vK {fI:Addr} (hm:makesIn g.K C=true) (hi:findIn g.K (.ref C) "__init__"=some (some (.ref fI))) (hf:typeIn g.K (.ref fI)=some (.type "function")) (hr:∀vs,Runs g (A.under (Mx C vs)) B X fI (.ref H.length::args) (H++[(H.length,.inst C [])]) tr):Runs g A B X C args H (tr.bind (DK H.length)):=λp s vs Y rv R h=>aj (Y.made (C:=C)) λY' st=>make_core (makes_of Y.gV.1 hm) (looks_findIn Y.gV.1 hi) (λself=>bind_fn Y.gV.1 self hf) (.inl rfl) (hr vs _ {s with heap:=(s.heap.push emptyDict).push (instObj C s.heap.objs.size)} _ Y' (.cons (.ref (if_pos rfl)) (aT.eS st.le.1 st.le.2 rv)) _ (pD (d:=s.heap.objs.size) ⟨⟨_,_,rfl⟩,Nat.le_refl _,st.fr⟩ (λp2 s2 T2=>T2.st.le.2 _ _ (if_pos rfl)) h))
end
noncomputable def NC (d:Data):Option ClassData:=by induction d using Data.casesOn with|cls c=>exact some c|_=>exact .none
theorem Hg {d:Data} {c:ClassData} (h:NC d=some c):d=.cls c:=by induction d using Data.casesOn with|cls c=>exact congrArg _ (Option.some.inj h)|_=>exact nS h
noncomputable def ownIn (K:Frag) (C:Addr):Bool:=(K.lookup C).any λo=>(NC o.data).any λcd=>(o.slots.toList[4]?).join==some .none&&!cd.mro.isEmpty&&cd.mro.contains (.ref C)&&specialIn K (.ref C) "__call__"==some (some (.builtin "type.__call__"))&&instIn K (.ref C) (.type "type")==some true
structure ND (K:Frag) (M:Model) (h:Heap) (C:Addr):Prop where
 obj:∃oc od cd sl,h.get? C=some ⟨oc,od,.cls cd,sl⟩∧cd.mro.isEmpty=false
 made:Looks M h (Bind.madeBy (.ref C)) Option.none
 self:Looks M h (isSubtype (.ref C) (.ref C)) true
 call:Looks M h (specialOf (.ref C) "__call__") (some (.builtin "type.__call__"))
 typ:Looks M h (isInstance (.ref C) (.type "type")) true
theorem xZ {M:Model} (X:K.In h) {oc:Value} {od:Option Addr} {cd:ClassData} {sl:Array (Option Value)} (ho:K.lookup C=some ⟨oc,od,.cls cd,sl⟩) (e3:(sl.toList[4]?).join=some .none) (e4:cd.mro.isEmpty=false) : Looks M h (Bind.madeBy (.ref C)) Option.none:=by
 have hc:clsIn K C=some cd:=by unfold clsIn;rw[ho]
 have hm:Looks M h (mroOf (.ref C)) cd.mro:=(looks_clsIn X hc).andThen .now;obtain ⟨c,l,hl⟩:∃c l,cd.mro=c::l:=by induction q:cd.mro using List.casesOn with | nil=>rw[q] at e4;exact tF e4 | cons c l=>exact ⟨c,l,rfl⟩
 intro A Q E s k q;unfold Bind.madeBy;refine wpAny_bind (hm A _ E s k ?_);rw[hl,List.forIn_cons];refine wpAny_bind (wpAny_bind (wpAny_bind (wpAny_bind (wpAny_loadPart (k _ _ (X _ _ ho)) (wpAny_pure ?_)))));dsimp only;rw[←Array.getElem?_toList,e3];exact wpAny_pure (wpAny_pure (wpAny_pure q))
theorem vL {M:Model} (X:K.In h) (e:ownIn K C=true):ND K M h C:=by
 refine aG (any_some e) λo ho e=>?_;refine aG (any_some e) λcd hd e=>?_;have hd:=Hg hd;obtain ⟨oc,od,dt,sl⟩:=o;have hd:dt=.cls cd:=hd;subst hd;refine aj (Bool.and_eq_true_iff.mp e) λe e8=>?_;refine aj (Bool.and_eq_true_iff.mp e) λe e7=>?_;refine aj (Bool.and_eq_true_iff.mp e) λe e5=>?_;refine aj (Bool.and_eq_true_iff.mp e) λe3 e4=>?_;have e4:cd.mro.isEmpty=false:=(Bool.not_eq_true' _).mp e4;have hc:clsIn K C=some cd:=by unfold clsIn;rw[ho]
 refine ⟨⟨oc,od,cd,sl,X _ _ ho,e4⟩,xZ X ho (beq_iff_eq.mp e3) e4,looks_mroIn X ?_,looks_specialIn X (beq_iff_eq.mp e7),looks_instIn X (beq_iff_eq.mp e8)⟩;unfold mroIn;rw[hc,Option.bind_some,if_neg (by rw[e4];decide),e5]
section
variable {prog:Program} {w:World} {A:Around} {K:Frag} {C pN fN fI:Addr} {R:Result→Shared→Prop} {s:Shared}
theorem DL {rest:List Value} (X:K.In s.heap) (hc:ownIn K C=true) (hg:readsIn K C (.type "type")=true) (he:findCls K (.ref C) (.type "type") "__new__"=some (.get (.builtin "staticmethod.__get__") (.ref pN) .none (.ref C))) (hp:recIn K pN "staticmethod"=some (.ref fN::rest)) (hi:findIn K (.ref C) "__init__"=some (some (.ref fI))) (hf:typeIn K (.ref fI)=some (.type "function")) (h:codeAny (model prog w) (A.under (Mx C vs)) (.call (.ref fN) ⟨.ref C::vs,[]⟩) (λr s'=>match r with
   | .ok (.ret o)=>∃x d,o=.ref x∧K.In s'.heap∧s'.heap.get? x=some (instObj C d)∧codeAny (model prog w) (A.under (Mx C vs)) (.call (.ref fI) ⟨.ref x::vs,[]⟩) (InitBack x R) s'
   | .ok _=>False
   | .error e=>R (.error e) s') {s with toks:=s.toks+1}):codeAny (model prog w) A (.call (.ref C) ⟨vs,[]⟩) R s:=by
 obtain ⟨⟨oc,od,cd,sl,hC,e4⟩,made,self,call,typ⟩:=vL (M:=model prog w) X hc
 refine codeAny_of_tree ?_
 show wpAny _ _ (callAny (.ref C) _) _ _ _
 obtain ⟨hh,gg,d,t,os⟩:=s
 refine nd_load hC ?_
 show wpAny _ _ (callAny.viaDunder (.ref C) _) _ _ _
 unfold callAny.viaDunder
 refine wpAny_bind (call.at ?_)
 dsimp only
 rw[tc_bind]
 refine wpAny_bind (wpAny_pure (wpAny_bind (wpAny_pure ?_)))
 refine wpAny_pure (a:=Fin.again (.call (.builtin "type.__call__") ⟨.ref C::vs,[]⟩)) (And.intro rfl ?_)
 refine codeAny_call_builtin_at (Code.quiet_builtin _ (by decide +kernel)) entry_typeCall (check_slot tc_kind tc_split typ (tc_args _ _ _) ?_)
 unfold Builtin.«type.__call__»
 have hm:Looks (model prog w) hh (mroOf (.ref C)) cd.mro:=((Looks.ld (part:=none) hC).andThen .now).andThen .now
 iterate 8 (first | simp only[e4,Bool.false_eq_true,if_false] | lk)
 refine wpAny_bind (cls_bind X hg he (wpAny_call (sm_get (s:=⟨hh,gg,d,t+1,os⟩) X hp (handed_on rfl ?_))))
 refine wpAny_bind (wpAny_holding (wpAny_call (codeAny_mono h λr s' z=>?_)))
 rcases r with e | (v | _ | _ | _) <;> first | exact z | exact z.elim | skip
 obtain ⟨x,dx,rfl,X',hx,z⟩:=z
 obtain ⟨S5,VD,d',t',w7⟩:=s'
 have t1:Looks (model prog w) S5 (typeOf (.ref x)) (.ref C):=(Looks.ld hx).andThen .now
 have s1:=(vL (M:=model prog w) X' hc).self
 have i1:Looks (model prog w) S5 (typeLookup (.ref C) "__init__") (some (.ref fI)):=looks_findIn X' hi
 have b1:=bind_fn (M:=model prog w) X' (.ref x) hf
 show wpAny _ _ (do
   let __do_lift←isInstance (.ref x) (.ref C)
   if (!__do_lift)=true then do
     rule "type.call.new-gave-other-type"
     ret (Value.ref x)
    else _) _ _ _
 unfold isInstance callSpecial? specialOf
 repeat (first | with_reducible refine wpAny_call ?_ | lk)
 refine codeAny_mono z λr s' z=>?_
 rcases r with e | (v | _ | _ | _) <;> first | exact z | exact z.elim | skip
 obtain ⟨rfl,z⟩:=z
 exact wpAny_pure (wpAny_pure z)
end
theorem DM {tr:Tr RE} {pN fN fI:Addr} {rest:List Value} (hc:ownIn g.K C=true) (hg:readsIn g.K C (.type "type")=true) (he:findCls g.K (.ref C) (.type "type") "__new__"=some (.get (.builtin "staticmethod.__get__") (.ref pN) .none (.ref C))) (hp:recIn g.K pN "staticmethod"=some (.ref fN::rest)) (hi:findIn g.K (.ref C) "__init__"=some (some (.ref fI))) (hf:typeIn g.K (.ref fI)=some (.type "function")) (hn:∀vs,Runs g (A.under (Mx C vs)) B ba fN (.glob (.ref C)::args) H (.leaf (.ok (.ref H.length) (H++[(H.length,.inst C [])])))) (hr:∀vs,Runs g (A.under (Mx C vs)) B X fI (.ref H.length::args) (H++[(H.length,.inst C [])]) tr):Runs g A B X C args H (tr.bind (DK H.length)):=λp s vs Y rv R h=>by
 refine DL Y.gV.1 hc hg he hp hi hf (hn vs p {s with toks:=s.toks+1} (.ref C::vs) Y (.cons (.glob _) rv) _ λp2 s2 u Y2 T2 ru=>?_);refine gU (Y2.objs H.length (.inst C []) (by rw[eB];induction q:aO H.length H with | none=>exact if_pos rfl | some o=>refine gU (Y.objs _ _ q) λa d e z=>?_;exact absurd (Y.xf _ _ e) (Nat.lt_irrefl _))) λx d hk ae=>?_;refine gU ae λes n ho z=>?_;refine gU ru.n8 λz z ae e=>?_;subst ae;rw[hk] at e;refine aj (Prod.mk.inj (Option.some.inj e)) λae bX=>?_;subst ae;subst bX;have T:nI B.fr p s p2 s2:=by refine rh T2.eq λh2 t2 e2=>?_;exact ⟨⟨h2,t2,e2⟩,Nat.le_trans (Nat.le_succ _) T2.le,T2.st⟩
 exact ⟨x,d,rfl,Y2.gV.1,ho,hr vs p2 s2 (.ref x::vs) Y2 (.cons (.ref hk) (aT.eS T2.st.le.1 T2.st.le.2 rv)) _ (pD T (λp3 s3 T3=>T3.st.le.2 _ _ hk) h)⟩
section
variable {prog:Program} {w:World} {A:Around} {K:Frag} {C:Addr} {R:Result→Shared→Prop} {h:Heap} {g:Array GenState} {d:Drawn} {t:Nat} {os:OsState} {E:Value→Shared→Prop}
structure IX (K:Frag) (S:Setting) (C:Addr):Prop where
 UX:∀b t,pk K S 100 [] b t (checkBuiltinCall "object.__new__" ⟨[.ref C],[]⟩)=([],[],t,pure ())
 made:∀b t,pk K S 100 [] b t (Builtin.«object.__new__» ⟨[.ref C],[]⟩)=([],[emptyDict,instObj C b],t,pure (.done (.ret (.ref (b+1)))))
theorem Hh (X:K.In h) (N:IX K ⟨(model prog w).prog,(model prog w).w.params⟩ C) (hq:R (.ok (.ret (.ref (h.objs.size+1)))) ⟨(h.push emptyDict).push (instObj C h.objs.size),g,d,t,os⟩) : codeAny (model prog w) A (.call (.builtin "object.__new__") ⟨[.ref C],[]⟩) R ⟨h,g,d,t,os⟩:=by refine codeAny_call_builtin_code (Code.quiet_builtin _ PySem.F.objNew.quiet) (yT X (N.UX _ _) (wpAny_pure (codeAny_builtin PySem.F.objNew.entry (yT X (N.made _ _) ?_))));exact wpAny_pure hq
theorem tf {v:Value} {pl:Sem Bool} {s:Shared} {Q:Value×List Value→Shared→Prop} (X:K.In s.heap) (ht:typeOf (.type T)=pure (.type "type")) (hs:Manifest.isStub T=false) (e:findCls K (.type T) (.type "type") name=some (.val v)) (hh:handedIn v=true) (h:Q (v,[]) {s with toks:=s.toks+1}):wpAny (model prog w) A (getMethod (.type T) name pl) Q E s:=by
 have DN:opaqueClassAbove (.type T)=pure none:=by unfold opaqueClassAbove;dsimp only;rw[hs];rfl
 have L0:Looks (model prog w) s.heap (typeOf (.type T)) (.type "type"):=Looks.of_pure ht;have hg:findIn K (.type "type") "__getattribute__"=some (some (.builtin "type.__getattribute__")):=type_tga;unfold getMethod specialOf;refine wpAny_bind (wpAny_bind (L0.here ((looks_findIn X hg).here ?_)));dsimp only;rw[if_pos canon_tga];refine wpAny_bind (wpAny_mono (Q:=λv=>Q (v,[])) (E:=E) ?_ (λy y z=>wpAny_pure z) λy y z=>z);have LO:Looks (model prog w) s.heap (opaqueClassAbove (.type T)) none:=Looks.of_pure DN;exact cls_open X LO L0 hg (looks_hook X (r:=none) (by rfl)) (by show subIn K _ _=_;rfl) e (wpAny_pure (by show wpAny _ _ (handedOut v) _ _ _;rw[handedOut_of hh];exact wpAny_pure h))
end
section
variable {κ:Cx} {A:Around} {Γ:Ctx} {X:XP}
theorem DO:typeOf (.type "object")=pure (.type "type"):=by kernel_rfl
theorem DP:Manifest.isStub "object"=false:=by decide +kernel
theorem DQ:handedIn (.builtin "object.__new__")=true:=by kernel_rfl
abbrev vM (g:G) (C:Addr):Prop:=IX g.K ⟨(model g.prog g.w).prog,(model g.prog g.w).w.params⟩ C
noncomputable def QS (Γ:Ctx) (C:Addr) (n:Nat) (e:Expr) (loc:Loc) (H:Hp):Tr Out:=(iW (dU Γ loc H n e)).bind λv=>iN (λc=>iO (Nat.beq c C) (.leaf ⟨.ret (.ref H.length),loc,H++[(H.length,.inst c [])]⟩)) v.cls?
theorem Hi (C:af κ A Γ) {ob:Str} {np rp:Pos} {e:Expr} {c:Addr} (hx:d7 Γ ob=true) (hG:b6 κ.g ob (.type "object")) (hf:findCls κ.g.K (.type "object") (.type "type") "__new__"=some (.val (.builtin "object.__new__"))) (N:vM κ.g c) (hc:jV (.Name ob np) [e] ap pos=true):∀loc H,bt κ A X (exec (.Return (some (.Call (.Attribute (.Name ob np) "__new__" ap) [e] [] pos)) rp) κ.env) loc H (QS Γ c n e loc H):=λloc H p s I Q E hE h=>by refine cY (qI h) λgd v h1 hg k1=>?_;refine aG (gC k1) λc' hv k2=>?_;refine aj (oS k2) λPj k3=>?_;have N:vM κ.g c':=Nat.eq_of_beq_eq_true Pj▸N;refine wpAny_Return_some (bc hc λpl=>cC C (aW C hx).1 I.hi.gV hG (aW C hx).2 (tf (T:="object") (v:=.builtin "object.__new__") I.hi.gV.1 DO DP hf DQ (aq ?_)));refine aj (I.toks (Nat.le_succ s.toks)) λI1 T1=>?_;show wpAny _ A (spliced [(false,eval e κ.env)]) _ E _;refine spliced_cons (i5 C h1 hg p _ I1 _ _ λp2 s2 u I2 T2 ru=>spliced_nil ?_);refine Eq.substr (PV.sP hv▸ru:RV κ p2 u (.glob (.ref c'))).iT ?_;refine wpAny_call (Hh I2.hi.gV.1 N ?_);refine aj (I2.hi.made (C:=c')) λY' st=>aj (I2.AM (s':={s2 with heap:=(s2.heap.push emptyDict).push (instObj c' s2.heap.objs.size)}) Y' st.fr ⟨_,_,rfl⟩ (Nat.le_refl _)) λI3 T3=>?_;exact k3 _ _ I3 ((T1.trans T2).trans T3) _ (.ref (if_pos rfl))
end
section
variable {g:G} {fd:FuncData} {ns:List Str} {args ds:List PV}
theorem fW.more {more:List Value} (hlen:ns.length=args.length+more.length) (hb:∀(vs:List Value) (s:Shared),vs.length=args.length→g.K.In s.heap→BindsTo s fd ⟨vs,[]⟩ (ns.zip (vs++more))) (r:∀P ι,aT g.w P ι more ds):fW g fd ns args (fv ns (args++ds)):=λA s p vs ok rv Q E hQ=>hb vs s rv.length ok.1 _ _ _ _ (hQ _ s.heap s.toks (λz z e=>e) (Nat.le_refl _) (zj (by rw[List.length_append,rv.length];exact hlen)) (vt (rv.append (r _ _))))
theorem fW.star {c a k:Str} {x y:PV} (h:∀u v,bindArgs fd ⟨[u,v],[]⟩=(newTuple [v] >>= λt=>alloc emptyDict >>= λd=>pure [(c,u),(a,t),(k,.ref d)])):fW g fd [c,a,k] [x,y] [(c,x)]:=λA s p vs ok rv Q E hQ=>by refine cY rv.cons_inv λz z ae r1 r2=>?_;subst ae;obtain ⟨_,_,rfl,_,r2⟩:=r2.cons_inv;have:=r2.nil_inv;subst this;rw[h];refine wpAny_bind (wpAny_newObj_type ?_ (by show 1≤sizeLine;decide));refine wpAny_bind (wpAny_alloc (wpAny_pure ?_));exact hQ _ _ s.toks (λb o e=>az _ _ b o (az _ _ b o e)) (Nat.le_refl _) rfl (.cons r1 (.skip (.skip .nil)))
end
theorem tg (c:Nat):((⟨#[c]⟩:Str)==("":Str))=false:=by rw[beq_eq_false_iff_ne];intro q;have:=congrArg (λz:Str=>z.cps.size) q;exact absurd this (by show ¬ (1=0);lia)
noncomputable def gy (c:Nat) (k:List Nat):List Nat:=k.filter (· != c)
theorem Kw {ι:bq} {P:Fz} {s:Shared} {k:List Nat} {u v:Tok} (hu:u≠0) (hv:v≠0) (UY:u≠v) (zk:k.length≤sizeLine) : Pu g A ι P s (call (.builtin "str.replace") [.str (S k) t,.str ⟨#[c]⟩ u,.str "" v]) (.str (gy c k)):=Pu.same λQ E hQ=>by
 have e:Txt.replace (S k) ⟨#[c]⟩ ""=S (gy c k):=by rw[←Cd (Txt.replace _ _ _)];exact congrArg S (replace_strikes (S k) _)
 have z0:("":Str).length=0:=rfl;refine SC.replace hu hv UY (tg c) (by rw[z0,a9];rw[sizeLine_eq] at zk;omega) λt' tk=>?_;rw[e];exact hQ _ _ (.str _ _ (Nat.le_trans (List.length_filter_le _ _) zk))
section
variable {κ:Cx} {A:Around} {Γ:Ctx} {X:XP}
theorem tj {t:fM} (C:af κ A Γ) (h:di κ A t) (hc:jW t.e=false):iq κ A t:=λloc H gd v e hg p s I x q pos hx Q E hQ=>wpAny_Assign_Name (h loc H gd v e hg p s I _ _ λp' s' u I' T' ru=>bO C.kind hx I' ru λs2 I2 T2=>hQ _ _ I2 (T'.trans T2)) (pe hc _ _ _)
noncomputable def NF (x y:Str) (i:Int) (xp ap yp cp sp ep pos:Pos) (ck ek:Nat):Expr:=.Call (.Attribute (.Name x xp) "replace" ap) [.Subscript (.Name y yp) (.Constant (.int i) ck cp) sp,.Constant (.str "") ek ep] [] pos
noncomputable def Kx (Γ:Ctx) (x y:Str) (i:Int) (loc:Loc) (_:Hp):R1:=(fj Γ loc x).bind λa=>a.d3.bind λk=>(fj Γ loc y).bind λb=>b.d3.bind λc=>some ([bD i c.length=true],.str (gy (c.getD (ix i c.length) 0) k))
theorem Hj (C:af κ A Γ) {x:Str} {sp ep:Pos} {ck ek:Nat} (hl:Nat.beq ap.endLine pos.line=true):di κ A ⟨NF x y i xp ap yp cp sp ep pos ck ek,Kx Γ x y i⟩:=λloc H gd v h hg p s I Q E hQ=>by
 have h:Kx Γ x y i loc H=some (gd,v):=h;refine bS h λa ha h=>?_;refine bS h λk hk h=>?_;refine bS h λb hb h=>?_;refine bS h λc hc h=>?_;refine aj (Prod.mk.inj (Option.some.inj h)) λae bX=>?_;subst ae;subst bX;have:=PV.b9 hk;subst this;have:=PV.b9 hc;subst this;refine bc (o:=.Name x xp) (args:=[_,_]) (by show (_&&Nat.beq _ _)=true;rw[hl];rfl) λpl=>dK C ha p s I _ _ λp1 s1 u I1 T1 ru=>?_;refine aG ru.str_inv λt ae zk=>?_;subst ae;refine getMethod_builtin (typeIs_str s1 _ t) PySem.F.plainAttrs_str PySem.F.slot_str_replace PySem.F.type_str_replace (λa q=>by cases q) ?_;refine aq ?_;show wpAny _ A (spliced [(false,eval (.Subscript (.Name y yp) (.Constant (.int i) ck cp) sp) κ.env),(false,eval (.Constant (.str "") ek ep) κ.env)]) _ E s1;refine spliced_cons (Subscript_ (dK C hb p1 s1 I1 _ _ λp2 s2 w I2 T2 jo=>?_));refine aG jo.str_inv λt2 ae zc=>?_;subst ae;refine (show wpAny _ A (eval (.Constant (.int i) ck cp) κ.env) _ E s2 from λz z z=>?_);refine bZ (c0 (.Constant (.int i) ck cp) (.str (S c) t2) (.int i s2.toks)) λops hs=>?_;refine lG (yX hg.1) λh1 h2 h3 h4=>?_;rw[sizeLine_eq] at zc;refine tail_any (typeIs_str _ _ t2) slot_str_getitem.lookup (PyProof.Rows.getItem_str (c:=c.getD (ix i c.length) 0) ?_ ?_ ?_) hs
 ·simp only[Bool.or_eq_false_iff,decide_eq_false_iff_not];lia
 ·rw[a9,h1];simp[List.getElem?_eq_getElem h2,List.getD]
 refine spliced_cons (wpAny_Constant_str (spliced_nil ?_));refine aj (I2.toks (tk:=s2.toks+1+1+1) (by lia)) λI3 T3=>?_;exact (Kw (P:=p2.P) (ι:=p2.ι) (s:={s2 with toks:=s2.toks+1+1+1}) (Nat.succ_ne_zero _) (Nat.succ_ne_zero _) (Nat.ne_of_lt (Nat.lt_succ_self _)) zk).up I3 ((T1.trans T2).trans T3) hQ
end
section
variable {κ:Cx} {A:Around} {Γ:Ctx} {X:XP} {loc:Loc} {H:Hp}
noncomputable def IY (v:Value):Bool:=by induction v using Value.casesOn with|type T=>exact T=="type"|_=>exact false
theorem DR {v:Value} (h:IY v=true):v=.type "type":=by induction v using Value.casesOn with|type T=>exact congrArg _ (beq_iff_eq.mp h)|_=>exact fT h
noncomputable def eW (K:Frag) (a:Addr):Bool:=(K.lookup a).any λo=>IY o.cls
theorem vN (h:eW K a=true):∃o,K.lookup a=some o∧o.cls=.type "type":=by unfold eW at h;induction q:K.lookup a with|none=>rw[q] at h;exact fT h|some o=>rw[q] at h;exact ⟨o,rfl,DR h⟩
theorem Bl {M:Model} {s:Shared} {b:Addr} {oa ob:Obj} (ha:s.heap.get? a=some oa) (ca:oa.cls=.type "type") (hb:s.heap.get? b=some ob) (h:Q (.bool (!(Nat.beq a b))) s):wpAny M A (compareOp .IsNot (.ref a) (.ref b)) Q E s:=by
 show wpAny M A (do return .bool (!(←isSame (.ref a) (.ref b)))) Q E s;have key:wpAny M A (isSame (.ref a) (.ref b)) (λc s'=>c=Nat.beq a b∧s'=s) E s:=by
  unfold isSame
  by_cases z:a=b
  ·subst z;dsimp only;rw[if_pos (beq_self_eq_true _)];exact wpAny_pure ⟨(Nat.beq_refl a).symm,rfl⟩
  ·dsimp only;rw[if_neg (by rw[beq_iff_eq];exact z)];refine wpAny_bind (wpAny_load ha (wpAny_bind (wpAny_load hb ?_)));rw[ca];have:Nat.beq a b=false:=by induction q:Nat.beq a b with|true=>exact absurd (Nat.eq_of_beq_eq_true q) z|false=>rfl
   rw[this]
   exact wpAny_of_eq (a:=false) (by kernel_rfl) ⟨rfl,rfl⟩
 refine wpAny_bind (wpAny_mono key (λc s' hc=>?_) λy y x=>x);obtain ⟨rfl,rfl⟩:=hc;exact wpAny_pure h
theorem vO (C:af κ A Γ) {x:Str} {b:Addr} (hx:fj Γ loc x=some (.glob (.ref a))) (hy:fj Γ loc y=some (.glob (.ref b))) (ha:eW κ.g.K a=true) (hb:eW κ.g.K b=true) : CK κ A loc H (isTrue (.Compare (.Name x xp) [.IsNot] [.Name y yp] pos) κ.env (eval (.Compare (.Name x xp) [.IsNot] [.Name y yp] pos) κ.env)) (!(Nat.beq a b)):=λp s I Q E hQ=>by refine aG (vN ha) λoa ka ca=>?_;refine aG (vN hb) λob kb z=>?_;rw[arm_isTrue_Compare,markedEach_of_false _ _ _ rfl];refine wpAny_bind (dK C hx p s I _ _ λp1 s1 u I1 T1 ru=>?_);have:=ru.iT;subst this;refine test_last (dK C hy p1 s1 I1 _ _ λp2 s2 v I2 T2 rv=>?_);have:=rv.iT;subst this;exact Bl (I2.hi.gV.1 _ _ ka) ca (I2.hi.gV.1 _ _ kb) (wpAny_truthy_bool (hQ p2 s2 I2 (T1.trans T2)))
noncomputable def g7 (Γ:Ctx) (loc:Loc) (x:Str):Option Addr:=(fj Γ loc x).bind PV.cls?
theorem j3 {x:Str} (h:g7 Γ loc x=some a):fj Γ loc x=some (.glob (.ref a)):=bS h λv e h=>(PV.sP h)▸e
noncomputable def DS (K:Frag) (Γ:Ctx) (x y z:Str) (loc:Loc) (H:Hp):Tr Out:=iN (λa=>iN (λb=>iN (λc=>iO ((eW K a&&(eW K b&&eW K c))&&(Nat.beq a b||Nat.beq a c)) (.leaf ⟨.next,loc,H⟩)) (g7 Γ loc z)) (g7 Γ loc y)) (g7 Γ loc x)
theorem Ky (C:af κ A Γ) {x z:Str} {xq zp q1 q2 bp:Pos} : ∀loc H,bt κ A X (exec (.If (.BoolOp .And [.Compare (.Name x xp) [.IsNot] [.Name y yp] q1,.Compare (.Name x xq) [.IsNot] [.Name z zp] q2] bp) body [] ip) κ.env) loc H (DS κ.g.K Γ x y z loc H):=λloc H p s I Q E hE h=>by refine aG (gC h) λa ha h=>?_;refine aG (gC h) λb hb h=>?_;refine aG (gC h) λc y6 h=>?_;have ha:=j3 ha;have hb:=j3 hb;have y6:=j3 y6;refine aj (oS h) λQT h=>?_;refine aj (Bool.and_eq_true_iff.mp QT) λJ2 QT=>?_;refine aj (Bool.and_eq_true_iff.mp J2) λh1 J2=>?_;refine aj (Bool.and_eq_true_iff.mp J2) λh2 h3=>?_;have fin:Nat.beq a b=true∨Nat.beq a c=true:=Bool.or_eq_true_iff.mp QT;refine wpAny_If (PySem.wpAny_isTrue_BoolOp (wpAny_allTrue_And_cons (vO C ha hb h1 h2 p s I _ _ λp1 s1 I1 T1=>?_)));induction q:Nat.beq a b with|true=>exact wpAny_execs_nil (h p1 s1 I1 T1)|false=>refine wpAny_allTrue_And_cons (vO C ha y6 h1 h3 p1 s1 I1 _ _ λp2 s2 I2 T2=>?_);rw[q] at fin;rw[fin.resolve_left Bool.false_ne_true];exact wpAny_execs_nil (h p2 s2 I2 (T1.trans T2))
end
section
variable {κ:Cx} {A:Around} {Γ:Ctx}
structure DT (K:Frag) (C:Addr):Prop where
 hg:plainGet K C "__class__"=true
 hd:hasDictIn K C=true
 ha:findIn K (.ref C) "__class__"=some (some (.builtin "object.__class__"))
 hn:specialIn K (.builtin "object.__class__") "__get__"=some (some (.builtin "getset_descriptor.__get__"))
 ht:takesIn K (.builtin "object.__class__")=some true
 hm:mroIn K C (.type "object")=some true
 no:kitOne K (.ref C) (.type "str")=some false
noncomputable def Kz (IZ x st:Str) (ip xp tp pos:Pos):Expr:=.Call (.Name IZ ip) [.Name x xp,.Name st tp] [] pos
noncomputable def KA (Γ:Ctx) (C:Addr) (x:Str) (loc:Loc) (H:Hp):R1:=(fj Γ loc x).bind λv=>v.d3.elim ((c6 H v).bind λi=>bif Nat.beq i.2.1 C then some ([],.bool false) else Option.none) λz=>some ([],.bool true)
theorem Hk {s:Shared} {u:Value} {v:PV} {c:Addr} (N:DT κ.g.K c) (I:Inv κ loc H p s) (ru:RV κ p u v):GO (v.d3.elim ((c6 H v).bind λi=>bif Nat.beq i.2.1 c then some ([],.bool false) else Option.none) λy=>some ([],.bool true):R1) (GR κ A loc H p s (call (.builtin "isinstance") [u,.type "str"])):=.Mp (λk hk=>.sm λy Q E hQ=>(PV.b9 hk▸ru:RV κ p u (.str k)).aZ (R:=λu=>wpAny κ.M A (call (.builtin "isinstance") [u,.type "str"]) Q E s) λt y=>IsiPair.str_str (hQ p s _ I .refl (.bool true))) (.bs λi hi=>.cond (λhb=>.sm λy Q E hQ=>cY (I.obj ((cB hi).1▸ru) (cB hi).2) λb d e fL z=>cY z λes n ho UZ fe=>Eq.substr (p:=λu=>wpAny κ.M A (call (.builtin "isinstance") [u,.type "str"]) Q E s) e (wpAny_with_toks (Nat.le_refl s.toks) (kia_one (b:=false) (kitx_own (od:=dictOf es n) N.hg N.hd N.ha N.hn N.ht N.hm) I.hi.gV.1 (jm (Nat.eq_of_beq_eq_true hb▸ho) UZ) N.no (by intro q;cases q) λtk ht=>aj (I.toks (tk:=tk) ht) λI2 T2=>hQ p _ _ I2 T2 (.bool false)))) λy=>.no rfl)
theorem Hl (C:af κ A Γ) {IZ x st:Str} {c:Addr} (N:DT κ.g.K c) (h1:d7 Γ IZ=true) (g1:b6 κ.g IZ (.builtin "isinstance")) (h2:d7 Γ st=true) (g2:b6 κ.g st (.type "str")):di κ A ⟨Kz IZ x st ip xp tp pos,KA Γ c x⟩:=λloc H=>(show GO (KA Γ c x loc H) (fU κ A loc H (eval (Kz IZ x st ip xp tp pos) κ.env)) from .bs λa ha gd v h hg p s I Q E hQ=>by refine Call_ (cC C (aW C h1).1 I.hi.gV g1 (aW C h1).2 ?_);rw[bJ κ.env (es:=[.Name x xp,.Name st tp]) rfl,cW];refine aq ?_;show wpAny _ A (spliced [(false,eval (.Name x xp) κ.env),(false,eval (.Name st tp) κ.env)]) _ E s;exact spliced_cons (dK C ha p s I _ _ λp1 s1 u I1 T1 ru=>spliced_cons (cC C (aW C h2).1 I1.hi.gV g2 (aW C h2).2 (spliced_nil ((Hk N I1 ru gd v h hg).up T1 hQ))))
)
end
noncomputable def g8:Obj:={cls:=.type "builtin_function_or_method",data:=.fields #[.builtin "dict.fromkeys",.type "dict"]}
theorem Hm:typeOf (.builtin "dict.fromkeys")=pure (.type "classmethod_descriptor"):=by show builtinType _=_;rw[builtinType_eq_fast];kernel_rfl
theorem DU:entryFor table "dict.fromkeys"=some Builtin.«dict.fromkeys»:=entryFor_of_tree (by kernel_rfl)
theorem rN:entryFor table "dict.fromkeys.loop"=some Builtin.«dict.fromkeys.loop»:=entryFor_of_tree (by kernel_rfl)
theorem DV {as:Args}:(Code.builtin "dict.fromkeys" as).quiet=true:=Code.quiet_builtin _ (by decide +kernel)
theorem rO {as:Args}:(Code.builtin "dict.fromkeys.loop" as).quiet=true:=Code.quiet_builtin _ (by decide +kernel)
theorem rP:isType (.type "dict")=pure true:=by first | rfl | kernel_rfl
theorem DW:(kfb_private% "ownerAndName") "dict.fromkeys"=("dict","fromkeys"):=by first | decide +kernel | kernel_rfl
theorem Bm:typeOf (.type "dict")=pure (.type "type"):=by first | rfl | kernel_rfl
theorem Bn:Manifest.isStub "dict"=false:=by decide +kernel
theorem DX (x:Str) (t:Tok):checkBoundCall "dict.fromkeys" ⟨[.type "dict",.str x t],[]⟩=pure ():=by first | kernel_rfl | rfl
theorem pE:checkTypeCall "dict" ⟨[],[]⟩=pure ():=by kernel_rfl
theorem qX:checkBuiltinCall "dict.__new__" ⟨[.type "dict"],[]⟩=pure ():=by kernel_rfl
theorem nK (a:Value):argsOk "dict.__init__" ⟨[a],[]⟩:=by unfold argsOk;kernel_rfl
section
variable {prog:Program} {w:World} {A:Around} {E:Value→Shared→Prop} {s:Shared} {K:Frag}
theorem x5 {M:Model} {P:Fin→Shared→Prop} (h:P (.done (.ret (.ref s.heap.objs.size))) {s with heap:=s.heap.push g8}) : wpAny M A (Builtin.«classmethod_descriptor.__get__» ⟨[.builtin "dict.fromkeys",.none,.type "dict"],[]⟩) P E s:=by unfold Builtin.«classmethod_descriptor.__get__»;refine wpAny_bind (wpAny_of_eq (a:=(.builtin "dict.fromkeys",none,some (.type "dict"))) (by first | rfl | kernel_rfl) ?_);simp only[DW];refine wpAny_bind (wpAny_of_eq (a:=.type "dict") rfl ?_);refine wpAny_bind (wpAny_of_eq (a:=true) rP ?_);refine KFB.if_not rfl ?_;refine wpAny_bind (wpAny_of_eq (a:=true) PySem.F.kt_sub_dict ?_);refine KFB.if_not rfl ?_;exact wpAny_bind (wpAny_newObj_type (wpAny_pure h))
theorem Hn {pl:Sem Bool} {Q:Value×List Value→Shared→Prop} (X:K.In s.heap) (e:findCls K (.type "dict") (.type "type") "fromkeys"=some (.get (.builtin "classmethod_descriptor.__get__") (.builtin "dict.fromkeys") .none (.type "dict"))) (h:Q (.ref s.heap.objs.size,[]) {s with heap:=s.heap.push g8,toks:=s.toks+1}):wpAny (model prog w) A (getMethod (.type "dict") "fromkeys" pl) Q E s:=by
 have DN:opaqueClassAbove (.type "dict")=pure none:=by unfold opaqueClassAbove;dsimp only;rw[Bn];rfl
 have L0:Looks (model prog w) s.heap (typeOf (.type "dict")) (.type "type"):=Looks.of_pure Bm;have hg:findIn K (.type "type") "__getattribute__"=some (some (.builtin "type.__getattribute__")):=type_tga;unfold getMethod specialOf;refine wpAny_bind (wpAny_bind (L0.here ((looks_findIn X hg).here ?_)));dsimp only;rw[if_pos canon_tga];refine wpAny_bind (wpAny_mono (Q:=λv=>Q (v,[])) (E:=E) ?_ (λy y z=>wpAny_pure z) λy y z=>z);have LO:Looks (model prog w) s.heap (opaqueClassAbove (.type "dict")) none:=Looks.of_pure DN;refine cls_open X LO L0 hg (looks_hook X (r:=none) (by rfl)) (by show subIn K _ _=_;rfl) e ?_;show wpAny _ _ (holding [.builtin "dict.fromkeys"] (call (.builtin "classmethod_descriptor.__get__") [.builtin "dict.fromkeys",.none,.type "dict"]) >>= λv=>ret v) _ _ _;exact wpAny_bind (wpAny_holding (wpAny_call_entry KFB.slot_get Hm KFB.entry_get (x5 ⟨_,rfl,wpAny_pure (wpAny_pure h)⟩) (KFB.args_get _ _ _)))
theorem x6 (h:Q (.ref s.heap.objs.size) {s with heap:=s.heap.push emptyDict}):wpAny (model prog w) A (call (.type "dict") []) Q E s:=by
 refine callType_codes (Q₁:=λobj ag=>obj=.ref s.heap.objs.size∧ag={s with heap:=s.heap.push emptyDict}) PySem.F.kt_called_dict pE PySem.F.entry_dict_init ?_ λobj ag fq=>?_
 ·refine codeAny_call_builtin PySem.F.kt_plain_dict_new PySem.F.kt_entry_dict_new (wpAny_of_eq qX ?_);have Qh:=PySem.F.kt_sub_dict;have U0:=PySem.F.kt_mro_dict;obtain ⟨hp,g,d,tk,os⟩:=s;unfold Builtin.«dict.__new__»;wp_walk
  exact ⟨rfl,rfl⟩
 ·obtain ⟨rfl,rfl⟩:=fq;have ho:(s.heap.push emptyDict).get? s.heap.objs.size=some emptyDict:=Heap.get?_push_size _ rfl;have hT:Shared.TypeIs {s with heap:=s.heap.push emptyDict} (.ref s.heap.objs.size) "dict":=⟨_,ho,rfl⟩;refine ⟨hT,nK _,?_⟩;unfold Builtin.«dict.__init__»;refine wpAny_bind ?_;unfold Builtin.Dict.selfAndRest;refine wpAny_bind (wpAny_notOrdered_dict hT ?_);show wpAny _ _ (pure (s.heap.objs.size,[])) _ _ _;refine wpAny_pure ?_;exact wpAny_bind (wpAny_pure (wpAny_pure ⟨rfl,h⟩))
structure FK {T:Type} (f:Nat→T) (l:List Nat) (kvs:List (T×Value)):Prop where
 val:∀kv∈kvs,kv.2=.none∧∃c∈l,kv.1=f c
 all:∀c∈l,∃kv∈kvs,kv.1=f c
 len:kvs.length≤l.length
noncomputable def tq (c:Nat):Str:=⟨#[c]⟩
abbrev NG (l:List Nat) (kvs:List (Str×Value)):Prop:=FK tq l kvs
theorem FK.snoc {T:Type} [DecidableEq T] {f:Nat→T} {l:List Nat} {kvs:List (T×Value)} (F:FK f l kvs) (c:Nat):FK f (l++[c]) (stored kvs (f c) .none):=by
 unfold stored
 split
 ·rename_i h;refine ⟨λkv QU=>?_,λc' y6=>?_,?_⟩
  ·refine aG (List.mem_map.mp QU) λQV h1 eq2=>?_;subst eq2;refine aj (F.val QV h1) λh2 ae=>?_;refine aG ae λc' h3 h4=>?_;split
   ·exact ⟨rfl,c',List.mem_append_left _ h3,h4⟩
   ·exact ⟨h2,c',List.mem_append_left _ h3,h4⟩
  ·rcases List.mem_append.mp y6 with h' | h'
   ·refine aG (F.all c' h') λkv h1 h2=>?_;exact ⟨_,List.mem_map.mpr ⟨kv,h1,rfl⟩,by split <;> exact h2⟩
   ·rw[List.mem_singleton.mp h'];refine aG (List.any_eq_true.mp h) λkv h1 h2=>?_;have h2:=of_decide_eq_true h2;exact ⟨_,List.mem_map.mpr ⟨kv,h1,rfl⟩,by split <;> exact h2⟩
  ·rw[List.length_map,List.length_append];exact Nat.le_trans F.len (Nat.le_add_right _ _)
 ·refine ⟨λkv QU=>?_,λc' y6=>?_,?_⟩
  ·rcases List.mem_append.mp QU with h1 | h1
   ·refine aj (F.val kv h1) λh2 ae=>?_;refine aG ae λc' h3 h4=>?_;exact ⟨h2,c',List.mem_append_left _ h3,h4⟩
   ·rw[List.mem_singleton.mp h1];exact ⟨rfl,c,List.mem_append_right _ (List.mem_singleton.mpr rfl),rfl⟩
  ·rcases List.mem_append.mp y6 with h' | h'
   ·refine aG (F.all c' h') λkv h1 h2=>?_;exact ⟨kv,List.mem_append_left _ h1,h2⟩
   ·rw[List.mem_singleton.mp h'];exact ⟨_,List.mem_append_right _ (List.mem_singleton.mpr rfl),rfl⟩
  ·rw[List.length_append,List.length_append];exact Nat.add_le_add_right F.len _
theorem DictOf.keep {knd:KeyKind prog w Str} {kvs:List (Str×Value)} (D:h.DictOf knd d kvs) (k:∀o,h.get? d=some o→h'.get? d=some o):h'.DictOf knd d kvs:=IC D λo es ep e r=>⟨o,es,ep,k o e,r⟩
theorem Ho {x:Str} (W:Walks prog w A.in1 I [I] [I] x.cps.size (SignAt x) St) (QW:d≠I) (hz:x.cps.size≤sizeLine) : ∀(k i:Nat) (s:Shared) (kvs:List (Str×Value)),x.cps.size - i=k→i≤x.cps.size→St i s.heap→s.heap.DictOf (strKind prog w) d kvs→NG (x.cps.toList.take i) kvs→ (∀h' tk NH,(∀b o,b≠d→b≠I→s.heap.get? b=some o→h'.get? b=some o)→h'.DictOf (strKind prog w) d NH→NG x.cps.toList NH→R (.ok (.ret (.ref d))) {s with heap:=h',toks:=tk})→ codeAny (model prog w) A (.builtin "dict.fromkeys.loop" ⟨[.ref d,.ref I,.none],[]⟩) R s:=by
 have plain:plainId "dict.fromkeys.loop"=true:=by decide +kernel
 intro k;induction k with
 | zero=>
  intro i s kvs hk hi KC hD F hR;have U1:i=x.cps.size:=by lia
  subst U1;refine codeAny_builtin rN ?_;rw[Around.under_plainId plain _];show wpAny _ A.in1 (pyNext (.ref I) >>= _) _ _ s;refine wpAny_bind (W.done s _ _ KC λh' tk o5=>?_);refine wpAny_pure (hR h' tk kvs (λb o y hb e=>o5 b o (λz=>hb (List.mem_singleton.mp z)) e) (DictOf.keep hD λo e=>o5 d o (λz=>QW (List.mem_singleton.mp z)) e) ?_);rwa[←Array.length_toList,List.take_length] at F
 | succ k ih=>
  intro i s kvs hk hi KC hD F hR;have om:i<x.cps.size:=by lia
  refine codeAny_builtin rN ?_;rw[Around.under_plainId plain _];show wpAny _ A.in1 (pyNext (.ref I) >>= _) _ _ s;refine wpAny_bind (W.item i s _ _ om KC λv h' tk hP QX o5=>?_);refine gU hP λc u hc eq3=>?_;subst eq3;have My:h'.DictOf (strKind prog w) d kvs:=DictOf.keep hD λo e=>o5 d o (λz=>QW (List.mem_singleton.mp z)) e;have U2:kvs.length≤sizeLine:=by have h1:=F.len;rw[List.length_take,Array.length_toList] at h1;exact Nat.le_trans h1 (Nat.le_trans (Nat.min_le_right _ _) hz)
  refine wpAny_bind (wpAny_typeOf (T:="dict") (s:={s with heap:=h',toks:=tk}) My.typeIs ?_);rw[if_pos (by decide)];refine wpAny_bind (wpAny_of_eq (a:=d) rfl (wpAny_bind (wpAny_holding (wpAny_dictSet_pairs (hsz:=U2) (kvs:=kvs) (k:=⟨#[c]⟩) (strKind_is prog w _ u) My λh2 QY sb=>?_))));refine wpAny_pure ⟨rO,?_⟩;have QZ:St (i+1) h2:=W.frame _ _ _ QX λb hb o e=>by have:=List.mem_singleton.mp hb;subst this;exact (sb.2 b (Ne.symm QW)).trans e
  have snoc:x.cps.toList.take (i+1)=x.cps.toList.take i++[c]:=by rw[List.take_add_one,Array.getElem?_toList,hc];rfl
  exact ih (i+1) {s with heap:=h2,toks:=tk+1} _ (by lia) om QZ QY (snoc▸F.snoc c) λh3 U3 Q0 k3 D3 F3=>hR h3 U3 Q0 (λb o n1 n2 e=>k3 b o n1 n2 ((sb.2 b n1).trans (o5 b o (λz=>n2 (List.mem_singleton.mp z)) e))) D3 F3
theorem Hq {x:Str} {u:Addr} {t:Tok} (hh:A.handled=Option.none) (ho:s.heap.get? u=some g8) (hz:x.cps.size≤sizeLine) (h:∀h' d tk kvs,(∀b o,s.heap.get? b=some o→h'.get? b=some o)→s.heap.get? d=Option.none→h'.DictOf (strKind prog w) d kvs→NG x.cps.toList kvs→(d==sysModules)=false∨s.heap.objs.size≤d→Q (.ref d) {s with heap:=h',toks:=tk}):wpAny (model prog w) A (call (.ref u) [.str x t]) Q E s:=by
 refine wpAny_call (codeAny_of_tree ?_);show wpAny _ A.in1 (callAny (.ref u) ⟨[.str x t],[]⟩) _ _ s;unfold callAny;refine wpAny_bind (wpAny_load ho ?_);refine KFB.if_so (by decide) ?_;refine wpAny_bind (wpAny_of_eq (a:=()) (DX x t) ?_);refine wpAny_bind (wpAny_pure (wpAny_pure ?_));refine ⟨DV,codeAny_builtin DU ?_⟩;rw[Around.under_plainId (by decide +kernel) _];unfold Builtin.«dict.fromkeys»;refine wpAny_bind (wpAny_of_eq (a:=true) rP ?_);refine KFB.if_not rfl ?_;refine wpAny_bind (wpAny_of_eq (a:=true) PySem.F.kt_sub_dict ?_);refine KFB.if_not rfl ?_;refine KFB.if_not rfl ?_;refine wpAny_bind (wpAny_rule (wpAny_bind (wpAny_pure ?_)));dsimp only;refine wpAny_bind (x6 ?_);have hd:(s.heap.push emptyDict).get? s.heap.objs.size=some emptyDict:=Heap.get?_push_size _ rfl;have Q1:(s.heap.push emptyDict).DictOf (strKind prog w) s.heap.objs.size []:=Heap.DictOf.new s.heap;refine wpAny_holding ?_;refine wpAny_bind (wpAny_typeOf (T:="str") (typeIs_str _ x t) ?_);refine wpAny_bind (wpAny_typeOf (T:="dict") Q1.typeIs ?_);refine KFB.if_not (by decide) ?_;refine wpAny_bind (wpAny_typeOf (T:="dict") Q1.typeIs ?_);refine KFB.if_not (by decide) ?_;refine wpAny_bind (wpAny_pyIter_str λo St W U4=>wpAny_pure ⟨rO,?_⟩);have xh:s.heap.objs.size≠(s.heap.push emptyDict).objs.size:=by rw[Heap.size_push];exact Nat.ne_of_lt (Nat.lt_succ_self _)
 refine Ho (W _ hh) xh hz x.cps.size 0 _ [] (Nat.sub_zero _) (Nat.zero_le _) U4 (DictOf.keep Q1 λo e=>az _ _ _ o e) ⟨λz h=>(nomatch h),λz h=>(nomatch h),Nat.zero_le _⟩ λh' tk kvs k D F=>?_;refine h h' s.heap.objs.size tk kvs (λb o e=>?_) (bA _) D F (.inr (Nat.le_refl _));have hb:=Heap.lt_size e;exact k b o (Nat.ne_of_lt hb) (by rw[Heap.size_push];exact Nat.ne_of_lt (Nat.lt_succ_of_lt hb)) (az _ _ b o (az _ _ b o e))
end
theorem I0:typeLookup (.type "str") "maketrans"=pure (some (.builtin "str.maketrans")):=by rw[typeLookup_type,builtinLookup_eq_fast];kernel_rfl
theorem Bo:typeLookup (.type "str") "__getattr__"=pure none:=by rw[typeLookup_type,builtinLookup_eq_fast];kernel_rfl
theorem zq:typeOf (.builtin "str.maketrans")=pure (.type "builtin_function_or_method"):=by show builtinType _=_;rw[builtinType_eq_fast];kernel_rfl
theorem Bp:typeLookup (.type "builtin_function_or_method") "__get__"=pure none:=by rw[typeLookup_type,builtinLookup_eq_fast];kernel_rfl
theorem DY:entryFor table "str.maketrans"=some Builtin.«str.maketrans»:=entryFor_of_tree (by kernel_rfl)
section
variable {prog:Program} {w:World} {A:Around} {E:Value→Shared→Prop} {h:Heap} {g:Array GenState} {d:Drawn} {t:Nat} {os:OsState} {x:Str} {u:Tok}
theorem DZ {tk:Tok} {Q:Fin→Shared→Prop} (hq:Q (.done (.ret (.builtin "str.maketrans"))) ⟨h,g,d,t,os⟩) : wpAny (model prog w) A (Builtin.«object.__getattribute__» ⟨[.str x u,.str "maketrans" tk],[]⟩) Q E ⟨h,g,d,t,os⟩:=by
 have hT:(⟨h,g,d,t,os⟩:Shared).TypeIs (.str x u) "str":=rfl;have VE:(⟨h,g,d,t,os⟩:Shared).TypeIs (.builtin "str.maketrans") "builtin_function_or_method":=zq;have f4:=I0;have f6:=Bp
 repeat (any_goals (first | assumption | wp_step))
theorem Hr {tk:Tok} (hq:R (.ok (.ret (.builtin "str.maketrans"))) ⟨h,g,d,t,os⟩) : codeAny (model prog w) A (.call (.builtin "object.__getattribute__") ⟨[.str x u,.str "maketrans" tk],[]⟩) R ⟨h,g,d,t,os⟩:=codeAny_call_builtin F.slot_str_getattribute.plain F.entry_object_getattribute (F.slot_str_getattribute.check _ _ _ _ _ _ _ _ (show (⟨h,g,d,t,os⟩:Shared).TypeIs (.str x u) "str" from rfl) (F.args_object_getattribute_2 _ _) (DZ hq))
theorem Hs (hq:Q (.builtin "str.maketrans") ⟨h,g,d,t+1,os⟩):wpAny (model prog w) A (getAttr (.str x u) "maketrans") Q E ⟨h,g,d,t,os⟩:=by
 have f2:=F.slot_str_getattribute.lookup;have f3:=F.slot_str_getattribute.bind (.str x u);have hT:(⟨h,g,d,t,os⟩:Shared).TypeIs (.str x u) "str":=rfl;unfold getAttr getAttrBy
 repeat (any_goals (first | assumption | ((with_reducible show wpAny _ _ (call (Value.builtin "object.__getattribute__") _ _) _ _ _);refine wpAny_call (Hr ?_)) | wp_step))
theorem Ht {s:Shared} {pl:Sem Bool} {Q:Value×List Value→Shared→Prop} (hq:Q (.builtin "str.maketrans",[]) {s with toks:=s.toks+1}):wpAny (model prog w) A (getMethod (.str x u) "maketrans" pl) Q E s:=by obtain ⟨h,g,d,t,os⟩:=s;have f2:=F.slot_str_getattribute.lookup;unfold getMethod specialOf;refine wpAny_bind (wpAny_bind (wpAny_typeOf (T:="str") rfl (wpAny_of_eq f2 ?_)));dsimp only;rw[if_neg (by decide +kernel)];refine wpAny_bind (wpAny_bind (wpAny_typeOf (T:="str") rfl (wpAny_of_eq Bo ?_)));rw[if_neg (by decide)];refine wpAny_bind (wpAny_bind (wpAny_typeOf (T:="str") rfl (wpAny_of_eq I0 ?_)));dsimp only;refine wpAny_bind (wpAny_of_eq zq ?_);rw[if_pos (by decide)];exact wpAny_bind (Hs (wpAny_pure hq))
end
open Builtin.Str (Mapped)
theorem x7:isSubtype (.type "KeyError") (.type "LookupError")=pure true:=by rw[isSubtype_type];kernel_rfl
theorem Hu (ks:List Nat) (c:Nat):qG ks (c:Int)=if ks.any (λb=>Nat.beq b c) then some .none else Option.none:=by
 unfold qG;have:(λb:Nat=>decide ((c:Int)=(b:Int)))=λb=>Nat.beq b c:=by
  funext b
  rw[Bool.eq_iff_iff,decide_eq_true_iff,Nat.beq_eq];exact ⟨λh=>(Int.ofNat.inj h).symm,λh=>congrArg _ h.symm⟩
 rw[this]
noncomputable def bT (ks xs:List Nat):List Nat:=xs.filter λc=>!ks.any (λb=>Nat.beq b c)
section
variable {prog:Program} {w:World} {A:Around} {E:Value→Shared→Prop} {s:Shared} {x:Str} {u:Tok} {T:Addr} {ks:List Nat}
abbrev pF (prog:Program) (w:World) (T:Addr) (ks:List Nat) (h:Heap):Prop:=h.MapOf (intKind prog w) T (qG ks)
theorem pF.keep (M:pF prog w T ks h) (k:∀b o,h.get? b=some o→h'.get? b=some o):pF prog w T ks h':=IC M λo es ep e r=>⟨o,es,ep,k T o e,r⟩
theorem zr {Q:Mapped→Shared→Prop} (hh:A.handled=Option.none) (hd:(T==sysModules)=false) (hm:pF prog w T ks s.heap) (hQ:∀h' tk,(∀b o,s.heap.get? b=some o→h'.get? b=some o)→s.toks≤tk→Q (if ks.any (λb=>Nat.beq b c) then .drop else .keep) {s with heap:=h',toks:=tk}):wpAny (model prog w) A (Builtin.Str.tableLookup (.ref T) c) Q E s:=by unfold Builtin.Str.tableLookup;have hv:=Hu ks c;refine wpAny_bind (wpAny_attempt (wpAny_bind (wpAny_mkInt ?_)));induction hb:ks.any (λb=>Nat.beq b c) with|true=>rw[hb] at hv hQ;refine wpAny_getItem_of (knd:=intKind prog w) (k:=(c:Int)) (intKind_is prog w _ _) hm hv ?_;exact wpAny_pure (hQ _ _ (λz z e=>e) (Nat.le_succ_of_le (Nat.le_succ _)))|false=>rw[hb] at hv hQ;refine wpAny_getItem_missing_of (knd:=intKind prog w) (k:=(c:Int)) (intKind_is prog w _ _) hd hh hm hv λh' e ne=>?_;refine cY ne.there λob t h1 h2 z=>?_;refine wpAny_bind (wpAny_isInstance (T:="KeyError") ⟨ob,h1,h2⟩ x7 ?_);rw[if_pos rfl];exact wpAny_bind (wpAny_rule (wpAny_pure (hQ _ _ ne.keeps (Nat.le_succ_of_le (Nat.le_succ _)))))
noncomputable def w8 (ks done:List Nat):List Str:=((bT ks done).map tq).reverse
theorem pG (ks done:List Nat) (c:Nat):bT ks (done++[c])=if ks.any (λb=>Nat.beq b c) then bT ks done else bT ks done++[c]:=by unfold bT;rw[List.filter_append];induction h:ks.any (λb=>Nat.beq b c) with|true=>rw[List.filter_cons_of_neg (by simp[h])];exact List.append_nil _|false=>rw[List.filter_cons_of_pos (by simp[h])];rfl
theorem vP:∀(l:List Nat) (acc:Array Nat),(l.map tq).foldl (λacc p=>acc++p.cps) acc=acc++l.toArray|[],acc=>by simp|c::r,acc=>by rw[List.map_cons,List.foldl_cons,vP r];simp[tq]
structure qY (ks xs:List Nat) (s:Shared) (done rest:List Nat) (n:Nat) (ag:Shared):Prop where
 all:done++rest=xs
 len:n=(bT ks done).length
 run:∃h' tk,ag={s with heap:=h',toks:=tk}∧(∀b o,s.heap.get? b=some o→h'.get? b=some o)∧s.toks≤tk
def jr (ks:List Nat) (known:List (Nat×Option Nat)):Prop:=∀c a,known.lookup c=some a→a=if ks.any (λb=>Nat.beq b c) then Option.none else some c
theorem js (ks xs:List Nat):(bT ks xs).length≤xs.length:=List.length_filter_le _ _
theorem D0 (h:n≤sizeLine):Builtin.Str.tooLong n=false:=by unfold Builtin.Str.tooLong;exact decide_eq_false (Nat.not_lt.mpr h)
theorem qY.ok {xs:List Nat} {s:Shared} {rest:List Nat} (X:qY ks xs s done rest n ag) (hz:xs.length≤sizeLine):Builtin.Str.tooLong n=false:=by refine D0 ?_;rw[X.len];refine Nat.le_trans (js ks done) (Nat.le_trans ?_ hz);rw[←X.all,List.length_append];exact Nat.le_add_right _ _
theorem qY.keep {xs:List Nat} {s:Shared} {rest:List Nat} (X:qY ks xs s done (c::rest) n ag) {tk:Nat} (kp:∀b o,ag.heap.get? b=some o→h'.get? b=some o) (ht:ag.toks≤tk) (e:m=(bT ks (done++[c])).length):qY ks xs s (done++[c]) rest m {ag with heap:=h',toks:=tk}:=by refine cY X.run λh1 t1 eq2 k1 l1=>?_;subst eq2;exact ⟨by rw[List.append_assoc];exact X.all,e,h',tk,rfl,λb o q=>kp b o (k1 b o q),Nat.le_trans l1 ht⟩
theorem md (h:ks.any (λb=>Nat.beq b c)=false):bT ks (done++[c])=bT ks done++[c]:=by rw[pG,h];rfl
theorem mf (h:ks.any (λb=>Nat.beq b c)=true):bT ks (done++[c])=bT ks done:=by rw[pG,h];rfl
theorem vQ (h:ks.any (λb=>Nat.beq b c)=false):w8 ks (done++[c])=tq c::w8 ks done:=by unfold w8;rw[md h];simp
theorem vR (h:ks.any (λb=>Nat.beq b c)=true):w8 ks (done++[c])=w8 ks done:=by unfold w8;rw[mf h]
theorem pH {known:List (Nat×Option Nat)} {a:Option Nat} (hk:jr ks known) (ha:a=if ks.any (λb=>Nat.beq b c) then Option.none else some c):jr ks ((c,a)::known):=λc' a' h=>by
 rw[List.lookup_cons] at h;induction hc:c'==c with
 | true=>rw[hc] at h;obtain rfl:=Option.some.inj h;rw[beq_iff_eq.mp hc];exact ha
 | false=>rw[hc] at h;exact hk c' a' h
theorem KD {xs:List Nat} {Q:PySem.Fin→Shared→Prop} (hh:A.handled=Option.none) (hd:(T==sysModules)=false) (hm:pF prog w T ks s.heap) (hz:xs.length≤sizeLine) (xh:xs≠[]) (hQ:∀h' tk t,(∀b o,s.heap.get? b=some o→h'.get? b=some o)→s.toks≤tk→Q (.done (.ret (.str (S (bT ks xs)) t))) {s with heap:=h',toks:=tk}):wpAny (model prog w) A (Builtin.«str.translate» ⟨[.str (S xs) u,.ref T],[]⟩) Q E s:=by
 unfold Builtin.«str.translate»;refine wpAny_bind (wpAny_of_eq (a:=(.str (S xs) u,S xs,.ref T)) (by first | rfl | kernel_rfl) ?_);refine KFB.if_not (by rw[a9];exact beq_eq_false_iff_ne.mpr λz=>xh (List.length_eq_zero_iff.mp z)) ?_;have fin:∀(l:List Str) n ag,l=w8 ks xs→qY ks xs s xs [] n ag→wpAny (model prog w) A (do
   if Builtin.Str.tooLong n then unsupported "str.translate:memory"
   retStr ⟨l.reverse.foldl (λacc p=>acc++p.cps) #[]⟩) Q E ag:=λl n ag hl X=>by
  refine KFB.if_not (X.ok hz) ?_
  refine cY X.run λh' tk eq2 kp ht=>?_;subst eq2
  have e:l.reverse.foldl (λacc p=>acc++p.cps) #[]=(bT ks xs).toArray:=by rw[hl,w8,List.reverse_reverse,vP];simp
  rw[e]
  refine wpAny_bind (wpAny_mkStr ?_ (by rw[a9];exact Nat.le_trans (js ks xs) hz))
  exact wpAny_pure (hQ _ _ _ kp (Nat.le_succ_of_le ht))
 refine wpAny_bind ?_;induction (S xs).cps.all λc=>decide (c<128) with
 | true=>
  refine wpAny_forIn_array' _ (λrest b ag=>∃done known,b=(w8 ks done,(bT ks done).length,true,known,false)∧jr ks known∧qY ks xs s done rest (bT ks done).length ag) _ ?_ ?_ _ _ ?_
  ·intro c rest b ag ⟨dg,known,hb,hk,X⟩;subst hb;refine KFB.if_not (X.ok hz) ?_;refine KFB.if_so rfl ?_;have go:∀(a:Option Nat) mh cU,a=(if ks.any (λb=>Nat.beq b c) then Option.none else some c)→jr ks mh→(∃h' tk,cU={ag with heap:=h',toks:=tk}∧(∀b o,ag.heap.get? b=some o→h'.get? b=some o)∧ag.toks≤tk)→ ∃done known,(match a with | some d=>(⟨#[d]⟩::w8 ks dg,(bT ks dg).length+1,true,mh,false) | Option.none=>(w8 ks dg,(bT ks dg).length,true,mh,false))=(w8 ks done,(bT ks done).length,true,known,false)∧jr ks known∧qY ks xs s done rest (bT ks done).length cU:=λa mh cU ha o5 z=>cY z λh' tk e kp ht=>by subst e;induction hb:ks.any (λb=>Nat.beq b c) with|true=>rw[hb] at ha;have ha:a=Option.none:=ha;subst ha;exact ⟨dg++[c],mh,by rw[vR hb,mf hb],o5,X.keep kp ht rfl⟩|false=>rw[hb] at ha;have ha:a=some c:=ha;subst ha;exact ⟨dg++[c],mh,by rw[vQ hb,md hb,List.length_append];rfl,o5,X.keep kp ht rfl⟩
   induction hl:known.lookup c with
   | some a=>refine wpAny_bind (wpAny_pure ?_);have g:=go a known _ (hk c a hl) hk ⟨_,_,rfl,λy y e=>e,Nat.le_refl _⟩;induction a with|some d=>exact wpAny_pure g|none=>exact wpAny_pure g
   | none=>refine cY X.run λh1 t1 e1 k1 y=>?_;refine wpAny_bind (zr hh hd (by rw[e1];exact hm.keep k1) λh2 t2 k2 l2=>?_);induction hb:ks.any (λb=>Nat.beq b c) with|true=>have g:=go Option.none ((c,Option.none)::known) {ag with heap:=h2,toks:=t2} (by rw[hb];rfl) (pH hk (by rw[hb];rfl)) ⟨_,_,rfl,k2,l2⟩;exact wpAny_bind (wpAny_pure (wpAny_pure g))|false=>have g:=go (some c) ((c,some c)::known) {ag with heap:=h2,toks:=t2} (by rw[hb];rfl) (pH hk (by rw[hb];rfl)) ⟨_,_,rfl,k2,l2⟩;exact wpAny_bind (wpAny_pure (wpAny_pure g))
  ·intro b ag ⟨done,known,hb,hk,X⟩;subst hb;have:=X.all;rw[List.append_nil] at this;subst this;exact fin _ _ _ rfl X
  ·exact ⟨[],[],rfl,(λy y h=>nomatch h:jr ks []),rfl,rfl,_,_,rfl,λy y e=>e,Nat.le_refl _⟩
 | false=>
  refine wpAny_forIn_array' _ (λrest b ag=>∃done ad,b=(w8 ks done,(bT ks done).length,false,[],ad)∧qY ks xs s done rest (bT ks done).length ag) _ ?_ ?_ _ _ ?_
  ·intro c rest b ag ⟨dg,ad,hb,X⟩;subst hb;refine KFB.if_not (X.ok hz) ?_;refine KFB.if_not rfl ?_;have Q3:∀cU {Q':Mapped→Shared→Prop},(∃h' tk,cU={ag with heap:=h',toks:=tk}∧(∀b o,ag.heap.get? b=some o→h'.get? b=some o)∧ag.toks≤tk)→ (∀h' tk,(∀b o,ag.heap.get? b=some o→h'.get? b=some o)→ag.toks≤tk→Q' (if ks.any (λb=>Nat.beq b c) then .drop else .keep) {ag with heap:=h',toks:=tk})→wpAny (model prog w) A (Builtin.Str.tableLookup (.ref T) c) Q' E cU:=λcU Q' ⟨h2,t2,e2,k2,l2⟩ hQ=>by refine cY X.run λh1 t1 e1 k1 y=>?_;subst e2;refine zr hh hd ((by rw[e1];exact hm.keep k1:pF prog w T ks ag.heap).keep k2) λh3 t3 k3 l3=>hQ h3 t3 (λb o e=>k3 b o (k2 b o e)) (Nat.le_trans l2 l3)
   have one:∀(cU:Shared) (NI:Bool),(∃h' tk,cU={ag with heap:=h',toks:=tk}∧(∀b o,ag.heap.get? b=some o→h'.get? b=some o)∧ag.toks≤tk)→ ∃done ad,(if ks.any (λb=>Nat.beq b c) then (w8 ks dg,(bT ks dg).length,false,([]:List (Nat×Option Nat)),NI) else (⟨#[c]⟩::w8 ks dg,(bT ks dg).length+1,false,([]:List (Nat×Option Nat)),NI))=(w8 ks done,(bT ks done).length,false,[],ad)∧qY ks xs s done rest (bT ks done).length cU:=λcU NI ⟨h',tk,e,kp,ht⟩=>by subst e;induction hb:ks.any (λb=>Nat.beq b c) with|true=>exact ⟨dg++[c],NI,by rw[vR hb,mf hb];rfl,X.keep kp ht rfl⟩|false=>exact ⟨dg++[c],NI,by rw[vQ hb,md hb,List.length_append];rfl,X.keep kp ht rfl⟩
   induction ad with
   | false=>refine KFB.if_not rfl ?_;refine wpAny_bind (Q3 ag ⟨_,_,rfl,λy y e=>e,Nat.le_refl _⟩ λh3 t3 k3 l3=>?_);induction hb:ks.any (λb=>Nat.beq b c) with|true=>rw[hb] at one;exact wpAny_pure (one _ true ⟨_,_,rfl,k3,l3⟩)|false=>rw[hb] at one;exact wpAny_pure (one _ false ⟨_,_,rfl,k3,l3⟩)
   | true=>refine KFB.if_so rfl ?_;refine wpAny_bind (Q3 ag ⟨_,_,rfl,λy y e=>e,Nat.le_refl _⟩ λh3 t3 k3 l3=>?_);induction hb:ks.any (λb=>Nat.beq b c) with|true=>rw[hb] at one;exact wpAny_pure (one _ true ⟨_,_,rfl,k3,l3⟩)|false=>refine wpAny_bind (Q3 _ ⟨_,_,rfl,k3,l3⟩ λh4 t4 k4 l4=>?_);rw[hb] at one ⊢;exact wpAny_pure (one _ false ⟨_,_,rfl,k4,l4⟩)
  ·intro b ag ⟨done,ad,hb,X⟩;subst hb;have:=X.all;rw[List.append_nil] at this;subst this;exact fin _ _ _ rfl X
  ·exact ⟨[],false,rfl,rfl,rfl,_,_,rfl,λy y e=>e,Nat.le_refl _⟩
end
theorem x8 {ls:List Nat} (h:∀c,c∈ls↔c∈ks) (i:Int):qG ls i=qG ks i:=by
 unfold qG;have:ls.any (λc=>decide (i=(c:Int)))=ks.any (λc=>decide (i=(c:Int))):=by rw[Bool.eq_iff_iff,List.any_eq_true,List.any_eq_true];exact ⟨λ⟨c,a,b⟩=>⟨c,(h c).mp a,b⟩,λ⟨c,a,b⟩=>⟨c,(h c).mpr a,b⟩⟩
 rw[this]
theorem FK.at {ls:List Nat} {ps:List (Int×Value)} (F:FK (λc:Nat=>(c:Int)) ls ps) (i:Int):valueAt ps i=qG ls i:=by
 unfold valueAt qG;induction h:ps.find? (λkv=>decide (kv.1=i)) with|some kv=>refine aj (F.val kv (List.mem_of_find?_eq_some h)) λh1 ae=>?_;refine aG ae λc hc h2=>?_;have h3:kv.1=i:=of_decide_eq_true (List.find?_some (p:=λkv:Int×Value=>decide (kv.1=i)) h);rw[if_pos (List.any_eq_true.mpr ⟨c,hc,decide_eq_true (h3.symm.trans h2)⟩),Option.map_some,h1]|none=>
  rw[if_neg λq=>?_];· rfl
  refine aG (List.any_eq_true.mp q) λc hc h2=>?_;refine aG (F.all c hc) λkv h3 h4=>?_;have h5:=List.find?_eq_none.mp h kv h3;exact h5 (decide_eq_true (h4.trans (of_decide_eq_true h2).symm))
section
variable {prog:Program} {w:World} {A:Around} {E:Value→Shared→Prop} {s:Shared} {x:Str} {u:Tok} {d:Addr} {ks:List Nat} {kvs:List (Str×Value)}
theorem D1:plainId "str.maketrans"=true:=by decide +kernel
theorem D2 (d:Value):checkBuiltinCall "str.maketrans" ⟨[d],[]⟩=pure ():=by kernel_rfl
structure Q4 (prog:Program) (w:World) (s:Shared) (kvs:List (Str×Value)) (T:Addr) (rest:List DictEntry) (ag:Shared):Prop where
 go:∃kd kr ls ps h' tk,kvs=kd++kr∧Pairs (strKind prog w) rest kr∧(∀c,c∈ls↔∃kv∈kd,kv.1=tq c)∧FK (λc:Nat=>(c:Int)) ls ps∧ls.length=kd.length∧ ag={s with heap:=h',toks:=tk}∧(∀b o,s.heap.get? b=some o→h'.get? b=some o)∧s.toks≤tk∧h'.DictOf (intKind prog w) T ps
theorem vS {a b:Nat} (h:tq a=tq b):a=b:=by have:(#[a]:Array Nat)=#[b]:=congrArg Str.cps h;have:=congrArg (λz:Array Nat=>z.toList) this;exact List.head_eq_of_cons_eq this
theorem KG {Q:PySem.Fin→Shared→Prop} (hD:s.heap.DictOf (strKind prog w) d kvs) (F:NG ks kvs) (hd:(d==sysModules)=false) (hz:kvs.length≤sizeLine) (hQ:∀h' tk T,(∀b o,s.heap.get? b=some o→h'.get? b=some o)→s.toks≤tk→s.heap.get? T=Option.none→s.heap.objs.size≤T→pF prog w T ks h'→Q (.done (.ret (.ref T))) {s with heap:=h',toks:=tk}) : wpAny (model prog w) A (Builtin.«str.maketrans» ⟨[.ref d],[]⟩) Q E s:=by
 unfold Builtin.«str.maketrans»;refine wpAny_bind (wpAny_of_eq (a:=()) rfl (wpAny_bind (wpAny_of_eq (a:=()) rfl ?_)));refine wpAny_bind (wpAny_of_eq (a:=Option.none) rfl (wpAny_bind (wpAny_of_eq (a:=Option.none) rfl ?_)));refine wpAny_bind (wpAny_newObj_type ?_ (Nat.zero_le _));have My:(s.heap.push emptyDict).DictOf (strKind prog w) d kvs:=DictOf.keep hD λo e=>az _ _ _ o e;refine wpAny_bind (wpAny_holding ?_);dsimp only;refine wpAny_bind (wpAny_typeOf (T:="dict") My.typeIs (wpAny_bind (wpAny_of_eq (a:=()) rfl ?_)));refine wpAny_bind (wpAny_typeOf (T:="dict") My.typeIs ?_);refine KFB.if_not (by decide) ?_;refine wpAny_bind ?_;unfold notTheModulesDict;rw[hd];refine wpAny_pure ?_;refine Sn My λo es ep ho hc U5 hk hp hn=>?_;refine wpAny_bind (wpAny_dictEntries (s:={s with heap:=s.heap.push emptyDict}) ho U5 ?_);refine wpAny_bind (wpAny_forIn_array' _ (λrest y ag=>Q4 prog w s kvs s.heap.objs.size rest ag) _ ?_ ?_ _ _ ?_)
 ·intro e rest b ag X;refine Sq X.go λkd kr ls ps h' tk h1 h2 ae=>?_;refine MK ae λh3 h4 h5 bX h6 h7 h8=>?_;subst bX;cases h2 with|@cons _ kv _ kr he hv hr=>
  refine aj (F.val kv (by rw[h1];exact List.mem_append_right _ List.mem_cons_self)) λq1 ae=>?_;refine aG ae λc VF q2=>?_
  refine bZ (Value.isStrOf_shape he) λt hs=>?_
  refine wpAny_bind (wpAny_of_eq (a:=some (tq c)) (by rw[hs,q2];rfl) ?_)
  refine wpAny_bind (wpAny_bind (wpAny_fresh (wpAny_pure ?_)))
  have hl:ps.length≤sizeLine:=Nat.le_trans h4.len (Nat.le_trans (Nat.le_of_eq h5) (Nat.le_trans (by rw[h1,List.length_append];exact Nat.le_add_right _ _) hz))
  refine wpAny_bind (wpAny_dictSet_pairs (hsz:=hl) (intKind_is prog w (c:Int) tk) h8 λh2 QY sb=>wpAny_pure ?_)
  refine ⟨kd++[kv],kr,ls++[c],_,h2,tk+1+1,by rw[h1,List.append_assoc];rfl,hr,λc'=>?_,?_,by rw[List.length_append,List.length_append,h5];rfl,rfl,λb o e=>?_,Nat.le_succ_of_le (Nat.le_succ_of_le h7),QY⟩
  ·rw[List.mem_append,h3 c'];exact ⟨λh=>h.elim (λ⟨kv,a,b⟩=>⟨kv,List.mem_append_left _ a,b⟩) λa=>⟨kv,List.mem_append_right _ (List.mem_singleton.mpr rfl),by rw[List.mem_singleton.mp a];exact q2⟩,λ⟨QV,a,b⟩=>(List.mem_append.mp a).elim (λz=>.inl ⟨QV,z,b⟩) λz=>.inr (List.mem_singleton.mpr (vS (by rw[←b,List.mem_singleton.mp z];exact q2)))⟩
  ·rw[hv,q1];exact h4.snoc c
  ·exact (sb.2 b (Nat.ne_of_lt (Heap.lt_size e))).trans (h6 b o e)
 ·intro b ag X;refine Sq X.go λkd kr ls ps h' tk h1 h2 ae=>?_;refine MK ae λh3 h4 h5 bX h6 h7 h8=>?_;subst bX;cases h2;rw[List.append_nil] at h1;subst h1;refine wpAny_pure (wpAny_pure (hQ h' tk _ h6 h7 (bA _) (Nat.le_refl _) ?_));have:=h8.mapOf;rwa[show valueAt ps=qG ks from funext λi=>(h4.at i).trans (x8 (λc=>(h3 c).trans ⟨λ⟨kv,a,b⟩=>?_,λa=>?_⟩) i)] at this
  ·refine aj (F.val kv a) λy ae=>?_;refine aG ae λc' hc q=>?_;rw[vS (b.symm.trans q)];exact hc
  ·exact F.all c a
 ·exact ⟨[],kvs,[],[],s.heap.push emptyDict,s.toks,rfl,hp,λc=>⟨λh=>(nomatch h),λ⟨_,h,_⟩=>(nomatch h)⟩,⟨λy h=>(nomatch h),λy h=>(nomatch h),Nat.zero_le _⟩,rfl,rfl,λb o e=>az _ _ b o e,Nat.le_refl _,Heap.DictOf.new s.heap⟩
end
theorem vT {M:Model} {s:Shared} {u:Addr} {first:List Value} {args:List (Bool×Sem Value)} (KH:args.any (·.1)=false) (h:wpAny M A (evalArgs (.ref u) true args []) (λx ag=>ag.heap.get? u=some g8∧wpAny M A (call (.ref u) (first++x.pos) x.kw) Q E ag) E s):wpAny M A (callWith pos (.ref u) first args []) Q E s:=by unfold callWith;refine wpAny_bind (wpAny_holding (wpAny_mono h (λx ag fq=>wpAny_bind (wpAny_standAt ?_)) λz z x=>x));refine aj fq λho NJ=>?_;rw[KH];refine wpAny_bind (m:=keeperOf (.ref u)) ?_;unfold keeperOf;refine wpAny_bind (wpAny_load ho ?_);refine KFB.if_so (by decide) ?_;refine wpAny_pure ?_;rw[if_pos (by decide)];exact wpAny_bind (wpAny_mono NJ (λr cU hr=>wpAny_bind (wpAny_holding (wpAny_point (wpAny_pure hr)))) λz z x=>x)
section
variable {κ:Cx} {A:Around} {Γ:aA} {X:XP}
noncomputable def S6 (t p:Str) (o:Expr) (dp fp pp cp ap pos tp sp:Pos):Stmt:=.Assign [.Name t tp] (.Call (.Attribute o "maketrans" ap) [.Call (.Attribute (.Name "dict" dp) "fromkeys" fp) [.Name p pp] [] cp] [] pos) sp
noncomputable def S7 (Γ:aA) (n:Nat) (t p:Str) (o:Expr) (loc:Loc) (H:Hp):Tr Out:=iO (dw Γ.c t) ((iW (dU Γ.c loc H n o)).bind λa=>iN (λz=>iN (λv=>iN (λks=>.leaf ⟨.next,cM t (.ref H.length) loc,H++[(H.length,.IG ks)]⟩) v.d3) (fj Γ.c loc p)) a.d3)
theorem NK (C:cE κ A X Γ) {t p:Str} {o:Expr} {dp fp pp sp:Pos} {q:Addr} {oq:Obj} (C6:Γ.c.nh=true) (hl:(eM o&&Nat.beq ap.endLine pos.line)=true) (U6:Nat.beq fp.endLine cp.line=true) (hq:κ.g.K.lookup q=some oq) (h1:sysModules<q) (hx:d7 Γ.c "dict"=true) (gd:b6 κ.g "dict" (.type "dict")) (hf:findCls κ.g.K (.type "dict") (.type "type") "fromkeys"=some (.get (.builtin "classmethod_descriptor.__get__") (.builtin "dict.fromkeys") .none (.type "dict"))) : ∀loc H,bt κ A X (exec (S6 t p o dp fp pp cp ap pos tp sp) κ.env) loc H (S7 Γ n t p o loc H):=λloc H P s I Q E hE h=>by
 refine aj (oS h) λhs h=>?_;have hk:=d9 C.c hs;refine cY (qI h) λg a ha hg h=>?_;refine aG (gC h) λk U7 h=>?_;refine aG (gC h) λv hv h=>?_;refine aG (gC h) λks Q5 h=>?_;have:=PV.b9 U7;subst this;have:=PV.b9 Q5;subst this;have hd:=C.c.hd;refine aj (aW C.c hx) λPm hd2=>?_;refine aj (Bool.and_eq_true_iff.mp hl) λhb hl=>?_;refine wpAny_Assign_Name (bc (o:=o) (args:=[_]) (by show ((eM o&&_)&&_&&Nat.beq _ _)=true;rw[hl,hb];rfl) λpl=>dO C.c ha hg P s I _ _ λp1 s1 u I1 T1 ru=>?_) (pe rfl _ _ _);refine aG ru.str_inv λtt ae zk=>?_;subst ae;refine Ht (aq ?_);refine aj (I1.toks (tk:=s1.toks+1) (Nat.le_succ _)) λI2 T2=>?_;show wpAny _ A (spliced [(false,eval (.Call (.Attribute (.Name "dict" dp) "fromkeys" fp) [.Name p pp] [] cp) κ.env)]) _ E {s1 with toks:=s1.toks+1};refine spliced_cons (bc (o:=.Name "dict" dp) (args:=[_]) (by show (_&&Nat.beq _ _)=true;rw[U6];rfl) λpl=>cC C.c Pm I2.hi.gV gd hd2 ?_);refine Hn I2.hi.gV.1 hf ?_;have fk:(s1.heap.push g8).get? s1.heap.objs.size=some g8:=Heap.get?_push_size _ rfl;have nb:s1.heap.get? s1.heap.objs.size=Option.none:=bA _;refine aj (I2.keep (h':=s1.heap.push g8) (tk:=s1.toks+1+1) (λb o e=>az _ _ b o e) (Nat.le_succ _)) λI3 T3=>?_;refine vT (by rfl) (dM (spliced_cons (dK C.c hv p1 _ I3 _ _ λp4 s4 w I4 T4 jo=>spliced_nil ?_)));refine aG jo.str_inv λt2 ae zs=>?_;subst ae;have S8:=T4.st.keep _ _ fk (λq=>let ⟨_,_,_,e⟩:=I1.hi.new _ q;aE e nb) (λq=>let ⟨_,e,_⟩:=I1.ei.there q.all;aE e nb) (λq=>let ⟨_,_,_,_,e,_⟩:=I1.hi.fr _ q;aE e nb);have ls:∀{h:Heap} {d:Addr},κ.g.K.In h→h.objs.size≤d→(d==sysModules)=false:=λ{h d} X z=>beq_eq_false_iff_ne.mpr (Nat.ne_of_gt (Nat.lt_trans h1 (Nat.lt_of_lt_of_le (Heap.lt_size (X _ _ hq)) z)));refine ⟨S8,?_⟩;show wpAny _ A (call (.ref s1.heap.objs.size) [.str (S ks) t2]) _ E s4;refine wpAny_with_toks (Nat.le_refl s4.toks) (Hq (hd C6) S8 (by rw[List.size_toArray];exact zs) λh' d tk kvs kp nd D F dd ht=>?_);refine aj (I4.keep (h':=h') (tk:=tk) kp ht) λI5 T5=>?_;have F:NG ks kvs:=F;refine spliced_nil ?_;have dn:(d==sysModules)=false:=dd.elim id λz=>ls I4.hi.gV.1 z;show wpAny _ A (call (.builtin "str.maketrans") [.ref d]) _ E {s4 with heap:=h',toks:=tk};refine wpAny_call (codeAny_call_builtin D1 DY (wpAny_of_eq (D2 _) (KG D F dn (Nat.le_trans F.len zs) λh6 t6 T k6 l6 n6 z6 M=>?_)));have la:∃q,h6.get? T=some q:=let ⟨o,_,_,e,_⟩:=M;⟨o,e⟩
 refine aj (I5.hi.alloc (o:=.IG ks) k6 n6 n6 la la ⟨ls I5.hi.gV.1 z6,λS9=>M⟩) λy1 y2=>?_;refine aj (I5.AM (s':={s4 with heap:=h6,toks:=t6}) y1 y2.fr ⟨_,_,rfl⟩ l6) λI6 T6=>?_;refine bO C.c.kind hk I6 (v:=.ref H.length) (.ref (by dsimp only[c7];rw[if_pos rfl])) λs7 I7 T7=>?_;exact h _ _ I7 ((((((T1.trans T2).trans T3).trans T4).trans T5).trans T6).trans T7)
end
section
variable {κ:Cx} {A:Around} {Γ:Ctx} {X:XP}
noncomputable def I9 (H:Hp) (v:PV):Option (List Nat):=v.sx.bind λk=>(aO k H).bind λo=>match o with
 | .IG ks=>some ks
 | _=>Option.none
theorem D4 {v:PV} (h:I9 H v=some ks):∃k,v=.ref k∧aO k H=some (.IG ks):=by refine bS h λk hk h=>?_;refine bS h λo ho h=>?_;induction o using AO.casesOn <;> cases h;exact ⟨k,PV.kx hk,ho⟩
theorem Hv {M:Model} {s:Shared} {x:Str} {pl:Sem Bool} {Q:Value×List Value→Shared→Prop} (h:Q (.builtin "str.translate",[.str x t]) s):wpAny M A (getMethod (.str x t) "translate" pl) Q E s:=by with_reducible exact GM.of (.str x t) (typeIs_str _ _ _) PySem.F.slot_str_translate PySem.F.type_str_translate GM.noRef h
noncomputable def Ta (o:Expr) (t:Str) (tp ap pos:Pos):Expr:=.Call (.Attribute o "translate" ap) [.Name t tp] [] pos
noncomputable def Q6 (Γ:Ctx) (n:Nat) (o:Expr) (t:Str) (loc:Loc) (H:Hp):R1:=(dU Γ loc H n o).bind λa=>a.2.d3.bind λk=>(fj Γ loc t).bind λv=>(I9 H v).bind λks=>some (a.1++[k.isEmpty=false],.str (bT ks k))
theorem KI (C:af κ A Γ) (C6:Γ.nh=true) {o:Expr} {t:Str} (hl:(eM o&&Nat.beq ap.endLine pos.line)=true):di κ A ⟨Ta o t tp ap pos,Q6 Γ n o t⟩:=λloc H gd v h hg p s I Q E hQ=>by have h:Q6 Γ n o t loc H=some (gd,v):=h;refine bS h λa ha h=>?_;refine bS h λk hk h=>?_;refine bS h λb hb h=>?_;refine bS h λks Q5 h=>?_;refine aj (Prod.mk.inj (Option.some.inj h)) λae bX=>?_;subst ae;subst bX;obtain ⟨g,a⟩:=a;have:=PV.b9 hk;subst this;refine aG (D4 Q5) λj eq1 hH=>?_;subst eq1;refine aj (Bool.and_eq_true_iff.mp hl) λQ7 hl=>?_;refine aj (AllP.append hg) λlW mT=>?_;refine bc (o:=o) (args:=[_]) (by show ((eM o&&_)&&_&&Nat.beq _ _)=true;rw[hl,Q7];rfl) λpl=>(cD C n).1 o g _ ha lW p s I _ _ λp1 s1 u I1 T1 ru=>?_;refine aG ru.str_inv λtt ae zk=>?_;subst ae;refine Hv ?_;refine aq ?_;show wpAny _ A (spliced [(false,eval (.Name t tp) κ.env)]) _ E s1;refine spliced_cons (dK C hb p1 s1 I1 _ _ λp2 s2 w I2 T2 jo=>spliced_nil ?_);refine Ce (I2.obj jo hH) λT d eq2 fL hd hm=>?_;subst eq2;refine wpAny_call_entry PySem.F.slot_str_translate (typeIs_str _ _ _) PySem.F.entry_str_translate (KD (C.hd C6) hd (hm κ.g.prog) zk (λz=>by have:=mT.1;rw[z] at this;exact tF this) λh' tk t kp ht=>?_) (PySem.F.args_str_translate_2 _ _);refine aj (I2.keep (h':=h') (tk:=tk) kp ht) λI3 T3=>?_;exact ⟨_,rfl,hQ _ _ _ I3 ((T1.trans T2).trans T3) (.str _ _ (Nat.le_trans (js _ _) zk))⟩
end
mutual
noncomputable def zt (ks:List Nat):PV→PV|.ref i=>.ref (ks.getD i 0)|.tup xs=>.tup (g9 ks xs)|.lst xs=>.lst (g9 ks xs)|.arr xs=>.arr (g9 ks xs)|v=>v
noncomputable def g9 (ks:List Nat):List PV→List PV|[]=>[]|x::r=>zt ks x::g9 ks r
end
mutual
noncomputable def below (n:Nat):PV→Bool|.ref i=>Nat.blt i n|.tup xs=>belows n xs|.lst xs=>belows n xs|.arr xs=>belows n xs|_=>true
noncomputable def belows (n:Nat):List PV→Bool|[]=>true|x::r=>below n x&&belows n r
end
noncomputable def x9 (ks:List Nat):List (Str×PV)→List (Str×PV)|[]=>[]|e::r=>(e.1,zt ks e.2)::x9 ks r
noncomputable def pI (n:Nat):List (Str×PV)→Bool|[]=>true|e::r=>below n e.2&&pI n r
noncomputable def pJ (ks:List Nat):AO→AO|.lst xs=>.lst (g9 ks xs)|.ew xs=>.ew (g9 ks xs)|.inst C fs=>.inst C (x9 ks fs)|o=>o
noncomputable def j4 (n:Nat) (x_:AO):Bool:=by induction x_ using AO.casesOn with|lst xs=>exact belows n xs|ew xs=>exact belows n xs|inst _ fs=>exact pI n fs|_=>exact true
noncomputable def tv (ks:List Nat) (ι:bq):bq:=λi=>(ks[i]?).bind ι
theorem bB (ks:List Nat):∀xs:List PV,(g9 ks xs).length=xs.length|[]=>rfl|_::r=>congrArg (·+1) (bB ks r)
section
variable {w:World} {P:Fz} {ι:bq} {ks:List Nat}
theorem tA:∀{ks:List Nat} {i:Nat},Nat.blt i ks.length=true→tv ks ι i=ι (ks.getD i 0)
 | [],_,h=>nomatch h
 | _::_,0,_=>rfl
 | _::ks,i+1,h=>tA (ks:=ks) (i:=i) h
theorem Hw {i:Nat} {q:Addr×Addr} (h:tv ks ι i=some q):i<ks.length:=by refine bS h λk hk z=>?_;exact (List.getElem?_eq_some_iff.mp hk).1
theorem jQ:(∀(v:PV) (u:Value),below ks.length v=true→Rv w P ι u (zt ks v)→Rv w P (tv ks ι) u v)∧∀(xs:List PV) (us:List Value),belows ks.length xs=true→aT w P ι us (g9 ks xs)→aT w P (tv ks ι) us xs:=PV.both (λy y h=>h) (λy y y h=>h) (λy y y h=>h) (λy y y h=>h) (λxs ih u b h=>kq h λa vs n e p z r=>⟨a,vs,n,e,p,bB ks xs▸z,ih vs b r⟩) (λxs ih u b h=>kq h λa vs n e p z r=>⟨a,vs,n,e,p,bB ks xs▸z,ih vs b r⟩) (λxs ih u b h=>yR h λa vs n dd sl e p z r=>⟨a,vs,n,dd,sl,e,p,bB ks xs▸z,ih vs b r⟩) (λy y y h=>h) (λi u b h=>gU h λa d e q=>⟨a,d,e,(tA b).trans q⟩) (λy y y h=>h) (λy y h=>h) λx xs Ap Aq us b h=>cY h λu us e q r=>⟨u,us,e,Ap u (Bool.and_eq_true_iff.mp b).1 q,Aq us (Bool.and_eq_true_iff.mp b).2 r⟩
theorem mX (hi:∀i q,i<ks.length→ι i=some q→jA (ks.getD i 0)=some q):(∀(v:PV) (u:Value),below ks.length v=true→Rv w P ι u v→Rv w P jA u (zt ks v))∧∀(xs:List PV) (us:List Value),belows ks.length xs=true→aT w P ι us xs→aT w P jA us (g9 ks xs):=PV.both (λy y h=>h) (λy y y h=>h) (λy y y h=>h) (λy y y h=>h) (λxs ih u b h=>kq h λa vs n e p z r=>⟨a,vs,n,e,p,(bB ks xs).symm▸z,ih vs b r⟩) (λxs ih u b h=>kq h λa vs n e p z r=>⟨a,vs,n,e,p,(bB ks xs).symm▸z,ih vs b r⟩) (λxs ih u b h=>yR h λa vs n dd sl e p z r=>⟨a,vs,n,dd,sl,e,p,(bB ks xs).symm▸z,ih vs b r⟩) (λy y y h=>h) (λi u b h=>gU h λa d e q=>⟨a,d,e,hi i _ (Nat.le_of_ble_eq_true b) q⟩) (λy y y h=>h) (λy y h=>h) λx xs Ap Aq us b h=>cY h λu us e q r=>⟨u,us,e,Ap u (Bool.and_eq_true_iff.mp b).1 q,Aq us (Bool.and_eq_true_iff.mp b).2 r⟩
theorem D5 {v:PV} {u:Value} (b:below ks.length v=true) (h:Rv w P ι u (zt ks v)):Rv w P (tv ks ι) u v:=jQ.1 v u b h
theorem mj (b:belows ks.length xs=true) (h:aT w P ι us (g9 ks xs)):aT w P (tv ks ι) us xs:=jQ.2 xs us b h
theorem D6 (hi:∀i q,i<ks.length→ι i=some q→jA (ks.getD i 0)=some q) {v:PV} {u:Value} (b:below ks.length v=true) (h:Rv w P ι u v):Rv w P jA u (zt ks v):=(mX hi).1 v u b h
theorem zu (hi:∀i q,i<ks.length→ι i=some q→jA (ks.getD i 0)=some q) (b:belows ks.length xs=true) (h:aT w P ι us xs):aT w P jA us (g9 ks xs):=(mX hi).2 xs us b h
theorem Bq {fs:List (Str×PV)} {es:List DictEntry} (h:pI ks.length fs=true) (r:dY w P ι es (x9 ks fs)):dY w P (tv ks ι) es fs:=by
 induction fs generalizing es with
 | nil=>cases r;exact .nil
 | cons e fs ih=>cases r with | cons a b=>exact .cons ⟨a.1,a.2.1,D5 (Bool.and_eq_true_iff.mp h).1 a.2.2⟩ (ih (Bool.and_eq_true_iff.mp h).2 b)
theorem Hx (hi:∀i q,i<ks.length→ι i=some q→jA (ks.getD i 0)=some q) {fs:List (Str×PV)} {es:List DictEntry} (h:pI ks.length fs=true) (r:dY w P ι es fs):dY w P jA es (x9 ks fs):=by
 induction fs generalizing es with
 | nil=>cases r;exact .nil
 | cons e fs ih=>cases r with | cons a b=>exact .cons ⟨a.1,a.2.1,D6 hi (Bool.and_eq_true_iff.mp h).1 a.2.2⟩ (ih (Bool.and_eq_true_iff.mp h).2 b)
theorem ya {o:AO} (hb:j4 ks.length o=true) (x:Shape w P ι h a d (pJ ks o)):Shape w P (tv ks ι) h a d o:=by induction o using AO.casesOn with|lst xs=>exact cY x λvs n e z r=>⟨vs,n,e,bB ks xs▸z,mj hb r⟩|ew xs=>exact cY x λvs n e z r=>⟨vs,n,e,bB ks xs▸z,mj hb r⟩|inst C fs=>exact cY x λes n e b r=>⟨es,n,e,b,Bq hb r⟩|_=>exact x
theorem D7 (hi:∀i q,i<ks.length→ι i=some q→jA (ks.getD i 0)=some q) {o:AO} (hb:j4 ks.length o=true) (x:Shape w P ι h a d o):Shape w P jA h a d (pJ ks o):=by induction o using AO.casesOn with|lst xs=>exact cY x λvs n e z r=>⟨vs,n,e,(bB ks xs).symm▸z,zu hi hb r⟩|ew xs=>exact cY x λvs n e z r=>⟨vs,n,e,(bB ks xs).symm▸z,zu hi hb r⟩|inst C fs=>exact cY x λes n e b r=>⟨es,n,e,b,Hx hi hb r⟩|_=>exact x
end
noncomputable def fP:Nat→List AO→Hp|_,[]=>[]|n,o::r=>(n,o)::fP (n+1) r
theorem oA:∀(n:Nat) (os:List AO),(fP n os).length=os.length|_,[]=>rfl|n,_::r=>congrArg (·+1) (oA (n+1) r)
theorem tC:∀(os:List AO) (n i:Nat),aO (n+i) (fP n os)=os[i]?|[],n,i=>rfl|o::r,n,0=>by show (bif Nat.beq n (n+0) then some o else _)=_;rw[Nat.add_zero,show Nat.beq n n=true from Nat.beq_refl n];rfl|o::r,n,i+1=>by show (bif Nat.beq n (n+(i+1)) then some o else aO (n+(i+1)) (fP (n+1) r))=r[i]?;rw[show Nat.beq n (n+(i+1))=false from by (induction q:Nat.beq n (n+(i+1)) with | false=>rfl | true=>have:=Nat.eq_of_beq_eq_true q;lia),cond_false,show n+(i+1)=n+1+i by lia];exact tC r (n+1) i
theorem KJ {i:Nat} {o:AO} (h:aO i (fP 0 os)=some o):os[i]?=some o:=by rw[←tC os 0 i,Nat.zero_add];exact h
noncomputable def Br (all:List Nat):List Nat→List AO→Hp→Hp|k::r,o::os,H=>Br all r os (bG k (pJ all o) H)|_,_,H=>H
theorem zw (all:List Nat):∀(r:List Nat) (os:List AO) (H:Hp),(Br all r os H).length=H.length|[],_,_=>rfl|_::_,[],_=>rfl|k::r,o::os,H=>(zw all r os _).trans (iY k _ H)
theorem tD (all:List Nat) :∀(r:List Nat) (os:List AO) (H:Hp),j∉r→aO j (Br all r os H)=aO j H|[],_,_,_=>rfl|_::_,[],_,_=>rfl|k::r,o::os,H,h=>by show aO j (Br all r os (bG k (pJ all o) H))=_;rw[tD all r os _ (λm=>h (List.mem_cons_of_mem _ m)),d8,if_neg (λ(e:j=k)=>h (by rw[e];exact List.mem_cons_self))]
theorem KL (all:List Nat) {k:Nat} {o:AO}:∀(r:List Nat) (os:List AO) (H:Hp) (i:Nat),r.Nodup→(∀k∈r,∃x,aO k H=some x)→r[i]?=some k→os[i]?=some o→aO k (Br all r os H)=some (pJ all o):=by
 intro r;induction r with|nil=>exact λz z z z z h z=>nS h|cons c r ih=>
 intro os H i nd hs h1 h2;induction os using List.casesOn with|nil=>exact nS h2|cons q os=>
 induction i using Nat.casesOn with
 | zero=>cases h1;cases h2;show aO k (Br all r os (bG k (pJ all o) H))=_;obtain ⟨x,hx⟩:=hs k List.mem_cons_self;rw[tD all r os _ (List.nodup_cons.mp nd).1,d8,if_pos rfl,hx];rfl
 | succ i=>
  show aO k (Br all r os (bG c (pJ all q) H))=_;refine ih os _ i (List.nodup_cons.mp nd).2 (λk' m=>?_) h1 h2;obtain ⟨x,hx⟩:=hs k' (List.mem_cons_of_mem _ m);rw[d8]
  by_cases z:k'=c
  ·subst z;rw[if_pos rfl,hx];exact ⟨_,rfl⟩
  ·rw[if_neg z];exact ⟨x,hx⟩
section
variable {g:G} {B:Bs} {A:Around} {X:XP} {p p':Pt} {s s':Shared} {H:Hp} {ks:List Nat} {os w7:List AO} {h:Heap}
structure pK (ks:List Nat) (os:List AO) (H:Hp):Prop where
 nd:ks.Nodup
 len:os.length=ks.length
 get:∀(i k:Nat) (o:AO),ks[i]?=some k→os[i]?=some o→aO k H=some (pJ ks o)
 low:∀o∈os,j4 ks.length o=true
noncomputable abbrev Pt.part (p:Pt) (ks:List Nat):Pt:=⟨tv ks p.ι,p.P⟩
theorem kW {b:Addr} (q:Own (p.part ks) b):Own p b:=by refine IC q λi a d e z=>?_;refine bS e λk y e=>?_;exact ⟨k,a,d,e,z⟩
theorem HI.part (Y:HI g B H p h) (Q:pK ks os H):HI g B (fP 0 os) (p.part ks) h:=by
 refine ⟨Y.ok,Y.st,Y.fz,λi o e=>?_,λi q e=>?_,λb q=>Y.new b (kW q),λi j a d a' d' e e' ne=>?_,λL hL=>?_⟩
 ·have e:=KJ e;have hi:i<ks.length:=by rw[←Q.len];exact (List.getElem?_eq_some_iff.mp e).1
  have hk:ks[i]?=some ks[i]:=List.getElem?_eq_getElem hi
  refine gU (Y.objs _ _ (Q.get i _ o hk e)) λa d e1 sh=>?_
  refine ⟨a,d,?_,ya (Q.low o (List.mem_of_getElem? e)) sh⟩
  show (ks[i]?).bind p.ι=_
  rw[hk];exact e1
 ·rw[oA,Q.len];exact Hw e
 ·refine bS e λk hk e=>?_;refine bS e' λk' o5 e'=>?_;refine Y.inj k k' a d a' d' e e' λz=>ne ?_;subst z;refine bZ (List.getElem?_eq_some_iff.mp hk) λh1 h2=>?_;refine bZ (List.getElem?_eq_some_iff.mp o5) λh3 h4=>?_;exact (List.getElem_inj Q.nd).mp (h2.trans h4.symm)
 ·refine lG (Y.fr L hL) λq1 q2 q3 q4=>?_;exact ⟨q1,q2,λz=>q3 (kW z),q4⟩
theorem rQ {ext:List AO} (Y:HI g B H p s.heap) (Q:pK ks os H) (Z:HI g B (fP 0 (w7++ext)) p' s'.heap) (T:nI B.fr (p.part ks) s p' s') (hl:w7.length=ks.length) (hb:∀o∈w7,j4 ks.length o=true) : HI g B (Br ks ks w7 H) ⟨p.ι,p'.P⟩ s'.heap∧nI B.fr p s ⟨p.ι,p'.P⟩ s'∧∀{u:Value} {v:PV},below ks.length v=true→Rv g.w p'.P p'.ι u v→Rv g.w p'.P p.ι u (zt ks v):=by
 have up:∀i q,i<ks.length→p'.ι i=some q→p.ι (ks.getD i 0)=some q:=λi q hi e=>by
  have hk:ks[i]?=some ks[i]:=List.getElem?_eq_getElem hi;have ho:os[i]?=some (os[i]'(Q.len▸hi)):=List.getElem?_eq_getElem _;refine gU (Y.objs _ _ (Q.get i _ _ hk ho)) λa d e1 y=>?_;have e2:(p.part ks).ι i=some (a,d):=by show (ks[i]?).bind p.ι=_;rw[hk];exact e1
  have e3:=T.st.le.2 _ _ e2;rw[e] at e3;rw[e3,←e2];exact (tA (by simpa using hi)).symm
 have np:∀b,Own p b→p'.P b=Option.none:=λb q=>by
  refine fK (Y.new b q) λy h2 ae=>?_;refine bZ ae λo h3=>?_;induction z:p'.P b with|none=>rfl|some o'=>
   rcases T.st.gD b o' z with w | w
   ·rw[show (p.part ks).P b=p.P b from rfl,h2] at w;exact nS w
   ·exact aE h3 w
 have st:Step B.fr No p s.heap ⟨p.ι,p'.P⟩ s'.heap:=⟨λb o e n m f=>T.st.keep b o e (λq=>n (kW q)) m f,λb o e n m=>T.st.slot b o e (λq=>n (kW q)) m,T.st.live,⟨T.st.le.1,λy y e=>e⟩,T.st.gD,λb q=>.inl q⟩;refine ⟨⟨Y.ok,Z.st,Z.fz,λk o e=>?_,λk q e=>?_,λb q=>?_,Y.inj,λL hL=>?_⟩,⟨T.eq,T.le,st⟩,λh r=>D6 up h r⟩
 ·by_cases hk:k∈ks
  ·refine bZ (List.getElem?_of_mem hk) λi hi=>?_;have Q8:=(List.getElem?_eq_some_iff.mp hi).1;have ho:w7[i]?=some (w7[i]'(hl▸Q8)):=List.getElem?_eq_getElem _;have old:∀k∈ks,∃x,aO k H=some x:=λk m=>by refine bZ (List.getElem?_of_mem m) λj hj=>?_;have NL:=(List.getElem?_eq_some_iff.mp hj).1;exact ⟨_,Q.get j k _ hj (List.getElem?_eq_getElem (Q.len▸NL))⟩
   rw[KL ks ks w7 H i Q.nd old hi ho] at e
   refine au e ?_
   refine gU (Z.objs i _ (by have:=tC (w7++ext) 0 i;rw[Nat.zero_add] at this;exact this.trans ((List.getElem?_append_left (hl▸Q8)).trans ho))) λa d e1 sh=>?_
   have e2:=up i _ Q8 e1
   refine ⟨a,d,?_,D7 up (hb _ (List.getElem_mem _)) sh⟩
   have:ks.getD i 0=k:=by rw[List.getD_eq_getElem?_getD,hi];rfl
   rw[←this];exact e2
  ·rw[tD ks ks w7 H hk] at e;refine gU (Y.objs k o e) λa d e1 sh=>?_;have off:∀b,(b=a∨b=d)→∀q,s.heap.get? b=some q→s'.heap.get? b=some q:=λb hb q eq=>by
    have ob:Own p b:=⟨k,a,d,e1,hb⟩;refine T.st.keep b q eq (λz=>?_) (λz=>z) λz=>(Y.fr b z).2.2.1 ob;refine IC z λi a' d' e' z=>?_;refine bS e' λk' o5 e'=>?_;refine lG (Y.inj k k' a d a' d' e1 e' λw=>hk (w▸List.mem_of_getElem? o5)) λi1 i2 i3 i4=>?_;rcases hb with rfl | rfl <;> rcases z with z | z
    ·exact i1 z
    ·exact i2 z
    ·exact i3 z
    ·exact i4 z
   exact ⟨a,d,e1,sh.on (off a (.inl rfl)) (off d (.inr rfl)) T.st.le.1 λy y e=>e⟩
 ·rw[zw];exact Y.xf k q e
 ·refine fK (Y.new b q) λh1 h2 ae=>?_;refine bZ ae λo h3=>?_;exact ⟨h1,np b q,T.st.live b o h3⟩
 ·refine lG (Z.fr L hL) λq1 q2 q3 q4=>?_;exact ⟨q1,q2,(Y.fr L hL).2.2.1,q4⟩
def Ja (ks:List Nat) (v:PV) (H':Hp):Prop:=∃w7 ext,H'=fP 0 (w7++ext)∧w7.length=ks.length∧(∀o∈w7,j4 ks.length o=true)∧below ks.length v=true
noncomputable def Jb (ks:List Nat) (H:Hp) (x_:RE):Tr RE:=by induction x_ using RE.casesOn with|ok v H'=>exact .need [Ja ks v H'] (.leaf (.ok (zt ks v) (Br ks ks (H'.map (·.2)) H)))|exc m H'=>exact .need [Ja ks .none H'] (.leaf (.exc m (Br ks ks (H'.map (·.2)) H)))
theorem oB:∀(n:Nat) (os:List AO),(fP n os).map (·.2)=os|_,[]=>rfl|n,o::r=>congrArg (o::·) (oB (n+1) r)
theorem oC (all:List Nat):∀(r:List Nat) (os ext:List AO) (H:Hp),os.length=r.length→Br all r (os++ext) H=Br all r os H
 | [],[],_,_,_=>rfl
 | [],_::_,_,_,h=>nomatch h
 | _::_,[],_,_,h=>nomatch h
 | k::r,o::os,ext,H,h=>oC all r os ext _ (Nat.succ.inj h)
theorem jt {f:Addr} {tr:Tr RE} (hr:Runs g A B X f args (fP 0 os) tr) (hb:belows ks.length args=true) (Q:pK ks os H):Runs g A B X f (g9 ks args) H (tr.bind (Jb ks H)):=λp s vs Y rv R h=>hr (p.part ks) s vs (Y.part Q) (mj hb rv) R ((aP.mp h).mono λr hr=>by induction r using RE.casesOn with|ok v H'=>refine aj hr λae hr=>?_;refine aj ae λbX z=>?_;refine Ce bX λw7 ext D8 hl ho hv=>?_;subst D8;rw[oB,oC _ _ _ _ _ hl] at hr;intro p' s' u Z T ru;refine fK (rQ Y Q Z T hl ho) λa b c=>?_;exact hr _ s' u a b (c hv ru)|exc m H'=>refine aj hr λae hr=>?_;refine aj ae λbX z=>?_;refine Ce bX λw7 ext D8 hl ho z=>?_;subst D8;rw[oB,oC _ _ _ _ _ hl] at hr;intro p' s' e gm Z T x;refine fK (rQ Y Q Z T hl ho) λa b c=>?_;exact hr _ s' e gm a b x)
end
open Builtin.Str (occurrences)
theorem vU (x y:Str) (i j:Int) (t u v v':Tok):Gives (Builtin.«str.find» ⟨[.str x t,.str y u,.int i v,.int j v'],[]⟩) (.int (match occurrences x y (fromIndex x.length i) (min (fromIndex x.length j) x.length) 1 with | k::_=>(k:Int) | []=>-1)):=by show Gives (match occurrences x y (fromIndex x.length i) (min (fromIndex x.length j) x.length) 1 with | k::_=>retInt k | []=>(do rule "str.find.not-found";retInt (-1))) _;induction occurrences x y (fromIndex x.length i) (min (fromIndex x.length j) x.length) 1 using List.casesOn with|nil=>exact .rule (.of_eq rfl)|cons k _=>exact .of_eq rfl
noncomputable def kX (k y:List Nat) (i j:Int):Int:=match occurrences (S k) (S y) (fromIndex (S k).length i) (min (fromIndex (S k).length j) (S k).length) 1 with
 | k::_=>(k:Int)
 | []=>-1
section
variable {κ:Cx} {A:Around} {Γ:Ctx} {X:XP}
noncomputable def Tb (o:Expr) (a b c:Str) (pa pb pc ap pos:Pos):Expr:=.Call (.Attribute o "find" ap) [.Name a pa,.Name b pb,.Name c pc] [] pos
noncomputable def Q9 (Γ:Ctx) (n:Nat) (o:Expr) (a b c:Str) (loc:Loc) (H:Hp):R1:=(dU Γ loc H n o).bind λe=>e.2.d3.bind λk=>(fj Γ loc a).bind λu=>u.d3.bind λy=>(fj Γ loc b).bind λv=>v.int?.bind λi=>(fj Γ loc c).bind λz=>z.int?.bind λj=>some (e.1,.int (kX k y i j))
theorem KN (C:af κ A Γ) {o:Expr} {a b c:Str} {pa pb pc:Pos} (hl:(eM o&&Nat.beq ap.endLine pos.line)=true):di κ A ⟨Tb o a b c pa pb pc ap pos,Q9 Γ n o a b c⟩:=λloc H gd v h hg p s I Q E hQ=>by have h:Q9 Γ n o a b c loc H=some (gd,v):=h;refine bP h λg e he h=>?_;refine bS h λk hk h=>?_;refine bS h λu hu h=>?_;refine bS h λy hy h=>?_;refine bS h λw1 hw h=>?_;refine bS h λi hi h=>?_;refine bS h λz hz h=>?_;refine bS h λj hj h=>?_;refine aj (Prod.mk.inj (Option.some.inj h)) λae bX=>?_;subst ae;subst bX;have:=PV.b9 hk;subst this;have:=PV.b9 hy;subst this;have:=PV.cy hi;subst this;have:=PV.cy hj;subst this;refine aj (Bool.and_eq_true_iff.mp hl) λQ7 hl=>?_;refine bc (o:=o) (args:=[_,_,_]) (by show ((eM o&&_)&&_&&Nat.beq _ _)=true;rw[hl,Q7];rfl) λpl=>(cD C n).1 o g _ he hg p s I _ _ λp1 s1 u1 I1 T1 ru=>?_;refine aG ru.str_inv λtt ae zk=>?_;subst ae;refine GM.find (aq ?_);show wpAny _ A (spliced [(false,eval (.Name a pa) κ.env),(false,eval (.Name b pb) κ.env),(false,eval (.Name c pc) κ.env)]) _ E s1;refine spliced_cons (dK C hu p1 s1 I1 _ _ λp2 s2 u2 I2 T2 r2=>spliced_cons (dK C hw p2 s2 I2 _ _ λp3 s3 u3 I3 T3 r3=>spliced_cons (dK C hz p3 s3 I3 _ _ λp4 s4 u4 I4 T4 r4=>spliced_nil ?_)));refine aG r2.str_inv λt2 ae x=>?_;subst ae;refine bZ r3.int_inv λt3 ae=>?_;subst ae;refine bZ r4.int_inv λt4 ae=>?_;subst ae;show wpAny _ A (call (.builtin "str.find") [.str (S k) tt,.str (S y) t2,.int i t3,.int j t4]) Q E s4;refine call_gives PySem.F.slot_str_find (typeIs_str _ _ _) PySem.F.entry_str_find (PySem.F.args_str_find_4 _ _ _ _) (vU (S k) (S y) i j tt t2 t3 t4) ?_;refine aj (I4.toks (tk:=s4.toks+1) (Nat.le_succ _)) λI5 T5=>?_;exact hQ _ _ _ I5 ((((T1.trans T2).trans T3).trans T4).trans T5) (.int _ _)
end
open PySem.SeqAt (EqAt RcAt)
noncomputable def nM:Nat→PV→Bool|_,.none=>true|_,.bool _=>true|_,.int _=>true|_,.str _=>true|n+1,.lst xs=>xs.all (nM n)|_,_=>false
section
variable {w:World} {P:Fz} {ι:bq} {s:Shared}
theorem vV (ih:∀{A:Around} {x:PV} {u v:Value},nM n x=true→A.units+n<cLine→Rv w P ι u x→Rv w P ι v x→EqAt A s u v true) (F:aB P s.heap) {u v:Value} (h:xs.all (nM n)=true) (hu:A.units+(n+1)<cLine) (ru:Rv w P ι u (.lst xs)) (rv:Rv w P ι v (.lst xs)):∃a b,u=.ref a∧v=.ref b∧RcAt A s (.ref a) (.ref b) true:=by
 refine kq ru.lst_inv λa us m ae h1 t r1=>?_;subst ae;refine kq rv.lst_inv λb vs m' ae h2 t r2=>?_;subst ae;have l1:=r1.length;have l2:=r2.length;refine ⟨a,b,rfl,rfl,?_⟩;have R:=RcAt.lists (A:=A) (s:=s) (e:=λt=>true) (bh F h1) (bh F h2) (by rw[List.size_toArray,List.size_toArray,l1,l2]) (by lia) λj q1 q2=>by have Tc:j<us.length:=q1;have U8:j<vs.length:=q2;have e:xs[j]?=some xs[j]:=List.getElem?_eq_getElem (l1▸Tc);refine aG (r1.get e) λy e1 ry=>?_;refine aG (r2.get e) λz e2 rz=>?_;rw[List.getElem?_eq_getElem Tc] at e1;rw[List.getElem?_eq_getElem U8] at e2;rw[List.getElem_toArray,List.getElem_toArray,Option.some.inj e1,Option.some.inj e2];exact ih (List.all_eq_true.mp h _ (List.getElem_mem _)) (by show A.units+1+n<_;lia) ry rz
 have al:(List.range us.toArray.size).all (λt=>true)=true:=List.all_eq_true.mpr λt t=>rfl;rw[al] at R;exact R
theorem Hy (F:aB P s.heap):∀(n:Nat) {A:Around} {x:PV} {u v:Value},nM n x=true→A.units+n<cLine→Rv w P ι u x→Rv w P ι v x→EqAt A s u v true:=by
 have str:∀{A:Around} {k:List Nat} {u v:Value},Rv w P ι u (.str k)→Rv w P ι v (.str k)→EqAt A s u v true:=λ{A k u v} ru rv=>by refine aG ru.str_inv λt ae z=>?_;subst ae;refine aG rv.str_inv λt' ae z=>?_;subst ae;have:=EqAt.str_str (A:=A) (s:=s) (S k) t (S k) t';rwa[beq_self_eq_true] at this
 have int:∀{A:Around} {i:Int} {u v:Value},Rv w P ι u (.int i)→Rv w P ι v (.int i)→EqAt A s u v true:=λ{A i u v} ru rv=>by refine bZ ru.int_inv λt ae=>?_;subst ae;refine bZ rv.int_inv λt' ae=>?_;subst ae;have:=EqAt.int_int (A:=A) (s:=s) i t i t';rwa[beq_self_eq_true] at this
 have Td:∀{A:Around} {u v:Value},Rv w P ι u .none→Rv w P ι v .none→EqAt A s u v true:=λru rv=>by rw[ru.none_inv,rv.none_inv];exact .same _
 have bol:∀{A:Around} {b:Bool} {u v:Value},Rv w P ι u (.bool b)→Rv w P ι v (.bool b)→EqAt A s u v true:=λru rv=>by rw[ru.bool_inv,rv.bool_inv];exact .same _
 intro n;induction n with
 | zero=>intro A x u v h hu ru rv;induction x using PV.casesOn with|none=>exact Td ru rv|bool b=>exact bol ru rv|int i=>exact int ru rv|str k=>exact str ru rv|_=>exact fT h
 | succ n ih=>
  intro A x u v h hu ru rv;induction x using PV.casesOn with
  | none=>exact Td ru rv
  | bool b=>exact bol ru rv
  | int i=>exact int ru rv
  | str k=>exact str ru rv
  | lst xs=>
   refine cY (vV (λh hu ru rv=>ih h hu ru rv) F h hu ru rv) λa b eq2 eq3 R=>?_;subst eq2;subst eq3
   by_cases e:a=b
   ·subst e;exact .same _
   ·exact .of_refs e R
  | _=>exact fT h
end
section
variable {κ:Cx} {A:Around} {Γ:Ctx} {X:XP}
noncomputable def D9 (Γ:Ctx) (n:Nat) (l r:Expr) (loc:Loc) (H:Hp):Tr Out:=(iW (dU Γ loc H n l)).bind λa=>(iW (dU Γ loc H n r)).bind λb=>.need [∃xs,a=.lst xs∧b=.lst xs∧xs.all (nM 5)=true] (.leaf ⟨.ret (.bool true),loc,H⟩)
theorem KO (C:af κ A Γ) {l r:Expr} {rp:Pos} (hm:lastMarks [.Eq] [r]=false):∀loc H,bt κ A X (exec (.Return (some (.Compare l [.Eq] [r] cp)) rp) κ.env) loc H (D9 Γ n l r loc H):=λloc H p s I Q E hE h=>by refine cY (qI h) λg1 a e1 lW h=>?_;refine cY (qI h) λg2 b e2 mT h2=>?_;obtain ⟨⟨⟨xs,rfl,rfl,hx⟩,_⟩,h3⟩:=h2;refine wpAny_Return_some ?_;rw[arm_eval_Compare,markedEach_of_false _ _ _ hm];refine wpAny_bind (i5 C e1 lW p s I _ _ λp1 s1 u I1 T1 r1=>chain_last (i5 C e2 mT p1 s1 I1 _ _ λp2 s2 v I2 T2 r2=>?_));refine cY (vV (A:=A) (s:=s2) (λh hu ru rv=>Hy I2.hi.fz 5 h hu ru rv) I2.hi.fz hx (by have:=C.un;lia) (T2.rv r1) r2) λa b ea eb R=>?_;rw[ea,eb];exact R _ _ _ _ (h3 p2 s2 I2 (T1.trans T2) _ (.bool true))
end
structure dm where
 name:Str
 args:Arguments
 body:List Stmt
 scope:Scope
noncomputable def yb:Expr:=.Constant .none 0 default
noncomputable def fnIn (x:Str) (l:List Stmt):Option dm:=by induction l with|nil=>exact Option.none|cons st r ih=>induction st using Stmt.casesOn with|FunctionDef n a b p q z sc=>exact bif seq n x then some ⟨n,a,b,sc⟩ else ih|_=>exact ih
noncomputable def tE (x:Str) (l:List Stmt):List Stmt:=by induction l with|nil=>exact []|cons st r ih=>induction st using Stmt.casesOn with|ClassDef n p q b=>exact bif seq n x then b else ih|_=>exact ih
noncomputable def bodyOf:Option dm→List Stmt|some f=>f.body|Option.none=>[]
noncomputable def aV:Option dm→Scope|some f=>f.scope|Option.none=>default
noncomputable def pb:List Stmt:=PySem.Challenge.pw_kl0403_01.main.body
structure cG (g:G) (f:Addr) (d:Option dm) (ns:List Str):Prop where
 ex:∃o fd,FnAt g f o fd (bodyOf d)∧fd.scope=aV d∧iu fd ns∧∀args:List PV,ns.length=args.length→fW g fd ns args (fv ns args)
noncomputable def Ea:List (Str×PV):=[("_law_sign",.glob (.ref 733)),("_law_settings",.glob (.ref 738)),("_law_turned",.glob (.ref 745)),("_law_lexer",.glob (.ref 752)),("_law_roles",.glob (.ref 757)),("_law_add",.glob (.ref 764)),("_law_rest",.glob (.ref 769)),("_law_turn",.glob (.ref 776)),("_law_due",.glob (.ref 781)),("_law_ask",.glob (.ref 788)),("shlex",.glob (.ref 722)),("StringIO",.glob (.ref 587)),("ValueError",.glob (.type "ValueError")),("deque",.glob (.type "collections.deque")),("_index",.glob (.ref 53)),("IOBase",.glob (.ref 83)),("BytesIO",.glob (.ref 340)),("range",.glob (.type "range")),("enumerate",.glob (.type "enumerate")),("dict",.glob (.type "dict")),("object",.glob (.type "object")),("isinstance",.glob (.builtin "isinstance")),("int",.glob (.type "int")),("bool",.glob (.type "bool")),("str",.glob (.type "str"))]
noncomputable def Hz:List (Str×xe):=[("len",.len),("chr",.chr),("type",.ty),("int",.int),("list",.list),("str",.str)]
noncomputable def HA (x:Str) (l_:List (Str×xe)):Option xe:=by induction l_ with|nil=>exact Option.none|cons e r ih=>exact bif seq e.1 x then some e.2 else ih
structure cf (g:G):Prop where
 glob:∀e∈Ea,∃u,e.2=.glob u∧b6 g e.1 u
 blt:∀e∈Hz,b6 g e.1 (jY e.2)
theorem vW {x:Str} {v:PV} {l:List (Str×PV)} (h:ax x l=some v):∃e∈l,e.1=x∧e.2=v:=by induction l with|nil=>exact nS h|cons e r ih=>have h:(bif seq e.1 x then some e.2 else ax x r)=some v:=h;induction q:seq e.1 x with|true=>rw[q] at h;exact ⟨e,List.mem_cons_self,aK.mp q,Option.some.inj h⟩|false=>rw[q] at h;exact aG (ih h) λe' m z=>⟨e',List.mem_cons_of_mem _ m,z⟩
theorem Eb {x:Str} {v:xe} {l:List (Str×xe)} (h:HA x l=some v):∃e∈l,e.1=x∧e.2=v:=by induction l with|nil=>exact nS h|cons e r ih=>have h:(bif seq e.1 x then some e.2 else HA x r)=some v:=h;induction q:seq e.1 x with|true=>rw[q] at h;exact ⟨e,List.mem_cons_self,aK.mp q,Option.some.inj h⟩|false=>rw[q] at h;exact aG (ih h) λe' m z=>⟨e',List.mem_cons_of_mem _ m,z⟩
noncomputable def c8 (d:Option dm) (attr:Addr→Str→Option AK) (fns:Addr→List PV→Hp→R1) (cs:List ((Nat×Nat×Nat)×fM)):Ctx:=⟨aV d,λz=>true,true,λx=>ax x Ea,λx=>HA x Hz,attr,fns,cs⟩
noncomputable def noAttr:Addr→Str→Option AK:=λz z=>Option.none
noncomputable def cg:Addr→List PV→Hp→R1:=λz z z=>Option.none
noncomputable def KP:ScopeKind→Bool|.function=>true|_=>false
theorem aU {L f:Addr} {d:Option dm} {attr:Addr→Str→Option AK} {cs:List ((Nat×Nat×Nat)×fM)} (N:cf g) (hs:fd.scope=aV d) (hk:KP (aV d).kind=true) (hg:fd.globals=mainGlobals) (hb:fd.builtins=builtinsNs) (hh:A.handled=Option.none) (hu:A.units+9<cLine) (ha:∀C a k,attr C a=some k→gv g C a k) (hf:eV g A.in1 fns) (hc:∀p t,cb p cs=some t→di (c5 g B fd L f) A t):af (c5 g B fd L f) A (c8 d attr fns cs) where
 scope:=hs
 w:=rfl
 kind:=by show fd.scope.kind=_;rw[hs];induction q:(aV d).kind using ScopeKind.casesOn <;> rw[q] at hk <;> first | rfl | exact fT hk
 globals:=hg
 builtins:=hb
 hd:=λz=>hh
 un:=hu
 glob:=λx v e=>by refine w6 (vW (show ax x Ea=some v from e)) λe' m h1 h2=>?_;refine aG (N.glob e' m) λu h3 h4=>?_;exact ⟨u,h2.symm.trans h3,h1▸h4⟩
 blt:=λx b e=>by refine w6 (Eb (show HA x Hz=some b from e)) λe' m h1 h2=>?_;have:=N.blt e' m;rw[h1,h2] at this;exact this
 attr:=ha
 fns:=hf
 comps:=hc
noncomputable def Jc (x_:Expr):List Expr:=by induction x_ using Expr.casesOn with|Call f args _ _=>exact f::args|BinOp l _ r _=>exact [l,r]|BoolOp _ vs _=>exact vs|IfExp t a b _=>exact [t,a,b]|Attribute o _ _=>exact [o]|Subscript v i _=>exact [v,i]|Tuple es _ _=>exact es|List es _=>exact es|Compare l _ rs _=>exact l::rs|_=>exact [.Constant .none 0 default]
noncomputable def Bt:Stmt:=.Pass default
noncomputable def pL:List Nat→Expr→Expr|[],e=>e|i::r,e=>pL r ((Jc e).getD i yb)
noncomputable def dy (x_:Stmt):Expr:=by induction x_ using Stmt.casesOn with|Assign _ e _=>exact e|Return e _=>exact e.getD yb|AugAssign _ _ e _=>exact e|Expr e _=>exact e|If t _ _ _=>exact t|For t _ _ _ _=>exact t|_=>exact yb
noncomputable def eD (x_:Stmt):List Stmt:=by induction x_ using Stmt.casesOn with|If _ a b _=>exact a++b|For _ _ a _ _=>exact a|While _ a _ _=>exact a|Try a _ _ _ _=>exact a|_=>exact []
noncomputable def eK:List Nat→List Stmt→Stmt|[],_=>Bt|[i],l=>l.getD i Bt|i::r,l=>eK r (eD (l.getD i Bt))
noncomputable def zx (x_:Stmt):List Expr:=by induction x_ using Stmt.casesOn with|Assign ts _ _=>exact ts|_=>exact []
noncomputable def ju (x_:Stmt):Expr:=by induction x_ using Stmt.casesOn with|For _ i _ _ _=>exact i|_=>exact yb
noncomputable def tG (n:Nat) (e:Expr):LC:=by
 induction e using Expr.casesOn with
 | ListComp e gs sc p=>exact let g:=gs.getD 0 ⟨e,e,[],0⟩;⟨e,g.target,g.iter,g.ifs,sc,p,n⟩
 | _=>exact ⟨yb,yb,yb,[],default,default,n⟩
noncomputable def Ra (n:Nat) (e:Expr):DC:=by
 induction e using Expr.casesOn with
 | DictComp k v gs sc p=>exact let g:=gs.getD 0 ⟨k,k,[],0⟩;⟨k,v,g.target,g.iter,g.ifs,sc,p,n⟩
 | _=>exact ⟨yb,yb,yb,yb,[],default,default,n⟩
noncomputable def keyOf (p:Pos):Nat×Nat×Nat:=(p.line,p.col,p.endCol)
noncomputable def yc (Γ:Ctx) (c:LC) (q:Loc→PV→Bool) (F:Loc→PV→PV):(Nat×Nat×Nat)×fM:=(keyOf c.pos,⟨c.e,c.f Γ (aC (aN Γ c.scope [])) q F⟩)
noncomputable def dQ:Loc→PV→Bool:=λz z=>true
theorem j5 {c:LC} {q:Loc→PV→Bool} (C:af κ A Γ) (hh:A.handled=Option.none) (Kr:c.ok Γ=true) (eC:∀v,foldedSetIterable c.iter κ.env v=pure v):di κ A (yc Γ c q F).2∧iq κ A (yc Γ c q F).2:=by
 refine DI C hh Kr eC λL=>bu (fy C ?_ λp t h=>nomatch h) λp t h=>nomatch h
 have hk:=(Bool.and_eq_true_iff.mp Kr).1;induction q:c.scope.kind using ScopeKind.casesOn <;> rw[q] at hk <;> first | rfl | exact fT hk
noncomputable def b3 (Γ:Ctx) (mt:Str→Bool) (loops:List ((Nat×Nat)×sR)):aA:=⟨Γ,λz z=>false,λz z z=>.fail,loops,mt,λz=>Option.none,false⟩
theorem cj {mt:Str→Bool} {loops:List ((Nat×Nat)×sR)} (C:af κ A Γ) (u:∀p t,cb p Γ.comps=some t→iq κ A t) (l:∀p t,mL p loops=some t→∀loc H,bt κ A X (exec t.st κ.env) loc H (t.f loc H)):cE κ A X (b3 Γ mt loops) where
 c:=C
 set:=λz z h=>nomatch h
 km:=λz z z z z z z z z h=>h.elim
 ve:=λz z z h=>(h rfl).elim
 loops:=l
 uses:=λp t h z=>u p t h
 raises:=λh=>nomatch h
theorem bj {P:fM→Prop} {l:List ((Nat×Nat×Nat)×fM)}:(∀e∈l,P e.2)→∀p t,cb p l=some t→P t:=by induction l with|nil=>exact λh p t q=>nS q|cons e r ih=>intro h p t q;have q:(bif Nat.beq e.1.1 p.line&&(Nat.beq e.1.2.1 p.col&&Nat.beq e.1.2.2 p.endCol) then some e.2 else cb p r)=some t:=q;induction c:Nat.beq e.1.1 p.line&&(Nat.beq e.1.2.1 p.col&&Nat.beq e.1.2.2 p.endCol) with|true=>rw[c] at q;refine au q ?_;exact h e List.mem_cons_self|false=>rw[c] at q;exact ih (λe m=>h e (List.mem_cons_of_mem _ m)) p t q
theorem cH {P:sR→Prop} {l:List ((Nat×Nat)×sR)}:(∀e∈l,P e.2)→∀p t,mL p l=some t→P t:=by induction l with|nil=>exact λh p t q=>nS q|cons e r ih=>intro h p t q;have q:(bif Nat.beq e.1.1 p.line&&Nat.beq e.1.2 p.col then some e.2 else mL p r)=some t:=q;induction c:Nat.beq e.1.1 p.line&&Nat.beq e.1.2 p.col with|true=>rw[c] at q;refine au q ?_;exact h e List.mem_cons_self|false=>rw[c] at q;exact ih (λe m=>h e (List.mem_cons_of_mem _ m)) p t q
noncomputable def Ec (f:Nat):List (Nat×(List PV→Hp→List Prop×PV))→Option (List PV→Hp→List Prop×PV)|[]=>Option.none|e::r=>bif Nat.beq e.1 f then some e.2 else Ec f r
noncomputable def iv (l:List (Nat×(List PV→Hp→List Prop×PV))):Addr→List PV→Hp→R1:=λf args H=>(Ec f l).map λr=>r args H
theorem c9 :∀{l:List (Nat×(List PV→Hp→List Prop×PV))},(∀e∈l,∀args H,AllP (e.2 args H).1→(∃o fd,g.K.lookup e.1=some o∧o.data=.func fd)∧a7 g A H e.1 args (e.2 args H).2)→eV g A (iv l)
 | [],_=>λf args H gd r h=>nomatch h
 | e::l,h=>λf args H gd r q hg=>by have q:((bif Nat.beq e.1 f then some e.2 else Ec f l).map λr=>r args H)=some (gd,r):=q;induction c:Nat.beq e.1 f with|true=>rw[c] at q;have:=Nat.eq_of_beq_eq_true c;subst this;have q:e.2 args H=(gd,r):=Option.some.inj q;have:=h e List.mem_cons_self args H;rw[q] at this;exact this hg|false=>rw[c] at q;exact c9 (λe m=>h e (List.mem_cons_of_mem _ m)) f args H gd r q hg
noncomputable def mY:=fnIn "_law_sign" pb
structure aQ (A:Around) (k:Nat):Prop where
 hd:A.handled=Option.none
 dp:A.depth+k<recursionLimit
 un:A.units+12*k+100<cLine
theorem aQ.down {k:Nat} (R:aQ A (k+1)) (env:Env):aQ (A.deeper env).in1 k:=⟨R.hd,by
 show A.depth+1+k<_;have:=R.dp;lia,by
 show A.units+3+1+12*k+100<_;have:=R.un;lia⟩
theorem aQ.one {k:Nat} (R:aQ A k):A.depth<recursionLimit:=Nat.lt_of_le_of_lt (Nat.le_add_right _ _) R.dp
theorem aQ.lt {k:Nat} (R:aQ A k) (h:j≤k):aQ A j:=⟨R.hd,by have:=R.dp;lia,by have:=R.un;lia⟩
theorem aQ.u9 {k:Nat} (R:aQ A k) (env:Env):(A.deeper env).units+9<cLine:=by show A.units+3+9<_;have:=R.un;lia
theorem cX {f:Addr} {d:Option dm} {r:PV} {Γ:aA} (F:cG g f d ns) (hl:ns.length=args.length) (hn:ar args=true) (fu:A.depth<recursionLimit) (C:∀o fd,FnAt g f o fd (bodyOf d)→fd.scope=aV d→∀h L,cE (c5 g ⟨h,[]⟩ fd L f) (A.deeper (callEnvC fd L f)) ba Γ) (h:(av Γ n (bodyOf d) (fv ns args) []).Sat (λo=>∃v,mU o=some v∧kR o.H v=r∧noRef r=true)):a7 g A H f args r:=by refine Ce F.ex λo fd Fa hs Po hb=>?_;exact G5 Fa Po fu hn (hb _ hl) (C o fd Fa hs) h
theorem bU {f:Addr} {d:Option dm} (F:cG g f d ns):∃o fd,g.K.lookup f=some o∧o.data=.func fd:=by refine gU F.ex λo fd Fa z=>?_;exact ⟨o,fd,Fa.look,Fa.data⟩
theorem aX :eV g A cg:=λf args H gd r h=>nomatch h
theorem bo :∀C a k,noAttr C a=some k→gv g C a k:=λC a k h=>nomatch h
theorem ak :∀p t,cb p []=some t→di κ A t:=λp t h=>nomatch h
namespace L
noncomputable def jv (n:Int):Int:=bif decide (Int.fmod (Int.fdiv n 32) 1112064<55296) then Int.fmod (Int.fdiv n 32) 1112064 else Int.fmod (Int.fdiv n 32) 1112064+2048
noncomputable def yd:List Nat:=[32,120,39,34,92,35,10,59,45,40,43,233,55,9,38,61,13,247]
noncomputable def sgn (n:Int):Nat:=bif Int.fmod n 32==31 then (jv n).toNat else yd.getD (ix (Int.fmod (Int.fmod n 32) 18) 18) 0
end L
theorem KQ (n:Int):av (aC (c8 mY noAttr cg [])) 40 (bodyOf mY) [("number",.int n)] [] = (.need [(false=false)] (.br (Int.fmod n 32==31) (.need [(false=false),(true=true),(false=false)] (.need [(decide (0≤L.jv n)&&decide (L.jv n≤1114111))=true] (.leaf ⟨.ret (.str [(L.jv n).toNat]),[("number",.int n),("code",.int (Int.fmod (Int.fdiv n 32) 1112064))],[]⟩))) (.need [(false=false),(false=false),(bD (Int.fmod (Int.fmod n 32) 18) 18)=true] (.leaf ⟨.ret (.str (cA L.yd (Int.fmod (Int.fmod n 32) 18))),[("number",.int n)],[]⟩)))):=by kernel_rfl
theorem Jd (h:0≤i) (h2:i<n):seqIndex? i n=some i.toNat:=by unfold seqIndex?;rw[if_neg (Int.not_lt.mpr h)];dsimp only;rw[if_pos (by rw[Bool.and_eq_true,decide_eq_true_iff,decide_eq_true_iff];exact ⟨h,h2⟩)]
theorem jw (h:0≤i) (h2:i<n):bD i n=true:=by unfold bD;rw[Jd h h2];rfl
theorem Je (h:0≤i) (h2:i<n):ix i n=i.toNat:=by unfold ix;rw[Jd h h2];rfl
theorem rR (x:PV) (l:List PV):ez (x::l) 0=x:=by unfold ez;rw[Je (Int.le_refl _) (by rw[List.length_cons];lia)];rfl
theorem mn (x:Nat) (l:List Nat):cA (x::l) 0=[x]:=by unfold cA;rw[Je (Int.le_refl _) (by rw[List.length_cons];lia)];rfl
theorem fA (n:Int) {m:Int} (h:0<m):0≤Int.fmod n m∧Int.fmod n m<m:=⟨Int.fmod_nonneg_of_pos _ h,Int.fmod_lt_of_pos _ h⟩
section
variable {g:G} {A:Around} (N:cf g)
theorem pM (N:cf g) (F:cG g 733 mY ["number"]) {k:Nat} (R:aQ A (k+1)) (n:Int) (H:Hp):a7 g A H 733 [.int n] (.str [L.sgn n]):=by
 refine cX (Γ:=aC (c8 mY noAttr cg [])) (n:=40) F rfl rfl R.one (λo fd Fa hs h L=>bu (aU N hs (by kernel_rfl) Fa.glob Fa.blt R.hd (R.u9 _) bo aX ak) (λp t h=>nomatch h)) ?_;show (av _ 40 (bodyOf mY) [("number",.int n)] []).Sat _;rw[KQ];refine ⟨⟨rfl,trivial⟩,λh=>⟨⟨rfl,rfl,rfl,trivial⟩,⟨?_,trivial⟩,⟨_,rfl,?_,rfl⟩⟩,λh=>⟨⟨rfl,rfl,?_,trivial⟩,⟨_,rfl,?_,rfl⟩⟩⟩
 ·have:=fA (Int.fdiv n 32) (m:=1112064) (by omega);unfold L.jv;induction hc:decide (Int.fmod (Int.fdiv n 32) 1112064<55296) with|true=>have:=of_decide_eq_true hc;simp only[cond_true,Bool.and_eq_true,decide_eq_true_eq];omega|false=>have:=of_decide_eq_false hc;simp only[cond_false,Bool.and_eq_true,decide_eq_true_eq];omega
 ·show PV.str [(L.jv n).toNat]=.str [L.sgn n];unfold L.sgn;rw[h];rfl
 ·have:=fA (Int.fmod n 32) (m:=18) (by omega);exact jw this.1 this.2
 ·show PV.str (cA L.yd _)=.str [L.sgn n];unfold L.sgn;rw[h];rfl
end
noncomputable def NM:Addr→List PV→Hp→R1:=λf args z=>bif Nat.beq f 733 then (one? args).bind λv=>v.int?.map λn=>([],.str [L.sgn n]) else Option.none
theorem zy (N:cf g) (F:cG g 733 mY ["number"]) {k:Nat} (R:aQ A (k+1)):eV g A NM:=λf args H gd r h hg=>by have h:(bif Nat.beq f 733 then (one? args).bind λv=>v.int?.map λn=>([],.str [L.sgn n]) else Option.none)=some (gd,r):=h;induction q:Nat.beq f 733 with|false=>rw[q] at h;exact nS h|true=>rw[q] at h;have:=Nat.eq_of_beq_eq_true q;subst this;refine bS h λv hv h=>?_;refine mS h λn hn h=>?_;refine aj (Prod.mk.inj h) λae bX=>?_;subst ae;subst bX;have:=PV.cy hn;subst this;have:=yZ hv;subst this;exact ⟨bU F,pM N F R n H⟩
noncomputable def hB:=fnIn "_law_settings" pb
noncomputable def iw:LC:=tG 30 (pL [1] (dy (eK [2,0] (bodyOf hB))))
noncomputable def iy:Ctx:=c8 hB noAttr NM []
noncomputable def vX (v:Option PV) (f:Int→PV):PV:=(v.bind PV.int?).elim .none f
noncomputable def vY:Str→Bool:=λx=>seq x "changes"
noncomputable def intsOf (d:List PV):List Int:=d.map λv=>(v.int?).getD 0
namespace L
noncomputable def dR (num wh k:Int):Nat:=sgn (Int.fmod (Int.fdiv (Int.fdiv num 144) (18 ^ (3*wh+k).toNat)) 18)
noncomputable def ye:Loc→PV→PV:=λloc y=>vX (ax "number" loc) λnum=>vX (ax "which" loc) λwh=>vX (some y) λk=>.str [dR num wh k]
noncomputable def pO (num wh:Int):Int:=Int.fmod (Int.fdiv num (12 ^ wh.toNat)) 12
noncomputable def runOf (num wh:Int):PV:=bif Int.fdiv (pO num wh) 4==2 then .str [dR num wh 0,dR num wh 1,dR num wh 2] else .bool (Int.fdiv (pO num wh) 4==1)
noncomputable def chg (v:Int):List Nat:=cA [32,119,114,108,109,115,101,32] (Int.fmod (Int.fdiv v 32) 8)++[sgn (Int.fmod (Int.fdiv v 256) 18)]
noncomputable def takes (wh v:Int):Bool:=!(sEq (cA (chg v) 0) [32])&&(!(cz (chg v) [[109,32],[101,32]])&&((Int.fmod (Int.fdiv v 4608) 2==wh)&&true))
noncomputable def changes (wh:Int) (ds:List Int):List (List Nat):=(ds.filter (takes wh)).map chg
noncomputable def fB (num:Int) (ds:List Int) (wh:Int):PV:=.tup [.bool (Int.fmod (pO num wh) 2==1),.bool (Int.fmod (Int.fdiv (pO num wh) 2) 2==1),runOf num wh,.lst ((changes wh ds).map .str)]
end L
noncomputable abbrev aD (l r:Loc):Loc:=l++r
noncomputable def dS (num wh:Int) (d:List PV) (r:PV):Loc:=[("number",.int num),("drawn",.lst d),("which",.int wh),("figure",.int (L.pO num wh)),("run",r)]
theorem Bu (num wh v:Int) (d acc:List PV) (r:PV):av (b3 iy vY []) 40 (eD (eK [4] (bodyOf hB))) (aD (dS num wh d r) [("changes",.ref 0),("v",.int v)]) [(0,.lst acc)] = (.need [(false=false),(true=true),(false=false),(false=false),(true=true),(false=false),bD (Int.fmod (Int.fdiv v 32) 8) 8=true,fits 2=true] (.need [bD 0 2=true,(!(sEq (cA (L.chg v) 0) [32]))=true→(!(cz (L.chg v) [[109,32],[101,32]]))=true→false=false,(!(sEq (cA (L.chg v) 0) [32]))=true→(!(cz (L.chg v) [[109,32],[101,32]]))=true→true=true,(!(sEq (cA (L.chg v) 0) [32]))=true→(!(cz (L.chg v) [[109,32],[101,32]]))=true→false=false] (.br (L.takes wh v) (.need [] (.need [] (.need [fits (acc.length+1)=true] (.leaf ⟨.next,aD (aD (dS num wh d r) [("changes",.ref 0)]) [("v",.int v),("change",.str (L.chg v))],[(0,.lst (acc++[.str (L.chg v)]))]⟩)))) (.leaf ⟨.next,aD (aD (dS num wh d r) [("changes",.ref 0)]) [("v",.int v),("change",.str (L.chg v))],[(0,.lst acc)]⟩)))):=by kernel_rfl
noncomputable def KR (loc:Loc) (H:Hp):Tr Out:=iN (λwh=>iN (λd=>.need [(∃num r,loc=aD (dS num wh d r) [("changes",.ref 0)]),H=[(0,.lst [])],(∃ds:List Int,d=ds.map .int),d.length≤1000] (.leaf ⟨.next,loc,bG 0 (.lst ((L.changes wh (intsOf d)).map .str)) H⟩)) ((ax "drawn" loc).bind PV.sv)) ((ax "which" loc).bind PV.int?)
theorem hJ (ds:List Int):intsOf (ds.map PV.int)=ds:=by unfold intsOf;rw[List.map_map];exact List.map_id'' (λz=>rfl) ds
theorem kY (wh:Int) (ds:List Int) (v:Int):L.changes wh (ds++[v])=if L.takes wh v then L.changes wh ds++[L.chg v] else L.changes wh ds:=by unfold L.changes;rw[List.filter_append];induction h:L.takes wh v with|true=>rw[List.filter_cons_of_pos h];simp|false=>rw[List.filter_cons_of_neg (by rw[h];exact Bool.false_ne_true)];simp
theorem fits_of (h:n≤16777216):fits n=true:=Nat.ble_eq.mpr h
theorem tH {e:Expr} (C:af κ A Γ) (hh:A.handled=Option.none) (h:dU Γ loc H n e=some (gd,.lst xs)) (hg:AllP gd):g5 κ A loc H tgt e xs (λz=>True):=λp s I Q E hQ=>i5 C h hg p s I Q E λp' s' u I' T' ru=>hQ _ _ _ _ I' T' (pw hh I' ru)
theorem HB (C:cE κ A X (b3 iy vY [])) (hh:A.handled=Option.none):∀loc H,bt κ A X (exec (eK [4] (bodyOf hB)) κ.env) loc H (KR loc H):=by
 refine xY (pos:=(eK [4] (bodyOf hB)).pos) (tgt:=dy (eK [4] (bodyOf hB))) (iter:=ju (eK [4] (bodyOf hB))) (body:=eD (eK [4] (bodyOf hB))) C (n:=40) (λv=>rfl) KR λloc H Φ h=>?_;refine aG (gC h) λwh h1 h=>?_;refine aG (gC h) λd h2 h=>?_;obtain ⟨⟨⟨num,r,rfl⟩,rfl,⟨ds,rfl⟩,hz,_⟩,h⟩:=h;have hI:dU (b3 iy vY []).c (aD (dS num wh (ds.map .int) r) [("changes",.ref 0)]) [(0,.lst [])] 40 (ju (eK [4] (bodyOf hB)))=some ([],.lst (ds.map .int)):=by kernel_rfl
 refine ⟨ds.map .int,λz=>True,λrest l H'=>l=aD (dS num wh (ds.map .int) r) [("changes",.ref 0)]∧∃done more,ds=done++more∧rest=more.map .int∧H'=[(0,.lst ((L.changes wh done).map .str))],tH C.c hh hI trivial,⟨rfl,[],ds,rfl,rfl,rfl⟩,λl H' hl=>?_,λy rest l H' hl=>?_⟩
 ·obtain ⟨rfl,done,more,e1,e2,rfl⟩:=hl;induction more using List.casesOn with
  | cons _ _=>cases e2
  | nil=>rw[List.append_nil] at e1;subst e1;refine ⟨trivial,?_⟩;rw[hJ] at h;exact h
 ·obtain ⟨rfl,done,more,e1,e2,rfl⟩:=hl;induction more using List.casesOn with
  | nil=>cases e2
  | cons v more=>
  cases e2
  refine ⟨trivial,?_⟩
  show (av (b3 iy vY []) 40 (eD (eK [4] (bodyOf hB))) (aD (dS num wh (ds.map .int) r) [("changes",.ref 0),("v",.int v)]) [(0,.lst ((L.changes wh done).map .str))]).Sat _
  rw[Bu]
  have r8:=fA (Int.fdiv v 32) (m:=8) (by lia)
  have fz:fits (((L.changes wh done).map PV.str).length+1)=true:=fits_of (by
   have h1:(L.changes wh done).length≤done.length:=by unfold L.changes;rw[List.length_map];exact List.length_filter_le _ _
   rw[List.length_map] at hz ⊢;rw[e1,List.length_append] at hz;lia)
  refine ⟨⟨rfl,rfl,rfl,rfl,rfl,rfl,jw r8.1 r8.2,rfl,trivial⟩,⟨jw (by decide) (by decide),λz z=>rfl,λz z=>rfl,λz z=>rfl,trivial⟩,λht=>⟨trivial,trivial,⟨fz,trivial⟩,?_⟩,λht=>?_⟩
  ·refine ⟨_,Sub.app,rfl,done++[v],more,by rw[e1,List.append_assoc];rfl,rfl,?_⟩;rw[kY,if_pos ht,List.map_append];rfl
  ·refine ⟨_,Sub.app,rfl,done++[v],more,by rw[e1,List.append_assoc];rfl,rfl,?_⟩;rw[kY,if_neg (by rw[ht];exact Bool.false_ne_true)]
theorem Bv (num wh k:Int) (d acc:List PV) (b:Bool):iw.turn (aC (aN iy iw.scope [])) (dS num wh d (.bool b)) (.int k) acc [] = (.need [] (.br true (.need [decide (Builtin.Int.intBits wh≤64)=true,decide (0≤3*wh+k)=true,decide (5*(3*wh+k)≤134217728)=true,false=false,true=true,((18:Int) ^ (3*wh+k).toNat==0)=false,sy (18 ^ (3*wh+k).toNat)=true,false=false] (.need [fits (acc.length+1)=true] (.leaf ([("number",.int num),("which",.int wh),("k",.int k)],[],acc++[.str [L.dR num wh k]])))) (.leaf ([("number",.int num),("which",.int wh),("k",.int k)],[],acc)))):=by kernel_rfl
theorem tJ {num wh:Int} {d:List PV} (hw:wh=0∨wh=1):iw.side (aC (aN iy iw.scope [])) dQ L.ye (dS num wh d (.bool b)) [] [.int 0,.int 1,.int 2]:=λy hy acc ha=>by
 have hk:∃k:Int,y=.int k∧(k=0∨k=1∨k=2):=by
  rcases List.mem_cons.mp hy with h | hy
  ·exact ⟨0,h,.inl rfl⟩
  rcases List.mem_cons.mp hy with h | hy
  ·exact ⟨1,h,.inr (.inl rfl)⟩
  ·exact ⟨2,List.mem_singleton.mp hy,.inr (.inr rfl)⟩
 obtain ⟨k,rfl,hk⟩:=hk;rw[Bv];have fz:fits (acc.length+1)=true:=fits_of (by have:acc.length<3:=ha;lia);refine ⟨trivial,λz=>⟨?_,⟨fz,trivial⟩,rfl,rfl⟩,λh=>nomatch h⟩;rcases hw with rfl | rfl <;> rcases hk with rfl | rfl | rfl <;> exact ⟨by decide +kernel,by decide +kernel,by decide +kernel,rfl,rfl,by decide +kernel,by decide +kernel,rfl,trivial⟩
noncomputable def yf:aA:=b3 {iy with comps:=[yc iy iw dQ L.ye]} vY [(((eK [4] (bodyOf hB)).pos.line,(eK [4] (bodyOf hB)).pos.col),⟨eK [4] (bodyOf hB),KR⟩)]
noncomputable def Ed (num wh:Int) (d:List PV) (r:PV):List Prop:=[(∃Rb r',aD (dS num wh d r) [("changes",.ref 0)]=aD (dS Rb wh d r') [("changes",.ref 0)]),([(0,.lst [])]:Hp)=[(0,.lst [])],(∃ds:List Int,d=ds.map .int),d.length≤1000]
noncomputable def yg (num wh:Int) (d:List PV) (r:PV):Tr Out:=.need [eK [4] (bodyOf hB)=eK [4] (bodyOf hB)] (.need (Ed num wh d r) (.need [false=false,false=false,true=true,false=false] (.leaf ⟨.ret (.tup [.bool (Int.fmod (L.pO num wh) 2==1),.bool (Int.fmod (Int.fdiv (L.pO num wh) 2) 2==1),r,.ref 0]),aD (dS num wh d r) [("changes",.ref 0)],[(0,.lst ((L.changes wh (intsOf d)).map .str))]⟩)))
theorem NN (num wh:Int) (d:List PV):av yf 40 (bodyOf hB) [("number",.int num),("drawn",.lst d),("which",.int wh)] [] = (.need [decide (0≤wh)=true,decide (4*wh≤134217728)=true,((12:Int) ^ wh.toNat==0)=false,sy (12 ^ wh.toNat)=true,false=false] (.need [false=false,true=true] (.need [false=false,true=true] (.br (Int.fdiv (L.pO num wh) 4==2) (.need [iw.e=iw.e,"range"="range",true=true,iw.side (aC (aN iy iw.scope [])) dQ L.ye (dS num wh d (.bool (Int.fdiv (L.pO num wh) 4==1))) [] [.int 0,.int 1,.int 2],(d4 (LC.val dQ L.ye (dS num wh d (.bool (Int.fdiv (L.pO num wh) 4==1))) [.int 0,.int 1,.int 2])&&fits 3)=true] (.need [] (yg num wh d (.str [L.dR num wh 0,L.dR num wh 1,L.dR num wh 2])))) (.need [] (yg num wh d (.bool (Int.fdiv (L.pO num wh) 4==1)))))))):=by kernel_rfl
theorem bM:∀l:List (List Nat),ar (l.map PV.str)=true|[]=>rfl|_::r=>bM r
theorem fZ:∀l:List Int,ar (l.map PV.int)=true|[]=>rfl|_::r=>fZ r
section
variable {g:G} {A:Around}
theorem Bw (N:cf g) (F1:cG g 733 mY ["number"]) (F:cG g 738 hB ["number","drawn","which"]) {k:Nat} (R:aQ A (k+2)) {num wh:Int} {ds:List Int} (hw:wh=0∨wh=1) (hd:ds.length≤1000) (H:Hp) : a7 g A H 738 [.int num,.lst (ds.map .int),.int wh] (L.fB num ds wh):=by
 refine cX (Γ:=yf) (n:=40) F rfl (by show ar (ds.map PV.int)&&true=true;rw[fZ];rfl) R.one (λo fd Fa hs h La=>?_) ?_
 ·have C0:af (c5 g ⟨h,[]⟩ fd La 738) (A.deeper (callEnvC fd La 738)) iy:=aU N hs (by kernel_rfl) Fa.glob Fa.blt R.hd (R.u9 _) bo (zy N F1 (R.down _)) ak;refine aj (j5 (c:=iw) (q:=dQ) (F:=L.ye) C0 R.hd (by kernel_rfl) (λv=>rfl)) λe1 u1=>?_;have ce:∀p t,cb p [yc iy iw dQ L.ye]=some t→di (c5 g ⟨h,[]⟩ fd La 738) (A.deeper (callEnvC fd La 738)) t:=bj λe m=>by rw[List.mem_singleton.mp m];exact e1
  have cu:∀p t,cb p [yc iy iw dQ L.ye]=some t→iq (c5 g ⟨h,[]⟩ fd La 738) (A.deeper (callEnvC fd La 738)) t:=bj λe m=>by rw[List.mem_singleton.mp m];exact u1
  exact cj (aU N hs (by kernel_rfl) Fa.glob Fa.blt R.hd (R.u9 _) bo (zy N F1 (R.down _)) ce) cu (cH λe m=>by rw[List.mem_singleton.mp m];exact HB (cj C0 (λp t h=>nomatch h) λp t h=>nomatch h) R.hd)
 show (av yf 40 (bodyOf hB) [("number",.int num),("drawn",.lst (ds.map .int)),("which",.int wh)] []).Sat _;rw[NN];have fin:∀r:PV,kR [(0,.lst ((L.changes wh (intsOf (ds.map .int))).map .str))] r=r→noRef r=true→r=L.runOf num wh→(yg num wh (ds.map .int) r).Sat (λo=>∃v,mU o=some v∧kR o.H v=L.fB num ds wh∧noRef (L.fB num ds wh)=true):=λr h1 h2 h3=>by
  refine ⟨⟨rfl,trivial⟩,⟨⟨num,r,rfl⟩,rfl,⟨ds,rfl⟩,by rw[List.length_map];exact hd,trivial⟩,⟨rfl,rfl,rfl,rfl,trivial⟩,_,rfl,?_,?_⟩
  ·show PV.tup [_,_,kR _ r,.lst ((L.changes wh (intsOf (ds.map .int))).map .str)]=_;rw[h1,hJ,h3];rfl
  ·unfold L.fB;show (noRef (L.runOf num wh)&&(ar ((L.changes wh ds).map PV.str)&&true))=true;rw[←h3,h2,bM];rfl
 have w1:decide (0≤wh)=true∧decide (4*wh≤134217728)=true∧((12:Int) ^ wh.toNat==0)=false∧sy (12 ^ wh.toNat)=true:=by rcases hw with rfl | rfl <;> exact ⟨by decide +kernel,by decide +kernel,by decide +kernel,by decide +kernel⟩
 refine ⟨⟨w1.1,w1.2.1,w1.2.2.1,w1.2.2.2,rfl,trivial⟩,⟨rfl,rfl,trivial⟩,⟨rfl,rfl,trivial⟩,λh=>⟨⟨rfl,rfl,rfl,tJ hw,rfl,trivial⟩,trivial,?_⟩,λh=>⟨trivial,?_⟩⟩
 ·refine fin _ rfl rfl ?_;unfold L.runOf;rw[h];rfl
 ·refine fin _ rfl rfl ?_;unfold L.runOf;rw[h];rfl
end
noncomputable def bf:=fnIn "_law_turned" pb
noncomputable def rS:Ctx:=c8 bf noAttr cg []
noncomputable def Bx:(Nat×Nat×Nat)×fM:=((742,20,48),⟨NF "signs" "change" 1 ⟨742,20,742,25⟩ ⟨742,20,742,33⟩ ⟨742,34,742,40⟩ ⟨742,41,742,42⟩ ⟨742,34,742,43⟩ ⟨742,45,742,47⟩ ⟨742,20,742,48⟩ 0 0,Kx rS "signs" "change" 1⟩)
noncomputable def gJ:Ctx:=c8 bf noAttr cg [Bx]
namespace L
noncomputable def kZ (r sg c:List Nat):List Nat:=bif sEq (cA c 0) r then (bif aa (cA c 1) sg then gy (c.getD (ix 1 c.length) 0) sg else sg++cA c 1) else sg
noncomputable def turned (r:List Nat):List Nat→List (List Nat)→List Nat|sg,[]=>sg|sg,c::cs=>turned r (kZ r sg c) cs
end L
noncomputable def gL (sg r:List Nat) (d:List PV):Loc:=[("signs",.str sg),("role",.str r),("changes",.lst d)]
theorem Ee (sg r c:List Nat) (d:List PV):av (b3 gJ (λz=>false) []) 40 (eD (eK [0] (bodyOf bf))) (aD (gL sg r d) [("change",.str c)]) [] = (.need [bD 0 c.length=true] (.br (sEq (cA c 0) r) (.need [bD 1 c.length=true,aa (cA c 1) sg=true→Bx.2.e=Bx.2.e,aa (cA c 1) sg=true→bD 1 c.length=true,aa (cA c 1) sg=false→bD 1 c.length=true,aa (cA c 1) sg=false→fits (sg.length+1)=true] (.leaf ⟨.next,aD (gL (bif aa (cA c 1) sg then gy (c.getD (ix 1 c.length) 0) sg else sg++cA c 1) r d) [("change",.str c)],[]⟩)) (.leaf ⟨.next,aD (gL sg r d) [("change",.str c)],[]⟩))):=by kernel_rfl
noncomputable def strOf (v:PV):List Nat:=(v.d3).getD []
theorem bV:∀cs:List (List Nat),strsOf (cs.map PV.str)=cs|[]=>rfl|c::r=>congrArg (c::·) (bV r)
noncomputable def Rc (loc:Loc) (H:Hp):Tr Out:=iN (λsg=>iN (λr=>iN (λd=>.need [loc=gL sg r d,H=[],(∃cs:List (List Nat),d=cs.map .str∧∀c∈cs,c.length=2),sg.length+d.length≤10000000] (.leaf ⟨.next,gL (L.turned r sg (strsOf d)) r d,[]⟩)) ((ax "changes" loc).bind PV.sv)) ((ax "role" loc).bind PV.d3)) ((ax "signs" loc).bind PV.d3)
theorem By (r sg c:List Nat):(L.kZ r sg c).length≤sg.length+1:=by unfold L.kZ;induction sEq (cA c 0) r with|false=>exact Nat.le_succ _|true=>induction aa (cA c 1) sg with|true=>exact Nat.le_trans (List.length_filter_le _ _) (Nat.le_succ _)|false=>exact Nat.le_of_eq (List.length_append)
theorem KS (C:cE κ A X (b3 gJ (λz=>false) [])) (hh:A.handled=Option.none):∀loc H,bt κ A X (exec (eK [0] (bodyOf bf)) κ.env) loc H (Rc loc H):=by
 refine xY (pos:=(eK [0] (bodyOf bf)).pos) (tgt:=dy (eK [0] (bodyOf bf))) (iter:=ju (eK [0] (bodyOf bf))) (body:=eD (eK [0] (bodyOf bf))) C (n:=40) (λv=>rfl) Rc λloc H Φ h=>?_;refine aG (gC h) λsg h1 h=>?_;refine aG (gC h) λr h2 h=>?_;refine aG (gC h) λd h3 h=>?_;obtain ⟨⟨rfl,rfl,⟨cs,rfl,U9⟩,hz,_⟩,C3⟩:=h;have hI:dU (b3 gJ (λz=>false) []).c (gL sg r (cs.map .str)) [] 40 (ju (eK [0] (bodyOf bf)))=some ([],.lst (cs.map .str)):=by kernel_rfl
 refine ⟨cs.map .str,λz=>True,λrest l H'=>H'=[]∧∃sg' more,l=gL sg' r (cs.map .str)∧rest=more.map .str∧L.turned r sg cs=L.turned r sg' more∧(∀c∈more,c.length=2)∧sg'.length+more.length≤10000000,tH C.c hh hI trivial,⟨rfl,sg,cs,rfl,rfl,rfl,U9,by rwa[List.length_map] at hz⟩,λl H' hl=>?_,λy rest l H' hl=>?_⟩
 ·obtain ⟨rfl,sg',more,rfl,e2,e3,_⟩:=hl;induction more using List.casesOn with
  | cons _ _=>cases e2
  | nil=>rw[bV,e3] at C3;exact ⟨trivial,C3⟩
 ·obtain ⟨rfl,sg',more,rfl,e2,e3,e4,e5⟩:=hl;induction more using List.casesOn with
  | nil=>cases e2
  | cons c more=>
  cases e2
  refine ⟨trivial,?_⟩
  show (av (b3 gJ (λz=>false) []) 40 (eD (eK [0] (bodyOf bf))) (aD (gL sg' r (cs.map .str)) [("change",.str c)]) []).Sat _
  rw[Ee]
  have hc:=e4 c List.mem_cons_self
  rw[List.length_cons] at e5
  have i0:bD 0 c.length=true:=by rw[hc];decide +kernel
  have i1:bD 1 c.length=true:=by rw[hc];decide +kernel
  have le:=By r sg' c
  have go:∀Ef,Ef=L.kZ r sg' c→g6 (λl H'=>H'=[]∧∃KU zA,l=gL KU r (cs.map .str)∧more.map PV.str=zA.map .str∧L.turned r sg cs=L.turned r KU zA∧(∀c∈zA,c.length=2)∧KU.length+zA.length≤10000000) Φ ⟨.next,aD (gL Ef r (cs.map .str)) [("change",.str c)],[]⟩:=λEf e=>by subst e;exact ⟨_,Sub.app,rfl,_,more,rfl,rfl,e3,λc' m=>e4 c' (List.mem_cons_of_mem _ m),by lia⟩
  refine ⟨⟨i0,trivial⟩,λht=>⟨⟨i1,λz=>rfl,λz=>i1,λz=>i1,λz=>fits_of (by lia),trivial⟩,go _ ?_⟩,λht=>go _ ?_⟩
  ·unfold L.kZ;rw[ht];rfl
  ·unfold L.kZ;rw[ht];rfl
noncomputable def Eg:aA:=b3 gJ (λz=>false) [(((eK [0] (bodyOf bf)).pos.line,(eK [0] (bodyOf bf)).pos.col),⟨eK [0] (bodyOf bf),Rc⟩)]
theorem Rf (sg r:List Nat) (d:List PV):av Eg 40 (bodyOf bf) [("signs",.str sg),("role",.str r),("changes",.lst d)] [] = (.need [eK [0] (bodyOf bf)=eK [0] (bodyOf bf)] (.need [gL sg r d=gL sg r d,([]:Hp)=[],(∃cs:List (List Nat),d=cs.map .str∧∀c∈cs,c.length=2),sg.length+d.length≤10000000] (.need [] (.leaf ⟨.ret (.str (L.turned r sg (strsOf d))),gL (L.turned r sg (strsOf d)) r d,[]⟩)))):=by kernel_rfl
theorem Eh (N:cf g) (F:cG g 745 bf ["signs","role","changes"]) {k:Nat} (R:aQ A (k+1)) {sg:List Nat} {cs:List (List Nat)} (h2:∀c∈cs,c.length=2) (hz:sg.length+cs.length≤10000000) (H:Hp) : a7 g A H 745 [.str sg,.str r,.lst (cs.map .str)] (.str (L.turned r sg cs)):=by
 refine cX (Γ:=Eg) (n:=40) F rfl (by show ar (cs.map PV.str)&&true=true;rw[bM];rfl) R.one (λo fd Fa hs h La=>?_) ?_
 ·have C0:af (c5 g ⟨h,[]⟩ fd La 745) (A.deeper (callEnvC fd La 745)) rS:=aU N hs (by kernel_rfl) Fa.glob Fa.blt R.hd (R.u9 _) bo aX ak;have e1:di (c5 g ⟨h,[]⟩ fd La 745) (A.deeper (callEnvC fd La 745)) Bx.2:=Hj C0 rfl;have ce:∀p t,cb p [Bx]=some t→di (c5 g ⟨h,[]⟩ fd La 745) (A.deeper (callEnvC fd La 745)) t:=bj λe m=>by rw[List.mem_singleton.mp m];exact e1
  have cu:∀p t,cb p [Bx]=some t→iq (c5 g ⟨h,[]⟩ fd La 745) (A.deeper (callEnvC fd La 745)) t:=bj λe m=>by rw[List.mem_singleton.mp m];exact tj C0 e1 rfl
  have C1:af (c5 g ⟨h,[]⟩ fd La 745) (A.deeper (callEnvC fd La 745)) gJ:=aU N hs (by kernel_rfl) Fa.glob Fa.blt R.hd (R.u9 _) bo aX ce
  exact cj C1 cu (cH λe m=>by rw[List.mem_singleton.mp m];exact KS (cj C1 cu λp t h=>nomatch h) R.hd)
 show (av Eg 40 (bodyOf bf) [("signs",.str sg),("role",.str r),("changes",.lst (cs.map .str))] []).Sat _;rw[Rf,bV];exact ⟨⟨rfl,trivial⟩,⟨rfl,rfl,⟨cs,rfl,h2⟩,by rw[List.length_map];exact hz,trivial⟩,trivial,_,rfl,rfl,rfl⟩
noncomputable def PV.bool? (x_:PV):Option Bool:=by induction x_ using PV.casesOn with|bool b=>exact some b|_=>exact Option.none
noncomputable def eP:=fnIn "_law_roles" pb
noncomputable def f5:Ctx:=c8 eP noAttr cg []
noncomputable def iz:LC:=tG 30 (dy (eK [7] (bodyOf eP)))
noncomputable def iA:LC:=tG 30 (pL [0,1] (dy (eK [8] (bodyOf eP))))
noncomputable def Rg:Str→Bool:=λx=>seq x "usual"
noncomputable def bN (v:Option PV):List Nat:=v.elim [] strOf
noncomputable def oLst (v:Option PV):List PV:=v.elim [] λv=>(v.sv).getD []
noncomputable def dq (v:Option PV):Bool:=v.elim false λv=>(PV.bool? v).getD false
noncomputable def bW (i:Nat) (v:PV):Option PV:=(v.Ar).bind λl=>l[i]?
namespace L
noncomputable def dE (sg:List Nat) (cs:List PV) (role:List Nat) (has:Bool):Bool:=has != (Int.fmod ((bF (role++sg) (strsOf cs):Nat):Int) 2==1)
noncomputable def nN:Loc→PV→Bool:=λloc y=>dE (bN (ax "sign" loc)) (oLst (ax "changes" loc)) (bN (bW 0 y)) (dq (bW 1 y))
noncomputable def pP:Loc→PV→PV:=λloc y=>.str (bN (bW 0 y))
noncomputable def qZ:Loc→PV→Bool:=λloc y=>dq (ax "posix" loc)||!(sEq (strOf y) [101])
noncomputable def j6:Loc→PV→PV:=λloc y=>y
end L
namespace L
noncomputable def HC (lo hi:Nat) (sg:List Nat):Bool:=!(JW sg [lo])&&!(JW [hi] sg)
noncomputable def w1 (sg:List Nat):Bool:=bif sEq sg [95] then sEq sg [95] else (bif HC 97 122 sg then HC 97 122 sg else (bif HC 65 90 sg then HC 65 90 sg else HC 48 57 sg))
noncomputable def w2 (po:Bool) (sg:List Nat):Bool:=bif w1 sg then w1 sg else (bif po then (bif HC 192 255 sg then !(aa sg [215,247]) else HC 192 255 sg) else po)
noncomputable def w3 (po:Bool) (pn sg:List Nat):Bool:=bif w2 po sg then w2 po sg else (bif !(sEq pn []) then aa sg [126,45,46,47,42,63,61] else !(sEq pn []))
noncomputable def word (po:Bool) (pn sg:List Nat):Bool:=bif w3 po pn sg then !(aa sg pn) else w3 po pn sg
noncomputable def pairs (po:Bool) (pn sg:List Nat):List (Nat×Bool):=[(119,aa sg [32,9,13,10]),(114,sEq sg [35]),(108,word po pn sg),(109,aa sg [39,34]),(115,sEq sg [34]),(101,sEq sg [92])]
noncomputable def mZ (po:Bool) (pn sg:List Nat):List PV:=(pairs po pn sg).map λp=>.tup [.str [p.1],.bool p.2]
noncomputable def pQ:List Nat:=[40,41,59,60,62,124,38]
noncomputable def f7 (rn:PV):List Nat:=bif (PV.bool? rn).getD false then pQ else strOf rn
noncomputable def f9 (po:Bool) (pn sg:List Nat) (cs:List (List Nat)) (role:List Nat) (has:Bool):List Nat:=bif dE sg (cs.map PV.str) role has&&(po||!(sEq role [101])) then role else []
noncomputable def jR (po:Bool) (pn sg:List Nat) (cs:List (List Nat)):List Nat:=d5 ((pairs po pn sg).map λp=>f9 po pn sg cs [p.1] p.2)++(bif aa sg pn then [112] else [])
end L
noncomputable def eE (sg:List Nat) (po wh:Bool) (rn:PV) (d:List PV) (pn:List Nat) (w:Bool):Loc:=[("sign",.str sg),("settings",.tup [.bool po,.bool wh,rn,.lst d]),("posix",.bool po),("whole",.bool wh),("run",rn),("changes",.lst d),("punctuation",.str pn),("word",.bool w),("usual",.ref 0)]
theorem NP (sg role pn:List Nat) (po wh w has:Bool) (rn:PV) (d acc:List PV) (H:Hp):iz.turn (aC (aN f5 iz.scope [])) (eE sg po wh rn d pn w) (.tup [.str role,.bool has]) acc H = (.need [fits (role.length+sg.length)=true,d4 d=true,false=false] (.br (L.dE sg d role has) (.need [] (.need [fits (acc.length+1)=true] (.leaf ([("changes",.lst d),("sign",.str sg),("role",.str role),("has",.bool has)],H,acc++[.str role])))) (.leaf ([("changes",.lst d),("sign",.str sg),("role",.str role),("has",.bool has)],H,acc)))):=by kernel_rfl
theorem NQ (sg role pn:List Nat) (po wh w:Bool) (rn x:PV) (d acc:List PV) (H:Hp):iA.turn (aC (aN f5 iA.scope [])) (aD (eE sg po wh rn d pn w) [("roles",x)]) (.str role) acc H = (.need [] (.br (po||(!(sEq role [101])||false)) (.need [] (.need [fits (acc.length+1)=true] (.leaf ([("posix",.bool po),("role",.str role)],H,acc++[.str role])))) (.leaf ([("posix",.bool po),("role",.str role)],H,acc)))):=by kernel_rfl
noncomputable def rT:aA:=b3 {f5 with comps:=[yc f5 iz L.nN L.pP,yc f5 iA L.qZ L.j6]} Rg []
noncomputable def nc (sg:List Nat) (po wh:Bool) (rn:PV) (d:List PV) (pn:List Nat):List PV:=LC.val L.nN L.pP (eE sg po wh rn d pn (L.word po pn sg)) (L.mZ po pn sg)
noncomputable def pR (sg:List Nat) (po wh:Bool) (rn:PV) (d:List PV) (pn:List Nat):List PV:=LC.val L.qZ L.j6 (aD (eE sg po wh rn d pn (L.word po pn sg)) [("roles",.lst (nc sg po wh rn d pn))]) (nc sg po wh rn d pn)
noncomputable def pS (sg:List Nat) (po wh:Bool) (rn:PV) (d:List PV) (pn:List Nat):Tr Out:=.need [] (.need [] (.need [] (.need [] (.need [] (.need [] (.need [] (.need [fits 6=true] (.need [iz.side (aC (aN f5 iz.scope [])) L.nN L.pP (eE sg po wh rn d pn (L.word po pn sg)) [(0,.lst (L.mZ po pn sg))] (L.mZ po pn sg)] (.need [iz.e=iz.e] (.need [iA.e=iA.e,iA.side (aC (aN f5 iA.scope [])) L.qZ L.j6 (aD (eE sg po wh rn d pn (L.word po pn sg)) [("roles",.lst (nc sg po wh rn d pn))]) [(0,.lst (L.mZ po pn sg))] (nc sg po wh rn d pn),(d4 (pR sg po wh rn d pn)&&fits (d5 (strsOf (pR sg po wh rn d pn))).length)=true,fits ((d5 (strsOf (pR sg po wh rn d pn))).length+(bif aa sg pn then [112] else ([]:List Nat)).length)=true] (.leaf ⟨.ret (.str (d5 (strsOf (pR sg po wh rn d pn))++(bif aa sg pn then [112] else []))),aD (eE sg po wh rn d pn (L.word po pn sg)) [("roles",.lst (nc sg po wh rn d pn))],[(0,.lst (L.mZ po pn sg))]⟩)))))))))))
theorem Ei (sg r:List Nat) (po wh:Bool) (d:List PV):av rT 60 (bodyOf eP) [("sign",.str sg),("settings",.tup [.bool po,.bool wh,.str r,.lst d])] []=pS sg po wh (.str r) d (bif false then L.pQ else (bif !r.isEmpty then r else [])):=by kernel_rfl
theorem yh (sg:List Nat) (po wh:Bool) (d:List PV):av rT 60 (bodyOf eP) [("sign",.str sg),("settings",.tup [.bool po,.bool wh,.bool false,.lst d])] []=pS sg po wh (.bool false) d []:=by kernel_rfl
theorem Bz (sg:List Nat) (po wh:Bool) (d:List PV):av rT 60 (bodyOf eP) [("sign",.str sg),("settings",.tup [.bool po,.bool wh,.bool true,.lst d])] []=pS sg po wh (.bool true) d L.pQ:=by kernel_rfl
def dr (rn:PV):Prop:=rn=.bool true∨rn=.bool false∨∃r:List Nat,rn=.str r∧r.length≤1000
theorem dr.no (h:dr rn):noRef rn=true:=by rcases h with rfl | rfl | ⟨r,rfl,_⟩ <;> rfl
theorem Rh (sg:List Nat) (po wh:Bool) (rn:PV) (d:List PV) (h:dr rn):av rT 60 (bodyOf eP) [("sign",.str sg),("settings",.tup [.bool po,.bool wh,rn,.lst d])] []=pS sg po wh rn d (L.f7 rn):=by
 rcases h with rfl | rfl | ⟨r,rfl,_⟩
 ·exact Bz sg po wh d
 ·exact yh sg po wh d
 ·have e:L.f7 (.str r)=bif false then L.pQ else (bif !r.isEmpty then r else []):=by
   induction r using List.casesOn <;> rfl
  rw[e];exact Ei sg r po wh d
theorem j7:∀cs:List (List Nat),d4 (cs.map PV.str)=true|[]=>rfl|_::r=>j7 r
theorem Ej {sg:List Nat} {cs:List (List Nat)} (hz:sg.length≤1000):iz.side (aC (aN f5 iz.scope [])) L.nN L.pP (eE sg po wh rn (cs.map .str) pn (L.word po pn sg)) [(0,.lst (L.mZ po pn sg))] (L.mZ po pn sg):=λy hy acc ha=>by
 have hk:∃c b,y=.tup [.str [c],.bool b]:=by refine aG (List.mem_map.mp hy) λp z e=>?_;exact ⟨_,_,e.symm⟩
 refine rh hk λc b eq2=>?_;subst eq2;rw[NP];have fz:fits (acc.length+1)=true:=fits_of (by have:acc.length<6:=ha;lia);have e:L.nN (eE sg po wh rn (cs.map .str) pn (L.word po pn sg)) (.tup [.str [c],.bool b])=L.dE sg (cs.map .str) [c] b:=rfl;rw[e];refine ⟨⟨fits_of (by show 1+sg.length≤_;lia),j7 cs,rfl,trivial⟩,λh=>⟨trivial,⟨fz,trivial⟩,rfl,?_⟩,λh=>⟨rfl,?_⟩⟩
 ·rw[h];rfl
 ·rw[h];rfl
theorem Ek {q:Loc→PV→Bool} {l:List PV} (h:∀y∈l,∃c,y=.tup [.str [c],.bool true]∨y=.tup [.str [c],.bool false]):∀y∈LC.val q L.pP loc l,∃c:Nat,y=.str [c]:=λy hy=>by refine aG (List.mem_map.mp hy) λx hx eq2=>?_;subst eq2;refine bZ (h x (List.mem_filter.mp hx).1) λc e=>?_;rcases e with rfl | rfl <;> exact ⟨c,rfl⟩
theorem BA {sg:List Nat}:∀y∈L.mZ po pn sg,∃c,y=.tup [.str [c],.bool true]∨y=.tup [.str [c],.bool false]:=λy hy=>by
 obtain ⟨⟨c,b⟩,_,e⟩:=List.mem_map.mp hy;induction b
 ·exact ⟨c,.inr e.symm⟩
 ·exact ⟨c,.inl e.symm⟩
theorem zB {q:Loc→PV→Bool} {l:List PV}:(LC.val q F loc l).length≤l.length:=by unfold LC.val;rw[List.length_map];exact List.length_filter_le _ _
theorem El {sg:List Nat} {x:PV} {d l:List PV} (h1:∀y∈l,∃c:Nat,y=.str [c]) (h2:l.length≤6):iA.side (aC (aN f5 iA.scope [])) L.qZ L.j6 (aD (eE sg po wh rn d pn (L.word po pn sg)) [("roles",x)]) H l:=λy hy acc ha=>by
 refine bZ (h1 y hy) λc eq1=>?_;subst eq1;rw[NQ];have fz:fits (acc.length+1)=true:=fits_of (by lia);have e:L.qZ (aD (eE sg po wh rn d pn (L.word po pn sg)) [("roles",x)]) (.str [c])=(po||!(sEq [c] [101])):=rfl;rw[e];have e2:(po||(!(sEq [c] [101])||false))=(po||!(sEq [c] [101])):=by rw[Bool.or_false]
 rw[e2];refine ⟨trivial,λh=>⟨trivial,⟨fz,trivial⟩,rfl,?_⟩,λh=>⟨rfl,?_⟩⟩
 ·rw[h];rfl
 ·rw[h];rfl
theorem Em {sg pn':List Nat} {w:Bool} {x:PV} {cs:List (List Nat)}:∀ps:List (Nat×Bool),∃l:List (List Nat),LC.val L.qZ L.j6 (aD (eE sg po wh rn (cs.map .str) pn w) [("roles",x)]) (LC.val L.nN L.pP (eE sg po wh rn (cs.map .str) pn w) (ps.map λp=>.tup [.str [p.1],.bool p.2]))=l.map .str∧ l.length≤ps.length∧(∀c∈l,c.length=1)∧d5 l=d5 (ps.map λp=>L.f9 po pn' sg cs [p.1] p.2)
 | []=>⟨[],rfl,Nat.le_refl _,λz h=>(nomatch h),rfl⟩
 | (c,b)::r=>by
  obtain ⟨l,h1,h2,h3,h4⟩:=Em r;have q1:L.nN (eE sg po wh rn (cs.map .str) pn w) (.tup [.str [c],.bool b])=L.dE sg (cs.map .str) [c] b:=rfl;have f1:L.pP (eE sg po wh rn (cs.map .str) pn w) (.tup [.str [c],.bool b])=.str [c]:=rfl;have q2:L.qZ (aD (eE sg po wh rn (cs.map .str) pn w) [("roles",x)]) (.str [c])=(po||!(sEq [c] [101])):=rfl;have f2:L.j6 (aD (eE sg po wh rn (cs.map .str) pn w) [("roles",x)]) (.str [c])=.str [c]:=rfl;have one:L.f9 po pn' sg cs [c] b=bif L.dE sg (cs.map .str) [c] b&&(po||!(sEq [c] [101])) then [c] else []:=rfl
  unfold LC.val at h1 ⊢;rw[List.map_cons,List.map_cons];induction t1:L.dE sg (cs.map .str) [c] b with|false=>rw[List.filter_cons_of_neg (by show ¬ L.nN _ (.tup [.str [c],.bool b])=true;rw[q1,t1];exact Bool.false_ne_true)];refine ⟨l,h1,Nat.le_succ_of_le h2,h3,?_⟩;show d5 l=L.f9 po pn' sg cs [c] b++_;rw[one,t1];exact h4|true=>
   rw[List.filter_cons_of_pos (by show L.nN _ (.tup [.str [c],.bool b])=true;rw[q1,t1]),List.map_cons];show ∃l',(List.filter _ (L.pP _ (.tup [.str [c],.bool b])::_)).map _=_∧_;rw[f1];induction t2:(po||!(sEq [c] [101])) with|false=>rw[List.filter_cons_of_neg (by rw[q2,t2];exact Bool.false_ne_true)];refine ⟨l,h1,Nat.le_succ_of_le h2,h3,?_⟩;show d5 l=L.f9 po pn' sg cs [c] b++_;rw[one,t1,t2];exact h4|true=>
    rw[List.filter_cons_of_pos (by rw[q2,t2]),List.map_cons,f2,h1];refine ⟨[c]::l,rfl,Nat.succ_le_succ h2,λy hy=>?_,?_⟩
    ·rcases List.mem_cons.mp hy with rfl | hy
     ·rfl
     ·exact h3 y hy
    show [c]++d5 l=L.f9 po pn' sg cs [c] b++_;rw[one,t1,t2,h4];rfl
theorem En (sg:List Nat) (po wh:Bool) (rn:PV) (cs:List (List Nat)) (pn:List Nat):∃l:List (List Nat),pR sg po wh rn (cs.map .str) pn=l.map .str∧l.length≤6∧(∀c∈l,c.length=1)∧d5 l++(bif aa sg pn then [112] else [])=L.jR po pn sg cs:=by refine Mo (Em (sg:=sg) (pn:=pn) (pn':=pn) (po:=po) (wh:=wh) (w:=L.word po pn sg) (rn:=rn) (x:=.lst (nc sg po wh rn (cs.map .str) pn)) (cs:=cs) (L.pairs po pn sg)) λl h1 h2 h3 h4=>?_;exact ⟨l,h1,h2,h3,by rw[h4];rfl⟩
theorem vZ:∀l:List (List Nat),(∀c∈l,c.length=1)→(d5 l).length=l.length|[],_=>rfl|c::r,h=>by show (c++d5 r).length=r.length+1;rw[List.length_append,h c List.mem_cons_self,vZ r λc m=>h c (List.mem_cons_of_mem _ m)];lia
theorem Eo (N:cf g) (F:cG g 757 eP ["sign","settings"]) {k:Nat} (R:aQ A (k+1)) {sg:List Nat} {cs:List (List Nat)} (hr:dr rn) (hz:sg.length≤1000) (H:Hp) : a7 g A H 757 [.str sg,.tup [.bool po,.bool wh,rn,.lst (cs.map .str)]] (.str (L.jR po (L.f7 rn) sg cs)):=by
 refine cX (Γ:=rT) (n:=60) F rfl (by show noRef rn&&(ar (cs.map PV.str)&&true)&&true=true;rw[bM,hr.no];rfl) R.one (λo fd Fa hs h La=>?_) ?_
 ·have C0:af (c5 g ⟨h,[]⟩ fd La 757) (A.deeper (callEnvC fd La 757)) f5:=aU N hs (by kernel_rfl) Fa.glob Fa.blt R.hd (R.u9 _) bo aX ak;refine aj (j5 (c:=iz) (q:=L.nN) (F:=L.pP) C0 R.hd (by kernel_rfl) (λv=>rfl)) λe1 u1=>?_;refine aj (j5 (c:=iA) (q:=L.qZ) (F:=L.j6) C0 R.hd (by kernel_rfl) (λv=>rfl)) λe2 u2=>?_;have both:∀{P:fM→Prop},P (yc f5 iz L.nN L.pP).2→P (yc f5 iA L.qZ L.j6).2→∀e∈[yc f5 iz L.nN L.pP,yc f5 iA L.qZ L.j6],P e.2:=λh1 h2 e m=>by
   rcases List.mem_cons.mp m with rfl | m
   ·exact h1
   ·rw[List.mem_singleton.mp m];exact h2
  exact cj (aU N hs (by kernel_rfl) Fa.glob Fa.blt R.hd (R.u9 _) bo aX (bj (both e1 e2))) (bj (both u1 u2)) λp t h=>nomatch h
 show (av rT 60 (bodyOf eP) [("sign",.str sg),("settings",.tup [.bool po,.bool wh,rn,.lst (cs.map .str)])] []).Sat _;rw[Rh _ _ _ _ _ hr];refine Mo (En sg po wh rn cs (L.f7 rn)) λl h1 h2 h3 h4=>?_;have v1:∀y∈nc sg po wh rn (cs.map .str) (L.f7 rn),∃c:Nat,y=.str [c]:=Ek BA;have v2:(nc sg po wh rn (cs.map .str) (L.f7 rn)).length≤6:=zB;unfold pS;rw[h1,bV,h4];have hl:=vZ l h3;have hb:(bif aa sg (L.f7 rn) then [112] else ([]:List Nat)).length≤1:=by induction aa sg (L.f7 rn) <;> decide
 refine ⟨trivial,trivial,trivial,trivial,trivial,trivial,trivial,⟨rfl,trivial⟩,⟨Ej hz,trivial⟩,⟨rfl,trivial⟩,⟨rfl,El v1 v2,?_,fits_of (by lia),trivial⟩,_,rfl,rfl,rfl⟩;rw[j7];exact fits_of (by lia)
noncomputable def q6:=fnIn "_law_add" pb
structure Ent where
 word:List Nat
 left:List Nat
 place:PV
 ab:List Nat
 quoted:Bool
 cut:Bool
variable {rec:PV→List Nat→Ent}
noncomputable def Ent.pv (e:Ent):PV:=.tup [.str e.word,.str e.left,e.place,.str e.ab,.bool e.quoted,.bool e.cut]
noncomputable def bz (x_:PV):Bool:=by induction x_ using PV.casesOn with|int _=>exact true|str _=>exact true|none=>exact true|_=>exact false
theorem b7 {v:PV} (h:bz v=true):noRef v=true∧∀H,kR H v=v:=by induction v using PV.casesOn <;> first | exact ⟨rfl,λz=>rfl⟩ | exact fT h
noncomputable def zC (v:Option PV):Ent:=⟨bN (v.bind (bW 0)),bN (v.bind (bW 1)),(v.bind (bW 2)).getD .none,bN (v.bind (bW 3)),dq (v.bind (bW 4)),dq (v.bind (bW 5))⟩
namespace L
noncomputable def add (w:List Nat) (e:Ent) (q:Bool):Ent:=⟨w++e.word,e.left,e.place,e.ab,bif q then q else e.quoted,e.cut⟩
end L
theorem NR (w e0 e1 e3:List Nat) (e2:PV) (q e4 e5:Bool):av (aC (c8 q6 noAttr cg [])) 40 (bodyOf q6) [("words",.str w),("entry",.tup [.str e0,.str e1,e2,.str e3,.bool e4,.bool e5]),("quoted",.bool q)] [] = (.need [q=false→bD 4 6=true,bD 5 6=true,oN 6 (some 1) (some 4)=true,bD 0 6=true,fits (w.length+e0.length)=true,fits 4=true,fits 6=true] (.leaf ⟨.ret (L.add w ⟨e0,e1,e2,e3,e4,e5⟩ q).pv,[("words",.str w),("entry",.tup [.str e0,.str e1,e2,.str e3,.bool e4,.bool e5]),("quoted",.bool q)],[]⟩)):=by kernel_rfl
theorem BB (N:cf g) (F:cG g 764 q6 ["words","entry","quoted"]) {k:Nat} (R:aQ A (k+1)) {w:List Nat} {e:Ent} (hp:bz e.place=true) (hz:w.length+e.word.length≤1000) (H:Hp):a7 g A H 764 [.str w,e.pv,.bool q] (L.add w e q).pv:=by
 have n:=b7 hp;refine cX (Γ:=aC (c8 q6 noAttr cg [])) (n:=40) F rfl (by show (noRef e.place&&true)&&true=true;rw[n.1];rfl) R.one (λo fd Fa hs h L=>bu (aU N hs (by kernel_rfl) Fa.glob Fa.blt R.hd (R.u9 _) bo aX ak) (λp t h=>nomatch h)) ?_;show (av _ 40 (bodyOf q6) [("words",.str w),("entry",e.pv),("quoted",.bool q)] []).Sat _;rw[show e.pv=.tup [.str e.word,.str e.left,e.place,.str e.ab,.bool e.quoted,.bool e.cut] from rfl,NR];refine ⟨⟨λz=>by decide +kernel,by decide +kernel,by decide +kernel,by decide +kernel,fits_of (by lia),rfl,rfl,trivial⟩,_,rfl,?_,?_⟩
 ·show PV.tup [_,_,kR _ e.place,_,_,_]=_;rw[n.2];rfl
 ·show (noRef e.place&&true)=true;rw[n.1];rfl
noncomputable def HD (args:List PV):List Prop×PV:=([args=[.str (bN args[0]?),(zC args[1]?).pv,.bool (dq args[2]?)],bz (zC args[1]?).place=true,(bN args[0]?).length+(zC args[1]?).word.length≤1000],(L.add (bN args[0]?) (zC args[1]?) (dq args[2]?)).pv)
theorem HE (N:cf g) (F:cG g 764 q6 ["words","entry","quoted"]) {k:Nat} (R:aQ A (k+1)) (args:List PV) (H:Hp) (hg:AllP (HD args).1):(∃o fd,g.K.lookup 764=some o∧o.data=.func fd)∧a7 g A H 764 args (HD args).2:=by refine lG hg λh1 h2 h3 z=>?_;refine ⟨bU F,?_⟩;have:=BB N F R h2 h3 H (q:=dq args[2]?);rw[←h1] at this;exact this
noncomputable def c4:=fnIn "_law_rest" pb
noncomputable def eQ:Stmt:=eK [5] (bodyOf c4)
noncomputable def i6:LC:=tG 30 (pL [0,0] (dy eQ))
noncomputable def oDct (v:Option PV):KV:=v.elim [] λv=>match v with
 | .lF kvs=>kvs
 | _=>[]
namespace L
noncomputable def ro (kvs:KV) (c:List Nat):List Nat:=(bE c kvs).getD []
noncomputable def ni:Loc→PV→Bool:=λloc y=>aa (strOf y) (ro (oDct (ax "roles" loc)) (bN (ax "sign" loc)))
noncomputable def first (rs:List Nat) (l_:List Nat):List Nat:=by induction l_ with|nil=>exact []|cons c r ih=>exact bif aa [c] rs then [c] else ih
end L
noncomputable def zD:Ctx:=c8 c4 noAttr cg []
noncomputable def NS:(Nat×Nat×Nat)×fM:=yc zD i6 L.ni L.j6
noncomputable def nO (l:List Nat):List PV:=l.map λc=>.str [c]
noncomputable def iB (bk pl jx:PV) (po wh:Bool) (kvs:KV) (sg r order:List Nat):Loc:=[("book",bk),("place",pl),("signs",jx),("posix",.bool po),("whole",.bool wh),("roles",.lF kvs),("sign",.str sg),("rest",.str r),("order",.str order)]
theorem yi (bk pl jx:PV) (po wh:Bool) (kvs:KV) (sg r order one:List Nat) (acc:List PV) (H:Hp):i6.turn (aC (aN zD i6.scope [])) (iB bk pl jx po wh kvs sg r order) (.str one) acc H = (.need [(bE sg kvs).isSome=true] (.br (aa one (L.ro kvs sg)) (.need [] (.need [fits (acc.length+1)=true] (.leaf ([("roles",.lF kvs),("sign",.str sg),("one",.str one)],H,acc++[.str one])))) (.leaf ([("roles",.lF kvs),("sign",.str sg),("one",.str one)],H,acc)))):=by kernel_rfl
noncomputable def zE (bk pl jx:PV) (po wh:Bool) (kvs:KV) (sg r order:List Nat):List PV:=LC.val L.ni L.j6 (iB bk pl jx po wh kvs sg r order) (nO order)
theorem KW (bk pl jx:PV) (po wh:Bool) (kvs:KV) (sg r order:List Nat) (fns:Addr→List PV→Hp→R1):oU (b3 (c8 c4 noAttr fns [NS]) (λz=>false) []) 30 eQ (iB bk pl jx po wh kvs sg r order) [] = (.need [i6.e=i6.e,i6.side (aC (aN zD i6.scope [])) L.ni L.j6 (iB bk pl jx po wh kvs sg r order) [] (nO order),fits ((zE bk pl jx po wh kvs sg r order).length+1)=true,bD 0 (zE bk pl jx po wh kvs sg r order++[PV.str []]).length=true,decide ((0:Int)≤0)=true] (.leaf ⟨.next,aD (iB bk pl jx po wh kvs sg r order) [("role",ez (zE bk pl jx po wh kvs sg r order++[PV.str []]) 0)],[]⟩)):=by kernel_rfl
noncomputable def Ep (loc:Loc) (H:Hp):Tr Out:=.need [(∃bk pl jx po wh r,loc=iB bk pl jx po wh (oDct (ax "roles" loc)) (bN (ax "sign" loc)) r (bN (ax "order" loc))),H=[],(bE (bN (ax "sign" loc)) (oDct (ax "roles" loc))).isSome=true,(bN (ax "order" loc)).length≤10] (.leaf ⟨.next,cM "role" (.str (L.first (L.ro (oDct (ax "roles" loc)) (bN (ax "sign" loc))) (bN (ax "order" loc)))) loc,H⟩)
theorem v3 {bk jx:PV} {kvs:KV} {sg order:List Nat}:∀o:List Nat,ez (LC.val L.ni L.j6 (iB bk pl jx po wh kvs sg r order) (nO o)++[PV.str []]) 0=.str (L.first (L.ro kvs sg) o)|[]=>rfl|c::o=>by have q:L.ni (iB bk pl jx po wh kvs sg r order) (.str [c])=aa [c] (L.ro kvs sg):=rfl;show ez ((List.filter _ (PV.str [c]::nO o)).map _++_) 0=PV.str (bif aa [c] (L.ro kvs sg) then [c] else L.first (L.ro kvs sg) o);induction h:aa [c] (L.ro kvs sg) with|true=>rw[List.filter_cons_of_pos (by rw[q,h])];exact rR _ _|false=>rw[List.filter_cons_of_neg (by rw[q,h];exact Bool.false_ne_true)];exact v3 o
theorem pT (l:List Nat):(nO l).length=l.length:=List.length_map _
theorem Er (C:cE κ A X (b3 (c8 c4 noAttr fns [NS]) (λz=>false) [])):∀loc H,bt κ A X (exec eQ κ.env) loc H (Ep loc H):=λloc H p s I Q E hE h=>by
 refine aj h λae h=>?_;refine MJ ae λbX D8 h1 h2 z=>?_;refine Sp bX λbk pl jx po wh r e=>?_;subst D8;generalize oDct (ax "roles" loc)=kvs at *;generalize bN (ax "sign" loc)=sg at *;generalize bN (ax "order" loc)=order at *;subst e;refine (cF C 30).1 eQ _ _ p s I Q E hE ?_;rw[KW];have lv:(zE bk pl jx po wh kvs sg r order).length≤10:=Nat.le_trans zB (by rw[pT];exact h2);refine ⟨⟨rfl,λy hy acc ha=>?_,fits_of (by lia),jw (Int.le_refl _) (by rw[List.length_append,List.length_singleton];lia),rfl,trivial⟩,?_⟩
 ·refine aG (List.mem_map.mp hy) λc z eq2=>?_;subst eq2;rw[yi];have q:L.ni (iB bk pl jx po wh kvs sg r order) (.str [c])=aa [c] (L.ro kvs sg):=rfl;rw[q];rw[pT] at ha;refine ⟨⟨h1,trivial⟩,λh=>⟨trivial,⟨fits_of (by lia),trivial⟩,rfl,?_⟩,λh=>⟨rfl,?_⟩⟩
  ·rw[h];rfl
  ·rw[h];rfl
 ·show vd κ X p s Q E ⟨.next,aD (iB bk pl jx po wh kvs sg r order) [("role",ez (LC.val L.ni L.j6 (iB bk pl jx po wh kvs sg r order) (nO order)++[PV.str []]) 0)],[]⟩;rw[v3];exact h
namespace L
noncomputable def markB (rec:PV→List Nat→Ent) (po:Bool) (kvs:KV) (m:List Nat) (c:Nat) (r:List Nat):Ent:=bif sEq [c] m then (bif po then add [] (rec (.int 1) r) true else ⟨[c],r,.int 0,[],true,false⟩) else bif !(aa [101] (ro kvs [c]))||!(aa [115] (ro kvs m)) then add [c] (rec (.str m) r) true else bif aa [109] (ro kvs [c]) then rec (.str [c]) r else match r with|[]=>⟨[],[],.str [c],[],true,false⟩|d::r'=>add (bif cz [d] [[c],m] then [d] else [c]++[d]) (rec (.str m) r') true
noncomputable def order (po:Bool) (i:Nat):List Nat:=bif Nat.beq i 0 then [119,114,101,108,112,109] else bif Nat.beq i 1 then (bif po then [119,114,109,101,108] else [119,114,108,109]) else [119,114,112]
noncomputable def hM (r:List Nat):Int:=gY r [10]+1
noncomputable def cv (r:List Nat):List Nat:=bif decide (0<hM r) then cq r (some (hM r)) none else []
noncomputable def jS (e:Ent) (r:List Nat):Ent:=⟨e.word,e.left,e.place,e.ab,e.quoted,bif e.cut then e.cut else hM r==0⟩
noncomputable def k0 (rec:PV→List Nat→Ent) (po wh:Bool) (kvs:KV) (i:Nat) (c:Nat) (r:List Nat):Ent:=
 let role:=first (ro kvs [c]) (order po i)
 bif sEq role [119] then (bif Nat.beq i 0 then rec (.int 0) r else ⟨[],r,.int 0,[],false,false⟩)
 else bif sEq role [114] then jS (bif po&&Nat.blt 0 i then ⟨[],cv r,.int 0,[],false,false⟩ else rec (.int i) (cv r)) r
 else bif sEq role [101]&&!(aa [109] (ro kvs [c])) then (match r with|[]=>⟨[],[],.str [c],[],false,false⟩|d::r'=>add [d] (rec (.int 1) r') false)
 else bif sEq role [101]||(sEq role [109]&&po) then rec (.str [c]) r
 else bif sEq role [109]&&Nat.beq i 0 then add [c] (rec (.str [c]) r) false
 else bif sEq role [112] then add [c] (rec (.int 2) r) false
 else bif !(sEq role [])||(Nat.blt i 2&&(wh&&!(aa [112] (ro kvs [c])))) then add [c] (rec (.int 1) r) false
 else bif Nat.beq i 0 then ⟨[c],r,.int 0,[],false,false⟩ else ⟨[],r,.int 0,[c],false,false⟩
noncomputable def isKey (kvs:KV) (pl:PV):Bool:=(pl.d3).elim false λm=>cK m kvs
noncomputable def yj (kvs:KV) (pl:PV):Ent:=⟨[],[],bif isKey kvs pl then pl else .none,[],isKey kvs pl,false⟩
noncomputable def i7 (po wh:Bool) (kvs:KV):Nat→PV→List Nat→Ent|0,pl,_=>yj kvs pl|_+1,pl,[]=>yj kvs pl|n+1,pl,c::r=>(pl.d3).elim (k0 (i7 po wh kvs n) po wh kvs ((pl.int?).elim 0 Int.toNat) c r) λm=>markB (i7 po wh kvs n) po kvs m c r
noncomputable def rest (po wh:Bool) (kvs:KV) (pl:PV) (sg:List Nat):Ent:=i7 po wh kvs sg.length pl sg
end L
def dW (kvs:KV) (pl:PV):Prop:=pl=.int 0∨pl=.int 1∨pl=.int 2∨∃m,pl=.str [m]∧cK [m] kvs=true
def aF (kvs:KV) (sg:List Nat):Prop:=∀c∈sg,cK [c] kvs=true
noncomputable def eF (po wh:Bool) (kvs:KV):PV:=.tup [.bool po,.bool wh,.lF kvs]
noncomputable def v5 (n:Nat) (args:List PV):List Prop×PV:=
 let po:=dq (args[0]?.bind (bW 0));let wh:=dq (args[0]?.bind (bW 1));let kvs:=oDct (args[0]?.bind (bW 2));let pl:=(args[1]?).getD .none;let sg:=bN args[2]?
 ([args=[eF po wh kvs,pl,.str sg],sg.length<n,dW kvs pl,aF kvs sg],(L.rest po wh kvs pl sg).pv)
noncomputable def Jf (n:Nat):Addr→List PV→Hp→R1:=iv [(764,λa z=>HD a),(769,λa z=>v5 n a)]
noncomputable def NT (n:Nat):Ctx:=c8 c4 noAttr (Jf n) [NS]
noncomputable def Ri (b:Bool):Nat→Option Bool:=λl=>bif Nat.beq l (dy (eK [3] (bodyOf c4))).pos.line then some b else Option.none
noncomputable def k8 (n:Nat) (b:Bool):aA:={b3 (NT n) (λz=>false) [((eQ.pos.line,eQ.pos.col),⟨eQ,Ep⟩)] with fold:=Ri b}
noncomputable def zF (po wh:Bool) (kvs:KV) (pl:PV) (sg:List Nat):Loc:=[("book",eF po wh kvs),("place",pl),("signs",.str sg)]
noncomputable def rU (po wh:Bool) (kvs:KV) (pl sg:PV) (s t:List Nat):Loc:=[("book",eF po wh kvs),("place",pl),("signs",sg),("posix",.bool po),("whole",.bool wh),("roles",.lF kvs),("sign",.str s),("rest",.str t)]
noncomputable abbrev RS (n:Nat) (po wh:Bool) (kvs:KV) (pl:PV) (sg:List Nat):List Prop×PV:=v5 n [eF po wh kvs,pl,.str sg]
noncomputable abbrev AD (w:List Nat) (e:Ent) (q:Bool):List Prop×PV:=HD [.str w,e.pv,.bool q]
noncomputable def jH (l:Loc) (v:PV):Tr Out:=.leaf ⟨.ret v,l,[]⟩
theorem BC (n:Nat) (b po wh:Bool) (kvs:KV) (sg:List Nat) (pl:PV) (h:(∃m,pl=.str m)∨pl=.int 0∨pl=.int 1∨pl=.int 2):av (k8 n b) 60 (bodyOf c4) (zF po wh kvs pl sg) [] = (.need [] (.need [] (.br (sEq sg []) (.need [] (jH [("book",eF po wh kvs),("place",pl),("signs",.str sg),("posix",.bool po),("whole",.bool wh),("roles",.lF kvs)] (.tup [.str [],.str [],ct (L.isKey kvs pl) pl .none,.str [],.bool (L.isKey kvs pl),.bool false]))) (.need [bD 0 sg.length=true] (.need [Mq (aV c4) (zx (eK [2] (bodyOf c4))) (dy (eK [2] (bodyOf c4))) Option.none] (av (k8 n b) 57 ((bodyOf c4).drop 3) (rU po wh kvs pl (.str sg) (cA sg 0) (cq sg (some 1) none)) [])))))):=by rcases h with ⟨m,rfl⟩ | rfl | rfl | rfl <;> kernel_rfl
theorem HF:Mq (aV c4) (zx (eK [2] (bodyOf c4))) (dy (eK [2] (bodyOf c4))) Option.none:=λenv h=>by induction env using Env.casesOn;cases h;kernel_rfl
noncomputable def iL (c:Prop) (l:List Prop):List Prop:=l.map (c→·)
noncomputable def Jg (n:Nat) (po wh:Bool) (kvs:KV) (sg:PV) (m:List Nat) (c:Nat) (r:List Nat):Tr Out:=
 let l:=rU po wh kvs (.str m) sg [c] r
 .need [] (.need [cK m kvs=true] (.need [] (.br (sEq [c] m) (.need (iL (po=true) ((RS n po wh kvs (.int 1) r).1++(AD [] (L.rest po wh kvs (.int 1) r) true).1)) (jH l (ct po (L.add [] (L.rest po wh kvs (.int 1) r) true).pv (Ent.mk [c] r (.int 0) [] true false).pv))) (.need [(bE [c] kvs).isSome=true,(!(aa [101] (L.ro kvs [c])))=false→(bE m kvs).isSome=true] (.br (!(aa [101] (L.ro kvs [c]))||(!(aa [115] (L.ro kvs m))||false)) (.need ((RS n po wh kvs (.str m) r).1++(AD [c] (L.rest po wh kvs (.str m) r) true).1) (jH l (L.add [c] (L.rest po wh kvs (.str m) r) true).pv)) (.need [(bE [c] kvs).isSome=true] (.br (aa [109] (L.ro kvs [c])) (.need (RS n po wh kvs (.str [c]) r).1 (jH l (L.rest po wh kvs (.str [c]) r).pv)) (.need [] (.br (sEq r []) (.need [] (jH l (Ent.mk [] [] (.str [c]) [] true false).pv)) (.need [bD 0 r.length=true,cz (cA r 0) [[c],m]=true→bD 0 r.length=true,cz (cA r 0) [[c],m]=false→bD 0 r.length=true,cz (cA r 0) [[c],m]=false→fits 2=true] (.need ((RS n po wh kvs (.str m) (cq r (some 1) none)).1++(AD (bif cz (cA r 0) [[c],m] then cA r 0 else [c]++cA r 0) (L.rest po wh kvs (.str m) (cq r (some 1) none)) true).1) (jH (aD l [("kept",.str (bif cz (cA r 0) [[c],m] then cA r 0 else [c]++cA r 0))]) (L.add (bif cz (cA r 0) [[c],m] then cA r 0 else [c]++cA r 0) (L.rest po wh kvs (.str m) (cq r (some 1) none)) true).pv))))))))))))
theorem KY (n:Nat) (po wh:Bool) (kvs:KV) (sg:PV) (m:List Nat) (c:Nat) (r:List Nat):av (k8 n true) 57 ((bodyOf c4).drop 3) (rU po wh kvs (.str m) sg [c] r) []=Jg n po wh kvs sg m c r:=by kernel_rfl
noncomputable def Jh (n:Nat) (po wh:Bool) (kvs:KV) (sg:PV) (i c:Nat) (r:List Nat):Tr Out:=
 let l0:=aD (rU po wh kvs (.int (i:Nat)) sg [c] r) [("order",.str (L.order po i))]
 let rs:=L.first (L.ro kvs [c]) (L.order po i)
 let l:=aD l0 [("role",.str rs)]
 let ent:=bif po&&Nat.blt 0 i then (Ent.mk [] (L.cv r) (.int 0) [] false false).pv else (L.rest po wh kvs (.int (i:Nat)) (L.cv r)).pv
 .need [] (.need [false=false] (.need [bD (i:Nat) 3=true,decide ((0:Int)≤(i:Nat))=true] (.need [eQ=eQ] (.need [(∃bk pl jx Va Vb r',l0=iB bk pl jx Va Vb kvs [c] r' (L.order po i)),([]:Hp)=[],(bE [c] kvs).isSome=true,(L.order po i).length≤10] (.need [] (.br (sEq rs [119]) (.need (iL ((((i:Nat):Int)==0)=true) (RS n po wh kvs (.int 0) r).1) (jH l (bif Nat.beq i 0 then (L.rest po wh kvs (.int 0) r).pv else (Ent.mk [] r (.int 0) [] false false).pv))) (.need [] (.br (sEq rs [114]) (.need [] (.need [] (.need (iL ((po&&(decide ((0:Int)<(i:Nat))&&true))=false) (RS n po wh kvs (.int (i:Nat)) (L.cv r)).1) (.need [bD 5 6=true,oN 6 none (some 5)=true,fits 6=true] (jH (aD l [("line",.int (L.hM r)),("left",.str (L.cv r)),("entry",ent)]) (L.jS (bif po&&Nat.blt 0 i then ⟨[],L.cv r,.int 0,[],false,false⟩ else L.rest po wh kvs (.int (i:Nat)) (L.cv r)) r).pv))))) (.need [sEq rs [101]=true→(bE [c] kvs).isSome=true] (.br (sEq rs [101]&&(!(aa [109] (L.ro kvs [c]))&&true)) (.need (iL ((!r.isEmpty)=true) ([bD 0 r.length=true]++((RS n po wh kvs (.int 1) (cq r (some 1) none)).1++(AD (cA r 0) (L.rest po wh kvs (.int 1) (cq r (some 1) none)) false).1))) (jH l (ct (!r.isEmpty) (L.add (cA r 0) (L.rest po wh kvs (.int 1) (cq r (some 1) none)) false).pv (Ent.mk [] [] (.str [c]) [] false false).pv))) (.need [] (.br (sEq rs [101]||((sEq rs [109]&&(po&&true))||false)) (.need (RS n po wh kvs (.str [c]) r).1 (jH l (L.rest po wh kvs (.str [c]) r).pv)) (.need [] (.br (sEq rs [109]&&((((i:Nat):Int)==0)&&true)) (.need ((RS n po wh kvs (.str [c]) r).1++(AD [c] (L.rest po wh kvs (.str [c]) r) false).1) (jH l (L.add [c] (L.rest po wh kvs (.str [c]) r) false).pv)) (.need [] (.br (sEq rs [112]) (.need ((RS n po wh kvs (.int 2) r).1++(AD [c] (L.rest po wh kvs (.int 2) r) false).1) (jH l (L.add [c] (L.rest po wh kvs (.int 2) r) false).pv)) (.need [(!(sEq rs []))=false→decide (((i:Nat):Int)<2)=true→wh=true→(bE [c] kvs).isSome=true] (.br (!(sEq rs [])||((decide (((i:Nat):Int)<2)&&(wh&&(!(aa [112] (L.ro kvs [c]))&&true)))||false)) (.need ((RS n po wh kvs (.int 1) r).1++(AD [c] (L.rest po wh kvs (.int 1) r) false).1) (jH l (L.add [c] (L.rest po wh kvs (.int 1) r) false).pv)) (.need [] (jH l (bif Nat.beq i 0 then (Ent.mk [c] r (.int 0) [] false false).pv else (Ent.mk [] r (.int 0) [c] false false).pv)))))))))))))))))))))
theorem KZ (n:Nat) (po wh:Bool) (kvs:KV) (sg:PV) (i c:Nat) (r:List Nat) (hi:i=0∨i=1∨i=2):av (k8 n false) 57 ((bodyOf c4).drop 3) (rU po wh kvs (.int (i:Nat)) sg [c] r) []=Jh n po wh kvs sg i c r:=by induction po <;> rcases hi with rfl | rfl | rfl <;> kernel_rfl
theorem hN (r:List Nat):(L.cv r).length≤r.length:=by unfold L.cv;induction decide (0<L.hM r) with|false=>exact Nat.zero_le _|true=>unfold cq;exact Nat.le_trans (List.length_take_le' _ _) (by rw[List.length_drop];exact Nat.sub_le _ _)
def i8 (kvs:KV) (pl:PV):Prop:=pl=.none∨pl=.int 0∨∃m,pl=.str [m]∧cK [m] kvs=true
theorem i8.simple {kvs:KV} (h:i8 kvs pl):bz pl=true:=by rcases h with rfl | rfl | ⟨m,rfl,_⟩ <;> rfl
structure cZ (t sg:List Nat):Prop where
 sub:∀x∈t,x∈sg
 len:t.length≤sg.length
theorem cZ.refl {t:List Nat}:cZ t t:=⟨λz h=>h,Nat.le_refl _⟩
theorem cZ.nil {t:List Nat}:cZ [] t:=⟨λz h=>(nomatch h),Nat.zero_le _⟩
theorem cZ.cons {t sg:List Nat} (h:cZ t sg):cZ t (c::sg):=⟨λx m=>List.mem_cons_of_mem _ (h.sub x m),Nat.le_succ_of_le h.len⟩
theorem cZ.one :cZ [c] (c::r):=⟨λx m=>by rw[List.mem_singleton.mp m];exact List.mem_cons_self,by rw[List.length_cons];exact Nat.succ_le_succ (Nat.zero_le _)⟩
theorem cZ.trans {a b c:List Nat} (x:cZ a b) (y:cZ b c):cZ a c:=⟨λz m=>y.sub z (x.sub z m),Nat.le_trans x.len y.len⟩
theorem aF.out {kvs:KV} {t:List Nat} (h:aF kvs r) (o:cZ t r):aF kvs t:=λx m=>h x (o.sub x m)
theorem hO (r:List Nat):cZ (L.cv r) r:=⟨λx m=>by
 unfold L.cv at m;induction h:decide (0<L.hM r) with
 | false=>rw[h] at m;cases m
 | true=>rw[h] at m;unfold cq at m;exact List.mem_of_mem_drop (List.mem_of_mem_take m),hN r⟩
structure cx (kvs:KV) (e:Ent) (sg:List Nat):Prop where
 word:e.word.length≤sg.length
 place:i8 kvs e.place
 left:cZ e.left sg.tail
 ab:cZ e.ab sg
 one:e.ab.length≤1
section
variable {kvs:KV} {rec:PV→List Nat→Ent} {po wh:Bool} {m:List Nat} {i c:Nat} {r:List Nat}
theorem cZ.jy:∀{t sg:List Nat},cZ t sg.tail→cZ t sg|_,[],h=>h|_,_::_,h=>h.cons
theorem cx.up {e:Ent} {t sg:List Nat} (x:cx kvs e t) (h:cZ t sg.tail):cx kvs e sg:=⟨Nat.le_trans x.word h.jy.len,x.place,x.left.jy.trans h,x.ab.trans h.jy,x.one⟩
theorem cx.add {e:Ent} {t sg w:List Nat} (x:cx kvs e t) (h:cZ t sg.tail) (hw:w.length+t.length≤sg.length):cx kvs (L.add w e q) sg:=⟨by show (w++e.word).length≤_;rw[List.length_append];exact Nat.le_trans (Nat.add_le_add_left x.word _) hw,x.place,x.left.jy.trans h,x.ab.trans h.jy,x.one⟩
theorem cx.cut {e:Ent} {t:List Nat} (x:cx kvs e t):cx kvs (L.jS e r) t:=⟨x.word,x.place,x.left,x.ab,x.one⟩
theorem cx.bif {c:Bool} {x y:Ent} {sg:List Nat} (h1:cx kvs x sg) (h2:cx kvs y sg):cx kvs (bif c then x else y) sg:=by induction c with|true=>exact h1|false=>exact h2
theorem cx.flat {w left ab sg:List Nat} {k:Bool} (hw:w.length≤sg.length) (hp:i8 kvs pl) (hl:cZ left sg.tail) (ha:cZ ab sg) (h1:ab.length≤1):cx kvs ⟨w,left,pl,ab,q,k⟩ sg:=⟨hw,hp,hl,ha,h1⟩
noncomputable abbrev zG (kvs:KV) (rec:PV→List Nat→Ent) (r:List Nat):Prop:=∀pl t,dW kvs pl→cZ t r→cx kvs (rec pl t) t
theorem mr (h:zG kvs rec r) {w:List Nat} (hp:dW kvs pl) (hw:w.length≤1):cx kvs (L.add w (rec pl r) q) (c::r):=(h pl r hp .refl).add .refl (by rw[List.length_cons];lia)
theorem Es (hm:dW kvs (.str m)) (hc:cK [c] kvs=true) (h:zG kvs rec r):cx kvs (L.markB rec po kvs m c r) (c::r):=by
 have mc:dW kvs (.str [c]):=.inr (.inr (.inr ⟨c,rfl,hc⟩));have ec:i8 kvs (.str [c]):=.inr (.inr ⟨c,rfl,hc⟩);refine .bif (.bif (mr h (.inr (.inl rfl)) (Nat.zero_le _)) (.flat cZ.one.len (.inr (.inl rfl)) .refl .nil (Nat.zero_le _))) (.bif (mr h hm (Nat.le_refl _)) (.bif ((h _ r mc .refl).up .refl) ?_))
 induction r using List.casesOn with|nil=>exact .flat (Nat.zero_le _) ec .nil .nil (Nat.zero_le _)|cons d r'=>refine (h _ r' hm cZ.refl.cons).add cZ.refl.cons ?_;rw[List.length_cons,List.length_cons];induction cz [d] [[c],m] with|true=>show 1+_≤_;lia|false=>show 2+_≤_;lia
theorem Et (hi:dW kvs (.int (i:Nat))) (hc:cK [c] kvs=true) (h:zG kvs rec r):cx kvs (L.k0 rec po wh kvs i c r) (c::r):=by
 have mc:dW kvs (.str [c]):=.inr (.inr (.inr ⟨c,rfl,hc⟩));have ec:i8 kvs (.str [c]):=.inr (.inr ⟨c,rfl,hc⟩);have z:i8 kvs (.int 0):=.inr (.inl rfl);have up:∀{pl:PV},dW kvs pl→cx kvs (rec pl r) (c::r):=λhp=>(h _ r hp .refl).up .refl;have one:∀{pl:PV} {q:Bool},dW kvs pl→cx kvs (L.add [c] (rec pl r) q) (c::r):=λhp=>mr h hp (Nat.le_refl _);have stop:∀{w a l:List Nat},w.length≤1→cZ l r→cZ a (c::r)→a.length≤1→cx kvs ⟨w,l,.int 0,a,false,false⟩ (c::r):=λhw hl ha h1=>.flat (Nat.le_trans hw (by rw[List.length_cons];lia)) z hl ha h1;refine .bif (.bif (up (.inl rfl)) (stop (Nat.zero_le _) .refl .nil (Nat.zero_le _))) (.bif (cx.cut (.bif (stop (Nat.zero_le _) (hO r) .nil (Nat.zero_le _)) ((h _ _ hi (hO r)).up (hO r)))) (.bif ?_ (.bif (up mc) (.bif (one mc) (.bif (one (.inr (.inr (.inl rfl)))) (.bif (one (.inr (.inl rfl))) (.bif (stop (Nat.le_refl _) .refl .nil (Nat.zero_le _)) (stop (Nat.zero_le _) .refl .one (Nat.le_refl _)))))))))
 induction r using List.casesOn with|nil=>exact .flat (Nat.zero_le _) ec .nil .nil (Nat.zero_le _)|cons d r'=>exact (h _ r' (.inr (.inl rfl)) cZ.refl.cons).add cZ.refl.cons (by show 0+1+r'.length≤r'.length+1+1;lia)
theorem zH (hp:dW kvs pl) {sg:List Nat}:cx kvs (L.yj kvs pl) sg:=.flat (Nat.zero_le _) (by
 rcases hp with rfl | rfl | rfl | ⟨m,rfl,hm⟩
 ·exact .inl rfl
 ·exact .inl rfl
 ·exact .inl rfl
 ·refine .inr (.inr ⟨m,?_,hm⟩);show (bif cK [m] kvs then PV.str [m] else .none)=_;rw[hm];rfl) .nil .nil (Nat.zero_le _)
theorem Eu:∀(n:Nat) (pl:PV) (sg:List Nat),dW kvs pl→aF kvs sg→cx kvs (L.i7 po wh kvs n pl sg) sg:=by
 intro n;induction n with|zero=>intro pl sg hp hr;exact zH hp|succ n ih=>
  intro pl sg hp hr;induction sg using List.casesOn with|nil=>exact zH hp|cons c r=>
   have hc:=hr c List.mem_cons_self;have Te:zG kvs (L.i7 po wh kvs n) r:=λpl t hp o=>ih pl t hp (hr.out o.cons);have free:∀i:Nat,dW kvs (.int i)→cx kvs (L.k0 (L.i7 po wh kvs n) po wh kvs i c r) (c::r):=λi hi=>Et hi hc Te;rcases hp with rfl | rfl | rfl | ⟨m,rfl,hm⟩
   ·exact free 0 (.inl rfl)
   ·exact free 1 (.inr (.inl rfl))
   ·exact free 2 (.inr (.inr (.inl rfl)))
   ·exact Es (.inr (.inr (.inr ⟨m,rfl,hm⟩))) hc Te
end
theorem nj {Ew:PV→List Nat→Ent} {kvs:KV} {m:List Nat} (h:∀pl t,t.length≤r.length→rec pl t=Ew pl t):L.markB rec po kvs m c r=L.markB Ew po kvs m c r:=by unfold L.markB;rw[h _ r (Nat.le_refl _),h _ r (Nat.le_refl _),h _ r (Nat.le_refl _)];induction r using List.casesOn with|nil=>rfl|cons d r'=>dsimp only;rw[h _ r' (Nat.le_succ _)]
theorem nk {Ew:PV→List Nat→Ent} {kvs:KV} {i:Nat} (h:∀pl t,t.length≤r.length→rec pl t=Ew pl t):L.k0 rec po wh kvs i c r=L.k0 Ew po wh kvs i c r:=by unfold L.k0;rw[h _ r (Nat.le_refl _),h _ r (Nat.le_refl _),h _ r (Nat.le_refl _),h _ r (Nat.le_refl _),h _ _ (hN r)];induction r using List.casesOn with|nil=>rfl|cons d r'=>dsimp only;rw[h _ r' (Nat.le_succ _)]
theorem pU {kvs:KV}:∀(n k:Nat) (pl:PV) (sg:List Nat),sg.length≤n→sg.length≤k→L.i7 po wh kvs n pl sg=L.i7 po wh kvs k pl sg:=by
 intro n;induction n with|zero=>intro k pl sg hn hk;have:sg=[]:=List.length_eq_zero_iff.mp (Nat.le_zero.mp hn);subst this;induction k using Nat.casesOn <;> rfl|succ n ih=>
  intro k pl sg hn hk;induction sg using List.casesOn with|nil=>induction k using Nat.casesOn <;> rfl|cons c r=>
   induction k using Nat.casesOn with
   | zero=>cases hk
   | succ k=>
   have hn:=Nat.le_of_succ_le_succ hn;have hk:=Nat.le_of_succ_le_succ hk;induction pl using PV.casesOn with|str m=>exact nj λpl t ht=>ih k pl t (Nat.le_trans ht hn) (Nat.le_trans ht hk)|_=>exact nk λpl t ht=>ih k pl t (Nat.le_trans ht hn) (Nat.le_trans ht hk)
theorem gh {kvs:KV} {sg:List Nat} (hp:dW kvs pl) (hr:aF kvs sg):cx kvs (L.rest po wh kvs pl sg) sg:=Eu _ _ _ hp hr
theorem mu {kvs:KV} {m:List Nat} :L.rest po wh kvs (.str m) (c::r)=L.markB (L.rest po wh kvs) po kvs m c r:=nj λpl t ht=>pU _ _ pl t ht (Nat.le_refl _)
theorem gM {kvs:KV} {i:Nat} :L.rest po wh kvs (.int (i:Nat)) (c::r)=L.k0 (L.rest po wh kvs) po wh kvs i c r:=nk λpl t ht=>pU _ _ pl t ht (Nat.le_refl _)
theorem Ex {kvs:KV} :L.rest po wh kvs pl []=L.yj kvs pl:=rfl
theorem AllP.app:∀{a b:List Prop},AllP a→AllP b→AllP (a++b)|[],_,_,h=>h|_::a,b,h,k=>⟨h.1,AllP.app (a:=a) h.2 k⟩
theorem hU {c:Prop}:∀{a:List Prop},(c→AllP a)→AllP (iL c a)|[],_=>trivial|_::a,h=>⟨λq=>(h q).1,hU (a:=a) λq=>(h q).2⟩
theorem K0 {e:Ent} (h:bz e.place=true) (H:Hp):kR H e.pv=e.pv:=by show PV.tup [_,_,kR H e.place,_,_,_]=_;rw[(b7 h).2];rfl
theorem NU {e:Ent} (h:bz e.place=true):noRef e.pv=true:=by show (noRef e.place&&true)=true;rw[(b7 h).1];rfl
theorem rV {kvs:KV} {t:List Nat} (h1:t.length<n) (h2:dW kvs pl) (h3:aF kvs t):AllP (RS n po wh kvs pl t).1:=⟨rfl,h1,h2,h3,trivial⟩
theorem NV {kvs:KV} {w sg:List Nat} {e:Ent} (h1:cx kvs e sg) (h2:w.length+sg.length≤1000):AllP (AD w e q).1:=⟨rfl,h1.place.simple,Nat.le_trans (Nat.add_le_add_left h1.word _) h2,trivial⟩
def v7 (e:Ent) (o:Out):Prop:=∃v,mU o=some v∧kR o.H v=e.pv∧noRef e.pv=true
def Ey (e:Ent) (o:Out):Prop:=bz e.place=true→v7 e o
theorem Rj {e:Ent} {t:Tr Out} (hp:bz e.place=true) (h:t.Sat (Ey e)):t.Sat (v7 e):=h.mono λo k=>k hp
theorem retS {l:Loc} {v:PV} {e:Ent} (h:v=e.pv):(jH l v).Sat (Ey e):=by subst h;exact λhp=>⟨_,rfl,K0 hp _,NU hp⟩
theorem Mz {t u:Tr α} (h1:b=true→t.Sat Φ) (h2:b=false→u.Sat Φ):(Tr.br b t u).Sat Φ:=⟨h1,h2⟩
theorem ah {t:Tr α} (h:AllP gs) (k:t.Sat Φ):(Tr.need gs t).Sat Φ:=⟨h,k⟩
theorem Gp {c c':Bool} {t u:Tr Out} {x y:Ent} (q:c=c') (h1:c'=true→t.Sat (Ey x)) (h2:c'=false→u.Sat (Ey y)):(Tr.br c t u).Sat (Ey (bif c' then x else y)):=by subst q;induction c with|true=>exact ⟨λz=>h1 rfl,λh=>tF h⟩|false=>exact ⟨λh=>fT h,λz=>h2 rfl⟩
theorem yk {c:Bool} {x y:Ent}:(bif c then x.pv else y.pv)=(bif c then x else y).pv:=by induction c <;> rfl
theorem Ez {c:Bool} {x y:Ent}:ct c x.pv y.pv=(bif c then x else y).pv:=(gF _ _ _).trans yk
theorem EA :clipAt (n+1) 1=1:=congrArg (λx:Int=>(max 0 x).toNat) (Int.min_eq_left (Int.ofNat_le.mpr (Nat.succ_le_succ (Nat.zero_le n))))
theorem mv (c:Nat) (r:List Nat):cq (c::r) (some 1) none=r:=by
 unfold cq;have h1:iM (c::r).length (some 1)=1:=by show clipAt (r.length+1) 1=1;exact EA
 rw[h1];show List.take (r.length+1 - 1) r=r;exact List.take_of_length_le (Nat.le_refl _)
theorem aF.tail {kvs:KV} (h:aF kvs (c::r)):aF kvs r:=λx m=>h x (List.mem_cons_of_mem _ m)
section
variable {n:Nat} {po wh:Bool} {kvs:KV} {sg pl:PV} {w:List Nat} {q:Bool} {i x c:Nat} {r:List Nat}
theorem K1 (hp:dW kvs pl) (hr:aF kvs r) (hw:w.length≤2) (hz:r.length≤500):AllP (AD w (L.rest po wh kvs pl r) q).1:=NV (gh hp hr) (Nat.le_trans (Nat.add_le_add hw hz) (Nat.le_of_ble_eq_true rfl))
theorem pV (hp:dW kvs pl) (hr:aF kvs r) (hn:r.length<n) (hw:w.length≤2) (hz:r.length≤500):AllP ((RS n po wh kvs pl r).1++(AD w (L.rest po wh kvs pl r) q).1):=(rV hn hp hr).app (K1 hp hr hw hz)
theorem key_is (h:cK w kvs=true):(bE w kvs).isSome=true:=(ji _ _).trans h
theorem NW {d:Nat}:bD 0 (d::r).length=true:=jw (Int.le_refl _) (Int.ofNat_lt.mpr (Nat.succ_pos _))
theorem pW (h:cK [x] kvs=true):dW kvs (.str [x]):=.inr (.inr (.inr ⟨x,rfl,h⟩))
theorem EB {d:Nat} :(bif b then [d] else [c]++[d]).length≤2:=by induction b <;> exact Nat.le_of_ble_eq_true rfl
theorem EC (hm:cK [x] kvs=true) (hr:aF kvs (c::r)) (hn:r.length<n) (hz:r.length≤500):(Jg n po wh kvs sg [x] c r).Sat (v7 (L.rest po wh kvs (.str [x]) (c::r))):=by refine Rj (gh (pW hm) hr).place.simple ?_;rw[mu];have hc:=hr c List.mem_cons_self;refine ah trivial (ah ⟨hm,trivial⟩ (ah trivial (Gp rfl (λz=>ah (hU λz=>pV (.inr (.inl rfl)) hr.tail hn (Nat.zero_le _) hz) (retS Ez)) λz=>ah ⟨key_is hc,λz=>key_is hm,trivial⟩ (Gp (congrArg _ (Bool.or_false _)) (λz=>ah (pV (pW hm) hr.tail hn (Nat.le_succ 1) hz) (retS rfl)) λz=>ah ⟨key_is hc,trivial⟩ (Gp rfl (λz=>ah (rV hn (pW hc) hr.tail) (retS rfl)) λz=>?_)))));have hr:=hr.tail;clear hc;induction r using List.casesOn with|nil=>exact ah trivial (Mz (λz=>ah trivial (retS rfl)) λh=>tF h)|cons d r'=>refine ah trivial (Mz (λh=>fT h) λz=>?_);rw[mv,mn];exact ah ⟨NW,λz=>NW,λz=>NW,λz=>rfl,trivial⟩ (ah (pV (pW hm) hr.tail (Nat.lt_of_succ_lt hn) EB (Nat.le_of_succ_le hz)) (retS rfl))
theorem ED (hi:i=0∨i=1∨i=2) (hr:aF kvs (c::r)) (hn:r.length<n) (hz:r.length≤500):(Jh n po wh kvs sg i c r).Sat (v7 (L.rest po wh kvs (.int (i:Nat)) (c::r))):=by
 have key:dW kvs (.int (i:Nat))∧(L.order po i).length≤10∧bD (i:Nat) 3=true∧decide ((0:Int)≤(i:Nat))=true∧((((i:Nat):Int)==0):Bool)=Nat.beq i 0∧decide (((i:Nat):Int)<2)=Nat.blt i 2∧(decide ((0:Int)<(i:Nat))&&true)=Nat.blt 0 i:=by
  rcases hi with rfl | rfl | rfl
  ·exact ⟨.inl rfl,by induction po <;> exact Nat.le_of_ble_eq_true rfl,rfl,rfl,rfl,rfl,rfl⟩
  ·exact ⟨.inr (.inl rfl),by induction po <;> exact Nat.le_of_ble_eq_true rfl,rfl,rfl,rfl,rfl,rfl⟩
  ·exact ⟨.inr (.inr (.inl rfl)),by induction po <;> exact Nat.le_of_ble_eq_true rfl,rfl,rfl,rfl,rfl,rfl⟩
 refine MK key λmi l0 i3 i4 ib il ig=>?_;refine Rj (gh mi hr).place.simple ?_;rw[gM];have kc:=key_is (hr c List.mem_cons_self);have mc:=pW (hr c List.mem_cons_self);have hr:=hr.tail;refine ah trivial (ah ⟨rfl,trivial⟩ (ah ⟨i3,i4,trivial⟩ (ah ⟨rfl,trivial⟩ (ah ⟨⟨_,_,_,_,_,_,rfl⟩,rfl,kc,l0,trivial⟩ (ah trivial (Gp rfl (λz=>ah (hU λz=>rV hn (.inl rfl) hr) (retS yk)) λz=>ah trivial (Gp rfl (λz=>ah trivial (ah trivial (ah (hU λz=>rV (Nat.lt_of_le_of_lt (hN r) hn) mi (hr.out (hO r))) (ah ⟨rfl,rfl,rfl,trivial⟩ (retS rfl))))) λz=>ah ⟨λz=>kc,trivial⟩ (Gp (congrArg _ (Bool.and_true _)) (λz=>?_) λz=>ah trivial (Gp (congrArg _ ((Bool.or_false _).trans (congrArg _ (Bool.and_true _)))) (λz=>ah (rV hn mc hr) (retS rfl)) λz=>ah trivial (Gp (congrArg _ ((Bool.and_true _).trans ib)) (λz=>ah (pV mc hr hn (Nat.le_succ 1) hz) (retS rfl)) λz=>ah trivial (Gp rfl (λz=>ah (pV (.inr (.inr (.inl rfl))) hr hn (Nat.le_succ 1) hz) (retS rfl)) λz=>ah ⟨λz z z=>kc,trivial⟩ (Gp (congrArg _ ((Bool.or_false _).trans (by rw[il,Bool.and_true]))) (λz=>ah (pV (.inr (.inl rfl)) hr hn (Nat.le_succ 1) hz) (retS rfl)) λz=>ah trivial (retS yk)))))))))))));clear kc mc i3 i4 ib il ig l0;induction r using List.casesOn with|nil=>exact ah (hU λh=>fT h) (retS rfl)|cons d r'=>rw[mv,mn];exact ah (hU λz=>⟨NW,pV (.inr (.inl rfl)) hr.tail (Nat.lt_of_succ_lt hn) (Nat.le_succ 1) (Nat.le_of_succ_le hz)⟩) (retS rfl)
end
section
variable {n:Nat} {po wh:Bool} {kvs:KV} {pl:PV} {sg:List Nat} {i:Nat}
theorem Ji (hp:dW kvs pl) (hs:(∃m,pl=.str m)∨pl=.int 0∨pl=.int 1∨pl=.int 2) (hr:aF kvs sg) (hn:sg.length≤n) (hz:sg.length≤500) (h:∀c r,aF kvs (c::r)→r.length<n→r.length≤500→(av (k8 n b) 57 ((bodyOf c4).drop 3) (rU po wh kvs pl (.str (c::r)) [c] r) []).Sat (v7 (L.rest po wh kvs pl (c::r)))):(av (k8 n b) 60 (bodyOf c4) (zF po wh kvs pl sg) []).Sat (v7 (L.rest po wh kvs pl sg)):=by rw[BC n b po wh kvs sg pl hs];induction sg using List.casesOn with|nil=>exact ah trivial (ah trivial (Mz (λz=>ah trivial (Rj (gh hp hr).place.simple (retS (congrArg (λv=>PV.tup [.str [],.str [],v,.str [],.bool (L.isKey kvs pl),.bool false]) (gF _ _ _))))) λh=>tF h))|cons c r=>refine ah trivial (ah trivial (Mz (λh=>fT h) λz=>?_));rw[mn,mv];exact ah ⟨NW,trivial⟩ (ah ⟨HF,trivial⟩ (h c r hr (Nat.lt_of_succ_le hn) (Nat.le_of_succ_le hz)))
theorem yl (hi:i=0∨i=1∨i=2) (hp:dW kvs (.int (i:Nat))) (hs:(∃m,PV.int (i:Nat)=.str m)∨PV.int (i:Nat)=.int 0∨PV.int (i:Nat)=.int 1∨PV.int (i:Nat)=.int 2) (hr:aF kvs sg) (hn:sg.length≤n) (hz:sg.length≤500):∃b,(av (k8 n b) 60 (bodyOf c4) (zF po wh kvs (.int (i:Nat)) sg) []).Sat (v7 (L.rest po wh kvs (.int (i:Nat)) sg)):=⟨false,Ji hp hs hr hn hz λc r hr hn hz=>(KZ n po wh kvs _ i c r hi)▸ED hi hr hn hz⟩
theorem K2 (hp:dW kvs pl) (hr:aF kvs sg) (hn:sg.length≤n) (hz:sg.length≤500):∃b,(av (k8 n b) 60 (bodyOf c4) (zF po wh kvs pl sg) []).Sat (v7 (L.rest po wh kvs pl sg)):=by
 have Pr:=hp;rcases hp with rfl | rfl | rfl | ⟨m,rfl,hm⟩
 ·exact yl (i:=0) (.inl rfl) Pr (.inr (.inl rfl)) hr hn hz
 ·exact yl (i:=1) (.inr (.inl rfl)) Pr (.inr (.inr (.inl rfl))) hr hn hz
 ·exact yl (i:=2) (.inr (.inr rfl)) Pr (.inr (.inr (.inr rfl))) hr hn hz
 ·exact ⟨true,Ji Pr (.inl ⟨_,rfl⟩) hr hn hz λc r hr hn hz=>(KY n po wh kvs _ [m] c r)▸EC hm hr hn hz⟩
end
theorem v8 (there:∃o fd,g.K.lookup 769=some o∧o.data=.func fd) (h:∀po wh kvs pl sg H,sg.length<n→dW kvs pl→aF kvs sg→a7 g A H 769 [eF po wh kvs,pl,.str sg] (L.rest po wh kvs pl sg).pv) (args:List PV) (H:Hp) (hg:AllP (v5 n args).1) : (∃o fd,g.K.lookup 769=some o∧o.data=.func fd)∧a7 g A H 769 args (v5 n args).2:=by refine MJ hg λh1 h2 h3 h4 z=>?_;refine ⟨there,?_⟩;have:=h (dq (args[0]?.bind (bW 0))) (dq (args[0]?.bind (bW 1))) _ _ _ H h2 h3 h4;rw[←h1] at this;exact this
theorem dW.no {kvs:KV} (h:dW kvs pl):noRef pl=true:=by rcases h with rfl | rfl | rfl | ⟨m,rfl,_⟩ <;> rfl
theorem ym (N:cf g) (F1:cG g 764 q6 ["words","entry","quoted"]) (F:cG g 769 c4 ["book","place","signs"]):∀(n:Nat) {A:Around},aQ A (n+2)→n≤500→∀po wh kvs pl sg H,sg.length≤n→dW kvs pl→aF kvs sg→a7 g A H 769 [eF po wh kvs,pl,.str sg] (L.rest po wh kvs pl sg).pv:=by intro n;induction n with|zero=>intro A R hz po wh kvs pl sg H hn hp hr;exact go R hz hn hp hr λ{A'} _ _ _ _ _ _ _ h=>absurd h (Nat.not_lt_zero _)|succ n ih=>intro A R hz po wh kvs pl sg H hn hp hr;exact go R hz hn hp hr λ{A'} R' po wh kvs pl sg H h=>ih (R'.lt (by lia)) (by lia) po wh kvs pl sg H (Nat.le_of_lt_succ h)
where
 go {n:Nat} {A:Around} (R:aQ A (n+2)) (hz:n≤500) {po wh:Bool} {kvs:KV} {pl:PV} {sg:List Nat} {H:Hp} (hn:sg.length≤n) (hp:dW kvs pl) (hr:aF kvs sg)
   (ih:∀{A':Around},aQ A' (n+1)→∀po wh kvs pl sg H,sg.length<n→dW kvs pl→aF kvs sg→a7 g A' H 769 [eF po wh kvs,pl,.str sg] (L.rest po wh kvs pl sg).pv):a7 g A H 769 [eF po wh kvs,pl,.str sg] (L.rest po wh kvs pl sg).pv:=by
  refine bZ (K2 (po:=po) (wh:=wh) hp hr hn (Nat.le_trans hn hz)) λb hs=>?_
  refine cX (Γ:=k8 n b) (n:=60) F rfl (by show noRef pl&&true=true;rw[hp.no];rfl) R.one (λo fd Fa K3 h La=>?_) hs
  have fo:eV g (A.deeper (callEnvC fd La 769)).in1 (Jf n):=c9 λe m args H hg=>by
   rcases List.mem_cons.mp m with rfl | m
   ·exact HE N F1 (R.down _) args H hg
   ·rw[List.mem_singleton.mp m] at hg ⊢;exact v8 (bU F) (λpo wh kvs pl sg H=>ih (R.down _) po wh kvs pl sg H) args H hg
  have C0:af (c5 g ⟨h,[]⟩ fd La 769) (A.deeper (callEnvC fd La 769)) zD:=aU N K3 (by kernel_rfl) Fa.glob Fa.blt R.hd (R.u9 _) bo aX ak
  refine aj (j5 (c:=i6) (q:=L.ni) (F:=L.j6) C0 R.hd (by kernel_rfl) (λv=>rfl)) λe1 u1=>?_
  have ce:∀p t,cb p [NS]=some t→di (c5 g ⟨h,[]⟩ fd La 769) (A.deeper (callEnvC fd La 769)) t:=bj λe m=>by rw[List.mem_singleton.mp m];exact e1
  have cu:∀p t,cb p [NS]=some t→iq (c5 g ⟨h,[]⟩ fd La 769) (A.deeper (callEnvC fd La 769)) t:=bj λe m=>by rw[List.mem_singleton.mp m];exact u1
  have C1:af (c5 g ⟨h,[]⟩ fd La 769) (A.deeper (callEnvC fd La 769)) (NT n):=aU N K3 (by kernel_rfl) Fa.glob Fa.blt R.hd (R.u9 _) bo fo ce
  have S1:=cj (X:=ba) (mt:=λz=>false) (loops:=[((eQ.pos.line,eQ.pos.col),⟨eQ,Ep⟩)]) C1 cu (cH λe m=>by rw[List.mem_singleton.mp m];exact Er (cj C1 cu λp t h=>nomatch h))
  exact ⟨S1.c,S1.set,S1.km,S1.ve,S1.loops,S1.uses,S1.raises⟩
noncomputable def eX:=fnIn "_law_turn" pb
noncomputable def pX:Stmt:=eK [3,1] (bodyOf eX)
noncomputable def Rk (a b c:Bool):Nat→Option Bool:=λl=>bif Nat.beq l (dy (eK [3] (bodyOf eX))).pos.line then some a else bif Nat.beq l (dy (eK [3,3] (bodyOf eX))).pos.line then some b else bif Nat.beq l (dy (eK [5] (bodyOf eX))).pos.line then some c else Option.none
noncomputable def Jj (n:Nat):Addr→List PV→Hp→R1:=iv [(769,λa z=>v5 n a)]
noncomputable def HG (n:Nat):Ctx:=c8 eX noAttr (Jj n) []
noncomputable def NX (e:Ent) (pl:PV) (loc:Loc):Loc:=cM "cut" (.bool e.cut) (cM "quoted" (.bool e.quoted) (cM "aside" (.str e.ab) (cM "place" pl (cM "left" (.str e.left) (cM "kept" (.str e.word) loc)))))
structure Rd where
 place:PV
 kept:List Nat
 ab:List Nat
 row:List PV
 line:Int
noncomputable def Rd.pv (r:Rd):PV:=.tup [r.place,.str r.kept,.str r.ab,.lst r.row,.int r.line]
noncomputable def pY (po wh:Bool) (kvs:KV) (runs:Bool) (r:Rd) (lf:List Nat):Loc:=[("book",eF po wh kvs),("runs",.bool runs),("reader",r.pv),("left",.str lf)]
noncomputable def pZ (po wh:Bool) (kvs:KV) (runs:Bool) (r q:Rd) (lf:List Nat) (told:PV):Loc:=aD (pY po wh kvs runs r lf) [("posix",.bool po),("whole",.bool wh),("roles",.lF kvs),("place",q.place),("kept",.str q.kept),("aside",.str q.ab),("row",.lst q.row),("line",.int q.line),("told",told)]
noncomputable def K4 (loc:Loc):Bool:=dq ((ax "book" loc).bind (bW 0))
noncomputable def K5 (loc:Loc):Bool:=dq ((ax "book" loc).bind (bW 1))
noncomputable def HH (loc:Loc):KV:=oDct ((ax "book" loc).bind (bW 2))
noncomputable def EE (loc:Loc):List Nat:=bN (ax "signs" loc)
noncomputable def EF (loc:Loc):Ent:=L.rest (K4 loc) (K5 loc) (HH loc) (.int 0) (EE loc)
noncomputable def zI (n:Nat) (pl:PV) (loc:Loc) (H:Hp):List Prop:=[(∃runs r lf t,loc=aD (pZ (K4 loc) (K5 loc) (HH loc) runs r r lf t) [("signs",.str (EE loc))]),H=[],(EE loc).length<n,aF (HH loc) (EE loc),(EF loc).place=pl]
noncomputable def Rm (n:Nat) (pl:PV) (loc:Loc) (H:Hp):Tr Out:=.need (zI n pl loc H) (.leaf ⟨.next,NX (EF loc) pl loc,H⟩)
noncomputable def p0 (n:Nat) (pl:PV) (a b c:Bool):aA:={b3 (HG n) (λz=>false) [((pX.pos.line,pX.pos.col),⟨pX,Rm n pl⟩)] with fold:=Rk a b c}
noncomputable def zJ (po wh:Bool) (kvs:KV) (runs:Bool) (r q:Rd) (lf:List Nat) (told:PV) (sg:List Nat) (e:Ent):Loc:=aD (pZ po wh kvs runs r q lf told) [("signs",.str sg),("quoted",.bool e.quoted),("cut",.bool e.cut)]
namespace L
noncomputable def fC (sg:List Nat) (e:Ent) (line:Int):Int:=line+(fh (cq sg none (some ((sg.length:Nat) - (e.left.length:Nat):Int))) [10]+(if e.cut=true then (1:Int) else 0))
noncomputable def i9 (po:Bool) (e:Ent):PV:=ct (!e.word.isEmpty||(e.quoted||(!po||false))) (.str e.word) .none
noncomputable def gi (po:Bool):PV:=ct po .none (.str [])
noncomputable def nq (e:Ent) (row:List PV):List PV:=(bif !e.ab.isEmpty then [.str e.ab] else [])++row
noncomputable def refused (kvs:KV) (m:List Nat):List PV:=[.str [114,101,102,117,115,101,100],.str (bif aa [109] (ro kvs m) then [78,111,32,99,108,111,115,105,110,103,32,113,117,111,116,97,116,105,111,110] else [78,111,32,101,115,99,97,112,101,100,32,99,104,97,114,97,99,116,101,114])]
noncomputable def iC (t:PV):List PV:=[.str [116,111,108,100],t]
noncomputable def viewOf (iS:List PV) (vw:PV) (r:Rd):PV:=.lst (iS++[vw,.str r.kept,.int r.line,.lst r.row])
end L
noncomputable def EG (l:Loc) (iS:List PV) (vw:PV) (r:Rd) (lf:List Nat):Tr Out:=.need [fits 6=true] (.need [] (jH (aD l [("answer",.lst iS),("view",L.viewOf iS vw r)]) (.tup [L.viewOf iS vw r,r.pv,.str lf])))
noncomputable def tK (l:Loc) (t vw:PV) (r:Rd) (lf:List Nat) (c:Bool):Tr Out:=.need [] (.need [] (.need [c=false] (EG l (L.iC t) vw r lf)))
noncomputable def yn (l:Loc) (kvs:KV) (m:List Nat) (r:Rd) (lf:List Nat):Tr Out:=.need [] (.need [] (.need [cK m kvs=true] (.need [(bE m kvs).isSome=true] (EG l (L.refused kvs m) (.str m) r lf))))
noncomputable def Tf (i:List Nat):Stmt:=eK i (bodyOf eX)
def HJ (i:List Nat) (ns:List Str):Prop:=Mq (aV eX) (zx (Tf i)) (dy (Tf i)) (some ns)
noncomputable def EH (n:Nat) (pl:PV) (po wh:Bool) (kvs:KV) (runs:Bool) (r:Rd) (lf sg:List Nat) (X:Tr Out):Tr Out:=
 let l:=aD (pZ po wh kvs runs r r lf (L.gi po)) [("signs",.str sg)]
 .need [] (.need [] (.need [] (.need [] (.need [true=true] (.need [fits (r.ab.length+lf.length)=true] (.need [pX=pX] (.need (zI n pl l []) (.need [] (.need [] X)))))))))
noncomputable def cQ (pl:PV) (kp:List Nat) (runs:Bool) (e:Ent) (row:List PV) (ln:Int):Rd:=bif !runs then ⟨pl,kp,[],L.nq e row,ln⟩ else ⟨pl,kp,e.ab,row,ln⟩
noncomputable def yo (e:Ent) (row:List PV) (runs:Bool) (X:Tr Out) (Y:Tr Out):Tr Out:=.need [] (.br (!runs) (.need [fits ((bif !e.ab.isEmpty then [PV.str e.ab] else []).length+row.length)=true] (.need [HJ [3,4,0] ["row","aside"]] X)) Y)
noncomputable def tL (n:Nat) (pl vw:PV) (po wh:Bool) (kvs:KV) (runs:Bool) (kp dF lf:List Nat) (row:List PV) (line:Int):Tr Out:=
 let r:Rd:=⟨.int 0,kp,dF,row,line⟩;let sg:=dF++lf;let e:=L.rest po wh kvs (.int 0) sg;let t:=L.i9 po e;let ln:=L.fC sg e line
 let q1:Rd:=⟨pl,[],[],L.nq e row,ln⟩;let q2:Rd:=⟨pl,[],e.ab,row,ln⟩
 EH n pl po wh kvs runs r lf sg (.need [] (.need [(!false)=true] (.need [] (.need [HJ [3,3,0] ["told","kept"]] (yo e row runs (tK (zJ po wh kvs runs r q1 e.left t sg e) t vw q1 e.left false) (tK (zJ po wh kvs runs r q2 e.left t sg e) t vw q2 e.left false))))))
noncomputable def EJ (n:Nat) (m:List Nat) (po wh:Bool) (kvs:KV) (runs:Bool) (kp dF lf:List Nat) (row:List PV) (line:Int):Tr Out:=
 let r:Rd:=⟨.int 0,kp,dF,row,line⟩;let sg:=dF++lf;let e:=L.rest po wh kvs (.int 0) sg;let t:=L.gi po;let ln:=L.fC sg e line
 let q1:Rd:=⟨.str m,e.word,[],L.nq e row,ln⟩;let q2:Rd:=⟨.str m,e.word,e.ab,row,ln⟩
 EH n (.str m) po wh kvs runs r lf sg (.need [] (.need [(!cK m kvs)=false] (yo e row runs (yn (zJ po wh kvs runs r q1 e.left t sg e) kvs m q1 e.left) (yn (zJ po wh kvs runs r q2 e.left t sg e) kvs m q2 e.left))))
theorem EK (n:Nat) (po wh:Bool) (kvs:KV) (runs:Bool) (kp dF lf:List Nat) (row:List PV) (line:Int):av (p0 n .none true true false) 60 (bodyOf eX) (pY po wh kvs runs ⟨.int 0,kp,dF,row,line⟩ lf) []=tL n .none .none po wh kvs runs kp dF lf row line:=by kernel_rfl
theorem HK (n:Nat) (po wh:Bool) (kvs:KV) (runs:Bool) (kp dF lf:List Nat) (row:List PV) (line:Int):av (p0 n (.int 0) true true false) 60 (bodyOf eX) (pY po wh kvs runs ⟨.int 0,kp,dF,row,line⟩ lf) []=tL n (.int 0) (.str [32]) po wh kvs runs kp dF lf row line:=by kernel_rfl
theorem EL (n:Nat) (m:List Nat) (po wh:Bool) (kvs:KV) (runs:Bool) (kp dF lf:List Nat) (row:List PV) (line:Int):av (p0 n (.str m) true false true) 60 (bodyOf eX) (pY po wh kvs runs ⟨.int 0,kp,dF,row,line⟩ lf) []=EJ n m po wh kvs runs kp dF lf row line:=by kernel_rfl
theorem EM (n:Nat) (pl:PV) (m:List Nat) (po wh:Bool) (kvs:KV) (runs:Bool) (kp dF lf:List Nat) (row:List PV) (line:Int):av (p0 n pl false true true) 60 (bodyOf eX) (pY po wh kvs runs ⟨.str m,kp,dF,row,line⟩ lf) [] = .need [] (.need [] (.need [] (.need [] (.need [false=false] (yn (pZ po wh kvs runs ⟨.str m,kp,dF,row,line⟩ ⟨.str m,kp,dF,row,line⟩ lf (L.gi po)) kvs m ⟨.str m,kp,dF,row,line⟩ lf))))):=by kernel_rfl
theorem EN (n:Nat) (pl:PV) (po wh:Bool) (kvs:KV) (runs:Bool) (kp dF lf:List Nat) (row:List PV) (line:Int):av (p0 n pl false true false) 60 (bodyOf eX) (pY po wh kvs runs ⟨.none,kp,dF,row,line⟩ lf) [] = .need [] (.need [] (.need [] (.need [] (.need [false=false] (tK (pZ po wh kvs runs ⟨.none,kp,dF,row,line⟩ ⟨.none,kp,dF,row,line⟩ lf (L.gi po)) (L.gi po) .none ⟨.none,kp,dF,row,line⟩ lf false))))):=by kernel_rfl
theorem K6 (n:Nat) (po wh:Bool) (kvs:KV) (runs:Bool) (r:Rd) (lf sg:List Nat) (t:PV):oU (b3 (HG n) (λz=>false) []) 30 pX (aD (pZ po wh kvs runs r r lf t) [("signs",.str sg)]) [] = .need (RS n po wh kvs (.int 0) sg).1 (.leaf ⟨.next,NX (L.rest po wh kvs (.int 0) sg) (L.rest po wh kvs (.int 0) sg).place (aD (pZ po wh kvs runs r r lf t) [("signs",.str sg)]),[]⟩):=by kernel_rfl
theorem K7 (C:cE κ A X (b3 (HG n) (λz=>false) [])):∀loc H,bt κ A X (exec pX κ.env) loc H (Rm n pl loc H):=λloc H p s I Q E hE h=>by refine aj h λae h=>?_;refine Sm ae λbX D8 h1 h2 h3 z=>?_;refine So bX λruns r lf t e=>?_;subst D8;unfold EF at h h3;generalize K4 loc=po at *;generalize K5 loc=wh at *;generalize HH loc=kvs at *;generalize EE loc=sg at *;subst e;refine (cF C 30).1 pX _ _ p s I Q E hE ?_;rw[K6];rw[←h3] at h;exact ⟨rV h1 (.inl rfl) h2,h⟩
noncomputable def iD (x_:PV):Bool:=by induction x_ using PV.casesOn with|int _=>exact true|_=>exact false
namespace L
noncomputable def ay (pl:PV):PV:=bif iD pl then .str [32] else pl
noncomputable def turn (po wh:Bool) (kvs:KV) (runs:Bool) (r:Rd) (lf:List Nat):PV×Rd×List Nat:=
 let sg:=r.ab++lf
 let e:=rest po wh kvs (.int 0) sg
 let ln:=fC sg e r.line
 bif iD r.place then
  (bif isKey kvs e.place then
   (viewOf (refused kvs (strOf e.place)) e.place (cQ e.place e.word runs e r.row ln),cQ e.place e.word runs e r.row ln,e.left)
  else (viewOf (iC (i9 po e)) (ay e.place) (cQ e.place [] runs e r.row ln),cQ e.place [] runs e r.row ln,e.left))
 else bif isKey kvs r.place then (viewOf (refused kvs (strOf r.place)) r.place r,r,lf)
 else (viewOf (iC (gi po)) r.place r,r,lf)
end L
noncomputable def dT (x:PV×Rd×List Nat):PV:=.tup [x.1,x.2.1.pv,.str x.2.2]
structure EO (kvs:KV) (r:Rd):Prop where
 place:i8 kvs r.place
 row:∃l:List (List Nat),r.row=l.map .str∧l.length≤1000
 kept:r.kept.length≤1000
theorem NY:HJ [3,3,0] ["told","kept"]:=λenv h=>by induction env using Env.casesOn;cases h;kernel_rfl
theorem NZ:HJ [3,4,0] ["row","aside"]:=λenv h=>by induction env using Env.casesOn;cases h;kernel_rfl
def HL (v:PV) (o:Out):Prop:=∃u,mU o=some u∧kR o.H u=v∧noRef v=true
theorem rW (H:Hp):∀l:List (List Nat),jE H (l.map PV.str)=l.map PV.str|[]=>rfl|_::r=>congrArg (_::·) (rW H r)
theorem ed:∀(a b:List PV),ar (a++b)=(ar a&&ar b)|[],b=>rfl|x::a,b=>by show (noRef x&&ar (a++b))=(noRef x&&ar a&&ar b);rw[ed a b,Bool.and_assoc]
theorem v9 (H:Hp):∀(a b:List PV),jE H (a++b)=jE H a++jE H b|[],b=>rfl|x::a,b=>congrArg (_::·) (v9 H a b)
theorem cR {c:Bool} {x y:PV} (hx:bz x=true) (hy:bz y=true):bz (ct c x y)=true:=by
 rw[gF];induction c
 ·exact hy
 ·exact hx
theorem gN {q:Rd} (ha:ar iS=true∧∀H,jE H iS=iS) (hv:bz vw=true) (hp:bz q.place=true) (hr:∃l:List (List Nat),q.row=l.map .str) (H:Hp) : kR H (dT (L.viewOf iS vw q,q,lf))=dT (L.viewOf iS vw q,q,lf)∧noRef (dT (L.viewOf iS vw q,q,lf))=true:=by
 refine bZ hr λl hl=>?_;have f1:kR H (.lst q.row)=.lst q.row:=by rw[hl];show PV.lst (jE H (l.map .str))=_;rw[rW]
 have n1:noRef (.lst q.row)=true:=by rw[hl];exact bM l
 constructor
 ·show PV.tup [.lst (jE H (iS++_)),.tup [kR H q.place,_,_,kR H (.lst q.row),_],_]=_;rw[v9,ha.2 H,(b7 hp).2 H,f1];show PV.tup [.lst (iS++[kR H vw,_,_,kR H (.lst q.row)]),_,_]=_;rw[(b7 hv).2 H,f1];rfl
 ·show (ar (iS++[vw,.str q.kept,.int q.line,.lst q.row])&&((noRef q.place&&(true&&(true&&(noRef (.lst q.row)&&true))))&&true))=true;rw[ed,ha.1,(b7 hp).1,n1];show (true&&(noRef vw&&(true&&(true&&(noRef (.lst q.row)&&true))))&&_)=true;rw[(b7 hv).1,n1];rfl
theorem jz {l:Loc} {q:Rd} {v:PV} (hv:v=dT (L.viewOf iS vw q,q,lf)) (hc:∀H,kR H (dT (L.viewOf iS vw q,q,lf))=dT (L.viewOf iS vw q,q,lf)∧noRef (dT (L.viewOf iS vw q,q,lf))=true):(EG l iS vw q lf).Sat (HL v):=by subst hv;exact ⟨⟨rfl,trivial⟩,trivial,_,rfl,(hc _).1,(hc []).2⟩
theorem ja {t:PV} (h:bz t=true):ar (L.iC t)=true∧∀H,jE H (L.iC t)=L.iC t:=⟨by show (true&&(noRef t&&true))=true;rw[(b7 h).1];rfl,λH=>by show [_,kR H t]=_;rw[(b7 h).2];rfl⟩
theorem k9 {kvs:KV} {m:List Nat}:ar (L.refused kvs m)=true∧∀H,jE H (L.refused kvs m)=L.refused kvs m:=⟨rfl,λH=>rfl⟩
theorem mw {e:Ent} (h:∃l:List (List Nat),row=l.map .str):∃l:List (List Nat),L.nq e row=l.map .str:=by obtain ⟨l,rfl⟩:=h;unfold L.nq;induction !e.ab.isEmpty with|true=>exact ⟨e.ab::l,rfl⟩|false=>exact ⟨l,rfl⟩
theorem wa {kvs:KV} {sg:List Nat} (hp:dW kvs pl) (hr:aF kvs sg):i8 kvs (L.rest po wh kvs pl sg).place:=(gh hp hr).place
theorem HM {e:Ent} {row:List PV}:(bif !e.ab.isEmpty then [PV.str e.ab] else []).length≤1:=by induction !e.ab.isEmpty with|true=>exact Nat.le_refl 1|false=>exact Nat.zero_le 1
theorem zK {kvs:KV} {runs:Bool} {r:Rd} {X:Tr Out} {Φ:Out→Prop} (hr:aF kvs (r.ab++lf)) (hn:(r.ab++lf).length<n) (hz:(r.ab++lf).length≤1000) (hp:(L.rest po wh kvs (.int 0) (r.ab++lf)).place=pl) (h:X.Sat Φ) : (EH n pl po wh kvs runs r lf (r.ab++lf) X).Sat Φ:=by rw[List.length_append] at hz;exact ⟨trivial,trivial,trivial,trivial,⟨rfl,trivial⟩,⟨fits_of (by lia),trivial⟩,⟨rfl,trivial⟩,⟨⟨runs,r,lf,L.gi po,rfl⟩,rfl,hn,hr,hp,trivial⟩,trivial,trivial,h⟩
theorem zL {e:Ent} {runs:Bool} {X Y:Tr Out} {Φ:Out→Prop} (hz:row.length≤1000) (h1:runs=false→X.Sat Φ) (h2:runs=true→Y.Sat Φ):(yo e row runs X Y).Sat Φ:=by have:=HM (e:=e) (row:=row);refine ⟨trivial,λh=>⟨⟨fits_of (by lia),trivial⟩,⟨NZ,trivial⟩,h1 ?_⟩,λh=>h2 ?_⟩ <;> (induction runs <;> first | rfl | cases h)
section
variable {n:Nat} {po wh:Bool} {kvs:KV} {runs:Bool} {kp dF lf m:List Nat} {row:List PV} {line:Int} {pl vw:PV}
theorem j8 {p:PV} (h:bz p=true):bz (L.ay p)=true:=by unfold L.ay;induction iD p with|true=>rfl|false=>exact h
theorem BD (hk:L.isKey kvs (L.rest po wh kvs (.int 0) (dF++lf)).place=false):L.turn po wh kvs runs ⟨.int 0,kp,dF,row,line⟩ lf = (let e:=L.rest po wh kvs (.int 0) (dF++lf);let q:=cQ e.place [] runs e row (L.fC (dF++lf) e line);(L.viewOf (L.iC (L.i9 po e)) (L.ay e.place) q,q,e.left)):=by unfold L.turn;show (bif L.isKey kvs (L.rest po wh kvs (.int 0) (dF++lf)).place then _ else _)=_;rw[hk];rfl
theorem EP (he:(L.rest po wh kvs (.int 0) (dF++lf)).place=.str m) (hk:cK m kvs=true):L.turn po wh kvs runs ⟨.int 0,kp,dF,row,line⟩ lf = (L.viewOf (L.refused kvs m) (.str m) (cQ (.str m) (L.rest po wh kvs (.int 0) (dF++lf)).word runs (L.rest po wh kvs (.int 0) (dF++lf)) row (L.fC (dF++lf) (L.rest po wh kvs (.int 0) (dF++lf)) line)),cQ (.str m) (L.rest po wh kvs (.int 0) (dF++lf)).word runs (L.rest po wh kvs (.int 0) (dF++lf)) row (L.fC (dF++lf) (L.rest po wh kvs (.int 0) (dF++lf)) line),(L.rest po wh kvs (.int 0) (dF++lf)).left):=by unfold L.turn;dsimp only;rw[he];show (bif cK m kvs then _ else _)=_;rw[hk];rfl
theorem rY (hr:aF kvs (dF++lf)) (hn:(dF++lf).length<n) (hz:(dF++lf).length≤1000) (hw:∃l:List (List Nat),row=l.map .str) (tM:row.length≤1000) (he:(L.rest po wh kvs (.int 0) (dF++lf)).place=pl) (hv:L.ay pl=vw) (hk:L.isKey kvs pl=false) : (tL n pl vw po wh kvs runs kp dF lf row line).Sat (HL (dT (L.turn po wh kvs runs ⟨.int 0,kp,dF,row,line⟩ lf))):=by have sp:=(wa (po:=po) (wh:=wh) (.inl rfl) hr).simple;subst he;subst hv;rw[BD hk];exact zK (r:=⟨.int 0,kp,dF,row,line⟩) hr hn hz rfl (ah trivial (ah ⟨rfl,trivial⟩ (ah trivial (ah ⟨NY,trivial⟩ (zL tM (λhb=>ah trivial (ah trivial (ah ⟨rfl,trivial⟩ (jz (by subst hb;rfl) (gN (ja (cR rfl rfl)) (j8 sp) sp (mw hw)))))) λhb=>ah trivial (ah trivial (ah ⟨rfl,trivial⟩ (jz (by subst hb;rfl) (gN (ja (cR rfl rfl)) (j8 sp) sp hw)))))))))
theorem BE (hr:aF kvs (dF++lf)) (hn:(dF++lf).length<n) (hz:(dF++lf).length≤1000) (hw:∃l:List (List Nat),row=l.map .str) (tM:row.length≤1000) (he:(L.rest po wh kvs (.int 0) (dF++lf)).place=.str m) (hk:cK m kvs=true) : (EJ n m po wh kvs runs kp dF lf row line).Sat (HL (dT (L.turn po wh kvs runs ⟨.int 0,kp,dF,row,line⟩ lf))):=by rw[EP he hk];exact zK (r:=⟨.int 0,kp,dF,row,line⟩) hr hn hz he (ah trivial (ah ⟨congrArg _ hk,trivial⟩ (zL tM (λhb=>ah trivial (ah trivial (ah ⟨hk,trivial⟩ (ah ⟨key_is hk,trivial⟩ (jz (by subst hb;rfl) (gN k9 rfl rfl (mw hw))))))) λhb=>ah trivial (ah trivial (ah ⟨hk,trivial⟩ (ah ⟨key_is hk,trivial⟩ (jz (by subst hb;rfl) (gN k9 rfl rfl hw))))))))
theorem ER {r:Rd} (hR:EO kvs r) (hr:aF kvs (r.ab++lf)) (hn:(r.ab++lf).length<n) (hz:(r.ab++lf).length≤500) : ∃pl a b c,(av (p0 n pl a b c) 60 (bodyOf eX) (pY po wh kvs runs r lf) []).Sat (HL (dT (L.turn po wh kvs runs r lf))):=by
 obtain ⟨pl,kp,dF,row,line⟩:=r;obtain ⟨hp,⟨rl,hw,Rn⟩,hk⟩:=hR;have hW:∃l:List (List Nat),row=l.map .str:=⟨rl,hw⟩;have tM:row.length≤1000:=by rw[show row=rl.map .str from hw,List.length_map];exact Rn
 have hZ:(dF++lf).length≤1000:=Nat.le_trans hz (Nat.le_of_ble_eq_true rfl);rcases hp with e | e | ⟨m,e,hm⟩
 ·obtain rfl:pl=.none:=e;refine ⟨.none,false,true,false,?_⟩;rw[EN];exact ⟨trivial,trivial,trivial,trivial,⟨rfl,trivial⟩,trivial,trivial,⟨rfl,trivial⟩,jz rfl (gN (ja (cR rfl rfl)) rfl rfl hW)⟩
 ·obtain rfl:pl=.int 0:=e;rcases wa (po:=po) (wh:=wh) (.inl rfl) hr with he | he | ⟨m,he,hm⟩
  ·exact ⟨.none,true,true,false,EK n po wh kvs runs kp dF lf row line▸rY hr hn hZ hW tM he rfl rfl⟩
  ·exact ⟨.int 0,true,true,false,HK n po wh kvs runs kp dF lf row line▸rY hr hn hZ hW tM he rfl rfl⟩
  ·exact ⟨.str [m],true,false,true,EL n [m] po wh kvs runs kp dF lf row line▸BE hr hn hZ hW tM he hm⟩
 ·obtain rfl:pl=.str [m]:=e;refine ⟨.none,false,true,true,?_⟩;rw[EM];refine ⟨trivial,trivial,trivial,trivial,⟨rfl,trivial⟩,trivial,trivial,⟨hm,trivial⟩,⟨key_is hm,trivial⟩,jz ?_ (gN k9 rfl rfl hW)⟩;unfold L.turn;show dT (bif cK [m] kvs then _ else _)=_;rw[hm];rfl
end
theorem yq (N:cf g) (F1:cG g 764 q6 ["words","entry","quoted"]) (F2:cG g 769 c4 ["book","place","signs"]) (F:cG g 776 eX ["book","runs","reader","left"]) (R:aQ A (n+4)) (Pw:n≤500) {kvs:KV} {runs:Bool} {r:Rd} (hR:EO kvs r) (hr:aF kvs (r.ab++lf)) (hn:(r.ab++lf).length≤n) (H:Hp) : a7 g A H 776 [eF po wh kvs,.bool runs,r.pv,.str lf] (dT (L.turn po wh kvs runs r lf)):=by
 refine So (ER (n:=n+1) (po:=po) (wh:=wh) (runs:=runs) hR hr (Nat.lt_succ_of_le hn) (Nat.le_trans hn Pw)) λpl a b c hs=>?_;have nr:noRef r.pv=true:=by refine aG hR.row λl hl z=>?_;show (noRef r.place&&(true&&(true&&(ar r.row&&true))))=true;rw[(b7 hR.place.simple).1,hl,bM];rfl
 refine cX (Γ:=p0 (n+1) pl a b c) (n:=60) F rfl (by show (true&&(noRef r.pv&&true))=true;rw[nr];rfl) R.one (λo fd Fa K3 h La=>?_) hs;have fo:eV g (A.deeper (callEnvC fd La 776)).in1 (Jj (n+1)):=c9 λe m args H hg=>by rw[List.mem_singleton.mp m] at hg ⊢;exact v8 (bU F2) (λpo wh kvs pl sg H h=>ym N F1 F2 n ((R.down _).lt (by lia)) Pw po wh kvs pl sg H (Nat.le_of_lt_succ h)) args H hg
 have C1:af (c5 g ⟨h,[]⟩ fd La 776) (A.deeper (callEnvC fd La 776)) (HG (n+1)):=aU N K3 (by kernel_rfl) Fa.glob Fa.blt R.hd (R.u9 _) bo fo ak;have S1:=cj (X:=ba) (mt:=λz=>false) (loops:=[((pX.pos.line,pX.pos.col),⟨pX,Rm (n+1) pl⟩)]) C1 (λp t h=>nomatch h) (cH λe m=>by rw[List.mem_singleton.mp m];exact K7 (cj C1 (λp t h=>nomatch h) λp t h=>nomatch h));exact ⟨S1.c,S1.set,S1.km,S1.ve,S1.loops,S1.uses,S1.raises⟩
noncomputable def wb:=fnIn "_law_due" pb
noncomputable def gj:LC:=tG 30 (dy (eK [0] (bodyOf wb)))
noncomputable def iE:DC:=Ra 30 ((Jc gj.elt).getD 2 yb)
noncomputable def tP (po wh:Bool) (rn:PV) (cs:List (List Nat)):PV:=.tup [.bool po,.bool wh,rn,.lst (cs.map .str)]
noncomputable def yr (v:PV):Bool:=dq (bW 0 v)
noncomputable def ES (v:PV):Bool:=dq (bW 1 v)
noncomputable def BF (v:PV):PV:=(bW 2 v).getD .none
noncomputable def BG (v:PV):List (List Nat):=strsOf (oLst (bW 3 v))
noncomputable def N0 (args:List PV):List Prop×PV:=
 let sg:=bN args[0]?;let v:=(args[1]?).getD .none
 ([args=[.str sg,tP (yr v) (ES v) (BF v) (BG v)],dr (BF v),sg.length≤1000],.str (L.jR (yr v) (L.f7 (BF v)) sg (BG v)))
namespace L
noncomputable def ET (v:PV) (sg:List Nat):List Nat:=jR (yr v) (f7 (BF v)) sg (BG v)
noncomputable def K8:Loc→PV→List Nat×List Nat:=λloc y=>(strOf y,ET ((ax "one" loc).getD .none) (strOf y))
noncomputable def lg (v:PV) (tx:List Nat):KV:=putAll (λy=>(strOf y,ET v (strOf y))) (nO tx) []
noncomputable def zM:Loc→PV→PV:=λloc y=>eF (yr y) (ES y) (lg y (bN (ax "text" loc)))
end L
noncomputable def Jk:Addr→List PV→Hp→R1:=iv [(757,λa z=>N0 a)]
noncomputable def zN:Ctx:=c8 wb noAttr Jk []
noncomputable def rZ:Ctx:=aN zN gj.scope []
noncomputable def Tg:(Nat×Nat×Nat)×fM:=(keyOf iE.pos,⟨iE.e,iE.f rZ (aC (aN rZ iE.scope [])) L.K8⟩)
noncomputable def wc:Ctx:=aN zN gj.scope [Tg]
noncomputable def Ro (v:Option PV):Rd:=⟨(v.bind (bW 0)).getD .none,bN (v.bind (bW 1)),bN (v.bind (bW 2)),oLst (v.bind (bW 3)),(((v.bind (bW 4)).bind PV.int?)).getD 0⟩
noncomputable def wd (n:Nat) (args:List PV):List Prop×PV:=
 let po:=dq (args[0]?.bind (bW 0));let wh:=dq (args[0]?.bind (bW 1));let kvs:=oDct (args[0]?.bind (bW 2));let runs:=dq args[1]?;let r:=Ro args[2]?;let lf:=bN args[3]?
 ([args=[eF po wh kvs,.bool runs,r.pv,.str lf],EO kvs r,aF kvs (r.ab++lf),(r.ab++lf).length≤n],dT (L.turn po wh kvs runs r lf))
noncomputable def Jl (n:Nat):Addr→List PV→Hp→R1:=iv [(757,λa z=>N0 a),(776,λa z=>wd n a)]
noncomputable def Rp:(Nat×Nat×Nat)×fM:=(keyOf gj.pos,⟨gj.e,gj.f zN (aC wc) dQ L.zM⟩)
noncomputable def yt:Str→Bool:=λx=>seq x "readers"||seq x "due"
noncomputable def we (n:Nat):Ctx:=c8 wb noAttr (Jl n) [Rp]
noncomputable def fD:Stmt:=eK [4] (bodyOf wb)
noncomputable def iF (tx:List Nat) (s0 s1 tu b0 b1:PV) (lf:List Nat):Loc:=[("text",.str tx),("both",.lst [s0,s1]),("turns",tu),("books",.lst [b0,b1]),("readers",.ref 0),("left",.str lf),("due",.ref 1)]
noncomputable def yu (q0 q1:PV) (d:List PV):Hp:=[(0,.lst [q0,q1]),(1,.lst d)]
structure Sg where
 po:Bool
 wh:Bool
 rn:PV
 cs:List (List Nat)
variable {s0 s1:Sg}
noncomputable def Sg.pv (s:Sg):PV:=tP s.po s.wh s.rn s.cs
noncomputable def Sg.runs (s:Sg):Bool:=(PV.bool? s.rn).getD true
noncomputable def Sg.ro (s:Sg) (c:List Nat):List Nat:=L.jR s.po (L.f7 s.rn) c s.cs
noncomputable def Sg.kv (s:Sg) (tx:List Nat):KV:=putAll (λy=>(strOf y,s.ro (strOf y))) (nO tx) []
noncomputable def Sg.bk (s:Sg) (tx:List Nat):PV:=eF s.po s.wh (s.kv tx)
noncomputable def Sg.turn (s:Sg) (tx:List Nat) (r:Rd) (lf:List Nat):PV×Rd×List Nat:=L.turn s.po s.wh (s.kv tx) s.runs r lf
noncomputable def Rq (n:Nat) (s:Sg) (tx:List Nat) (r:Rd) (lf:List Nat) (d:List PV) (X:Tr Out):Tr Out:=.need ([bD 0 2=true,true=true,bD 0 2=true,true=true,bD 2 4=true,bD 0 2=true,true=true]++(wd n [s.bk tx,.bool s.runs,r.pv,.str lf]).1) (.need [] (.need [] (.need [(true&&true)=true] (.need [] (.need [] (.need [fits (d.length+1)=true] X))))))
noncomputable def N1 (n:Nat) (s:Sg) (tx:List Nat) (r:Rd) (lf:List Nat) (d:List PV) (X:Tr Out):Tr Out:=.need ([bD 1 2=true,true=true,bD 1 2=true,true=true,bD 2 4=true,bD 1 2=true,true=true]++(wd n [s.bk tx,.bool s.runs,r.pv,.str lf]).1) (.need [] (.need [] (.need [(true&&true)=true] (.need [] (.need [] (.need [fits (d.length+1)=true] X))))))
theorem K9 (n:Nat) (s:Sg) (s1 tu b1 q1:PV) (tx lf:List Nat) (d:List PV) (r:Rd) (h:dr s.rn):av (b3 (we n) yt []) 40 (eD fD) (aD (iF tx s.pv s1 tu (s.bk tx) b1 lf) [("which",.int 0)]) (yu r.pv q1 d) = Rq n s tx r lf d (.leaf ⟨.next,aD (iF tx s.pv s1 tu (s.bk tx) b1 (s.turn tx r lf).2.2) [("which",.int 0),("view",(s.turn tx r lf).1)],yu (s.turn tx r lf).2.1.pv q1 (d++[(s.turn tx r lf).1])⟩):=by obtain ⟨po,wh,rn,cs⟩:=s;rcases h with h | h | ⟨x,h,_⟩ <;> (have h:rn=_:=h) <;> subst h <;> kernel_rfl
theorem Lb (n:Nat) (s:Sg) (s0 tu b0 q0:PV) (tx lf:List Nat) (d:List PV) (r:Rd) (h:dr s.rn):av (b3 (we n) yt []) 40 (eD fD) (aD (iF tx s0 s.pv tu b0 (s.bk tx) lf) [("which",.int 1)]) (yu q0 r.pv d) = N1 n s tx r lf d (.leaf ⟨.next,aD (iF tx s0 s.pv tu b0 (s.bk tx) (s.turn tx r lf).2.2) [("which",.int 1),("view",(s.turn tx r lf).1)],yu q0 (s.turn tx r lf).2.1.pv (d++[(s.turn tx r lf).1])⟩):=by obtain ⟨po,wh,rn,cs⟩:=s;rcases h with h | h | ⟨x,h,_⟩ <;> (have h:rn=_:=h) <;> subst h <;> kernel_rfl
structure jI (kvs:KV) (tx:List Nat) (k:Nat) (r:Rd):Prop where
 place:i8 kvs r.place
 row:∃l:List (List Nat),r.row=l.map .str∧l.length≤k
 kept:r.kept.length≤1000
 ab:∀x∈r.ab,x∈tx
 one:r.ab.length≤1
theorem jI.ok {kvs:KV} {tx:List Nat} {k:Nat} {r:Rd} (h:jI kvs tx k r) (hk:k≤1000):EO kvs r:=⟨h.place,let ⟨l,e,z⟩:=h.row;⟨l,e,Nat.le_trans z hk⟩,h.kept⟩
theorem jI.up {kvs:KV} {tx:List Nat} {k:Nat} {r:Rd} (h:jI kvs tx k r):jI kvs tx (k+1) r:=⟨h.place,let ⟨l,e,z⟩:=h.row;⟨l,e,Nat.le_succ_of_le z⟩,h.kept,h.ab,h.one⟩
theorem zO {kvs:KV} {tx:List Nat} {k:Nat} {runs:Bool} {e:Ent} (hp:i8 kvs pl) (hr:∃l:List (List Nat),row=l.map .str∧l.length≤k) (hk:kp.length≤1000) (ha:∀x∈e.ab,x∈tx) (h1:e.ab.length≤1):jI kvs tx (k+1) (cQ pl kp runs e row ln):=by refine aG hr λl eq1 hl=>?_;subst eq1;unfold cQ;induction runs with|true=>exact ⟨hp,⟨l,rfl,Nat.le_succ_of_le hl⟩,hk,ha,h1⟩|false=>refine ⟨hp,?_,hk,λz h=>(nomatch h),Nat.zero_le _⟩;show ∃l':List (List Nat),L.nq e (l.map .str)=l'.map .str∧l'.length≤k+1;unfold L.nq;induction !e.ab.isEmpty with|true=>exact ⟨e.ab::l,rfl,Nat.succ_le_succ hl⟩|false=>exact ⟨l,rfl,Nat.le_succ_of_le hl⟩
theorem zP {s:Sg} {tx:List Nat} {k:Nat} {r:Rd} (hR:jI (s.kv tx) tx k r) (hr:aF (s.kv tx) tx) (hl:cZ lf tx) (hz:tx.length≤900):jI (s.kv tx) tx (k+1) (s.turn tx r lf).2.1∧cZ (s.turn tx r lf).2.2 tx:=by
 have ro:aF (s.kv tx) (r.ab++lf):=λx m=>hr x ((List.mem_append.mp m).elim (hR.ab x) (hl.sub x));have e:=gh (po:=s.po) (wh:=s.wh) (pl:=.int 0) (.inl rfl) ro;have sub:∀x∈r.ab++lf,x∈tx:=λx m=>(List.mem_append.mp m).elim (hR.ab x) (hl.sub x);have len:(r.ab++lf).length≤lf.length+1:=by rw[List.length_append];have:=hR.one;lia
 have lo:cZ (L.rest s.po s.wh (s.kv tx) (.int 0) (r.ab++lf)).left tx:=⟨λx m=>sub x (e.left.jy.sub x m),by have:=e.left.len;rw[List.length_tail] at this;have:=hl.len;lia⟩;have wl:(L.rest s.po s.wh (s.kv tx) (.int 0) (r.ab++lf)).word.length≤1000:=by have:=e.word;have:=hl.len;lia
 have ai:∀x∈(L.rest s.po s.wh (s.kv tx) (.int 0) (r.ab++lf)).ab,x∈tx:=λx m=>sub x (e.ab.sub x m);unfold Sg.turn L.turn;dsimp only;induction iD r.place with
 | true=>induction L.isKey (s.kv tx) (L.rest s.po s.wh (s.kv tx) (.int 0) (r.ab++lf)).place with|true=>exact ⟨zO e.place hR.row wl ai e.one,lo⟩|false=>exact ⟨zO e.place hR.row (Nat.zero_le _) ai e.one,lo⟩
 | false=>induction L.isKey (s.kv tx) r.place with|true=>exact ⟨hR.up,hl⟩|false=>exact ⟨hR.up,hl⟩
structure r5 where
 r0:Rd
 r1:Rd
 left:List Nat
 out:List PV
noncomputable def aS (s0 s1:Sg) (tx:List Nat) (S:r5) (t:Int):r5:=bif t==0 then ⟨(s0.turn tx S.r0 S.left).2.1,S.r1,(s0.turn tx S.r0 S.left).2.2,S.out++[(s0.turn tx S.r0 S.left).1]⟩ else ⟨S.r0,(s1.turn tx S.r1 S.left).2.1,(s1.turn tx S.r1 S.left).2.2,S.out++[(s1.turn tx S.r1 S.left).1]⟩
noncomputable def N2:Rd:=⟨.int 0,[],[],[],1⟩
noncomputable def mx (tx:List Nat):r5:=⟨N2,N2,tx,[]⟩
noncomputable def ef (s0 s1:Sg) (tx:List Nat) (ts:List Int):r5:=ts.foldl (aS s0 s1 tx) (mx tx)
structure yv (s0 s1:Sg) (tx:List Nat) (S:r5):Prop where
 r0:jI (s0.kv tx) tx S.out.length S.r0
 r1:jI (s1.kv tx) tx S.out.length S.r1
 left:cZ S.left tx
theorem yv.start {tx:List Nat}:yv s0 s1 tx (mx tx):=⟨⟨.inr (.inl rfl),⟨[],rfl,Nat.le_refl _⟩,Nat.zero_le _,λz h=>(nomatch h),Nat.zero_le _⟩,⟨.inr (.inl rfl),⟨[],rfl,Nat.le_refl _⟩,Nat.zero_le _,λz h=>(nomatch h),Nat.zero_le _⟩,.refl⟩
theorem yv.step {tx:List Nat} {S:r5} (h:yv s0 s1 tx S) (h0:aF (s0.kv tx) tx) (h1:aF (s1.kv tx) tx) (hz:tx.length≤900) (t:Int):yv s0 s1 tx (aS s0 s1 tx S t)∧(aS s0 s1 tx S t).out.length=S.out.length+1:=by
 unfold aS;have l1:∀v:PV,(S.out++[v]).length=S.out.length+1:=λv=>List.length_append;induction t==0 with
 | true=>
  obtain ⟨a,b⟩:=zP h.r0 h0 h.left hz;refine ⟨⟨?_,?_,b⟩,l1 _⟩
  ·show jI _ _ (S.out++[_]).length _;rw[l1];exact a
  ·show jI _ _ (S.out++[_]).length _;rw[l1];exact h.r1.up
 | false=>
  obtain ⟨a,b⟩:=zP h.r1 h1 h.left hz;refine ⟨⟨?_,?_,b⟩,l1 _⟩
  ·show jI _ _ (S.out++[_]).length _;rw[l1];exact h.r0.up
  ·show jI _ _ (S.out++[_]).length _;rw[l1];exact a
theorem EU (there:∃o fd,g.K.lookup 776=some o∧o.data=.func fd) (h:∀po wh kvs runs r lf H,EO kvs r→aF kvs (r.ab++lf)→(r.ab++lf).length≤n→a7 g A H 776 [eF po wh kvs,.bool runs,r.pv,.str lf] (dT (L.turn po wh kvs runs r lf))) (args:List PV) (H:Hp) (hg:AllP (wd n args).1) : (∃o fd,g.K.lookup 776=some o∧o.data=.func fd)∧a7 g A H 776 args (wd n args).2:=by refine MJ hg λh1 h2 h3 h4 z=>?_;refine ⟨there,?_⟩;have:=h (dq (args[0]?.bind (bW 0))) (dq (args[0]?.bind (bW 1))) _ (dq args[1]?) _ _ H h2 h3 h4;rw[←h1] at this;exact this
theorem EV (N:cf g) (F:cG g 757 eP ["sign","settings"]) {k:Nat} (R:aQ A (k+1)) (args:List PV) (H:Hp) (hg:AllP (N0 args).1):(∃o fd,g.K.lookup 757=some o∧o.data=.func fd)∧a7 g A H 757 args (N0 args).2:=by refine lG hg λh1 h2 h3 z=>?_;refine ⟨bU F,?_⟩;have:=Eo N F R (po:=yr ((args[1]?).getD .none)) (wh:=ES ((args[1]?).getD .none)) (cs:=BG ((args[1]?).getD .none)) h2 h3 H;rw[show [PV.str (bN args[0]?),PV.tup [.bool (yr ((args[1]?).getD .none)),.bool (ES ((args[1]?).getD .none)),BF ((args[1]?).getD .none),.lst ((BG ((args[1]?).getD .none)).map .str)]]=args from h1.symm] at this;exact this
noncomputable def N3 (v:PV):Sg:=⟨yr v,ES v,BF v,BG v⟩
noncomputable def qz (loc:Loc) (i:Nat):Sg:=N3 ((oLst (ax "both" loc))[i]?.getD .none)
noncomputable def wg (loc:Loc):List Nat:=bN (ax "text" loc)
noncomputable def EW (loc:Loc):List Int:=intsOf (oLst (ax "turns" loc))
noncomputable def wi (tx:List Nat) (s0 s1:Sg) (ts:List Int) (lf:List Nat):Loc:=iF tx s0.pv s1.pv (.lst (ts.map .int)) (s0.bk tx) (s1.bk tx) lf
noncomputable def BH (S:r5):Hp:=yu S.r0.pv S.r1.pv S.out
noncomputable def tQ (n:Nat) (loc:Loc) (H:Hp):List Prop:=[loc=wi (wg loc) (qz loc 0) (qz loc 1) (EW loc) (wg loc),H=BH (mx (wg loc)),dr (qz loc 0).rn,dr (qz loc 1).rn,aF ((qz loc 0).kv (wg loc)) (wg loc),aF ((qz loc 1).kv (wg loc)) (wg loc),(∀t∈EW loc,t=0∨t=1),(wg loc).length<n,(wg loc).length≤900,(EW loc).length≤900]
noncomputable def Rr (n:Nat) (loc:Loc) (H:Hp):Tr Out:=.need (tQ n loc H) (.leaf ⟨.next,wi (wg loc) (qz loc 0) (qz loc 1) (EW loc) (ef (qz loc 0) (qz loc 1) (wg loc) (EW loc)).left,BH (ef (qz loc 0) (qz loc 1) (wg loc) (EW loc))⟩)
theorem Lc (C:cE κ A X (b3 (we n) yt [])) (hh:A.handled=Option.none):∀loc H,bt κ A X (exec fD κ.env) loc H (Rr n loc H):=by
 refine xY (pos:=fD.pos) (tgt:=dy fD) (iter:=ju fD) (body:=eD fD) C (n:=40) (λv=>rfl) (Rr n) λloc H Φ h=>?_;obtain ⟨⟨e,hH,g0,g1,w0,w1,ht,hn,hz,hk,_⟩,h⟩:=h;generalize qz loc 0=s0 at *;generalize qz loc 1=s1 at *;generalize wg loc=tx at *;generalize EW loc=ts at *;subst e;subst hH;have hI:dU (b3 (we n) yt []).c (wi tx s0 s1 ts tx) (BH (mx tx)) 40 (ju fD)=some ([],.lst (ts.map .int)):=by kernel_rfl
 refine ⟨ts.map .int,λz=>True,λrest l H'=>∃S more,l=wi tx s0 s1 ts S.left∧H'=BH S∧rest=more.map .int∧yv s0 s1 tx S∧S.out.length+more.length≤900∧(∀t∈more,t=0∨t=1)∧ef s0 s1 tx ts=more.foldl (aS s0 s1 tx) S,tH C.c hh hI trivial,⟨mx tx,ts,rfl,rfl,rfl,.start,by show 0+ts.length≤900;lia,ht,rfl⟩,λl H' hl=>?_,λy rest l H' hl=>?_⟩
 ·obtain ⟨S,more,rfl,rfl,e2,_,_,_,e3⟩:=hl;induction more using List.casesOn with
  | cons _ _=>cases e2
  | nil=>rw[e3] at h;exact ⟨trivial,h⟩
 ·refine TM hl λS more ae bX e2 hS hlen Pl e3=>?_;subst ae;subst bX;induction more using List.casesOn with
  | nil=>cases e2
  | cons t more=>
  cases e2
  rw[List.length_cons] at hlen
  have nx:=λt=>hS.step w0 w1 hz t
  have fz:fits (S.out.length+1)=true:=fits_of (by lia)
  have sub:∀{kvs:KV} {r:Rd},jI kvs tx S.out.length r→aF kvs tx→aF kvs (r.ab++S.left)∧(r.ab++S.left).length≤n:=λhr hw=>⟨λx m=>hw x ((List.mem_append.mp m).elim (hr.ab x) (hS.left.sub x)),by rw[List.length_append];have:=hr.one;have:=hS.left.len;lia⟩
  refine ⟨trivial,?_⟩
  have Th:ef s0 s1 tx ts=more.foldl (aS s0 s1 tx) (aS s0 s1 tx S t):=e3
  have mt:=λt' m=>Pl t' (List.mem_cons_of_mem _ m)
  rcases Pl t List.mem_cons_self with rfl | rfl
  ·show (av (b3 (we n) yt []) 40 (eD fD) (aD (iF tx s0.pv s1.pv (.lst (ts.map .int)) (s0.bk tx) (s1.bk tx) S.left) [("which",.int 0)]) (yu S.r0.pv S.r1.pv S.out)).Sat _;rw[K9 n s0 _ _ _ _ tx S.left S.out S.r0 g0];refine aj (sub hS.r0 w0) λa b=>?_;exact ⟨⟨by decide +kernel,rfl,by decide +kernel,rfl,by decide +kernel,by decide +kernel,rfl,rfl,hS.r0.ok (by lia),a,b,trivial⟩,trivial,trivial,⟨rfl,trivial⟩,trivial,trivial,⟨fz,trivial⟩,_,Sub.app,aS s0 s1 tx S 0,more,rfl,rfl,rfl,(nx 0).1,by rw[(nx 0).2];lia,mt,Th⟩
  ·show (av (b3 (we n) yt []) 40 (eD fD) (aD (iF tx s0.pv s1.pv (.lst (ts.map .int)) (s0.bk tx) (s1.bk tx) S.left) [("which",.int 1)]) (yu S.r0.pv S.r1.pv S.out)).Sat _;rw[Lb n s1 _ _ _ _ tx S.left S.out S.r1 g1];refine aj (sub hS.r1 w1) λa b=>?_;exact ⟨⟨by decide +kernel,rfl,by decide +kernel,rfl,by decide +kernel,by decide +kernel,rfl,rfl,hS.r1.ok (by lia),a,b,trivial⟩,trivial,trivial,⟨rfl,trivial⟩,trivial,trivial,⟨fz,trivial⟩,_,Sub.app,aS s0 s1 tx S 1,more,rfl,rfl,rfl,(nx 1).1,by rw[(nx 1).2];lia,mt,Th⟩
theorem zQ (s:Sg):N3 s.pv=s:=by obtain ⟨po,wh,rn,cs⟩:=s;show (⟨po,wh,rn,strsOf (cs.map PV.str)⟩:Sg)=_;rw[bV]
theorem HN (s:Sg) (c:List Nat):L.ET s.pv c=s.ro c:=by show L.jR s.po (L.f7 s.rn) c (strsOf (s.cs.map PV.str))=_;rw[bV];rfl
theorem zR (s:Sg) (tx:List Nat):L.lg s.pv tx=s.kv tx:=by unfold L.lg Sg.kv;rw[show (λy=>(strOf y,L.ET s.pv (strOf y)))=λy=>(strOf y,s.ro (strOf y)) from funext λy=>by rw[HN]]
noncomputable def p8 (tx:List Nat) (s:Sg):Loc:=[("text",.str tx),("one",s.pv)]
theorem EX (tx c:List Nat) (s:Sg) (acc:KV) (H:Hp):iE.turn (aC (aN rZ iE.scope [])) (p8 tx s) (.str c) acc H = (.need [] (.br true (.need [] (.need (N0 [.str c,s.pv]).1 (.need [fits (acc.length+1)=true] (.leaf ([("one",s.pv),("sign",.str c)],H,jG c (L.ET s.pv c) acc))))) (.leaf ([("one",s.pv),("sign",.str c)],H,acc)))):=by kernel_rfl
theorem HO {tx:List Nat} {s:Sg} (hr:dr s.rn) (hz:tx.length≤1000):iE.side (aC (aN rZ iE.scope [])) L.K8 (p8 tx s) H (nO tx):=λy hy acc ha=>by refine aG (List.mem_map.mp hy) λc z eq2=>?_;subst eq2;rw[EX];rw[pT] at ha;refine ⟨trivial,λz=>⟨trivial,⟨?_,hr,by show 1≤1000;lia,trivial⟩,⟨fits_of (by lia),trivial⟩,rfl,rfl⟩,λh=>nomatch h⟩;show [PV.str [c],s.pv]=[.str [c],tP s.po s.wh s.rn (strsOf (s.cs.map PV.str))];rw[bV];rfl
noncomputable def p9 (tx:List Nat) (s0 s1:Sg) (ts:List Int):Loc:=[("text",.str tx),("both",.lst [s0.pv,s1.pv]),("turns",.lst (ts.map .int))]
theorem EY (tx:List Nat) (s s0 s1:Sg) (ts:List Int) (acc:List PV) (H:Hp):gj.turn (aC wc) (p9 tx s0 s1 ts) s.pv acc H = (.need [] (.br true (.need [bD 0 4=true,bD 1 4=true,iE.e=iE.e,iE.side (aC (aN rZ iE.scope [])) L.K8 (p8 tx s) H (nO tx)] (.need [fits (acc.length+1)=true] (.leaf (p8 tx s,H,acc++[eF s.po s.wh (L.lg s.pv tx)])))) (.leaf (p8 tx s,H,acc)))):=by kernel_rfl
theorem HP {tx:List Nat} {ts:List Int} (h0:dr s0.rn) (h1:dr s1.rn) (hz:tx.length≤1000):gj.side (aC wc) dQ L.zM (p9 tx s0 s1 ts) H [s0.pv,s1.pv]:=λy hy acc ha=>by
 have hs:∃s:Sg,y=s.pv∧dr s.rn:=by
  rcases List.mem_cons.mp hy with rfl | hy
  ·exact ⟨s0,rfl,h0⟩
  ·rw[List.mem_singleton.mp hy];exact ⟨s1,rfl,h1⟩
 refine aG hs λs eq1 hr=>?_;subst eq1;rw[EY];have ha:acc.length<2:=ha;exact ⟨trivial,λz=>⟨⟨by decide +kernel,by decide +kernel,rfl,HO hr hz,trivial⟩,⟨fits_of (by lia),trivial⟩,rfl,rfl⟩,λh=>nomatch h⟩
noncomputable def EZ (n:Nat):aA:=b3 (we n) yt [((fD.pos.line,fD.pos.col),⟨fD,Rr n⟩)]
theorem N4 (n:Nat) (tx:List Nat) (s0 s1:Sg) (ts:List Int):av (EZ n) 40 (bodyOf wb) (p9 tx s0 s1 ts) [] =
 let l:=iF tx s0.pv s1.pv (.lst (ts.map .int)) (eF s0.po s0.wh (L.lg s0.pv tx)) (eF s1.po s1.wh (L.lg s1.pv tx)) tx
 .need [gj.side (aC wc) dQ L.zM (p9 tx s0 s1 ts) [] [s0.pv,s1.pv]] (.need [gj.e=gj.e] (.need [] (.need [] (.need [] (.need [fD=fD] (.need (tQ n l (BH (mx tx))) (.need [] (.leaf ⟨.ret (.ref 1),wi (wg l) (qz l 0) (qz l 1) (EW l) (ef (qz l 0) (qz l 1) (wg l) (EW l)).left,BH (ef (qz l 0) (qz l 1) (wg l) (EW l))⟩)))))))):=by kernel_rfl
theorem oE {q:Rd} (ha:ar iS=true) (hv:bz vw=true) (hr:∃l:List (List Nat),q.row=l.map .str):noRef (L.viewOf iS vw q)=true:=by refine bZ hr λl hl=>?_;show ar (iS++[vw,.str q.kept,.int q.line,.lst q.row])=true;rw[ed,ha];show (true&&(noRef vw&&(true&&(true&&(ar q.row&&true)))))=true;rw[(b7 hv).1,hl,bM];rfl
theorem zS {s:Sg} {tx:List Nat} {k:Nat} {r:Rd} (hR:jI (s.kv tx) tx k r) (hr:aF (s.kv tx) tx) (hl:cZ lf tx) (hz:tx.length≤900):noRef (s.turn tx r lf).1=true:=by
 have ro:aF (s.kv tx) (r.ab++lf):=λx m=>hr x ((List.mem_append.mp m).elim (hR.ab x) (hl.sub x));have e:=gh (po:=s.po) (wh:=s.wh) (pl:=.int 0) (.inl rfl) ro;have jo:∃l:List (List Nat),r.row=l.map .str:=let ⟨l,e,_⟩:=hR.row;⟨l,e⟩
 have t0:bz (L.gi s.po)=true:=cR rfl rfl;have tw:∀e:Ent,bz (L.i9 s.po e)=true:=λe=>cR rfl rfl;have Ti:∀{pl:PV} {kp:List Nat} {e:Ent} {ln:Int},∃l:List (List Nat),(cQ pl kp s.runs e r.row ln).row=l.map .str:=λ{pl kp e ln}=>by unfold cQ;induction s.runs with|true=>exact jo|false=>exact mw jo
 unfold Sg.turn L.turn;dsimp only;induction iD r.place with
 | true=>induction L.isKey (s.kv tx) (L.rest s.po s.wh (s.kv tx) (.int 0) (r.ab++lf)).place with|true=>exact oE k9.1 e.place.simple Ti|false=>exact oE (ja (tw _)).1 (j8 e.place.simple) Ti
 | false=>induction L.isKey (s.kv tx) r.place with|true=>exact oE k9.1 hR.place.simple jo|false=>exact oE (ja t0).1 hR.place.simple jo
theorem E0 {tx:List Nat} (h0:aF (s0.kv tx) tx) (h1:aF (s1.kv tx) tx) (hz:tx.length≤900):∀(ts:List Int) (S:r5),yv s0 s1 tx S→ar S.out=true→ar (ts.foldl (aS s0 s1 tx) S).out=true|[],S,_,h=>h|t::ts,S,hS,h=>by refine E0 h0 h1 hz ts _ (hS.step h0 h1 hz t).1 ?_;unfold aS;induction t==0 with|true=>show ar (S.out++[_])=true;rw[ed,h];show (true&&(noRef _&&true))=true;rw[zS hS.r0 h0 hS.left hz];rfl|false=>show ar (S.out++[_])=true;rw[ed,h];show (true&&(noRef _&&true))=true;rw[zS hS.r1 h1 hS.left hz];rfl
theorem HQ {tx:List Nat} {ts:List Int} (g0:dr s0.rn) (g1:dr s1.rn) (h0:aF (s0.kv tx) tx) (h1:aF (s1.kv tx) tx) (ht:∀t∈ts,t=0∨t=1) (hn:tx.length<n) (hz:tx.length≤900) (hk:ts.length≤900) : (av (EZ n) 40 (bodyOf wb) (p9 tx s0 s1 ts) []).Sat (λo=>∃v,mU o=some v∧kR o.H v=.lst (ef s0 s1 tx ts).out∧noRef (PV.lst (ef s0 s1 tx ts).out)=true):=by rw[N4];dsimp only;have b0:qz (iF tx s0.pv s1.pv (.lst (ts.map .int)) (eF s0.po s0.wh (L.lg s0.pv tx)) (eF s1.po s1.wh (L.lg s1.pv tx)) tx) 0=s0:=zQ s0;have b1:qz (iF tx s0.pv s1.pv (.lst (ts.map .int)) (eF s0.po s0.wh (L.lg s0.pv tx)) (eF s1.po s1.wh (L.lg s1.pv tx)) tx) 1=s1:=zQ s1;have i1:EW (iF tx s0.pv s1.pv (.lst (ts.map .int)) (eF s0.po s0.wh (L.lg s0.pv tx)) (eF s1.po s1.wh (L.lg s1.pv tx)) tx)=ts:=hJ ts;have t1:wg (iF tx s0.pv s1.pv (.lst (ts.map .int)) (eF s0.po s0.wh (L.lg s0.pv tx)) (eF s1.po s1.wh (L.lg s1.pv tx)) tx)=tx:=rfl;have no:=E0 h0 h1 hz ts (mx tx) .start rfl;unfold tQ;rw[b0,b1,i1,t1];exact ⟨⟨HP g0 g1 (by lia),trivial⟩,⟨rfl,trivial⟩,trivial,trivial,trivial,⟨rfl,trivial⟩,⟨by rw[zR,zR];rfl,rfl,g0,g1,h0,h1,ht,hn,hz,hk,trivial⟩,trivial,.ref 1,rfl,rfl,no⟩
theorem BI (N:cf g) (F1:cG g 764 q6 ["words","entry","quoted"]) (F2:cG g 769 c4 ["book","place","signs"]) (F3:cG g 776 eX ["book","runs","reader","left"]) (F4:cG g 757 eP ["sign","settings"]) (F:cG g 781 wb ["text","both","turns"]) (R:aQ A (n+6)) (Pw:n≤500) {tx:List Nat} {ts:List Int} (g0:dr s0.rn) (g1:dr s1.rn) (h0:aF (s0.kv tx) tx) (h1:aF (s1.kv tx) tx) (ht:∀t∈ts,t=0∨t=1) (hn:tx.length<n) (hk:ts.length≤900) (H:Hp) : a7 g A H 781 [.str tx,.lst [s0.pv,s1.pv],.lst (ts.map .int)] (.lst (ef s0 s1 tx ts).out):=by
 have sn:∀s:Sg,dr s.rn→noRef s.pv=true:=λs h=>by show (true&&(true&&(noRef s.rn&&(ar (s.cs.map PV.str)&&true))))=true;rw[h.no,bM];rfl
 refine cX (Γ:=EZ n) (n:=40) F rfl (by show (true&&((noRef s0.pv&&(noRef s1.pv&&true))&&(ar (ts.map PV.int)&&true)))=true;rw[sn _ g0,sn _ g1,fZ];rfl) R.one (λo fd Fa K3 h La=>?_) (HQ g0 g1 h0 h1 ht hn (by lia) hk);have f1:eV g (A.deeper (callEnvC fd La 781)).in1 Jk:=c9 λe m args H hg=>by rw[List.mem_singleton.mp m] at hg ⊢;exact EV N F4 ((R.down _).lt (Nat.le_refl _)) args H hg
 have f2:eV g (A.deeper (callEnvC fd La 781)).in1 (Jl n):=c9 λe m args H hg=>by
  rcases List.mem_cons.mp m with rfl | m
  ·exact EV N F4 ((R.down _).lt (Nat.le_refl _)) args H hg
  ·rw[List.mem_singleton.mp m] at hg ⊢;exact EU (bU F3) (λpo wh kvs runs r lf H a b c=>yq N F1 F2 F3 ((R.down _).lt (by lia)) Pw a b c H) args H hg
 have C0:af (c5 g ⟨h,[]⟩ fd La 781) (A.deeper (callEnvC fd La 781)) zN:=aU N K3 (by kernel_rfl) Fa.glob Fa.blt R.hd (R.u9 _) bo f1 ak;have inner:∀L,di (oy (c5 g ⟨h,[]⟩ fd La 781) gj.scope L) (A.deeper (callEnvC fd La 781)) Tg.2:=λL=>by
  have C1:af (oy (c5 g ⟨h,[]⟩ fd La 781) gj.scope L) (A.deeper (callEnvC fd La 781)) rZ:=fy C0 (by kernel_rfl) λp t h=>nomatch h
  exact Kt C1 R.hd (by kernel_rfl) (λv=>rfl) λL'=>bu (fy C1 (by kernel_rfl) λp t h=>nomatch h) λp t h=>nomatch h
 have outer:=DI (c:=gj) (q:=dQ) (F:=L.zM) C0 R.hd (by kernel_rfl) (λv=>rfl) (Γ':=aC wc) λL=>Bh (fy C0 (by kernel_rfl) (bj λe m=>by rw[List.mem_singleton.mp m];exact inner L)) (bj λe m=>by rw[List.mem_singleton.mp m];rfl);have ce:∀p t,cb p [Rp]=some t→di (c5 g ⟨h,[]⟩ fd La 781) (A.deeper (callEnvC fd La 781)) t:=bj λe m=>by rw[List.mem_singleton.mp m];exact outer.1
 have cu:∀p t,cb p [Rp]=some t→iq (c5 g ⟨h,[]⟩ fd La 781) (A.deeper (callEnvC fd La 781)) t:=bj λe m=>by rw[List.mem_singleton.mp m];exact outer.2
 have C2:af (c5 g ⟨h,[]⟩ fd La 781) (A.deeper (callEnvC fd La 781)) (we n):=aU N K3 (by kernel_rfl) Fa.glob Fa.blt R.hd (R.u9 _) bo f2 ce;exact cj C2 cu (cH λe m=>by rw[List.mem_singleton.mp m];exact Lc (cj C2 cu λp t h=>nomatch h) R.hd)
noncomputable def Gq:List (Nat×Bool)→Nat→Option Bool|[],_=>Option.none|e::r,l=>bif Nat.beq e.1 l then some e.2 else Gq r l
noncomputable def cw (i:List Nat) (b:List Stmt):Nat:=(dy (eK i b)).pos.line
noncomputable def qa:=fnIn "_index" pb
noncomputable def yw:aA:={aC (c8 qa noAttr cg []) with fold:=Gq [(cw [0] (bodyOf qa),false),(cw [2] (bodyOf qa),false)]}
theorem N5 (n:Int) (wt:List Nat):av yw 40 (bodyOf qa) [("n",.int n),("what",.str wt)] [] = .need [] (.need [(!true&&(!false&&true))=false] (.need [] (.need [] (.need [(decide ((1099511627776:Int)<n)||(decide (n<(-1099511627776:Int))||false))=false] (.need [] (.leaf ⟨.ret (.int n),[("n",.int n),("what",.str wt)],[]⟩)))))):=by kernel_rfl
theorem BJ (N:cf g) (F:cG g 53 qa ["n","what"]) {k:Nat} (R:aQ A (k+1)) {n:Int} {wt:List Nat} (h1:-1000000≤n) (h2:n≤1000000) (H:Hp):a7 g A H 53 [.int n,.str wt] (.int n):=by
 refine cX (Γ:=yw) (n:=40) F rfl rfl R.one (λo fd Fa hs h L=>?_) ?_
 ·have C0:af (c5 g ⟨h,[]⟩ fd L 53) (A.deeper (callEnvC fd L 53)) (c8 qa noAttr cg []):=aU N hs (by kernel_rfl) Fa.glob Fa.blt R.hd (R.u9 _) bo aX ak;have S1:=bu (X:=ba) C0 (λp t h=>nomatch h);exact ⟨S1.c,S1.set,S1.km,S1.ve,S1.loops,S1.uses,S1.raises⟩
 show (av yw 40 (bodyOf qa) [("n",.int n),("what",.str wt)] []).Sat _;rw[N5];refine ⟨trivial,⟨rfl,trivial⟩,trivial,trivial,⟨?_,trivial⟩,trivial,_,rfl,rfl,rfl⟩;rw[decide_eq_false (by lia),decide_eq_false (by lia)];rfl
noncomputable def BK:List Stmt:=tE "StringIO" pb
noncomputable def j9:=fnIn "read" BK
noncomputable def Ld (buf:List Nat) (pos:Int):List (Str×PV):=[("_StringIO__newline",.str [10]),("_StringIO__buf",.str buf),("_StringIO__pos",.int pos)]
noncomputable def iP (C:Nat) (x:Str) (l_:List (Nat×Str×AK)):Option AK:=by induction l_ with|nil=>exact Option.none|cons e r ih=>exact bif Nat.beq e.1 C&&seq e.2.1 x then some e.2.2 else ih
noncomputable def iG (buf:List Nat) (pos:Int):AO:=.inst 587 (Ld buf pos)
noncomputable def hV (buf:List Nat) (pos:Int):Hp:=fP 0 [iG buf pos]
noncomputable def my:List (Nat×Str×AK):=[(587,"_StringIO__newline",.field),(587,"_StringIO__buf",.field),(587,"_StringIO__pos",.field),(587,"_StringIO__check",.lM 371),(587,"_StringIO__line",.lM 385),(587,"_StringIO__translated",.lM 364)]
def eG (g:G) (t:List (Nat×Str×AK)):Prop:=∀e∈t,gv g e.1 e.2.1 e.2.2
theorem qb {C:Nat} {x:Str} {k:AK}:∀{t:List (Nat×Str×AK)},iP C x t=some k→∃e∈t,e.1=C∧e.2.1=x∧e.2.2=k
 | e::r,h=>by
  have h:(bif Nat.beq e.1 C&&seq e.2.1 x then some e.2.2 else iP C x r)=some k:=h;induction q:Nat.beq e.1 C&&seq e.2.1 x with
  | true=>rw[q] at h;obtain rfl:=Option.some.inj h;refine aj (Bool.and_eq_true_iff.mp q) λq1 q2=>?_;exact ⟨e,List.mem_cons_self,Nat.eq_of_beq_eq_true q1,aK.mp q2,rfl⟩
  | false=>rw[q] at h;refine aG (qb (t:=r) h) λe' m z=>?_;exact ⟨e',List.mem_cons_of_mem _ m,z⟩
theorem bH {t:List (Nat×Str×AK)} (h:eG g t):∀C a k,(λC x=>iP C x t) C a=some k→gv g C a k:=λC a k e=>by refine Mo (qb e) λe' m eq2 eq3 eq4=>?_;subst eq2;subst eq3;subst eq4;exact h e' m
noncomputable def q8:=fnIn "__check" BK
noncomputable def nQ (d:Option dm) (fns:Addr→List PV→Hp→R1):Ctx:=c8 d (λC x=>iP C x my) fns []
noncomputable def yx:aA:={aC (nQ q8 cg) with fold:=Gq [(cw [0] (bodyOf q8),false)]}
theorem N6 (buf:List Nat) (pos:Int):av yx 40 (bodyOf q8) [("self",.ref 0)] (hV buf pos)=.need [bC (.str buf)=true] (.need [false=false] (.leaf ⟨.next,[("self",.ref 0)],hV buf pos⟩)):=by kernel_rfl
theorem mz {f:Addr} {d:Option dm} {r:PV} {Γ:aA} (F:cG g f d ns) (hl:ns.length=args.length) (fu:A.depth<recursionLimit) (C:∀o fd,FnAt g f o fd (bodyOf d)→fd.scope=aV d→∀B L,cE (c5 g B fd L f) (A.deeper (callEnvC fd L f)) ba Γ) (h:(av Γ n (bodyOf d) (fv ns args) H).Sat (λo=>mU o=some r∧o.H=H)):a7 g A H f args r:=by refine Ce F.ex λo fd Fa hs Po hb=>?_;exact G6 Fa Po fu (hb _ hl) (C o fd Fa hs) h
theorem BL (N:cf g) (T:eG g my) (F:cG g 371 q8 ["self"]) {k:Nat} (R:aQ A (k+1)) {pos:Int}:a7 g A (hV buf pos) 371 [.ref 0] .none:=by
 refine mz (Γ:=yx) (n:=40) F rfl R.one (λo fd Fa hs B L=>?_) ?_
 ·have C0:af (c5 g B fd L 371) (A.deeper (callEnvC fd L 371)) (nQ q8 cg):=aU N hs (by kernel_rfl) Fa.glob Fa.blt R.hd (R.u9 _) (bH T) aX ak;have S1:=bu (X:=ba) C0 (λp t h=>nomatch h);exact ⟨S1.c,S1.set,S1.km,S1.ve,S1.loops,S1.uses,S1.raises⟩
 show (av yx 40 (bodyOf q8) [("self",.ref 0)] (hV buf pos)).Sat _;rw[N6];exact ⟨⟨rfl,trivial⟩,⟨rfl,trivial⟩,rfl,rfl⟩
def Sets (g:G) (t:List (Nat×Str×AK)):Prop:=∀e∈t,y7 g e.1 e.2.1
noncomputable def nu (t:List (Nat×Str×AK)) (C:Addr) (a:Str):Bool:=(iP C a t).isSome
theorem hY {t:List (Nat×Str×AK)} (h:Sets g t):∀C a,nu t C a=true→y7 g C a:=λC a e=>by refine bZ (Option.isSome_iff_exists.mp e) λk e=>?_;refine Mo (qb e) λe' m eq2 eq3 z=>?_;subst eq2;subst eq3;exact h e' m
noncomputable def qc:List (Nat×Str×AK):=[(587,"_StringIO__newline",.field),(587,"_StringIO__buf",.field),(587,"_StringIO__pos",.field)]
noncomputable def E1 (args:List PV):List Prop×PV:=let n:=((args[0]?).bind PV.int?).getD 0;([args=[.int n,.str (bN args[1]?)],-1000000≤n,n≤1000000],.int n)
noncomputable def E3 (args:List PV) (H:Hp):List Prop×PV:=([args=[.ref 0],∃buf pos,H=hV buf pos],.none)
noncomputable def r6:Addr→List PV→Hp→R1:=iv [(53,λa z=>E1 a),(371,E3)]
noncomputable def E4:aA:={aC (nQ j9 r6) with set:=nu qc,fold:=Gq [(cw [0] (bodyOf j9),false)]}
noncomputable def Lf:List Nat:=cs "StringIO.read of a size that is no exact int"
noncomputable def wj (buf:List Nat) (pos stop:Int):List Nat:=cq (cq buf (some pos) (some stop)++[32]) none (some (-1))
noncomputable def E5 (pos stop:Int):Loc:=[("self",.ref 0),("size",.int 1),("start",.int pos),("stop",.int stop)]
theorem Rt (buf:List Nat) (pos:Int):av E4 40 (bodyOf j9) [("self",.ref 0),("size",.int 1)] (hV buf pos) = .need [] (.need [false=false] (.need (E1 [.int 1,.str Lf]).1 (.need (E3 [.ref 0] (hV buf pos)).1 (.need [bC (.int pos)=true] (.need [bC (.str buf)=true] (.need [] (.br (decide (((buf.length:Nat):Int)≤pos)) (.need [] (.leaf ⟨.ret (.str []),E5 pos (buf.length:Nat),hV buf pos⟩)) (.need [] (.br (decide ((0:Int)≤1)&&(decide (pos+1<((buf.length:Nat):Int))&&true)) (.need [] (.need [] (.need [] (.need [bC (.str buf)=true,fits ((cq buf (some pos) (some (pos+1))).length+1)=true] (.leaf ⟨.ret (.str (wj buf pos (pos+1))),E5 pos (pos+1),hV buf (pos+1)⟩))))) (.need [] (.need [] (.need [bC (.str buf)=true,fits ((cq buf (some pos) (some ((buf.length:Nat):Int))).length+1)=true] (.leaf ⟨.ret (.str (wj buf pos (buf.length:Nat))),E5 pos (buf.length:Nat),hV buf (buf.length:Nat)⟩))))))))))))):=by kernel_rfl
theorem wm (l:List Nat) {a b:Int} {k:Nat} (h1:a=m) (h2:b=k) (hm:m≤l.length) (hk:k≤l.length):cq l (some a) (some b)=(l.drop m).take (k - m):=by subst h1;subst h2;unfold cq;show List.take (clipAt l.length (k:Int) - clipAt l.length (m:Int)) (List.drop (clipAt l.length (m:Int)) l)=_;rw[gB hm,gB hk]
theorem BM (n:Nat):clipAt (n+1) (-1)=n:=by
 unfold clipAt;show (max 0 (min (-1+((n+1:Nat):Int)) ((n+1:Nat):Int))).toNat=n;have e:-1+((n+1:Nat):Int)=(n:Int):=by rw[Int.natCast_succ,Int.add_comm,Int.add_assoc];exact Int.add_zero _
 rw[e,Int.min_eq_left (Int.ofNat_le.mpr (Nat.le_succ n)),Int.max_eq_right (Int.natCast_nonneg _),Int.toNat_natCast]
theorem r7 (l:List Nat) (x:Nat):cq (l++[x]) none (some (-1))=l:=by
 unfold cq;show List.take (clipAt (l++[x]).length (-1) - 0) (List.drop 0 (l++[x]))=l;have e:clipAt (l++[x]).length (-1)=l.length:=by rw[List.length_append,List.length_singleton];exact BM _
 rw[e,List.drop_zero,Nat.sub_zero,List.take_left'];rfl
noncomputable def dj (buf:List Nat) (n:Nat):List Nat:=(buf.drop n).take 1
noncomputable def eH (buf:List Nat) (n:Nat):Nat:=n+(dj buf n).length
theorem tR (h:buf.length≤n):dj buf n=[]∧eH buf n=n:=by
 have e:dj buf n=[]:=by unfold dj;rw[List.drop_eq_nil_of_le h];rfl
 exact ⟨e,by unfold eH;rw[e];rfl⟩
theorem Lg (h:n<buf.length):(dj buf n).length=1:=by unfold dj;rw[List.length_take,List.length_drop];lia
theorem dG {f:Addr} {d:Option dm} {r:RE} {Γ:aA} (F:cG g f d ns) (hl:ns.length=args.length) (fu:A.depth<recursionLimit) (C:∀o fd,FnAt g f o fd (bodyOf d)→fd.scope=aV d→∀L,cE (c5 g B fd L f) (A.deeper (callEnvC fd L f)) ba Γ) (h:∀Φ:RE→Prop,Φ r→(av Γ n (bodyOf d) (fv ns args) H).Sat (λo=>Φ (Ki o))):Runs g A B X' f args H (.leaf r):=λp s vs Y rv R hR=>by refine Ce F.ex λo fd Fa hs Po hb=>?_;exact s9 Fa Po fu (hb _ hl) (C o fd Fa hs) .never p s vs Y rv R (aP.mpr ((h _ hR).mono λo ho=>ho))
theorem zT (N:cf g) (F:cG g 53 qa ["n","what"]) {k:Nat} (R:aQ A (k+1)) (args:List PV) (H:Hp) (hg:AllP (E1 args).1):(∃o fd,g.K.lookup 53=some o∧o.data=.func fd)∧a7 g A H 53 args (E1 args).2:=by refine lG hg λh1 h2 h3 z=>?_;refine ⟨bU F,?_⟩;have:=BJ N F R (wt:=bN args[1]?) h2 h3 H;rw[←h1] at this;exact this
theorem zU (N:cf g) (T:eG g my) (F:cG g 371 q8 ["self"]) {k:Nat} (R:aQ A (k+1)) (args:List PV) (H:Hp) (hg:AllP (E3 args H).1):(∃o fd,g.K.lookup 371=some o∧o.data=.func fd)∧a7 g A H 371 args (E3 args H).2:=by refine fK hg λae bX z=>?_;subst ae;refine rh bX λbuf pos D8=>?_;subst D8;exact ⟨bU F,BL N T F R⟩
theorem HR (N:cf g) (T:eG g my) (S:Sets g qc) (F1:cG g 53 qa ["n","what"]) (F2:cG g 371 q8 ["self"]) (F:cG g 533 j9 ["self","size"]) {k:Nat} (R:aQ A (k+2)) (hz:buf.length≤1000) : Runs g A B X' 533 [.ref 0,.int 1] (hV buf n) (.leaf (.ok (.str (dj buf n)) (hV buf (eH buf n)))):=by
 refine dG (Γ:=E4) (n:=40) F rfl R.one (λo fd Fa hs L=>?_) λΦ gA=>?_
 ·have fo:eV g (A.deeper (callEnvC fd L 533)).in1 r6:=c9 λe m args H hg=>by
   rcases List.mem_cons.mp m with rfl | m
   ·exact zT N F1 (R.down _) args H hg
   ·rw[List.mem_singleton.mp m] at hg ⊢;exact zU N T F2 (R.down _) args H hg
  have C0:af (c5 g B fd L 533) (A.deeper (callEnvC fd L 533)) (nQ j9 r6):=aU N hs (by kernel_rfl) Fa.glob Fa.blt R.hd (R.u9 _) (bH T) fo ak
  have S1:=bu (X:=ba) C0 (λp t h=>nomatch h)
  exact ⟨S1.c,hY S,S1.km,S1.ve,S1.loops,S1.uses,S1.raises⟩
 show (av E4 40 (bodyOf j9) [("self",.ref 0),("size",.int 1)] (hV buf n)).Sat _;rw[Rt];refine ⟨trivial,⟨rfl,trivial⟩,⟨rfl,by decide,by decide,trivial⟩,⟨rfl,⟨buf,n,rfl⟩,trivial⟩,⟨rfl,trivial⟩,⟨rfl,trivial⟩,trivial,λh1=>⟨trivial,?_⟩,λh1=>⟨trivial,λh2=>?_,λh2=>?_⟩⟩
 ·have h1:=of_decide_eq_true h1;refine aj (tR (buf:=buf) (n:=n) (by omega)) λe1 e2=>?_;rw[e1,e2] at gA;exact gA
 all_goals have h1:¬ ((buf.length:Nat):Int)≤(n:Int):=of_decide_eq_false h1
 all_goals have hn:n<buf.length:=by omega
 all_goals have e:=Lg hn
 ·have c:cq buf (some (n:Int)) (some ((n:Int)+1))=dj buf n:=by
   rw[wm buf rfl (show ((n:Int)+1)=((n+1:Nat):Int) by omega) (by omega) hn,Nat.add_sub_cancel_left];rfl
  rw[c]
  refine ⟨trivial,trivial,trivial,⟨rfl,fits_of (by omega),trivial⟩,?_⟩
  show Φ (.ok (.str (cq (cq buf (some (n:Int)) (some ((n:Int)+1))++[32]) none (some (-1)))) (hV buf ((n:Int)+1)))
  rw[c,r7,show ((n:Int)+1)=((eH buf n:Nat):Int) by unfold eH;rw[e];omega]
  exact gA
 ·have hl:¬ ((n:Int)+1<((buf.length:Nat):Int)):=λq=>by rw[decide_eq_true q] at h2;exact tF h2
  have c:cq buf (some (n:Int)) (some ((buf.length:Nat):Int))=dj buf n:=by rw[wm buf rfl rfl (by omega) (Nat.le_refl _),show buf.length - n=1 by omega];rfl
  rw[c]
  refine ⟨trivial,trivial,⟨rfl,fits_of (by omega),trivial⟩,?_⟩
  show Φ (.ok (.str (cq (cq buf (some (n:Int)) (some ((buf.length:Nat):Int))++[32]) none (some (-1)))) (hV buf ((buf.length:Nat):Int)))
  rw[c,r7,show ((buf.length:Nat):Int)=((eH buf n:Nat):Int) by unfold eH;rw[e];omega]
  exact gA
noncomputable def iH:=fnIn "__line" BK
noncomputable def BN:=fnIn "readline" BK
noncomputable def N7:Expr:=.Attribute (.Name "self" ⟨259,16,259,20⟩) "_StringIO__buf" ⟨259,16,259,26⟩
noncomputable def Px:(Nat×Nat×Nat)×fM:=((259,16,49),⟨Tb N7 "end" "start" "stop" ⟨259,32,259,35⟩ ⟨259,37,259,42⟩ ⟨259,44,259,48⟩ ⟨259,16,259,31⟩ ⟨259,16,259,49⟩,Q9 (nQ iH cg) 10 N7 "end" "start" "stop"⟩)
noncomputable def N8:Ctx:=c8 iH (λC x=>iP C x my) cg [Px]
noncomputable def E6:aA:={aC N8 with set:=nu qc,fold:=Gq [(cw [4] (bodyOf iH),false),(cw [6] (bodyOf iH),false),(cw [6,4] (bodyOf iH),false)]}
noncomputable def wq (buf:List Nat) (pos:Int):Int:=kX buf [10] pos (buf.length:Nat)
noncomputable def Jm (pos stop:Int):Loc:=[("self",.ref 0),("limit",.int (-1)),("start",.int pos),("stop",.int stop)]
noncomputable def Lh (buf:List Nat) (pos stop:Int):Loc:=aD (Jm pos stop) [("cut",.bool false),("newline",.str [10]),("end",.str [10]),("i",.int (wq buf pos))]
noncomputable def Jn (buf:List Nat) (pos stop:Int):Tr Out:=.need [] (.need [] (.need [bC (.str buf)=true,fits ((cq buf (some pos) (some stop)).length+1)=true] (.leaf ⟨.ret (.str (wj buf pos stop)),Lh buf pos stop,hV buf stop⟩)))
theorem Ru (buf:List Nat) (pos:Int):av E6 40 (bodyOf iH) [("self",.ref 0),("limit",.int (-1))] (hV buf pos) = .need [bC (.int pos)=true] (.need [bC (.str buf)=true] (.need [] (.br (decide (((buf.length:Nat):Int)≤pos)) (.need [] (.leaf ⟨.ret (.str []),Jm pos (buf.length:Nat),hV buf pos⟩)) (.need [] (.need [] (.need [(decide ((0:Int)≤-1)&&(decide (pos+-1<((buf.length:Nat):Int))&&true))=false] (.need [bC (.str [10])=true] (.need [] (.need [false=false] (.need [] (.need (iL (false=true) (iL (false=true) (iL (decide (pos<((buf.length:Nat):Int))=true) [bC (.str buf)=true,bD (((buf.length:Nat):Int) - 1) buf.length=true]))) (.need [(false&&(false&&(decide (pos<((buf.length:Nat):Int))&&(sEq (cA buf (((buf.length:Nat):Int) - 1)) [13]&&true))))=false] (.need [Px.2.e=Px.2.e,bC (.str buf)=true] (.need [] (.br (decide (0≤wq buf pos)) (.need [] (Jn buf pos (wq buf pos+1))) (Jn buf pos (buf.length:Nat))))))))))))))))):=by kernel_rfl
noncomputable def gO (buf:List Nat) (pos:Int):Int:=bif decide (((buf.length:Nat):Int)≤pos) then pos else bif decide (0≤wq buf pos) then wq buf pos+1 else (buf.length:Nat)
noncomputable def mA (buf:List Nat) (pos:Int):List Nat:=bif decide (((buf.length:Nat):Int)≤pos) then [] else bif decide (0≤wq buf pos) then wj buf pos (wq buf pos+1) else wj buf pos (buf.length:Nat)
theorem E7 (l:List Nat) (a b:Option Int):(cq l a b).length≤l.length:=by unfold cq;exact Nat.le_trans (List.length_take_le' _ _) (by rw[List.length_drop];exact Nat.sub_le _ _)
theorem HS (N:cf g) (T:eG g my) (S:Sets g qc) (F:cG g 385 iH ["self","limit"]) {k:Nat} (R:aQ A (k+1)) {pos:Int} (hz:buf.length≤1000) : Runs g A B X' 385 [.ref 0,.int (-1)] (hV buf pos) (.leaf (.ok (.str (mA buf pos)) (hV buf (gO buf pos)))):=by
 refine dG (Γ:=E6) (n:=40) F rfl R.one (λo fd Fa hs L=>?_) λΦ gA=>?_
 ·have C0:af (c5 g B fd L 385) (A.deeper (callEnvC fd L 385)) (nQ iH cg):=aU N hs (by kernel_rfl) Fa.glob Fa.blt R.hd (R.u9 _) (bH T) aX ak;have e1:di (c5 g B fd L 385) (A.deeper (callEnvC fd L 385)) Px.2:=KN C0 rfl;have C1:af (c5 g B fd L 385) (A.deeper (callEnvC fd L 385)) N8:=aU N hs (by kernel_rfl) Fa.glob Fa.blt R.hd (R.u9 _) (bH T) aX (bj λe m=>by rw[List.mem_singleton.mp m];exact e1);have S1:=bu (X:=ba) C1 (bj λe m=>by rw[List.mem_singleton.mp m];exact tj C0 e1 rfl);exact ⟨S1.c,hY S,S1.km,S1.ve,S1.loops,S1.uses,S1.raises⟩
 show (av E6 40 (bodyOf iH) [("self",.ref 0),("limit",.int (-1))] (hV buf pos)).Sat _;rw[Ru];have fz:∀b,fits ((cq buf (some pos) (some b)).length+1)=true:=λb=>fits_of (by have:=E7 buf (some pos) (some b);lia);unfold gO mA at gA;refine ⟨⟨rfl,trivial⟩,⟨rfl,trivial⟩,trivial,λh1=>⟨trivial,?_⟩,λh1=>⟨trivial,trivial,⟨rfl,trivial⟩,⟨rfl,trivial⟩,trivial,⟨rfl,trivial⟩,trivial,hU (λq=>nomatch q),⟨rfl,trivial⟩,⟨rfl,rfl,trivial⟩,trivial,λh2=>⟨trivial,trivial,trivial,⟨rfl,fz _,trivial⟩,?_⟩,λh2=>⟨trivial,trivial,⟨rfl,fz _,trivial⟩,?_⟩⟩⟩
 ·rw[h1] at gA;exact gA
 ·rw[h1,h2] at gA;exact gA
 ·rw[h1,h2] at gA;exact gA
noncomputable def iI:List (Nat×(List PV→Hp→Tr RE))→Addr→List PV→Hp→Tr RE|[],_,_,_=>.fail|e::r,f,args,H=>bif Nat.beq e.1 f then e.2 args H else iI r f args H
theorem eI :∀{l:List (Nat×(List PV→Hp→Tr RE))},(∀e∈l,∀args H,Runs g A B X e.1 args H (e.2 args H))→IL g A B X (iI l)|[],_=>λf args H p s vs Y rv R h=>h.elim|e::l,hl=>λf args H p s vs Y rv R h=>by have h:(bif Nat.beq e.1 f then e.2 args H else iI l f args H).Sat (dA g B X p s R):=h;induction q:Nat.beq e.1 f with|true=>rw[q] at h;have:=Nat.eq_of_beq_eq_true q;subst this;exact hl e List.mem_cons_self args H p s vs Y rv R h|false=>rw[q] at h;exact eI (λe m=>hl e (List.mem_cons_of_mem _ m)) f args H p s vs Y rv R h
theorem da :∀{l:List (Nat×(List PV→Hp→Tr RE))},(∀e∈l,eO g e.1)→∀f args H,iI l f args H≠.fail→eO g f|[],_,_,_,_,h=>(h rfl).elim|e::l,hl,f,args,H,h=>by have h:(bif Nat.beq e.1 f then e.2 args H else iI l f args H)≠.fail:=h;induction q:Nat.beq e.1 f with|true=>have:=Nat.eq_of_beq_eq_true q;subst this;exact hl e List.mem_cons_self|false=>rw[q] at h;exact da (λe m=>hl e (List.mem_cons_of_mem _ m)) f args H h
theorem fE {f:Addr} {d:Option dm} (F:cG g f d ns):eO g f:=by refine gU (bU F) λo fd h1 h2=>?_;exact .fn h1 h2
theorem Runs.need {f:Addr} {tr:Tr RE} (h:AllP gs→Runs g A B X f args H tr):Runs g A B X f args H (.need gs tr):=λp s vs Y rv R q=>h q.1 p s vs Y rv R q.2
noncomputable def fF (H:Hp) (k:Nat) (x:Str):Option PV:=(c6 H (.ref k)).bind λi=>ax x i.2.2
noncomputable def dZ (H:Hp):List Nat:=bN (fF H 0 "_StringIO__buf")
noncomputable def lh (H:Hp):Int:=((fF H 0 "_StringIO__pos").bind PV.int?).getD 0
noncomputable def Tj (args:List PV) (H:Hp):Tr RE:=.need [args=[.ref 0,.int (-1)],H=hV (dZ H) (lh H),(dZ H).length≤1000] (.leaf (.ok (.str (mA (dZ H) (lh H))) (hV (dZ H) (gO (dZ H) (lh H)))))
theorem Li (N:cf g) (T:eG g my) (S:Sets g qc) (F:cG g 385 iH ["self","limit"]) {k:Nat} (R:aQ A (k+1)) (args:List PV) (H:Hp):Runs g A B X 385 args H (Tj args H):=Runs.need λ⟨h1,h2,h3,_⟩=>by have:=HS (B:=B) (X':=X) N T S F R (pos:=lh H) h3;rw[←h2,←h1] at this;exact this
noncomputable def Jo:aA:={aC (nQ BN r6) with km:=iI [(385,Tj)],fold:=Gq [(cw [0] (bodyOf BN),false)]}
noncomputable def Lj:List Nat:=cs "StringIO.readline of a size that is no exact int"
theorem Rw (buf:List Nat) (pos:Int):av Jo 40 (bodyOf BN) [("self",.ref 0),("size",.int (-1))] (hV buf pos) = .need [] (.need [false=false] (.need (E1 [.int (-1),.str Lj]).1 (.need (E3 [.ref 0] (hV buf pos)).1 (.need [] (.need [] (.need [[PV.ref 0,.int (-1)]=[.ref 0,.int (-1)],hV buf pos=hV buf pos,buf.length≤1000] (.leaf ⟨.ret (.str (mA buf pos)),[("self",.ref 0),("size",.int (-1))],hV buf (gO buf pos)⟩))))))):=by kernel_rfl
structure Jp (g:G) (f:Addr) (d:Option dm) (ns:List Str) (args:List PV) (loc:Loc):Prop where
 ex:∃o fd,FnAt g f o fd (bodyOf d)∧fd.scope=aV d∧iu fd ns∧fW g fd ns args loc
theorem ke {f:Addr} {d:Option dm} {r:RE} {Γ:aA} (F:Jp g f d ns args loc) (fu:A.depth<recursionLimit) (C:∀o fd,FnAt g f o fd (bodyOf d)→fd.scope=aV d→∀L,cE (c5 g B fd L f) (A.deeper (callEnvC fd L f)) ba Γ) (h:∀Φ:RE→Prop,Φ r→(av Γ n (bodyOf d) loc H).Sat (λo=>Φ (Ki o))):Runs g A B X' f args H (.leaf r):=λp s vs Y rv R hR=>by refine Ce F.ex λo fd Fa hs Po hb=>?_;exact s9 Fa Po fu hb (C o fd Fa hs) .never p s vs Y rv R (aP.mpr ((h _ hR).mono λo ho=>ho))
theorem HT (N:cf g) (T:eG g my) (S:Sets g qc) (F1:cG g 53 qa ["n","what"]) (F2:cG g 371 q8 ["self"]) (F3:cG g 385 iH ["self","limit"]) (F:Jp g 541 BN ["self","size"] [.ref 0] [("self",.ref 0),("size",.int (-1))]) {k:Nat} (R:aQ A (k+3)) {pos:Int} (hz:buf.length≤1000) : Runs g A B X' 541 [.ref 0] (hV buf pos) (.leaf (.ok (.str (mA buf pos)) (hV buf (gO buf pos)))):=by
 refine ke (Γ:=Jo) (n:=40) F R.one (λo fd Fa hs L=>?_) λΦ gA=>?_
 ·have fo:eV g (A.deeper (callEnvC fd L 541)).in1 r6:=c9 λe m args H hg=>by
   rcases List.mem_cons.mp m with rfl | m
   ·exact zT N F1 (R.down _) args H hg
   ·rw[List.mem_singleton.mp m] at hg ⊢;exact zU N T F2 (R.down _) args H hg
  have C0:af (c5 g B fd L 541) (A.deeper (callEnvC fd L 541)) (nQ BN r6):=aU N hs (by kernel_rfl) Fa.glob Fa.blt R.hd (R.u9 _) (bH T) fo ak
  have S1:=bu (X:=ba) C0 (λp t h=>nomatch h)
  exact ⟨S1.c,S1.set,eI λe m args H=>by rw[List.mem_singleton.mp m];exact Li N T S F3 (R.down _) args H,da λe m=>by rw[List.mem_singleton.mp m];exact fE F3,S1.loops,S1.uses,S1.raises⟩
 rw[Rw];exact ⟨trivial,⟨rfl,trivial⟩,⟨rfl,by decide,by decide,trivial⟩,⟨rfl,⟨buf,pos,rfl⟩,trivial⟩,trivial,trivial,⟨rfl,rfl,hz,trivial⟩,gA⟩
noncomputable def tT:=fnIn "__translated" BK
noncomputable def tU:=fnIn "__init__" BK
noncomputable def E8:aA:={aC (nQ tT cg) with fold:=Gq [(cw [1] (bodyOf tT),false),(cw [2] (bodyOf tT),false)]}
noncomputable def BO (args:List PV) (H:Hp):List Prop×PV:=([args=[.ref 0,.str (bN args[1]?)],H=hV [] 0],.str (bN args[1]?))
noncomputable def Jq:aA:={aC (nQ tU (iv [(364,BO)])) with set:=nu qc,fold:=Gq [(cw [0] (bodyOf tU),false),(cw [1] (bodyOf tU),false),(cw [2] (bodyOf tU),false),(cw [6] (bodyOf tU),true)]}
theorem N9 (tx:List Nat):av E8 40 (bodyOf tT) [("self",.ref 0),("s",.str tx)] (hV [] 0) = .need [bC (.str [10])=true] (.need [] (.need [false=false] (.need [] (.need [false=false] (.need [] (.leaf ⟨.ret (.str tx),[("self",.ref 0),("s",.str tx),("newline",.str [10])],hV [] 0⟩)))))):=by kernel_rfl
theorem Oa (tx:List Nat):av Jq 40 (bodyOf tU) [("self",.ref 0),("initial_value",.str tx),("newline",.str [10])] (fP 0 [.inst 587 []]) = .need [] (.need [false=false] (.need [] (.need [false=false] (.need [] (.need [(!false&&(!true&&true))=false] (.need [] (.need [] (.need [] (.need [] (.need [] (.need [] (.need [] (.need [true=true] (.need (BO [.ref 0,.str tx] (hV [] 0)).1 (.need [] (.leaf ⟨.next,[("self",.ref 0),("initial_value",.str tx),("newline",.str [10])],hV tx 0⟩)))))))))))))))):=by kernel_rfl
theorem HU (N:cf g) (T:eG g my) (F:cG g 364 tT ["self","s"]) {k:Nat} (R:aQ A (k+1)) (args:List PV) (H:Hp) (hg:AllP (BO args H).1):(∃o fd,g.K.lookup 364=some o∧o.data=.func fd)∧a7 g A H 364 args (BO args H).2:=by
 refine fK hg λh1 eq1 z=>?_;subst eq1;refine ⟨bU F,?_⟩;have:a7 g A (hV [] 0) 364 [.ref 0,.str (bN args[1]?)] (.str (bN args[1]?)):=by
  refine mz (Γ:=E8) (n:=40) F rfl R.one (λo fd Fa hs B L=>?_) ?_
  ·have C0:af (c5 g B fd L 364) (A.deeper (callEnvC fd L 364)) (nQ tT cg):=aU N hs (by kernel_rfl) Fa.glob Fa.blt R.hd (R.u9 _) (bH T) aX ak;have S1:=bu (X:=ba) C0 (λp t h=>nomatch h);exact ⟨S1.c,S1.set,S1.km,S1.ve,S1.loops,S1.uses,S1.raises⟩
  show (av E8 40 (bodyOf tT) [("self",.ref 0),("s",.str _)] (hV [] 0)).Sat _;rw[N9];exact ⟨⟨rfl,trivial⟩,trivial,⟨rfl,trivial⟩,trivial,⟨rfl,trivial⟩,trivial,rfl,rfl⟩
 rw[←h1] at this;exact this
theorem E9 (N:cf g) (T:eG g my) (S:Sets g qc) (F1:cG g 364 tT ["self","s"]) {tx:List Nat} (F:Jp g 357 tU ["self","initial_value","newline"] [.ref 0,.str tx] [("self",.ref 0),("initial_value",.str tx),("newline",.str [10])]) {k:Nat} (R:aQ A (k+2)) : Runs g A B X' 357 [.ref 0,.str tx] (fP 0 [.inst 587 []]) (.leaf (.ok .none (hV tx 0))):=by
 refine ke (Γ:=Jq) (n:=40) F R.one (λo fd Fa hs L=>?_) λΦ gA=>?_
 ·have fo:eV g (A.deeper (callEnvC fd L 357)).in1 (iv [(364,BO)]):=c9 λe m args H hg=>by
   rw[List.mem_singleton.mp m] at hg ⊢
   exact HU N T F1 (R.down _) args H hg
  have C0:af (c5 g B fd L 357) (A.deeper (callEnvC fd L 357)) (nQ tU (iv [(364,BO)])):=aU N hs (by kernel_rfl) Fa.glob Fa.blt R.hd (R.u9 _) (bH T) fo ak
  have S1:=bu (X:=ba) C0 (λp t h=>nomatch h)
  exact ⟨S1.c,hY S,S1.km,S1.ve,S1.loops,S1.uses,S1.raises⟩
 rw[Oa];exact ⟨trivial,⟨rfl,trivial⟩,trivial,⟨rfl,trivial⟩,trivial,⟨rfl,trivial⟩,trivial,trivial,trivial,trivial,trivial,trivial,trivial,⟨rfl,trivial⟩,⟨rfl,rfl,trivial⟩,trivial,gA⟩
noncomputable def yy:=fnIn "__new__" (tE "IOBase" pb)
noncomputable def wu:Stmt:=eK [0] (bodyOf yy)
noncomputable def BP:Stmt:=eK [1] (bodyOf yy)
noncomputable def qe:Ctx:=c8 yy noAttr cg []
noncomputable def gP:Loc:=[("cls",.glob (.ref 587))]
noncomputable def Tn (loc:Loc) (H:Hp):Tr Out:=.need [loc=gP] (.leaf ⟨.next,loc,H⟩)
noncomputable def Ob (loc:Loc) (H:Hp):Tr Out:=.need [loc=gP] (.leaf ⟨.ret (.ref H.length),loc,H++[(H.length,.inst 587 [])]⟩)
theorem Lk (C:af κ A qe) (h1:eW κ.g.K 587=true) (h2:eW κ.g.K 340=true):∀loc H,bt κ A X (exec wu κ.env) loc H (Tn loc H):=λloc H p s I Q E hE h=>by
 obtain ⟨⟨rfl,_⟩,h⟩:=h;refine Ky (X:=X) C (x:="cls") (y:="BytesIO") (z:="StringIO") (xp:=⟨24,11,24,14⟩) (xq:=⟨24,34,24,37⟩) (yp:=⟨24,22,24,29⟩) (zp:=⟨24,45,24,53⟩) (q1:=⟨24,11,24,29⟩) (q2:=⟨24,34,24,53⟩) (bp:=⟨24,11,24,53⟩) (ip:=wu.pos) (body:=eD wu) _ H p s I Q E hE ?_;have n1:g7 qe gP "cls"=some 587:=by kernel_rfl
 have n2:g7 qe gP "BytesIO"=some 340:=by kernel_rfl
 have n3:g7 qe gP "StringIO"=some 587:=by kernel_rfl
 unfold DS;rw[n1,n2,n3];show (iO ((eW κ.g.K 587&&(eW κ.g.K 340&&eW κ.g.K 587))&&(Nat.beq 587 340||Nat.beq 587 587)) _).Sat _;rw[h1,h2];exact h
theorem HV (C:af κ A qe) (hG:b6 κ.g "object" (.type "object")) (hf:findCls κ.g.K (.type "object") (.type "type") "__new__"=some (.val (.builtin "object.__new__"))) (N:vM κ.g 587):∀loc H,bt κ A X (exec BP κ.env) loc H (Ob loc H):=λloc H p s I Q E hE h=>by obtain ⟨⟨rfl,_⟩,h⟩:=h;refine Hi (X:=X) C (ob:="object") (np:=⟨26,15,26,21⟩) (ap:=⟨26,15,26,29⟩) (pos:=⟨26,15,26,34⟩) (rp:=⟨26,8,26,34⟩) (e:=.Name "cls" ⟨26,30,26,33⟩) (n:=10) (c:=587) (by kernel_rfl) hG hf N (by kernel_rfl) _ H p s I Q E hE ?_;exact ⟨trivial,h⟩
noncomputable def Jr:aA:=b3 qe (λz=>false) [((wu.pos.line,wu.pos.col),⟨wu,Tn⟩),((BP.pos.line,BP.pos.col),⟨BP,Ob⟩)]
theorem Rx (H:Hp):av Jr 40 (bodyOf yy) gP H=.need [wu=wu] (.need [gP=gP] (.need [BP=BP] (.need [gP=gP] (.leaf ⟨.ret (.ref H.length),gP,H++[(H.length,.inst 587 [])]⟩)))):=by kernel_rfl
theorem HW (N:cf g) (h1:eW g.K 587=true) (h2:eW g.K 340=true) (hG:b6 g "object" (.type "object")) (hf:findCls g.K (.type "object") (.type "type") "__new__"=some (.val (.builtin "object.__new__"))) (NO:vM g 587) {tx:List Nat} (F:Jp g 80 yy ["cls","args","kwargs"] [.glob (.ref 587),.str tx] gP) {k:Nat} (R:aQ A (k+1)) (H:Hp) : Runs g A B X' 80 [.glob (.ref 587),.str tx] H (.leaf (.ok (.ref H.length) (H++[(H.length,.inst 587 [])]))):=by
 refine ke (Γ:=Jr) (n:=40) F R.one (λo fd Fa hs L=>?_) λΦ gA=>?_
 ·have C0:af (c5 g B fd L 80) (A.deeper (callEnvC fd L 80)) qe:=aU N hs (by kernel_rfl) Fa.glob Fa.blt R.hd (R.u9 _) bo aX ak;exact cj C0 (λp t h=>nomatch h) (cH λe m=>by
   rcases List.mem_cons.mp m with rfl | m
   ·exact Lk C0 h1 h2
   ·rw[List.mem_singleton.mp m];exact HV C0 hG hf NO)
 rw[Rx];exact ⟨⟨rfl,trivial⟩,⟨rfl,trivial⟩,⟨rfl,trivial⟩,⟨rfl,trivial⟩,gA⟩
theorem aQ.make {k:Nat} (R:aQ A (k+1)) (C:Addr) (vs:List Value):aQ (A.under (Mx C vs)) k:=⟨R.hd,by
 show A.depth+1+k<_;have:=R.dp;lia,by
 show A.units+1+12*k+100<_;have:=R.un;lia⟩
theorem zV {k:Nat} {x o:AO}:∀{H:Hp},aO k H=Option.none→bG k o (H++[(k,x)])=H++[(k,o)]|[],_=>by show (bif Nat.beq k k then _ else _)=_;rw[show Nat.beq k k=true from Nat.beq_refl k];rfl|e::r,h=>by have h:(bif Nat.beq e.1 k then some e.2 else aO k r)=Option.none:=h;show (bif Nat.beq e.1 k then _ else e::bG k o (r++[(k,x)]))=_;induction q:Nat.beq e.1 k with|true=>rw[q] at h;exact sN h|false=>rw[q] at h;rw[cond_false,zV h];rfl
structure Tp (g:G):Prop where
 own:ownIn g.K 587=true
 Vc:eW g.K 340=true
 cls:eW g.K 587=true
 rd:readsIn g.K 587 (.type "type")=true
 new:∃pN rest,findCls g.K (.ref 587) (.type "type") "__new__"=some (.get (.builtin "staticmethod.__get__") (.ref pN) .none (.ref 587))∧recIn g.K pN "staticmethod"=some (.ref 80::rest)
 Py:findIn g.K (.ref 587) "__init__"=some (some (.ref 357))
 fn:typeIn g.K (.ref 357)=some (.type "function")
 on:findCls g.K (.type "object") (.type "type") "__new__"=some (.val (.builtin "object.__new__"))
 ok:vM g 587
 fN:∀tx:List Nat,Jp g 80 yy ["cls","args","kwargs"] [.glob (.ref 587),.str tx] gP
 fI:∀tx:List Nat,Jp g 357 tU ["self","initial_value","newline"] [.ref 0,.str tx] [("self",.ref 0),("initial_value",.str tx),("newline",.str [10])]
 fT:cG g 364 tT ["self","s"]
 call:eO g 587
noncomputable def Oc (args:List PV) (H:Hp):Tr RE:=.need [args=[.str (bN args[0]?)],aO H.length H=Option.none] (.leaf (.ok (.ref H.length) (H++[(H.length,iG (bN args[0]?) 0)])))
theorem Ll (N:cf g) (T:eG g my) (S:Sets g qc) (I:Tp g) (hG:b6 g "object" (.type "object")) {k:Nat} (R:aQ A (k+3)) (args:List PV) (H:Hp):Runs g A B X 587 args H (Oc args H):=Runs.need λ⟨h1,hn,_⟩=>by refine gU I.new λpN rest e1 e2=>?_;rw[h1];generalize bN args[0]?=tx;have:=DM (B:=B) (X:=X) (H:=H) (args:=[.str tx]) (tr:=(Tr.leaf (.ok .none (hV tx 0))).bind (Jb [H.length] (H++[(H.length,.inst 587 [])]))) I.own I.rd e1 e2 I.Py I.fn (λvs=>HW N I.cls I.Vc hG I.on I.ok (I.fN tx) (R.make 587 vs) H) (λvs=>jt (ks:=[H.length]) (os:=[.inst 587 []]) (args:=[.ref 0,.str tx]) (E9 N T S I.fT (I.fI tx) (R.make 587 vs)) rfl ⟨List.nodup_cons.mpr ⟨List.not_mem_nil,List.nodup_nil⟩,rfl,λi k o hi ho=>by induction i using Nat.casesOn with|succ i=>exact nS hi|zero=>obtain rfl:=Option.some.inj hi;obtain rfl:=Option.some.inj ho;rw[eB,hn];exact if_pos rfl,λo m=>by rw[List.mem_singleton.mp m];rfl⟩);intro p s vs Y rv Q hQ;refine this p s vs Y rv Q ⟨⟨⟨[iG tx 0],[],rfl,rfl,λo m=>by rw[List.mem_singleton.mp m];rfl,rfl⟩,trivial⟩,?_⟩;show dA g B X p s Q (.ok (.ref H.length) (bG H.length (iG tx 0) (H++[(H.length,.inst 587 [])])));rw[zV hn];exact hQ
noncomputable def Od (x_:Stmt):List Stmt:=by induction x_ using Stmt.casesOn with|If _ a _ _=>exact a|_=>exact []
noncomputable def Js (x_:Stmt):List Stmt:=by induction x_ using Stmt.casesOn with|If _ _ b _=>exact b|_=>exact []
noncomputable def Lm:List Stmt:=tE "shlex" pb
noncomputable def qf:=fnIn "__init__" Lm
noncomputable def Ry:List Str:=["instream","infile","posix","eof","commenters","wordchars","whitespace","whitespace_split","quotes","escape","escapedquotes","state","pushback","lineno","debug","token","filestack","source","_punctuation_chars","_pushback_chars"]
noncomputable def nR:List (Nat×Str×AK):=Ry.map λx=>(722,x,.field)
noncomputable def yz (d:Option dm):(Nat×Nat×Nat)×fM:=((473,11,36),⟨Kz "isinstance" "instream" "str" ⟨473,11,473,21⟩ ⟨473,22,473,30⟩ ⟨473,32,473,35⟩ ⟨473,11,473,36⟩,KA (c8 d noAttr cg []) 587 "instream"⟩)
noncomputable def Oe:Ctx:=c8 qf (λC x=>iP C x nR) cg []
noncomputable def Pz (l a b c:Nat):Expr:=.Attribute (.Name "self" ⟨l,a,l,b⟩) "wordchars" ⟨l,a,l,c⟩
noncomputable def Of:(Nat×Nat×Nat)×fM:=((511,29,56),⟨Ta (Pz 511 29 33 43) "t" ⟨511,54,511,55⟩ ⟨511,29,511,53⟩ ⟨511,29,511,56⟩,Q6 Oe 20 (Pz 511 29 33 43) "t"⟩)
noncomputable def Ln:Ctx:=c8 qf (λC x=>iP C x nR) cg [yz qf,Of]
noncomputable def Fb:aA:={aC Ln with set:=nu nR}
noncomputable def Rz:Stmt:=S6 "t" "punctuation_chars" (Pz 510 16 20 30) ⟨510,41,510,45⟩ ⟨510,41,510,54⟩ ⟨510,55,510,72⟩ ⟨510,41,510,73⟩ ⟨510,16,510,40⟩ ⟨510,16,510,74⟩ ⟨510,12,510,13⟩ ⟨510,12,510,74⟩
noncomputable def RA (tx po:Bool) (r:Nat):Nat→Option Bool:=Gq [(cw [0] (bodyOf qf),tx),(cw [1] (bodyOf qf),true),(cw [3] (bodyOf qf),po),(cw [6] (bodyOf qf),po),(cw [19] (bodyOf qf),Nat.beq r 0),(cw [19,1] (bodyOf qf),Nat.beq r 1),(cw [21] (bodyOf qf),!Nat.beq r 0)]
noncomputable def wx (tx po:Bool) (r:Nat):aA:={b3 Ln (λz=>false) [((510,12),⟨Rz,S7 Fb 20 "t" "punctuation_chars" (Pz 510 16 20 30)⟩)] with set:=nu nR,km:=iI [(587,Oc)],fold:=RA tx po r}
noncomputable def Jt (k:Nat) (src:PV) (po:Bool) (rn:PV):Loc:=[("self",.ref k),("instream",src),("infile",.none),("posix",.bool po),("punctuation_chars",rn)]
noncomputable def lj :Tr α→Option (List Prop×α)|.leaf a=>some ([],a)|.need gs t=>(lj t).map λr=>(gs++r.1,r.2)|_=>Option.none
theorem fG {t:Tr α}:∀{r:List Prop×α},lj t=some r→AllP r.1→Φ r.2→t.Sat Φ:=by
 induction t with
 | leaf a=>intro r h z x;obtain rfl:=Option.some.inj h;exact x
 | need gs t ih=>intro r h g x;refine aG (Option.map_eq_some_iff.mp h) λq hq ae=>?_;subst ae;exact And.intro (AllP.append g).1 (ih hq (AllP.append g).2 x)
 | br b t e i j=>exact λh=>nS h
 | fail=>exact λh=>nS h
namespace L
noncomputable def r9:List Nat:=[97,98,99,100,102,101,103,104,105,106,107,108,109,110,111,112,113,114,115,116,117,118,119,120,121,122,65,66,67,68,69,70,71,72,73,74,75,76,77,78,79,80,81,82,83,84,85,86,87,88,89,90,48,49,50,51,52,53,54,55,56,57,95]
noncomputable def Gr:List Nat:=[223,224,225,226,227,228,229,230,231,232,233,234,235,236,237,238,239,240,241,242,243,244,245,246,248,249,250,251,252,253,254,255,192,193,194,195,196,197,198,199,200,201,202,203,204,205,206,207,208,209,210,211,212,213,214,216,217,218,219,220,221,222]
noncomputable def PA:List Nat:=[126,45,46,47,42,63,61]
noncomputable def wy (po run:Bool) (pn:List Nat):List Nat:=let w:=bif po then r9++Gr else r9;bif run then bT pn (w++PA) else w
end L
structure Lx where
 po:Bool
 wh:Bool
 co:List Nat
 wo:List Nat
 ws:List Nat
 qu:List Nat
 es:List Nat
 eq:List Nat
 pn:List Nat
structure Lv where
 st:PV
 ln:Int
 tk:List Nat
noncomputable def dX (io k:Nat) (run:Bool) (x:Lx) (v:Lv):List (Str×PV):=aD [("instream",.ref io),("infile",.none),("posix",.bool x.po),("eof",bif x.po then PV.none else PV.str []),("commenters",.str x.co),("wordchars",.str x.wo),("whitespace",.str x.ws),("whitespace_split",.bool x.wh),("quotes",.str x.qu),("escape",.str x.es),("escapedquotes",.str x.eq),("state",v.st),("pushback",.ref k),("lineno",.int v.ln),("debug",.int 0),("token",.str v.tk),("filestack",.ref (k+1)),("source",.none),("_punctuation_chars",.str x.pn)] (bif run then [("_pushback_chars",PV.ref (k+2))] else [])
noncomputable def Ju (po run:Bool) (pn:List Nat):Lx:=⟨po,false,[35],L.wy po run pn,[32,9,13,10],[39,34],[92],[34],pn⟩
noncomputable def Gs:Lv:=⟨.str [32],1,[]⟩
noncomputable def Gu (run:Bool) (pn:List Nat):List AO:=[.ew [],.ew []]++(bif run then [AO.ew [],AO.IG pn] else [])
noncomputable def e9 (r:Nat) (x:List Nat):PV:=bif Nat.beq r 0 then .bool false else bif Nat.beq r 1 then .bool true else .str x
noncomputable def dz (r:Nat) (x:List Nat):List Nat:=bif Nat.beq r 0 then [] else bif Nat.beq r 1 then L.pQ else x
noncomputable def aJ (r:Nat):Bool:=!(Nat.beq r 0)
noncomputable def Lo (po:Bool) (r:Nat) (x:List Nat):List Prop:=(bif po then [true=true,true=true,true=true,true=true] else [false=false,true=true,false=false])++(["collections.deque"="collections.deque","collections.deque"="collections.deque"] ++ (bif Nat.beq r 0 then [true=true,false=false] else (bif Nat.beq r 1 then [false=false,true=true,true=true] else [(!(!x.isEmpty))=false,false=false,(!x.isEmpty)=true])++["collections.deque"="collections.deque",true=true,Rz=Rz,true=true,Of.2.e=Of.2.e,true=true,false=false]))
theorem zW {r:Nat} {x:List Nat} (hx:x.isEmpty=false):AllP (Lo po r x):=by
 refine AllP.app ?_ (AllP.app ⟨rfl,rfl,trivial⟩ ?_)
 ·induction po with|true=>exact ⟨rfl,rfl,rfl,rfl,trivial⟩|false=>exact ⟨rfl,rfl,rfl,trivial⟩
 ·induction Nat.beq r 0 with|true=>exact ⟨rfl,rfl,trivial⟩|false=>refine AllP.app ?_ ⟨rfl,rfl,rfl,rfl,rfl,rfl,rfl,trivial⟩;induction Nat.beq r 1 with|true=>exact ⟨rfl,rfl,rfl,trivial⟩|false=>exact ⟨by rw[hx];rfl,rfl,by rw[hx];rfl,trivial⟩
noncomputable def Jv (k io b:Nat) (po:Bool) (r:Nat) (x:List Nat):Loc:=aD [("self",.ref k),("instream",.ref io),("infile",.none),("posix",.bool po),("punctuation_chars",.str (dz r x))] (bif aJ r then [("t",PV.ref (b+3))] else [])
theorem Og (po:Bool) (r:Nat) (tx x:List Nat) (hr:r=0∨r=1∨r=2):lj (av (wx true po r) 60 (bodyOf qf) (Jt 0 (.str tx) po (e9 r x)) [(0,.inst 722 [])]) = some ([(yz qf).2.e=(yz qf).2.e,true=true,[PV.str tx]=[.str tx],(Option.none:Option AO)=Option.none,true=true]++Lo po r x,⟨.next,Jv 0 1 2 po r x,fP 0 ([.inst 722 (dX 1 2 (aJ r) (Ju po (aJ r) (dz r x)) Gs),iG tx 0]++Gu (aJ r) (dz r x))⟩):=by induction po <;> rcases hr with rfl | rfl | rfl <;> kernel_rfl
theorem Oh (po:Bool) (r:Nat) (x:List Nat) (a c d:AO) (fs:List (Str×PV)) (os:List AO) (hr:r=0∨r=1∨r=2) (ho:os=[]∨∃e f,os=[e,f]):lj (av (wx false po r) 60 (bodyOf qf) (Jt (os.length+4) (.ref 1) po (e9 r x)) (fP 0 ([a,.inst 587 fs,c,d]++os++[.inst 722 []]))) = some ([(yz qf).2.e=(yz qf).2.e,false=false,true=true]++Lo po r x,⟨.next,Jv (os.length+4) 1 (os.length+5) po r x,fP 0 ([a,.inst 587 fs,c,d]++os++([.inst 722 (dX 1 (os.length+5) (aJ r) (Ju po (aJ r) (dz r x)) Gs)]++Gu (aJ r) (dz r x)))⟩):=by rcases ho with rfl | ⟨e,f,rfl⟩ <;> induction po <;> rcases hr with rfl | rfl | rfl <;> kernel_rfl
theorem cf.get (N:cf g) {x:Str} {u:Value} (h:ax x Ea=some (.glob u)):b6 g x u:=by refine w6 (vW h) λe m h1 h2=>?_;refine aG (N.glob e m) λu' h3 h4=>?_;rw[h1] at h4;rw[h2] at h3;cases h3;exact h4
noncomputable def Oi:List (Nat×Str×AK):=[(722,"punctuation_chars",.prop 653),(722,"read_token",.lM 690),(587,"read",.lM 533),(587,"readline",.lM 541)]
noncomputable def lq:List (Nat×Str×AK):=nR++Oi
structure RC (g:G):Prop where
 at_:eG g lq
 set:Sets g nR
 IZ:DT g.K 587
 any:∃q oq,g.K.lookup q=some oq∧sysModules<q
 fk:findCls g.K (.type "dict") (.type "type") "fromkeys"=some (.get (.builtin "classmethod_descriptor.__get__") (.builtin "dict.fromkeys") .none (.type "dict"))
 Tq:makesIn g.K 722=true
 Py:findIn g.K (.ref 722) "__init__"=some (some (.ref 646))
 fn:typeIn g.K (.ref 646)=some (.type "function")
 fI:cG g 646 qf ["self","instream","infile","posix","punctuation_chars"]
 call:eO g 722
theorem RC.st (K:RC g):eG g nR:=λe m=>K.at_ e (List.mem_append_left _ m)
structure Base (g:G):Prop where
 N:cf g
 RD:eG g my
 RF:Sets g qc
 io:Tp g
 lx:RC g
section
variable {g:G} {A:Around} {B:Bs} {X:XP} {k:Nat}
theorem Fc (U:Base g) (R:aQ A (k+4)) (Fa:FnAt g 646 o fd (bodyOf qf)) (hs:fd.scope=aV qf) (L:Addr) (tx po:Bool) (r:Nat):cE (c5 g B fd L 646) (A.deeper (callEnvC fd L 646)) X (wx tx po r):=by
 have C0:∀(at_:List (Nat×Str×AK)) (h:eG g at_),af (c5 g B fd L 646) (A.deeper (callEnvC fd L 646)) (c8 qf (λC x=>iP C x at_) cg []):=λat_ h=>aU U.N hs (by kernel_rfl) Fa.glob Fa.blt R.hd (R.u9 _) (bH h) aX ak;have RG:af (c5 g B fd L 646) (A.deeper (callEnvC fd L 646)) (c8 qf noAttr cg []):=aU U.N hs (by kernel_rfl) Fa.glob Fa.blt R.hd (R.u9 _) bo aX ak;have e1:di (c5 g B fd L 646) (A.deeper (callEnvC fd L 646)) (yz qf).2:=Hl RG U.lx.IZ (by kernel_rfl) (U.N.get (by kernel_rfl)) (by kernel_rfl) (U.N.get (by kernel_rfl));have e2:di (c5 g B fd L 646) (A.deeper (callEnvC fd L 646)) Of.2:=KI (C0 _ U.lx.st) rfl (by kernel_rfl);have ce:∀p t,cb p [yz qf,Of]=some t→di (c5 g B fd L 646) (A.deeper (callEnvC fd L 646)) t∧iq (c5 g B fd L 646) (A.deeper (callEnvC fd L 646)) t:=bj λe m=>by
  rcases List.mem_cons.mp m with rfl | m
  ·exact ⟨e1,tj RG e1 rfl⟩
  ·rw[List.mem_singleton.mp m];exact ⟨e2,tj RG e2 rfl⟩
 have C1:af (c5 g B fd L 646) (A.deeper (callEnvC fd L 646)) Ln:=aU U.N hs (by kernel_rfl) Fa.glob Fa.blt R.hd (R.u9 _) (bH U.lx.st) aX λp t h=>(ce p t h).1;have S0:=bu (X:=X) C1 λp t h=>(ce p t h).2;have S1:cE (c5 g B fd L 646) (A.deeper (callEnvC fd L 646)) X Fb:=⟨S0.c,hY U.lx.set,S0.km,S0.ve,S0.loops,S0.uses,S0.raises⟩;refine gU U.lx.any λq oq h1 h2=>?_;refine ⟨S0.c,hY U.lx.set,eI λe m args H=>?_,da λe m=>?_,cH λe m=>?_,S0.uses,S0.raises⟩
 ·rw[List.mem_singleton.mp m];exact Ll U.N U.RD U.RF U.io (U.N.get (by kernel_rfl)) (R.down _) args H
 ·rw[List.mem_singleton.mp m];exact U.io.call
 ·rw[List.mem_singleton.mp m];exact NK (n:=20) S1 rfl (by kernel_rfl) (by kernel_rfl) h1 h2 (by kernel_rfl) (U.N.get (by kernel_rfl)) U.lx.fk
def HX (r:Nat) (x:List Nat):Prop:=(r=0∨r=1∨r=2)∧x.isEmpty=false
theorem Fd (U:Base g) (R:aQ A (k+4)) {r:Nat} {tx x:List Nat} (hr:HX r x) : Runs g A B X 646 [.ref 0,.str tx,.none,.bool po,e9 r x] [(0,.inst 722 [])] (.leaf (.ok .none (fP 0 ([.inst 722 (dX 1 2 (aJ r) (Ju po (aJ r) (dz r x)) Gs),iG tx 0]++Gu (aJ r) (dz r x))))):=dG (Γ:=wx true po r) (n:=60) U.lx.fI rfl R.one (λo fd Fa hs L=>Fc U R Fa hs L true po r) λΦ gA=>fG (Og po r tx x hr.1) (AllP.app ⟨rfl,rfl,rfl,rfl,rfl,trivial⟩ (zW hr.2)) gA
theorem Fe (U:Base g) (R:aQ A (k+4)) {r:Nat} {x:List Nat} (hr:HX r x) {a c d:AO} {fs:List (Str×PV)} (ho:os=[]∨∃e f,os=[e,f]) : Runs g A B X 646 [.ref (os.length+4),.ref 1,.none,.bool po,e9 r x] (fP 0 ([a,.inst 587 fs,c,d]++os++[.inst 722 []])) (.leaf (.ok .none (fP 0 ([a,.inst 587 fs,c,d]++os++([.inst 722 (dX 1 (os.length+5) (aJ r) (Ju po (aJ r) (dz r x)) Gs)]++Gu (aJ r) (dz r x)))))):=dG (Γ:=wx false po r) (n:=60) U.lx.fI rfl R.one (λo fd Fa hs L=>Fc U R Fa hs L false po r) λΦ gA=>fG (Oh po r x a c d fs os hr.1 ho) (AllP.app ⟨rfl,rfl,rfl,trivial⟩ (zW hr.2)) gA
theorem Ff (U:Base g) (R:aQ A (k+5)) {r:Nat} {tx x:List Nat} (hr:HX r x) : Runs g A B X 722 [.str tx,.none,.bool po,e9 r x] [] (.leaf (.ok (.ref 0) (fP 0 ([.inst 722 (dX 1 2 (aJ r) (Ju po (aJ r) (dz r x)) Gs),iG tx 0]++Gu (aJ r) (dz r x))))):=vK (H:=[]) (args:=[.str tx,.none,.bool po,e9 r x]) U.lx.Tq U.lx.Py U.lx.fn (λvs=>Fd U (R.make 722 vs) hr)
theorem tV:∀(n:Nat) (a b:List AO),fP n (a++b)=fP n a++fP (n+a.length) b|_,[],_=>rfl|n,x::a,b=>by show (n,x)::fP (n+1) (a++b)=(n,x)::(fP (n+1) a++fP (n+(a.length+1)) b);rw[tV (n+1) a b,show n+1+a.length=n+(a.length+1) by lia]
theorem Fg (U:Base g) (R:aQ A (k+5)) {r:Nat} {x:List Nat} (hr:HX r x) {a c d:AO} {fs:List (Str×PV)} (ho:os=[]∨∃e f,os=[e,f]) : Runs g A B X 722 [.ref 1,.none,.bool po,e9 r x] (fP 0 ([a,.inst 587 fs,c,d]++os)) (.leaf (.ok (.ref (os.length+4)) (fP 0 ([a,.inst 587 fs,c,d]++os++([.inst 722 (dX 1 (os.length+5) (aJ r) (Ju po (aJ r) (dz r x)) Gs)]++Gu (aJ r) (dz r x)))))):=by
 have e:(fP 0 ([a,.inst 587 fs,c,d]++os)).length=os.length+4:=by rw[oA,List.length_append];exact Nat.add_comm _ _
 have:=vK (g:=g) (A:=A) (B:=B) (X:=X) (H:=fP 0 ([a,.inst 587 fs,c,d]++os)) (args:=[.ref 1,.none,.bool po,e9 r x]) U.lx.Tq U.lx.Py U.lx.fn λvs=>by rw[e,show fP 0 ([a,.inst 587 fs,c,d]++os)++[(os.length+4,.inst 722 [])]=fP 0 ([a,.inst 587 fs,c,d]++os++[.inst 722 []]) by rw[tV 0 _ [.inst 722 []],List.length_append,Nat.zero_add,Nat.add_comm];rfl];exact Fe U (R.make 722 vs) hr ho
 rw[e] at this;exact this
end
noncomputable def Jw:=fnIn "_law_lexer" pb
noncomputable def Oj (args:List PV):List Prop×PV:=let sg:=bN args[0]?;let r:=bN args[1]?;let cs:=strsOf (oLst args[2]?);([args=[.str sg,.str r,.lst (cs.map .str)],∀c∈cs,c.length=2,sg.length+cs.length≤10000000],.str (L.turned r sg cs))
theorem Lq (N:cf g) (F:cG g 745 bf ["signs","role","changes"]) {k:Nat} (R:aQ A (k+1)) (args:List PV) (H:Hp) (hg:AllP (Oj args).1):(∃o fd,g.K.lookup 745=some o∧o.data=.func fd)∧a7 g A H 745 args (Oj args).2:=by refine lG hg λh1 h2 h3 z=>?_;refine ⟨bU F,?_⟩;have:=Eh N F R h2 h3 (r:=bN args[1]?) H;rw[←h1] at this;exact this
noncomputable def Ol:Ctx:=c8 Jw (λC x=>iP C x nR) (iv [(745,λa z=>Oj a)]) []
noncomputable def Vd (src:PV) (po:Bool) (r:Nat) (x:List Nat) (kf:Hp) (k:Nat) (lu:Hp) (args:List PV) (H:Hp):Tr RE:=.need [args=[src,.none,.bool po,e9 r x],H=kf] (.leaf (.ok (.ref k) lu))
noncomputable def Fh (src:PV) (po:Bool) (r:Nat) (x:List Nat) (kf:Hp) (k:Nat) (lu:Hp):aA:={aC Ol with set:=nu nR,km:=iI [(722,Vd src po r x kf k lu)]}
noncomputable def Lr (po:Bool) (r:Nat) (tx x:List Nat) (l:Lx):Hp:=fP 0 ([.inst 722 (dX 1 2 (aJ r) l Gs),iG tx 0]++Gu (aJ r) (dz r x))
noncomputable def MA (po:Bool) (r:Nat) (x:List Nat) (a c d:AO) (fs:List (Str×PV)) (os:List AO) (l:Lx):Hp:=fP 0 ([a,.inst 587 fs,c,d]++os++([.inst 722 (dX 1 (os.length+5) (aJ r) l Gs)]++Gu (aJ r) (dz r x)))
noncomputable def Fi (po wh run:Bool) (pn:List Nat) (cs:List (List Nat)):Lx:=⟨po,wh,L.turned [114] [35] cs,L.turned [108] (L.wy po run pn) cs,L.turned [119] [32,9,13,10] cs,L.turned [109] [39,34] cs,L.turned [101] [92] cs,L.turned [115] [34] cs,pn⟩
noncomputable def Ls (cs:List (List Nat)) (sg r:List Nat) (m:List Prop):List Prop:=[true=true]++((Oj [.str sg,.str r,.lst (cs.map .str)]).1++m)
noncomputable def Lu (po run:Bool) (pn:List Nat) (cs:List (List Nat)):List Prop:=Ls cs [32,9,13,10] [119] (Ls cs [35] [114] (Ls cs (L.wy po run pn) [108] (Ls cs [39,34] [109] (Ls cs [34] [115] (Ls cs [92] [101] [])))))
noncomputable def Jx (src:PV) (po wh:Bool) (rn:PV) (cs:List (List Nat)) (k:Nat):Loc:=[("source",src),("settings",tP po wh rn cs),("posix",.bool po),("whole",.bool wh),("run",rn),("changes",.lst (cs.map .str)),("lexer",.ref k)]
noncomputable def HY (po wh run:Bool) (pn:List Nat) (cs:List (List Nat)):Lx:=Fi po wh run pn (strsOf (cs.map .str))
theorem Om (po wh:Bool) (r:Nat) (tx x:List Nat) (cs:List (List Nat)) (hr:r=0∨r=1∨r=2):lj (av (Fh (.str tx) po r x [] 0 (Lr po r tx x (Ju po (aJ r) (dz r x)))) 60 (bodyOf Jw) [("source",.str tx),("settings",tP po wh (e9 r x) cs)] []) = some ([[PV.str tx,.none,.bool po,e9 r x]=[.str tx,.none,.bool po,e9 r x],([]:Hp)=[]]++Lu po (aJ r) (dz r x) cs,⟨.ret (.ref 0),Jx (.str tx) po wh (e9 r x) cs 0,Lr po r tx x (HY po wh (aJ r) (dz r x) cs)⟩):=by rcases hr with rfl | rfl | rfl <;> kernel_rfl
theorem Oo (po wh:Bool) (r:Nat) (x:List Nat) (cs:List (List Nat)) (a c d:AO) (fs:List (Str×PV)) (os:List AO) (hr:r=0∨r=1∨r=2) (ho:os=[]∨∃e f,os=[e,f]):lj (av (Fh (.ref 1) po r x (fP 0 ([a,.inst 587 fs,c,d]++os)) (os.length+4) (MA po r x a c d fs os (Ju po (aJ r) (dz r x)))) 60 (bodyOf Jw) [("source",.ref 1),("settings",tP po wh (e9 r x) cs)] (fP 0 ([a,.inst 587 fs,c,d]++os))) = some ([[PV.ref 1,.none,.bool po,e9 r x]=[.ref 1,.none,.bool po,e9 r x],fP 0 ([a,.inst 587 fs,c,d]++os)=fP 0 ([a,.inst 587 fs,c,d]++os)]++Lu po (aJ r) (dz r x) cs,⟨.ret (.ref (os.length+4)),Jx (.ref 1) po wh (e9 r x) cs (os.length+4),MA po r x a c d fs os (HY po wh (aJ r) (dz r x) cs)⟩):=by rcases ho with rfl | ⟨e,f,rfl⟩ <;> rcases hr with rfl | rfl | rfl <;> kernel_rfl
theorem mB {cs:List (List Nat)} {sg:List Nat} {m:List Prop} (h2:∀c∈cs,c.length=2) (hz:cs.length≤1000) (hs:sg.length≤1000) (h:AllP m):AllP (Ls cs sg r m):=⟨rfl,AllP.app (a:=(Oj [.str sg,.str r,.lst (cs.map .str)]).1) (by show AllP [[PV.str sg,.str r,.lst (cs.map .str)]=[.str sg,.str r,.lst ((strsOf (cs.map PV.str)).map .str)],∀c∈strsOf (cs.map PV.str),c.length=2,sg.length+(strsOf (cs.map PV.str)).length≤10000000];rw[bV];exact ⟨rfl,h2,by lia,trivial⟩) h⟩
theorem Fj (ks xs:List Nat) (h:xs.length≤n):(bT ks xs).length≤n:=Nat.le_trans (js ks xs) h
theorem Fm (po run:Bool) (pn:List Nat):(L.wy po run pn).length≤1000:=by unfold L.wy;induction run with|true=>exact Fj _ _ (by induction po <;> decide +kernel)|false=>induction po <;> exact Nat.le_of_ble_eq_true (by kernel_rfl)
theorem zX {run:Bool} {cs:List (List Nat)} (h2:∀c∈cs,c.length=2) (hz:cs.length≤1000):AllP (Lu po run pn cs):=mB h2 hz (by decide) (mB h2 hz (by decide) (mB h2 hz (Fm po run pn) (mB h2 hz (by decide) (mB h2 hz (by decide) (mB h2 hz (by decide) trivial)))))
section
variable {g:G} {A:Around} {B:Bs} {X:XP} {k:Nat}
theorem Fn (U:Base g) (F1:cG g 745 bf ["signs","role","changes"]) (R:aQ A (k+6)) (Fa:FnAt g 752 o fd (bodyOf Jw)) (hs:fd.scope=aV Jw) (L:Addr) {src:PV} {r:Nat} {x:List Nat} {kf lu:Hp} (hr:∀B,Runs g (A.deeper (callEnvC fd L 752)).in1 B X 722 [src,.none,.bool po,e9 r x] kf (.leaf (.ok (.ref j) lu))):cE (c5 g B fd L 752) (A.deeper (callEnvC fd L 752)) X (Fh src po r x kf j lu):=by
 have C1:af (c5 g B fd L 752) (A.deeper (callEnvC fd L 752)) Ol:=aU U.N hs (by kernel_rfl) Fa.glob Fa.blt R.hd (R.u9 _) (bH U.lx.st) (c9 λe m args H hg=>by rw[List.mem_singleton.mp m] at hg ⊢;exact Lq U.N F1 (R.down _) args H hg) ak;have S0:=bu (X:=X) C1 λp t h=>nomatch h
 refine ⟨S0.c,hY U.lx.set,eI λe m args H=>?_,da λe m=>?_,S0.loops,S0.uses,S0.raises⟩
 ·rw[List.mem_singleton.mp m];refine Runs.need λ⟨h1,h2,_⟩=>?_;subst h1;subst h2;exact hr _
 ·rw[List.mem_singleton.mp m];exact U.lx.call
theorem Fo (U:Base g) (F1:cG g 745 bf ["signs","role","changes"]) (F:cG g 752 Jw ["source","settings"]) (R:aQ A (k+6)) {r:Nat} {tx x:List Nat} {cs:List (List Nat)} (hr:HX r x) (h2:∀c∈cs,c.length=2) (hz:cs.length≤1000) : Runs g A B X 752 [.str tx,tP po wh (e9 r x) cs] [] (.leaf (.ok (.ref 0) (Lr po r tx x (Fi po wh (aJ r) (dz r x) cs)))):=dG (n:=60) F rfl R.one (λo fd Fa hs L=>Fn U F1 R Fa hs L (λB=>Ff (k:=k) U ((R.down _).lt (by lia)) hr)) λΦ gA=>fG (Om po wh r tx x cs hr.1) (AllP.app ⟨rfl,rfl,trivial⟩ (zX h2 hz)) (by unfold HY;rw[bV];exact gA)
theorem Fp (U:Base g) (F1:cG g 745 bf ["signs","role","changes"]) (F:cG g 752 Jw ["source","settings"]) (R:aQ A (k+6)) {r:Nat} {x:List Nat} {cs:List (List Nat)} {a c d:AO} {fs:List (Str×PV)} (ho:os=[]∨∃e f,os=[e,f]) (hr:HX r x) (h2:∀c∈cs,c.length=2) (hz:cs.length≤1000) : Runs g A B X 752 [.ref 1,tP po wh (e9 r x) cs] (fP 0 ([a,.inst 587 fs,c,d]++os)) (.leaf (.ok (.ref (os.length+4)) (MA po r x a c d fs os (Fi po wh (aJ r) (dz r x) cs)))):=dG (n:=60) F rfl R.one (λo fd Fa hs L=>Fn U F1 R Fa hs L (λB=>Fg (k:=k) U ((R.down _).lt (by lia)) hr ho)) λΦ gA=>fG (Oo po wh r x cs a c d fs os hr.1 ho) (AllP.app ⟨rfl,rfl,trivial⟩ (zX h2 hz)) (by unfold HY;rw[bV];exact gA)
end
noncomputable def nU:=fnIn "read_token" Lm
noncomputable def MB:=fnIn "punctuation_chars" Lm
noncomputable def h9:Stmt:=eK [2,0] (bodyOf nU)
noncomputable def nV:Stmt:=eK [2,1] (bodyOf nU)
noncomputable def jx (l:List Nat):List PV:=l.map λc=>.str [c]
noncomputable def b8 (run:Bool) (x:Lx) (v:Lv) (tx:List Nat) (p:Int) (row as:List PV):Hp:=fP 0 ([iG tx p,.inst 722 (dX 0 2 run x v),.ew row,.ew []]++(bif run then [AO.ew as] else []))
noncomputable def MC (H:Hp):Nat:=(lh H).toNat
noncomputable def Ts (args:List PV) (H:Hp):Tr RE:=.need [args=[.ref 0,.int 1],aO 0 H=some (iG (dZ H) (MC H:Nat)),(dZ H).length≤1000] (.leaf (.ok (.str (dj (dZ H) (MC H))) (bG 0 (iG (dZ H) (eH (dZ H) (MC H):Nat)) H)))
noncomputable def Tt (args:List PV) (H:Hp):Tr RE:=.need [args=[.ref 0],aO 0 H=some (iG (dZ H) (lh H)),(dZ H).length≤1000] (.leaf (.ok (.str (mA (dZ H) (lh H))) (bG 0 (iG (dZ H) (gO (dZ H) (lh H))) H)))
noncomputable def RH (H:Hp):List Nat:=bN (fF H 1 "_punctuation_chars")
noncomputable def PB (args:List PV) (H:Hp):List Prop×PV:=([args=[.ref 1],∃run x v tx p row as,H=b8 run x v tx p row as],.str (RH H))
noncomputable def Ly:Ctx:=c8 nU (λC x=>iP C x lq) (iv [(653,PB)]) []
noncomputable def kg:aA:={aC Ly with set:=nu nR,km:=iI [(533,Ts),(541,Tt)]}
noncomputable def Fq (H:Hp):List Nat:=bN ((((aO 4 H).bind λo=>match o with | .ew l=>some l | _=>Option.none).getD [])[0]?)
noncomputable def Ve (H:Hp):List Nat:=bif (Fq H).isEmpty then dj (dZ H) (MC H) else Fq H
noncomputable def Vf (H:Hp):Hp:=bif (Fq H).isEmpty then bG 0 (iG (dZ H) (eH (dZ H) (MC H):Nat)) H else bG 4 (.ew []) H
noncomputable def aY (q:Bool) (es:List Nat):Loc:=[("self",.ref 1),("quoted",.bool q),("escapedstate",.str es)]
noncomputable def Tu (loc:Loc) (H:Hp):Tr Out:=.need [(∃q es,loc=aY q es),(∃run x v tx row as,∃n:Nat,H=b8 run x v tx n row (jx as)∧tx.length≤1000∧List.length as≤1∧x.pn.isEmpty=!run)] (.leaf ⟨.next,cM "nextchar" (.str (Ve H)) loc,Vf H⟩)
noncomputable def Oq (H:Hp):Int:=((fF H 1 "lineno").bind PV.int?).getD 0
noncomputable def iJ (c:List Nat) (ln:Int):Int:=bif sEq c [10] then ln+1 else ln
noncomputable def Tv (loc:Loc) (H:Hp):Tr Out:=iN (λi=>.need [(∃q es c,loc=aD (aY q es) [("nextchar",.str c)]),(∃run x v tx p row as,H=b8 run x v tx p row as)] (.leaf ⟨.next,loc,bG 1 (.inst 722 (cM "lineno" (.int (iJ (bN (ax "nextchar" loc)) (Oq H))) i.2.2)) H⟩)) (c6 H (.ref 1))
noncomputable def RI (no:Bool):Nat→Option Bool:=Gq [(577,false),(579,no),(587,false),(621,false),(638,false),(650,false),(686,false),(697,false)]
noncomputable def iK (no:Bool):aA:={kg with loops:=[((h9.pos.line,h9.pos.col),⟨h9,Tu⟩),((nV.pos.line,nV.pos.col),⟨nV,Tv⟩)],fold:=RI no,rs:=true}
noncomputable def B9:List Stmt:=eD (eK [2] (bodyOf nU))
noncomputable def Tr.core :Tr α→Tr α|.br b t e=>.br b t.core e.core|.need _ t=>t.core|t=>t
noncomputable def Tr.nv :Tr α→List Prop|.br _ t e=>t.nv++e.nv|.need gs t=>gs++t.nv|_=>[]
theorem ly :∀{t:Tr α},AllP t.nv→t.core.Sat Φ→t.Sat Φ|.fail,_,h=>h|.leaf _,_,h=>h|.br b t e,g,h=>⟨λq=>ly (AllP.append g).1 (h.1 q),λq=>ly (AllP.append g).2 (h.2 q)⟩|.need gs t,g,h=>⟨(AllP.append g).1,ly (AllP.append g).2 h⟩
noncomputable def jb (run:Bool) (x:Lx) (c tx:List Nat) (fl:Fl) (st:PV) (ln:Int) (tk:List Nat) (q:Bool) (es:List Nat) (p:Int) (row as:List PV):Out:=⟨fl,aD (aY q es) [("nextchar",.str c)],b8 run x ⟨st,ln,tk⟩ tx p row as⟩
noncomputable def lA:Fl:=.exc [78,111,32,99,108,111,115,105,110,103,32,113,117,111,116,97,116,105,111,110]
noncomputable def sa:Fl:=.exc [78,111,32,101,115,99,97,112,101,100,32,99,104,97,114,97,99,116,101,114]
section
variable (run:Bool) (x:Lx) (c tx:List Nat) (st:List Nat) (ln:Int) (tk:List Nat) (q:Bool) (es:List Nat) (p:Int) (row:List PV)
noncomputable abbrev lH (fl:Fl) (st:PV) (ln:Int) (tk:List Nat) (q:Bool) (es:List Nat) (p:Int) (row as:List PV):Tr Out:=.leaf (jb run x c tx fl st ln tk q es p row as)
noncomputable def tW (st:PV) (ln:Int) (w:List Nat) (p:Int) (row as:List PV):Tr Out:=.br (!w.isEmpty||((x.po&&(q&&true))||false)) (lH run x c tx .brk st ln w q es p row as) (lH run x c tx .cont st ln w q es p row as)
noncomputable def Lz:Tr Out:=.br (!(!c.isEmpty)) (lH run x c tx .brk .none ln tk q es p row []) (.br (aa c x.ws) (tW run x c tx q es (.str st) ln tk p row []) (.br (aa c x.co) (lH run x c tx .next (.str st) (ln+1) tk q es (gO tx p) row []) (.br (x.po&&(aa c x.es&&true)) (lH run x c tx .next (.str c) ln tk q [97] p row []) (.br (aa c x.wo) (lH run x c tx .next (.str [97]) ln c q es p row []) (.br (aa c x.pn) (lH run x c tx .next (.str [99]) ln c q es p row []) (.br (aa c x.qu) (.br (!x.po) (lH run x c tx .next (.str c) ln c q es p row []) (lH run x c tx .next (.str c) ln tk q es p row [])) (.br x.wh (lH run x c tx .next (.str [97]) ln c q es p row []) (tW run x c tx q es (.str st) ln c p row []))))))))
noncomputable def LA:Tr Out:=.br (!(!c.isEmpty)) (lH run x c tx lA (.str st) ln tk true es p row []) (.br (sEq c st) (.br (!x.po) (lH run x c tx .brk (.str [32]) ln (tk++c) true es p row []) (lH run x c tx .next (.str [97]) ln tk true es p row [])) (.br (x.po&&(aa c x.es&&(aa st x.eq&&true))) (lH run x c tx .next (.str c) ln tk true st p row []) (lH run x c tx .next (.str st) ln (tk++c) true es p row [])))
noncomputable def HZ:Tr Out:=.br (!(!c.isEmpty)) (lH run x c tx sa (.str st) ln tk q es p row []) (.br (aa es x.qu&&(!(sEq c st)&&(!(sEq c es)&&true))) (lH run x c tx .next (.str es) ln ((tk++st)++c) q es p row []) (lH run x c tx .next (.str es) ln (tk++c) q es p row []))
noncomputable def H4 (t:Tr Out):Tr Out:=bif run then t else .fail
noncomputable def zY:Tr Out:=.br (!(!c.isEmpty)) (lH run x c tx .brk .none ln tk q es p row []) (.br (aa c x.ws) (tW run x c tx q es (.str [32]) ln tk p row []) (.br (aa c x.co) (.br x.po (tW run x c tx q es (.str [32]) (ln+1) tk (gO tx p) row []) (lH run x c tx .next (.str st) (ln+1) tk q es (gO tx p) row [])) (.br (sEq st [99]) (.br (aa c x.pn) (lH run x c tx .next (.str st) ln (tk++c) q es p row []) (.br (!(aa c x.ws)) (H4 run (lH run x c tx .brk (.str [32]) ln tk q es p row [.str c])) (lH run x c tx .brk (.str [32]) ln tk q es p row []))) (.br (x.po&&(aa c x.qu&&true)) (lH run x c tx .next (.str c) ln tk q es p row []) (.br (x.po&&(aa c x.es&&true)) (lH run x c tx .next (.str c) ln tk q [97] p row []) (.br (aa c x.wo||(aa c x.qu||((x.wh&&(!(aa c x.pn)&&true))||false))) (lH run x c tx .next (.str st) ln (tk++c) q es p row []) (.br (!x.pn.isEmpty) (H4 run (tW run x c tx q es (.str [32]) ln tk p row [.str c])) (tW run x c tx q es (.str [32]) ln tk p (.str c::row) []))))))))
noncomputable def jc:Tr Out:=.br (sEq st [32]) (Lz run x c tx st ln tk q es p row) (.br (aa st x.qu) (LA run x c tx st ln tk es p row) (.br (aa st x.es) (HZ run x c tx st ln tk q es p row) (.br (cz st [[97],[99]]) (zY run x c tx st ln tk q es p row) (lH run x c tx .next (.str st) ln tk q es p row []))))
end
noncomputable abbrev jd (run:Bool) (x:Lx) (c tx st:List Nat) (ln:Int) (tk:List Nat) (q:Bool) (es:List Nat) (p:Int) (row:List PV):Tr Out:=av (iK false) 60 (B9.drop 2) (aD (aY q es) [("nextchar",.str c)]) (b8 run x ⟨.str st,ln,tk⟩ tx p row [])
theorem LB (run:Bool) (x:Lx) (c tx st:List Nat) (ln:Int) (tk:List Nat) (q:Bool) (es:List Nat) (p:Int) (row:List PV):(jd run x c tx st ln tk q es p row).core=jc run x c tx st ln tk q es p row:=by induction run <;> kernel_rfl
noncomputable abbrev nT:Prop:=true=true
noncomputable abbrev nF:Prop:=false=false
noncomputable abbrev nE (l:List Nat):Prop:=(!l.isEmpty)=false→true=true
def nX (H:Hp):Prop:=∃run x v tx p row as,H=b8 run x v tx p row as
section
variable {run:Bool} {x:Lx} {c tx st:List Nat} {ln:Int} {tk:List Nat} {q:Bool} {es:List Nat} {p:Int} {row:List PV}
theorem LD (f1:fits (tk.length+c.length)=true) (f2:fits (tk.length+st.length)=true) (f3:fits ((tk++st).length+c.length)=true) (f4:fits (row.length+1)=true) (h1:tx.length≤1000):AllP (jd true x c tx st ln tk q es p row).nv:=by
 have e:(jd true x c tx st ln tk q es p row).nv=[nT,nF,nT,nF,nT,nT,nT,nF,nT,nE tk,nT,nT,[PV.ref 0]=[.ref 0],some (iG tx p)=some (iG tx p),tx.length≤1000,nT,(x.po=true)→nT,nT,[PV.ref 1]=[.ref 1],nX (b8 true x ⟨.str st,ln,tk⟩ tx p row []),nT,nT,nT,nT,nT,nE c,nT,nT,nT,nF,"ValueError"="ValueError",nT,nT,fits (tk.length+c.length)=true,nT,(x.po=true)→nT,(x.po=true)→((aa c x.es)=true)→nT,(x.po=true)→((aa c x.es)=true)→nT,nT,fits (tk.length+c.length)=true,nT,nT,nT,nF,"ValueError"="ValueError",nT,((aa es x.qu)=true)→nT,nT,fits (tk.length+st.length)=true,fits ((tk++st).length+c.length)=true,fits (tk.length+c.length)=true,nT,nT,nT,nF,nT,nE tk,nT,nT,[PV.ref 0]=[.ref 0],some (iG tx p)=some (iG tx p),tx.length≤1000,nT,nT,nE tk,nT,[PV.ref 1]=[.ref 1],nX (b8 true x ⟨.str st,ln,tk⟩ tx p row []),nT,fits (tk.length+c.length)=true,nT,nT,nT,nT,(x.po=true)→nT,nT,(x.po=true)→nT,nT,((aa c x.wo)=false)→nT,((aa c x.wo)=false)→((aa c x.qu)=false)→nT,((aa c x.wo)=false)→((aa c x.qu)=false)→(x.wh=true)→[PV.ref 1]=[.ref 1],((aa c x.wo)=false)→((aa c x.qu)=false)→(x.wh=true)→nX (b8 true x ⟨.str st,ln,tk⟩ tx p row []),((aa c x.wo)=false)→((aa c x.qu)=false)→(x.wh=true)→nT,fits (tk.length+c.length)=true,[PV.ref 1]=[.ref 1],nX (b8 true x ⟨.str st,ln,tk⟩ tx p row []),nT,nT,nT,nT,nF,nT,nE tk,nT,fits (row.length+1)=true,nT,nF,nT,nE tk]:=by kernel_rfl
 have hX:nX (b8 true x ⟨.str st,ln,tk⟩ tx p row []):=⟨_,_,_,_,_,_,_,rfl⟩;rw[e];exact ⟨rfl,rfl,rfl,rfl,rfl,rfl,rfl,rfl,rfl,λz=>rfl,rfl,rfl,rfl,rfl,h1,rfl,λz=>rfl,rfl,rfl,hX,rfl,rfl,rfl,rfl,rfl,λz=>rfl,rfl,rfl,rfl,rfl,rfl,rfl,rfl,f1,rfl,λz=>rfl,λz z=>rfl,λz z=>rfl,rfl,f1,rfl,rfl,rfl,rfl,rfl,rfl,λz=>rfl,rfl,f2,f3,f1,rfl,rfl,rfl,rfl,rfl,λz=>rfl,rfl,rfl,rfl,rfl,h1,rfl,rfl,λz=>rfl,rfl,rfl,hX,rfl,f1,rfl,rfl,rfl,rfl,λz=>rfl,rfl,λz=>rfl,rfl,λz=>rfl,λz z=>rfl,λz z z=>rfl,λz z z=>hX,λz z z=>rfl,f1,rfl,hX,rfl,rfl,rfl,rfl,rfl,rfl,λz=>rfl,rfl,f4,rfl,rfl,rfl,λz=>rfl,trivial⟩
theorem LF (f1:fits (tk.length+c.length)=true) (f2:fits (tk.length+st.length)=true) (f3:fits ((tk++st).length+c.length)=true) (f4:fits (row.length+1)=true) (h1:tx.length≤1000):AllP (jd false x c tx st ln tk q es p row).nv:=by
 have e:(jd false x c tx st ln tk q es p row).nv=[nT,nF,nT,nF,nT,nT,nT,nF,nT,nE tk,nT,nT,[PV.ref 0]=[.ref 0],some (iG tx p)=some (iG tx p),tx.length≤1000,nT,(x.po=true)→nT,nT,[PV.ref 1]=[.ref 1],nX (b8 false x ⟨.str st,ln,tk⟩ tx p row []),nT,nT,nT,nT,nT,nE c,nT,nT,nT,nF,"ValueError"="ValueError",nT,nT,fits (tk.length+c.length)=true,nT,(x.po=true)→nT,(x.po=true)→((aa c x.es)=true)→nT,(x.po=true)→((aa c x.es)=true)→nT,nT,fits (tk.length+c.length)=true,nT,nT,nT,nF,"ValueError"="ValueError",nT,((aa es x.qu)=true)→nT,nT,fits (tk.length+st.length)=true,fits ((tk++st).length+c.length)=true,fits (tk.length+c.length)=true,nT,nT,nT,nF,nT,nE tk,nT,nT,[PV.ref 0]=[.ref 0],some (iG tx p)=some (iG tx p),tx.length≤1000,nT,nT,nE tk,nT,[PV.ref 1]=[.ref 1],nX (b8 false x ⟨.str st,ln,tk⟩ tx p row []),nT,fits (tk.length+c.length)=true,nT,nT,(x.po=true)→nT,nT,(x.po=true)→nT,nT,((aa c x.wo)=false)→nT,((aa c x.wo)=false)→((aa c x.qu)=false)→nT,((aa c x.wo)=false)→((aa c x.qu)=false)→(x.wh=true)→[PV.ref 1]=[.ref 1],((aa c x.wo)=false)→((aa c x.qu)=false)→(x.wh=true)→nX (b8 false x ⟨.str st,ln,tk⟩ tx p row []),((aa c x.wo)=false)→((aa c x.qu)=false)→(x.wh=true)→nT,fits (tk.length+c.length)=true,[PV.ref 1]=[.ref 1],nX (b8 false x ⟨.str st,ln,tk⟩ tx p row []),nT,nT,fits (row.length+1)=true,nT,nF,nT,nE tk]:=by kernel_rfl
 have hX:nX (b8 false x ⟨.str st,ln,tk⟩ tx p row []):=⟨_,_,_,_,_,_,_,rfl⟩;rw[e];exact ⟨rfl,rfl,rfl,rfl,rfl,rfl,rfl,rfl,rfl,λz=>rfl,rfl,rfl,rfl,rfl,h1,rfl,λz=>rfl,rfl,rfl,hX,rfl,rfl,rfl,rfl,rfl,λz=>rfl,rfl,rfl,rfl,rfl,rfl,rfl,rfl,f1,rfl,λz=>rfl,λz z=>rfl,λz z=>rfl,rfl,f1,rfl,rfl,rfl,rfl,rfl,rfl,λz=>rfl,rfl,f2,f3,f1,rfl,rfl,rfl,rfl,rfl,λz=>rfl,rfl,rfl,rfl,rfl,h1,rfl,rfl,λz=>rfl,rfl,rfl,hX,rfl,f1,rfl,rfl,λz=>rfl,rfl,λz=>rfl,rfl,λz=>rfl,λz z=>rfl,λz z z=>rfl,λz z z=>hX,λz z z=>rfl,f1,rfl,hX,rfl,rfl,f4,rfl,rfl,rfl,λz=>rfl,trivial⟩
theorem oF {Φ:Out→Prop} (h0:tk.length+st.length+c.length≤10000) (hr:row.length≤1000) (h1:tx.length≤1000) (h:(jc run x c tx st ln tk q es p row).Sat Φ):(jd run x c tx st ln tk q es p row).Sat Φ:=by have f1:fits (tk.length+c.length)=true:=fits_of (by lia);have f2:fits (tk.length+st.length)=true:=fits_of (by lia);have f3:fits ((tk++st).length+c.length)=true:=fits_of (by rw[List.length_append];lia);have f4:fits (row.length+1)=true:=fits_of (by lia);refine ly ?_ (by rw[LB];exact h);induction run with|true=>exact LD f1 f2 f3 f4 h1|false=>exact LF f1 f2 f3 f4 h1
end
open Builtin.Str (occurrences subAt)
open StrLaws (occBody occ_eq)
noncomputable def mC (y:Nat):Nat→List Nat→List Nat|_,[]=>[]|a,c::r=>if c=y then a::mC y (a+1) r else mC y (a+1) r
theorem subAt_one (k:List Nat) (y a:Nat):subAt (S k) (S [y]) a=decide ((k.drop a).head?=some y):=by
 rw[StrLaws.subAt_eq];show (((k.drop a).take 1)==[y])=_;induction k.drop a using List.casesOn with|nil=>rfl|cons c r=>
  show ([c]==[y])=decide (some c=some y)
  by_cases h:c=y
  ·subst h;simp
  ·simp[h]
theorem tX (k:List Nat) (y lim:Nat):∀(l:List Nat) (a:Nat) (st:Array Nat×Nat),k.drop a=l→a+l.length=k.length→st.2≤a→ (forIn (List.range' a (l.length+1)) st (occBody (S k) (S [y]) k.length lim)).run.fst.toList=st.1.toList++(mC y a l).take (lim - st.1.size)
 | [],a,st,hd,hl,hf=>by
  rw[show ([]:List Nat).length+1=1 from rfl,List.range'_succ,List.forIn_cons];have hk:¬ ((((st.fst.size<lim∧st.snd≤a)∧a+(S [y]).length≤k.length))∧subAt (S k) (S [y]) a=true):=λq=>by have e:a+1≤k.length:=q.1.2;have:a+0=k.length:=hl;lia
  unfold occBody;rw[if_neg hk];simp[mC]
 | c::r,a,st,hd,hl,hf=>by
  have hr:k.drop (a+1)=r:=by rw[←List.drop_drop,hd];rfl
  have RJ:a+1+r.length=k.length:=by rw[List.length_cons] at hl;lia
  rw[List.range'_succ,List.forIn_cons];have hs:subAt (S k) (S [y]) a=decide (c=y):=by rw[subAt_one,hd];simp
  have hz:a+(S [y]).length≤k.length:=by show a+1≤_;lia
  unfold occBody
  by_cases hc:c=y
  ·subst hc;by_cases hq:st.1.size<lim
   ·rw[if_pos ⟨⟨⟨hq,hf⟩,hz⟩,by rw[hs];simp⟩];refine (tX k c lim r (a+1) (st.1.push a,a+1) hr RJ (Nat.le_refl _)).trans ?_;show (st.1.push a).toList++(mC c (a+1) r).take (lim - (st.1.push a).size)=st.1.toList++(mC c a (c::r)).take (lim - st.1.size);rw[Array.size_push,Array.toList_push,mC,if_pos rfl,show lim - st.1.size=(lim - (st.1.size+1))+1 by lia,List.take_succ_cons,List.append_assoc];rfl
   ·rw[if_neg λq=>hq q.1.1.1];refine (tX k c lim r (a+1) st hr RJ (Nat.le_succ_of_le hf)).trans ?_;rw[show lim - st.1.size=0 by lia,List.take_zero,List.take_zero]
  ·rw[if_neg λq=>hc (by have:=q.2;rw[hs] at this;exact of_decide_eq_true this)];refine (tX k y lim r (a+1) st hr RJ (Nat.le_succ_of_le hf)).trans ?_;rw[mC,if_neg hc]
theorem tY (k:List Nat) (y lo lim:Nat) (h:lo≤k.length):occurrences (S k) (S [y]) lo k.length lim=(mC y lo (k.drop lo)).take lim:=by
 rw[occ_eq];have e:k.length+1 - lo=(k.drop lo).length+1:=by rw[List.length_drop];lia
 rw[e];have:=tX k y lim (k.drop lo) lo (#[],lo) rfl (by rw[List.length_drop];lia) (Nat.le_refl _);simpa using this
noncomputable def upTo (y:Nat):List Nat→Option Nat|[]=>Option.none|c::r=>if c=y then some 0 else (upTo y r).map (·+1)
theorem qg (y:Nat):∀(l:List Nat) (a:Nat),(mC y a l).take 1=match upTo y l with
  | some j=>[a+j]
  | Option.none=>[]
 | [],a=>rfl
 | c::r,a=>by
  unfold mC upTo
  by_cases h:c=y
  ·rw[if_pos h,if_pos h];rfl
  ·rw[if_neg h,if_neg h,qg y r (a+1)];induction upTo y r with|none=>rfl|some j=>show [a+1+j]=[a+(j+1)];rw[show a+1+j=a+(j+1) by lia]
theorem lB (y:Nat):∀(l:List Nat) (a:Nat),(mC y a l).length=l.count y
 | [],a=>rfl
 | c::r,a=>by
  unfold mC
  by_cases h:c=y
  ·rw[if_pos h,List.length_cons,lB y r,h,List.count_cons_self]
  ·rw[if_neg h,lB y r,List.count_cons_of_ne h]
noncomputable def Jy (y a:Nat) (l:List Nat):Int:=match upTo y l with
 | some j=>((a+j:Nat):Int)
 | Option.none=>-1
theorem wz (k:List Nat) (y:Nat):gY k [y]=Jy y 0 k:=by unfold gY Txt.find Jy;rw[show (S k).length=k.length from rfl,tY k y 0 1 (Nat.zero_le _),List.drop_zero,qg];induction upTo y k <;> rfl
theorem tZ (k:List Nat) (y n:Nat) (h:n≤k.length):kX k [y] (n:Int) (k.length:Nat)=Jy y n (k.drop n):=by
 have e:∀m:Nat,fromIndex (S k).length (m:Int)=m:=λm=>by unfold fromIndex;rw[if_neg (by lia)];lia
 unfold kX Jy;rw[e,e,show (S k).length=k.length from rfl,Nat.min_self,tY k y n 1 h,qg];induction upTo y (k.drop n) <;> rfl
theorem t7 (k:List Nat) (y:Nat):fh k [y]=(k.count y:Nat):=by unfold fh Txt.count;rw[show (S k).length=k.length from rfl,tY k y 0 _ (Nat.zero_le _),List.drop_zero,List.take_of_length_le,lB];rw[lB];exact Nat.le_succ_of_le List.count_le_length
theorem dh (l:List Nat) (c:Nat):aa [c] l=decide (c∈l):=StrLaws.found_one (S l) c
noncomputable def cS:List Nat→List Nat|[]=>[]|c::r=>if c=10 then r else cS r
theorem gQ:∀r:List Nat,cS r=match upTo 10 r with
  | some j=>r.drop (j+1)
  | Option.none=>[]
 | []=>rfl
 | c::r=>by
  unfold cS upTo
  by_cases h:c=10
  ·rw[if_pos h,if_pos h];rfl
  ·rw[if_neg h,if_neg h,gQ r];induction upTo 10 r <;> rfl
theorem oG {y:Nat}:∀{r:List Nat} {j:Nat},upTo y r=some j→j<r.length
 | c::r,j,h=>by
  unfold upTo at h
  split at h
  ·obtain rfl:=Option.some.inj h;exact Nat.succ_pos _
  ·refine aG (Option.map_eq_some_iff.mp h) λi hi ae=>?_;subst ae;exact Nat.succ_lt_succ (oG hi)
theorem zZ {y:Nat}:∀{r:List Nat},upTo y r=Option.none→r.count y=0
 | [],_=>rfl
 | c::r,h=>by
  unfold upTo at h
  split at h
  ·exact sN h
  ·rename_i n;rw[List.count_cons_of_ne n];exact zZ (Option.map_eq_none_iff.mp h)
theorem wA:∀{r:List Nat} {j:Nat},upTo 10 r=some j→r.count 10=(cS r).count 10+1
 | c::r,j,h=>by
  unfold upTo at h
  split at h
  ·rename_i e;subst e;rw[List.count_cons_self];rfl
  ·rename_i e;refine aG (Option.map_eq_some_iff.mp h) λi hi ae=>?_;subst ae;rw[List.count_cons_of_ne e,wA hi];show _=(if c=10 then r else cS r).count 10+1;rw[if_neg e]
theorem sd (r:List Nat):L.hM r=Jy 10 0 r+1:=congrArg (·+1) (wz r 10)
theorem gR (r:List Nat):L.cv r=cS r:=by unfold L.cv;rw[sd,gQ];unfold Jy;induction h:upTo 10 r with|none=>rfl|some j=>have:=oG h;show (bif decide ((0:Int)<((0+j:Nat):Int)+1) then cq r (some (((0+j:Nat):Int)+1)) Option.none else [])=r.drop (j+1);rw[decide_eq_true (p:=(0:Int)<((0+j:Nat):Int)+1) (Int.ofNat_lt.mpr (Nat.succ_pos (0+j))),cond_true];unfold cq;have e:iM r.length (some (((0+j:Nat):Int)+1))=j+1:=(gB (k:=0+j+1) (by rw[Nat.zero_add];exact this)).trans (by rw[Nat.zero_add]);rw[e];show List.take (r.length - (j+1)) _=_;rw[List.take_of_length_le];rw[List.length_drop];exact Nat.le_refl _
theorem Ot (r:List Nat):(L.hM r==0)=(upTo 10 r).isNone:=by rw[sd];unfold Jy;induction h:upTo 10 r with|none=>rfl|some j=>exact beq_eq_false_iff_ne.mpr (λe=>by have e:((0+j:Nat):Int)+1=0:=e;lia)
theorem yA (r:List Nat):(cS r).length≤r.length:=by rw[←gR];exact hN r
noncomputable def MD (tx:List Nat) (n:Nat):Nat:=tx.length - (cS (tx.drop n)).length
theorem BQ {t d:Nat} (hd:d=t - n) (hj:j<d) (h:n≤t):t - (d - (j+1))=n+j+1:=by subst hd;rw[Nat.sub_sub,Nat.sub_sub_self (Nat.add_comm n (j+1)▸Nat.add_le_of_le_sub h hj)];rfl
theorem wB {tx:List Nat} (h:n≤tx.length):gO tx (n:Nat)=(MD tx n:Nat)∧tx.drop (MD tx n)=cS (tx.drop n)∧MD tx n≤tx.length:=by
 have hd:(tx.drop n).length=tx.length - n:=List.length_drop;refine ⟨?_,?_,Nat.sub_le _ _⟩
 ·unfold gO wq MD;rw[tZ tx 10 n h,gQ];unfold Jy;by_cases hn:tx.length≤n
  ·rw[decide_eq_true (by lia),cond_true,List.drop_eq_nil_of_le hn];exact congrArg _ (Nat.le_antisymm h hn)
  ·rw[decide_eq_false (by lia),cond_false];induction e:upTo 10 (tx.drop n) with|none=>rfl|some j=>have:=oG e;show (bif decide ((0:Int)≤((n+j:Nat):Int)) then ((n+j:Nat):Int)+1 else _)=((tx.length - ((tx.drop n).drop (j+1)).length:Nat):Int);rw[decide_eq_true (Int.natCast_nonneg _),cond_true,List.length_drop,BQ hd this h];rfl
 ·unfold MD;rw[gQ];induction e:upTo 10 (tx.drop n) with|none=>exact List.drop_eq_nil_of_le (Nat.le_refl _)|some j=>have:=oG e;show tx.drop (tx.length - ((tx.drop n).drop (j+1)).length)=(tx.drop n).drop (j+1);rw[List.drop_drop,List.length_drop,Nat.sub_sub_self (Nat.add_comm n (j+1)▸Nat.add_le_of_le_sub h (hd▸this))]
structure Rl (run:Bool) (x:Lx) (kv:KV) (tx:List Nat):Prop where
 key:∀c∈tx,cK [c] kv=true
 ws:∀c∈tx,aa [119] (L.ro kv [c])=aa [c] x.ws
 co:∀c∈tx,aa [114] (L.ro kv [c])=aa [c] x.co
 wo:∀c∈tx,aa [108] (L.ro kv [c])=aa [c] x.wo
 qu:∀c∈tx,aa [109] (L.ro kv [c])=aa [c] x.qu
 es:∀c∈tx,aa [101] (L.ro kv [c])=(x.po&&aa [c] x.es)
 eq:∀c∈tx,aa [115] (L.ro kv [c])=aa [c] x.eq
 pn:∀c∈tx,aa [112] (L.ro kv [c])=aa [c] x.pn
 run:x.pn.isEmpty=!run
 off:∀c,(c=32∨c=97∨c=99)→aa [c] x.qu=false∧aa [c] x.es=false
 len:tx.length≤500
noncomputable def wC (rec:PV→List Nat→Ent) (po wh:Bool) (i c:Nat) (r:List Nat) (role:List Nat) (M P:Bool):Ent:=bif sEq role [119] then (bif Nat.beq i 0 then rec (.int 0) r else ⟨[],r,.int 0,[],false,false⟩) else bif sEq role [114] then L.jS (bif po&&Nat.blt 0 i then ⟨[],L.cv r,.int 0,[],false,false⟩ else rec (.int i) (L.cv r)) r else bif sEq role [101]&&!M then (match r with|[]=>⟨[],[],.str [c],[],false,false⟩|d::r'=>L.add [d] (rec (.int 1) r') false) else bif sEq role [101]||(sEq role [109]&&po) then rec (.str [c]) r else bif sEq role [109]&&Nat.beq i 0 then L.add [c] (rec (.str [c]) r) false else bif sEq role [112] then L.add [c] (rec (.int 2) r) false else bif !(sEq role [])||(Nat.blt i 2&&(wh&&!P)) then L.add [c] (rec (.int 1) r) false else bif Nat.beq i 0 then ⟨[c],r,.int 0,[],false,false⟩ else ⟨[],r,.int 0,[c],false,false⟩
noncomputable def bl (b:Bool) (n:Nat) (t:List Nat):List Nat:=bif b then [n] else t
section
variable {run:Bool} {x:Lx} {kv:KV} {tx:List Nat} {c:Nat} {r:List Nat}
noncomputable abbrev rs (x:Lx) (kv:KV):PV→List Nat→Ent:=L.rest x.po x.wh kv
theorem LG (R:Rl run x kv tx) (hc:c∈tx):rs x kv (.int 0) (c::r)=wC (rs x kv) x.po x.wh 0 c r (bl (aa [c] x.ws) 119 (bl (aa [c] x.co) 114 (bl (x.po&&aa [c] x.es) 101 (bl (aa [c] x.wo) 108 (bl (aa [c] x.pn) 112 (bl (aa [c] x.qu) 109 [])))))) (aa [c] x.qu) (aa [c] x.pn):=by rw[←R.ws c hc,←R.co c hc,←R.es c hc,←R.wo c hc,←R.pn c hc,←R.qu c hc];exact gM (i:=0)
theorem H5 (R:Rl run x kv tx) (hc:c∈tx) (hp:x.po=true):rs x kv (.int 1) (c::r)=wC (rs x kv) x.po x.wh 1 c r (bl (aa [c] x.ws) 119 (bl (aa [c] x.co) 114 (bl (aa [c] x.qu) 109 (bl (x.po&&aa [c] x.es) 101 (bl (aa [c] x.wo) 108 []))))) (aa [c] x.qu) (aa [c] x.pn):=by rw[←R.ws c hc,←R.co c hc,←R.es c hc,←R.wo c hc,←R.pn c hc,←R.qu c hc];induction x using Lx.casesOn;cases hp;exact gM (i:=1)
theorem H6 (R:Rl run x kv tx) (hc:c∈tx) (hp:x.po=false):rs x kv (.int 1) (c::r)=wC (rs x kv) x.po x.wh 1 c r (bl (aa [c] x.ws) 119 (bl (aa [c] x.co) 114 (bl (aa [c] x.wo) 108 (bl (aa [c] x.qu) 109 [])))) (aa [c] x.qu) (aa [c] x.pn):=by rw[←R.ws c hc,←R.co c hc,←R.wo c hc,←R.pn c hc,←R.qu c hc];induction x using Lx.casesOn;cases hp;exact gM (i:=1)
theorem LH (R:Rl run x kv tx) (hc:c∈tx):rs x kv (.int 2) (c::r)=wC (rs x kv) x.po x.wh 2 c r (bl (aa [c] x.ws) 119 (bl (aa [c] x.co) 114 (bl (aa [c] x.pn) 112 []))) (aa [c] x.qu) (aa [c] x.pn):=by rw[←R.ws c hc,←R.co c hc,←R.pn c hc,←R.qu c hc];exact gM (i:=2)
noncomputable def Jz (rec:PV→List Nat→Ent) (po:Bool) (m c:Nat) (r:List Nat) (E S M:Bool):Ent:=bif sEq [c] [m] then (bif po then L.add [] (rec (.int 1) r) true else ⟨[c],r,.int 0,[],true,false⟩) else bif !E||!S then L.add [c] (rec (.str [m]) r) true else bif M then rec (.str [c]) r else match r with|[]=>⟨[],[],.str [c],[],true,false⟩|d::r'=>L.add (bif cz [d] [[c],[m]] then [d] else [c]++[d]) (rec (.str [m]) r') true
theorem H8 (R:Rl run x kv tx) (hm:m∈tx) (hc:c∈tx):rs x kv (.str [m]) (c::r)=Jz (rs x kv) x.po m c r (x.po&&aa [c] x.es) (aa [m] x.eq) (aa [c] x.qu):=by rw[←R.es c hc,←R.eq m hm,←R.qu c hc];exact mu
theorem ny (kv:KV) (po wh:Bool):∀(k:Nat) (r:List Nat) (m:Nat),r.length≤k→(∀c∈r,cK [c] kv=true)→cK [m] kv=true→(L.rest po wh kv (.str [m]) r).quoted=true|k,[],m,_,_,hm=>by rw[Ex];exact hm|k+1,c::r,m,hl,hr,hm=>by rw[mu];have ad:∀(w:List Nat) (e:Ent),(L.add w e true).quoted=true:=λz z=>rfl;unfold L.markB;induction sEq [c] [m] with|true=>induction po <;> rfl|false=>induction !(aa [101] (L.ro kv [c]))||!(aa [115] (L.ro kv [m])) with|true=>rfl|false=>induction aa [109] (L.ro kv [c]) with|true=>exact ny kv po wh k r c (Nat.le_of_succ_le_succ hl) (λy h=>hr y (List.mem_cons_of_mem _ h)) (hr c List.mem_cons_self)|false=>induction r using List.casesOn <;> rfl
end
inductive Kd where
 | gap | word | run
 | mark (m:Nat)
 | wD (c:Nat)
 | wF (c m:Nat)
noncomputable def Kd.st:Kd→List Nat|gap=>[32]|word=>[97]|run=>[99]|mark m=>[m]|wD c=>[c]|wF c _=>[c]
noncomputable def Kd.ent (x:Lx) (kv:KV) (sg:List Nat):Kd→Ent
 | gap=>rs x kv (.int 0) sg
 | word=>rs x kv (.int 1) sg
 | run=>rs x kv (.int 2) sg
 | mark m=>rs x kv (.str [m]) sg
 | wD c=>match sg with|[]=>⟨[],[],.str [c],[],false,false⟩|d::r=>L.add [d] (rs x kv (.int 1) r) false
 | wF c m=>match sg with|[]=>⟨[],[],.str [c],[],true,false⟩|d::r=>L.add (bif cz [d] [[c],[m]] then [d] else [c]++[d]) (rs x kv (.str [m]) r) true
noncomputable def Kd.ok (run:Bool) (x:Lx) (tx tk es:List Nat) (q:Bool):Kd→Prop|gap=>tk=[]∧q=false|word=>(!tk.isEmpty||(x.po&&(q&&true)||false))=true|.run=>tk.isEmpty=false∧run=true|mark m=>m∈tx∧aa [m] x.qu=true|wD c=>c∈tx∧aa [c] x.qu=false∧aa [c] x.es=true∧x.po=true∧es=[97]|wF c m=>c∈tx∧aa [c] x.qu=false∧aa [c] x.es=true∧m∈tx∧aa [m] x.qu=true∧es=[m]∧q=true
noncomputable def w9 (ln:Int) (sg:List Nat) (e:Ent):Int:=ln+(sg.count 10:Nat) - (e.left.count 10:Nat)+(bif e.cut then 1 else 0)
noncomputable def ME (kv:KV) (pl:PV):Fl:=bif L.isKey kv pl then (bif aa [109] (L.ro kv (strOf pl)) then lA else sa) else .next
noncomputable def qh (run:Bool) (e:Ent) (row:List PV):List PV:=bif run then row else bif e.ab.isEmpty then row else .str e.ab::row
noncomputable def je (q:Bool):Loc:=[("self",.ref 1),("quoted",.bool q)]
noncomputable def Fs (run:Bool) (x:Lx) (kv:KV) (tx:List Nat) (e:Ent) (ln:Int) (tk:List Nat) (q:Bool) (row:List PV) (sg:List Nat):Out:=⟨ME kv e.place,je (q||e.quoted),b8 run x ⟨L.ay e.place,w9 ln sg e,tk++e.word⟩ tx ((tx.length - e.left.length:Nat):Int) (qh run e row) (bif run then (bif e.ab.isEmpty then [] else [.str e.ab]) else [])⟩
section
variable {run:Bool} {x:Lx} {kv:KV} {tx:List Nat} {e e':Ent} {ln ln':Int} {tk tk':List Nat} {q q':Bool} {row:List PV} {sg sg':List Nat}
theorem sf (h1:e.place=e'.place) (h2:e.left=e'.left) (h3:e.ab=e'.ab) (h4:tk++e.word=tk'++e'.word) (h5:(q||e.quoted)=(q'||e'.quoted)) (h6:w9 ln sg e=w9 ln' sg' e'):Fs run x kv tx e ln tk q row sg=Fs run x kv tx e' ln' tk' q' row sg':=by unfold Fs qh;rw[h1,h2,h3,h4,h5,h6]
theorem qi :w9 (iJ [c] ln) r e=w9 ln (c::r) e:=by
 unfold w9 iJ
 by_cases h:c=10
 ·subst h;rw[List.count_cons_self,show sEq [10] [10]=true from rfl,cond_true];lia
 ·rw[List.count_cons_of_ne h,show sEq [c] [10]=false from by induction q:sEq [c] [10] with|false=>rfl|true=>have:=lEq_iff.mp q;cases this;exact absurd rfl h,cond_false]
end
structure JJ (run:Bool) (x:Lx) (kv:KV) (tx:List Nat) (Φ:Out→Prop) (k:Kd) (ln:Int) (tk es:List Nat) (q:Bool) (row:List PV) (sg:List Nat):Prop where
 ok:k.ok run x tx tk es q
 sz:tk.length+2*sg.length≤2000
 rz:row.length≤1000
 fin:Φ (Fs run x kv tx (k.ent x kv sg) ln tk q row sg)
def JL (run:Bool) (x:Lx) (kv:KV) (tx:List Nat) (Φ:Out→Prop) (j:Nat) (loc:Loc) (H:Hp):Prop:=∃k ln tk es q row as n,loc=aY q es∧H=b8 run x ⟨.str (Kd.st k),ln,tk⟩ tx (n:Nat) row (jx as)∧n≤tx.length∧(as=[]∨(run=true∧∃c∈tx,as=[c]))∧(as++tx.drop n).length=j∧JJ run x kv tx Φ k ln tk es q row (as++tx.drop n)
section
variable {run:Bool} {x:Lx} {kv:KV} {tx:List Nat} {Φ:Out→Prop} {j:Nat}
noncomputable abbrev Gt (run:Bool) (x:Lx) (kv:KV) (tx:List Nat) (Φ:Out→Prop) (j:Nat):Out→Prop:=g6 (λl H=>∃j',j'<j∧JL run x kv tx Φ j' l H) Φ
theorem oH {e:Ent} {ln':Int} {tk':List Nat} {row' as':List PV} {sg:List Nat} {st:PV} (QQ:ME kv e.place=fl) (KC:L.ay e.place=st) (Vg:w9 ln sg e=ln') (Vh:tk++e.word=tk') (hq:(q||e.quoted)=q') (hn:tx.length - e.left.length=n) (tM:qh run e row=row') (has:(bif run then (bif e.ab.isEmpty then [] else [PV.str e.ab]) else [])=as'):Fs run x kv tx e ln tk q row sg=⟨fl,je q',b8 run x ⟨st,ln',tk'⟩ tx (n:Nat) row' as'⟩:=by subst QQ;subst KC;subst Vg;subst Vh;subst hq;subst hn;subst tM;subst has;rfl
theorem qj {es:List Nat} {r:Loc}:Sub (je q) (aD (aY q es) r):=Sub.app (l:=je q) (r:=aD [("escapedstate",.str es)] r)
theorem qk {c:List Nat} {st:PV} {es:List Nat} {p:Int} (h:Φ ⟨.next,je q,b8 run x ⟨st,ln,tk⟩ tx p row as⟩):Gt run x kv tx Φ j (jb run x c tx .brk st ln tk q es p row as):=⟨_,qj,h⟩
theorem z4 {c:List Nat} (hf:fl=.next∨fl=.cont) (k:Kd) {es:List Nat} (hn:n≤tx.length) (hj:(tx.drop n).length<j) (h:JJ run x kv tx Φ k ln tk es q row (tx.drop n)):Gt run x kv tx Φ j (jb run x c tx fl (.str k.st) ln tk q es (n:Nat) row []):=by have go:∃j',j'<j∧JL run x kv tx Φ j' (aY q es) (b8 run x ⟨.str k.st,ln,tk⟩ tx (n:Nat) row []):=⟨_,hj,k,ln,tk,es,q,row,[],n,rfl,rfl,hn,.inl rfl,rfl,h⟩;rcases hf with rfl | rfl <;> exact ⟨_,Sub.app,go⟩
theorem gone (hn:n≤tx.length) (h:tx.drop n=[]):n=tx.length:=by have:=congrArg List.length h;rw[List.length_drop] at this;have:tx.length - n=0:=this;lia
theorem z5 {e:Ent} (h1:e.left=[]) (h2:e.cut=false):w9 ln [] e=ln:=by unfold w9;rw[h1,h2];show ln+0 - 0+0=ln;lia
theorem off_ne (R:Rl run x kv tx) (h:aa [m] x.qu=true∨aa [m] x.es=true):sEq [m] [32]=false:=by induction q:sEq [m] [32] with|false=>rfl|true=>have:=lEq_iff.mp q;cases this;have:=R.off 32 (.inl rfl);rw[this.1,this.2] at h;rcases h with h | h <;> exact fT h
theorem t9 (R:Rl run x kv tx) {c:List Nat} (h:aa [m] x.qu=true) {es:List Nat} {p:Int} {G:Out→Prop} (g:(LA run x c tx [m] ln tk es p row).Sat G):(jc run x c tx [m] ln tk q es p row).Sat G:=by unfold jc;rw[off_ne R (.inl h),h];exact ⟨nofun,λz=>⟨λz=>g,nofun⟩⟩
theorem ql (R:Rl run x kv tx) {c:List Nat} (h1:aa [m] x.qu=false) (h:aa [m] x.es=true) {es:List Nat} {p:Int} {G:Out→Prop} (g:(HZ run x c tx [m] ln tk q es p row).Sat G):(jc run x c tx [m] ln tk q es p row).Sat G:=by unfold jc;rw[off_ne R (.inr h),h,h1];exact ⟨nofun,λz=>⟨nofun,λz=>⟨λz=>g,nofun⟩⟩⟩
theorem oI (R:Rl run x kv tx) {c:List Nat} {a:Nat} (ha:a=97∨a=99) {es:List Nat} {p:Int} {G:Out→Prop} (g:(zY run x c tx [a] ln tk q es p row).Sat G):(jc run x c tx [a] ln tk q es p row).Sat G:=by refine aj (R.off a (.inr ha)) λh1 h2=>?_;unfold jc;rw[h1,h2,show sEq [a] [32]=false by rcases ha with rfl | rfl <;> rfl,show cz [a] [[97],[99]]=true by rcases ha with rfl | rfl <;> rfl];exact ⟨nofun,λz=>⟨nofun,λz=>⟨nofun,λz=>⟨λz=>g,nofun⟩⟩⟩⟩
theorem Ft {c:List Nat} {es:List Nat} {p:Int} {G:Out→Prop} (g:(Lz run x c tx [32] ln tk q es p row).Sat G):(jc run x c tx [32] ln tk q es p row).Sat G:=⟨λz=>g,nofun⟩
theorem nz {c:List Nat} {st:PV} {w:List Nat} {es:List Nat} {p:Int} {G:Out→Prop} (h:(!w.isEmpty||((x.po&&(q&&true))||false))=true) (g:G (jb run x c tx .brk st ln w q es p row as)):(tW run x c tx q es st ln w p row as).Sat G:=⟨λy=>g,λz=>by rw[h] at z;exact tF z⟩
theorem Fu (R:Rl run x kv tx) {k:Kd} {es:List Nat} (hn:n=tx.length) (J:JJ run x kv tx Φ k ln tk es q row []):(jc run x [] tx k.st ln tk q es (n:Nat) row).Sat (Gt run x kv tx Φ j):=by
 have none_:∀e:Ent,k.ent x kv []=e→e=⟨[],[],.none,[],false,false⟩→Gt run x kv tx Φ j (jb run x [] tx .brk .none ln tk q es (n:Nat) row []):=λe h1 h2=>qk (by have F:=J.fin;rw[h1,h2,oH (n:=n) (ln':=ln) (tk':=tk) (q':=q) (row':=row) (as':=[]) rfl rfl (z5 rfl rfl) (List.append_nil tk) (Bool.or_false q) (by show tx.length - 0=n;lia) (by unfold qh;induction run <;> rfl) (by induction run <;> rfl)] at F;exact F);have bad:∀(m:Nat) (b q':Bool) (fl:Fl),m∈tx→k.ent x kv []=⟨[],[],.str [m],[],b,false⟩→(q||b)=q'→(bif aa [m] x.qu then lA else sa)=fl→Φ ⟨fl,je q',b8 run x ⟨.str [m],ln,tk⟩ tx (n:Nat) row []⟩:=λm b q' fl hm h1 h2 h3=>by have F:=J.fin;have ik:L.isKey kv (.str [m])=true:=R.key m hm;rw[h1,oH (n:=n) (ln':=ln) (tk':=tk) (q':=q') (row':=row) (as':=[]) (fl:=fl) (by unfold ME;rw[ik,cond_true,show strOf (PV.str [m])=[m] from rfl,R.qu m hm];exact h3) rfl (z5 rfl rfl) (List.append_nil tk) h2 (by show tx.length - 0=n;lia) (by unfold qh;induction run <;> rfl) (by induction run <;> rfl)] at F;exact F
 induction k using Kd.casesOn with|gap=>exact Ft ⟨λz=>none_ _ rfl rfl,nofun⟩|word=>exact oI R (.inl rfl) ⟨λz=>none_ _ rfl rfl,nofun⟩|run=>exact oI R (.inr rfl) ⟨λz=>none_ _ rfl rfl,nofun⟩|mark m=>refine aj J.ok λh1 h2=>?_;have ik:L.isKey kv (.str [m])=true:=R.key m h1;refine t9 R h2 ⟨λz=>⟨_,qj,bad m true true lA h1 ?_ (Bool.or_true q) (by rw[h2];rfl)⟩,nofun⟩;show L.yj kv (.str [m])=_;unfold L.yj;rw[ik];rfl|wD c=>refine lG J.ok λh1 h2 h3 z=>?_;exact ql R h2 h3 ⟨λz=>⟨_,qj,bad c false q sa h1 rfl (Bool.or_false q) (by rw[h2];rfl)⟩,nofun⟩|wF c m=>refine MK J.ok λh1 h2 h3 z z z h4=>?_;exact ql R h2 h3 ⟨λz=>⟨_,qj,bad c true q sa h1 rfl (by rw[h4];rfl) (by rw[h2];rfl)⟩,nofun⟩
end
theorem LI {run:Bool} {x:Lx} {kv:KV} {tx:List Nat} (R:Rl run x kv tx) (h:aa [c] x.pn=true):run=true:=by
 have:=R.run;rw[dh] at h;induction e:x.pn using List.casesOn with
 | nil=>rw[e] at h;cases of_decide_eq_true h
 | cons _ _=>rw[e] at this;induction run <;> first | rfl | exact fT this
theorem z7 {e:Ent} (h:cS r=[]→e.cut=false):w9 ln (c::r) (L.jS e r)=w9 (iJ [c] ln+1) (cS r) e:=by
 rw[←qi];unfold w9 L.jS;show iJ [c] ln+((r.count 10:Nat):Int) - ((e.left.count 10:Nat):Int)+(bif (bif e.cut then e.cut else L.hM r==0) then (1:Int) else 0)=_;rw[Ot];induction u:upTo 10 r with
 | none=>
  have hr:cS r=[]:=by rw[gQ,u]
  rw[h hr,hr,zZ u];show iJ [c] ln+((0:Nat):Int) - ((e.left.count 10:Nat):Int)+1=iJ [c] ln+1+((0:Nat):Int) - ((e.left.count 10:Nat):Int)+0;lia
 | some j=>
  rw[wA u];have:(bif (bif e.cut then e.cut else (some j).isNone) then (1:Int) else 0)=bif e.cut then 1 else 0:=by induction e.cut <;> rfl
  rw[this];lia
section
variable {run:Bool} {x:Lx} {kv:KV} {tx:List Nat} {Φ:Out→Prop} {ln:Int} {tk es:List Nat} {q:Bool} {row:List PV} {c n:Nat}
structure Ca (tx:List Nat) (c n:Nat):Prop where
 mem:c∈tx
 le:n≤tx.length
theorem Fv (le:n≤tx.length):tx.length - (tx.drop n).length=n:=by rw[List.length_drop];lia
theorem bI {k k':Kd} {tk' oi:List Nat} (D:Ca tx c n) (J:JJ run x kv tx Φ k ln tk es q row (c::tx.drop n)) (hf:fl=.next∨fl=.cont) (e:Ent) (he:k.ent x kv (c::tx.drop n)=e) (hp:e.place=(k'.ent x kv (tx.drop n)).place) (hl:e.left=(k'.ent x kv (tx.drop n)).left) (ha:e.ab=(k'.ent x kv (tx.drop n)).ab) (hc:e.cut=(k'.ent x kv (tx.drop n)).cut) (hw:tk++e.word=tk'++(k'.ent x kv (tx.drop n)).word) (hq:(q||e.quoted)=(q'||(k'.ent x kv (tx.drop n)).quoted)) (hz:tk'.length≤tk.length+2) (ok:k'.ok run x tx tk' oi q'):Gt run x kv tx Φ (c::tx.drop n).length (jb run x c' tx fl (.str k'.st) (iJ [c] ln) tk' q' oi (n:Nat) row []):=by
 refine z4 hf k' D.le (Nat.lt_succ_self _) ⟨ok,?_,J.rz,?_⟩
 ·have:=J.sz;rw[List.length_cons] at this;lia
 ·have F:=J.fin;rw[he,sf hp hl ha hw hq (ln':=iJ [c] ln) (sg':=tx.drop n) (by rw[←qi];unfold w9;rw[hl,hc])] at F;exact F
theorem ua {k k':Kd} (D:Ca tx c n) (J:JJ run x kv tx Φ k ln tk es q row (c::tx.drop n)) (hf:fl=.next∨fl=.cont) (he:k.ent x kv (c::tx.drop n)=L.jS (k'.ent x kv (L.cv (tx.drop n))) (tx.drop n)) (hc:(k'.ent x kv []).cut=false) (ok:k'.ok run x tx tk es q):Gt run x kv tx Φ (c::tx.drop n).length (jb run x c' tx fl (.str k'.st) (iJ [c] ln+1) tk q es (gO tx (n:Nat)) row []):=by
 refine fK (wB D.le) λe1 e2 e3=>?_;have ll:=yA (tx.drop n);rw[e1];refine z4 hf k' e3 (by rw[e2];exact Nat.lt_succ_of_le ll) ⟨ok,?_,J.rz,?_⟩
 ·have:=J.sz;rw[List.length_cons] at this;rw[e2];lia
 ·have F:=J.fin;rw[he,gR] at F;rw[e2];rw[sf (e:=L.jS (k'.ent x kv (cS (tx.drop n))) (tx.drop n)) (e':=k'.ent x kv (cS (tx.drop n))) (tk':=tk) (q':=q) (ln':=iJ [c] ln+1) (sg':=cS (tx.drop n)) rfl rfl rfl rfl rfl (z7 λz=>by rw[z];exact hc)] at F;exact F
theorem ub {k:Kd} {tk' as':List PV} {w:List Nat} {row':List PV} (D:Ca tx c n) (J:JJ run x kv tx Φ k ln tk es q row (c::tx.drop n)) {w0 as:List Nat} {qd:Bool} (he:k.ent x kv (c::tx.drop n)=⟨w0,tx.drop n,.int 0,as,qd,false⟩) (hw:tk++w0=w) (hq:(q||qd)=q') (hr:(bif run then row else bif as.isEmpty then row else .str as::row)=row') (ha:(bif run then (bif as.isEmpty then [] else [PV.str as]) else [])=as'):Gt run x kv tx Φ (c::tx.drop n).length (jb run x c' tx .brk (.str [32]) (iJ [c] ln) w q' es (n:Nat) row' as'):=qk (by have F:=J.fin;rw[he,oH (n:=n) (ln':=iJ [c] ln) (fl:=.next) (st:=.str [32]) rfl rfl (by rw[←qi];show iJ [c] ln+(((tx.drop n).count 10:Nat):Int) - (((tx.drop n).count 10:Nat):Int)+0=_;lia) hw hq (Fv D.le) (by exact hr) (by exact ha)] at F;exact F)
theorem lC {k:Kd} (D:Ca tx c n) (J:JJ run x kv tx Φ k ln tk es q row (c::tx.drop n)) {w0:List Nat} {w:List Nat} {qd:Bool} (he:k.ent x kv (c::tx.drop n)=⟨w0,tx.drop n,.int 0,[],qd,false⟩) (hw:tk++w0=w) (hq:(q||qd)=q'):Gt run x kv tx Φ (c::tx.drop n).length (jb run x c' tx .brk (.str [32]) (iJ [c] ln) w q' es (n:Nat) row []):=ub (tk':=[]) D J he hw hq (by induction run <;> rfl) (by induction run <;> rfl)
theorem qm {k:Kd} (D:Ca tx c n) (J:JJ run x kv tx Φ k ln tk es q row (c::tx.drop n)) (he:k.ent x kv (c::tx.drop n)=L.jS ⟨[],L.cv (tx.drop n),.int 0,[],false,false⟩ (tx.drop n)):Gt run x kv tx Φ (c::tx.drop n).length (jb run x c' tx .brk (.str [32]) (iJ [c] ln+1) tk q es (gO tx (n:Nat)) row []):=qk (by refine fK (wB D.le) λe1 e2 e3=>?_;have F:=J.fin;rw[he,gR,oH (n:=MD tx n) (ln':=iJ [c] ln+1) (tk':=tk) (q':=q) (row':=row) (as':=[]) (fl:=.next) (st:=.str [32]) rfl rfl (by rw[z7 λz=>rfl];show iJ [c] ln+1+(((cS (tx.drop n)).count 10:Nat):Int) - (((cS (tx.drop n)).count 10:Nat):Int)+0=_;lia) (List.append_nil tk) (Bool.or_false q) (by rfl) (by unfold qh;induction run <;> rfl) (by induction run <;> rfl)] at F;rw[e1];exact F)
end
theorem b4 {t e:Tr α} (h:b=true) (g:t.Sat Φ):(Tr.br b t e).Sat Φ:=⟨λy=>g,λz=>Bool.noConfusion (h.symm.trans z)⟩
theorem bw {t e:Tr α} (h:b=false) (g:e.Sat Φ):(Tr.br b t e).Sat Φ:=⟨λz=>(Bool.noConfusion (h.symm.trans z)),λy=>g⟩
theorem wG (a b:List Nat):lEq a b=lEq b a:=by rw[Bool.eq_iff_iff,lEq_iff,lEq_iff];exact eq_comm
section
variable {run:Bool} {x:Lx} {kv:KV} {tx:List Nat} {Φ:Out→Prop} {ln:Int} {tk es:List Nat} {q:Bool} {row:List PV} {c n:Nat}
theorem JA (a b:Bool):(a&&(b&&true))=(a&&b):=by rw[Bool.and_true]
theorem Fw (R:Rl run x kv tx) (D:Ca tx c n) (J:JJ run x kv tx Φ .gap ln tk es q row (c::tx.drop n)):(Lz run x [c] tx [32] (iJ [c] ln) tk q es (n:Nat) row).Sat (Gt run x kv tx Φ (c::tx.drop n).length):=by
 refine aj J.ok λae bX=>?_;subst ae;subst bX;have E:=LG (r:=tx.drop n) R D.mem;refine bw rfl ?_;induction h1:aa [c] x.ws with|true=>rw[h1] at E;exact b4 rfl (bw (by induction x.po <;> rfl) (bI (k':=.gap) D J (.inr rfl) _ E rfl rfl rfl rfl rfl rfl (by lia) ⟨rfl,rfl⟩))|false=>
 rw[h1] at E;refine bw rfl ?_;induction h2:aa [c] x.co with|true=>rw[h2] at E;refine b4 rfl (ua (k':=.gap) D J (.inl rfl) (E.trans ?_) rfl ⟨rfl,rfl⟩);induction x.po <;> rfl|false=>
 rw[h2] at E;refine bw rfl ?_;rw[JA];induction h3:x.po&&aa [c] x.es with
 | true=>rw[h3] at E;refine aj (Bool.and_eq_true_iff.mp h3) λhp he=>?_;induction h4:aa [c] x.qu with|true=>rw[h4] at E;exact b4 rfl (bI (k':=.mark c) D J (.inl rfl) _ E rfl rfl rfl rfl rfl rfl (by lia) ⟨D.mem,h4⟩)|false=>rw[h4] at E;exact b4 rfl (bI (k':=.wD c) D J (.inl rfl) _ E rfl rfl rfl rfl rfl rfl (by lia) ⟨D.mem,h4,he,hp,rfl⟩)
 | false=>
 rw[h3] at E;refine bw rfl ?_;induction h4:aa [c] x.wo with|true=>rw[h4] at E;exact b4 rfl (bI (k':=.word) D J (.inl rfl) _ E rfl rfl rfl rfl rfl rfl (by show 1≤_;lia) rfl)|false=>
 rw[h4] at E;refine bw rfl ?_;induction h5:aa [c] x.pn with|true=>rw[h5] at E;exact b4 rfl (bI (k':=.run) D J (.inl rfl) _ E rfl rfl rfl rfl rfl rfl (by show 1≤_;lia) ⟨rfl,LI R h5⟩)|false=>
 rw[h5] at E;refine bw rfl ?_;induction h6:aa [c] x.qu with
 | true=>rw[h6] at E;refine b4 rfl ?_;induction hp:x.po with|true=>rw[hp] at E;exact bw rfl (bI (k':=.mark c) D J (.inl rfl) _ E rfl rfl rfl rfl rfl rfl (by lia) ⟨D.mem,h6⟩)|false=>rw[hp] at E;exact b4 rfl (bI (k':=.mark c) D J (.inl rfl) _ E rfl rfl rfl rfl rfl rfl (by show 1≤_;lia) ⟨D.mem,h6⟩)
 | false=>
 rw[h6] at E;refine bw rfl ?_;induction h7:x.wh with|true=>rw[h7] at E;exact b4 rfl (bI (k':=.word) D J (.inl rfl) _ E rfl rfl rfl rfl rfl rfl (by show 1≤_;lia) rfl)|false=>rw[h7] at E;exact bw rfl (nz rfl (lC D J E rfl rfl))
theorem BR (R:Rl run x kv tx) (D:Ca tx c n) (hd:∀d∈tx.drop n,d∈tx) (J:JJ run x kv tx Φ (.mark m) ln tk es q row (c::tx.drop n)):(LA run x [c] tx [m] (iJ [c] ln) tk es (n:Nat) row).Sat (Gt run x kv tx Φ (c::tx.drop n).length):=by
 refine aj J.ok λhm hq=>?_;have E:=H8 (r:=tx.drop n) R hm D.mem;have mq:∀m∈tx,(rs x kv (.str [m]) (tx.drop n)).quoted=true:=λm h=>ny kv x.po x.wh _ _ _ (Nat.le_refl _) (λd B8=>R.key d (hd d B8)) (R.key m h);refine bw rfl ?_;unfold Jz at E;induction h1:sEq [c] [m] with
 | true=>rw[h1] at E;refine b4 rfl ?_;induction hp:x.po with|true=>rw[hp] at E;exact bw rfl (bI (k':=.word) D J (.inl rfl) _ E rfl rfl rfl rfl rfl (Bool.or_true q) (by lia) (by show (_||((x.po&&(true&&true))||false))=true;rw[hp];exact Bool.or_true _))|false=>rw[hp] at E;exact b4 rfl (lC D J E rfl (Bool.or_true q))
 | false=>
  rw[h1] at E;refine bw rfl ?_;have RK:(x.po&&(aa [c] x.es&&(aa [m] x.eq&&true)))=!(!(x.po&&aa [c] x.es)||!(aa [m] x.eq)):=by induction x.po <;> induction aa [c] x.es <;> induction aa [m] x.eq <;> rfl
  rw[RK];induction h2:!(x.po&&aa [c] x.es)||!(aa [m] x.eq) with|true=>rw[h2] at E;exact bw rfl (bI (k':=.mark m) D J (.inl rfl) _ E rfl rfl rfl rfl (List.append_assoc tk [c] _).symm (Bool.or_true q) (by rw[List.length_append];show _+1≤_;lia) ⟨hm,hq⟩)|false=>
   rw[h2] at E;have he:aa [c] x.es=true:=by induction e:aa [c] x.es with|true=>rfl|false=>rw[e,Bool.and_false] at h2;exact tF h2
   refine b4 rfl ?_;induction h3:aa [c] x.qu with|true=>rw[h3] at E;exact bI (k':=.mark c) D J (.inl rfl) _ E rfl rfl rfl rfl rfl (by show (q||(rs x kv (.str [c]) (tx.drop n)).quoted)=(true||_);rw[mq c D.mem];exact Bool.or_true q) (by lia) ⟨D.mem,h3⟩|false=>rw[h3] at E;refine bI (k':=.wF c m) D J (.inl rfl) _ E rfl rfl rfl rfl rfl ?_ (by lia) ⟨D.mem,h3,he,hm,hq,rfl,rfl⟩;show (q||Ent.quoted _)=(true||_);induction tx.drop n using List.casesOn <;> exact Bool.or_true q
theorem BS (R:Rl run x kv tx) (D:Ca tx c n) (J:JJ run x kv tx Φ (.wD m) ln tk es q row (c::tx.drop n)):(HZ run x [c] tx [m] (iJ [c] ln) tk q es (n:Nat) row).Sat (Gt run x kv tx Φ (c::tx.drop n).length):=by refine MJ J.ok λhm h1 h2 hp ae=>?_;subst ae;have Vi:=(R.off 97 (.inr (.inl rfl))).1;refine bw rfl (bw (by rw[Vi];rfl) (bI (k':=.word) D J (.inl rfl) _ rfl rfl rfl rfl rfl (List.append_assoc tk [c] _).symm rfl (by rw[List.length_append];show _+1≤_;lia) ?_));show (!(tk++[c]).isEmpty||_)=true;rw[show (tk++[c]).isEmpty=false by induction tk using List.casesOn <;> rfl];rfl
theorem BU (R:Rl run x kv tx) (D:Ca tx c n) {o:Nat} (J:JJ run x kv tx Φ (.wF m o) ln tk es q row (c::tx.drop n)):(HZ run x [c] tx [m] (iJ [c] ln) tk q es (n:Nat) row).Sat (Gt run x kv tx Φ (c::tx.drop n).length):=by
 refine MK J.ok λhm h1 h2 ho h3 ae bX=>?_;subst ae;subst bX;have RK:(aa [o] x.qu&&(!(sEq [c] [m])&&(!(sEq [c] [o])&&true)))=!(cz [c] [[m],[o]]):=by rw[h3];show (true&&(!(lEq [c] [m])&&(!(lEq [c] [o])&&true)))=!(lEq [m] [c]||(lEq [o] [c]||false));rw[wG [m],wG [o]];induction lEq [c] [m] <;> induction lEq [c] [o] <;> rfl
 have E:Kd.ent x kv (c::tx.drop n) (.wF m o)=L.add (bif cz [c] [[m],[o]] then [c] else [m]++[c]) (rs x kv (.str [o]) (tx.drop n)) true:=rfl;refine bw rfl ?_;rw[RK];induction h:cz [c] [[m],[o]] with|true=>rw[h] at E;exact bw rfl (bI (k':=.mark o) D J (.inl rfl) _ E rfl rfl rfl rfl (List.append_assoc tk [c] _).symm rfl (by rw[List.length_append];show _+1≤_;lia) ⟨ho,h3⟩)|false=>rw[h] at E;refine b4 rfl (bI (k':=.mark o) D J (.inl rfl) _ E rfl rfl rfl rfl ?_ rfl (by rw[List.length_append,List.length_append];show _+1+1≤_;lia) ⟨ho,h3⟩);show tk++(([m]++[c])++_)=((tk++[m])++[c])++_;rw[List.append_assoc,List.append_assoc,List.append_assoc];rfl
end
section
variable {run:Bool} {x:Lx} {kv:KV} {tx:List Nat} {Φ:Out→Prop} {ln:Int} {tk es:List Nat} {q:Bool} {row:List PV} {c n:Nat}
theorem Ou {t:Tr Out} {G:Out→Prop} (h:run=true) (g:t.Sat G):(H4 run t).Sat G:=by rw[h];exact g
theorem Fx (R:Rl run x kv tx) (D:Ca tx c n) (J:JJ run x kv tx Φ .run ln tk es q row (c::tx.drop n)):(zY run x [c] tx [99] (iJ [c] ln) tk q es (n:Nat) row).Sat (Gt run x kv tx Φ (c::tx.drop n).length):=by
 refine aj J.ok λht hr=>?_;have hw:(!tk.isEmpty||((x.po&&(q&&true))||false))=true:=by rw[ht];rfl
 have E:=LH (r:=tx.drop n) R D.mem;refine bw rfl ?_;induction h1:aa [c] x.ws with|true=>rw[h1] at E;exact b4 rfl (nz hw (lC D J E (List.append_nil tk) (Bool.or_false q)))|false=>
 rw[h1] at E;refine bw rfl ?_;induction h2:aa [c] x.co with
 | true=>rw[h2] at E;refine b4 rfl ?_;induction hp:x.po with|true=>rw[hp] at E;exact b4 rfl (nz hw (qm D J E))|false=>rw[hp] at E;exact bw rfl (ua (k':=.run) D J (.inl rfl) E rfl ⟨ht,hr⟩)
 | false=>
 rw[h2] at E;refine bw rfl (b4 rfl ?_);induction h3:aa [c] x.pn with|true=>rw[h3] at E;exact b4 rfl (bI (k':=.run) D J (.inl rfl) _ E rfl rfl rfl rfl (List.append_assoc tk [c] _).symm rfl (by rw[List.length_append];show _+1≤_;lia) ⟨by induction tk using List.casesOn <;> rfl,hr⟩)|false=>rw[h3] at E;exact bw rfl (b4 rfl (Ou hr (ub (tk':=[.str [c]]) D J E (List.append_nil tk) (Bool.or_false q) (by rw[hr];rfl) (by rw[hr];rfl))))
theorem BV (R:Rl run x kv tx) (D:Ca tx c n) (J:JJ run x kv tx Φ .word ln tk es q row (c::tx.drop n)):(zY run x [c] tx [97] (iJ [c] ln) tk q es (n:Nat) row).Sat (Gt run x kv tx Φ (c::tx.drop n).length):=by
 have hw:(!tk.isEmpty||(x.po&&(q&&true)||false))=true:=J.ok;have Vj:(!(tk++[c]).isEmpty||(x.po&&(q&&true)||false))=true:=by rw[show (tk++[c]).isEmpty=false by induction tk using List.casesOn <;> rfl];rfl
 have fin:∀role M P,rs x kv (.int 1) (c::tx.drop n)=wC (rs x kv) x.po x.wh 1 c (tx.drop n) role M P→(P=aa [c] x.pn)→((role=[]∧aa [c] x.wo=false∧aa [c] x.qu=false)∨(role=[108]∧(aa [c] x.wo||(aa [c] x.qu||((x.wh&&(!(aa [c] x.pn)&&true))||false)))=true)∨(role=[109]∧x.po=false∧(aa [c] x.wo||(aa [c] x.qu||((x.wh&&(!(aa [c] x.pn)&&true))||false)))=true))→
   (Tr.br (aa [c] x.wo||(aa [c] x.qu||((x.wh&&(!(aa [c] x.pn)&&true))||false))) (lH run x [c] tx .next (.str [97]) (iJ [c] ln) (tk++[c]) q es (n:Nat) row []) (.br (!x.pn.isEmpty) (H4 run (tW run x [c] tx q es (.str [32]) (iJ [c] ln) tk (n:Nat) row [.str [c]])) (tW run x [c] tx q es (.str [32]) (iJ [c] ln) tk (n:Nat) (.str [c]::row) []))).Sat (Gt run x kv tx Φ (c::tx.drop n).length):=λrole M P E hP h=>by
  have next:rs x kv (.int 1) (c::tx.drop n)=L.add [c] (rs x kv (.int 1) (tx.drop n)) false→Gt run x kv tx Φ (c::tx.drop n).length (jb run x [c] tx .next (.str [97]) (iJ [c] ln) (tk++[c]) q es (n:Nat) row []):=λE=>bI (k':=.word) D J (.inl rfl) _ E rfl rfl rfl rfl (List.append_assoc tk [c] _).symm rfl (by rw[List.length_append];show _+1≤_;lia) Vj
  rcases h with ⟨rfl,h1,h2⟩ | ⟨rfl,h1⟩ | ⟨rfl,hp,h1⟩
  ·rw[h1,h2];induction hd:(x.wh&&!(aa [c] x.pn)) with
   | true=>obtain ⟨h3,h4⟩:=Bool.and_eq_true_iff.mp hd;refine b4 (by rw[h3,h4];rfl) (next (E.trans ?_));rw[hP,h3,Bool.not_eq_true' _ |>.mp h4];rfl
   | false=>
    have E':rs x kv (.int 1) (c::tx.drop n)=⟨[],tx.drop n,.int 0,[c],false,false⟩:=by rw[E];show (bif (!(sEq [] [])||(true&&(x.wh&&!P))) then _ else _)=_;rw[hP,hd];rfl
    refine bw (by rw[JA,hd];rfl) ?_;rw[R.run,Bool.not_not];induction hr:run with|true=>subst hr;exact b4 rfl (nz hw (ub (tk':=[.str [c]]) D J E' (List.append_nil tk) (Bool.or_false q) rfl rfl))|false=>subst hr;exact bw rfl (nz hw (ub (tk':=[]) D J E' (List.append_nil tk) (Bool.or_false q) rfl rfl))
  ·exact b4 h1 (next E)
  ·refine b4 h1 (next (E.trans ?_));rw[hp];rfl
 refine bw rfl ?_;induction hp:x.po with
 | true=>
  have E:=H5 (r:=tx.drop n) R D.mem hp;rw[hp] at E;rw[hp] at fin;induction h1:aa [c] x.ws with|true=>rw[h1] at E;exact b4 rfl (nz hw (lC D J E (List.append_nil tk) (Bool.or_false q)))|false=>
  rw[h1] at E;refine bw rfl ?_;induction h2:aa [c] x.co with|true=>rw[h2] at E;exact b4 rfl (b4 rfl (nz hw (qm D J E)))|false=>
  rw[h2] at E;refine bw rfl (bw rfl ?_);induction h3:aa [c] x.qu with|true=>rw[h3] at E;exact b4 rfl (bI (k':=.mark c) D J (.inl rfl) _ E rfl rfl rfl rfl rfl rfl (by lia) ⟨D.mem,h3⟩)|false=>
  rw[h3] at E;refine bw rfl ?_;induction h4:aa [c] x.es with|true=>rw[h4] at E;exact b4 rfl (bI (k':=.wD c) D J (.inl rfl) _ E rfl rfl rfl rfl rfl rfl (by lia) ⟨D.mem,h3,h4,hp,rfl⟩)|false=>
  rw[h4] at E;refine bw rfl ?_;rw[h3] at fin;refine fin _ _ _ E rfl ?_;induction h5:aa [c] x.wo with|true=>exact .inr (.inl ⟨rfl,rfl⟩)|false=>exact .inl ⟨rfl,rfl,rfl⟩
 | false=>
  have E:=H6 (r:=tx.drop n) R D.mem hp;rw[hp] at E;rw[hp] at fin;induction h1:aa [c] x.ws with|true=>rw[h1] at E;exact b4 rfl (nz hw (lC D J E (List.append_nil tk) (Bool.or_false q)))|false=>
  rw[h1] at E;refine bw rfl ?_;induction h2:aa [c] x.co with|true=>rw[h2] at E;exact b4 rfl (bw rfl (ua (k':=.word) D J (.inl rfl) E rfl J.ok))|false=>
  rw[h2] at E;refine bw rfl (bw rfl (bw rfl (bw rfl ?_)));refine fin _ _ _ E rfl ?_;induction h5:aa [c] x.wo with|true=>exact .inr (.inl ⟨rfl,rfl⟩)|false=>induction h6:aa [c] x.qu with|true=>exact .inr (.inr ⟨rfl,rfl,rfl⟩)|false=>exact .inl ⟨rfl,rfl,rfl⟩
theorem si (R:Rl run x kv tx) (D:Ca tx c n) {k:Kd} (J:JJ run x kv tx Φ k ln tk es q row (c::tx.drop n)):(jc run x [c] tx k.st (iJ [c] ln) tk q es (n:Nat) row).Sat (Gt run x kv tx Φ (c::tx.drop n).length):=by induction k using Kd.casesOn with|gap=>exact Ft (Fw R D J)|word=>exact oI R (.inl rfl) (BV R D J)|run=>exact oI R (.inr rfl) (Fx R D J)|mark m=>exact t9 R J.ok.2 (BR R D (λd h=>List.mem_of_mem_drop h) J)|wD m=>exact ql R J.ok.2.1 J.ok.2.2.1 (BS R D J)|wF m o=>exact ql R J.ok.2.1 J.ok.2.2.1 (BU R D J)
end
section
variable {κ:Cx} {A:Around} {Γ:aA} {X:XP}
theorem BW (C:cE κ A X Γ) {test:Expr} {T:Loc→Hp→Tr Out} (J:(Out→Prop)→Nat→Loc→Hp→Prop) (start:∀Φ loc H,(T loc H).Sat Φ→∃j,J Φ j loc H) (step:∀Φ j loc H,J Φ j loc H→∃gd,CA Γ.c loc H n test=some (gd,true)∧AllP gd∧(av Γ n body loc H).Sat (g6 (λl' H'=>∃j',j'<j∧J Φ j' l' H') Φ)) : ∀loc H,bt κ A X (exec (.While test body [] pos) κ.env) loc H (T loc H):=λloc H p s I Q E hE h=>by
 refine wpAny_While ?_
 let RL:Nat→Shared→Prop:=λj s'=>∃fm H' p',Inv κ fm H' p' s'∧To κ p s p' s'∧J (vd κ X p s Q E) j fm H'
 refine bZ (start _ _ _ h) λRM h₀=>?_;refine codeAny_whileLoop RL (λj s' hI=>?_) RM ⟨loc,H,p,I,.refl,h₀⟩;refine PN hI λfm H' p' I' T' hj=>?_;refine w6 (step _ _ _ _ hj) λgd e1 hg ht=>?_;refine (cD C.c n).2 test gd true e1 hg p' s' I' _ _ λp2 s2 I2 T2=>?_;have T3:=T'.trans T2;rw[if_pos rfl];refine wpAny_mono ((cF C n).2 body fm H' p2 s2 I2 _ E hE (ht.mono λo ho=>?_)) (λz z q=>q) hE;intro p4 s4 I4 T4;have T5:=T3.trans T4;obtain ⟨fl,l3,H3⟩:=o;refine aG ho λl sub ho=>?_;have I4:=I4.less sub;induction fl using Fl.casesOn with|next=>refine aG ho λj' NL ho=>?_;exact ⟨j',NL,l,H3,p4,I4,T5,ho⟩|cont=>refine aG ho λj' NL ho=>?_;exact ⟨j',NL,l,H3,p4,I4,T5,ho⟩|brk=>exact ho p4 s4 I4 T5|ret v=>exact ho p4 s4 I4 T5|exc m=>exact ho p4 s4 I4 T5
theorem H9 (C:cE κ A X Γ) {a b:Expr} {th el:List Stmt} {bp:Pos} {T:Tr Out} (ha:CA Γ.c loc H n a=some (gd,false)) (hg:AllP gd) (h:∀Φ,T.Sat Φ→(av Γ n el loc H).Sat Φ):bt κ A X (exec (.If (.BoolOp .And [a,b] bp) th el ip) κ.env) loc H T:=λp s I Q E hE hT=>wpAny_If (PySem.wpAny_isTrue_BoolOp (wpAny_allTrue_And_cons ((cD C.c n).2 a gd false ha hg p s I _ _ λp1 s1 I1 T1=>(cF C n).2 el loc H p1 s1 I1 Q E hE ((h _ hT).mono λo ho=>ho.trans T1))))
end
theorem Ov (x:Lx) (v:Lv) (tx:List Nat) (n:Nat) (row as:List PV) (q:Bool) (es:List Nat):oU kg 40 h9 (aY q es) (b8 true x v tx n row as) = .need [[PV.ref 1]=[.ref 1],nX (b8 true x v tx n row as),true=true,(!x.pn.isEmpty)=true→true=true] (.br (!x.pn.isEmpty&&(!as.isEmpty&&true)) (.need [true=true] (.need [] (.need [as.isEmpty=false] (.leaf ⟨.next,aD (aY q es) [("nextchar",as.getLastD .none)],b8 true x v tx n row as.dropLast⟩)))) (.need [true=true] (.need [] (.need [[PV.ref 0,.int 1]=[.ref 0,.int 1],some (iG tx (n:Nat))=some (iG tx (n:Nat)),tx.length≤1000] (.leaf ⟨.next,aD (aY q es) [("nextchar",.str (dj tx n))],b8 true x v tx (eH tx n:Nat) row as⟩))))):=by kernel_rfl
theorem Ow (x:Lx) (v:Lv) (tx:List Nat) (n:Nat) (row:List PV) (q:Bool) (es:List Nat):av kg 40 (Js h9) (aY q es) (b8 false x v tx n row []) = (.need [true=true] (.need [] (.need [[PV.ref 0,.int 1]=[.ref 0,.int 1],some (iG tx (n:Nat))=some (iG tx (n:Nat)),tx.length≤1000] (.leaf ⟨.next,aD (aY q es) [("nextchar",.str (dj tx n))],b8 false x v tx (eH tx n:Nat) row []⟩)))):=by kernel_rfl
theorem RN (run:Bool) (x:Lx) (st:PV) (ln:Int) (tk c tx:List Nat) (p:Int) (row as:List PV) (q:Bool) (es:List Nat):oU kg 40 nV (aD (aY q es) [("nextchar",.str c)]) (b8 run x ⟨st,ln,tk⟩ tx p row as) = .need [] (.br (sEq c [10]) (.need [] (.need [] (.need [] (.leaf ⟨.next,aD (aY q es) [("nextchar",.str c)],b8 run x ⟨st,ln+1,tk⟩ tx p row as⟩)))) (.leaf ⟨.next,aD (aY q es) [("nextchar",.str c)],b8 run x ⟨st,ln,tk⟩ tx p row as⟩)):=by induction run <;> kernel_rfl
noncomputable def Tw:Expr:=pL [0] (dy h9)
noncomputable def Vk:Expr:=pL [1] (dy h9)
theorem RO (run:Bool) (x:Lx) (v:Lv) (tx:List Nat) (p:Int) (row as:List PV) (q:Bool) (es:List Nat):CA Ly (aY q es) (b8 run x v tx p row as) 40 Tw=some ([[PV.ref 1]=[.ref 1],nX (b8 run x v tx p row as),true=true],!x.pn.isEmpty):=by induction run <;> kernel_rfl
section
variable {κ:Cx} {A:Around} {X:XP}
theorem LJ (C:cE κ A X kg):∀loc H,bt κ A X (exec h9 κ.env) loc H (Tu loc H):=λloc H p s I Q E hE h=>by
 obtain ⟨⟨⟨q,es,rfl⟩,⟨run,x,v,tx,row,as,n,rfl,h1,h2,h3⟩,_⟩,h⟩:=h;have hX:∀as,nX (b8 run x v tx (n:Nat) row as):=λas=>⟨_,_,_,_,_,_,_,rfl⟩;induction run with
 | true=>refine (cF C 40).1 h9 _ _ p s I Q E hE ?_;rw[Ov,h3];refine ⟨⟨rfl,hX _,rfl,λz=>rfl,trivial⟩,?_⟩;induction as using List.casesOn with|nil=>exact ⟨nofun,λz=>⟨⟨rfl,trivial⟩,trivial,⟨rfl,rfl,h1,trivial⟩,h⟩⟩|cons c r=>induction r using List.casesOn with|nil=>exact ⟨λz=>⟨⟨rfl,trivial⟩,trivial,⟨rfl,trivial⟩,h⟩,nofun⟩|cons d r=>have h2:r.length+1+1≤1:=h2;lia
 | false=>have e:b8 false x v tx (n:Nat) row (jx as)=b8 false x v tx (n:Nat) row []:=rfl;rw[e] at h I;have ev:=RO false x v tx (n:Nat) row [] q es;rw[h3] at ev;refine H9 (T:=.leaf _) (n:=40) (a:=Tw) (b:=Vk) (bp:=(dy h9).pos) (th:=Od h9) (el:=Js h9) (ip:=h9.pos) C ev ⟨rfl,hX _,rfl,trivial⟩ (λΦ gA=>?_) p s I Q E hE h;rw[Ow];exact ⟨⟨rfl,trivial⟩,trivial,⟨rfl,rfl,h1,trivial⟩,gA⟩
theorem LK (C:cE κ A X kg):∀loc H,bt κ A X (exec nV κ.env) loc H (Tv loc H):=λloc H p s I Q E hE h=>by
 obtain ⟨i,hi,h⟩:=gC h;obtain ⟨⟨⟨q,es,c,rfl⟩,⟨run,x,v,tx,p',row,as,rfl⟩,_⟩,h⟩:=h;obtain ⟨st,ln,tk⟩:=v;refine (cF C 40).1 nV _ _ p s I Q E hE ?_;rw[RN];have e:i=(1,722,dX 0 2 run x ⟨st,ln,tk⟩):=by
  have:c6 (b8 run x ⟨st,ln,tk⟩ tx p' row as) (.ref 1)=some (1,722,dX 0 2 run x ⟨st,ln,tk⟩):=by induction run <;> kernel_rfl
  rw[this] at hi;obtain rfl:=Option.some.inj hi;rfl
 subst e;have e2:(⟨.next,aD (aY q es) [("nextchar",.str c)],bG 1 (.inst 722 (cM "lineno" (.int (iJ (bN (ax "nextchar" (aD (aY q es) [("nextchar",.str c)]))) (Oq (b8 run x ⟨st,ln,tk⟩ tx p' row as)))) (dX 0 2 run x ⟨st,ln,tk⟩))) (b8 run x ⟨st,ln,tk⟩ tx p' row as)⟩:Out)=⟨.next,aD (aY q es) [("nextchar",.str c)],b8 run x ⟨st,iJ c ln,tk⟩ tx p' row as⟩:=by induction run <;> kernel_rfl
 rw[e2] at h;refine ⟨trivial,λz=>?_,λz=>?_⟩
 ·have:iJ c ln=ln+1:=by unfold iJ;rw[z];rfl
  rw[this] at h
  exact ⟨trivial,trivial,trivial,h⟩
 ·have:iJ c ln=ln:=by unfold iJ;rw[z];rfl
  rw[this] at h
  exact h
end
noncomputable def eR:Stmt:=eK [2] (bodyOf nU)
theorem Ox (run:Bool) (x:Lx) (ln:Int) (st tk tx es:List Nat) (n:Nat) (row:List PV) (q:Bool):av (iK false) 62 B9 (aY q es) (b8 run x ⟨.str st,ln,tk⟩ tx (n:Nat) row []) = .need [h9=h9] (.need [(∃q' oi,aY q es=aY q' oi),(∃run' x' v JB row' as,∃n':Nat,b8 run x ⟨.str st,ln,tk⟩ tx (n:Nat) row []=b8 run' x' v JB (n':Nat) row' (jx as)∧JB.length≤1000∧as.length≤1∧x'.pn.isEmpty=!run')] (.need [nV=nV] (.need [(∃q' oi c,aD (aY q es) [("nextchar",.str (dj tx n))]=aD (aY q' oi) [("nextchar",.str c)]),nX (b8 run x ⟨.str st,ln,tk⟩ tx (eH tx n:Nat) row [])] (jd run x (dj tx n) tx st (iJ (dj tx n) ln) tk q es (eH tx n:Nat) row)))):=by induction run <;> kernel_rfl
theorem Oy (x:Lx) (ln:Int) (st tk tx es:List Nat) (n a:Nat) (row:List PV) (q:Bool):av (iK false) 62 B9 (aY q es) (b8 true x ⟨.str st,ln,tk⟩ tx (n:Nat) row [.str [a]]) = .need [h9=h9] (.need [(∃q' oi,aY q es=aY q' oi),(∃run' x' v JB row' as,∃n':Nat,b8 true x ⟨.str st,ln,tk⟩ tx (n:Nat) row [.str [a]]=b8 run' x' v JB (n':Nat) row' (jx as)∧JB.length≤1000∧as.length≤1∧x'.pn.isEmpty=!run')] (.need [nV=nV] (.need [(∃q' oi c,aD (aY q es) [("nextchar",.str [a])]=aD (aY q' oi) [("nextchar",.str c)]),nX (b8 true x ⟨.str st,ln,tk⟩ tx (n:Nat) row [])] (jd true x [a] tx st (iJ [a] ln) tk q es (n:Nat) row)))):=by kernel_rfl
theorem Oz (run:Bool) (x:Lx) (ln:Int) (tk tx es:List Nat) (n:Nat) (row:List PV) (q:Bool):av (iK true) 62 B9 (aY q es) (b8 run x ⟨.none,ln,tk⟩ tx (n:Nat) row []) = .need [h9=h9] (.need [(∃q' oi,aY q es=aY q' oi),(∃run' x' v JB row' as,∃n':Nat,b8 run x ⟨.none,ln,tk⟩ tx (n:Nat) row []=b8 run' x' v JB (n':Nat) row' (jx as)∧JB.length≤1000∧as.length≤1∧x'.pn.isEmpty=!run')] (.need [nV=nV] (.need [(∃q' oi c,aD (aY q es) [("nextchar",.str (dj tx n))]=aD (aY q' oi) [("nextchar",.str c)]),nX (b8 run x ⟨.none,ln,tk⟩ tx (eH tx n:Nat) row [])] (.need [true=true] (.need [false=false] (.need [true=true] (.need [true=true] (.need [] (.need [] (.leaf ⟨.brk,aD (aY q es) [("nextchar",.str (dj tx n))],b8 run x ⟨.none,iJ (dj tx n) ln,[]⟩ tx (eH tx n:Nat) row []⟩)))))))))):=by induction run <;> kernel_rfl
section
variable {run:Bool} {x:Lx} {kv:KV} {tx:List Nat} {Φ:Out→Prop} {j:Nat} {loc:Loc} {H:Hp}
theorem Ia (h:tx.drop n=c::r):dj tx n=[c]∧eH tx n=n+1∧tx.drop (n+1)=r∧c∈tx∧n+1≤tx.length:=by
 have e:dj tx n=[c]:=by unfold dj;rw[h];rfl
 have l:n<tx.length:=by have:=congrArg List.length h;rw[List.length_drop,List.length_cons] at this;omega
 exact ⟨e,by unfold eH;rw[e];rfl,by rw[←List.drop_drop,h];rfl,List.mem_of_mem_drop (i:=n) (by rw[h];exact List.mem_cons_self),l⟩
theorem BX (R:Rl run x kv tx) (h:JL run x kv tx Φ j loc H):(av (iK false) 62 B9 loc H).Sat (Gt run x kv tx Φ j):=by
 obtain ⟨k,ln,tk,es,q,row,as,n,rfl,rfl,hn,ha,hj,J⟩:=h;have sz:=J.sz;have rz:=J.rz;have tz:tx.length≤1000:=Nat.le_trans R.len (by lia);have kz:k.st.length=1:=by induction k using Kd.casesOn <;> rfl
 rcases ha with rfl | ⟨rfl,a,ha,rfl⟩
 ·have J:JJ run x kv tx Φ k ln tk es q row (tx.drop n):=J;have hj:(tx.drop n).length=j:=hj;show (av (iK false) 62 B9 (aY q es) (b8 run x ⟨.str k.st,ln,tk⟩ tx (n:Nat) row [])).Sat _;rw[Ox];refine ⟨⟨rfl,trivial⟩,⟨⟨q,es,rfl⟩,⟨_,_,_,_,_,[],n,rfl,tz,Nat.zero_le _,R.run⟩,trivial⟩,⟨rfl,trivial⟩,⟨⟨q,es,_,rfl⟩,⟨_,_,_,_,_,_,_,rfl⟩,trivial⟩,?_⟩;induction e:tx.drop n using List.casesOn with
  | nil=>have Tz:=gone hn e;obtain ⟨e1,e2⟩:=tR (buf:=tx) (n:=n) (Nat.le_of_eq Tz.symm);rw[e1,e2];rw[e] at J;exact oF (by rw[kz];show _+1+0≤_;lia) rz tz (Fu R Tz J)
  | cons c r=>obtain ⟨e1,e2,e3,hc,hl⟩:=Ia e;rw[e1,e2];rw[e] at J hj;rw[←e3] at J hj;rw[←hj];exact oF (by rw[kz];show _+1+1≤_;lia) rz tz (si R ⟨hc,hl⟩ J)
 ·have J:JJ true x kv tx Φ k ln tk es q row (a::tx.drop n):=J;have hj:(a::tx.drop n).length=j:=hj;show (av (iK false) 62 B9 (aY q es) (b8 true x ⟨.str k.st,ln,tk⟩ tx (n:Nat) row [.str [a]])).Sat _;rw[Oy,←hj];refine ⟨⟨rfl,trivial⟩,⟨⟨q,es,rfl⟩,⟨_,_,_,_,_,[a],n,rfl,tz,Nat.le_refl _,R.run⟩,trivial⟩,⟨rfl,trivial⟩,⟨⟨q,es,_,rfl⟩,⟨_,_,_,_,_,_,_,rfl⟩,trivial⟩,?_⟩;exact oF (by rw[kz];show _+1+1≤_;lia) rz tz (si R ⟨ha,hn⟩ J)
def JN (run:Bool) (x:Lx) (tx:List Nat) (Φ:Out→Prop) (_:Nat) (loc:Loc) (H:Hp):Prop:=∃ln tk es q row,loc=aY q es∧H=b8 run x ⟨.none,ln,tk⟩ tx (tx.length:Nat) row []∧Φ ⟨.next,je q,b8 run x ⟨.none,ln,[]⟩ tx (tx.length:Nat) row []⟩
theorem yB (R:Rl run x kv tx) (h:JN run x tx Φ j loc H):(av (iK true) 62 B9 loc H).Sat (g6 (λl' H'=>∃j',j'<j∧JN run x tx Φ j' l' H') Φ):=by refine TP h λln tk es q row ae bX F=>?_;subst ae;subst bX;have tz:tx.length≤1000:=Nat.le_trans R.len (by lia);rw[Oz];refine aj (tR (buf:=tx) (n:=tx.length) (Nat.le_refl _)) λe1 e2=>?_;rw[e1,e2];exact ⟨⟨rfl,trivial⟩,⟨⟨q,es,rfl⟩,⟨_,_,_,_,_,[],tx.length,rfl,tz,Nat.zero_le _,R.run⟩,trivial⟩,⟨rfl,trivial⟩,⟨⟨q,es,_,rfl⟩,⟨_,_,_,_,_,_,_,rfl⟩,trivial⟩,⟨rfl,trivial⟩,⟨rfl,trivial⟩,⟨rfl,trivial⟩,⟨rfl,trivial⟩,trivial,trivial,_,qj,F⟩
end
structure wH (g:G):Prop where
 TA:cG g 53 qa ["n","what"]
 OA:cG g 371 q8 ["self"]
 RQ:cG g 385 iH ["self","limit"]
 OB:cG g 533 j9 ["self","size"]
 OC:Jp g 541 BN ["self","size"] [.ref 0] [("self",.ref 0),("size",.int (-1))]
 OD:cG g 653 MB ["self"]
theorem OE (run:Bool) (x:Lx) (v:Lv) (tx:List Nat) (p:Int) (row as:List PV):av (aC (c8 MB (λC x=>iP C x lq) cg [])) 40 (bodyOf MB) [("self",.ref 1)] (b8 run x v tx p row as)=.need [true=true] (.leaf ⟨.ret (.str x.pn),[("self",.ref 1)],b8 run x v tx p row as⟩):=by induction run <;> kernel_rfl
section
variable {g:G} {A:Around} {B:Bs} {X:XP} {k:Nat}
theorem LL (U:Base g) (S:wH g) (R:aQ A (k+1)) (args:List PV) (H:Hp) (hg:AllP (PB args H).1):(∃o fd,g.K.lookup 653=some o∧o.data=.func fd)∧a7 g A H 653 args (PB args H).2:=by
 refine fK hg λh1 ae z=>?_;refine Sp ae λrun x v tx p row bX=>?_;refine bZ bX λas D8=>?_;subst D8;refine ⟨bU S.OD,?_⟩;have h1:args=[.ref 1]:=h1;subst h1;have e:(PB [.ref 1] (b8 run x v tx p row as)).2=.str x.pn:=by induction run <;> kernel_rfl
 rw[e];refine mz (Γ:=aC (c8 MB (λC x=>iP C x lq) cg [])) (n:=40) S.OD rfl R.one (λo fd Fa hs B L=>bu (aU U.N hs (by kernel_rfl) Fa.glob Fa.blt R.hd (R.u9 _) (bH U.lx.at_) aX ak) λp t h=>nomatch h) ?_;show (av (aC (c8 MB (λC x=>iP C x lq) cg [])) 40 (bodyOf MB) [("self",.ref 1)] (b8 run x v tx p row as)).Sat _;rw[OE];exact ⟨⟨rfl,trivial⟩,rfl,rfl⟩
theorem part0 {o:AO} {fs:List (Str×PV)} (h:aO 0 H=some (.inst 587 fs)) (hb:pI 1 fs=true) (hr:x9 [0] fs=fs):pK [0] [.inst 587 fs] H:=⟨List.nodup_cons.mpr ⟨List.not_mem_nil,List.nodup_nil⟩,rfl,λi k o hi ho=>by induction i using Nat.casesOn with|succ i=>exact nS hi|zero=>obtain rfl:=Option.some.inj hi;obtain rfl:=Option.some.inj ho;show _=some (AO.inst 587 (x9 [0] fs));rw[hr];exact h,λo m=>by rw[List.mem_singleton.mp m];exact hb⟩
theorem LM (U:Base g) (S:wH g) (R:aQ A (k+2)) (args:List PV) (H:Hp):Runs g A B X 533 args H (Ts args H):=Runs.need λ⟨h1,h2,h3,_⟩=>by have:=jt (B:=B) (X:=X) (H:=H) (HR U.N U.RD U.RF S.TA S.OA S.OB R (n:=MC H) h3) (ks:=[0]) rfl (part0 (o:=iG [] 0) h2 rfl rfl);rw[h1];exact λp s vs Y rv Q hQ=>this p s vs Y rv Q ⟨⟨⟨[_],[],rfl,rfl,λo m=>by rw[List.mem_singleton.mp m];rfl,rfl⟩,trivial⟩,hQ⟩
theorem LN (U:Base g) (S:wH g) (R:aQ A (k+3)) (args:List PV) (H:Hp):Runs g A B X 541 args H (Tt args H):=Runs.need λ⟨h1,h2,h3,_⟩=>by have:=jt (B:=B) (X:=X) (H:=H) (HT U.N U.RD U.RF S.TA S.OA S.RQ S.OC R (pos:=lh H) h3) (ks:=[0]) rfl (part0 (o:=iG [] 0) h2 rfl rfl);rw[h1];exact λp s vs Y rv Q hQ=>this p s vs Y rv Q ⟨⟨⟨[_],[],rfl,rfl,λo m=>by rw[List.mem_singleton.mp m];rfl,rfl⟩,trivial⟩,hQ⟩
theorem Ib (U:Base g) (S:wH g) (R:aQ A (k+4)) {f:Addr} (Fa:FnAt g f o fd (bodyOf nU)) (hs:fd.scope=aV nU) (L:Addr):cE (c5 g B fd L f) (A.deeper (callEnvC fd L f)) X kg:=by
 have C1:af (c5 g B fd L f) (A.deeper (callEnvC fd L f)) Ly:=aU U.N hs (by kernel_rfl) Fa.glob Fa.blt R.hd (R.u9 _) (bH U.lx.at_) (c9 λe m args H hg=>by rw[List.mem_singleton.mp m] at hg ⊢;exact LL U S (R.down _) args H hg) ak;have S0:=bu (X:=X) C1 λp t h=>nomatch h
 refine ⟨S0.c,hY U.lx.set,eI λe m args H=>?_,da λe m=>?_,S0.loops,S0.uses,S0.raises⟩
 ·rcases List.mem_cons.mp m with rfl | m
  ·exact LM (k:=k) U S ((R.down _).lt (by lia)) args H
  ·rw[List.mem_singleton.mp m];exact LN U S (R.down _) args H
 ·rcases List.mem_cons.mp m with rfl | m
  ·exact fE S.OB
  ·rw[List.mem_singleton.mp m];refine gU S.OC.ex λo fd F z=>?_;exact .fn F.look F.data
theorem LP (U:Base g) (S:wH g) (R:aQ A (k+4)) {f:Addr} (Fa:FnAt g f o fd (bodyOf nU)) (hs:fd.scope=aV nU) (L:Addr) (no:Bool):cE (c5 g B fd L f) (A.deeper (callEnvC fd L f)) Made (iK no):=by
 have S0:=Ib (B:=B) (X:=Made) U S R Fa hs L;exact ⟨S0.c,S0.set,S0.km,S0.ve,cH λe m=>by
  rcases List.mem_cons.mp m with rfl | m
  ·exact LJ S0
  ·rw[List.mem_singleton.mp m];exact LK S0,S0.uses,λz h' gm e m t me=>⟨e,t,rfl,me⟩⟩
end
noncomputable def TB (P:(Out→Prop)→Loc→Hp→Prop) (o:Out) (loc:Loc) (H:Hp):Tr Out:=.need [∀Φ,Φ o→P Φ loc H] (.leaf o)
noncomputable def Fy (no:Bool) (P:(Out→Prop)→Loc→Hp→Prop) (o:Out):aA:={iK no with loops:=[((eR.pos.line,eR.pos.col),⟨eR,TB P o⟩)]}
noncomputable def FA (x_:Stmt):Expr:=by induction x_ using Stmt.casesOn with|While t _ _ _=>exact t|_=>exact yb
theorem BY:eR=.While (FA eR) B9 [] eR.pos:=by kernel_rfl
noncomputable def qn (x:Lx) (q:Bool) (tk:List Nat):PV:=bif x.po&&(!q&&(sEq tk []&&true)) then .none else .str tk
theorem OF (no run:Bool) (P:(Out→Prop)→Loc→Hp→Prop) (H:Hp) (x:Lx) (tk tx:List Nat) (ln:Int) (p:Int) (row as:List PV) (st:PV) (q:Bool):av (Fy no P ⟨.next,je q,b8 run x ⟨st,ln,tk⟩ tx p row as⟩) 60 (bodyOf nU) [("self",.ref 1)] H = .need [] (.need [] (.need [eR=eR] (.need [∀Φ,Φ (⟨.next,je q,b8 run x ⟨st,ln,tk⟩ tx p row as⟩:Out)→P Φ (aY false [32]) H] (.need [true=true] (.need [] (.need [] (.need [true=true] (.br (x.po&&(!q&&(sEq tk []&&true))) (.need [] (.need [true=true] (.need [false=false] (.need [] (.leaf ⟨.ret .none,aD (je q) [("result",.none)],b8 run x ⟨st,ln,[]⟩ tx p row as⟩))))) (.need [true=true] (.need [false=false] (.need [] (.leaf ⟨.ret (.str tk),aD (je q) [("result",.str tk)],b8 run x ⟨st,ln,[]⟩ tx p row as⟩)))))))))))):=by induction run <;> kernel_rfl
theorem OG (no:Bool) (P:(Out→Prop)→Loc→Hp→Prop) (H H':Hp) (m:List Nat) (q:Bool):av (Fy no P ⟨.exc m,je q,H'⟩) 60 (bodyOf nU) [("self",.ref 1)] H = .need [] (.need [] (.need [eR=eR] (.need [∀Φ,Φ (⟨.exc m,je q,H'⟩:Out)→P Φ (aY false [32]) H] (.leaf ⟨.exc m,je q,H'⟩)))):=by kernel_rfl
noncomputable def q9 (kv:KV) (pl:PV):List Nat:=bif aa [109] (L.ro kv (strOf pl)) then [78,111,32,99,108,111,115,105,110,103,32,113,117,111,116,97,116,105,111,110] else [78,111,32,101,115,99,97,112,101,100,32,99,104,97,114,97,99,116,101,114]
theorem z8 {kv:KV} :ME kv pl=bif L.isKey kv pl then .exc (q9 kv pl) else .next:=by unfold ME q9;induction L.isKey kv pl with|true=>induction aa [109] (L.ro kv (strOf pl)) <;> rfl|false=>rfl
def J1 (Φ:Out→Prop) (_:Nat) (loc:Loc) (H:Hp):Prop:=(av (iK false) 62 B9 loc H).Sat (g6 (λz z=>False) Φ)
section
variable {g:G} {A:Around} {B:Bs} {X:XP} {k:Nat} {run:Bool} {x:Lx} {kv:KV} {tx:List Nat}
noncomputable def LQ (x:Lx) (o:Fl) (q:Bool) (tk:List Nat) (H':List Nat→Hp):RE:=by induction o using Fl.casesOn with|exc m=>exact .exc m (H' tk)|_=>exact .ok (qn x q tk) (H' [])
theorem yC (U:Base g) (S:wH g) (F:cG g 690 nU ["self"]) (R:aQ A (k+5)) {l:List Env} (FO:gw A B.fr l) (no:Bool) (J:(Out→Prop)→Nat→Loc→Hp→Prop) (step:∀Φ j loc H,J Φ j loc H→(av (iK no) 62 B9 loc H).Sat (g6 (λl' H'=>∃j',j'<j∧J Φ j' l' H') Φ)) (hf:fl=.next∨∃m,fl=.exc m) {st:PV} {p:Int} (start:∀Φ:Out→Prop,Φ ⟨fl,je q,b8 run x ⟨st,ln,tk⟩ tx p row as⟩→∃j,J Φ j (aY false [32]) H) : Runs g A B (kQ l B.fr) 690 [.ref 1] H (.leaf (LQ x fl q tk λtk=>b8 run x ⟨st,ln,tk⟩ tx p row as)):=λp' s vs Y rv Q hQ=>by
 refine Ce F.ex λo fd Fa hs Po hb=>?_;refine s9 (n:=60) (Γ:=Fy no (λΦ loc H=>∃j,J Φ j loc H) ⟨fl,je q,b8 run x ⟨st,ln,tk⟩ tx p row as⟩) Fa Po R.one (hb _ rfl) (λL=>?_) (xN FO Fa.kind) p' s vs Y rv Q (aP.mpr ?_)
 ·have S1:=LP (B:=B) (k:=k) U S (R.lt (by lia)) Fa hs L no;exact ⟨S1.c,S1.set,S1.km,S1.ve,cH λe m=>by rw[List.mem_singleton.mp m];have W:=BW (T:=TB (λΦ loc H=>∃j,J Φ j loc H) ⟨fl,je q,b8 run x ⟨st,ln,tk⟩ tx p row as⟩) (n:=62) (test:=FA eR) (body:=B9) (pos:=eR.pos) S1 J (λΦ loc H h=>h.1.1 Φ h.2) λΦ j loc H h=>⟨[],by kernel_rfl,trivial,step Φ j loc H h⟩;rw[←BY] at W;exact W,S1.uses,S1.raises⟩
 ·rcases hf with rfl | ⟨m,rfl⟩
  ·show (av _ 60 (bodyOf nU) [("self",.ref 1)] H).Sat _;rw[OF];refine ⟨trivial,trivial,⟨rfl,trivial⟩,⟨start,trivial⟩,⟨rfl,trivial⟩,trivial,trivial,⟨rfl,trivial⟩,λh=>⟨trivial,⟨rfl,trivial⟩,⟨rfl,trivial⟩,trivial,?_⟩,λh=>⟨⟨rfl,trivial⟩,⟨rfl,trivial⟩,trivial,?_⟩⟩
   ·unfold LQ qn at hQ;rw[h] at hQ;exact hQ
   ·unfold LQ qn at hQ;rw[h] at hQ;exact hQ
  ·show (av _ 60 (bodyOf nU) [("self",.ref 1)] H).Sat _;rw[OG];exact ⟨trivial,trivial,⟨rfl,trivial⟩,⟨start,trivial⟩,hQ⟩
end
section
variable {kvs:KV} {po wh:Bool} {rec:PV→List Nat→Ent} {c i:Nat} {r m:List Nat}
theorem kh:∀r:List Nat,cS r <:+ r
 | []=>List.suffix_refl _
 | c::r=>by
  unfold cS
  split
  ·exact List.suffix_cons _ _
  ·exact (kh r).trans (List.suffix_cons _ _)
theorem FD (h:∀pl t,(rec pl t).left <:+ t):(L.k0 rec po wh kvs i c r).left <:+ r:=by
 have b:∀{c:Bool} {x y:Ent},x.left <:+ r→y.left <:+ r→(bif c then x else y).left <:+ r:=λ{c} {x y} h1 h2=>by induction c <;> assumption
 have one:∀{w q},(⟨w,r,.int 0,q,false,false⟩:Ent).left <:+ r:=List.suffix_refl _;have ad:∀{w e q},e.left <:+ r→(L.add w e q).left <:+ r:=λh=>h;have lf:L.cv r <:+ r:=gR r▸kh r;refine b (b (h _ _) one) (b (show Ent.left (bif _ then _ else _) <:+ r from b lf ((h _ _).trans lf)) (b ?_ (b (h _ _) (b (ad (h _ _)) (b (ad (h _ _)) (b (ad (h _ _)) (b one one)))))));induction r using List.casesOn with|nil=>exact List.suffix_refl _|cons d r'=>exact (h _ _).trans (List.suffix_cons _ _)
theorem FE (h:∀pl t,(rec pl t).left <:+ t):(L.markB rec po kvs m c r).left <:+ r:=by
 have b:∀{c:Bool} {x y:Ent},x.left <:+ r→y.left <:+ r→(bif c then x else y).left <:+ r:=λ{c} {x y} h1 h2=>by induction c <;> assumption
 refine b (b (h _ _) (List.suffix_refl _)) (b (h _ _) (b (h _ _) ?_));induction r using List.casesOn with|nil=>exact List.suffix_refl _|cons d r'=>exact (h _ _).trans (List.suffix_cons _ _)
theorem sj:∀(n:Nat) (pl:PV) (t:List Nat),(L.i7 po wh kvs n pl t).left <:+ t.tail|0,_,_=>List.nil_suffix|_+1,_,[]=>List.nil_suffix|n+1,pl,c::r=>by have ih:∀pl t,(L.i7 po wh kvs n pl t).left <:+ t:=λpl t=>(sj n pl t).trans (List.tail_suffix t);show Ent.left ((pl.d3).elim _ _) <:+ r;induction pl.d3 with|none=>exact FD ih|some m=>exact FE ih
theorem wI {sg:List Nat}:(L.rest po wh kvs pl sg).left <:+ sg.tail:=sj _ _ _
end
theorem FF {l tx:List Nat} (h:l <:+ tx):tx.drop (tx.length - l.length)=l:=by refine bZ h λp ae=>?_;subst ae;rw[List.length_append,Nat.add_sub_cancel,List.drop_left'];rfl
theorem BZ {sg:List Nat} {e:Ent} (h:e.left <:+ sg):L.fC sg e ln=w9 ln sg e:=by
 refine bZ h λp hp=>?_;have c1:cq sg Option.none (some ((sg.length:Nat) - (e.left.length:Nat):Int))=p:=by
  rw[←hp,List.length_append];unfold cq;have e1:og (p++e.left).length (some (((p.length+e.left.length:Nat):Int) - ((e.left.length:Nat):Int)))=p.length:=by show clipAt _ _=_;rw[Int.natCast_add,Int.add_sub_cancel,List.length_append];exact gB (Nat.le_add_right _ _)
  rw[e1];show List.take (p.length - 0) (List.drop 0 _)=p;rw[List.drop_zero,Nat.sub_zero,List.take_left'];rfl
 unfold L.fC w9;rw[c1,t7,←hp,List.count_append];induction e.cut with|true=>show ln+(_+1)=ln+_ - _+1;lia|false=>show ln+(_+(0:Int))=ln+_ - _+0;lia
section
variable {run:Bool} {x:Lx} {kv:KV} {tx:List Nat}
def Mk (x:Lx) (tx:List Nat) (m:Nat):Prop:=m∈tx∧(aa [m] x.qu=true∨(aa [m] x.qu=false∧aa [m] x.es=true))
def gS (x:Lx) (tx:List Nat) (e:Ent):Prop:=(e.place=.int 0∧(e.ab=[]∨∃c∈tx,e.ab=[c]))∨(e.left=[]∧e.ab=[]∧(e.place=.none∨∃m,e.place=.str [m]∧Mk x tx m))
def PC (x:Lx) (tx:List Nat) (pl:PV):Prop:=(∃i:Nat,pl=.int i)∨∃m∈tx,pl=.str [m]∧aa [m] x.qu=true
theorem lD {rs:List Nat}:∀{o:List Nat},sEq (L.first rs o) [c]=true→aa [c] rs=true
 | [],h=>nomatch (show (false=true) from h)
 | d::o,h=>by
  have h:sEq (bif aa [d] rs then [d] else L.first rs o) [c]=true:=h;induction q:aa [d] rs with
  | true=>rw[q] at h;have:=lEq_iff.mp h;cases this;exact q
  | false=>rw[q] at h;exact lD h
theorem gS.bif {y z:Ent} (h1:b=true→gS x tx y) (h2:b=false→gS x tx z):gS x tx (bif b then y else z):=by induction b with|true=>exact h1 rfl|false=>exact h2 rfl
theorem gS.gap {w left:List Nat} {k:Bool}:gS x tx ⟨w,left,.int 0,[],q,k⟩:=.inl ⟨rfl,.inl rfl⟩
theorem Mk.PD (hc:c∈tx) (h:aa [c] x.es=true):Mk x tx c:=⟨hc,by induction q:aa [c] x.qu with|true=>exact .inl rfl|false=>exact .inr ⟨rfl,h⟩⟩
theorem gS.PD (hc:c∈tx) (h:aa [c] x.es=true):gS x tx ⟨[],[],.str [c],[],q,false⟩:=.inr ⟨rfl,rfl,.inr ⟨c,rfl,Mk.PD hc h⟩⟩
theorem JC (R:Rl run x kv tx) (hc:c∈tx) (h:aa [101] (L.ro kv [c])=true):aa [c] x.es=true:=by rw[R.es c hc] at h;exact (Bool.and_eq_true_iff.mp h).2
theorem B0 (R:Rl run x kv tx) {i:Nat} (hc:c∈tx) (hr:∀d∈r,d∈tx) (h:∀pl t,PC x tx pl→(∀d∈t,d∈tx)→gS x tx (rec pl t)):gS x tx (L.k0 rec x.po x.wh kv i c r):=by
 have hl:∀d∈L.cv r,d∈tx:=λd hd=>hr d ((gR r▸kh r:L.cv r <:+ r).subset hd);have int:∀(i:Nat) t,(∀d∈t,d∈tx)→gS x tx (rec (.int i) t):=λi t ht=>h _ t (.inl ⟨i,rfl⟩) ht;have TC:aa [109] (L.ro kv [c])=true→gS x tx (rec (.str [c]) r):=λq=>h _ r (.inr ⟨c,hc,rfl,by rw[←R.qu c hc];exact q⟩) hr;refine .bif (λw=>.bif (λw=>int 0 r hr) λw=>.gap) λw=>.bif (λw=>?_) λw=>.bif (λq=>?_) λq=>.bif (λz=>?_) λw=>.bif (λz=>TC (lD (Bool.and_eq_true_iff.mp z).1)) λw=>.bif (λw=>int 2 r hr) λw=>.bif (λw=>int 1 r hr) λw=>.bif (λw=>.gap) λw=>.inl ⟨rfl,.inr ⟨c,hc,rfl⟩⟩
 ·show gS x tx (L.jS (bif _ then _ else _) r);induction x.po&&Nat.blt 0 i with|true=>exact .gap|false=>exact int i _ hl
 ·have e:=JC R hc (lD (Bool.and_eq_true_iff.mp q).1);induction r using List.casesOn with|nil=>exact .PD hc e|cons d r'=>exact int 1 r' λy hy=>hr y (List.mem_cons_of_mem _ hy)
 ·refine TC ?_;induction e:aa [109] (L.ro kv [c]) with|true=>rfl|false=>
   rw[e] at q;rcases Bool.or_eq_true_iff.mp z with z | z
   ·rw[z] at q;exact tF q
   ·have:=lD (Bool.and_eq_true_iff.mp z).1;rw[e] at this;exact fT this
theorem B1 (R:Rl run x kv tx) (hm:m∈tx) (hq:aa [m] x.qu=true) (hc:c∈tx) (hr:∀d∈r,d∈tx) (h:∀pl t,PC x tx pl→(∀d∈t,d∈tx)→gS x tx (rec pl t)):gS x tx (L.markB rec x.po kv [m] c r):=by
 have st:∀t,(∀d∈t,d∈tx)→gS x tx (rec (.str [m]) t):=λt ht=>h _ t (.inr ⟨m,hm,rfl,hq⟩) ht;refine .bif (λw=>.bif (λw=>h _ r (.inl ⟨1,rfl⟩) hr) λw=>.gap) λw=>.bif (λw=>st r hr) λz=>.bif (λq=>h _ r (.inr ⟨c,hc,rfl,by rw[←R.qu c hc];exact q⟩) hr) λw=>?_
 induction r using List.casesOn with|nil=>exact .PD hc (JC R hc (by induction e:aa [101] (L.ro kv [c]) with|true=>rfl|false=>rw[e] at z;exact tF z))|cons d r'=>exact st r' λy hy=>hr y (List.mem_cons_of_mem _ hy)
theorem wJ (R:Rl run x kv tx) (hp:PC x tx pl):gS x tx (L.yj kv pl):=by
 rcases hp with ⟨i,rfl⟩ | ⟨m,hm,rfl,hq⟩
 ·exact .inr ⟨rfl,rfl,.inl rfl⟩
 ·refine .inr ⟨rfl,rfl,.inr ⟨m,?_,hm,.inl hq⟩⟩;show (bif L.isKey kv (.str [m]) then _ else _)=_;rw[show L.isKey kv (.str [m])=true from R.key m hm];rfl
theorem ki (R:Rl run x kv tx):∀(n:Nat) (pl:PV) (t:List Nat),PC x tx pl→(∀d∈t,d∈tx)→gS x tx (L.i7 x.po x.wh kv n pl t)
 | 0,pl,_,hp,_=>wJ R hp
 | _+1,pl,[],hp,_=>wJ R hp
 | n+1,pl,c::r,hp,ht=>by
  have hr:∀d∈r,d∈tx:=λd hd=>ht d (List.mem_cons_of_mem _ hd);rcases hp with ⟨i,rfl⟩ | ⟨m,hm,rfl,hq⟩
  ·exact B0 R (ht c List.mem_cons_self) hr (ki R n)
  ·exact B1 R hm hq (ht c List.mem_cons_self) hr (ki R n)
theorem FG (R:Rl run x kv tx) {sg:List Nat} (h:∀d∈sg,d∈tx):gS x tx (rs x kv (.int 0) sg):=ki R _ _ _ (.inl ⟨0,rfl⟩) h
end
structure nW (run:Bool) (x:Lx) (tx:List Nat) (r:Rd) (n:Nat):Prop where
 le:n≤tx.length
 row:∃l:List (List Nat),r.row=l.map .str
 ab:r.ab=[]∨(run=true∧∃c∈tx,r.ab=[c])
 at_:(r.place=.int 0∧r.kept=[])∨(tx.drop n=[]∧r.ab=[]∧((r.place=.none∧r.kept=[])∨∃m,r.place=.str [m]∧Mk x tx m))
noncomputable def yD (a:List Nat):List PV:=bif a.isEmpty then [] else [.str a]
noncomputable def qo (run:Bool) (x:Lx) (r:Rd) (tx:List Nat) (n:Nat):Hp:=b8 run x ⟨L.ay r.place,r.line,r.kept⟩ tx (n:Nat) r.row (yD r.ab)
section
variable {run:Bool} {x:Lx} {kv:KV} {tx:List Nat} {r:Rd} {n:Nat}
noncomputable abbrev tn (run:Bool) (x:Lx) (kv:KV) (r:Rd) (lf:List Nat):PV×Rd×List Nat:=L.turn x.po x.wh kv run r lf
noncomputable def ko (x:Lx) (kv:KV) (r:Rd) (lf:List Nat):Ent:=rs x kv (.int 0) (r.ab++lf)
noncomputable def wK (x:Lx) (kv:KV) (r:Rd) (lf:List Nat):Bool:=bif iD r.place then L.isKey kv (ko x kv r lf).place else L.isKey kv r.place
noncomputable def qq (x:Lx) (kv:KV) (r:Rd) (lf:List Nat):PV:=bif iD r.place then L.i9 x.po (ko x kv r lf) else L.gi x.po
noncomputable def kj (run:Bool) (x:Lx) (kv:KV) (r:Rd) (tx:List Nat) (n:Nat):RE:=
 let t:=tn run x kv r (tx.drop n)
 bif wK x kv r (tx.drop n) then .exc (q9 kv t.2.1.place) (qo run x t.2.1 tx (tx.length - t.2.2.length)) else .ok (qq x kv r (tx.drop n)) (qo run x t.2.1 tx (tx.length - t.2.2.length))
theorem du {e:Ent} :(cQ pl kp run e row ln).row=qh run e row∧yD (cQ pl kp run e row ln).ab=(bif run then (bif e.ab.isEmpty then [] else [.str e.ab]) else [])∧(cQ pl kp run e row ln).place=pl∧(cQ pl kp run e row ln).line=ln∧(cQ pl kp run e row ln).kept=kp:=by unfold cQ qh L.nq yD;induction run with|true=>exact ⟨rfl,rfl,rfl,rfl,rfl⟩|false=>induction e.ab.isEmpty <;> exact ⟨rfl,rfl,rfl,rfl,rfl⟩
theorem FH {e:Ent} :qo run x (cQ pl kp run e row ln) tx n=b8 run x ⟨L.ay pl,ln,kp⟩ tx (n:Nat) (qh run e row) (bif run then (bif e.ab.isEmpty then [] else [.str e.ab]) else []):=by refine MJ (du (run:=run) (pl:=pl) (kp:=kp) (e:=e) (row:=row) (ln:=ln)) λh1 h2 h3 h4 h5=>?_;unfold qo;rw[h1,h2,h3,h4,h5]
theorem z9 (po q:Bool) (w:List Nat):(bif po&&(!q&&(sEq w []&&true)) then PV.none else .str w)=ct (!w.isEmpty||(q||(!po||false))) (.str w) .none:=by rw[gF];induction w using List.casesOn with|nil=>induction po <;> induction q <;> rfl|cons c w=>induction po <;> induction q <;> rfl
theorem FI (h:r.place=.int 0) {e:Ent} (he:ko x kv r (tx.drop n)=e) (hl:L.fC (r.ab++tx.drop n) e r.line=ln):kj run x kv r tx n=bif L.isKey kv e.place then .exc (q9 kv e.place) (qo run x (cQ e.place e.word run e r.row ln) tx (tx.length - e.left.length)) else .ok (L.i9 x.po e) (qo run x (cQ e.place [] run e r.row ln) tx (tx.length - e.left.length)):=by subst he;subst hl;unfold kj wK qq tn L.turn ko;rw[h];dsimp only[iD,cond_true];induction L.isKey kv (rs x kv (.int 0) (r.ab++tx.drop n)).place with|true=>dsimp only[cond_true];rw[du.2.2.1]|false=>rfl
theorem sk (h:iD r.place=false) (hn:tx.drop n=[]) (hl:n=tx.length):kj run x kv r tx n=bif L.isKey kv r.place then .exc (q9 kv r.place) (qo run x r tx n) else .ok (L.gi x.po) (qo run x r tx n):=by have e:tx.length - ([]:List Nat).length=n:=hl.symm;unfold kj wK qq tn L.turn;rw[h,hn];dsimp only[cond_false];induction L.isKey kv r.place with|true=>dsimp only[cond_true];rw[e]|false=>dsimp only[cond_false];rw[e]
section
variable {g:G} {A:Around} {B:Bs} {k:Nat} {l:List Env}
theorem LR (U:Base g) (S:wH g) (F:cG g 690 nU ["self"]) (R:aQ A (k+5)) (FO:gw A B.fr l) (Q:Rl run x kv tx) (D:nW run x tx r n) (hp:r.place=.int 0) (hk:r.kept=[]) (hz:r.row.length≤900):Runs g A B (kQ l B.fr) 690 [.ref 1] (qo run x r tx n) (.leaf (kj run x kv r tx n)):=by
 have has:∃as:List Nat,(as=[]∨(run=true∧∃c∈tx,as=[c]))∧r.ab=as∧yD r.ab=jx as:=by
  rcases D.ab with e | ⟨h,c,hc,e⟩
  ·exact ⟨[],.inl rfl,e,by rw[e];rfl⟩
  ·exact ⟨[c],.inr ⟨h,c,hc,rfl⟩,e,by rw[e];rfl⟩
 obtain ⟨as,ha,ea,es⟩:=has;have hsz:as.length+tx.length≤501:=by have:=Q.len;rcases ha with rfl | ⟨_,c,_,rfl⟩ <;> simp only[List.length_nil,List.length_singleton] <;> lia
 have hd:=List.length_drop (i:=n) (l:=tx);have sub:∀d∈as++tx.drop n,d∈tx:=λd hd=>by
  rcases List.mem_append.mp hd with hd | hd
  ·rcases ha with rfl | ⟨_,c,hc,rfl⟩
   ·cases hd
   ·rw[List.mem_singleton.mp hd];exact hc
  ·exact List.mem_of_mem_drop hd
 have E:ko x kv r (tx.drop n)=rs x kv (.int 0) (as++tx.drop n):=by unfold ko;rw[ea]
 have PE:(ko x kv r (tx.drop n)).left <:+ as++tx.drop n:=by rw[E];exact wI.trans (List.tail_suffix _)
 have ln:L.fC (r.ab++tx.drop n) (rs x kv (.int 0) (as++tx.drop n)) r.line=w9 r.line (as++tx.drop n) (rs x kv (.int 0) (as++tx.drop n)):=by rw[ea,BZ (E▸PE)]
 have H0:qo run x r tx n=b8 run x ⟨.str [32],r.line,[]⟩ tx (n:Nat) r.row (jx as):=by unfold qo;rw[hp,hk,es];rfl
 rw[H0];have G:=yC U S F R FO (x:=x) (run:=run) (tx:=tx) false (JL run x kv tx) (λΦ j loc H h=>BX Q h) (H:=b8 run x ⟨.str [32],r.line,[]⟩ tx (n:Nat) r.row (jx as)) (fl:=ME kv (rs x kv (.int 0) (as++tx.drop n)).place) (by rw[z8];induction L.isKey kv _ <;> first | exact .inl rfl | exact .inr ⟨_,rfl⟩) (λΦ gA=>⟨_,.gap,r.line,[],[32],false,r.row,as,n,rfl,rfl,D.le,ha,rfl,⟨rfl,rfl⟩,by rw[List.length_append,hd];show 0+_≤_;lia,by lia,gA⟩);rw[FI hp E ln,FH,FH];rw[z8] at G;induction hb:L.isKey kv (rs x kv (.int 0) (as++tx.drop n)).place with|true=>rw[hb] at G;exact G|false=>rw[hb] at G;unfold L.i9;rw[←z9];exact G
theorem Ic (U:Base g) (S:wH g) (F:cG g 690 nU ["self"]) (R:aQ A (k+5)) (FO:gw A B.fr l) (Q:Rl run x kv tx) (D:nW run x tx r n) (hp:r.place=.none) (hk:r.kept=[]) (ha:r.ab=[]) (hn:tx.drop n=[]):Runs g A B (kQ l B.fr) 690 [.ref 1] (qo run x r tx n) (.leaf (kj run x kv r tx n)):=by
 have hl:=gone D.le hn;have H0:qo run x r tx n=b8 run x ⟨.none,r.line,[]⟩ tx (tx.length:Nat) r.row []:=by unfold qo;rw[hp,hk,ha,hl];rfl
 have T:kj run x kv r tx n=.ok (L.gi x.po) (b8 run x ⟨.none,r.line,[]⟩ tx (tx.length:Nat) r.row []):=by rw[sk (by rw[hp];rfl) hn hl,hp,H0];rfl
 rw[T,H0];have G:=yC U S F R FO (x:=x) (run:=run) (tx:=tx) true (JN run x tx) (λΦ j loc H h=>yB Q h) (H:=b8 run x ⟨.none,r.line,[]⟩ tx (tx.length:Nat) r.row []) (fl:=.next) (.inl rfl) (q:=false) (λΦ gA=>⟨0,r.line,[],[32],false,r.row,rfl,rfl,gA⟩);have:qn x false []=L.gi x.po:=by unfold qn L.gi;rw[z9];induction x.po <;> rfl
 rw[←this];exact G
theorem LS (U:Base g) (S:wH g) (F:cG g 690 nU ["self"]) (R:aQ A (k+5)) (FO:gw A B.fr l) (Q:Rl run x kv tx) (D:nW run x tx r n) (hp:r.place=.str [m]) (hm:Mk x tx m) (ha:r.ab=[]) (hn:tx.drop n=[]) (hz:r.row.length≤900) (VG:r.kept.length≤2000):Runs g A B (kQ l B.fr) 690 [.ref 1] (qo run x r tx n) (.leaf (kj run x kv r tx n)):=by
 have hl:=gone D.le hn;have tz:tx.length≤1000:=Nat.le_trans Q.len (by lia);have H0:qo run x r tx n=b8 run x ⟨.str [m],r.line,r.kept⟩ tx (n:Nat) r.row []:=by unfold qo;rw[hp,ha];rfl
 have ik:L.isKey kv (.str [m])=true:=Q.key m hm.1;have T:kj run x kv r tx n=.exc (q9 kv (.str [m])) (b8 run x ⟨.str [m],r.line,r.kept⟩ tx (n:Nat) r.row []):=by rw[sk (by rw[hp];rfl) hn hl,hp,ik,H0];rfl
 rw[T,H0];have msg:(bif aa [m] x.qu then lA else sa)=.exc (q9 kv (.str [m])):=by unfold q9;rw[show strOf (PV.str [m])=[m] from rfl,Q.qu m hm.1];induction aa [m] x.qu <;> rfl
 have G:=yC U S F R FO (x:=x) (run:=run) (tx:=tx) false J1 (λΦ j loc H h=>Tr.Sat.mono (λo ⟨l,s,h⟩=>⟨l,s,by induction ho:o.fl using Fl.casesOn <;> rw[ho] at h <;> first | exact h.elim | exact h⟩) h) (H:=b8 run x ⟨.str [m],r.line,r.kept⟩ tx (n:Nat) r.row []) (fl:=.exc (q9 kv (.str [m]))) (.inr ⟨_,rfl⟩) (q:=aa [m] x.qu) (st:=.str [m]) (ln:=r.line) (tk:=r.kept) (p:=(n:Nat)) (row:=r.row) (as:=[]) (λΦ gA=>⟨0,by
   unfold J1;rw[Ox];refine aj (tR (buf:=tx) (n:=n) (Nat.le_of_eq hl.symm)) λe1 e2=>?_;rw[e1,e2];refine ⟨⟨rfl,trivial⟩,⟨⟨_,_,rfl⟩,⟨_,_,_,_,_,[],n,rfl,tz,Nat.zero_le _,Q.run⟩,trivial⟩,⟨rfl,trivial⟩,⟨⟨_,_,_,rfl⟩,⟨_,_,_,_,_,_,_,rfl⟩,trivial⟩,oF (by show _+1+0≤_;lia) (by lia) tz ?_⟩;rw[←msg] at gA;rcases hm.2 with h | ⟨h1,h2⟩
   ·rw[h] at gA;exact t9 Q h ⟨λz=>⟨_,qj,gA⟩,nofun⟩
   ·rw[h1] at gA;exact ql Q h1 h2 ⟨λz=>⟨_,qj,gA⟩,nofun⟩⟩)
 exact G
end
end
noncomputable def nY:=fnIn "_law_ask" pb
noncomputable def d0:Stmt:=eK [0] (bodyOf nY)
noncomputable def FJ (s:Stmt):Option ExceptHandler:=by induction s using Stmt.casesOn with|Try b hs=>exact hs.head?|_=>exact Option.none
noncomputable def LU (s:Stmt):List Stmt:=(FJ s).elim [] λh=>h.casesOn λz z b z=>b
noncomputable def Aa:Ctx:=c8 nY (λC x=>iP C x lq) cg []
noncomputable def JD:Ctx:={Aa with nh:=false}
noncomputable def JE (s:Stmt):Pos:=(FJ s).elim default λh=>h.casesOn λe z z z=>e.elim default Expr.pos
noncomputable def JF (s:Stmt):Pos:=(FJ s).elim default λh=>h.casesOn λz z z p=>p
theorem FL:d0=.Try (eD d0) [.ExceptHandler (some (.Name "ValueError" (JE d0))) (some "fault") [(LU d0).getD 0 Bt] (JF d0)] [] [] d0.pos:=by kernel_rfl
noncomputable def Vl (kf:Hp) (r:RE) (args:List PV) (H:Hp):Tr RE:=.need [args=[.ref 1],H=kf] (.leaf r)
noncomputable def JG (kf:Hp) (r:RE):aA:={aC Aa with km:=iI [(690,Vl kf r)]}
noncomputable def FN (kf:Hp) (r:RE):aA:=b3 Aa (λz=>false) [((d0.pos.line,d0.pos.col),⟨d0,Nz (JG kf r) (aC JD) 40 40 (eD d0) [(LU d0).getD 0 Bt] "fault"⟩)]
noncomputable def uc (b:Bool):List Nat:=bif b then [78,111,32,99,108,111,115,105,110,103,32,113,117,111,116,97,116,105,111,110] else [78,111,32,101,115,99,97,112,101,100,32,99,104,97,114,97,99,116,101,114]
noncomputable def yE (iS:List PV) (v:Lv) (row:List PV):PV:=.lst (iS++[v.st,.str v.tk,.int v.ln,.lst row])
noncomputable def OH (kf:Hp) (st:PV):List Prop:=[d0=d0,[PV.ref 1]=[.ref 1],kf=kf,bC st=true,true=true,true=true,true=true,true=true]
noncomputable def LV:List Nat:=[114,101,102,117,115,101,100]
theorem LW (run:Bool) (x:Lx) (uS v:Lv) (tx:List Nat) (cJ p:Int) (kl qr row as:List PV) (told:PV):lj (av (FN (b8 run x uS tx cJ kl qr) (.ok told (b8 run x v tx p row as))) 60 (bodyOf nY) [("lexer",.ref 1)] (b8 run x uS tx cJ kl qr)) = some (OH (b8 run x uS tx cJ kl qr) v.st,⟨.ret (yE (L.iC told) v row),[("lexer",.ref 1),("answer",.lst (L.iC told))],b8 run x v tx p row as⟩):=by induction run <;> kernel_rfl
theorem LY (run b:Bool) (x:Lx) (uS v:Lv) (tx:List Nat) (cJ p:Int) (kl qr row as:List PV):lj (av (FN (b8 run x uS tx cJ kl qr) (.exc (uc b) (b8 run x v tx p row as))) 60 (bodyOf nY) [("lexer",.ref 1)] (b8 run x uS tx cJ kl qr)) = some (OH (b8 run x uS tx cJ kl qr) v.st,⟨.ret (yE [.str LV,.str (uc b)] v row),[("lexer",.ref 1),("answer",.lst [.str LV,.str (uc b)])],b8 run x v tx p row as++[((b8 run x v tx p row as).length,.exc (uc b))]⟩):=by induction run <;> induction b <;> kernel_rfl
section
variable {run:Bool} {x:Lx} {kv:KV} {tx:List Nat} {r:Rd} {n n':Nat}
theorem nW.later (D:nW run x tx r n) (h:n≤n') (hl:n'≤tx.length):nW run x tx r n':=⟨hl,D.row,D.ab,D.at_.imp id λ⟨a,b⟩=>⟨by have:=gone D.le a;rw[show n'=tx.length by lia];exact List.drop_eq_nil_of_le (Nat.le_refl _),b⟩⟩
structure yF (run:Bool) (x:Lx) (tx:List Nat) (r:Rd) (n:Nat) (t:PV×Rd×List Nat) (n':Nat):Prop where
 left:t.2.2=tx.drop n'
 le:n≤n'
 is:tx.length - t.2.2.length=n'
 rd:nW run x tx t.2.1 n'
 kept:t.2.1.kept.length≤1000
 row:t.2.1.row.length≤r.row.length+1
theorem Ab (Q:Rl run x kv tx) (D:nW run x tx r n) (hp:r.place=.int 0) {e:Ent} (he:ko x kv r (tx.drop n)=e) (hk:kp=e.word∨kp=[]) (hw:L.isKey kv e.place=false→kp=[]) {pv:PV} :∃n',yF run x tx r n (pv,cQ e.place kp run e r.row ln,e.left) n':=by
 have sub:∀d∈r.ab++tx.drop n,d∈tx:=λd hd=>by
  rcases List.mem_append.mp hd with hd | hd
  ·rcases D.ab with h | ⟨_,c,hc,h⟩
   ·rw[h] at hd;cases hd
   ·rw[h] at hd;rw[List.mem_singleton.mp hd];exact hc
  ·exact List.mem_of_mem_drop hd
 have al:r.ab.length≤1:=by rcases D.ab with h | ⟨_,c,_,h⟩ <;> rw[h] <;> simp
 have PE:e.left <:+ tx.drop n:=by
  rw[←he];refine wI.trans ?_;rcases D.ab with h | ⟨_,c,_,h⟩ <;> rw[h]
  ·exact List.tail_suffix _
  ·exact List.suffix_refl _
 have dl:=FF (PE.trans (List.drop_suffix n tx));have ek:gS x tx e:=he▸FG Q sub;have wl:e.word.length≤1000:=by have:=(gh (po:=x.po) (wh:=x.wh) (kvs:=kv) (pl:=.int 0) (.inl rfl) λc hc=>Q.key c (sub c hc)).word;rw[show L.rest x.po x.wh kv (.int 0) (r.ab++tx.drop n)=e from he,List.length_append,List.length_drop] at this;have:=Q.len;omega
 have sl:=PE.length_le;rw[List.length_drop] at sl;refine bZ D.row λl hl=>?_;have dn:=D.le;refine ⟨tx.length - e.left.length,dl.symm,by omega,rfl,⟨Nat.sub_le _ _,?_,?_,?_⟩,?_,?_⟩
 ·show ∃l,(cQ e.place kp run e r.row ln).row=_;rw[du.1,hl];unfold qh;induction run with|true=>exact ⟨l,rfl⟩|false=>induction e.ab.isEmpty <;> first | exact ⟨l,rfl⟩ | exact ⟨e.ab::l,rfl⟩
 ·show (cQ e.place kp run e r.row ln).ab=[]∨_;unfold cQ;induction run with|false=>exact .inl rfl|true=>
   rcases ek with ⟨_,h | ⟨c,hc,h⟩⟩ | ⟨_,h,_⟩
   ·exact .inl h
   ·exact .inr ⟨rfl,c,hc,h⟩
   ·exact .inl h
 ·have Vm:e.ab=[]→(cQ e.place kp run e r.row ln).ab=[]:=λh=>by unfold cQ;induction run <;> first | rfl | exact h
  show ((cQ e.place kp run e r.row ln).place=.int 0∧(cQ e.place kp run e r.row ln).kept=[])∨(_∧(cQ e.place kp run e r.row ln).ab=[]∧(((cQ e.place kp run e r.row ln).place=.none∧(cQ e.place kp run e r.row ln).kept=[])∨∃m,(cQ e.place kp run e r.row ln).place=_∧_))
  rw[du.2.2.1,du.2.2.2.2]
  rcases ek with ⟨h,_⟩ | ⟨h1,h2,h3⟩
  ·exact .inl ⟨h,hw (by rw[h];rfl)⟩
  ·refine .inr ⟨by rw[dl,h1],Vm h2,?_⟩;rcases h3 with h | h
   ·exact .inl ⟨h,hw (by rw[h];rfl)⟩
   ·exact .inr h
 ·show (cQ e.place kp run e r.row ln).kept.length≤_;rw[du.2.2.2.2];rcases hk with rfl | rfl
  ·exact wl
  ·exact Nat.zero_le _
 ·show (cQ e.place kp run e r.row ln).row.length≤_;rw[du.1];unfold qh;induction run with|true=>exact Nat.le_succ _|false=>induction e.ab.isEmpty <;> first | exact Nat.le_succ _ | exact Nat.le_refl _
noncomputable abbrev OI (x:Lx) (kv:KV) (r:Rd) (lf:List Nat):Int:=L.fC (r.ab++lf) (ko x kv r lf) r.line
theorem FP (h:r.place=.int 0) (lf:List Nat):tn run x kv r lf=bif L.isKey kv (ko x kv r lf).place then (L.viewOf (L.refused kv (strOf (ko x kv r lf).place)) (ko x kv r lf).place (cQ (ko x kv r lf).place (ko x kv r lf).word run (ko x kv r lf) r.row (OI x kv r lf)),cQ (ko x kv r lf).place (ko x kv r lf).word run (ko x kv r lf) r.row (OI x kv r lf),(ko x kv r lf).left) else (L.viewOf (L.iC (L.i9 x.po (ko x kv r lf))) (L.ay (ko x kv r lf).place) (cQ (ko x kv r lf).place [] run (ko x kv r lf) r.row (OI x kv r lf)),cQ (ko x kv r lf).place [] run (ko x kv r lf) r.row (OI x kv r lf),(ko x kv r lf).left):=by unfold tn L.turn OI ko;rw[h];rfl
theorem Ac (h:iD r.place=false) (lf:List Nat):tn run x kv r lf=bif L.isKey kv r.place then (L.viewOf (L.refused kv (strOf r.place)) r.place r,r,lf) else (L.viewOf (L.iC (L.gi x.po)) r.place r,r,lf):=by unfold tn L.turn;rw[h];rfl
theorem jf (Q:Rl run x kv tx) (D:nW run x tx r n) (hk:r.kept.length≤1000):∃n',yF run x tx r n (tn run x kv r (tx.drop n)) n':=by
 have vB:iD r.place=false→∃n',yF run x tx r n (tn run x kv r (tx.drop n)) n':=λh=>by rw[Ac h];induction L.isKey kv r.place <;> exact ⟨n,rfl,Nat.le_refl _,Fv D.le,D,hk,Nat.le_succ _⟩
 rcases D.at_ with ⟨hp,_⟩ | ⟨_,_,⟨hp,_⟩ | ⟨m,hp,_⟩⟩
 ·rw[FP hp];induction h:L.isKey kv (ko x kv r (tx.drop n)).place with|true=>exact Ab Q D hp rfl (.inl rfl) λz=>by rw[h] at z;exact tF z|false=>exact Ab Q D hp rfl (.inr rfl) λy=>rfl
 ·exact vB (by rw[hp];rfl)
 ·exact vB (by rw[hp];rfl)
noncomputable def fH (r:Rd):Lv:=⟨L.ay r.place,r.line,r.kept⟩
noncomputable def qs (run:Bool) (x:Lx) (r:Rd) (tx:List Nat) (n:Nat):List AO:=[iG tx (n:Nat),.inst 722 (dX 0 2 run x (fH r)),.ew r.row,.ew []]++(bif run then [AO.ew (yD r.ab)] else [])
theorem FQ (h:L.isKey kv pl=true):L.ay pl=pl:=by induction pl using PV.casesOn <;> first | rfl | exact fT h
theorem oJ {q:Rd} (h:vw=L.ay q.place):L.viewOf iS vw q=yE iS (fH q) q.row:=by subst h;rfl
theorem Ad (D:nW run x tx r n) {n':Nat} (T:yF run x tx r n (tn run x kv r (tx.drop n)) n') : (∃told,bz told=true∧kj run x kv r tx n=.ok told (qo run x (tn run x kv r (tx.drop n)).2.1 tx n')∧(tn run x kv r (tx.drop n)).1=yE (L.iC told) (fH (tn run x kv r (tx.drop n)).2.1) (tn run x kv r (tx.drop n)).2.1.row)∨ (∃b,kj run x kv r tx n=.exc (uc b) (qo run x (tn run x kv r (tx.drop n)).2.1 tx n')∧(tn run x kv r (tx.drop n)).1=yE [.str LV,.str (uc b)] (fH (tn run x kv r (tx.drop n)).2.1) (tn run x kv r (tx.drop n)).2.1.row):=by
 have ti:=T.is;unfold kj;dsimp only;rw[ti];clear T ti;rcases D.at_ with ⟨hp,_⟩ | ⟨_,_,h⟩
 ·unfold wK qq;rw[FP hp,hp];induction h:L.isKey kv (ko x kv r (tx.drop n)).place with|true=>exact .inr ⟨aa [109] (L.ro kv (strOf (ko x kv r (tx.drop n)).place)),by show RE.exc (q9 kv (cQ _ _ _ _ _ _).place) _=_;rw[du.2.2.1];rfl,oJ (by rw[du.2.2.1,FQ h])⟩|false=>exact .inl ⟨_,cR rfl rfl,rfl,oJ (by rw[du.2.2.1])⟩
 ·have hg:iD r.place=false:=by rcases h with ⟨h,_⟩ | ⟨m,h,_⟩ <;> rw[h] <;> rfl
  have ng:L.ay r.place=r.place:=by unfold L.ay;rw[hg];rfl
  unfold wK qq
  rw[Ac hg,hg]
  dsimp only[cond_false]
  induction L.isKey kv r.place with|true=>exact .inr ⟨aa [109] (L.ro kv (strOf r.place)),rfl,oJ ng.symm⟩|false=>exact .inl ⟨_,cR rfl rfl,rfl,oJ ng.symm⟩
section
variable {g:G} {A:Around} {B:Bs} {k:Nat} {l:List Env}
theorem FR (U:Base g) (S:wH g) (F:cG g 690 nU ["self"]) (R:aQ A (k+5)) (FO:gw A B.fr l) (Q:Rl run x kv tx) (D:nW run x tx r n) (hz:r.row.length≤900) (hk:r.kept.length≤1000):Runs g A B (kQ l B.fr) 690 [.ref 1] (qo run x r tx n) (.leaf (kj run x kv r tx n)):=by
 rcases D.at_ with ⟨hp,h⟩ | ⟨hn,ha,⟨hp,h⟩ | ⟨m,hp,hm⟩⟩
 ·exact LR U S F R FO Q D hp h hz
 ·exact Ic U S F R FO Q D hp h ha hn
 ·exact LS U S F R FO Q D hp hm ha hn hz (by lia)
end
end
section
variable {g:G} {A:Around} {B:Bs} {X:XP} {k:Nat} {l:List Env} {run:Bool} {x:Lx} {kv:KV} {tx:List Nat} {r:Rd} {n n':Nat}
theorem gw.call {fr:List Addr} {l:List Env} (FO:gw A fr l) {L f:Addr} (hk:fd.scope.kind=.function):gw (A.deeper (callEnvC fd L f)).in1 (L::fr) (callEnvC fd L f::l):=⟨Around.frames_deeper FO.1,λe he=>by
 rcases List.mem_cons.mp he with rfl | he
 ·exact ⟨λq=>(by have q:fd.scope.kind=.module:=q;rw[hk] at q;exact nomatch q),_,rfl,List.mem_cons_self⟩
 ·refine aj (FO.2 e he) λh1 ae=>?_;refine aG ae λL' h2 h3=>?_;exact ⟨h1,L',h2,List.mem_cons_of_mem _ h3⟩⟩
theorem Ie (U:Base g) (S:wH g) (F:cG g 690 nU ["self"]) (R:aQ A (k+6)) (FO:gw A B.fr l) (Q:Rl run x kv tx) (D:nW run x tx r n) (hz:r.row.length≤900) (hk:r.kept.length≤1000) (Fa:FnAt g 788 o fd (bodyOf nY)) (hs:fd.scope=aV nY) (L:Addr):cE (c5 g B fd L 788) (A.deeper (callEnvC fd L 788)) ba (FN (qo run x r tx n) (kj run x kv r tx n)):=by
 have C0:af (c5 g B fd L 788) (A.deeper (callEnvC fd L 788)) Aa:=aU U.N hs (by kernel_rfl) Fa.glob Fa.blt R.hd (R.u9 _) (bH U.lx.at_) aX ak;have S0:=bu (X:=kQ (callEnvC fd L 788::l) (L::B.fr)) C0 λp t h=>nomatch h
 have Sb:cE (c5 g B fd L 788) (A.deeper (callEnvC fd L 788)) (kQ (callEnvC fd L 788::l) (L::B.fr)) (JG (qo run x r tx n) (kj run x kv r tx n)):=⟨S0.c,S0.set,eI λe m args H=>by rw[List.mem_singleton.mp m];exact Runs.need λ⟨h1,h2,_⟩=>by subst h1;subst h2;exact FR U S F (R.down _) (FO.call Fa.kind) Q D hz hk,da λe m=>by rw[List.mem_singleton.mp m];exact fE F,S0.loops,S0.uses,S0.raises⟩;have Sh:∀e,cE (c5 g B fd L 788) ((A.deeper (callEnvC fd L 788)).mark (some (.ref e))) ba (aC JD):=λe=>bu ⟨C0.scope,C0.w,C0.kind,C0.globals,C0.builtins,(λh=>Bool.noConfusion h),C0.un,C0.glob,C0.blt,C0.attr,aX,(λp t h=>nomatch h)⟩ λp t h=>nomatch h
 refine cj C0 (λp t h=>nomatch h) (cH λe m=>?_);rw[List.mem_singleton.mp m];have W:=Ku (X:=ba) (body:=eD d0) (b₀:=(LU d0).getD 0 Bt) (suite:=[]) (n:="fault") (x:="ValueError") (np:=JE d0) (hp:=JF d0) (pos:=d0.pos) (nb:=40) (nh:=40) C0 (Around.frames_deeper FO.1) rfl Sb Sh (by show fd.scope.names.lookup _=_;rw[hs];kernel_rfl) (by kernel_rfl) (U.N.get (by kernel_rfl));rw[←FL] at W;exact W
theorem ud (D:nW run x tx r n):noRef (L.ay r.place)=true:=by rcases D.at_ with ⟨h,_⟩ | ⟨_,_,⟨h,_⟩ | ⟨m,h,_⟩⟩ <;> rw[h] <;> rfl
theorem yG (D:nW run x tx r n):ar r.row=true:=by refine bZ D.row λl h=>?_;rw[h];exact bM l
theorem FT (U:Base g) (S:wH g) (F:cG g 690 nU ["self"]) (F2:cG g 788 nY ["lexer"]) (R:aQ A (k+6)) (FO:gw A B.fr l) (Q:Rl run x kv tx) (D:nW run x tx r n) (hz:r.row.length≤900) (hk:r.kept.length≤1000) (T:yF run x tx r n (tn run x kv r (tx.drop n)) n') : ∃ext,Runs g A B X 788 [.ref 1] (fP 0 (qs run x r tx n)) (.leaf (.ok (tn run x kv r (tx.drop n)).1 (fP 0 (qs run x (tn run x kv r (tx.drop n)).2.1 tx n'++ext))))∧noRef (tn run x kv r (tx.drop n)).1=true:=by
 have sg:∀{r:Rd} {n},nW run x tx r n→bC (L.ay r.place)=true:=λD=>by rcases D.at_ with ⟨h,_⟩ | ⟨_,_,⟨h,_⟩ | ⟨m,h,_⟩⟩ <;> rw[h] <;> rfl
 have ng:=sg T.rd;refine bZ T.rd.row λrl Rn=>?_;have vn:∀iS,ar iS=true→noRef (yE iS (fH (tn run x kv r (tx.drop n)).2.1) (tn run x kv r (tx.drop n)).2.1.row)=true:=λiS ha=>by show ar (iS++[L.ay _,.str _,.int _,.lst _])=true;rw[ed,ha,Rn];show (true&&(noRef (L.ay _)&&(true&&(true&&(ar (rl.map PV.str)&&true)))))=true;rw[bM,ud T.rd];rfl
 have hc:=λo fd Fa hs L=>Ie (kv:=kv) (o:=o) U S F R FO Q D hz hk (fd:=fd) Fa hs L;rcases Ad D T with ⟨told,KC,h1,h2⟩ | ⟨b,h1,h2⟩
 ·rw[h1] at hc;rw[h2];exact ⟨[],by rw[List.append_nil];exact dG (n:=60) F2 rfl R.one hc λΦ gA=>fG (LW run x (fH r) (fH (tn run x kv r (tx.drop n)).2.1) tx (n:Nat) (n':Nat) r.row (yD r.ab) _ (yD (tn run x kv r (tx.drop n)).2.1.ab) told) ⟨rfl,rfl,rfl,ng,rfl,rfl,rfl,rfl,trivial⟩ gA,vn _ (by show (true&&(noRef told&&true))=true;rw[(b7 KC).1];rfl)⟩
 ·rw[h1] at hc;rw[h2];exact ⟨[.exc (uc b)],by rw[tV,show fP (0+(qs run x (tn run x kv r (tx.drop n)).2.1 tx n').length) [AO.exc (uc b)]=[((qo run x (tn run x kv r (tx.drop n)).2.1 tx n').length,.exc (uc b))] by rw[Nat.zero_add];show [(_,_)]=[((fP 0 _).length,_)];rw[oA];rfl];exact dG (n:=60) F2 rfl R.one hc λΦ gA=>fG (LY run b x (fH r) (fH (tn run x kv r (tx.drop n)).2.1) tx (n:Nat) (n':Nat) r.row (yD r.ab) _ (yD (tn run x kv r (tx.drop n)).2.1.ab)) ⟨rfl,rfl,rfl,ng,rfl,rfl,rfl,rfl,trivial⟩ gA,vn _ rfl⟩
end
mutual
theorem ue (ks:List Nat):∀v:PV,noRef v=true→zt ks v=v
 | .ref _,h=>nomatch (show (false=true) from h)
 | .tup xs,h=>congrArg PV.tup (gk ks xs h)
 | .lst xs,h=>congrArg PV.lst (gk ks xs h)
 | .arr xs,h=>congrArg PV.arr (gk ks xs h)
 | .none,_ | .bool _,_ | .int _,_ | .str _,_ | .lF _,_ | .glob _,_=>rfl
theorem gk (ks:List Nat):∀xs:List PV,ar xs=true→g9 ks xs=xs|[],_=>rfl|x::xs,h=>by refine aj (dB h) λa b=>?_;show zt ks x::g9 ks xs=_;rw[ue ks x a,gk ks xs b]
end
mutual
theorem lE (n:Nat):∀v:PV,noRef v=true→below n v=true
 | .ref _,h=>nomatch (show (false=true) from h)
 | .tup xs,h=>fc n xs h
 | .lst xs,h=>fc n xs h
 | .arr xs,h=>fc n xs h
 | .none,_ | .bool _,_ | .int _,_ | .str _,_ | .lF _,_ | .glob _,_=>rfl
theorem fc (n:Nat):∀xs:List PV,ar xs=true→belows n xs=true|[],_=>rfl|x::xs,h=>by refine aj (dB h) λa b=>?_;show (below n x&&belows n xs)=true;rw[lE n x a,fc n xs b];rfl
end
noncomputable def dc (run:Bool) (io j pb:Nat):List Nat:=[io,j,pb,pb+1]++(bif run then [pb+2] else [])
noncomputable def b5 (run:Bool) (io j pb:Nat) (x:Lx) (r:Rd) (tx:List Nat) (n:Nat) (H:Hp):Hp:=
 let H:=bG (pb+1) (.ew []) (bG pb (.ew r.row) (bG j (.inst 722 (dX io pb run x (fH r))) (bG io (iG tx (n:Nat)) H)))
 bif run then bG (pb+2) (.ew (yD r.ab)) H else H
structure iQ (run:Bool) (io j pb:Nat) (x:Lx) (r:Rd) (tx:List Nat) (n:Nat) (H:Hp):Prop where
 RR:aO io H=some (iG tx (n:Nat))
 PF:aO j H=some (.inst 722 (dX io pb run x (fH r)))
 PG:aO pb H=some (.ew r.row)
 RT:aO (pb+1) H=some (.ew [])
 OJ:run=true→aO (pb+2) H=some (.ew (yD r.ab))
section
variable {run:Bool} {x:Lx} {tx:List Nat} {r:Rd} {n io j pb:Nat} {H:Hp}
theorem FU (h:noRef (L.ay r.place)=true):pJ (dc run io j pb) (.inst 722 (dX 0 2 run x (fH r)))=.inst 722 (dX io pb run x (fH r)):=by have e:=ue (dc run io j pb) _ h;have eo:=ue (dc run io j pb) (bif x.po then PV.none else PV.str []) (by induction x.po <;> rfl);induction run with|true=>show AO.inst 722 (x9 _ (dX 0 2 true x (fH r)))=_;show AO.inst 722 [_,_,_,(_,zt (dc true io j pb) (bif x.po then PV.none else PV.str [])),_,_,_,_,_,_,_,(_,zt (dc true io j pb) (L.ay r.place)),_,_,_,_,_,_,_,_]=_;rw[e,eo];rfl|false=>show AO.inst 722 [_,_,_,(_,zt (dc false io j pb) (bif x.po then PV.none else PV.str [])),_,_,_,_,_,_,_,(_,zt (dc false io j pb) (L.ay r.place)),_,_,_,_,_,_,_]=_;rw[e,eo];rfl
theorem LZ (h:noRef (L.ay r.place)=true):j4 (dc run io j pb).length (.inst 722 (dX 0 2 run x (fH r)))=true:=by have e:=lE (dc run io j pb).length _ h;have eo:=lE (dc run io j pb).length (bif x.po then PV.none else PV.str []) (by induction x.po <;> rfl);induction run with|true=>show (true&&(true&&(true&&(below (dc true io j pb).length (bif x.po then PV.none else PV.str [])&&(true&&(true&&(true&&(true&&(true&&(true&&(true&&(below (dc true io j pb).length (L.ay r.place)&&true))))))))))))=true;rw[e,eo];rfl|false=>show (true&&(true&&(true&&(below (dc false io j pb).length (bif x.po then PV.none else PV.str [])&&(true&&(true&&(true&&(true&&(true&&(true&&(true&&(below (dc false io j pb).length (L.ay r.place)&&true))))))))))))=true;rw[e,eo];rfl
theorem yH (a:List Nat):ar (yD a)=true:=by unfold yD;induction a.isEmpty <;> rfl
theorem Ae (hk:ks=dc run io j pb) (h:noRef (L.ay r.place)=true) (hr:ar r.row=true):∀o∈qs run x r tx n,j4 ks.length o=true:=λo m=>by
 subst hk;unfold qs at m;rcases List.mem_append.mp m with m | m
 ·rcases List.mem_cons.mp m with rfl | m
  ·rfl
  rcases List.mem_cons.mp m with rfl | m
  ·exact LZ h
  rcases List.mem_cons.mp m with rfl | m
  ·exact fc _ _ hr
  ·rw[List.mem_singleton.mp m];rfl
 ·induction run with|true=>rw[List.mem_singleton.mp m];exact fc _ _ (yH _)|false=>cases m
theorem Ig (D:iQ run io j pb x r tx n H) (nd:(dc run io j pb).Nodup) (h:noRef (L.ay r.place)=true) (hr:ar r.row=true):pK (dc run io j pb) (qs run x r tx n) H:=by
 refine ⟨nd,by unfold qs dc;induction run <;> rfl,λi k o hi ho=>?_,Ae rfl h hr⟩;have row:=gk (dc run io j pb) _ hr;have RU:=gk (dc run io j pb) _ (yH r.ab);induction i using Nat.casesOn with
 | zero=>obtain rfl:=Option.some.inj hi;obtain rfl:=Option.some.inj ho;exact D.RR
 | succ i=>
 induction i using Nat.casesOn with
 | zero=>obtain rfl:=Option.some.inj hi;obtain rfl:=Option.some.inj ho;rw[FU h];exact D.PF
 | succ i=>
 induction i using Nat.casesOn with
 | zero=>obtain rfl:=Option.some.inj hi;obtain rfl:=Option.some.inj ho;show _=some (AO.ew (g9 _ r.row));rw[row];exact D.PG
 | succ i=>
 induction i using Nat.casesOn with
 | zero=>obtain rfl:=Option.some.inj hi;obtain rfl:=Option.some.inj ho;exact D.RT
 | succ i=>
 induction run with|false=>exact nS hi|true=>
 induction i using Nat.casesOn with
 | zero=>obtain rfl:=Option.some.inj hi;obtain rfl:=Option.some.inj ho;show _=some (AO.ew (g9 _ (yD r.ab)));rw[RU];exact D.OJ rfl
 | succ i=>exact nS hi
theorem L1 (h:noRef (L.ay r.place)=true) (hr:ar r.row=true):Br (dc run io j pb) (dc run io j pb) (qs run x r tx n) H=b5 run io j pb x r tx n H:=by have row:=gk (dc run io j pb) _ hr;have RU:=gk (dc run io j pb) _ (yH r.ab);have lr:=FU (x:=x) (run:=run) (io:=io) (j:=j) (pb:=pb) h;unfold b5;induction run with|true=>show bG (pb+2) (.ew (g9 (dc true io j pb) (yD r.ab))) (bG (pb+1) (.ew []) (bG pb (.ew (g9 (dc true io j pb) r.row)) (bG j (pJ (dc true io j pb) (.inst 722 (dX 0 2 true x (fH r)))) (bG io (iG tx (n:Nat)) H))))=_;rw[row,RU,lr];rfl|false=>show bG (pb+1) (.ew []) (bG pb (.ew (g9 (dc false io j pb) r.row)) (bG j (pJ (dc false io j pb) (.inst 722 (dX 0 2 false x (fH r)))) (bG io (iG tx (n:Nat)) H)))=_;rw[row,lr];rfl
end
section
variable {g:G} {A:Around} {B:Bs} {X:XP} {k:Nat} {l:List Env} {run:Bool} {x:Lx} {kv:KV} {tx:List Nat} {r:Rd} {n n' io j pb:Nat} {H:Hp}
theorem FV (U:Base g) (S:wH g) (F:cG g 690 nU ["self"]) (F2:cG g 788 nY ["lexer"]) (R:aQ A (k+6)) (FO:gw A B.fr l) (Q:Rl run x kv tx) (D:nW run x tx r n) (hz:r.row.length≤900) (hk:r.kept.length≤1000) (T:yF run x tx r n (tn run x kv r (tx.drop n)) n') (L:iQ run io j pb x r tx n H) (nd:(dc run io j pb).Nodup) : Runs g A B X 788 [.ref j] H (.leaf (.ok (tn run x kv r (tx.drop n)).1 (b5 run io j pb x (tn run x kv r (tx.drop n)).2.1 tx n' H))):=by refine aG (FT (X:=X) U S F F2 R FO Q D hz hk T) λext hr hv=>?_;have P:=jt (H:=H) hr (ks:=dc run io j pb) (by induction run <;> rfl) (Ig L nd (ud D) (yG D));intro p s vs Y rv Q' hQ;refine P p s vs Y rv Q' ⟨⟨⟨qs run x (tn run x kv r (tx.drop n)).2.1 tx n',ext,rfl,by unfold qs dc;induction run <;> rfl,Ae rfl (ud T.rd) (yG T.rd),lE _ _ hv⟩,trivial⟩,?_⟩;rw[oB,oC _ _ _ _ _ (by unfold qs dc;induction run <;> rfl),L1 (ud T.rd) (yG T.rd),ue _ _ hv];exact hQ
end
noncomputable def nZ:=fnIn "law" pb
noncomputable def fJ (i:Nat):Stmt:=eK [i] (bodyOf nZ)
noncomputable def wL:LC:=tG 30 (pL [1] (dy (fJ 2)))
noncomputable def wM:LC:=tG 30 (dy (fJ 3))
noncomputable def rf:LC:=tG 30 (dy (fJ 4))
noncomputable def yI:LC:=tG 30 (dy (fJ 7))
namespace L
noncomputable def num:List Int→Int|[]=>29|n::_=>n
noncomputable def drawn (ns:List Int):List Int:=bif decide ((1:Int)<(ns.length:Nat)) then (ns.drop 1).take 20 else [1,7,2,10,2,5,1,6,1,8,2,1]
noncomputable def L2:Loc→PV→PV:=λz y=>vX (some y) λv=>.str [sgn v]
noncomputable def text (ds:List Int):List Nat:=ds.map sgn
noncomputable def OK (k v:Int):Int:=Int.fmod (k+Int.fdiv v 9216) 2
noncomputable def OL:Loc→PV→PV:=λz y=>match y with
 | .tup [.int k,.int v]=>.int (OK k v)
 | _=>.none
noncomputable def mD:Nat→List Int→List Int|_,[]=>[]|k,v::r=>OK k v::mD (k+1) r
noncomputable def turns (ds:List Int):List Int:=mD 0 (ds++[0,0,0,0])
noncomputable def sg (num:Int) (ds:List Int) (w:Int):Sg:=⟨Int.fmod (pO num w) 2==1,Int.fmod (Int.fdiv (pO num w) 2) 2==1,runOf num w,changes w ds⟩
noncomputable def PH (num:Int) (ds:List Int):Loc→PV→PV:=λz y=>vX (some y) λw=>fB num ds w
end L
noncomputable def uf (v:Option PV):Int:=(v.bind PV.int?).getD 0
noncomputable def OM (args:List PV):List Prop×PV:=([args=[.int (uf args[0]?)]],.str [L.sgn (uf args[0]?)])
noncomputable def FW (args:List PV):List Prop×PV:=let num:=uf args[0]?;let ds:=intsOf (oLst args[1]?);let w:=uf args[2]?;([args=[.int num,.lst (ds.map .int),.int w],w=0∨w=1,ds.length≤1000],L.fB num ds w)
structure Dr where
 num:Int
 ds:List Int
noncomputable def Dr.s (d:Dr) (w:Int):Sg:=L.sg d.num d.ds w
noncomputable def Dr.tx (d:Dr):List Nat:=L.text d.ds
noncomputable def Dr.ts (d:Dr):List Int:=L.turns d.ds
noncomputable def Dr.Gv (d:Dr):List PV:=(ef (d.s 0) (d.s 1) d.tx d.ts).out
noncomputable def RW (d:Dr) (args:List PV):List Prop×PV:=([args=[.str d.tx,.lst [(d.s 0).pv,(d.s 1).pv],.lst (d.ts.map .int)]],.lst d.Gv)
noncomputable def Af (d:Dr):Addr→List PV→Hp→R1:=iv [(733,λa z=>OM a),(738,λa z=>FW a),(781,λa z=>RW d a)]
noncomputable def jg (d:Dr):Ctx:=c8 nZ (λC x=>iP C x lq) (Af d) []
noncomputable def FX (d:Dr):Ctx:=c8 nZ (λC x=>iP C x lq) (Af d) [yc (jg d) wL dQ L.L2,yc (jg d) wM dQ L.OL,yc (jg d) rf dQ (L.PH d.num d.ds)]
noncomputable def TF (d:Dr) (k:Nat) (lu n7:Hp):List PV→Hp→Tr RE|args,[]=>.need [args=[.str d.tx,(d.s 0).pv]] (.leaf (.ok (.ref 0) lu))|args,H=>.need [args=[.ref 1,(d.s 1).pv],H=lu] (.leaf (.ok (.ref k) n7))
noncomputable def toS (d:Dr) (qt:Hp) (P:Loc→Hp→Prop) (loc:Loc) (H:Hp):Tr Out:=.need [P loc H] (.leaf ⟨.next,cM "told" (.lst d.Gv) loc,qt⟩)
noncomputable def ON (e:Expr) (f:Expr→List Expr→Expr):Expr:=by induction e using Expr.casesOn with|Compare l os rs=>exact f l rs|_=>exact yb
noncomputable def L3 (e:Expr):Expr:=ON e λl z=>l
noncomputable def L4 (e:Expr):Expr:=ON e λz r=>r.getD 0 yb
noncomputable def FY (x:Str) (v:PV) (l:Loc) (loc:Loc) (H:Hp):Tr Out:=.need [loc=l,H=[]] (.leaf ⟨.next,cM x v l,H⟩)
noncomputable def wN (ns:List Int):Loc:=[("script",.arr (ns.map .int))]
noncomputable def Ag (ns:List Int):Loc:=aD (wN ns) [("number",.int (L.num ns))]
noncomputable def Ah (ns:List Int):Loc:=aD (Ag ns) [("drawn",.lst ((L.drawn ns).map .int))]
noncomputable def aH (ns:List Int):Dr:=⟨L.num ns,L.drawn ns⟩
noncomputable def Ai (ns:List Int):Loc:=aD (Ah ns) [("text",.str (aH ns).tx)]
noncomputable def Aj (ns:List Int):Loc:=aD (Ai ns) [("turns",.lst ((aH ns).ts.map .int))]
noncomputable def B2 (i:Nat):Nat×Nat:=((fJ i).pos.line,(fJ i).pos.col)
noncomputable def OO (ns:List Int):List ((Nat×Nat)×sR):=[(B2 0,⟨fJ 0,FY "number" (.int (L.num ns)) (wN ns)⟩),(B2 1,⟨fJ 1,FY "drawn" (.lst ((L.drawn ns).map .int)) (Ag ns)⟩),(B2 2,⟨fJ 2,FY "text" (.str (aH ns).tx) (Ah ns)⟩),(B2 3,⟨fJ 3,FY "turns" (.lst ((aH ns).ts.map .int)) (Ai ns)⟩)]
noncomputable def JH (ns:List Int) (d:Dr) (k:Nat) (lu n7 qt:Hp) (P:Loc→Hp→Prop):aA:={b3 (FX d) (λz=>false) (OO ns++[(B2 7,⟨fJ 7,toS d qt P⟩),(B2 8,⟨fJ 8,D9 (FX d) 30 (L3 (dy (fJ 8))) (L4 (dy (fJ 8)))⟩)]) with km:=iI [(752,TF d k lu n7)]}
theorem wO {k:Nat} {o x:AO} (h:aO k H=some x):aO k (bG k o H)=some o:=by rw[d8,if_pos rfl,h];rfl
theorem bg {k:Nat} {o:AO} {v:Option AO} (h:aO j H=v) (n:j≠k):aO j (bG k o H)=v:=by rw[d8,if_neg n];exact h
section
variable {run run':Bool} {x x':Lx} {tx:List Nat} {r r' q:Rd} {n n' io j pb j' Ih:Nat} {H:Hp}
structure Apart (run:Bool) (io j pb:Nat):Prop where
 a:io≠j
 b:io≠pb
 c:io≠pb+1
 d:run=true→io≠pb+2
 e:j≠pb
 f:j≠pb+1
 g:run=true→j≠pb+2
theorem Apart.nd (h:Apart run io j pb):(dc run io j pb).Nodup:=by obtain ⟨a,b,c,d,e,f,g⟩:=h;unfold dc;induction run with|true=>have d:=d rfl;have g:=g rfl;show [io,j,pb,pb+1,pb+2].Nodup;simp only[List.nodup_cons,List.mem_cons,List.not_mem_nil,or_false,not_or,not_false_eq_true,List.nodup_nil,and_true];lia|false=>show [io,j,pb,pb+1].Nodup;simp only[List.nodup_cons,List.mem_cons,List.not_mem_nil,or_false,not_or,not_false_eq_true,List.nodup_nil,and_true];lia
theorem Ii {i:Nat} {v:Option AO} (h:aO i H=v) (n1:i≠io) (n2:i≠j) (n3:i≠pb) (n4:i≠pb+1) (n5:run=true→i≠pb+2):aO i (b5 run io j pb x r tx n H)=v:=by unfold b5;induction run with|true=>exact bg (bg (bg (bg (bg h n1) n2) n3) n4) (n5 rfl)|false=>exact bg (bg (bg (bg h n1) n2) n3) n4
theorem FZ (L:iQ run io j pb x r tx n H) (P:Apart run io j pb):aO io (b5 run io j pb x' q tx n' H)=some (iG tx (n':Nat)):=by unfold b5;have:=bg (k:=pb+1) (o:=.ew []) (bg (k:=pb) (o:=.ew q.row) (bg (k:=j) (o:=.inst 722 (dX io pb run x' (fH q))) (wO (o:=iG tx (n':Nat)) L.RR) P.a) P.b) P.c;induction run with|true=>exact bg this (P.d rfl)|false=>exact this
theorem iQ.put (L:iQ run io j pb x r tx n H) (P:Apart run io j pb):iQ run io j pb x q tx n' (b5 run io j pb x q tx n' H):=by
 refine ⟨FZ L P,?_,?_,?_,λh=>?_⟩
 ·unfold b5;have:=bg (k:=pb+1) (o:=.ew []) (bg (k:=pb) (o:=.ew q.row) (wO (o:=.inst 722 (dX io pb run x (fH q))) (bg (k:=io) (o:=iG tx (n':Nat)) L.PF P.a.symm)) P.e) P.f;induction run with|true=>exact bg this (P.g rfl)|false=>exact this
 ·unfold b5;have:=bg (k:=pb+1) (o:=.ew []) (wO (o:=.ew q.row) (bg (k:=j) (o:=.inst 722 (dX io pb run x (fH q))) (bg (k:=io) (o:=iG tx (n':Nat)) L.PG P.b.symm) P.e.symm)) (by lia);induction run with|true=>exact bg this (by lia)|false=>exact this
 ·unfold b5;have:=wO (o:=.ew []) (bg (k:=pb) (o:=.ew q.row) (bg (k:=j) (o:=.inst 722 (dX io pb run x (fH q))) (bg (k:=io) (o:=iG tx (n':Nat)) L.RT P.c.symm) P.f.symm) (by lia));induction run with|true=>exact bg this (by lia)|false=>exact this
 ·subst h;unfold b5;exact wO (bg (bg (bg (bg (L.OJ rfl) (P.d rfl).symm) (P.g rfl).symm) (by lia)) (by lia))
theorem iQ.other (M:iQ run' io j' Ih x' r' tx n H) (L:iQ run io j pb x r tx n H) (P:Apart run io j pb) (P':Apart run' io j' Ih) (PI:∀i,(i=j'∨i=Ih∨i=Ih+1∨(run'=true∧i=Ih+2))→i≠j∧i≠pb∧i≠pb+1∧(run=true→i≠pb+2)):iQ run' io j' Ih x' r' tx n' (b5 run io j pb x q tx n' H):=by
 have off:∀{i v},(i=j'∨i=Ih∨i=Ih+1∨(run'=true∧i=Ih+2))→aO i H=v→aO i (b5 run io j pb x q tx n' H)=v:=λ{i v} hi h=>by
  refine lG (PI i hi) λa b c d=>?_;refine Ii h ?_ a b c d;rcases hi with rfl | rfl | rfl | ⟨hr,rfl⟩
  ·exact P'.a.symm
  ·exact P'.b.symm
  ·exact P'.c.symm
  ·exact (P'.d hr).symm
 exact ⟨FZ L P,off (.inl rfl) M.PF,off (.inr (.inl rfl)) M.PG,off (.inr (.inr (.inl rfl))) M.RT,λh=>off (.inr (.inr (.inr ⟨h,rfl⟩))) (M.OJ h)⟩
end
noncomputable def JI (v:PV):PV:=bif (v.d3).elim false (λs=>sEq s [32]) then .int 0 else v
noncomputable def qv (H:Hp) (k:Nat):List PV:=((aO k H).bind λo=>match o with | .ew l=>some l | _=>Option.none).getD []
noncomputable def F0 (run:Bool) (j pb:Nat) (H:Hp):Rd:=⟨JI ((fF H j "state").getD .none),bN (fF H j "token"),bif run then bN ((qv H (pb+2))[0]?) else [],qv H pb,uf (fF H j "lineno")⟩
noncomputable def yJ (io:Nat) (H:Hp):Nat:=(uf (fF H io "_StringIO__pos")).toNat
section
variable {run:Bool} {x:Lx} {kv:KV} {tx:List Nat} {r:Rd} {n io j pb:Nat} {H:Hp}
theorem F5 (Q:Rl run x kv tx) (D:nW run x tx r n) (LX:iQ run io j pb x r tx n H):F0 run j pb H=r:=by
 have fa:∀y,fF H j y=ax y (dX io pb run x (fH r)):=λy=>by unfold fF c6;rw[show PV.sx (.ref j)=some j from rfl,Option.bind_some,LX.PF];rfl
 have pl:JI (L.ay r.place)=r.place:=by
  rcases D.at_ with ⟨h,_⟩ | ⟨_,_,⟨h,_⟩ | ⟨m,h,hm⟩⟩ <;> rw[h]
  ·rfl
  ·rfl
  ·show (bif sEq [m] [32] then _ else _)=_;rw[off_ne Q (hm.2.imp id And.right)];rfl
 have dF:(bif run then bN ((qv H (pb+2))[0]?) else [])=r.ab:=by
  rcases D.ab with h | ⟨h,c,_,h2⟩
  ·induction hr:run with|false=>rw[h];rfl|true=>subst hr;unfold qv;rw[LX.OJ rfl,h];rfl
  ·subst h;unfold qv;rw[LX.OJ rfl,h2];rfl
 have row:qv H pb=r.row:=by unfold qv;rw[LX.PG];rfl
 have e1:(fF H j "state").getD .none=L.ay r.place:=by rw[fa];rfl
 have e2:bN (fF H j "token")=r.kept:=by rw[fa];rfl
 have e3:uf (fF H j "lineno")=r.line:=by rw[fa];rfl
 unfold F0;rw[e1,pl,e2,dF,row,e3]
theorem B3 (LX:iQ run io j pb x r tx n H):yJ io H=n:=by
 have:fF H io "_StringIO__pos"=some (.int (n:Nat)):=by unfold fF c6;rw[show PV.sx (.ref io)=some io from rfl,Option.bind_some,LX.RR];rfl
 unfold yJ;rw[this];exact Int.toNat_natCast n
end
structure Lw where
 run:Bool
 x:Lx
 kv:KV
structure wQ where
 a:Lw
 b:Lw
 tx:List Nat
 m:Nat
noncomputable def yK (w:Lw) (j pb:Nat) (tx:List Nat) (args:List PV) (H:Hp):Tr RE:=
 let r:=F0 w.run j pb H;let n:=yJ 1 H;let t:=tn w.run w.x w.kv r (tx.drop n)
 .need [args=[.ref j],iQ w.run 1 j pb w.x r tx n H,nW w.run w.x tx r n,r.row.length≤900,r.kept.length≤1000] (.leaf (.ok t.1 (b5 w.run 1 j pb w.x t.2.1 tx (tx.length - t.2.2.length) H)))
noncomputable def OP (args:List PV):Bool:=((args[0]?).bind PV.sx).elim false λi=>Nat.beq i 0
noncomputable def L5 (T:wQ) (args:List PV) (H:Hp):Tr RE:=bif OP args then yK T.a 0 2 T.tx args H else yK T.b (T.m+4) (T.m+5) T.tx args H
noncomputable def JK:Ctx:=c8 nZ (λC x=>iP C x lq) cg []
noncomputable def Ak (T:wQ):aA:={aC (aN JK yI.scope []) with km:=iI [(788,L5 T)]}
noncomputable def nA (ns:List Int) (d:Dr) (k:Nat):Loc:=aD (Aj ns) [("both",.lst [(d.s 0).pv,(d.s 1).pv]),("first",.ref 0),("second",.ref k)]
noncomputable def F6 (k:Nat) (t:Int):Loc:=[("first",.ref 0),("second",.ref k),("which",.int t)]
noncomputable def toK (k:Nat) (t:Int) (acc:List PV) (x_:RE):Tr (Loc×Hp×List PV):=by induction x_ using RE.casesOn with|ok v H=>exact .need [fits (acc.length+1)=true] (.leaf (F6 k t,H,acc++[v]))|exc _ _=>exact .fail
theorem OQ (ns:List Int) (d:Dr) (T:wQ) (acc:List PV) (H:Hp):yI.turn (Ak T) (nA ns d (T.m+4)) (.int 0) acc H = .need [] (.br true (.need [bD 0 2=true,true=true] ((yK T.a 0 2 T.tx [.ref 0] H).bind (toK (T.m+4) 0 acc))) (.leaf (F6 (T.m+4) 0,H,acc))):=by kernel_rfl
theorem OR (ns:List Int) (d:Dr) (T:wQ) (acc:List PV) (H:Hp):yI.turn (Ak T) (nA ns d (T.m+4)) (.int 1) acc H = .need [] (.br true (.need [bD 1 2=true,true=true] ((yK T.b (T.m+4) (T.m+5) T.tx [.ref (T.m+4)] H).bind (toK (T.m+4) 1 acc))) (.leaf (F6 (T.m+4) 1,H,acc))):=by kernel_rfl
structure L6 (w:Lw) (s:Sg) (tx:List Nat):Prop where
 rl:Rl w.run w.x w.kv tx
 turn:∀r lf,s.turn tx r lf=tn w.run w.x w.kv r lf
structure jT (T:wQ) (s0 s1:Sg):Prop where
 a:L6 T.a s0 T.tx
 b:L6 T.b s1 T.tx
 PI:T.a.run=true→2≤T.m
structure wR (T:wQ) (S:r5) (n:Nat) (H:Hp):Prop where
 left:S.left=T.tx.drop n
 la:iQ T.a.run 1 0 2 T.a.x S.r0 T.tx n H
 lb:iQ T.b.run 1 (T.m+4) (T.m+5) T.b.x S.r1 T.tx n H
 ra:nW T.a.run T.a.x T.tx S.r0 n
 rb:nW T.b.run T.b.x T.tx S.r1 n
 za:S.r0.row.length≤S.out.length∧S.r0.kept.length≤1000
 zb:S.r1.row.length≤S.out.length∧S.r1.kept.length≤1000
noncomputable def gT (T:wQ) (s0 s1:Sg) (q:r5×Hp) (t:Int):r5×Hp:=
 let S:=aS s0 s1 T.tx q.1 t
 (S,bif t==0 then b5 T.a.run 1 0 2 T.a.x S.r0 T.tx (T.tx.length - S.left.length) q.2 else b5 T.b.run 1 (T.m+4) (T.m+5) T.b.x S.r1 T.tx (T.tx.length - S.left.length) q.2)
theorem so (T:wQ) (s0 s1:Sg):∀(ts:List Int) (q:r5×Hp),(ts.foldl (gT T s0 s1) q).1=ts.foldl (aS s0 s1 T.tx) q.1|[],_=>rfl|t::ts,q=>so T s0 s1 ts (gT T s0 s1 q t)
theorem ug (T:wQ):Apart T.a.run 1 0 2:=⟨by decide,by decide,by decide,λz=>by decide,by decide,by decide,λz=>by decide⟩
theorem uh (T:wQ):Apart T.b.run 1 (T.m+4) (T.m+5):=⟨by lia,by lia,by lia,λz=>by lia,by lia,by lia,λz=>by lia⟩
section
variable {T:wQ} {s0 s1:Sg} {S:r5} {n:Nat} {H:Hp} {g:G} {A:Around} {B:Bs} {X:XP} {k:Nat} {l:List Env}
theorem OS (K:jT T s0 s1):∀i,(i=T.m+4∨i=T.m+5∨i=T.m+5+1∨(T.b.run=true∧i=T.m+5+2))→i≠0∧i≠2∧i≠2+1∧(T.a.run=true→i≠2+2):=λi h=>by have f:=K.PI;refine ⟨by lia,by lia,by lia,λz=>?_⟩;have:=f z;lia
theorem OT (K:jT T s0 s1):∀i,(i=0∨i=2∨i=2+1∨(T.a.run=true∧i=2+2))→i≠T.m+4∧i≠T.m+5∧i≠T.m+5+1∧(T.b.run=true→i≠T.m+5+2):=λi h=>by
 have f:=K.PI;rcases h with h | h | h | ⟨h1,h⟩
 ·exact ⟨by lia,by lia,by lia,λz=>by lia⟩
 ·exact ⟨by lia,by lia,by lia,λz=>by lia⟩
 ·exact ⟨by lia,by lia,by lia,λz=>by lia⟩
 ·have:=f h1;exact ⟨by lia,by lia,by lia,λz=>by lia⟩
theorem wU {w:Lw} {pb:Nat} {tx:List Nat} {r:Rd} {Ψ:RE→Prop} (Q:Rl w.run w.x w.kv tx) (L:iQ w.run 1 j pb w.x r tx n H) (D:nW w.run w.x tx r n) (z1:r.row.length≤900) (z2:r.kept.length≤1000) (h:Ψ (.ok (tn w.run w.x w.kv r (tx.drop n)).1 (b5 w.run 1 j pb w.x (tn w.run w.x w.kv r (tx.drop n)).2.1 tx (tx.length - (tn w.run w.x w.kv r (tx.drop n)).2.2.length) H))):(yK w j pb tx [.ref j] H).Sat Ψ:=by unfold yK;dsimp only;rw[F5 Q D L,B3 L];exact ⟨⟨rfl,L,D,z1,z2,trivial⟩,h⟩
theorem JM (K:jT T s0 s1) (Z:wR T S n H):∃n',wR T (aS s0 s1 T.tx S 0) n' (gT T s0 s1 (S,H) 0).2∧(aS s0 s1 T.tx S 0).out.length=S.out.length+1:=by
 refine bZ (jf K.a.rl Z.ra Z.za.2) λn' R=>?_;have e:aS s0 s1 T.tx S 0=⟨(tn T.a.run T.a.x T.a.kv S.r0 (T.tx.drop n)).2.1,S.r1,(tn T.a.run T.a.x T.a.kv S.r0 (T.tx.drop n)).2.2,S.out++[(tn T.a.run T.a.x T.a.kv S.r0 (T.tx.drop n)).1]⟩:=by show r5.mk (s0.turn T.tx S.r0 S.left).2.1 _ (s0.turn T.tx S.r0 S.left).2.2 (_++[(s0.turn T.tx S.r0 S.left).1])=_;rw[Z.left,K.a.turn]
 have hn:=R.rd.le;refine ⟨n',?_,by rw[e];exact List.length_append⟩;have eh:(gT T s0 s1 (S,H) 0).2=b5 T.a.run 1 0 2 T.a.x (tn T.a.run T.a.x T.a.kv S.r0 (T.tx.drop n)).2.1 T.tx n' H:=by show b5 T.a.run 1 0 2 T.a.x (aS s0 s1 T.tx S 0).r0 T.tx (T.tx.length - (aS s0 s1 T.tx S 0).left.length) H=_;rw[e];show b5 _ _ _ _ _ _ _ (T.tx.length - (tn T.a.run T.a.x T.a.kv S.r0 (T.tx.drop n)).2.2.length) _=_;rw[R.is]
 rw[eh,e];refine ⟨R.left,Z.la.put (ug T),Z.lb.other Z.la (ug T) (uh T) (OS K),R.rd,Z.rb.later R.le hn,⟨?_,R.kept⟩,⟨?_,Z.zb.2⟩⟩
 ·show _≤(S.out++[_]).length;rw[List.length_append];exact Nat.le_trans R.row (Nat.succ_le_succ Z.za.1)
 ·show _≤(S.out++[_]).length;rw[List.length_append];exact Nat.le_succ_of_le Z.zb.1
theorem JO (K:jT T s0 s1) (Z:wR T S n H):∃n',wR T (aS s0 s1 T.tx S 1) n' (gT T s0 s1 (S,H) 1).2∧(aS s0 s1 T.tx S 1).out.length=S.out.length+1:=by
 refine bZ (jf K.b.rl Z.rb Z.zb.2) λn' R=>?_;have e:aS s0 s1 T.tx S 1=⟨S.r0,(tn T.b.run T.b.x T.b.kv S.r1 (T.tx.drop n)).2.1,(tn T.b.run T.b.x T.b.kv S.r1 (T.tx.drop n)).2.2,S.out++[(tn T.b.run T.b.x T.b.kv S.r1 (T.tx.drop n)).1]⟩:=by show r5.mk _ (s1.turn T.tx S.r1 S.left).2.1 (s1.turn T.tx S.r1 S.left).2.2 (_++[(s1.turn T.tx S.r1 S.left).1])=_;rw[Z.left,K.b.turn]
 have hn:=R.rd.le;refine ⟨n',?_,by rw[e];exact List.length_append⟩;have eh:(gT T s0 s1 (S,H) 1).2=b5 T.b.run 1 (T.m+4) (T.m+5) T.b.x (tn T.b.run T.b.x T.b.kv S.r1 (T.tx.drop n)).2.1 T.tx n' H:=by show b5 T.b.run 1 (T.m+4) (T.m+5) T.b.x (aS s0 s1 T.tx S 1).r1 T.tx (T.tx.length - (aS s0 s1 T.tx S 1).left.length) H=_;rw[e];show b5 _ _ _ _ _ _ _ (T.tx.length - (tn T.b.run T.b.x T.b.kv S.r1 (T.tx.drop n)).2.2.length) _=_;rw[R.is]
 rw[eh,e];refine ⟨R.left,Z.la.other Z.lb (uh T) (ug T) (OT K),Z.lb.put (uh T),Z.ra.later R.le hn,R.rd,⟨?_,Z.za.2⟩,⟨?_,R.kept⟩⟩
 ·show _≤(S.out++[_]).length;rw[List.length_append];exact Nat.le_succ_of_le Z.za.1
 ·show _≤(S.out++[_]).length;rw[List.length_append];exact Nat.le_trans R.row (Nat.succ_le_succ Z.zb.1)
end
section
variable {T:wQ} {s0 s1:Sg} {S:r5} {n:Nat} {H:Hp} {g:G} {A:Around} {B:Bs} {X:XP} {k:Nat} {l:List Env}
def RX (T:wQ) (s0 s1:Sg) (F:r5×Hp) (ys acc:List PV) (H:Hp):Prop:=∃(S:r5) (n:Nat) (ts:List Int),ys=ts.map PV.int∧(∀t∈ts,t=0∨t=1)∧acc=S.out∧wR T S n H∧ts.foldl (gT T s0 s1) (S,H)=F∧S.out.length+ts.length≤800
theorem Ij (K:jT T s0 s1) (ns:List Int) (d:Dr) {F:r5×Hp} (y:PV) (r acc:List PV) (H:Hp) (h:RX T s0 s1 F (y::r) acc H):True∧(yI.turn (Ak T) (nA ns d (T.m+4)) y acc H).Sat (λo=>RX T s0 s1 F r o.2.2 o.2.1):=by
 refine ⟨trivial,?_⟩;refine Sn h λS n ts e ht ae Z hf hz=>?_;subst ae;induction ts using List.casesOn with
 | nil=>cases e
 | cons t ts=>
 cases e;rw[List.length_cons] at hz;have h':∀u∈ts,u=0∨u=1:=λu m=>ht u (List.mem_cons_of_mem _ m);have fz:fits (S.out.length+1)=true:=fits_of (by lia);rcases ht t List.mem_cons_self with rfl | rfl
 ·refine aG (JM K Z) λn' Z' hl=>?_;rw[OQ];refine ah trivial (Mz (λz=>ah ⟨by decide +kernel,rfl,trivial⟩ (aP.mpr (wU K.a.rl Z.la Z.ra (Nat.le_trans Z.za.1 (by lia)) Z.za.2 ⟨⟨fz,trivial⟩,aS s0 s1 T.tx S 0,n',ts,rfl,h',?_,?_,?_,by lia⟩))) nofun)
  ·show S.out++[_]=S.out++[_];rw[K.a.turn,Z.left]
  ·have e:(gT T s0 s1 (S,H) 0).2=b5 T.a.run 1 0 2 T.a.x (tn T.a.run T.a.x T.a.kv S.r0 (T.tx.drop n)).2.1 T.tx (T.tx.length - (tn T.a.run T.a.x T.a.kv S.r0 (T.tx.drop n)).2.2.length) H:=by
    show b5 _ _ _ _ _ (s0.turn T.tx S.r0 S.left).2.1 _ (_ - (s0.turn T.tx S.r0 S.left).2.2.length) _=_
    rw[K.a.turn,Z.left]
   rw[←e];exact Z'
  ·have e:(gT T s0 s1 (S,H) 0).2=b5 T.a.run 1 0 2 T.a.x (tn T.a.run T.a.x T.a.kv S.r0 (T.tx.drop n)).2.1 T.tx (T.tx.length - (tn T.a.run T.a.x T.a.kv S.r0 (T.tx.drop n)).2.2.length) H:=by
    show b5 _ _ _ _ _ (s0.turn T.tx S.r0 S.left).2.1 _ (_ - (s0.turn T.tx S.r0 S.left).2.2.length) _=_
    rw[K.a.turn,Z.left]
   rw[←hf,←e];rfl
 ·refine aG (JO K Z) λn' Z' hl=>?_;rw[OR];have e:(gT T s0 s1 (S,H) 1).2=b5 T.b.run 1 (T.m+4) (T.m+5) T.b.x (tn T.b.run T.b.x T.b.kv S.r1 (T.tx.drop n)).2.1 T.tx (T.tx.length - (tn T.b.run T.b.x T.b.kv S.r1 (T.tx.drop n)).2.2.length) H:=by show b5 _ _ _ _ _ (s1.turn T.tx S.r1 S.left).2.1 _ (_ - (s1.turn T.tx S.r1 S.left).2.2.length) _=_;rw[K.b.turn,Z.left]
  refine ah trivial (Mz (λz=>ah ⟨by decide +kernel,rfl,trivial⟩ (aP.mpr (wU K.b.rl Z.lb Z.rb (Nat.le_trans Z.zb.1 (by lia)) Z.zb.2 ⟨⟨fz,trivial⟩,aS s0 s1 T.tx S 1,n',ts,rfl,h',?_,?_,?_,by lia⟩))) nofun)
  ·show S.out++[_]=S.out++[_];rw[K.b.turn,Z.left]
  ·rw[←e];exact Z'
  ·rw[←hf,←e];rfl
theorem gw.more {fr:List Addr} (FO:gw A fr l):gw A (a::fr) l:=⟨FO.1,λe he=>let ⟨h1,L,h2,h3⟩:=FO.2 e he;⟨h1,L,h2,List.mem_cons_of_mem _ h3⟩⟩
theorem Al (U:Base g) (St:wH g) (F:cG g 690 nU ["self"]) (F2:cG g 788 nY ["lexer"]) (R:aQ A (k+6)) (FO:gw A B.fr l) {w:Lw} {tx:List Nat} {pb:Nat} (Q:Rl w.run w.x w.kv tx) (P:Apart w.run 1 j pb) (args:List PV) (H:Hp):Runs g A B X 788 args H (yK w j pb tx args H):=Runs.need λz=>by refine Sm z λh1 h2 h3 h4 h5 z=>?_;obtain ⟨n',T⟩:=jf Q h3 h5;have:=FV (X:=X) U St F F2 R FO Q h3 h4 h5 T h2 P.nd;rw[h1,T.is];exact this
theorem Ik (U:Base g) (St:wH g) (F:cG g 690 nU ["self"]) (F2:cG g 788 nY ["lexer"]) (R:aQ A (k+6)) (FO:gw A B.fr l) (K:jT T s0 s1) (args:List PV) (H:Hp):Runs g A B X 788 args H (L5 T args H):=by unfold L5;induction OP args with|true=>exact Al U St F F2 R FO K.a.rl (ug T) args H|false=>exact Al U St F F2 R FO K.b.rl (uh T) args H
noncomputable def q7:Pos:=match zx (fJ 7) with
 | e::_=>e.pos
 | []=>default
theorem Il:fJ 7=.Assign [.Name "told" q7] yI.e (fJ 7).pos:=by kernel_rfl
theorem Io (U:Base g) (St:wH g) (F:cG g 690 nU ["self"]) (F2:cG g 788 nY ["lexer"]) (R:aQ A (k+8)) (FO:gw A B.fr l) (K:jT T s0 s1) {f L:Addr} (Fa:FnAt g f o fd (bodyOf nZ)) (hs:fd.scope=aV nZ) {ns:List Int} {d:Dr} {n7 qt:Hp} (hz:wR T (mx T.tx) 0 n7) (hd:d=aH ns) (ht:∀t∈d.ts,t=0∨t=1) (hl:d.ts.length≤800) (hF:d.ts.foldl (gT T s0 s1) (mx T.tx,n7)=(⟨r0,r1,lf,d.Gv⟩,qt)):∀loc H,bt (c5 g B fd L f) (A.deeper (callEnvC fd L f)) X (exec (fJ 7) (c5 g B fd L f).env) loc H (toS d qt (λloc H=>loc=nA ns d (T.m+4)∧H=n7) loc H):=λloc H p s I Q E hE h=>by
 obtain ⟨⟨⟨rfl,rfl⟩,_⟩,h⟩:=h;rw[Il];have C0:af (c5 g B fd L f) (A.deeper (callEnvC fd L f)) JK:=aU U.N hs (by kernel_rfl) Fa.glob Fa.blt R.hd (R.u9 _) (bH U.lx.at_) aX ak;have FC:=(FO.call (L:=L) (f:=f) Fa.kind);refine DA (c:=yI) (Γ':=Ak T) (xs:=d.ts.map .int) (Hc:=λz=>True) (LC.vI C0 (by kernel_rfl)) C0.kind (λv=>rfl) (λL'=>?_) (by kernel_rfl) I (tH (n:=30) (gd:=[]) C0 R.hd (by rw[hd];kernel_rfl) trivial) (RX T s0 s1 (⟨r0,r1,lf,d.Gv⟩,qt)) (λacc H'=>acc=d.Gv∧H'=qt) (λy r acc H h=>Ij K ns d y r acc H h) (λacc H h=>⟨trivial,?_⟩) ⟨mx T.tx,0,d.ts,rfl,ht,rfl,hz,hF,by show 0+_≤_;lia⟩ (.inl (by show fd.scope.names.lookup _=_;rw[hs];kernel_rfl)) λacc H' p' s' hf I' T'=>?_
 ·have C1:=fy (scope:=yI.scope) (L:=L') (cs:=[]) C0 (by kernel_rfl) λp t h=>nomatch h
  have S0:=bu (X:=ba) C1 λp t h=>nomatch h
  exact ⟨S0.c,S0.set,eI λe m args H=>by rw[List.mem_singleton.mp m];exact Ik (k:=k+1) U St F F2 (R.down _) FC.more K args H,da λe m=>by rw[List.mem_singleton.mp m];exact fE F2,S0.loops,S0.uses,S0.raises⟩
 ·obtain ⟨S,n,ts,e,_,rfl,_,hf,_⟩:=h;induction ts using List.casesOn with
  | cons _ _=>cases e
  | nil=>have hf:(S,H)=_:=hf;cases hf;exact ⟨rfl,rfl⟩
 ·obtain ⟨rfl,rfl⟩:=hf;exact h p' s' I' T'
end
noncomputable abbrev SL (d:Dr):aA:=b3 (FX d) (λz=>false) []
theorem RY (d:Dr) (xs:List PV):oU (SL d) 30 (fJ 0) [("script",.arr xs)] []=.need [(!xs.isEmpty)=true→bD 0 xs.length=true,(!xs.isEmpty)=true→true=true] (.leaf ⟨.next,[("script",.arr xs),("number",ct (!xs.isEmpty) (ez xs 0) (.int 29))],[]⟩):=by kernel_rfl
noncomputable def Am:List Int:=[1,7,2,10,2,5,1,6,1,8,2,1]
theorem RZ (d:Dr) (xs:List PV) (n:Int):oU (SL d) 30 (fJ 1) [("script",.arr xs),("number",.int n)] []=.need [] (.leaf ⟨.next,[("script",.arr xs),("number",.int n),("drawn",.lst (bif decide ((1:Int)<(xs.length:Nat)) then jU xs (some 1) (some 21) else Am.map .int))],[]⟩):=by kernel_rfl
theorem R0 (d:Dr) (xs ds:List PV) (n:Int):oU (SL d) 30 (fJ 2) [("script",.arr xs),("number",.int n),("drawn",.lst ds)] [] =
 let l:Loc:=[("script",.arr xs),("number",.int n),("drawn",.lst ds)]
 .need [wL.e=wL.e,wL.side (aC (aN (jg d) wL.scope [])) dQ L.L2 l [] ds,(d4 (LC.val dQ L.L2 l ds)&&fits (d5 (strsOf (LC.val dQ L.L2 l ds))).length)=true] (.leaf ⟨.next,[("script",.arr xs),("number",.int n),("drawn",.lst ds),("text",.str (d5 (strsOf (LC.val dQ L.L2 l ds))))],[]⟩):=by kernel_rfl
theorem R2 (d:Dr) (xs ds:List PV) (n:Int) (tx:List Nat):oU (SL d) 30 (fJ 3) [("script",.arr xs),("number",.int n),("drawn",.lst ds),("text",.str tx)] [] =
 let l:Loc:=[("script",.arr xs),("number",.int n),("drawn",.lst ds),("text",.str tx)]
 let ys:=pB 0 (ds++[.int 0,.int 0,.int 0,.int 0])
 .need [fits (ds.length+4)=true,"enumerate"="enumerate",wM.side (aC (aN (jg d) wM.scope [])) dQ L.OL l [] ys] (.need [wM.e=wM.e] (.leaf ⟨.next,[("script",.arr xs),("number",.int n),("drawn",.lst ds),("text",.str tx),("turns",.lst (LC.val dQ L.OL l ys))],[]⟩)):=by kernel_rfl
theorem F7 (d:Dr) (xs ds acc:List PV) (n v:Int):wL.turn (aC (aN (jg d) wL.scope [])) [("script",.arr xs),("number",.int n),("drawn",.lst ds)] (.int v) acc [] = .need [] (.br true (.need (OM [.int v]).1 (.need [fits (acc.length+1)=true] (.leaf ([("v",.int v)],[],acc++[.str [L.sgn v]])))) (.leaf ([("v",.int v)],[],acc))):=by kernel_rfl
theorem B4 (d:Dr) (xs ds acc:List PV) (n v k:Int) (tx:List Nat):wM.turn (aC (aN (jg d) wM.scope [])) [("script",.arr xs),("number",.int n),("drawn",.lst ds),("text",.str tx)] (.tup [.int k,.int v]) acc [] = .need [] (.br true (.need [false=false,true=true,false=false] (.need [fits (acc.length+1)=true] (.leaf ([("k",.int k),("v",.int v)],[],acc++[.int (L.OK k v)])))) (.leaf ([("k",.int k),("v",.int v)],[],acc))):=by kernel_rfl
theorem F8 (d:Dr) (ns:List Int) (acc:List PV) (w:Int):rf.turn (aC (aN (jg d) rf.scope [])) (Aj ns) (.int w) acc [] = .need [] (.br true (.need (FW [.int (L.num ns),.lst ((L.drawn ns).map .int),.int w]).1 (.need [fits (acc.length+1)=true] (.leaf ([("drawn",.lst ((L.drawn ns).map .int)),("number",.int (L.num ns)),("which",.int w)],[],acc++[(FW [.int (L.num ns),.lst ((L.drawn ns).map .int),.int w]).2])))) (.leaf ([("drawn",.lst ((L.drawn ns).map .int)),("number",.int (L.num ns)),("which",.int w)],[],acc))):=by kernel_rfl
theorem F9 (F:Loc→PV→PV) (loc:Loc) (xs:List PV):LC.val dQ F loc xs=xs.map (F loc):=by unfold LC.val;rw[(List.filter_eq_self (p:=dQ loc)).mpr λz z=>rfl]
theorem L7 (loc:Loc) (ds:List Int):LC.val dQ L.L2 loc (ds.map .int)=ds.map λv=>PV.str [L.sgn v]:=by rw[F9,List.map_map];rfl
theorem Ga:∀ds:List Int,d5 (strsOf (ds.map λv=>PV.str [L.sgn v]))=L.text ds|[]=>rfl|v::r=>congrArg (L.sgn v::·) (Ga r)
theorem Gb:∀ds:List Int,d4 (ds.map λv=>PV.str [L.sgn v])=true|[]=>rfl|_::r=>Gb r
theorem L8 (loc:Loc):∀(k:Nat) (ds:List Int),LC.val dQ L.OL loc (pB k (ds.map .int))=(L.mD k ds).map .int:=λk ds=>by rw[F9];induction ds generalizing k with|nil=>rfl|cons v r ih=>exact congrArg (PV.int (L.OK k v)::·) (ih (k+1))
theorem wV:∀{k:Nat} {ds:List Int} {y:PV},y∈pB k (ds.map .int)→∃i v:Int,y=.tup [.int i,.int v]
 | k,v::r,y,h=>by
  rcases List.mem_cons.mp h with rfl | h
  ·exact ⟨_,_,rfl⟩
  ·exact wV h
theorem wW:∀{k:Nat} {ds:List Int},∀t∈L.mD k ds,t=0∨t=1
 | _,_::_,t,h=>by
  rcases List.mem_cons.mp h with rfl | h
  ·rename_i k v r;have h:=fA ((k:Int)+Int.fdiv v 9216) (m:=2) (by omega);unfold L.OK;omega
  ·exact wW t h
theorem sq:∀(k:Nat) (ds:List Int),(L.mD k ds).length=ds.length|_,[]=>rfl|k,_::r=>congrArg (·+1) (sq (k+1) r)
theorem L9 (ns:List Int):ct (!(ns.map PV.int).isEmpty) (ez (ns.map PV.int) 0) (.int 29)=.int (L.num ns):=by induction ns using List.casesOn with|nil=>rfl|cons n r=>rw[List.map_cons,rR];rfl
theorem Gd (ns:List Int):(bif decide ((1:Int)<((ns.map PV.int).length:Nat)) then jU (ns.map PV.int) (some 1) (some 21) else Am.map .int)=(L.drawn ns).map .int:=by
 rw[List.length_map];unfold L.drawn;induction h:decide ((1:Int)<(ns.length:Nat)) with|false=>rfl|true=>
  have h:=of_decide_eq_true h;show jU _ _ _=((ns.drop 1).take 20).map .int;unfold jU;have h':1≤ns.length:=Nat.le_of_lt (Int.ofNat_lt.mp h);have e1:iM (ns.map PV.int).length (some 1)=1:=gB (k:=1) (by rw[List.length_map];exact h');rw[e1];rcases Nat.le_total 21 ns.length with z | z
  ·rw[show og (ns.map PV.int).length (some 21)=21 from gB (k:=21) (by rw[List.length_map];exact z),←List.map_drop,←List.map_take]
  ·rw[show og (ns.map PV.int).length (some 21)=ns.length from (Cq (k:=21) (by rw[List.length_map];exact z)).trans (List.length_map _),←List.map_drop,←List.map_take,List.take_of_length_le (Nat.le_of_eq List.length_drop),List.take_of_length_le (by rw[List.length_drop];exact Nat.sub_le_sub_right z 1)]
theorem mE (ns:List Int):(L.drawn ns).length≤20:=by unfold L.drawn;induction decide ((1:Int)<(ns.length:Nat)) with|true=>show ((ns.drop 1).take 20).length≤20;rw[List.length_take];lia|false=>exact Nat.le_of_ble_eq_true rfl
section
variable {κ:Cx} {A:Around} {X:XP}
theorem oK {Γ:aA} (C:cE κ A X Γ) {st:Stmt} {x:Str} {v:PV} {l:Loc} (h:∀Φ:Out→Prop,Φ ⟨.next,cM x v l,[]⟩→(oU Γ n st l []).Sat Φ):∀loc H,bt κ A X (exec st κ.env) loc H (FY x v l loc H):=λloc H p s I Q E hE h0=>by obtain ⟨⟨rfl,rfl,_⟩,h1⟩:=h0;exact (cF C n).1 st _ _ p s I Q E hE (h _ h1)
theorem An {acc:List PV} (h:acc.length<xs.length) (hz:xs.length≤1000):fits (acc.length+1)=true:=fits_of (by lia)
theorem Ma {ns:List Int} {d:Dr} (C:cE κ A X (SL d)):∀e∈OO ns,∀loc H,bt κ A X (exec e.2.st κ.env) loc H (e.2.f loc H):=λe m=>by
 have dl:=mE ns;have ml:((L.drawn ns).map PV.int).length≤20:=by rw[List.length_map];exact dl
 have R3:((L.drawn ns).map PV.int)++[.int 0,.int 0,.int 0,.int 0]=(L.drawn ns++[0,0,0,0]).map PV.int:=by rw[List.map_append];rfl
 rcases List.mem_cons.mp m with rfl | m
 ·refine oK (n:=30) C λΦ h=>?_;show (oU (SL d) 30 (fJ 0) [("script",.arr (ns.map .int))] []).Sat Φ;rw[RY,L9];refine ⟨⟨λz=>jw (Int.le_refl _) ?_,λx=>rfl,trivial⟩,h⟩;induction ns using List.casesOn with|nil=>exact fT z|cons n r=>rw[List.length_map,List.length_cons];lia
 rcases List.mem_cons.mp m with rfl | m
 ·refine oK (n:=30) C λΦ h=>?_;show (oU (SL d) 30 (fJ 1) [("script",.arr (ns.map .int)),("number",.int (L.num ns))] []).Sat Φ;rw[RZ,Gd];exact ⟨trivial,h⟩
 rcases List.mem_cons.mp m with rfl | m
 ·refine oK (n:=30) C λΦ h=>?_;show (oU (SL d) 30 (fJ 2) [("script",.arr (ns.map .int)),("number",.int (L.num ns)),("drawn",.lst ((L.drawn ns).map .int))] []).Sat Φ;rw[R0];dsimp only;rw[L7,Ga,Gb];refine ⟨⟨rfl,λy hy acc ha=>?_,by rw[fits_of (show (L.text (L.drawn ns)).length≤16777216 by unfold L.text;rw[List.length_map];lia)];rfl,trivial⟩,h⟩;refine aG (List.mem_map.mp hy) λv x ae=>?_;subst ae;rw[F7];exact ⟨trivial,λx=>⟨⟨rfl,trivial⟩,⟨An ha (by lia),trivial⟩,rfl,rfl⟩,nofun⟩
 ·rw[List.mem_singleton.mp m];refine oK (n:=30) C λΦ h=>?_;show (oU (SL d) 30 (fJ 3) [("script",.arr (ns.map .int)),("number",.int (L.num ns)),("drawn",.lst ((L.drawn ns).map .int)),("text",.str (aH ns).tx)] []).Sat Φ;rw[R2];dsimp only;rw[R3,L8];refine ⟨⟨fits_of (by lia),rfl,λy hy acc ha=>?_,trivial⟩,⟨rfl,trivial⟩,h⟩;have hl:(pB 0 ((L.drawn ns++[0,0,0,0]).map PV.int)).length≤1000:=by
   have:∀(k:Nat) (l:List PV),(pB k l).length=l.length:=λk l=>by induction l generalizing k with|nil=>rfl|cons _ r ih=>exact congrArg (·+1) (ih (k+1))
   rw[this,List.length_map,List.length_append];show _+4≤_;lia
  refine rh (wV hy) λi v ae=>?_;subst ae
  rw[B4]
  exact ⟨trivial,λx=>⟨⟨rfl,rfl,rfl,trivial⟩,⟨An ha hl,trivial⟩,rfl,rfl⟩,nofun⟩
end
structure MF (g:G):Prop where
 base:Base g
 st:wH g
 Mb:cG g 733 mY ["number"]
 OU:cG g 738 hB ["number","drawn","which"]
 OV:cG g 745 bf ["signs","role","changes"]
 Mc:cG g 752 Jw ["source","settings"]
 R4:cG g 757 eP ["sign","settings"]
 R5:cG g 764 q6 ["words","entry","quoted"]
 R6:cG g 769 c4 ["book","place","signs"]
 R7:cG g 776 eX ["book","runs","reader","left"]
 OW:cG g 781 wb ["text","both","turns"]
 R8:cG g 788 nY ["lexer"]
 R9:cG g 690 nU ["self"]
structure OX (d:Dr) (T:wQ):Prop where
 two:jT T (d.s 0) (d.s 1)
 tx:T.tx=d.tx
 ts:∀t∈d.ts,t=0∨t=1
 tl:d.ts.length≤800
 dl:d.ds.length≤20
 g0:dr (d.s 0).rn
 g1:dr (d.s 1).rn
 h0:aF ((d.s 0).kv d.tx) d.tx
 h1:aF ((d.s 1).kv d.tx) d.tx
 all:d.Gv.all (nM 5)=true
section
variable {g:G} {A:Around} {B:Bs} {X:XP} {k:Nat} {l:List Env} {d:Dr} {T:wQ}
theorem Ge (U:MF g) (R:aQ A 100) (D:OX d T):eV g A (Af d):=c9 λe m args H hg=>by
 rcases List.mem_cons.mp m with rfl | m
 ·refine aj hg λh1 z=>?_;have:=pM U.base.N U.Mb (k:=0) (R.lt (by lia)) (uf args[0]?) H;refine ⟨bU U.Mb,?_⟩;rw[←h1] at this;exact this
 rcases List.mem_cons.mp m with rfl | m
 ·refine lG hg λh1 h2 h3 z=>?_;have:=Bw U.base.N U.Mb U.OU (k:=0) (R.lt (by lia)) (num:=uf args[0]?) h2 h3 H;refine ⟨bU U.OU,?_⟩;rw[←h1] at this;exact this
 ·rw[List.mem_singleton.mp m] at hg ⊢;refine aj hg λh1 z=>?_;have tl:d.tx.length=d.ds.length:=List.length_map _;have:=BI U.base.N U.R5 U.R6 U.R7 U.R4 U.OW (n:=30) (R.lt (by lia)) (by lia) D.g0 D.g1 D.h0 D.h1 D.ts (tx:=d.tx) (by rw[tl];have:=D.dl;lia) (by have:=D.tl;lia) H;refine ⟨bU U.OW,?_⟩;rw[←h1] at this;exact this
end
theorem Ip:fJ 8=.Return (some (.Compare (L3 (dy (fJ 8))) [.Eq] [L4 (dy (fJ 8))] (dy (fJ 8)).pos)) (fJ 8).pos:=by kernel_rfl
noncomputable def Sa (d:Dr) (lu:Hp) (P:Loc→Hp→Prop) (ns:List Int) (k:Nat) (n7:Hp):List Prop:=[fJ 0=fJ 0,wN ns=wN ns,([]:Hp)=[],fJ 1=fJ 1,Ag ns=Ag ns,([]:Hp)=[],fJ 2=fJ 2,Ah ns=Ah ns,([]:Hp)=[],fJ 3=fJ 3,Ai ns=Ai ns,([]:Hp)=[],rf.side (aC (aN (jg d) rf.scope [])) dQ (L.PH d.num d.ds) (Aj ns) [] [.int 0,.int 1],rf.e=rf.e,bD 0 2=true,true=true,[PV.str d.tx,(d.s 0).pv]=[.str d.tx,(d.s 0).pv],true=true,bD 1 2=true,true=true,[PV.ref 1,(d.s 1).pv]=[.ref 1,(d.s 1).pv],lu=lu,fJ 7=fJ 7,P (nA ns d k) n7,fJ 8=fJ 8,[PV.str d.tx,.lst [(d.s 0).pv,(d.s 1).pv],.lst (d.ts.map .int)]=[.str d.tx,.lst [(d.s 0).pv,(d.s 1).pv],.lst (d.ts.map .int)],∃xs,PV.lst d.Gv=.lst xs∧PV.lst d.Gv=.lst xs∧xs.all (nM 5)=true]
theorem OY (ns:List Int) (r:Nat) (l:Lx) (tx x:List Nat) (n7 qt:Hp) (P:Loc→Hp→Prop) (k:Nat) (po:Bool):lj (av (JH ns (aH ns) k (Lr po r tx x l) n7 qt P) 60 (bodyOf nZ) (wN ns) []) = some (Sa (aH ns) (Lr po r tx x l) P ns k n7,⟨.ret (.bool true),aD (nA ns (aH ns) k) [("told",.lst (aH ns).Gv)],qt⟩):=by kernel_rfl
noncomputable def par (k:List Nat):List (List Nat)→Bool|[]=>false|c::r=>Bool.xor (lEq c k) (par k r)
theorem Md (k:List Nat) (cs:List (List Nat)):(Int.fmod ((bF k cs:Nat):Int) 2==1)=par k cs:=by
 have key:par k cs=decide (bF k cs % 2=1):=by
  induction cs with|nil=>rfl|cons c r ih=>
   show Bool.xor (lEq c k) (par k r)=decide (((bif lEq c k then 1 else 0)+bF k r) % 2=1);rw[ih];induction lEq c k with
   | true=>
    rw[Bool.true_xor];show (!decide (bF k r % 2=1))=decide ((1+bF k r) % 2=1)
    by_cases h:bF k r % 2=1
    ·rw[decide_eq_true h,decide_eq_false (by lia)];rfl
    ·rw[decide_eq_false h,decide_eq_true (by lia)];rfl
   | false=>show (Bool.xor false (decide (bF k r % 2=1)))=decide ((0+bF k r) % 2=1);rw[Nat.zero_add,Bool.false_xor]
 rw[key,Int.fmod_eq_emod_of_nonneg _ (by decide)]
 by_cases h:bF k cs % 2=1
 ·rw[decide_eq_true h];exact beq_iff_eq.mpr (by lia)
 ·rw[decide_eq_false h];exact beq_eq_false_iff_ne.mpr (by lia)
theorem sr (b:Bool):(b != false)=b:=by induction b <;> rfl
theorem uj (b ch:Nat) (sg:List Nat):aa [ch] (gy b sg)=(aa [ch] sg&&!(Nat.beq b ch)):=by
 rw[dh,dh,Bool.eq_iff_iff,Bool.and_eq_true,decide_eq_true_iff,decide_eq_true_iff];unfold gy;rw[List.mem_filter];refine and_congr Iff.rfl ?_;induction e:Nat.beq b ch with|true=>have:=Nat.eq_of_beq_eq_true e;subst this;simp|false=>
  have ne:ch≠b:=λz=>by subst z;rw[Nat.beq_refl] at e;exact tF e
  simp[ne]
theorem yL (b ch:Nat) (sg:List Nat):aa [ch] (sg++[b])=(aa [ch] sg||Nat.beq b ch):=by rw[dh,dh,Bool.eq_iff_iff,Bool.or_eq_true,decide_eq_true_iff,decide_eq_true_iff,List.mem_append,List.mem_singleton];refine or_congr Iff.rfl ?_;rw[Nat.beq_eq];exact eq_comm
theorem B5 (ro a b ch:Nat) (sg:List Nat):aa [ch] (L.kZ [ro] sg [a,b])=(aa [ch] sg != lEq [a,b] [ro,ch]):=by
 have e:L.kZ [ro] sg [a,b]=bif Nat.beq a ro&&true then (bif aa [b] sg then gy b sg else sg++[b]) else sg:=rfl
 rw[e];show _=(aa [ch] sg != (Nat.beq a ro&&(Nat.beq b ch&&true)));induction Nat.beq a ro with|false=>exact (sr _).symm|true=>
  show aa [ch] (bif aa [b] sg then gy b sg else sg++[b])=(aa [ch] sg != (Nat.beq b ch&&true));rw[Bool.and_true];induction h:aa [b] sg with
  | true=>show aa [ch] (gy b sg)=_;rw[uj];induction q:Nat.beq b ch with|true=>have:=Nat.eq_of_beq_eq_true q;subst this;rw[h];rfl|false=>induction aa [ch] sg <;> rfl
  | false=>show aa [ch] (sg++[b])=_;rw[yL];induction q:Nat.beq b ch with|true=>have:=Nat.eq_of_beq_eq_true q;subst this;rw[h];rfl|false=>induction aa [ch] sg <;> rfl
theorem Me {c:List Nat} (h:c.length=2):∃a b,c=[a,b]:=by induction c using List.casesOn with|nil=>exact Nat.noConfusion h|cons a r=>induction r using List.casesOn with|nil=>exact Nat.noConfusion (Nat.succ.inj h)|cons b r=>induction r using List.casesOn with|nil=>exact ⟨a,b,rfl⟩|cons c r=>exact Nat.noConfusion (Nat.succ.inj (Nat.succ.inj h))
theorem qw (ro ch:Nat):∀(cs:List (List Nat)) (sg:List Nat),(∀c∈cs,c.length=2)→aa [ch] (L.turned [ro] sg cs)=(aa [ch] sg != par [ro,ch] cs)
 | [],sg,_=>(sr _).symm
 | c::cs,sg,h=>by
  have hc:=h c List.mem_cons_self;obtain ⟨a,b,e⟩:=Me hc;subst e
  ·show aa [ch] (L.turned [ro] (L.kZ [ro] sg [a,b]) cs)=_;rw[qw ro ch cs _ λy hy=>h y (List.mem_cons_of_mem _ hy),B5];show _=(aa [ch] sg != Bool.xor (lEq [a,b] [ro,ch]) (par [ro,ch] cs));induction aa [ch] sg <;> induction lEq [a,b] [ro,ch] <;> induction par [ro,ch] cs <;> rfl
theorem Mf {l:List Nat} (h:l.all (λd=>Nat.blt d 256)=true) (hc:256≤c):aa [c] l=false:=by rw[dh];refine decide_eq_false λm=>?_;have:=List.all_eq_true.mp h c m;have:c<256:=Nat.le_of_ble_eq_true this;lia
theorem uk (lo hi c:Nat):L.HC lo hi [c]=(Nat.ble lo c&&Nat.ble c hi):=by
 have lt:∀a b:Nat,JW [a] [b]=!Nat.ble b a:=λa b=>by
  unfold JW;induction h:Nat.ble b a with
  | true=>have:=Nat.le_of_ble_eq_true h;refine decide_eq_false λz=>?_;cases z with|rel z=>exact absurd (show a<b from z) (by lia)|cons z=>cases z
  | false=>
   have:a<b:=by
    by_cases q:b≤a
    ·rw[Nat.ble_eq_true_of_le q] at h;exact tF h
    ·lia
   exact decide_eq_true (List.Lex.rel this)
 unfold L.HC;rw[lt,lt,Bool.not_not,Bool.not_not]
theorem cI (c:Nat) (l:List Nat):aa [c] l=l.any (Nat.beq c):=by rw[dh,Bool.eq_iff_iff,decide_eq_true_iff,List.any_eq_true];exact ⟨λm=>⟨c,m,Nat.beq_refl c⟩,λ⟨d,m,e⟩=>by have:=Nat.eq_of_beq_eq_true e;subst this;exact m⟩
noncomputable def PJ (c:Nat):Bool:=bif Nat.beq c 95&&true then Nat.beq c 95&&true else (bif Nat.ble 97 c&&Nat.ble c 122 then Nat.ble 97 c&&Nat.ble c 122 else (bif Nat.ble 65 c&&Nat.ble c 90 then Nat.ble 65 c&&Nat.ble c 90 else Nat.ble 48 c&&Nat.ble c 57))
noncomputable def PK (po:Bool) (c:Nat):Bool:=bif PJ c then PJ c else (bif po then (bif Nat.ble 192 c&&Nat.ble c 255 then !([215,247].any (Nat.beq c)) else Nat.ble 192 c&&Nat.ble c 255) else po)
theorem Mg (po:Bool) (c:Nat):L.w2 po [c]=PK po c:=by unfold L.w2 L.w1;rw[uk,uk,uk,uk,cI];rfl
theorem Ao {lo hi:Nat} (h:hi<c):(Nat.ble lo c&&Nat.ble c hi)=false:=by rw[show Nat.ble c hi=false by induction q:Nat.ble c hi with|false=>rfl|true=>have:=Nat.le_of_ble_eq_true q;lia,Bool.and_false]
theorem OZ (po:Bool) (c:Nat):L.w2 po [c]=aa [c] (bif po then L.r9++L.Gr else L.r9):=by
 rw[Mg]
 by_cases hc:256≤c
 ·have e:aa [c] (bif po then L.r9++L.Gr else L.r9)=false:=by induction po <;> exact Mf (by kernel_rfl) hc
  rw[e]
  have w1:PJ c=false:=by unfold PJ;rw[Ao (by lia),Ao (by lia),Ao (by lia),show Nat.beq c 95=false from by induction q:Nat.beq c 95 with|false=>rfl|true=>have:=Nat.eq_of_beq_eq_true q;lia];rfl
  unfold PK
  rw[w1,Ao (by lia)]
  induction po <;> rfl
 ·have all:(List.range 256).all (λc=>(PK true c==(L.r9++L.Gr).any (Nat.beq c))&&(PK false c==L.r9.any (Nat.beq c)))=true:=by kernel_rfl
  have:=List.all_eq_true.mp all c (List.mem_range.mpr (by lia))
  refine aj (Bool.and_eq_true_iff.mp this) λh1 h2=>?_
  rw[cI]
  induction po
  ·exact eq_of_beq h2
  ·exact eq_of_beq h1
theorem Iq (t:Bool) (k o:Nat):(bif t then [k] else []).any (Nat.beq o)=(t&&Nat.beq o k):=by induction t with|true=>exact Bool.or_false _|false=>rfl
theorem yM (c k:Nat):sEq [c] [k]=aa [c] [k]:=by rw[cI];show (Nat.beq c k&&true)=(Nat.beq c k||false);rw[Bool.and_true,Bool.or_false]
noncomputable def uz (po:Bool) (c o:Nat) (has:Bool) (cs:List (List Nat)):Bool:=(has != par [o,c] cs)&&(po||!(Nat.beq o 101))
theorem eg (po has:Bool) (pn:List Nat) (c o:Nat) (cs:List (List Nat)):L.f9 po pn [c] cs [o] has=bif uz po c o has cs then [o] else []:=by unfold L.f9 L.dE uz;rw[bV,show ([o]++[c]:List Nat)=[o,c] from rfl,Md,show sEq [o] [101]=(Nat.beq o 101&&true) from rfl,Bool.and_true]
theorem ej (po:Bool) (pn:List Nat) (c o:Nat) (cs:List (List Nat)):aa [o] (L.jR po pn [c] cs) =
 ((uz po c 119 (aa [c] [32,9,13,10]) cs&&Nat.beq o 119)||((uz po c 114 (sEq [c] [35]) cs&&Nat.beq o 114)||((uz po c 108 (L.word po pn [c]) cs&&Nat.beq o 108)||((uz po c 109 (aa [c] [39,34]) cs&&Nat.beq o 109)||((uz po c 115 (sEq [c] [34]) cs&&Nat.beq o 115)||((uz po c 101 (sEq [c] [92]) cs&&Nat.beq o 101)||(aa [c] pn&&Nat.beq o 112))))))):=by
 have e:L.jR po pn [c] cs=((bif uz po c 119 (aa [c] [32,9,13,10]) cs then [119] else [])++((bif uz po c 114 (sEq [c] [35]) cs then [114] else [])++((bif uz po c 108 (L.word po pn [c]) cs then [108] else [])++((bif uz po c 109 (aa [c] [39,34]) cs then [109] else [])++((bif uz po c 115 (sEq [c] [34]) cs then [115] else [])++((bif uz po c 101 (sEq [c] [92]) cs then [101] else [])++[]))))))++(bif aa [c] pn then [112] else []):=by rw[←eg po _ pn,←eg po _ pn,←eg po _ pn,←eg po _ pn,←eg po _ pn,←eg po _ pn];rfl
 rw[e,cI]
 simp only[List.any_append,Iq,List.any_nil,Bool.or_assoc,Bool.false_or]
theorem B6 (c:Nat) (a b:List Nat):aa [c] (a++b)=(aa [c] a||aa [c] b):=by rw[cI,cI,cI,List.any_append]
theorem yN (c:Nat) (ks l:List Nat):aa [c] (bT ks l)=(aa [c] l&&!(aa [c] ks)):=by
 have k:(ks.any λb=>Nat.beq b c)=aa [c] ks:=by
  rw[cI]
  congr 1
  funext b
  rw[Bool.eq_iff_iff,Nat.beq_eq,Nat.beq_eq];exact eq_comm
 rw[dh,dh,Bool.eq_iff_iff,Bool.and_eq_true,decide_eq_true_iff,decide_eq_true_iff,←k];unfold bT;rw[List.mem_filter]
theorem Ir (po run:Bool) (pn:List Nat) (c:Nat) (h:pn.isEmpty=!run):L.word po pn [c]=aa [c] (L.wy po run pn):=by
 have se:sEq pn []=pn.isEmpty:=by induction pn using List.casesOn <;> rfl
 unfold L.word L.w3 L.wy;rw[OZ,se,h];dsimp only;induction run with|true=>rw[cond_true,yN,B6];show (bif (bif aa [c] (bif po then L.r9++L.Gr else L.r9) then aa [c] (bif po then L.r9++L.Gr else L.r9) else aa [c] L.PA) then _ else (bif aa [c] (bif po then L.r9++L.Gr else L.r9) then aa [c] (bif po then L.r9++L.Gr else L.r9) else aa [c] L.PA))=_;induction aa [c] (bif po then L.r9++L.Gr else L.r9) <;> induction aa [c] L.PA <;> induction aa [c] pn <;> rfl|false=>
  have hp:pn=[]:=by induction pn using List.casesOn with|nil=>rfl|cons _ _=>exact fT h
  subst hp;rw[cond_false];induction aa [c] (bif po then L.r9++L.Gr else L.r9) with|true=>show (!(aa [c] []))=true;rw[cI];rfl|false=>rfl
theorem It {r:Nat} {x:List Nat} (h:HX r x):L.f7 (e9 r x)=dz r x∧(dz r x).isEmpty=!(aJ r):=by
 rcases h with ⟨rfl | rfl | rfl,hx⟩
 ·exact ⟨rfl,rfl⟩
 ·exact ⟨rfl,rfl⟩
 ·exact ⟨rfl,hx⟩
theorem Gf (k:List Nat) (k' v:List Nat):∀kvs:KV,bE k (jG k' v kvs)=bif lEq k' k then some v else bE k kvs
 | []=>rfl
 | e::r=>by
  have ih:=Gf k k' v r;show bE k (bif lEq e.1 k' then (e.1,v)::r else e::jG k' v r)=bif lEq k' k then some v else (bif lEq e.1 k then some e.2 else bE k r)
  induction q:lEq e.1 k' with|true=>have:=lEq_iff.mp q;show (bif lEq e.1 k then some v else bE k r)=_;rw[this];induction lEq k' k <;> rfl|false=>show (bif lEq e.1 k then some e.2 else bE k (jG k' v r))=_;rw[ih];induction q1:lEq e.1 k with|false=>rfl|true=>have e1:=lEq_iff.mp q1;induction q2:lEq k' k with|false=>rfl|true=>rw[e1,←lEq_iff.mp q2,uA] at q;exact tF q
theorem Gg (F:List Nat→List Nat) (c:Nat):∀(tx:List Nat) (acc:KV),(c∈tx∨bE [c] acc=some (F [c]))→bE [c] (putAll (λy=>(strOf y,F (strOf y))) (nO tx) acc)=some (F [c])
 | [],acc,h=>h.elim (λz=>nomatch z) id
 | d::r,acc,h=>by
  show bE [c] (putAll _ (nO r) (jG [d] (F [d]) acc))=_;refine Gg F c r _ ?_;rw[Gf];induction q:lEq [d] [c] with
  | true=>have:=lEq_iff.mp q;cases this;exact .inr rfl
  | false=>
   rcases h with h | h
   ·rcases List.mem_cons.mp h with rfl | h
    ·rw[uA] at q;exact tF q
    ·exact .inl h
   ·exact .inr h
theorem JP {s:Sg} {tx:List Nat} (h:c∈tx):bE [c] (s.kv tx)=some (s.ro [c]):=Gg s.ro c tx [] (.inl h)
theorem yO (s:Sg) (tx:List Nat):aF (s.kv tx) tx:=λc h=>by rw[←ji,JP h];rfl
structure O0 (cs:List (List Nat)):Prop where
 two:∀c∈cs,c.length=2
 off:∀r a:Nat,(r=109∨r=101)→(a=32∨a=97∨a=99)→par [r,a] cs=false
theorem O1 {s:Sg} {r:Nat} {x tx:List Nat} (hr:s.rn=e9 r x) (hx:HX r x) (hc:O0 s.cs) (hl:tx.length≤500):Rl (aJ r) (Fi s.po s.wh (aJ r) (dz r x) s.cs) (s.kv tx) tx:=by
 refine aj (It hx) λe1 e2=>?_;have ro:∀c∈tx,L.ro (s.kv tx) [c]=L.jR s.po (dz r x) [c] s.cs:=λc h=>by unfold L.ro;rw[JP h];show L.jR s.po (L.f7 s.rn) [c] s.cs=_;rw[hr,e1]
 have tm:∀(o c:Nat) (sg:List Nat),aa [c] (L.turned [o] sg s.cs)=(aa [c] sg != par [o,c] s.cs):=λo c sg=>qw o c s.cs sg hc.two;have b1:∀c o has,Nat.beq o 101=false→uz s.po c o has s.cs=(has != par [o,c] s.cs):=λc o has h=>by unfold uz;rw[h,Bool.not_false,Bool.or_true,Bool.and_true]
 refine ⟨yO s tx,?_,?_,?_,?_,?_,?_,?_,e2,?_,hl⟩
 ·intro c h;rw[ro c h,ej];show _=aa [c] (L.turned [119] [32,9,13,10] s.cs);rw[tm,b1 c 119 _ rfl];simp only[show Nat.beq 119 119=true from rfl,show Nat.beq 119 114=false from rfl,show Nat.beq 119 108=false from rfl,show Nat.beq 119 109=false from rfl,show Nat.beq 119 115=false from rfl,show Nat.beq 119 101=false from rfl,show Nat.beq 119 112=false from rfl,Bool.and_true,Bool.and_false,Bool.or_false,Bool.false_or]
 ·intro c h;rw[ro c h,ej];show _=aa [c] (L.turned [114] [35] s.cs);rw[tm,b1 c 114 _ rfl,yM];simp only[show Nat.beq 114 114=true from rfl,show Nat.beq 114 119=false from rfl,show Nat.beq 114 108=false from rfl,show Nat.beq 114 109=false from rfl,show Nat.beq 114 115=false from rfl,show Nat.beq 114 101=false from rfl,show Nat.beq 114 112=false from rfl,Bool.and_true,Bool.and_false,Bool.or_false,Bool.false_or]
 ·intro c h;rw[ro c h,ej];show _=aa [c] (L.turned [108] (L.wy s.po (aJ r) (dz r x)) s.cs);rw[tm,b1 c 108 _ rfl,Ir _ _ _ _ e2];simp only[show Nat.beq 108 108=true from rfl,show Nat.beq 108 119=false from rfl,show Nat.beq 108 114=false from rfl,show Nat.beq 108 109=false from rfl,show Nat.beq 108 115=false from rfl,show Nat.beq 108 101=false from rfl,show Nat.beq 108 112=false from rfl,Bool.and_true,Bool.and_false,Bool.or_false,Bool.false_or]
 ·intro c h;rw[ro c h,ej];show _=aa [c] (L.turned [109] [39,34] s.cs);rw[tm,b1 c 109 _ rfl];simp only[show Nat.beq 109 109=true from rfl,show Nat.beq 109 119=false from rfl,show Nat.beq 109 114=false from rfl,show Nat.beq 109 108=false from rfl,show Nat.beq 109 115=false from rfl,show Nat.beq 109 101=false from rfl,show Nat.beq 109 112=false from rfl,Bool.and_true,Bool.and_false,Bool.or_false,Bool.false_or]
 ·intro c h;rw[ro c h,ej];show _=(s.po&&aa [c] (L.turned [101] [92] s.cs));rw[tm,yM c 92];have:uz s.po c 101 (aa [c] [92]) s.cs=(s.po&&(aa [c] [92] != par [101,c] s.cs)):=by unfold uz;rw[show Nat.beq 101 101=true from rfl,Bool.not_true,Bool.or_false];exact Bool.and_comm _ _
  rw[this]
  simp only[show Nat.beq 101 101=true from rfl,show Nat.beq 101 119=false from rfl,show Nat.beq 101 114=false from rfl,show Nat.beq 101 108=false from rfl,show Nat.beq 101 115=false from rfl,show Nat.beq 101 109=false from rfl,show Nat.beq 101 112=false from rfl,Bool.and_true,Bool.and_false,Bool.or_false,Bool.false_or]
 ·intro c h;rw[ro c h,ej];show _=aa [c] (L.turned [115] [34] s.cs);rw[tm,b1 c 115 _ rfl,yM c 34];simp only[show Nat.beq 115 115=true from rfl,show Nat.beq 115 119=false from rfl,show Nat.beq 115 114=false from rfl,show Nat.beq 115 108=false from rfl,show Nat.beq 115 101=false from rfl,show Nat.beq 115 109=false from rfl,show Nat.beq 115 112=false from rfl,Bool.and_true,Bool.and_false,Bool.or_false,Bool.false_or]
 ·intro c h;rw[ro c h,ej];show _=aa [c] (dz r x);simp only[show Nat.beq 112 112=true from rfl,show Nat.beq 112 119=false from rfl,show Nat.beq 112 114=false from rfl,show Nat.beq 112 108=false from rfl,show Nat.beq 112 101=false from rfl,show Nat.beq 112 109=false from rfl,show Nat.beq 112 115=false from rfl,Bool.and_true,Bool.and_false,Bool.or_false,Bool.false_or]
 ·intro c h;constructor
  ·show aa [c] (L.turned [109] [39,34] s.cs)=false;rw[tm,hc.off 109 c (.inl rfl) h];rcases h with rfl | rfl | rfl <;> (rw[cI];rfl)
  ·show aa [c] (L.turned [101] [92] s.cs)=false;rw[tm,hc.off 101 c (.inr rfl) h];rcases h with rfl | rfl | rfl <;> (rw[cI];rfl)
namespace L
noncomputable def qx (num w:Int):Nat:=bif Int.fdiv (pO num w) 4==2 then 2 else (bif Int.fdiv (pO num w) 4==1 then 1 else 0)
noncomputable def rX (num w:Int):List Nat:=[dR num w 0,dR num w 1,dR num w 2]
end L
theorem JQ (num w:Int):L.runOf num w=e9 (L.qx num w) (L.rX num w):=by unfold L.runOf L.qx L.rX;induction Int.fdiv (L.pO num w) 4==2 with|true=>rfl|false=>induction Int.fdiv (L.pO num w) 4==1 <;> rfl
theorem Mh (num w:Int):HX (L.qx num w) (L.rX num w):=by refine ⟨?_,rfl⟩;unfold L.qx;induction Int.fdiv (L.pO num w) 4==2 with|true=>exact .inr (.inr rfl)|false=>induction Int.fdiv (L.pO num w) 4==1 <;> first | exact .inl rfl | exact .inr (.inl rfl)
theorem Gh (num w:Int):dr (L.runOf num w):=by unfold L.runOf;induction Int.fdiv (L.pO num w) 4==2 with|true=>exact .inr (.inr ⟨_,rfl,by show 3≤1000;lia⟩)|false=>induction Int.fdiv (L.pO num w) 4==1 <;> first | exact .inr (.inl rfl) | exact .inl rfl
theorem wX {k:List Nat}:∀{cs:List (List Nat)},(∀c∈cs,c≠k)→par k cs=false|[],_=>rfl|c::cs,h=>by show Bool.xor (lEq c k) (par k cs)=false;rw[wX λy hy=>h y (List.mem_cons_of_mem _ hy),show lEq c k=false by induction q:lEq c k with|false=>rfl|true=>exact absurd (lEq_iff.mp q) (h c List.mem_cons_self)];rfl
theorem Mi (n:Int):L.sgn (Int.fmod n 18)≠97∧L.sgn (Int.fmod n 18)≠99:=by
 refine aj (fA n (m:=18) (by omega)) λh1 h2=>?_;refine bZ (Int.eq_ofNat_of_zero_le h1) λk hk=>?_;rw[hk] at h2 ⊢;have all:(List.range 18).all (λk=>!(Nat.beq (L.sgn (k:Int)) 97)&&!(Nat.beq (L.sgn (k:Int)) 99))=true:=by kernel_rfl
 refine aj (Bool.and_eq_true_iff.mp (List.all_eq_true.mp all k (List.mem_range.mpr (by omega)))) λa b=>?_;constructor
 ·intro z;rw[z] at a;exact fT a
 ·intro z;rw[z] at b;exact fT b
theorem Gi (ds:List Int) (w:Int):O0 (L.changes w ds):=by
 have mem:∀c∈L.changes w ds,∃v,c=L.chg v∧L.takes w v=true:=λc h=>by refine aG (List.mem_map.mp h) λv hv ae=>?_;subst ae;exact ⟨v,rfl,(List.mem_filter.mp hv).2⟩
 refine ⟨λc h=>by refine aG (mem c h) λv ae y=>?_;subst ae;rfl,λr a hr ha=>wX λc h z=>?_⟩;refine aG (mem c h) λv ae ht=>?_;subst ae;refine aj (Mi (Int.fdiv v 256)) λs1 s2=>?_;have z2:L.sgn (Int.fmod (Int.fdiv v 256) 18)=a:=by have:=congrArg (λl:List Nat=>l.getD 1 0) z;exact this
 rcases ha with rfl | rfl | rfl
 ·have e:cz (L.chg v) [[109,32],[101,32]]=true:=by
   rw[z]
   rcases hr with rfl | rfl <;> rfl
  unfold L.takes at ht
  rw[e,Bool.not_true,Bool.false_and,Bool.and_false] at ht
  exact fT ht
 ·exact s1 z2
 ·exact s2 z2
noncomputable def rg (d:Dr) (w:Int):Lw:=⟨aJ (L.qx d.num w),Fi (d.s w).po (d.s w).wh (aJ (L.qx d.num w)) (dz (L.qx d.num w) (L.rX d.num w)) (d.s w).cs,(d.s w).kv d.tx⟩
noncomputable def iR (d:Dr):List AO:=bif aJ (L.qx d.num 0) then [.ew [],.IG (dz (L.qx d.num 0) (L.rX d.num 0))] else []
noncomputable def su (d:Dr):wQ:=⟨rg d 0,rg d 1,d.tx,(iR d).length⟩
theorem Iu (d:Dr) (w:Int):(d.s w).runs=aJ (L.qx d.num w):=by show (PV.bool? (L.runOf d.num w)).getD true=_;unfold L.runOf L.qx;induction Int.fdiv (L.pO d.num w) 4==2 with|true=>rfl|false=>induction Int.fdiv (L.pO d.num w) 4==1 <;> rfl
theorem JR (d:Dr) (w:Int) (hl:d.tx.length≤500):L6 (rg d w) (d.s w) d.tx:=⟨O1 (s:=d.s w) (JQ d.num w) (Mh d.num w) (Gi d.ds w) hl,λr lf=>by show L.turn (d.s w).po (d.s w).wh ((d.s w).kv d.tx) (d.s w).runs r lf=_;rw[Iu];rfl⟩
theorem Mj (d:Dr) (hl:d.tx.length≤500):jT (su d) (d.s 0) (d.s 1):=⟨JR d 0 hl,JR d 1 hl,λh=>by have h:aJ (L.qx d.num 0)=true:=h;show 2≤(iR d).length;unfold iR;rw[h];exact Nat.le_refl 2⟩
theorem wY (n:Nat):∀l:List (List Nat),(l.map PV.str).all (nM n)=true|[]=>rfl|c::r=>by show (nM n (.str c)&&(r.map PV.str).all (nM n))=true;rw[wY n r];induction n using Nat.casesOn <;> rfl
theorem yP (n:Nat) {v:PV} (h:bz v=true):nM n v=true:=by induction v using PV.casesOn <;> first | (induction n using Nat.casesOn <;> rfl) | exact fT h
theorem wZ {r:Rd} {run:Bool} {x:Lx} {tx:List Nat} (D:nW run x tx r n) (h:iS.all (nM 4)=true):nM 5 (yE iS (fH r) r.row)=true:=by
 refine bZ D.row λl hl=>?_;show (iS++[L.ay r.place,.str r.kept,.int r.line,.lst r.row]).all (nM 4)=true;rw[List.all_append,h,hl];have e:nM 4 (L.ay r.place)=true:=by rcases D.at_ with ⟨h,_⟩ | ⟨_,_,⟨h,_⟩ | ⟨m,h,_⟩⟩ <;> rw[h] <;> rfl
 show (true&&(nM 4 (L.ay r.place)&&(true&&(true&&((l.map PV.str).all (nM 3)&&true)))))=true;rw[e,wY];rfl
theorem Gj {run:Bool} {x:Lx} {kv:KV} {tx:List Nat} {r:Rd} {n':Nat} (D:nW run x tx r n) (T:yF run x tx r n (tn run x kv r (tx.drop n)) n'):nM 5 (tn run x kv r (tx.drop n)).1=true:=by
 rcases Ad D T with ⟨told,h1,_,h2⟩ | ⟨b,_,h2⟩
 ·rw[h2];exact wZ T.rd (by show (true&&(nM 4 told&&true))=true;rw[yP 4 h1];rfl)
 ·rw[h2];exact wZ T.rd rfl
theorem um {T:wQ} (K:jT T s0 s1):∀(ts:List Int) (S:r5) (n:Nat) (H:Hp),(∀t∈ts,t=0∨t=1)→wR T S n H→S.out.all (nM 5)=true→(ts.foldl (aS s0 s1 T.tx) S).out.all (nM 5)=true
 | [],S,n,H,_,_,h=>h
 | t::ts,S,n,H,ht,Z,h=>by
  have h':∀u∈ts,u=0∨u=1:=λu m=>ht u (List.mem_cons_of_mem _ m);rcases ht t List.mem_cons_self with rfl | rfl
  ·refine aG (JM K Z) λn' Z' z=>?_;refine um K ts _ n' _ h' Z' ?_;refine bZ (jf K.a.rl Z.ra Z.za.2) λm R=>?_;show (S.out++[(s0.turn T.tx S.r0 S.left).1]).all (nM 5)=true;rw[Z.left,K.a.turn,List.all_append,h];show (true&&(nM 5 _&&true))=true;rw[Gj Z.ra R];rfl
  ·refine aG (JO K Z) λn' Z' z=>?_;refine um K ts _ n' _ h' Z' ?_;refine bZ (jf K.b.rl Z.rb Z.zb.2) λm R=>?_;show (S.out++[(s1.turn T.tx S.r1 S.left).1]).all (nM 5)=true;rw[Z.left,K.b.turn,List.all_append,h];show (true&&(nM 5 _&&true))=true;rw[Gj Z.rb R];rfl
noncomputable def PL (d:Dr):Hp:=Lr (d.s 0).po (L.qx d.num 0) d.tx (L.rX d.num 0) (rg d 0).x
noncomputable def Cc (d:Dr):Hp:=MA (d.s 1).po (L.qx d.num 1) (L.rX d.num 1) (.inst 722 (dX 1 2 (aJ (L.qx d.num 0)) (rg d 0).x Gs)) (.ew []) (.ew []) (Ld d.tx 0) (iR d) (rg d 1).x
theorem Ml (d:Dr):PL d=fP 0 ([.inst 722 (dX 1 2 (aJ (L.qx d.num 0)) (rg d 0).x Gs),.inst 587 (Ld d.tx 0),.ew [],.ew []]++iR d):=by unfold PL Lr iR Gu;induction aJ (L.qx d.num 0) <;> rfl
theorem O2 (d:Dr):iR d=[]∨∃e f,iR d=[e,f]:=by unfold iR;induction aJ (L.qx d.num 0) with|true=>exact .inr ⟨_,_,rfl⟩|false=>exact .inl rfl
theorem Gk {run:Bool} {x:Lx} {tx:List Nat}:nW run x tx N2 0:=⟨Nat.zero_le _,⟨[],rfl⟩,.inl rfl,.inl ⟨rfl,rfl⟩⟩
theorem w4 (d:Dr):wR (su d) (mx d.tx) 0 (Cc d):=by
 have a1:∀b,aJ (L.qx d.num 0)=b→iQ b 1 0 2 (rg d 0).x N2 d.tx 0 (Cc d):=λb h=>by unfold Cc MA iR;rw[h];induction b <;> exact ⟨rfl,rfl,rfl,rfl,λz=>by cases z <;> rfl⟩
 have a2:∀b,aJ (L.qx d.num 1)=b→iQ b 1 ((iR d).length+4) ((iR d).length+5) (rg d 1).x N2 d.tx 0 (Cc d):=λb h=>by unfold Cc MA Gu iR;rw[h];induction aJ (L.qx d.num 0) <;> induction b <;> exact ⟨rfl,rfl,rfl,rfl,λz=>by cases z <;> rfl⟩
 exact ⟨rfl,a1 _ rfl,a2 _ rfl,Gk,Gk,⟨Nat.le_refl _,Nat.zero_le _⟩,⟨Nat.le_refl _,Nat.zero_le _⟩⟩
section
variable {g:G} {A:Around} {B:Bs} {X:XP} {k:Nat} {l:List Env} {ns:List Int}
theorem JS (ns:List Int):OX (aH ns) (su (aH ns)):=by
 have dl:(aH ns).ds.length≤20:=mE ns;have tl:(aH ns).tx.length=(aH ns).ds.length:=List.length_map _;have T:=Mj (aH ns) (by lia);have TG:∀t∈(aH ns).ts,t=0∨t=1:=λt h=>wW t h;have Vn:(aH ns).ts.length≤800:=by show (L.mD 0 ((aH ns).ds++[0,0,0,0])).length≤800;rw[sq,List.length_append];show _+4≤_;lia
 exact ⟨T,rfl,TG,Vn,dl,Gh _ _,Gh _ _,yO _ _,yO _ _,um T _ _ 0 _ TG (w4 (aH ns)) rfl⟩
theorem Gl (d:Dr) (w:Int) (h:d.ds.length≤20):(d.s w).cs.length≤1000:=by show ((d.ds.filter (L.takes w)).map L.chg).length≤1000;rw[List.length_map];exact Nat.le_trans (List.length_filter_le _ _) (by lia)
theorem JT (d:Dr) (w:Int):(d.s w).pv=tP (d.s w).po (d.s w).wh (e9 (L.qx d.num w) (L.rX d.num w)) (d.s w).cs:=by rw[←JQ];rfl
theorem Mm (U:MF g) (R:aQ A (k+6)) (d:Dr) (hd:d.ds.length≤20) (args:List PV) (H:Hp):Runs g A B X 752 args H (TF d ((iR d).length+4) (PL d) (Cc d) args H):=by induction H using List.casesOn with|nil=>refine Runs.need λ⟨h1,_⟩=>?_;rw[h1,JT];exact Fo U.base U.OV U.Mc R (Mh _ _) (Gi d.ds 0).two (Gl d 0 hd)|cons e r=>refine Runs.need λ⟨h1,h2,_⟩=>?_;rw[h1,h2,JT,Ml];exact Fp U.base U.OV U.Mc R (O2 d) (Mh _ _) (Gi d.ds 1).two (Gl d 1 hd)
noncomputable def H3 (ns:List Int):Hp:=((aH ns).ts.foldl (gT (su (aH ns)) ((aH ns).s 0) ((aH ns).s 1)) (mx (aH ns).tx,Cc (aH ns))).2
noncomputable def O3 (ns:List Int):aA:=JH ns (aH ns) ((iR (aH ns)).length+4) (PL (aH ns)) (Cc (aH ns)) (H3 ns) (λloc H=>loc=nA ns (aH ns) ((iR (aH ns)).length+4)∧H=Cc (aH ns))
theorem Iw (ns:List Int) (d:Dr) (hd:d=aH ns):rf.side (aC (aN (jg d) rf.scope [])) dQ (L.PH d.num d.ds) (Aj ns) [] [.int 0,.int 1]:=λy hy acc ha=>by
 have ha:acc.length<2:=ha;have hw:∃w:Int,y=.int w∧(w=0∨w=1):=by
  rcases List.mem_cons.mp hy with rfl | hy
  ·exact ⟨0,rfl,.inl rfl⟩
  ·rw[List.mem_singleton.mp hy];exact ⟨1,rfl,.inr rfl⟩
 obtain ⟨w,rfl,hw⟩:=hw;subst hd;rw[F8];have e:intsOf ((L.drawn ns).map PV.int)=L.drawn ns:=hJ _;have s1:(FW [.int (L.num ns),.lst ((L.drawn ns).map .int),.int w]).1=[[PV.int (L.num ns),.lst ((L.drawn ns).map .int),.int w]=[.int (L.num ns),.lst ((intsOf ((L.drawn ns).map PV.int)).map .int),.int w],w=0∨w=1,(intsOf ((L.drawn ns).map PV.int)).length≤1000]:=rfl;have s2:(FW [.int (L.num ns),.lst ((L.drawn ns).map .int),.int w]).2=L.fB (L.num ns) (intsOf ((L.drawn ns).map PV.int)) w:=rfl;rw[s1,s2,e];have dl:=mE ns;exact ⟨trivial,λz=>⟨⟨rfl,hw,by lia,trivial⟩,⟨fits_of (by lia),trivial⟩,rfl,rfl⟩,nofun⟩
theorem Iy (U:MF g) (R:aQ A 120) (FO:gw A B.fr l) (Fa:FnAt g 793 o fd (bodyOf nZ)) (hs:fd.scope=aV nZ) (La:Addr):cE (c5 g B fd La 793) (A.deeper (callEnvC fd La 793)) ba (O3 ns):=by
 have D:=JS ns;have fo:eV g (A.deeper (callEnvC fd La 793)).in1 (Af (aH ns)):=Ge U ((R.down (k:=119) _).lt (by lia)) D;have C0:af (c5 g B fd La 793) (A.deeper (callEnvC fd La 793)) (jg (aH ns)):=aU U.base.N hs (by kernel_rfl) Fa.glob Fa.blt R.hd (R.u9 _) (bH U.base.lx.at_) fo ak;have e1:=j5 (c:=wL) (q:=dQ) (F:=L.L2) C0 R.hd (by kernel_rfl) (λv=>rfl);have e2:=j5 (c:=wM) (q:=dQ) (F:=L.OL) C0 R.hd (by kernel_rfl) (λv=>rfl);have e3:=j5 (c:=rf) (q:=dQ) (F:=L.PH (aH ns).num (aH ns).ds) C0 R.hd (by kernel_rfl) (λv=>rfl);have ce:∀p t,cb p (FX (aH ns)).comps=some t→di (c5 g B fd La 793) (A.deeper (callEnvC fd La 793)) t∧iq (c5 g B fd La 793) (A.deeper (callEnvC fd La 793)) t:=bj λe m=>by
  rcases List.mem_cons.mp m with rfl | m
  ·exact e1
  rcases List.mem_cons.mp m with rfl | m
  ·exact e2
  ·rw[List.mem_singleton.mp m];exact e3
 have C1:af (c5 g B fd La 793) (A.deeper (callEnvC fd La 793)) (FX (aH ns)):=aU U.base.N hs (by kernel_rfl) Fa.glob Fa.blt R.hd (R.u9 _) (bH U.base.lx.at_) fo λp t h=>(ce p t h).1;have S0:cE (c5 g B fd La 793) (A.deeper (callEnvC fd La 793)) ba (SL (aH ns)):=cj C1 (λp t h=>(ce p t h).2) λp t h=>nomatch h
 have pre:=Ma (ns:=ns) S0;have hF:(aH ns).ts.foldl (gT (su (aH ns)) ((aH ns).s 0) ((aH ns).s 1)) (mx (aH ns).tx,Cc (aH ns))=(⟨(ef ((aH ns).s 0) ((aH ns).s 1) (aH ns).tx (aH ns).ts).r0,(ef ((aH ns).s 0) ((aH ns).s 1) (aH ns).tx (aH ns).ts).r1,(ef ((aH ns).s 0) ((aH ns).s 1) (aH ns).tx (aH ns).ts).left,(aH ns).Gv⟩,H3 ns):=by refine Prod.ext ?_ rfl;exact so _ _ _ _ _
 refine ⟨S0.c,S0.set,eI λe m args H=>?_,da λe m=>?_,cH λe m=>?_,S0.uses,S0.raises⟩
 ·rw[List.mem_singleton.mp m];exact Mm (k:=100) U ((R.down (k:=119) _).lt (by lia)) _ D.dl args H
 ·rw[List.mem_singleton.mp m];exact fE U.Mc
 ·rcases List.mem_append.mp m with m | m
  ·exact pre e m
  rcases List.mem_cons.mp m with rfl | m
  ·exact Io (k:=100) (T:=su (aH ns)) U.base U.st U.R9 U.R8 (R.lt (by lia)) FO D.two Fa hs (w4 (aH ns)) rfl D.ts D.tl hF
  ·rw[List.mem_singleton.mp m];have W:=KO (X:=ba) (n:=30) (l:=L3 (dy (fJ 8))) (r:=L4 (dy (fJ 8))) (cp:=(dy (fJ 8)).pos) (rp:=(fJ 8).pos) C1 (by kernel_rfl);rw[←Ip] at W;exact W
theorem B7 (U:MF g) (F:cG g 793 nZ ["script"]) (R:aQ A 120) (FO:gw A [] l) (ns:List Int) (H:Hp):a7 g A H 793 [.arr (ns.map .int)] (.bool true):=by have D:=JS ns;refine cX (Γ:=O3 ns) (n:=60) F rfl (by show (ar (ns.map PV.int)&&true)=true;rw[fZ];rfl) R.one (λo fd Fa hs h La=>Iy U R FO Fa hs La) (fG (OY ns (L.qx (aH ns).num 0) (rg (aH ns) 0).x (aH ns).tx (L.rX (aH ns).num 0) (Cc (aH ns)) (H3 ns) (λloc H=>loc=nA ns (aH ns) ((iR (aH ns)).length+4)∧H=Cc (aH ns)) ((iR (aH ns)).length+4) ((aH ns).s 0).po) ?_ ⟨.bool true,rfl,rfl,rfl⟩);exact ⟨rfl,rfl,rfl,rfl,rfl,rfl,rfl,rfl,rfl,rfl,rfl,rfl,Iw ns _ rfl,rfl,by decide +kernel,rfl,rfl,rfl,by decide +kernel,rfl,rfl,rfl,rfl,⟨rfl,rfl⟩,rfl,rfl,⟨_,rfl,rfl,D.all⟩,trivial⟩
end
noncomputable def eJ (K:Frag) (f:Addr):Obj:=(K.lookup f).getD default
noncomputable def fdOf (o:Obj):FuncData:=match o.data with
 | .func fd=>fd
 | _=>default
noncomputable def Iz (o:Obj):Array Value:=match o.data with
 | .seq i _=>i
 | _=>#[]
noncomputable def Vo (o:Obj):Nat:=match o.data with
 | .seq _ n=>n
 | _=>0
noncomputable def bK (fd:FuncData) (vs:List Value):{k:Option (Array Value)→Sem (List (Str×Value)) // bindArgs fd ⟨vs,[]⟩=seqItems? fd.defaults >>= k}:=⟨_,rfl⟩
theorem qy {x:Str}:∀(names:List (Str×NameKind)) (n:Nat) (acc:List (Str×Addr)),(acc.lookup x).isSome=true→((cellsFrom n names acc).lookup x).isSome=true
 | [],n,acc,h=>h
 | (y,k)::r,n,acc,h=>by
  unfold cellsFrom
  split
  ·refine qy r _ _ ?_;rw[List.lookup_cons];split
   ·rfl
   ·exact h
  ·exact qy r _ _ h
theorem ia {x:Str}:∀(names:List (Str×NameKind)) (n:Nat) (acc:List (Str×Addr)),names.lookup x=some .cell→((cellsFrom n names acc).lookup x).isSome=true
 | (y,k)::r,n,acc,h=>by
  rw[List.lookup_cons] at h;unfold cellsFrom
  split at h
  ·rename_i e;cases h;show ((cellsFrom (n+1) r ((y,n)::acc)).lookup x).isSome=true;refine qy r _ _ ?_;rw[List.lookup_cons,e];rfl
  ·split
   ·exact ia r _ _ h
   ·exact ia r _ _ h
noncomputable def uq:List Str→Bool|[]=>true|a::r=>!(r.any (seq a))&&uq r
noncomputable def ur (names:List (Str×NameKind)):List Str→Bool|[]=>true|x::r=>(match names.lookup x with|some .local=>true|some .cell=>true|_=>false)&&ur names r
theorem w5:∀{l:List Str},uq l=true→l.Nodup|[],_=>.nil|a::r,h=>by obtain ⟨h1,h2⟩:=Bool.and_eq_true_iff.mp h;refine List.nodup_cons.mpr ⟨λm=>?_,w5 h2⟩;rw[List.any_eq_true.mpr ⟨a,m,aK.mpr rfl⟩] at h1;cases h1
theorem kinds_of {names:List (Str×NameKind)}:∀{ns:List Str},ur names ns=true→∀x∈ns,names.lookup x=some .local∨names.lookup x=some .cell
 | [],_,x,m=>by cases m
 | y::r,h,x,m=>by
  obtain ⟨q1,q2⟩:=Bool.and_eq_true_iff.mp h;rcases List.mem_cons.mp m with rfl | m
  ·split at q1
   ·exact .inl ‹_›
   ·exact .inr ‹_›
   ·cases q1
  ·exact kinds_of q2 x m
theorem Mn (h1:uq ns=true) (h2:ur fd.scope.names ns=true):iu fd ns:=⟨w5 h1,λL x m=>(kinds_of h2 x m).imp id λe=>⟨e,ia _ _ _ e⟩,λL x h=>ia _ _ _ h⟩
structure xa (K:Frag) (f:Addr) (d:Option dm) (ns:List Str):Prop where
 look:K.lookup f=some (eJ K f)
 data:(eJ K f).data=.func (fdOf (eJ K f))
 body:(fdOf (eJ K f)).body=.stmts (bodyOf d)
 Qn:(fdOf (eJ K f)).closure=[]
 glob:(fdOf (eJ K f)).globals=mainGlobals
 blt:(fdOf (eJ K f)).builtins=builtinsNs
 code:codeIn K (fdOf (eJ K f)).code (fdOf (eJ K f)).qualname=true
 scope:(fdOf (eJ K f)).scope=aV d
 co:(aV d).isCoroutine=false
 gen:(aV d).isGenerator=false
 kind:(aV d).kind=.function
 nd:uq ns=true
 kn:ur (aV d).names ns=true
theorem xa.at_ {f:Addr} {d:Option dm} (c:xa g.K f d ns):FnAt g f (eJ g.K f) (fdOf (eJ g.K f)) (bodyOf d):=⟨c.look,c.data,c.body,c.Qn,c.glob,c.blt,c.code,by rw[c.scope];exact c.co,by rw[c.scope];exact c.gen,by rw[c.scope];exact c.kind⟩
theorem xa.par {f:Addr} {d:Option dm} (c:xa K f d ns):iu (fdOf (eJ K f)) ns:=Mn c.nd (by rw[c.scope];exact c.kn)
noncomputable def mF (f:Nat→Value):Nat→Nat→List Value|0,_=>[]|n+1,i=>f i::mF f n (i+1)
theorem uu:∀(vs:List Value) (f:Nat→Value) (i:Nat),(∀j,f (i+j)=vs.getD j .none)→vs=mF f vs.length i|[],_,_,_=>rfl|v::r,f,i,h=>by show v::r=f i::mF f r.length (i+1);rw[show f i=v from h 0,←uu r f (i+1) (λj=>by rw[Nat.add_assoc,Nat.add_comm 1 j,h (j+1)];rfl)]
theorem yQ (h:∀f,bindArgs fd ⟨mF f ns.length 0,[]⟩=pure (ns.zip (mF f ns.length 0))) (args:List PV) (hl:ns.length=args.length):fW g fd ns args (fv ns args):=.plain hl λvs e=>by have:=h λi=>vs.getD i .none;rw[←e,←uu vs _ 0 (λj=>by rw[Nat.zero_add])] at this;exact this
theorem xa.plain {f:Addr} {d:Option dm} (c:xa g.K f d ns) (h:∀v,bindArgs (fdOf (eJ g.K f)) ⟨mF v ns.length 0,[]⟩=pure (ns.zip (mF v ns.length 0))):cG g f d ns:=⟨⟨_,_,c.at_,c.scope,c.par,yQ h⟩⟩
structure PM (K:Frag) (fd:FuncData) (T:Addr):Prop where
 d:fd.defaults=.ref T
 l:K.lookup T=some (eJ K T)
 s:(eJ K T).data=.seq (Iz (eJ K T)) (Vo (eJ K T))
theorem PM.to {T:Addr} (D:PM K fd T) {more:List Value} (hb:∀f,(bK fd (mF f m 0)).1 (some (Iz (eJ K T)))=pure (ns.zip (mF f m 0++more))):∀(vs:List Value) (s:Shared),vs.length=m→K.In s.heap→BindsTo s fd ⟨vs,[]⟩ (ns.zip (vs++more)):=λvs s e ok=>by have:=hb λi=>vs.getD i .none;rw[←e,←uu vs _ 0 (λj=>by rw[Nat.zero_add])] at this;exact binds_K ok D.d D.l D.s (bK fd vs).2 this
theorem xa.dflt {f:Addr} {d:Option dm} {T:Addr} (c:xa g.K f d ns) (D:PM g.K (fdOf (eJ g.K f)) T) (h:∀v,(bK (fdOf (eJ g.K f)) (mF v ns.length 0)).1 (some (Iz (eJ g.K T)))=pure (ns.zip (mF v ns.length 0++[]))):cG g f d ns:=⟨⟨_,_,c.at_,c.scope,c.par,λargs hl=>by have:=fW.more (g:=g) (args:=args) (more:=[]) (ds:=[]) hl (λvs s e=>D.to h vs s (e.trans hl.symm)) (λz z=>.nil);rw[List.append_nil] at this;exact this⟩⟩
theorem xa.more {f:Addr} {d:Option dm} {T:Addr} {more:List Value} {ds:List PV} (c:xa g.K f d ns) (D:PM g.K (fdOf (eJ g.K f)) T) (hl:ns.length=args.length+more.length) (h:∀v,(bK (fdOf (eJ g.K f)) (mF v args.length 0)).1 (some (Iz (eJ g.K T)))=pure (ns.zip (mF v args.length 0++more))) (r:∀P ι,aT g.w P ι more ds):Jp g f d ns args (fv ns (args++ds)):=⟨⟨_,_,c.at_,c.scope,c.par,.more hl (D.to h) r⟩⟩
theorem eO.k {f:Addr} (hk:keepIn g.K (.ref f)=true):eO g f:=λA E s pos first env es Q h=>callWith_of (P:=λh=>g.K.In h) (by rw[jZ];rfl) (keeps_K hk) (dM (wpAny_mono h (λvs ag x=>⟨x.1.1,x.2⟩) λz z x=>x))
theorem all_nil {P:α→Prop}:∀e∈([]:List α),P e:=λe m=>nomatch m
theorem all_cons {P:α→Prop} {a:α} {l:List α} (h:P a) (t:∀e∈l,P e):∀e∈a::l,P e:=λe m=>(List.mem_cons.mp m).elim (λq=>q▸h) (t e)
section
variable {g:G} {C f:Nat} {x:Str}
theorem TH {u:Value} (h:nsIn g.K mainGlobals x=some (some u)):∃u',(x,PV.glob u).2=.glob u'∧b6 g (x,PV.glob u).1 u':=⟨u,rfl,.inl h⟩
theorem TJ {u:Value} (h:nsIn g.K mainGlobals x=some Option.none) (h2:bootBuiltins x=some u) (h3:seq x "__name__"=false):∃u',(x,PV.glob u).2=.glob u'∧b6 g (x,PV.glob u).1 u':=⟨u,rfl,.inr ⟨h,h2,λe=>fT (h3.symm.trans (aK.mpr e))⟩⟩
theorem fld (h1:plainGet g.K C x=true) (h2:hasDictIn g.K C=true) (h3:findIn g.K (.ref C) x=some Option.none):gv g C x .field:=⟨h1,h2,_,h3,rfl⟩
theorem TK (h1:plainGet g.K C x=true) (h2:findIn g.K (.ref C) x=some (some (.ref f))) (h3:isFn g.K (.ref f)=true):gv g C x (.lM f):=⟨h1,h2,h3⟩
noncomputable def O4 (K:Frag) (C:Nat) (x:Str):Nat:=(findIn K (.ref C) x).join.elim 0 λv=>(Cz v).getD 0
noncomputable def O5 (K:Frag) (a:Nat) (T:String):List Value:=((recIn K a T).getD []).tail
theorem Vp (h1:plainGet g.K C x=true) (h2:hasDictIn g.K C=true) (h3:findIn g.K (.ref C) x=some (some (.ref (O4 g.K C x)))) (h4:specialIn g.K (.ref (O4 g.K C x)) "__get__"=some (some (.builtin "property.__get__"))) (h5:takesIn g.K (.ref (O4 g.K C x))=some true) (h6:recIn g.K (O4 g.K C x) "property"=some (.ref f::O5 g.K (O4 g.K C x) "property")):gv g C x (.prop f):=⟨h1,h2,_,_,h3,h4,h5,h6⟩
noncomputable def TL (K:Frag):Nat:=match findCls K (.ref 587) (.type "type") "__new__" with
 | some (.get _ (.ref a) _ _)=>a
 | _=>0
end
noncomputable def gK (K:Frag) (w:World) (p:Program) (loose:List Str) (mg mb:Str→Option Value):G:=⟨PySem.Challenge.pw_kl0403_01,w,K,p,loose,mg,mb⟩
theorem IA {w:World} {P:Fz} {ι:bq} {ns:List Int} (h:IntsAre vs ns):aT w P ι vs (ns.map .int):=by induction h with|nil=>exact .nil|cons n t h ih=>exact .cons (.int n t) ih
theorem O6:aQ callerA 120:=⟨rfl,by decide +kernel,by decide +kernel⟩
theorem Sd:gw callerA [] []:=⟨rfl,λe m=>nomatch m⟩
theorem IB (U:MF g) (F:cG g 793 nZ ["script"]) {s:Shared} (ok:g.Ok s.heap) {ns:List Int} (hL:s.heap.IsList a vs.toArray) (hI:IntsAre vs ns) (hz:ns.length≤63) : wpAny (model g.prog g.w) callerA (call (.ref 793) [.ref a]) (λv s'=>v=.bool true∧OldK s.heap s'.heap∧s'.os=s.os∧s'.gens=s.gens) (λz z=>False) s:=by
 obtain ⟨⟨oc,od,VH,Qb⟩,ho,hc,n,hd⟩:=hL;cases hc;cases hd;have hl:(ns.map PV.int).length≤sizeLine:=by rw[List.length_map,sizeLine_eq];omega
 have fz:aB (λb=>bif Nat.beq b a then s.heap.get? b else Option.none) s.heap:=λb o e=>by have e:(bif Nat.beq b a then s.heap.get? b else Option.none)=some o:=e;induction q:Nat.beq b a with|true=>rw[q] at e;exact e|false=>rw[q] at e;exact nS e
 have hP:(bif Nat.beq a a then s.heap.get? a else Option.none)=some ⟨.type "list",od,.seq vs.toArray n,Qb⟩:=by rw[Nat.beq_refl];exact ho
 refine wpAny_call (B7 U F O6 Sd ns [] ⟨s.heap,[]⟩ ⟨zi,_⟩ s _ (Dj ok fz) (.cons ⟨a,vs,n,od,Qb,rfl,hP,hl,IA hI⟩ .nil) _ λp' s' u Y' T ru=>?_);have:=ru.bool_inv;subst this;obtain ⟨h1,t1,e⟩:=T.eq;exact ⟨rfl,.of_keep λb o e'=>T.st.keep b o e' (λ⟨k,a,d,q,z⟩=>nomatch q) id (λm=>nomatch m),by rw[e],by rw[e]⟩
def head.tw9197122456581196581:=G
def head.tw5869014574898725513:=G
def head.tw3746228215898030841:=G
def head.tw11925700103697007601:=G
def head.tw14139617269561922093:=G
def head.tw2326617092838664518:=G
def head.tw14586503196746008701:=G
def head.tw9065935926736091543:=G
def head.tw8912104118211102971:=G
def head.tw10116942457455264815:=G
def head.tw18433677622606106133:=G
def head.tw7161073391023584161:=G
def head.tw6708749234979885514:=G
def head.tw2298694737197419510:=G
def head.tw13508044439285423174:=G
def head.tw4839655697589452165:=G
def head.tw10988817232074504935:=G
def head.tw12074249297620881909:=G
def head.tw11582096051123008839:=G
def head.tw11305582741114486441:=G
def head.tw6388477656530123435:=G
def head.tw3860651933079915558:=G
def head.tw6489421142724028100:=G
def head.tw7091752845120838955:=G
def head.tw14882813523228863612:=G
def head.tw12604462930493870256:=G
def head.tw5501060405047882677:=G
def head.tw5894247764576360081:=G
def head.tw9107825763807709430:=G
def head.tw10333954764705244698:=G
def head.tw10936905620487946977:=G
def head.tw9062998866958442273:=G
def head.tw9950410520057996621:=G
def head.tw15827502805916655846:=G
def head.tw12611893724949602041:=G
def head.tw11821203517306503961:=G
def head.tw1718890006036334650:=G
def head.tw4405734404675932169:=G
def head.tw2437478716016495240:=G
def head.tw2307047085170396653:=G
def head.tw6085824867444503733:=G
def head.tw14744981736328886265:=G
def head.tw17371765431496345816:=G
def head.tw17212568112599259466:=G
def head.tw5019597260055213698:=G
def head.tw45052839361067614:=G
def head.tw15328847239876097677:=G
def head.tw13942192884097748152:=G
def head.tw14946772226789246504:=G
def head.tw8476099583838051002:=G
def head.tw14720509044617813951:=G
def head.tw17194126546080390198:=G
def head.tw4163069186122357367:=G
def head.tw2728595385866086531:=G
def head.tw11290360913936777911:=G
def head.tw15895551434495452948:=G
def head.tw14524160177008508720:=G
def head.tw2118377178292867602:=G
def head.tw13337238644230332656:=G
def head.tw6053349399257934933:=G
def head.tw9388430590476628193:=G
def head.tw13135395098459392958:=G
def head.tw18332689328565389885:=G
def head.tw17297054508065495485:=G
def head.tw17377423518514600169:=G
def head.tw779419810087314491:=G
def head.tw10258521583956687137:=G
def head.tw14862789650711617903:=G
def head.tw6536181036136497285:=G
def head.tw18125128294737035143:=G
def head.tw16800043278716471037:=G
def head.tw10079960370226730655:=G
def head.tw2973143901146584636:=G
def head.tw5776309275727910279:=G
def head.tw17015032458148788900:=G
def head.tw1608297297296620843:=G
def head.tw18331334602107656470:=G
def head.tw820421773197932041:=G
def head.tw12764128322984676335:=G
def head.tw9966027542202029443:=G
def head.tw2355103038987944067:=G
def head.tw15840312062823119879:=G
def head.tw3980653432952411973:=G
def head.tw4964814941381164201:=G
def head.tw12428389735305899900:=G
def head.tw10431609616501453582:=G
def head.tw3944913497352057107:=G
def head.tw4196546014268931301:=G
def head.tw13412022041919118725:=G
def head.tw17894702793023417833:=G
def head.tw13846591363081406657:=G
def head.tw18364922244981856966:=G
def head.tw5869485362099743711:=G
def head.tw8812732774380208333:=G
def head.tw8535708456716222715:=G
def head.tw10340462753498674063:=G
def head.tw6237802210402583469:=G
def head.tw15164278277893987615:=G
def head.tw4528443807372415038:=G
def head.tw9089795715530709647:=G
def head.tw6369041477666114370:=G
def head.tw6053997905714604814:=G
def head.tw14843749296085226474:=G
def head.tw6161856959107265637:=G
def head.tw11923155195566972133:=G
def head.tw11427066125472700054:=G
def head.tw14149427978524627653:=G
def head.tw8550467674348477657:=G
def head.tw6930615606355531631:=G
def head.tw9642530239978071295:=G
def head.tw9881340216297992761:=G
def head.tw1495726902847802894:=G
def head.tw17836260108008149386:=G
def head.tw16576625349610184965:=G
def head.tw4318500180640689126:=G
def head.tw2705560170217086799:=G
def head.tw15898109809663626304:=G
def head.tw12542841389457131302:=G
def head.tw8874674299285249911:=G
def head.tw10746725682022337571:=G
def head.tw11914187763297459524:=G
def head.tw11081218982966106116:=G
def head.tw16817119741492734445:=G
def head.tw14195316510222423288:=G
def head.tw8758324158161630591:=G
def head.tw829941438253678028:=G
def head.tw3304075619188804072:=G
def head.tw69809265629811306:=G
def head.tw11998209505049934977:=G
def head.tw6891450509433485068:=G
def head.tw9767149119325585590:=G
def head.tw6402496994288996404:=G
def head.tw9838509708139735780:=G
def head.tw5792407227767346561:=G
def head.tw8101760021730824546:=G
def head.tw12398312691204496596:=G
def head.tw12773685731770592110:=G
def head.tw6088685845774392931:=G
def head.tw1125430239929706018:=G
def head.tw11434997419882176723:=G
def head.tw11105056867450500199:=G
def head.tw6791874446421159577:=G
def head.tw10472834687351259785:=G
def head.tw6304676298305806467:=G
def head.tw10110233660360586483:=G
def head.tw13743032657059413451:=G
def head.tw4709128311485490483:=G
def head.tw1503407388533364548:=G
def head.tw15894371620910866019:=G
def head.tw4857777746444614323:=G
def head.tw9592777112578238593:=G
def head.tw15798066900824788120:=G
def head.tw8586521899292070991:=G
def head.tw5408759939109034304:=G
def head.tw649443455394278489:=G
def head.tw4239589573987675453:=G
def head.tw15539854500240908086:=G
def head.tw15510365090734361527:=G
def head.tw10371985647062452541:=G
def head.tw15895748673760503845:=G
def head.tw17346037399652195860:=G
def head.tw17039324001796647390:=G
def head.tw10698650227242318774:=G
def head.tw8733578408476508925:=G
def head.tw6847273489543275152:=G
def head.tw2428695696106030784:=G
def head.tw14488727979953464203:=G
def head.tw10736139440505347576:=G
def head.tw2413573451304230806:=G
def head.tw16966009324859112401:=G
def head.tw9005204637564801583:=G
def head.tw13227620805987009915:=G
def head.tw807299193193998342:=G
def head.tw8881269060482585022:=G
def head.tw1319983325249436295:=G
def head.tw1082313596108445148:=G
def head.tw8534208459206503383:=G
def head.tw14112051064653734678:=G
def head.tw8047331064198847621:=G
def head.tw13216898753189638151:=G
def head.tw48543519692965452:=G
def head.tw4554283584077286953:=G
def head.tw18007968972792079559:=G
def head.tw14513887754847984766:=G
def head.tw10270352894671993868:=G
def head.tw6880043348581005364:=G
def head.tw1351559336864506655:=G
def head.tw5737951250597237232:=G
def head.tw4277651752456152607:=G
def head.tw3501597964444990463:=G
def head.tw14235953900361662071:=G
def head.tw1939405473400901271:=G
def head.tw12394069701764826827:=G
def head.tw17646911460466567920:=G
def head.tw4972248218790579157:=G
def head.tw16703865258624009325:=G
def head.tw7148437315225170067:=G
def head.tw3164961170700492040:=G
def head.tw13025741259844407872:=G
def head.tw6871339299614917876:=G
def head.tw3690969761935527329:=G
def head.tw12157662564070965069:=G
def head.tw11597336398036118778:=G
def head.tw15165643980268286292:=G
def head.tw15794997505209512671:=G
def head.tw10015159338476511836:=G
def head.tw1524684057812940815:=G
def head.tw12207028300977255130:=G
def head.tw9211057245822576837:=G
def head.tw6153569298028143949:=G
def head.tw11063524718261073790:=G
def head.tw15564447279633807951:=G
def head.tw15256841493749336786:=G
def head.tw2946737518818760889:=G
def head.tw3986194592780655508:=G
def head.tw7656372460463219624:=G
def head.tw13917482298092908234:=G
def head.tw18081138779251354973:=G
def head.tw8476951943066225111:=G
def head.tw13002585709282622103:=G
def head.tw6232644224018631296:=G
def head.tw14768688571040804171:=G
def head.tw7627683417492964911:=G
def head.tw12892129938458570674:=G
def head.tw4307260679431091991:=G
def head.tw8169693465737517768:=G
def head.tw6870361546347238192:=G
def head.tw17339705970751849611:=G
def head.tw8182079617134344778:=G
def head.tw7253898381062576733:=G
def head.tw6910089277995645325:=G
def head.tw3160712208675142370:=G
def head.tw2521584445584981976:=G
def head.tw12460202669355646752:=G
def head.tw6668890000431947556:=G
def head.tw16128420640991077102:=G
def head.tw14796412885826930917:=G
def head.tw6858743491597560450:=G
def head.tw7802898811600756450:=G
def head.tw5944575059761466720:=G
def head.tw16828514060538661750:=G
def head.tw6751290297309308749:=G
def head.tw7616930195647119758:=G
def head.tw15001418939266856263:=G
def head.tw8451290768687142514:=G
def head.tw15091486752826498866:=G
def head.tw5047755009146634299:=G
def head.tw3651205649096709438:=G
def head.tw12666380852390969779:=G
def head.tw6226413525154113608:=G
def head.tw13750642191701924398:=G
def head.tw17129914584562691343:=G
def head.tw13137911371727378231:=G
def head.tw322437386772585718:=G
def head.tw10551123754383021444:=G
def head.tw9407594320385231609:=G
def head.tw11485113708198979986:=G
def head.tw9777841548286773677:=G
def head.tw16962450398199861240:=G
def head.tw9827913525700040407:=G
def head.tw5986637957666399235:=G
def head.tw3368474557548986910:=G
def head.tw14628233357713752721:=G
def head.tw7705420606127192585:=G
def head.tw9658139154387788515:=G
def head.tw16481179823495478772:=G
def head.tw17197444120159719569:=G
def head.tw6721134378175745729:=G
def head.tw8603420104599213669:=G
def head.tw860298348326699438:=G
def head.tw5617373736292572815:=G
def head.tw18177665153149118353:=G
def head.tw9162278640276766204:=G
def head.tw17854890406432584798:=G
def head.tw17522360388414511382:=G
def head.tw1810985104146032452:=G
def head.tw3790771472595898956:=G
def head.tw4473611206160876864:=G
def head.tw14740928361383774428:=G
def head.tw7494366503370351645:=G
def head.tw7748693106545578708:=G
def head.tw14139502460874162764:=G
def head.tw8251012268138292781:=G
def head.tw6857060684267632606:=G
def head.tw3657744606055017977:=G
def head.tw11988142204041823098:=G
def head.tw13276723143375012678:=G
def head.tw17674571679781333832:=G
def head.tw16952181060025214987:=G
def head.tw5874639182527098836:=G
def head.tw13249071542605338262:=G
def head.tw12858780395421280599:=G
def head.tw12704426703380559182:=G
def head.tw5599997604879368025:=G
def head.tw1929634836878124385:=G
def head.tw8264559056461403633:=G
def head.tw16065720564569863766:=G
def head.tw14983349147647662914:=G
def head.tw8047541715743884091:=G
def head.tw5788964047882338313:=G
def head.tw7994106446794305319:=G
def head.tw14028522991509751376:=G
def head.tw14877080517539528568:=G
def head.tw1172538174109094731:=G
def head.tw2506711637615833298:=G
def head.tw17844492200522320778:=G
def head.tw8035625575855466936:=G
def head.tw14676189674455941282:=G
def head.tw15647610678857825673:=G
def head.tw14068133799693864440:=G
def head.tw15171285062763278426:=G
def head.tw12359489953124434286:=G
def head.tw17002534310236347988:=G
def head.tw4991397462208424806:=G
def head.tw10510622979536455646:=G
def head.tw527386997569798941:=G
def head.tw12275693417441809861:=G
def head.tw11715283913529211631:=G
def head.tw13650549970936915252:=G
def head.tw7181452741857391679:=G
def head.tw9646481798937456297:=G
def head.tw7492340954919836559:=G
def head.tw3122906425038022637:=G
def head.tw5240702290290941181:=G
def head.tw13295774097974887486:=G
def head.tw174166394780034911:=G
def head.tw11304916912689824328:=G
def head.tw16014373381606645092:=G
def head.tw10467814448475477596:=G
def head.tw5751227541892866231:=G
def head.tw13537664574400122534:=G
def head.tw7885897083568230588:=G
def head.tw5901594920499545818:=G
def head.tw266100023129296208:=G
def head.tw9802980913210911633:=G
def head.tw13478637309914159250:=G
def head.tw9984397402777080727:=G
def head.tw4160124254940468481:=G
def head.tw9885750084120196852:=G
def head.tw4975070653579243887:=G
def head.tw5927865893512547691:=G
def head.tw16582591585412914238:=G
def head.tw6763335052953634553:=G
def head.tw8337448324364255386:=G
def head.tw17972497016974392416:=G
def head.tw2201313380682377074:=G
def head.tw2241628862621589225:=G
def head.tw14788773977795034992:=G
def head.tw17782148633632673465:=G
def head.tw18384547517478447814:=G
def head.tw497287684792784471:=G
def head.tw16291991722392533869:=G
def head.tw14969872817325187116:=G
def head.tw10812213935944405949:=G
def head.tw14364637388885140079:=G
def head.tw6588589085864783938:=G
def head.tw1618804561499322139:=G
def head.tw1272635626206103303:=G
def head.tw946586880256125082:=G
def head.tw2800570052845255841:=G
def head.tw2624612372273768290:=G
def head.tw12682429181067543257:=G
def head.tw532055438628499158:=G
def head.tw3659646283403374670:=G
def head.tw11005904730967762025:=G
def head.tw16474958459275807246:=G
def head.tw4073432952366045084:=G
def head.tw8569104457590258164:=G
def head.tw6202622434921078099:=G
def head.tw17275705279478898512:=G
def head.tw3186774066764743411:=G
def head.tw6307057079134178644:=G
def head.tw9082462177598256812:=G
def head.tw2588942769649879372:=G
def head.tw8986584353136017204:=G
def head.tw4377270945021899497:=G
def head.tw2702013520673333137:=G
def head.tw4204582355921727053:=G
def head.tw7273171245171862726:=G
def head.tw3453547403478019728:=G
def head.tw2857895335220236748:=G
def head.tw1211024037004892549:=G
def head.tw10519217271611395807:=G
def head.tw8100529080337985053:=G
def head.tw14746898714274692784:=G
def head.tw3307856608211204613:=G
def head.tw14234965402570480558:=G
def head.tw10105583180162433683:=G
def head.tw17993767162375566018:=G
def head.tw3127049524044150859:=G
def head.tw17190349231170142043:=G
def head.tw1425459126675767727:=G
def head.tw7450023128482652576:=G
def head.tw3368030927266983236:=G
def head.tw300626226527484142:=G
def head.tw13277643439714857746:=G
def head.tw12908475990344208633:=G
def head.tw12212823987433534256:=G
def head.tw262713603470380999:=G
def head.tw6507506987150044280:=G
def head.tw12903917746401883607:=G
def head.tw10070411193226618655:=G
def head.tw976808484645153763:=G
def head.tw9820158181544301314:=G
def head.tw5697773043789114877:=G
def head.tw2237326684586592538:=G
def head.tw12330954535739239725:=G
def head.tw17411354535832351560:=G
def head.tw12037728316022314418:=G
def head.tw8838475285390394957:=G
def head.tw5979114513331590134:=G
def head.tw10205530081349824492:=G
def head.tw4489203361448125431:=G
def head.tw6342581108930332356:=G
def head.tw16272097951300814418:=G
def head.tw9030979908501067730:=G
def head.tw7940748693946456147:=G
def head.tw533756555076263647:=G
def head.tw17577399041416155939:=G
def head.tw5064764789634828332:=G
def head.tw4746297304354101679:=G
def head.tw3688799982635324794:=G
def head.tw18277060748420158845:=G
def head.tw12834788339754589683:=G
def head.tw7712916153251135833:=G
def head.tw6216518314043141356:=G
def head.tw12799616582074740251:=G
def head.tw13637325136056909300:=G
def head.tw17188972718952451159:=G
def head.tw7906546307943345882:=G
def head.tw11274228538900641214:=G
def head.tw1910288253611546199:=G
def head.tw315434073420411817:=G
def head.tw1687793838685487538:=G
def head.tw2760189568479381244:=G
def head.tw9103479521544129834:=G
def head.tw5508695066786827253:=G
def head.tw13896987355042952010:=G
def head.tw5865467396996320769:=G
def head.tw14205479233844494046:=G
def head.tw15399148058966210843:=G
def head.tw6100774026682323163:=G
def head.tw15520248196984853422:=G
def head.tw5392078452651409485:=G
def head.tw1643771367246577777:=G
def head.tw9114333099845857663:=G
def head.tw697593947973469745:=G
def head.tw6079359036626576793:=G
def head.tw742351954350328859:=G
def head.tw1414592758211122379:=G
def head.tw17725469503822016867:=G
def head.tw16695014060947850149:=G
def head.tw10307130028497402462:=G
def head.tw12695399030622205104:=G
def head.tw11893822550167381502:=G
def head.tw8041981036286801607:=G
def head.tw1593561654347908568:=G
def head.tw17784925447008408576:=G
def head.tw2597577878174793632:=G
def head.tw10706776884845955466:=G
def head.tw6604829842348296887:=G
def head.tw778927853757940227:=G
def head.tw17037872496334206203:=G
def head.tw7046380642943354848:=G
def head.tw4973224433832344683:=G
def head.tw10840385229135970747:=G
def head.tw17658000642845759554:=G
def head.tw1748456618969930982:=G
def head.tw3404819636646143723:=G
def head.tw10265929125382437317:=G
def head.tw15064752311394979489:=G
def head.tw5506250874072839755:=G
def head.tw5906241406904858968:=G
def head.tw7156519585557434892:=G
def head.tw1995287165650055613:=G
def head.tw4330215655383310121:=G
def head.tw8093062688287402578:=G
def head.tw10730805705081004914:=G
def head.tw17784522201281872271:=G
def head.tw4142019850904089934:=G
def head.tw13673146470031054802:=G
def head.tw5844781237557850387:=G
def head.tw18332285231265401824:=G
def head.tw18051680202136193954:=G
def head.tw16894561301568121468:=G
def head.tw7833285031277912329:=G
def head.tw10005452208157733855:=G
def head.tw1155926839051525531:=G
def head.tw10066793327743970655:=G
def head.tw16640130746408290383:=G
def head.tw6903330171164945697:=G
def head.tw2781723093108153277:=G
def head.tw2441957057352720082:=G
def head.tw5658499677264881363:=G
def head.tw7582878936473852414:=G
def head.tw3615648651819825313:=G
def head.tw1620002657737552111:=G
def head.tw8097174177036852075:=G
def head.tw18165431152234640623:=G
def head.tw7421959067914383049:=G
def head.tw4433315090154635215:=G
def head.tw4965378191221513410:=G
def head.tw15296082917334920728:=G
def head.tw10898857373019930491:=G
def head.tw16922147877168347812:=G
def head.tw5172421753618935790:=G
def head.tw7805308653706644653:=G
def head.tw4652900348082922388:=G
def head.tw733406405333840765:=G
def head.tw5725584637647431893:=G
def head.tw17821319399108415887:=G
def head.tw10845400790151957771:=G
def head.tw17332727794074296334:=G
def head.tw11402027661713467040:=G
def head.tw12084453891678590660:=G
def head.tw1832916270232011604:=G
def head.tw16847831306532103052:=G
def head.tw15253147559959296200:=G
def head.tw6490296386705211140:=G
def head.tw6635253140682857568:=G
def head.tw90575161674971029:=G
def head.tw792300799171563205:=G
def head.tw9718778162690014751:=G
def head.tw11426403942048686318:=G
def head.tw18192872963121912645:=G
def head.tw12371566548271132015:=G
def head.tw7459580235894062507:=G
def head.tw11296743742662292762:=G
def head.tw9318794584737855082:=G
def head.tw11338825007792423415:=G
def head.tw16984083398119652359:=G
def head.tw2154566216772986472:=G
def head.tw14330330676051879864:=G
def head.tw12601080634535202701:=G
def head.tw14298870565391678703:=G
def head.tw6260244149815935644:=G
def head.tw14699756766385990792:=G
def head.tw4543076655600059902:=G
def head.tw8773370040425892893:=G
def head.tw5080737588221150853:=G
def head.tw6585138550035349233:=G
def head.tw5987550445186205895:=G
def head.tw12870424476946447624:=G
def head.tw4693820183103290663:=G
def head.tw16470739840699324481:=G
def head.tw5182153607120983317:=G
def head.tw12147184966966947637:=G
def head.tw1278535851000159372:=G
def head.tw12249523057431388528:=G
def head.tw7604411431414283762:=G
def head.tw2625984366357065906:=G
def head.tw9823536610671039419:=G
def head.tw13379354915994877463:=G
def head.tw1764952784847918493:=G
def head.tw16655686763229125670:=G
def head.tw9495540839478616804:=G
def head.tw8497721794823489343:=G
def head.tw2393098407364606883:=G
def head.tw3547240966391284428:=G
def head.tw15582730294447300881:=G
def head.tw9142320679590124636:=G
def head.tw12043669396524033845:=G
def head.tw4691952243595246448:=G
def head.tw15978427065635505109:=G
def head.tw14388854757726765883:=G
def head.tw15832300201269216667:=G
def head.tw17348764703882912863:=G
def head.tw9515422150858430662:=G
def head.tw2825341998796452840:=G
def head.tw5346772772824661884:=G
def head.tw2976249973925969801:=G
def head.tw6850726384951132292:=G
def head.tw17287069475806534740:=G
def head.tw15215111219801757744:=G
def head.tw3390878434225100092:=G
def head.tw9601497413559074677:=G
def head.tw5111550220656817904:=G
def head.tw4692888973056910177:=G
def head.tw13198292447841614426:=G
def head.tw5195771902682577575:=G
def head.tw2401673296934814795:=G
def head.tw290710125855613696:=G
def head.tw11544532188706048022:=G
def head.tw2007852463679175192:=G
def head.tw15841401105113185080:=G
def head.tw10018764681926925449:=G
def head.tw13868347639449504327:=G
def head.tw16894197260953374720:=G
def head.tw4176204533620912855:=G
def head.tw9464831228461672588:=G
def head.tw6110071263904590700:=G
def head.tw1693818546310300448:=G
def head.tw890905387884194350:=G
def head.tw6379358179555706155:=G
def head.tw1792277464101229681:=G
def head.tw6562009823351158392:=G
def head.tw9074772780463953568:=G
def head.tw7287109101882759415:=G
def head.tw9083612298779875492:=G
def head.tw6526830475164118762:=G
def head.tw16845296645482713644:=G
def head.tw8182465387277545410:=G
def head.tw5187041380464763778:=G
def head.tw11569059112243386080:=G
def head.tw3991279037241028524:=G
def head.tw9702098958229961203:=G
def head.tw10194989555262221044:=G
def head.tw999222835498014148:=G
def head.tw17769433529836712537:=G
def head.tw9283198456625565208:=G
def head.tw2764016085172604524:=G
def head.tw8216834362191484069:=G
def head.tw6638625709723660006:=G
def head.tw15873191416987729925:=G
def head.tw7272792461964422541:=G
def head.tw1056085985882870562:=G
def head.tw18080951475816111786:=G
def head.tw11255790879490906821:=G
def head.tw3333069708870698940:=G
def head.tw6581712109270413358:=G
def head.tw13294958713779813728:=G
def head.tw14943480678444902952:=G
def head.tw3604701254548876123:=G
def head.tw12822298378996975857:=G
def head.tw12324890628731678277:=G
def head.tw17486074103640542121:=G
def head.tw9214367901419015226:=G
def head.tw2581250870941146908:=G
def head.tw16714887947964762639:=G
def head.tw14959218684248593190:=G
def head.tw5915552362696249034:=G
def head.tw3254172550106833301:=G
def head.tw4063747431996464497:=G
def head.tw14417885227837004991:=G
def head.tw8546719886708726068:=G
def head.tw11692735721529064706:=G
def head.tw5038994553942263901:=G
def head.tw9613649512242289415:=G
def head.tw2249667046024356820:=G
def head.tw3500380475922496097:=G
def head.tw7704315382344345624:=G
def head.tw14112020806712329415:=G
def head.tw9186546921256032858:=G
def head.tw6544681653968885310:=G
def head.tw10021064610941686981:=G
def head.tw5515381820778694223:=G
def head.tw7179252675378151715:=G
def head.tw7277520189549225825:=G
def head.tw16888070154925205155:=G
def head.tw18095809974233413182:=G
def head.tw2250686904917368756:=G
def head.tw15330342782969278459:=G
def head.tw1291722185910714397:=G
def head.tw2336085555427514152:=G
def head.tw10261356005730403935:=G
def head.tw3088210815446039105:=G
def head.tw3898573915619166781:=G
def head.tw3618040419372981184:=G
def head.tw16545597347906280737:=G
def head.tw12741294794224977040:=G
def head.tw17789423225533864492:=G
def head.tw86301839051661876:=G
def head.tw8704771223992077307:=G
def head.tw1894759731626308040:=G
def head.tw18177109656662797139:=G
def head.tw1971652810694446911:=G
def head.tw15676425527210111115:=G
def head.tw7596824489109172434:=G
def head.tw13906610036690215845:=G
def head.tw4673441458371412756:=G
def head.tw16997897962222511:=G
def head.tw18419137052163196841:=G
def head.tw17836618258811950860:=G
def head.tw2350586252961548244:=G
def head.tw12727220549172885185:=G
def head.tw15035418422258542911:=G
def head.tw1489404036187247834:=G
def head.tw5944183977427860380:=G
def head.tw16172288393029767808:=G
def head.tw9983174893691179580:=G
def head.tw7575806435727305068:=G
def head.tw15735840784391694233:=G
def head.tw16106133796442146334:=G
def head.tw7835671542029378175:=G
def head.tw12763952150808568291:=G
def head.tw6846866878297920324:=G
def head.tw13379202705063549618:=G
def head.tw10389290468125465742:=G
def head.tw3700403586152167814:=G
def head.tw3696042808614700290:=G
def head.tw9701577420580846637:=G
def head.tw693309671712327132:=G
def head.tw3880867118405822719:=G
def head.tw9353324838224930552:=G
def head.tw3027932573228621659:=G
def head.tw8062929857114545703:=G
def head.tw9717200733822644074:=G
def head.tw5141578139466067413:=G
def head.tw17142359554024780413:=G
def head.tw13972584319120212772:=G
def head.tw8549075639274686408:=G
def head.tw5764021196749891206:=G
def head.tw15666658371737129944:=G
def head.tw1985537357303476512:=G
def head.tw15682741785845805564:=G
def head.tw15898970277018273793:=G
def head.tw2525317073905713282:=G
def head.tw13357441389134331599:=G
def head.tw12723833596933988784:=G
def head.tw3212073173673764245:=G
def head.tw18328473556755899883:=G
def head.tw17788742646020836255:=G
def head.tw8778822858392976504:=G
def head.tw1714602735852981970:=G
def head.tw11904684991359361074:=G
def head.tw1050551135032985961:=G
def head.tw17525636777796739105:=G
def head.tw12364624919760631829:=G
def head.tw2876011056497122456:=G
def head.tw5353729903917744248:=G
def head.tw9258293945399652946:=G
def head.tw12095829319087573521:=G
def head.tw9449176361245260279:=G
def head.tw15317023959539522800:=G
def head.tw1914692607248247194:=G
def head.tw17994261503862256477:=G
def head.tw7734086686654790897:=G
def head.tw16169396229317227677:=G
def head.tw5651425540991249520:=G
def head.tw10356212845559719233:=G
def head.tw5418945672586834282:=G
def head.tw15127644999133008818:=G
def head.tw2654071559806073891:=G
def head.tw1756991915124769162:=G
def head.tw3364305129493290686:=G
def head.tw467416434755642258:=G
def head.tw16546490078704341612:=G
def head.tw1134157569726261602:=G
def head.tw4053978428183960486:=G
def head.tw3928599903575798129:=G
def head.tw2591067827882107080:=G
def head.tw5438144065070405397:=G
def head.tw4885112425497105109:=G
def head.tw3715144110773694964:=G
def head.tw604627371996746742:=G
def head.tw6595020158993437323:=G
def head.tw2096541523181747872:=G
def head.tw6595276589069765893:=G
def head.tw3089916443595474862:=G
def head.tw14578736019699128564:=G
def head.tw2066564036433440168:=G
def head.tw2864405669816312776:=G
def head.tw13801937863458859944:=G
def head.tw907359911958329709:=G
def head.tw2393937325987436248:=G
def head.tw6298033893332097587:=G
def head.tw17889261914703972767:=G
def head.tw6157079530059567975:=G
def head.tw9867840190021597282:=G
def head.tw380116879960591498:=G
def head.tw16472945084836616533:=G
def head.tw3973953319845086491:=G
def head.tw14969395210118534408:=G
def head.tw11289835788462762251:=G
def head.tw14909605222495392915:=G
def head.tw17595797816247731874:=G
def head.tw12875325457547866274:=G
def head.tw3905473140642603811:=G
def head.tw6836605351468522007:=G
def head.tw14531177953140590962:=G
def head.tw15305915472762889579:=G
def head.tw4576125674228380541:=G
def head.tw17698105195316432488:=G
def head.tw11849420070602536199:=G
def head.tw14969385696402013904:=G
def head.tw7404141018258913797:=G
def head.tw1398043889541792783:=G
def head.tw7599496313472250701:=G
def head.tw5015311536963163689:=G
def head.tw16579250180923337425:=G
def head.tw16078238667976319046:=G
def head.tw3040085230504974413:=G
def head.tw15039987702171664376:=G
def head.tw12182850187970735909:=G
def head.tw5210181285589595013:=G
def head.tw17238610979035211840:=G
def head.tw15924019268735266097:=G
def head.tw1589604171197086961:=G
def head.tw16446913148795680959:=G
def head.tw17052544337092648970:=G
def head.tw14615432700455777464:=G
def head.tw10400636543074173776:=G
def head.tw140066278072042493:=G
def head.tw11484358847640170188:=G
def head.tw7523532297153676066:=G
def head.tw11268529262604976462:=G
def head.tw5870146547769353613:=G
def head.tw17854896373637125580:=G
def head.tw16111715859725283846:=G
def head.tw2172669909848549399:=G
def head.tw13381877923881390905:=G
def head.tw9746458257258439470:=G
def head.tw16974685034882416825:=G
def head.tw18260194641540637818:=G
def head.tw12697363177648460179:=G
def head.tw16166440364842034014:=G
def head.tw6889739017440866108:=G
def head.tw12264792733140247891:=G
def head.tw4381510469713062047:=G
def head.tw14512941343882779238:=G
def head.tw17541063381433097499:=G
def head.tw14956371261235936329:=G
def head.tw67086481866811729:=G
def head.tw16175233474957185256:=G
def head.tw18176413224385145225:=G
def head.tw8185714761375850791:=G
def head.tw16903022960794457021:=G
def head.tw17007033763367706731:=G
def head.tw1499353310998574721:=G
def head.tw2753283235347674219:=G
def head.tw12205659690895024086:=G
def head.tw15181326774706428367:=G
def head.tw5129616035191883695:=G
def head.tw7928285938522686346:=G
def head.tw17783093436913651231:=G
def head.tw4976181008148175253:=G
def head.tw14277528927401260903:=G
def head.tw12865059321931465230:=G
def head.tw7960053054240918295:=G
def head.tw3644226017259064516:=G
def head.tw10010264046613662565:=G
def head.tw4834694072379752904:=G
def head.tw4419558321834357505:=G
def head.tw13065621461132903086:=G
def head.tw15392136045813129965:=G
def head.tw3942004810282270783:=G
def head.tw7218757217702219634:=G
def head.tw17008234436448823602:=G
def head.tw14061139507663348314:=G
def head.tw1061700454162486011:=G
def head.tw3496171461512900480:=G
def head.tw2879759524354350568:=G
def head.tw1472379273497163797:=G
def head.tw5096742575497195690:=G
def head.tw4874392174073282168:=G
def head.tw5092371620264689978:=G
def head.tw16495435189000846180:=G
def head.tw18014224886719972007:=G
def head.tw15468718075485040107:=G
def head.tw4945251732147069371:=G
def head.tw5013180600929471838:=G
def head.tw4235852798576303577:=G
def head.tw1642545813376747948:=G
def head.tw13689084217373910675:=G
def head.tw15112835437128306455:=G
def head.tw9325123708862168440:=G
def head.tw6474009502463322548:=G
def head.tw4005429485061764775:=G
def head.tw13295082483830516422:=G
def head.tw5950005786790840295:=G
def head.tw10504981510240967646:=G
def head.tw10128820837102578890:=G
def head.tw15142167089309388077:=G
def head.tw6957451863341949609:=G
def head.tw1062042127530464391:=G
def head.tw16415787539773345739:=G
def head.tw709382114072422158:=G
def head.tw18331532914195504034:=G
def head.tw6925956493692337269:=G
def head.tw3083302935323014018:=G
def head.tw1858285994304674589:=G
def head.tw10457615780465708087:=G
def head.tw3185377453876500656:=G
def head.tw7743085818281968155:=G
def head.tw1766074496371839085:=G
def head.tw6684978435548883818:=G
def head.tw3014165967379819670:=G
def head.tw9575541623215731522:=G
def head.tw12201952087667049370:=G
def head.tw6707741374960958295:=G
def head.tw1214346256449528893:=G
def head.tw15638870477510070732:=G
def head.tw9280153536138602973:=G
def head.tw3749026756887285471:=G
def head.tw13631071318896544983:=G
def head.tw13397106695672350980:=G
def head.tw7789450098604059249:=G
def head.tw14158537116620707164:=G
def head.tw3794523003379204399:=G
def head.tw11628534518673281344:=G
def head.tw7396500232308049434:=G
def head.tw10242447542790323104:=G
def head.tw3290047583113660281:=G
def head.tw18310999140377845807:=G
def head.tw12841863872788715202:=G
def head.tw14631306762972528136:=G
def head.tw6521490308693473283:=G
def head.tw5380383263664398348:=G
def head.tw2821592275122389253:=G
def head.tw14344768424176206936:=G
def head.tw4387028780061031483:=G
def head.tw3715584954343283195:=G
def head.tw7846308304327970078:=G
def head.tw1786199778172832133:=G
def head.tw6602476347957198060:=G
def head.tw14149492867418468938:=G
def head.tw1976755195193171425:=G
def head.tw6518409114910312394:=G
def head.tw7096138990903361605:=G
def head.tw9407018640678226955:=G
def head.tw9288050873123518607:=G
def head.tw6184577078925756225:=G
def head.tw9368406320212774489:=G
def head.tw6587087628758450585:=G
def head.tw3021114989795446570:=G
def head.tw8796753266530204203:=G
def head.tw7392004362435642628:=G
def head.tw4154363929692500862:=G
def head.tw6212921109956642855:=G
def head.tw7417405269818204032:=G
def head.tw8299393411229908732:=G
def head.tw12344544660321961925:=G
def head.tw1904360653210494845:=G
def head.tw17017319662998615:=G
def head.tw3378163378860332797:=G
def head.tw11194998557105285118:=G
def head.tw13999681649124312864:=G
def head.tw17850378814381688901:=G
def head.tw12472887615940459650:=G
def head.tw14657087346269029639:=G
def head.tw17573037796337583832:=G
def head.tw14168692526580214153:=G
def head.tw5479459121986351116:=G
def head.tw10128390137947593754:=G
def head.tw13017206433863751270:=G
def head.tw13954853420313727417:=G
def head.tw18164835968555783806:=G
def head.tw15225242498421095992:=G
def head.tw2366605209839970157:=G
def head.tw12949380547846470161:=G
def head.tw6931653728971238233:=G
def head.tw780477332936465449:=G
def head.tw7309950759910210094:=G
def head.tw3665506230870052707:=G
def head.tw5250025526955580050:=G
def head.tw16441004959143088680:=G
def head.tw12242153458792446204:=G
def head.tw3244951577380529755:=G
def head.tw4947412792043415962:=G
def head.tw8895791426145780158:=G
def head.tw2342417691235652057:=G
def head.tw15248001044337979736:=G
def head.tw2599346099135257874:=G
def head.tw3512634313551410195:=G
def head.tw13086575352542018947:=G
def head.tw3616486834168423931:=G
def head.tw17156091980717111821:=G
def head.tw8234971438303653646:=G
def head.tw4407807290196491609:=G
def head.tw13335025841360890868:=G
def head.tw7876399200375917224:=G
def head.tw203279951241792120:=G
def head.tw6857890620306548900:=G
def head.tw15604011560834605598:=G
def head.tw9101448428047585222:=G
def head.tw6343081548495622777:=G
def head.tw14982685227137828758:=G
def head.tw13800718416732639697:=G
def head.tw10521553517811329670:=G
def head.tw4357005996527412928:=G
def head.tw16172356507618199906:=G
def head.tw1389810093214676884:=G
def head.tw18215824643853355119:=G
def head.tw10170068340998493759:=G
def head.tw2529948359932261575:=G
def head.tw16385634705727604063:=G
def head.tw13213268828098156179:=G
def head.tw12328230846540189838:=G
def head.tw8529957113489857691:=G
def head.tw3859398291796969178:=G
def head.tw1276956409769668328:=G
def head.tw13697588214506672789:=G
def head.tw17905491414393134947:=G
def head.tw16530349751119242087:=G
def head.tw15506723302920939300:=G
def head.tw12795389718870424448:=G
def head.tw8187629637223713605:=G
def head.tw11732908120936727654:=G
def head.tw7090939061502383884:=G
def head.tw5111174896325423537:=G
def head.tw16821450928103126590:=G
def head.tw1917425121527220963:=G
def head.tw17890245599415353634:=G
def head.tw17265401458761052179:=G
def head.tw17444863063712431705:=G
def head.tw9997931420998421608:=G
def head.tw17014415605687186514:=G
def head.tw1506576300011279404:=G
def head.tw9987851973559822609:=G
def head.tw2797894973233656403:=G
def head.tw14427283581363961175:=G
def head.tw18100283295969611417:=G
def head.tw17768545326873755256:=G
def head.tw15204471325056678010:=G
def head.tw17508272824862286709:=G
def head.tw5996384718915585738:=G
def head.tw16894393574925625578:=G
def head.tw11180365069992382532:=G
def head.tw6121141971511671821:=G
def head.tw16871623187472473471:=G
def head.tw17024340208454683379:=G
def head.tw11629762434490789354:=G
def head.tw12032222614953749359:=G
def head.tw1463646239528298992:=G
def head.tw14306030232151103276:=G
def head.tw9743709737119245314:=G
def head.tw12856577281151766611:=G
def head.tw16278871845796110771:=G
def head.tw8626486368039343599:=G
def head.tw4607607821588926596:=G
def head.tw17975491588444890076:=G
def head.tw8172283286065499403:=G
def head.tw14059167943309011982:=G
def head.tw9213911765573242809:=G
def head.tw13381936622781507537:=G
def head.tw3547030090768783262:=G
def head.tw5797013207949663412:=G
def head.tw3468014072342718959:=G
def head.tw11714945338242495837:=G
def head.tw14565420633037775528:=G
def head.tw15253846138512369154:=G
def head.tw12851702773856589430:=G
def head.tw9325057278558614444:=G
def head.tw11820730986300896962:=G
def head.tw9894326130215728876:=G
def head.tw15022480046535758418:=G
def head.tw17988201657351507238:=G
def head.tw14086173767186703872:=G
def head.tw1673358830478937286:=G
def head.tw15410735652082386980:=G
def head.tw2203363585012173787:=G
def head.tw14083850284487924763:=G
def head.tw14679116673082234219:=G
def head.tw8382746154173761051:=G
def head.tw11613311375368785083:=G
def head.tw17700853532424174462:=G
def head.tw12799966317143952679:=G
def head.tw16072502192527678464:=G
def head.tw1146124256749630112:=G
def head.tw14637134836413734856:=G
def head.tw14127983276867164173:=G
def head.tw11540487432870637733:=G
def head.tw14999265807660949796:=G
def head.tw11808996689058197189:=G
def head.tw13664066127859960707:=G
def head.tw9196398404247428943:=G
def head.tw2518057956044344595:=G
def head.tw9171846695823722306:=G
def head.tw14643959010103036307:=G
def head.tw7688317290187622652:=G
def head.tw14842460003800876886:=G
def head.tw1919890906376249811:=G
def head.tw16782820856776367440:=G
def head.tw10900948863051656163:=G
def head.tw7661765248129044261:=G
def head.tw9716329373054682134:=G
def head.tw3514389088698752745:=G
def head.tw8618353936845011185:=G
def head.tw2232109503444375002:=G
def head.tw14429822130985059091:=G
def head.tw13353151263460963528:=G
def head.tw17050696954950088759:=G
def head.tw15095179193122606544:=G
def head.tw7992697801930647134:=G
def head.tw9354026244260953042:=G
def head.tw17047625674926534286:=G
def head.tw6133374836822340032:=G
def head.tw1966224132733831507:=G
def head.tw10748227973586771634:=G
def head.tw901981809397154078:=G
def head.tw11097941207591946120:=G
def head.tw13988103294471073821:=G
def head.tw739537129135343663:=G
def head.tw3691970784448789093:=G
def head.tw13315729282080922261:=G
def head.tw9145527808636388435:=G
def head.tw9380374249521086144:=G
def head.tw15149402430504572791:=G
def head.tw8408249889716310983:=G
def head.tw15782939476341012554:=G
def head.tw5707341947614518954:=G
def head.tw14393718171448925343:=G
def head.tw15263674166054382079:=G
def head.tw9909477652473797434:=G
def head.tw15452280279296900796:=G
def head.tw9564218140379066381:=G
def head.tw13932022402069264104:=G
def head.tw1858156416291392539:=G
def head.tw10872037306656784433:=G
def head.tw16917608666046251313:=G
def head.tw10948677003083999065:=G
def head.tw6247268493268985975:=G
def head.tw1909714482019496454:=G
def head.tw7758381527925395934:=G
def head.tw13510609219080548989:=G
def head.tw11746322868699689195:=G
def head.tw3171451927456968151:=G
def head.tw2123727595537733498:=G
def head.tw5319049981483164881:=G
def head.tw13955511503576765797:=G
def head.tw11680266561614322678:=G
def head.tw578259024812056932:=G
def head.tw11124748197601291601:=G
def head.tw10875119458065257276:=G
def head.tw14432977821161478157:=G
def head.tw16604199759994364997:=G
def head.tw2491421050496283774:=G
def head.tw3321875119742208626:=G
def head.tw14385403278947933607:=G
def head.tw708152393587867187:=G
def head.tw17553620660974883448:=G
def head.tw14492117785962260688:=G
def head.tw1937370526825066196:=G
def head.tw16226220715811633075:=G
def head.tw5129340602016612638:=G
def head.tw5363715690607933:=G
def head.tw1522823579158628613:=G
def head.tw9682625523605357890:=G
def head.tw5061997093462229610:=G
def head.tw14280341213815191119:=G
def head.tw1519320592345488741:=G
def head.tw14220653579789841498:=G
def head.tw8409189969818401543:=G
def head.tw8988664977312594650:=G
def head.tw1318689175770300589:=G
def head.tw7119846925741900413:=G
def head.tw5593727005144783397:=G
def head.tw11724780754615379514:=G
def head.tw545888858418189544:=G
def head.tw17608190574486352970:=G
def head.tw14078167904914714981:=G
def head.tw8414573866900348196:=G
def head.tw5487235932777146282:=G
def head.tw6522505103286579628:=G
def head.tw9234455393454914656:=G
def head.tw4932745802714450591:=G
def head.tw4974585842098243178:=G
def head.tw7044984988248179734:=G
def head.tw15656768269340197940:=G
def head.tw15250023729529759990:=G
def head.tw17304152732226823993:=G
def head.tw15261487228862047745:=G
def head.tw1588943658860677225:=G
def head.tw9625377726130185387:=G
def head.tw4311042196063409733:=G
def head.tw2400818531096893172:=G
def head.tw17262968490309938674:=G
def head.tw2260579728952749127:=G
def head.tw17362218986543327160:=G
def head.tw7732209734871044160:=G
def head.tw6174258528820157971:=G
def head.tw14631705268626504575:=G
def head.tw10786079294511566085:=G
def head.tw6737735255597943219:=G
def head.tw9202431907968578930:=G
def head.tw5467695095851852608:=G
def head.tw5973763720392745831:=G
def head.tw5638995163158488052:=G
def head.tw18397145594500292201:=G
def head.tw15736342250582547807:=G
def head.tw10059252607514160932:=G
def head.tw1438866918597655640:=G
def head.tw2343260813663018654:=G
def head.tw12214093580764582487:=G
def head.tw5828396151639600029:=G
def head.tw14703595242269399205:=G
def head.tw11060938730435951684:=G
def head.tw15326552575505426906:=G
def head.tw10865165270600546614:=G
def head.tw6640010369347007910:=G
def head.tw7150722627226208844:=G
def head.tw18416563613846182222:=G
def head.tw3264716943610762504:=G
def head.tw3863384581746538084:=G
def head.tw5104563664521345299:=G
def head.tw12581593161143036515:=G
def head.tw763314674957123698:=G
def head.tw13180129090757240718:=G
def head.tw807142644699662319:=G
def head.tw6968674436765558698:=G
def head.tw17243387458012846398:=G
def head.tw18282902561792777199:=G
def head.tw16332062296072025786:=G
def head.tw6240353410654795137:=G
def head.tw1212124681294104184:=G
def head.tw14643560169476415855:=G
def head.tw11636873012791513418:=G
set_option maxHeartbeats 0 in
set_option tactic.hygienic true in
theorem head:PySem.Challenge.rw_kl0403_01.Holds:=by
 (w_on;o_law;k_head;(case hw=>w_witness2))
 k_fill
 intro w cT ag mg mb G Y fa o pm cd doc dV kV ho hd SO hD Vq hg args vals as Se Sf Vr Vs Vt;have KX:=kIn_of Y;have U:∀p l mg mb,MF (gK (head.heap_1_39 w.params) w p l mg mb)∧cG (gK (head.heap_1_39 w.params) w p l mg mb) 793 nZ ["script"]:=by
  intro p l mg mb;have Si:xa (head.heap_1_39 w.params) 80 yy ["cls","args","kwargs"]:=by constructor <;> kernel_rfl
  have aL:eG (gK (head.heap_1_39 w.params) w p l mg mb) nR:=by repeat' first | kernel_rfl | exact all_nil | refine all_cons (fld ?_ ?_ ?_) ?_
  have aM:eG (gK (head.heap_1_39 w.params) w p l mg mb) Oi:=by repeat' first | kernel_rfl | exact all_nil | refine all_cons (TK ?_ ?_ ?_) ?_ | refine all_cons (Vp ?_ ?_ ?_ ?_ ?_ ?_) ?_
  have aI:eG (gK (head.heap_1_39 w.params) w p l mg mb) my:=by repeat' first | kernel_rfl | exact all_nil | refine all_cons (fld ?_ ?_ ?_) ?_ | refine all_cons (TK ?_ ?_ ?_) ?_
  have sI:Sets (gK (head.heap_1_39 w.params) w p l mg mb) qc:=by repeat' first | kernel_rfl | exact all_nil | refine all_cons ⟨?_,?_,?_,?_⟩ ?_
  have sL:Sets (gK (head.heap_1_39 w.params) w p l mg mb) nR:=by repeat' first | kernel_rfl | exact all_nil | refine all_cons ⟨?_,?_,?_,?_⟩ ?_
  have nG:∀e∈Ea,∃u,e.2=.glob u∧b6 (gK (head.heap_1_39 w.params) w p l mg mb) e.1 u:=by
   iterate 12 refine all_cons (TH (by kernel_rfl)) ?_
   refine all_cons (TJ (by kernel_rfl) (by kernel_rfl) (by kernel_rfl)) ?_
   iterate 4 refine all_cons (TH (by kernel_rfl)) ?_
   iterate 8 refine all_cons (TJ (by kernel_rfl) (by kernel_rfl) (by kernel_rfl)) ?_
   exact all_nil
  have nB:∀e∈Hz,b6 (gK (head.heap_1_39 w.params) w p l mg mb) e.1 (jY e.2):=by
   iterate 6 refine all_cons (.inr ⟨by kernel_rfl,by kernel_rfl,by decide⟩) ?_
   exact all_nil
  refine ⟨⟨⟨⟨nG,nB⟩,aI,sI,⟨?_,?_,?_,?_,⟨TL (head.heap_1_39 w.params),O5 (head.heap_1_39 w.params) (TL (head.heap_1_39 w.params)) "staticmethod",?_,?_⟩,?_,?_,?_,⟨λb t=>?_,λb t=>?_⟩,λtx=>⟨⟨_,_,Si.at_,Si.scope,Si.par,.star λu v=>by kernel_rfl⟩⟩,λtx=>xa.more (T:=350) (ds:=[.str [10]]) (more:=[.str (Str.ofString "\n") 671]) (by constructor <;> kernel_rfl) (by constructor <;> kernel_rfl) rfl (λv=>by kernel_rfl) λz z=>.cons (.str _ _ (by decide)) .nil,?_,.k ?_⟩,⟨λe m=>(List.mem_append.mp m).elim (aL e) (aM e),sL,⟨?_,?_,?_,?_,?_,?_,?_⟩,⟨587,eJ (head.heap_1_39 w.params) 587,?_,by decide⟩,?_,?_,?_,?_,xa.dflt (T:=639) (by constructor <;> kernel_rfl) (by constructor <;> kernel_rfl) λv=>by kernel_rfl,.k ?_⟩⟩,⟨?_,?_,?_,xa.dflt (T:=526) (by constructor <;> kernel_rfl) (by constructor <;> kernel_rfl) λv=>by kernel_rfl,xa.more (T:=534) (ds:=[.int (-1)]) (more:=[.int (-1) 875]) (by constructor <;> kernel_rfl) (by constructor <;> kernel_rfl) rfl (λv=>by kernel_rfl) λz z=>.cons (.int _ _) .nil,?_⟩,?_,?_,?_,?_,?_,?_,?_,?_,?_,?_,?_⟩,?_⟩
  all_goals first | kernel_rfl | exact xa.plain (by constructor <;> kernel_rfl) λv=>by kernel_rfl
 refine Ground.open G ?_
 intro T B D TE TW
 wrow_args Se Sf Vr Vs Vt
 rename_i ns _ _ _ _ _ _ _ a vs _ hL _ _ _ hI _ hn _;have hf:=mg_of (K:=head.heap_1_39 w.params) KX T.g (show nsIn (head.heap_1_39 w.params) mainGlobals "law"=some (some (.ref 793)) by kernel_rfl);have hf:fa=793:=by have:=Vq.symm.trans hf;cases this;rfl
 subst hf;refine wpAny_mono (IB (g:=gK (head.heap_1_39 w.params) w _ _ mg mb) (U _ _ mg mb).1 (U _ _ mg mb).2 ⟨KX,topRead_of T⟩ hL hI (by omega)) (λv s' h=>?_) (λz z h=>h.elim);obtain ⟨rfl,h1,h2,h3⟩:=h;exact ⟨.inl ⟨_,.bool true,[],rfl,λz=>rfl,.bool _,by kernel_rfl,λz=>⟨.nil,λz m=>nomatch m⟩⟩,h1,h2,.of_eq (h3.trans hg)⟩
end Mine
theorem PySem.Challenge.cw_kl0403_01_holds : PySem.Challenge.rw_kl0403_01.Holds :=
 Mine.head
