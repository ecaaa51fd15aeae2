/- Merged texts of one proof. -/
import Derived.Test.YtnoppodfngkoeaaGreatM1
import Derived.KernelRfl
import Derived.Laws.StructEq
import Derived.Test.YtnoppodfngkoeaaGreatProg
set_option linter.unusedVariables false
set_option linter.unusedSimpArgs false
set_option maxRecDepth 20000
namespace Go.Proofs.YtnoppodfngkoeaaGreat
open Tryz Go.IntKind
namespace AL
open Go.RowKit
variable {P:Program} {C:dC}
def szA (P:Program) (t:TypeId):Option Nat:=(P.info? t).map (·.size)
def S (l:List UInt8):ByteArray:=⟨l.toArray⟩
theorem mkS (l:List UInt8):ByteArray.mk (List.toArray l)=S l:=rfl
theorem sK (l:List UInt8):(S l).size=l.length:=rfl
theorem aLa (a b:List UInt8):S a++S b=S (a++b):=by
 apply ByteArray.ext;simp[S]
theorem aD1 (l:List UInt8):(S l).toList=l:=by simp[S,ByteArray.toList_mk]
theorem aPY (l:List UInt8):(S l).data.toList=l:=rfl
theorem aJd (l:List UInt8) (i j:Nat):(S l).extract i j=S ((l.take j).drop i):=by
 apply ByteArray.ext;simp[S,List.drop_take]
abbrev vI (n:Int):AV:=.val (.int .i64 n)
abbrev vB (b:Bool):AV:=.val (.bool b)
abbrev vS (l:List UInt8):AV:=.val (.string (S l))
theorem aJ {n:Int} (h:-9223372036854775808≤n∧n≤9223372036854775807):IntKind.wrap .i64 n=n:=by
 obtain⟨h0,h1⟩:=h
 have hb:(IntKind.i64).bits=64:=rfl
 have hs:(IntKind.i64).signed=true:=rfl
 unfold IntKind.wrap
 rw[hb,hs]
 simp only[Bool.true_and,decide_eq_true_eq]
 split<;>omega
theorem wU8 {n:Int} (h:0≤n∧n≤255):IntKind.wrap .u8 n=n:=by
 obtain⟨h0,h1⟩:=h
 have hb:(IntKind.u8).bits=8:=rfl
 have hs:(IntKind.u8).signed=false:=rfl
 unfold IntKind.wrap
 rw[hb,hs]
 simp only[Bool.false_and,Bool.false_eq_true,if_false]
 omega
section
variable {t:TypeId} {xo yo:Operand} {k:IntKind} {a b:Int} {p q:Bool} {l l':List UInt8}
theorem aFN:cH P .add t xo yo (.val (.int k a)) (.val (.int k b))=some (.val (.int k (k.wrap (a+b)))):=by simp[cH,plain,aT,eqGuard,binOp,Op.intArith,bind,Sem.bind,pure]
theorem aFO:cH P .sub t xo yo (.val (.int k a)) (.val (.int k b))=some (.val (.int k (k.wrap (a-b)))):=by simp[cH,plain,aT,eqGuard,binOp,Op.intArith,bind,Sem.bind,pure]
theorem aFP:cH P .mul t xo yo (.val (.int k a)) (.val (.int k b))=some (.val (.int k (k.wrap (a*b)))):=by simp[cH,plain,aT,eqGuard,binOp,Op.intArith,bind,Sem.bind,pure]
theorem aFQ:cH P .quo t xo yo (.val (.int k a)) (.val (.int k b))=if b≠0 then some (.val (.int k (k.wrap (a.tdiv b)))) else none:=by
 by_cases h:b=0<;>simp[runtimePanic,program,goPanic,Sem.halt,h,cH,plain,aT,eqGuard,binOp,Op.intDiv,bind,Sem.bind,pure]
theorem aFR:cH P .rem t xo yo (.val (.int k a)) (.val (.int k b))=if b≠0 then some (.val (.int k (a.tmod b))) else none:=by
 by_cases h:b=0<;>simp[runtimePanic,program,goPanic,Sem.halt,h,cH,plain,aT,eqGuard,binOp,Op.intDiv,bind,Sem.bind,pure]
theorem aFS:cH P .eql t xo yo (.val (.int k a)) (.val (.int k b))=some (vB (decide (a=b))):=by simp[cH,plain,aT,eqGuard,binOp,Op.intCmp,bind,Sem.bind,pure];rfl
theorem aFT:cH P .neq t xo yo (.val (.int k a)) (.val (.int k b))=some (vB (!decide (a=b))):=by simp[cH,plain,aT,eqGuard,binOp,Op.intCmp,bind,Sem.bind,pure];rfl
theorem aFU:cH P .lss t xo yo (.val (.int k a)) (.val (.int k b))=some (vB (decide (a<b))):=by simp[cH,plain,aT,eqGuard,binOp,Op.intCmp,bind,Sem.bind,pure]
theorem aFV:cH P .leq t xo yo (.val (.int k a)) (.val (.int k b))=some (vB (decide (a≤b))):=by simp[cH,plain,aT,eqGuard,binOp,Op.intCmp,bind,Sem.bind,pure]
theorem aFW:cH P .gtr t xo yo (.val (.int k a)) (.val (.int k b))=some (vB (decide (b<a))):=by simp[cH,plain,aT,eqGuard,binOp,Op.intCmp,bind,Sem.bind,pure]
theorem aFX:cH P .geq t xo yo (.val (.int k a)) (.val (.int k b))=some (vB (decide (b≤a))):=by simp[cH,plain,aT,eqGuard,binOp,Op.intCmp,bind,Sem.bind,pure]
theorem aFY:cH P .add t xo yo (vS l) (vS l')=if l.length+l'.length≤9223372036854775807 then some (vS (l++l')) else none:=by
 have hm:IntKind.i64.max=9223372036854775807:=rfl
 by_cases h:l.length+l'.length≤9223372036854775807
 ·have:¬(((S l).size+(S l').size:Nat):Int)>IntKind.i64.max:=by rw[hm,sK,sK];omega
  simp only[cH,plain,eqGuard,binOp,Op.stringOp,if_neg this,aLa,if_pos h]
  rfl
 ·have:(((S l).size+(S l').size:Nat):Int)>IntKind.i64.max:=by rw[hm,sK,sK];omega
  simp only[cH,plain,eqGuard,binOp,Op.stringOp,if_pos this,if_neg h]
  rfl
theorem aD2:cH P .eql t xo yo (vS l) (vS l')=some (vB (decide (l=l'))):=by
 simp only[cH,plain,eqGuard,binOp,Op.stringOp,aD1]
 show some (AV.val (.bool (l==l')))=_
 have:(l==l')=decide (l=l'):=by by_cases h:l=l'<;>simp[h]
 rw[this]
theorem aD3:cH P .neq t xo yo (vS l) (vS l')=some (vB (!decide (l=l'))):=by
 simp only[cH,plain,eqGuard,binOp,Op.stringOp,aD1]
 show some (AV.val (.bool (!(l==l'))))=_
 have:(l==l')=decide (l=l'):=by by_cases h:l=l'<;>simp[h]
 rw[this]
theorem aJe:unV P .not (vB p)=some (vB (!p)):=by simp[unV,plain,aT,Op.unary,pure]
theorem aJf:unV P .neg (.val (.int k a))=some (.val (.int k (k.wrap (0-a)))):=by simp[unV,plain,aT,Op.unary,Op.intArith,pure]
def tR:Option TypeDesc→Bool
 |some (.interface _)=>true
 |_=>false
theorem pQ {u:Option TypeDesc} (h:tR u=true):∃ms,u=some (.interface ms):=by
 unfold tR at h
 split at h
 ·exact⟨_,rfl⟩
 ·cases h
def xD:Option TypeDesc→Bool
 |some (.pointer _)=>true
 |_=>false
theorem tT {u:Option TypeDesc} (h:xD u=true):∃e,u=some (.pointer e):=by
 unfold xD at h
 split at h
 ·exact⟨_,rfl⟩
 ·cases h
theorem yF {t':TypeId} (h:tR (P.underlying t)=true):cH P .neq t xo yo (.ifc t' .any) (.val .nilIface)=some (vB true):=by
 obtain⟨ms,h⟩:=pQ h
 simp only[cH,plain,Option.map_none,oT,h];rfl
theorem yG {t':TypeId} (h:tR (P.underlying t)=true):cH P .eql t xo yo (.ifc t' .any) (.val .nilIface)=some (vB false):=by
 obtain⟨ms,h⟩:=pQ h
 simp only[cH,plain,Option.map_none,oT,h]
theorem cC {α β:Type} (s:Sem α) (f:α→Sem β):aT P (s >>= f)=(aT P s).bind fun a=>aT P (f a):=by
 induction s with
 |pure a=>rfl
 |program k ih=>show aT P (Sem.program fun p=>(k p).bind f)=_;simp only[aT];exact ih P
 |_=>rfl
theorem mR {α:Type} (a:α):aT P (pure a:Sem α)=some a:=rfl
theorem eV {u:TypeDesc} (h:P.underlying t=some u):aT P (underlying t)=some u:=by
 simp only[underlying,program,bind,Sem.bind,aT,h,pure]
theorem tV {c:Value} (h:tR (P.underlying t)=true):cH P .neq t xo (.const c) (.val .nilIface) (.val .nilIface)=some (vB false):=by
 obtain⟨ms,h⟩:=pQ h
 have e1:aT P (eqGuard .neq t xo (.const c) .nilIface .nilIface)=some ():=by
  unfold eqGuard
  cases xo<;>rfl
 have e2:aT P (binOp .neq t .nilIface .nilIface)=some (.bool false):=by
  show aT P (Op.equal t .nilIface .nilIface >>= fun r=>pure (Value.bool (!r)))=_
  rw[cC]
  unfold Op.equal Op.maxDepth
  rw[Op.equalIn,cC,eV h]
  rfl
 simp only[cH,plain,cC,e1,e2,Option.bind_some,Option.map_some]
theorem aAG {c:Value} (h:tR (P.underlying t)=true):cH P .eql t xo (.const c) (.val .nilIface) (.val .nilIface)=some (vB true):=by
 obtain⟨ms,h⟩:=pQ h
 have e1:aT P (eqGuard .eql t xo (.const c) .nilIface .nilIface)=some ():=by
  unfold eqGuard
  cases xo<;>rfl
 have e2:aT P (binOp .eql t .nilIface .nilIface)=some (.bool true):=by
  show aT P (Op.equal t .nilIface .nilIface >>= fun r=>pure (Value.bool r))=_
  rw[cC]
  unfold Op.equal Op.maxDepth
  rw[Op.equalIn,cC,eV h]
  rfl
 simp only[cH,plain,cC,e1,e2,Option.bind_some,Option.map_some]
theorem aAH {ms:Array (String×TypeId)}:tR (some (.interface ms))=true:=rfl
theorem aAI {e:TypeId}:xD (some (.pointer e))=true:=rfl
theorem yH {o off:Nat} (h:xD (P.underlying t)=true):cH P .neq t xo yo (.ptr o off) (.val (.pointer none))=some (vB true):=by
 obtain⟨ms,h⟩:=tT h
 simp only[cH,plain,oT,h];rfl
theorem yI {o off:Nat} (h:xD (P.underlying t)=true):cH P .eql t xo yo (.ptr o off) (.val (.pointer none))=some (vB false):=by
 obtain⟨ms,h⟩:=tT h
 simp only[cH,plain,oT,h]
theorem aAJ {a:Value} (ha:a=.pointer none) (h:xD (P.underlying t)=true):cH P .neq t xo yo (.val a) (.val (.pointer none))=some (vB false):=by
 obtain⟨ms,h⟩:=tT h
 subst ha
 have e1:aT P (eqGuard .neq t xo yo (.pointer none) (.pointer none))=some ():=rfl
 have e2:aT P (binOp .neq t (.pointer none) (.pointer none))=some (.bool false):=by
  show aT P (Op.equal t (.pointer none) (.pointer none) >>= fun r=>pure (Value.bool (!r)))=_
  rw[cC]
  unfold Op.equal Op.maxDepth
  rw[Op.equalIn,cC,eV h]
  rfl
 simp only[cH,plain,cC,e1,e2,Option.bind_some,Option.map_some]
theorem iI {α:Type} {d:TypeId} {u:TypeDesc} (h:P.underlying d=some u) {f:TypeDesc→Sem α}:aT P (underlying d >>= f)=aT P (f u):=by
 show aT P (Sem.program fun p => Sem.bind (match p.underlying d with | some d => pure d | none => stuck "no such type") f) = _
 simp only[aT,h]
 rfl
theorem dL {s d:TypeId} {u:TypeDesc} {k':IntKind} (hs:P.underlying s=some u) (hd:P.underlying d=some (.int k')):gU P s d (.val (.int k a))=some (.val (.int k' (k'.wrap a))):=by
 simp only[gU,plain,Option.bind_some,convert]
 rw[iI hs,iI hd]
 cases u<;>rfl
def lenK (u:Option TypeDesc) (x:AV):Option AV:=match u,x with
 |some .string,.val (.string s)=>some (.val (.int .i64 s.size))
 |some (.slice _),.val (.slice none 0 0)=>some (.val (.int .i64 0))
 |some (.slice _),.sl _ _ _ n _=>some (.val (.int .i64 n))
 |some (.array n _),_=>some (.val (.int .i64 n))
 |_,_=>none
theorem aJg {x:AV}:aDv P t x=lenK (P.underlying t) x:=rfl
theorem aD4:lenK (some .string) (vS l)=some (vI l.length):=rfl
theorem aD5 {e:TypeId}:lenK (some (.slice e)) (.val (.slice none 0 0))=some (vI 0):=rfl
theorem aFZ {e:TypeId} {own:Bool} {o off n st:Nat}:lenK (some (.slice e)) (.sl own o off n st)=some (vI n):=rfl
theorem aAK {e:TypeId} {n:Nat} {x:AV}:lenK (some (.array n e)) x=some (vI n):=by unfold lenK;split<;>simp_all
theorem aCw {c a b:Bool}:aDh (vB c) (vB a) (vB b)=some (vB (if c then a else b)):=by cases c<;>rfl
theorem aD6 {c:Bool} {a b:AV}:aDh (vB c) a b=some (if c then a else b):=rfl
end
theorem aAL {s o off f:Nat}:aAp P s (.ptr o off) f=(fo P s f).map fun k=>.ptr o (off+k):=by unfold aAp;cases fo P s f<;>rfl
def iP (x:Option aD):Option (List AV):=match x with
 |some (.ro cs)=>some cs
 |some (.own _ cs)=>some cs
 |_=>none
def aDl (x:Option (List AV)) (k:Option cL) (off:Nat):Option AV:=match x,k with
 |some cs,some .one=>cs[off]?
 |some cs,some (.many n)=>if off+n≤cs.length then some (.agg ((cs.drop off).take n)) else none
 |_,_=>none
theorem aCx {t o off:Nat} {H:aB}:xC P t (.ptr o off) H=aDl (iP H[o]?) (kd P t) off:=by
 unfold xC iE aDl
 show Option.map _ (match iP H[o]?,kd P t with|some cs,some .one=>_|some cs,some (.many n)=>_|_,_=>_)=_
 cases iP H[o]? with
 |none=>rfl
 |some cs=>cases kd P t with
  |none=>rfl
  |some k=>cases k with
   |one=>simp only[Option.map_map];cases cs[off]?<;>rfl
   |many n=>simp only;split<;>rfl
theorem aCy {cs:List AV}:iP (some (.ro cs))=some cs:=rfl
theorem aAM {e:TypeId} {cs:List AV}:iP (some (.own e cs))=some cs:=rfl
theorem aCz {cs:List AV} {off:Nat}:aDl (some cs) (some .one) off=cs[off]?:=rfl
theorem aAN {cs:List AV} {off n:Nat}:aDl (some cs) (some (.many n)) off=if off+n≤cs.length then some (.agg ((cs.drop off).take n)) else none:=rfl
def aAO (v:Option (List AV)) (x:Option aD) (z:Option Nat) (o off:Nat) (H:aB):Option aB:=match v,x with
 |some l,some (.own e cs)=>if z=some l.length∧off+l.length≤cs.length then some (H.set o (.own e (fQ cs off l))) else none
 |_,_=>none
theorem aAP {t o off:Nat} {v:AV} {H:aB}:oR P t (.ptr o off) v H=aAO (dS v) H[o]? (szA P t) o off H:=by
 unfold oR aAO szA
 cases dS v with
 |none=>rfl
 |some l=>cases h:H[o]? with
  |none=>simp[h]
  |some x=>cases x<;>simp[h]
theorem aAQ {l cs:List AV} {e:TypeId} {n o off:Nat} {H:aB}:aAO (some l) (some (.own e cs)) (some n) o off H=if n=l.length∧off+l.length≤cs.length then some (H.set o (.own e (fQ cs off l))) else none:=by
 simp only[aAO,Option.some.injEq]
theorem yJ {zs:List Value} {e:TypeId} {H:aB}:aJa (some zs) e H=if zs.all Value.oneCell' then some (.ptr H.length 0,H++[.own e (zs.map .val)]) else none:=rfl
theorem aD7 {H l:aB}:(H++l).length=H.length+l.length:=List.length_append
theorem bB {H l:aB}:(H++l)[H.length]?=l[0]?:=by rw[List.getElem?_append_right (Nat.le_refl _),Nat.sub_self]
theorem bX {H l:aB} {k:Nat}:(H++l)[H.length+k]?=l[k]?:=by rw[List.getElem?_append_right (by omega)];congr 1;omega
theorem qZ {H l:aB} {x:aD}:(H++l).set H.length x=H++l.set 0 x:=by rw[List.set_append_right _ _ (by omega),Nat.sub_self]
theorem tW {H l:aB} {k:Nat} {x:aD}:(H++l).set (H.length+k) x=H++l.set k x:=by rw[List.set_append_right _ _ (by omega)];congr 2;omega
def aAR (e:Env):Nat→List AV→Prop
 |_,[]=>True
 |i,a::l=>get e i=a∧aAR e (i+1) l
theorem aAS:∀(l pre suf:List AV),aAR (pre++l++suf) pre.length l
 |[],_,_=>trivial
 |a::l,pre,suf=>⟨by simp[get],by
  have h:=aAS l (pre++[a]) suf
  simpa using h⟩
def tX (P:Program) (cs:Option (List AV)) (R:AV→aB→Prop) (h:aB):Prop:=match cs with
 |some cs=>R (oH cs) h
 |none=>False
def rV (P:Program) (rs:List ResultVar) (R:AV→aB→Prop):Exit→Env→aB→Prop:=fun ex e h=>(ex=.normal∨ex=.ret)∧tX P (j5 P e h rs) R h
theorem aD8 {rs:List ResultVar} {R:AV→aB→Prop} {e:Env} {h:aB}:rV P rs R .ret e h=tX P (j5 P e h rs) R h:=by simp[rV]
theorem yK {rs:List ResultVar} {R:AV→aB→Prop} {e:Env} {h:aB}:rV P rs R .normal e h=tX P (j5 P e h rs) R h:=by simp[rV]
@[congr] theorem outK_cg {x y:Option (List AV)} {R:AV→aB→Prop} {h:aB} (hx:x=y):tX P x R h=tX P y R h:=by rw[hx]
theorem aD9 {e:Env} {h:aB}:j5 P e h []=some []:=rfl
theorem aEa {e:Env} {h:aB} {t:Nat} {r:List ResultVar}:j5 P e h (.tmp t::r)=(j5 P e h r).map (get e t::·):=rfl
theorem aCA {e:Env} {h:aB} {p t:Nat} {r:List ResultVar}:j5 P e h (.cell p t::r)=(xC P t (get e p) h).bind fun c=>(j5 P e h r).map (c::·):=by
 show ((iE P t (get e p) h).bind fun c=>(j5 P e h r).map (c.1::·))=_
 unfold xC
 cases iE P t (get e p) h<;>rfl
theorem aCB {cs:List AV} {R:AV→aB→Prop} {h:aB}:tX P (some cs) R h=R (oH cs) h:=_root_.id rfl
theorem aCC {c:AV}:oH [c]=c:=rfl
theorem aCD:oH []=.tup []:=rfl
theorem aCE {c d:AV} {l:List AV}:oH (c::d::l)=.tup (c::d::l):=rfl
theorem aV {f : FuncId} {fn : Func} {c : Code} {args : List AV} {H : aB} {R : AV → aB → Prop} {N : Nat} {rs : List ResultVar} (hf : P.funcs[f]? = some fn) (hb : fn.body = some c) (hN : fn.ntmps = N) (hrs : fn.results.toList = rs) (hn : (fn.name == "runtime.NumGoroutine") = false) (hok : okC C.nG c = true) (hl : args.length ≤ N)
  (h:∀e,len e=N→aAR e 0 args→cB P C c (mk e []) H (rV P rs R)):aH P C f args H R:=by
 subst hN hrs
 refine aO5 hf hb hn hok ?_
 have h1:=h (args++List.replicate (fn.ntmps-args.length) (.val undef)) (by simp[len];omega) (aAS args [] _)
 have e:(rV P fn.results.toList R)=fun ex env' H'=>(ex=.normal∨ex=.ret)∧∃cs,j5 P env' H' fn.results.toList=some cs∧R (oH cs) H':=by
  funext ex e h
  unfold rV tX
  cases j5 P e h fn.results.toList<;>simp
 rw[←e]
 exact h1
def rA (I:Nat→Env→aB→Prop) (n:Nat) (Q:Exit→Env→aB→Prop):Exit→Env→aB→Prop:=fun ex e h=>match ex with
 |.normal=>∃n',n'<n∧I n' e h
 |ex=>Q ex e h
section
variable {I:Nat→Env→aB→Prop} {n i:Nat} {Q:Exit→Env→aB→Prop} {e:Env} {h:aB}
theorem vR:rA I n Q .normal e h=∃n',n'<n∧I n' e h:=_root_.id rfl
theorem aAT:rA I n Q (.exit i) e h=Q (.exit i) e h:=_root_.id rfl
theorem aCF:rA I n Q .ret e h=Q .ret e h:=_root_.id rfl
end
theorem cF {b:Code} {Q:Exit→Env→aB→Prop} {env:Env} {H:aB} (n:Nat) (I:Nat→Env→aB→Prop) (hok:okC C.nG b=true) (h0:I n env H)
  (step:∀n e h,I n e h→cB P C b (mk e []) h (rA I n Q)):AWp P C (.loop b) env H Q:=by
 refine aPV I hok (fun n env H h=>?_) h0
 have e:(rA I n Q)=fun ex e h=>match ex with
   |.normal=>∃n',n'<n∧I n' e h
   |ex=>Q ex e h:=by funext ex e h;cases ex<;>rfl
 have h2:=step n env H h
 rw[e] at h2
 exact h2
theorem eD {d:Option (List Nat)} {ops:Array Oper} {K K':Env→aB→Prop} (hk:∀e h,K e h→K' e h):∀{l:List Oper} {env:Env} {H:aB},bJ P C d ops l env H K→bJ P C d ops l env H K'
 |[],_,_,h=>hk _ _ h
 |o::rest,env,H,h=>by
  unfold bJ at h ⊢
  split at h
  ·exact eD hk h
  ·split at h
   ·split at h
    ·unfold jM at h ⊢
     split at h
     ·exact h.mono fun r H' h=>eD hk h
     ·rcases h with ⟨r,H',h1,h2,h4,h3⟩|⟨h1,R,h2,h3,h4,h5⟩
      ·exact .inl ⟨r,H',h1,h2,h4,eD hk h3⟩
      ·exact .inr ⟨h1,R,h2,h3,h4,fun r H' hr=>eD hk (h5 r H' hr)⟩
    ·split at h
     ·exact⟨h.1,h.2.mono fun r H' h=>eD hk h⟩
     ·exact⟨h.1,fun k h1 h2=>eD hk (h.2 k h1 h2)⟩
     ·split at h
      ·exact eD hk h
      ·exact h.elim
   ·split at h
    ·exact eD hk h
    ·exact h.elim
  ·exact h.elim
theorem mH:∀{c:Code} {env:Env} {H:aB} {Q Q':Exit→Env→aB→Prop},cB P C c env H Q→(∀ex e h,Q ex e h→Q' ex e h)→cB P C c env H Q'
 |.skip,_,_,_,_,h,hq=>hq _ _ _ h
 |.region id ops draw,env,H,Q,Q',h,hq=>by
  unfold cB at h ⊢
  split
  ·rename_i hd
   rw[if_pos hd] at h
   rcases h with ⟨h1,q,h2,h3⟩|h
   ·exact .inl ⟨h1,q,h2,eD (fun e h=>hq _ e h) h3⟩
   ·exact .inr (h.mono hq)
  ·rename_i hd
   rw[if_neg hd] at h
   exact eD (fun e h=>hq _ e h) h
 |.seq a b,env,H,Q,Q',h,hq=>by
  rw[gD] at h ⊢
  refine mH h fun ex e h' hk=>?_
  cases ex with
  |normal=>exact mH hk hq
  |_=>exact hq _ _ _ hk
 |.cond c a b,env,H,Q,Q',h,hq=>by
  unfold cB at h ⊢
  split at h
  ·split at h
   ·rw[if_pos ‹_›];exact mH h hq
   ·rw[if_neg ‹_›];exact mH h hq
  ·exact h.elim
 |.block id b,env,H,Q,Q',h,hq=>by
  rw[rS] at h ⊢
  refine mH h fun ex e h' hk=>?_
  cases ex with
  |exit i=>
   show if i=id then _ else _
   have hk':if i=id then Q .normal e h' else Q (.exit i) e h':=hk
   split
   ·rw[if_pos ‹_›] at hk';exact hq _ _ _ hk'
   ·rw[if_neg ‹_›] at hk';exact hq _ _ _ hk'
  |_=>exact hq _ _ _ hk
 |.exit id,_,_,_,_,h,hq=>hq _ _ _ h
 |.ret,_,_,_,_,h,hq=>hq _ _ _ h
 |.loop b,_,_,_,_,h,hq=>AWp.mono h hq
 |.rangeFunc ..,_,_,_,_,h,_=>h.elim
 |.scope _,_,_,_,_,h,_=>h.elim
 |.label _,_,_,_,_,h,_=>h.elim
 |.goto _,_,_,_,_,h,_=>h.elim
 |.refuse _,_,_,_,_,h,_=>h.elim
def kT (J:Env→aB→Prop) (Q:Exit→Env→aB→Prop):Exit→Env→aB→Prop:=fun ex e h=>match ex with
 |.normal=>J e h
 |ex=>Q ex e h
section
variable {J:Env→aB→Prop} {i:Nat} {Q:Exit→Env→aB→Prop} {e:Env} {h:aB}
theorem mT:kT J Q .normal e h=J e h:=_root_.id rfl
theorem aAU:kT J Q (.exit i) e h=Q (.exit i) e h:=_root_.id rfl
theorem aCG:kT J Q .ret e h=Q .ret e h:=_root_.id rfl
end
theorem fJ {c:Code} {env:Env} {H:aB} {Q:Exit→Env→aB→Prop} (J:Env→aB→Prop) (h1:cB P C c env H (kT J Q)) (h2:∀e h,J e h→Q .normal (mk e []) h):cB P C c env H Q:=
 mH h1 fun ex e h hk=>by cases ex<;>first|exact hk|exact h2 e h hk
theorem bC {c:Bool} {a b:Code} {env:Env} {H:aB} {Q:Exit→Env→aB→Prop} (J:Env→aB→Prop)
  (h1:c=true→cB P C a env H (kT J Q)) (h2:c=false→cB P C b env H (kT J Q)) (h3:∀e h,J e h→Q .normal (mk e []) h) :
  lT (.val (.bool c)) P C a b env H Q:=
 aF (fun hc=>fJ J (h1 hc) h3) fun hc=>fJ J (h2 hc) h3
section
variable {d:Option (List Nat)} {ops:Array Oper} {rest:List Oper} {H H':aB} {K:Env→aB→Prop} {r:AV} {e:Env} {l:List (Nat×AV)} {k:Nat} {c:Prop} [Decidable c]
theorem aCH:eJ (if c then some r else none) H P C d ops rest (mk e l) (some k) K=(c∧bJ P C d ops rest (mk e ((k,r)::l)) H K):=by
 by_cases h:c<;>simp[h,eJ,aA]
theorem aCI:gT (if c then some (r,H') else none) P C d ops rest (mk e l) (some k) K=(c∧bJ P C d ops rest (mk e ((k,r)::l)) H' K):=by
 by_cases h:c<;>simp[h,gT,aA]
theorem aCJ {env:Env}:mP (if c then some H' else none) P C d ops rest env none K=(c∧bJ P C d ops rest env H' K):=by
 by_cases h:c<;>simp[h,mP,bL]
end
def aHY (x:Option (TypeId×Nat×Nat×List Value)) (o off len st:Nat) (n:Int):Option AV:=match x with
 |some (_,st',_,_)=>if 0≤n∧n<len∧st'=st then some (.ptr o (off+n.toNat*st)) else none
 |none=>none
theorem qF {t:TypeId} {own:Bool} {o off len st:Nat} {k:IntKind} {n:Int}:qX P t (.sl own o off len st) (.val (.int k n))=aHY (el P t) o off len st n:=by
 unfold qX iN aHY
 cases el P t with
 |none=>rfl
 |some x=>simp only;split<;>rfl
def aHZ (x:Option (Nat×Nat)) (o off:Nat) (n:Int):Option AV:=match x with
 |some (len,st)=>if 0≤n∧n<len then some (.ptr o (off+n.toNat*st)) else none
 |none=>none
theorem aCK {t:TypeId} {o off:Nat} {k:IntKind} {n:Int}:qX P t (.ptr o off) (.val (.int k n))=aHZ (ar P t) o off n:=by
 unfold qX iN aHZ
 cases ar P t with
 |none=>rfl
 |some x=>simp only;split<;>rfl
theorem aAV {len st o off:Nat} {n:Int}:aHZ (some (len,st)) o off n=if 0≤n∧n<len then some (.ptr o (off+n.toNat*st)) else none:=rfl
theorem mU {e st' b:Nat} {z:List Value} {o off len st:Nat} {n:Int}:aHY (some (e,st',b,z)) o off len st n=if 0≤n∧n<len∧st'=st then some (.ptr o (off+n.toNat*st)) else none:=rfl
def aLb (x:Option (TypeId×Nat×Nat×List Value)) (own:Bool) (o off st:Nat) (l h:Option Nat) (len:Nat):Option AV:=match x,l,h with
 |some (_,st',_,_),some l,some h=>if l≤h∧h≤len∧st'=st then some (.sl own o (off+l*st) (h-l) st) else none
 |_,_,_=>none
theorem aCL {t:TypeId} {own:Bool} {o off len st:Nat} {lo hi:Option AV}:mQ P t (.sl own o off len st) lo hi=aLb (el P t) own o off st (eP 0 lo) (eP len hi) len:=by
 have:lI P t (.sl own o off len st) lo hi []=(match el P t,eP 0 lo,eP len hi with
  |some (_,st',_,_),some l,some h=>if l≤h∧h≤len∧st'=st then some (.sl own o (off+l*st) (h-l) st,[]) else none
  |_,_,_=>none):=rfl
 unfold mQ aLb
 rw[this]
 generalize el P t=x
 generalize eP 0 lo=a
 generalize eP len hi=b
 rcases x with _|⟨e,st',bb,z⟩
 ·rfl
 ·cases a with
  |none=>rfl
  |some a=>cases b with
   |none=>rfl
   |some b=>simp only;split<;>rfl
theorem aCM {e st' b:Nat} {z:List Value} {own:Bool} {o off len st l h:Nat}:aLb (some (e,st',b,z)) own o off st (some l) (some h) len=if l≤h∧h≤len∧st'=st then some (.sl own o (off+l*st) (h-l) st) else none:=rfl
def aLc (u:Option TypeDesc) (s:List UInt8) (l h:Option Nat):Option AV:=match u,l,h with
 |some .string,some l,some h=>if l≤h∧h≤s.length then some (vS ((s.take h).drop l)) else none
 |_,_,_=>none
theorem aAW {t:TypeId} {s:List UInt8} {lo hi:Option AV}:mQ P t (vS s) lo hi=aLc (P.underlying t) s (eP 0 lo) (eP s.length hi):=by
 have:lI P t (vS s) lo hi []=(match P.underlying t,eP 0 lo,eP (S s).size hi with
  |some .string,some l,some h=>if l≤h∧h≤(S s).size then some (.val (.string ((S s).extract l h)),[]) else none
  |_,_,_=>none):=rfl
 unfold mQ aLc
 rw[this,sK]
 generalize P.underlying t=u
 generalize eP 0 lo=a
 generalize eP s.length hi=b
 cases u with
 |none=>rfl
 |some u=>cases a with
  |none=>cases u<;>rfl
  |some a=>cases b with
   |none=>cases u<;>rfl
   |some b=>cases u<;>first|rfl|(simp only[aJd];split<;>rfl)
theorem aCN {s:List UInt8} {l h:Nat}:aLc (some .string) s (some l) (some h)=if l≤h∧h≤s.length then some (vS ((s.take h).drop l)) else none:=rfl
theorem aAX {d:Nat}:eP d none=some d:=rfl
theorem aAY {d:Nat} {k:IntKind} {i:Int}:eP d (some (.val (.int k i)))=if 0≤i then some i.toNat else none:=rfl
def atS (u:Option TypeDesc) (s:List UInt8) (n:Int):Option AV:=match u with
 |some .string=>if 0≤n∧n<s.length then some (.val (.int .u8 ((s.getD n.toNat 0).toNat:Int))) else none
 |_=>none
theorem aAZ {t:TypeId} {s:List UInt8} {k:IntKind} {n:Int}:oU P t (vS s) (.val (.int k n))=atS (P.underlying t) s n:=by
 have:oU P t (vS s) (.val (.int k n))=(match P.underlying t with
  |some .string=>if 0≤n∧n<(S s).size then some (.val (.int .u8 (((S s).data.toList.getD n.toNat 0).toNat:Int))) else none
  |_=>none):=rfl
 rw[this,sK,aPY]
 unfold atS
 cases P.underlying t with
 |none=>rfl
 |some u=>cases u<;>rfl
theorem aEb {s:List UInt8} {n:Int}:atS (some .string) s n=if 0≤n∧n<s.length then some (.val (.int .u8 ((s.getD n.toNat 0).toNat:Int))) else none:=rfl
theorem sM {v:Value}:AV.one (.val v)=v.oneCell':=rfl
theorem aF0 {o off:Nat}:AV.one (.ptr o off)=true:=rfl
theorem aJh {own:Bool} {o off n st:Nat}:AV.one (.sl own o off n st)=true:=rfl
theorem aJi {o:Nat}:AV.one (.mp o)=true:=rfl
theorem aF1 {t:TypeId} {x:AV}:AV.one (.ifc t x)=true:=rfl
theorem aJj {f:Fn} {a c:List AV}:AV.one (.fn f a c)=true:=rfl
theorem yL {l:List AV}:dS (.agg l)=if l.all AV.one then some l else none:=rfl
theorem aN {c:AV} (h:c.one=true):dS c=some [c]:=by
 cases c with
 |val v=>simp only[AV.one] at h;simp[dS,h]
 |agg _=>cases h
 |tup _=>cases h
 |any=>cases h
 |_=>rfl
def tY (v:Value) (b:Bool):Option (List AV):=if b then some [.val v] else dS (.val v)
theorem yM {v:Value}:dS (.val v)=tY v v.oneCell':=by
 unfold tY
 split
 ·rename_i h;exact aN (c:=.val v) h
 ·rfl
theorem uT {v:Value}:tY v true=some [.val v]:=rfl
theorem vV {vs:List Value}:tY (.agg (List.toArray vs)) false=if vs.all Value.oneCell' then some (vs.map .val) else none:=rfl
theorem yN {o off:Nat}:dS (.ptr o off)=some [.ptr o off]:=rfl
theorem aA0 {own:Bool} {o off n st:Nat}:dS (.sl own o off n st)=some [.sl own o off n st]:=rfl
theorem aA1 {o:Nat}:dS (.mp o)=some [.mp o]:=rfl
theorem yO {t:TypeId} {x:AV}:dS (.ifc t x)=some [.ifc t x]:=rfl
theorem aEc {α:Type} {a:α} {l r:List α}:List.append (a::l) r=a::List.append l r:=rfl
theorem aF2 {α:Type} {r:List α}:List.append [] r=r:=rfl
theorem aA2 {f:Fn} {a c:List AV}:dS (.fn f a c)=some [.fn f a c]:=rfl
theorem aEd {o off:Nat}:aK8 (.ptr o off)=some (.ptr o off):=rfl
theorem aSi {P : Program} {C : dC} {f : FuncId} {fn : Func} {c : Code} {args : List AV} {H : aB} {R : AV → aB → Prop} {N : Nat} {rs : List ResultVar} (hf : P.funcs[f]? = some fn) (h : ∀ e, len e = N → aAR e 0 args → cB P C c (mk e []) H (rV P rs R)) (hb : fn.body = some c := by rfl) (hN : fn.ntmps = N := by rfl) (hrs : fn.results.toList = rs := by rfl) (hn : (fn.name == "runtime.NumGoroutine") = false := by kernel_rfl) (hok : okC C.nG c = true := by kernel_rfl) (hl : args.length ≤ N := by exact Nat.le_of_ble_eq_true rfl) : aH P C f args H R := aV hf hb hN hrs hn hok hl h
theorem aSh {P:Program} {C:dC} {H:aB} {d:Option (List Nat)} {ops:Array Oper} {rest:List Oper} {env:Env} {dst:Option Nat} {K:Env→aB→Prop} {f:FuncId} {args:List AV} {r:AV} (h:aH P C f args H fun r' H2=>r'=r∧H2=H) (hk:bJ P C d ops rest (setD env dst r) H K) (hq:aDV d f=false:=by rfl):gI P C d f args H ops rest env dst K:=aG h (List.prefix_refl _) hk hq
variable {P:Program} {C:dC}
theorem mV:aT P program=some P:=rfl
theorem oJ {α:Type} {c:Prop} [Decidable c] {a b:Sem α}:aT P (if c then a else b)=if c then aT P a else aT P b:=by split<;>rfl
theorem aJk (d:Nat) (t:TypeId) (fs:Array Field) (xs ys:Array Value) (ht:P.underlying t=some (.struct fs)) (hp:P.stoodInHeld t=false) :
  aT P (Op.equalIn (d+1) t (.agg xs) (.agg ys))=aT P (Op.eqFields d xs ys fs.toList):=by
 rw[Op.equalIn,cC,eV ht]
 simp only[Option.bind_some,cC,mV,hp,Bool.false_eq_true,if_false]
 rw[←Array.forIn_toList]
 generalize fs.toList=l
 clear ht
 induction l with
 |nil=>rfl
 |cons f l ih=>
  simp only[List.forIn_cons,Op.eqFields,cC,oJ]
  split
  ·cases aT P (part f.type xs f.offset) with
   |none=>rfl
   |some a=>
    simp only[Option.bind_some]
    cases aT P (part f.type ys f.offset) with
    |none=>rfl
    |some b=>
     simp only[Option.bind_some]
     cases aT P (Op.equalIn d f.type a b) with
     |none=>rfl
     |some r=>
      cases r
      ·rfl
      ·simp only[Option.bind_some,Bool.not_true,Bool.false_eq_true,if_false,mR]
       exact ih
  ·simp only[Option.bind_some,mR]
   exact ih
def aDm:Option TypeDesc→Bool
 |some (.int .i64)=>true
 |_=>false
theorem aA3 {u:Option TypeDesc} (h:aDm u=true):u=some (.int .i64):=by
 unfold aDm at h
 split at h
 ·rfl
 ·cases h
def eq2 (P:Program) (t:TypeId):Bool:=match P.underlying t with
 |some (.struct fs)=>!P.stoodInHeld t&&!P.eqGuardType P.depth t&&(match fs.toList with
  | [f, g] => f.name != "_" && g.name != "_" && f.offset == 0 && g.offset == 1 && aDm (P.underlying f.type) && aDm (P.underlying g.type)
  |_=>false)
 |_=>false
theorem xE {u:TypeId} {k:IntKind} (h:P.underlying u=some (.int k)) {xs:Array Value} {n:Nat} {v:Value} (hv:xs[n]?=some v):aT P (part u xs n)=some v:=by
 unfold part isAgg
 simp only[cC,eV h,Option.bind_some,hv]
 rfl
theorem aJl {d:Nat} {u:TypeId} {k k':IntKind} (h:P.underlying u=some (.int k')) {a b:Int}:aT P (Op.equalIn (d+1) u (.int k a) (.int k b))=some (a==b):=by
 rw[Op.equalIn,cC,eV h]
 simp only[Option.bind_some,if_true]
 rfl
theorem aF3 {t:TypeId} (h:eq2 P t=true) {a b c d:Int} {xo yo:Operand}:aT P (eqGuard .eql t xo yo (.agg #[.int .i64 a,.int .i64 b]) (.agg #[.int .i64 c,.int .i64 d]))=some ()∧aT P (eqGuard .neq t xo yo (.agg #[.int .i64 a,.int .i64 b]) (.agg #[.int .i64 c,.int .i64 d]))=some ()∧aT P (Op.equal t (.agg #[.int .i64 a,.int .i64 b]) (.agg #[.int .i64 c,.int .i64 d]))=some (decide (a=c)&&decide (b=d)):=by
 unfold eq2 at h
 split at h
 ·rename_i fs hu
  simp only[Bool.and_eq_true,Bool.not_eq_true'] at h
  obtain⟨⟨h1,h2⟩,h3⟩:=h
  split at h3
  ·rename_i f g hfs
   simp only[Bool.and_eq_true,bne_iff_ne,ne_eq,beq_iff_eq] at h3
   obtain⟨⟨⟨⟨⟨n1,n2⟩,o1⟩,o2⟩,u1⟩,u2⟩:=h3
   have u1:=aA3 u1
   have u2:=aA3 u2
   refine⟨?_,?_,?_⟩
   ·unfold eqGuard
    simp only[Bool.not_true,Bool.false_eq_true,if_false,cC,mV,Option.bind_some,oJ,h2,Bool.not_false,if_true]
    rfl
   ·unfold eqGuard
    simp only[Bool.not_true,Bool.false_eq_true,if_false,cC,mV,Option.bind_some,oJ,h2,Bool.not_false,if_true]
    rfl
   ·unfold Op.equal Op.maxDepth
    rw[aJk _ _ fs _ _ hu h1,hfs]
    simp only[Op.eqFields,ne_eq,n1,n2,not_false_eq_true,if_true,cC,o1,o2]
    rw[xE u1 (v:=.int .i64 a) rfl,xE u1 (v:=.int .i64 c) rfl]
    simp only[Option.bind_some]
    rw[aJl u1]
    simp only[Option.bind_some,oJ,cC]
    rw[xE u2 (v:=.int .i64 b) rfl,xE u2 (v:=.int .i64 d) rfl]
    simp only[Option.bind_some]
    rw[aJl u2]
    by_cases e1:a=c<;>by_cases e2:b=d<;>simp[e1,e2,mR]
  ·cases h3
 ·cases h
theorem aEe {t:TypeId} {xo yo:Operand} {a b c d:Int} (h:eq2 P t=true):cH P .eql t xo yo (.agg [vI a,vI b]) (.agg [vI c,vI d])=some (vB (decide (a=c)&&decide (b=d))):=by
 obtain⟨h1,_,h2⟩:=aF3 h (a:=a) (b:=b) (c:=c) (d:=d) (xo:=xo) (yo:=yo)
 have hb:aT P (binOp .eql t (.agg #[.int .i64 a,.int .i64 b]) (.agg #[.int .i64 c,.int .i64 d]))=some (.bool (decide (a=c)&&decide (b=d))):=by
  show aT P (Op.equal t _ _ >>= fun r=>pure (Value.bool r))=_
  rw[cC,h2];rfl
 simp only[cH,plain,plains,Option.bind_some,Option.map_some,cC,h1,hb]
theorem aEf {t:TypeId} {xo yo:Operand} {a b c d:Int} (h:eq2 P t=true):cH P .neq t xo yo (.agg [vI a,vI b]) (.agg [vI c,vI d])=some (vB (!(decide (a=c)&&decide (b=d)))):=by
 obtain⟨_,h1,h2⟩:=aF3 h (a:=a) (b:=b) (c:=c) (d:=d) (xo:=xo) (yo:=yo)
 have hb:aT P (binOp .neq t (.agg #[.int .i64 a,.int .i64 b]) (.agg #[.int .i64 c,.int .i64 d]))=some (.bool (!(decide (a=c)&&decide (b=d)))):=by
  show aT P (Op.equal t _ _ >>= fun r=>pure (Value.bool (!r)))=_
  rw[cC,h2];rfl
 simp only[cH,plain,plains,Option.bind_some,Option.map_some,cC,h1,hb]
section
variable {d:Option (List Nat)} {ops:Array Oper} {rest:List Oper} {env:Env} {H:aB} {K:Env→aB→Prop} {dst:Option Nat}
theorem tZ (J:Env→aB→Prop) {f:FuncId} {args:List AV} (h1:gI P C d f args H ops rest env dst J) (h2:∀e h,J e h→K (mk e []) h):gI P C d f args H ops rest env dst K:=by
 unfold gI jM at h1 ⊢
 cases d with
 |none=>exact aH.mono h1 fun r H' hk=>eD (fun e h hj=>h2 e h hj) hk
 |some q=>
  rcases h1 with ⟨r,H',a,b,c,hk⟩|⟨a,R,b,c,d,hk⟩
  ·exact .inl ⟨r,H',a,b,c,eD (fun e h hj=>h2 e h hj) hk⟩
  ·exact .inr ⟨a,R,b,c,d,fun r H' hr=>eD (fun e h hj=>h2 e h hj) (hk r H' hr)⟩
theorem bQ (J:Env→aB→Prop) {x:Option Bool} {o:Oper} (h1:gR x P C d ops o rest env H J) (h2:∀e h,J e h→K (mk e []) h):gR x P C d ops o rest env H K:=by
 unfold gR at h1 ⊢
 split at h1
 ·exact eD (fun e h hj=>h2 e h hj) h1
 ·exact eD (fun e h hj=>h2 e h hj) h1
 ·exact h1.elim
end
def aH0 (P:Program) (ts:Array TypeId) (ty:TypeId) (x y:AV):Option AV:=(plains [x,y]).bind fun vs=>(aT P (Builtin.max_ ts ty vs.toArray)).map .val
section
variable {d:Option (List Nat)} {ops:Array Oper} {rest:List Oper} {env:Env} {H:aB} {K:Env→aB→Prop} {dst:Option Nat} {ty:TypeId} {p:String} {af:Array Edge}
theorem aEg {x y:Operand} {ts:Array TypeId}:bJ P C d ops (⟨dst,.call ⟨.builtin .max,List.toArray [x,y],ts⟩,ty,p,af,none⟩::rest) env H K=eJ (aH0 P ts ty (opA env x) (opA env y)) H P C d ops rest env dst K:=by
 refine (dF rfl (by intro c h;cases h;exact⟨rfl,rfl⟩)).trans (ofV ?_)
 have e:fE P .max ty [opA env x,opA env y] ts H=(plains [opA env x,opA env y]).bind fun vs=>(aT P (Builtin.max_ ts ty vs.toArray)).map fun v=>(AV.val v,H):=by
  unfold fE
  split<;>simp_all
 show fE P .max ty [opA env x,opA env y] ts H=_
 rw[e]
 unfold aH0
 cases plains [opA env x,opA env y] with
 |none=>rfl
 |some vs=>
  simp only[Option.bind_some]
  cases aT P (Builtin.max_ ts ty vs.toArray)<;>rfl
theorem aF4 {ts:Array TypeId} {k:IntKind} {a b:Int}:aH0 P ts ty (.val (.int k a)) (.val (.int k b))=some (.val (.int k (max a b))):=by
 unfold aH0
 simp only[plains,plain,Option.bind_some,Option.map_some]
 have:aT P (Builtin.max_ ts ty (List.toArray [.int k a,.int k b]))=some (.int k (max a b)):=by
  show some (Value.int k (if b>a then b else a))=_
  congr 2
  split<;>omega
 rw[this];rfl
end
variable {P:Program}
def ai (P:Program) (t:TypeId):Option Nat:=match P.underlying t with
 |some (.array len e)=>match kd P e with
  |some .one=>some len
  |_=>none
 |_=>none
def atK (a:Option Nat) (l:List AV) (n:Int):Option AV:=match a with
 |some len=>if 0≤n∧n<len then l[n.toNat]? else none
 |none=>none
theorem aA4 {t:TypeId} {l:List AV} {k:IntKind} {n:Int}:oU P t (.agg l) (.val (.int k n))=atK (ai P t) l n:=by
 unfold oU atK ai
 simp only
 cases P.underlying t with
 |none=>rfl
 |some d=>
  cases d with
  |array len e=>
   simp only
   cases kd P e with
   |none=>rfl
   |some kk=>cases kk<;>rfl
  |_=>rfl
theorem aEh {len:Nat} {l:List AV} {n:Int}:atK (some len) l n=if 0≤n∧n<len then l[n.toNat]? else none:=rfl
end AL
namespace F
open Go.RowKit Go.Proofs.YtnoppodfngkoeaaGreat.AL
theorem kd1:kd prog 1=some cL.one:=by kernel_rfl
theorem sz1:szA prog 1=some 1:=by kernel_rfl
theorem zc1:zc prog 1=some [Value.nilFunc]:=by kernel_rfl
theorem if1:bH prog 1=some false:=by kernel_rfl
theorem kd2:kd prog 2=some cL.one:=by kernel_rfl
theorem sz2:szA prog 2=some 1:=by kernel_rfl
theorem zc2:zc prog 2=some [(Value.int IntKind.i64 0)]:=by kernel_rfl
theorem if2:bH prog 2=some false:=by kernel_rfl
theorem kd3:kd prog 3=some cL.one:=by kernel_rfl
theorem sz3:szA prog 3=some 1:=by kernel_rfl
theorem zc3:zc prog 3=some [(Value.int IntKind.i64 0)]:=by kernel_rfl
theorem if3:bH prog 3=some false:=by kernel_rfl
theorem kd4:kd prog 4=some cL.one:=by kernel_rfl
theorem sz4:szA prog 4=some 1:=by kernel_rfl
theorem zc4:zc prog 4=some [(Value.bool false)]:=by kernel_rfl
theorem if4:bH prog 4=some false:=by kernel_rfl
theorem kd5:kd prog 5=some cL.one:=by kernel_rfl
theorem sz5:szA prog 5=some 1:=by kernel_rfl
theorem zc5:zc prog 5=some [(Value.int IntKind.u8 0)]:=by kernel_rfl
theorem if5:bH prog 5=some false:=by kernel_rfl
theorem kd7:kd prog 7=some (cL.many 4):=by kernel_rfl
theorem sz7:szA prog 7=some 4:=by kernel_rfl
theorem zc7:zc prog 7=some [(Value.int IntKind.i64 0),(Value.int IntKind.i64 0),(Value.bool false),(Value.int IntKind.u8 0)]:=by kernel_rfl
theorem fp7:fp prog 7=some [(0,1),(1,1),(2,1),(3,1)]:=by kernel_rfl
theorem aMj:fo prog 7 0=some 0:=by kernel_rfl
theorem aMk:fo prog 7 1=some 1:=by kernel_rfl
theorem aMl:fo prog 7 2=some 2:=by kernel_rfl
theorem aMm:fo prog 7 3=some 3:=by kernel_rfl
theorem if7:bH prog 7=some false:=by kernel_rfl
theorem kd9:kd prog 9=some cL.one:=by kernel_rfl
theorem sz9:szA prog 9=some 1:=by kernel_rfl
theorem zc9:zc prog 9=some [(Value.string (ByteArray.mk (List.toArray [])))]:=by kernel_rfl
theorem if9:bH prog 9=some false:=by kernel_rfl
theorem aPZ:kd prog 12=some cL.one:=by kernel_rfl
theorem aP0:szA prog 12=some 1:=by kernel_rfl
theorem aP1:zc prog 12=some [(Value.int IntKind.u64 0)]:=by kernel_rfl
theorem aP2:bH prog 12=some false:=by kernel_rfl
theorem aP3:kd prog 13=some (cL.many 2):=by kernel_rfl
theorem aP4:szA prog 13=some 2:=by kernel_rfl
theorem aP5:zc prog 13=some [(Value.string (ByteArray.mk (List.toArray []))),(Value.int IntKind.u64 0)]:=by kernel_rfl
theorem aP6:fp prog 13=some [(0,1),(1,1)]:=by kernel_rfl
theorem aJm:fo prog 13 0=some 0:=by kernel_rfl
theorem aJn:fo prog 13 1=some 1:=by kernel_rfl
theorem aP7:bH prog 13=some false:=by kernel_rfl
theorem aP8:kd prog 18=some (cL.many 1):=by kernel_rfl
theorem aP9:szA prog 18=some 1:=by kernel_rfl
theorem aQa:zc prog 18=some [(Value.pointer none)]:=by kernel_rfl
theorem aQb:fp prog 18=some [(0,1)]:=by kernel_rfl
theorem aJo:fo prog 18 0=some 0:=by kernel_rfl
theorem aQc:bH prog 18=some false:=by kernel_rfl
theorem aQd:kd prog 20=some cL.one:=by kernel_rfl
theorem aQe:szA prog 20=some 1:=by kernel_rfl
theorem aQf:zc prog 20=some [Value.nilIface]:=by kernel_rfl
theorem aQg:kd prog 21=some cL.one:=by kernel_rfl
theorem aQh:szA prog 21=some 1:=by kernel_rfl
theorem aQi:zc prog 21=some [(Value.int IntKind.i32 0)]:=by kernel_rfl
theorem aQj:bH prog 21=some false:=by kernel_rfl
theorem aQk:kd prog 22=some cL.one:=by kernel_rfl
theorem aQl:szA prog 22=some 1:=by kernel_rfl
theorem aQm:zc prog 22=some [(Value.slice none 0 0)]:=by kernel_rfl
theorem mW:el prog 22=some (3,1,8,[(Value.int IntKind.i64 0)]):=by kernel_rfl
theorem aQn:bH prog 22=some false:=by kernel_rfl
theorem aQo:kd prog 23=some cL.one:=by kernel_rfl
theorem aQp:szA prog 23=some 1:=by kernel_rfl
theorem aQq:zc prog 23=some [(Value.slice none 0 0)]:=by kernel_rfl
theorem aLd:el prog 23=some (41,2,16,[(Value.int IntKind.i64 0),(Value.int IntKind.i64 0)]):=by kernel_rfl
theorem aQr:bH prog 23=some false:=by kernel_rfl
theorem aQs:kd prog 25=some (cL.many 18):=by kernel_rfl
theorem aQt:szA prog 25=some 18:=by kernel_rfl
theorem aQu:zc prog 25=some [(Value.int IntKind.u8 0),(Value.bool false),(Value.int IntKind.i64 0),(Value.int IntKind.i64 0),(Value.int IntKind.i64 0),(Value.int IntKind.i64 0),(Value.bool false),(Value.int IntKind.i64 0),(Value.slice none 0 0),(Value.slice none 0 0),(Value.slice none 0 0),(Value.slice none 0 0),(Value.slice none 0 0),(Value.slice none 0 0),(Value.slice none 0 0),(Value.slice none 0 0),(Value.slice none 0 0),(Value.slice none 0 0)]:=by kernel_rfl
theorem aQv:fp prog 25=some [(0,1),(1,1),(2,1),(3,1),(4,1),(5,1),(6,1),(7,1),(8,1),(9,1),(10,1),(11,1),(12,1),(13,1),(14,1),(15,1),(16,1),(17,1)]:=by kernel_rfl
theorem aJp:fo prog 25 0=some 0:=by kernel_rfl
theorem aJq:fo prog 25 1=some 1:=by kernel_rfl
theorem aJr:fo prog 25 2=some 2:=by kernel_rfl
theorem aJs:fo prog 25 3=some 3:=by kernel_rfl
theorem aJt:fo prog 25 4=some 4:=by kernel_rfl
theorem aJu:fo prog 25 5=some 5:=by kernel_rfl
theorem aJv:fo prog 25 6=some 6:=by kernel_rfl
theorem aJw:fo prog 25 7=some 7:=by kernel_rfl
theorem aJx:fo prog 25 8=some 8:=by kernel_rfl
theorem aJy:fo prog 25 9=some 9:=by kernel_rfl
theorem aF5:fo prog 25 10=some 10:=by kernel_rfl
theorem aF6:fo prog 25 11=some 11:=by kernel_rfl
theorem aF7:fo prog 25 12=some 12:=by kernel_rfl
theorem aF8:fo prog 25 13=some 13:=by kernel_rfl
theorem aF9:fo prog 25 14=some 14:=by kernel_rfl
theorem aGa:fo prog 25 15=some 15:=by kernel_rfl
theorem aGb:fo prog 25 16=some 16:=by kernel_rfl
theorem aGc:fo prog 25 17=some 17:=by kernel_rfl
theorem aQw:bH prog 25=some false:=by kernel_rfl
theorem aQx:kd prog 27=some cL.one:=by kernel_rfl
theorem aQy:szA prog 27=some 1:=by kernel_rfl
theorem aQz:zc prog 27=some [(Value.slice none 0 0)]:=by kernel_rfl
theorem aBT:el prog 27=some (2,1,8,[(Value.int IntKind.i64 0)]):=by kernel_rfl
theorem aQA:bH prog 27=some false:=by kernel_rfl
theorem aQB:kd prog 32=some cL.one:=by kernel_rfl
theorem aQC:szA prog 32=some 1:=by kernel_rfl
theorem aQD:zc prog 32=some [(Value.slice none 0 0)]:=by kernel_rfl
theorem aLe:el prog 32=some (90,2,16,[(Value.int IntKind.i64 0),(Value.int IntKind.i64 0)]):=by kernel_rfl
theorem aQE:bH prog 32=some false:=by kernel_rfl
theorem aQF:kd prog 34=some (cL.many 18):=by kernel_rfl
theorem aQG:szA prog 34=some 18:=by kernel_rfl
theorem aQH:zc prog 34=some [(Value.int IntKind.u8 0),(Value.bool false),(Value.int IntKind.i64 0),(Value.int IntKind.i64 0),(Value.int IntKind.i64 0),(Value.int IntKind.i64 0),(Value.bool false),(Value.int IntKind.i64 0),(Value.slice none 0 0),(Value.slice none 0 0),(Value.slice none 0 0),(Value.slice none 0 0),(Value.slice none 0 0),(Value.slice none 0 0),(Value.slice none 0 0),(Value.slice none 0 0),(Value.slice none 0 0),(Value.slice none 0 0)]:=by kernel_rfl
theorem aQI:fp prog 34=some [(0,1),(1,1),(2,1),(3,1),(4,1),(5,1),(6,1),(7,1),(8,1),(9,1),(10,1),(11,1),(12,1),(13,1),(14,1),(15,1),(16,1),(17,1)]:=by kernel_rfl
theorem aJz:fo prog 34 0=some 0:=by kernel_rfl
theorem aJA:fo prog 34 1=some 1:=by kernel_rfl
theorem aJB:fo prog 34 2=some 2:=by kernel_rfl
theorem aJC:fo prog 34 3=some 3:=by kernel_rfl
theorem aJD:fo prog 34 4=some 4:=by kernel_rfl
theorem aJE:fo prog 34 5=some 5:=by kernel_rfl
theorem aJF:fo prog 34 6=some 6:=by kernel_rfl
theorem aJG:fo prog 34 7=some 7:=by kernel_rfl
theorem aJH:fo prog 34 8=some 8:=by kernel_rfl
theorem aJI:fo prog 34 9=some 9:=by kernel_rfl
theorem aGd:fo prog 34 10=some 10:=by kernel_rfl
theorem aGe:fo prog 34 11=some 11:=by kernel_rfl
theorem aGf:fo prog 34 12=some 12:=by kernel_rfl
theorem aGg:fo prog 34 13=some 13:=by kernel_rfl
theorem aGh:fo prog 34 14=some 14:=by kernel_rfl
theorem aGi:fo prog 34 15=some 15:=by kernel_rfl
theorem aGj:fo prog 34 16=some 16:=by kernel_rfl
theorem aGk:fo prog 34 17=some 17:=by kernel_rfl
theorem aQJ:bH prog 34=some false:=by kernel_rfl
theorem aQK:kd prog 41=some (cL.many 2):=by kernel_rfl
theorem aQL:szA prog 41=some 2:=by kernel_rfl
theorem aQM:zc prog 41=some [(Value.int IntKind.i64 0),(Value.int IntKind.i64 0)]:=by kernel_rfl
theorem aQN:fp prog 41=some [(0,1),(1,1)]:=by kernel_rfl
theorem aJJ:fo prog 41 0=some 0:=by kernel_rfl
theorem aJK:fo prog 41 1=some 1:=by kernel_rfl
theorem aJL:eq2 prog 41=true:=by kernel_rfl
theorem aQO:bH prog 41=some false:=by kernel_rfl
theorem aQP:kd prog 71=some cL.one:=by kernel_rfl
theorem aQQ:szA prog 71=some 1:=by kernel_rfl
theorem aQR:zc prog 71=some [(Value.pointer none)]:=by kernel_rfl
theorem aQS:bH prog 71=some false:=by kernel_rfl
theorem aQT:kd prog 73=some cL.one:=by kernel_rfl
theorem aQU:szA prog 73=some 1:=by kernel_rfl
theorem aQV:zc prog 73=some [Value.nilIface]:=by kernel_rfl
theorem aQW:kd prog 76=some cL.one:=by kernel_rfl
theorem aQX:szA prog 76=some 1:=by kernel_rfl
theorem aQY:zc prog 76=some [(Value.int IntKind.i64 0)]:=by kernel_rfl
theorem aQZ:bH prog 76=some false:=by kernel_rfl
theorem aQ0:kd prog 78=some (cL.many 2):=by kernel_rfl
theorem aQ1:szA prog 78=some 2:=by kernel_rfl
theorem aQ2:zc prog 78=some [(Value.int IntKind.i64 0),(Value.int IntKind.i64 0)]:=by kernel_rfl
theorem aQ3:fp prog 78=some [(0,1),(1,1)]:=by kernel_rfl
theorem aJM:fo prog 78 0=some 0:=by kernel_rfl
theorem aJN:fo prog 78 1=some 1:=by kernel_rfl
theorem aJO:eq2 prog 78=true:=by kernel_rfl
theorem aQ4:bH prog 78=some false:=by kernel_rfl
theorem aQ5:kd prog 80=some (cL.many 2):=by kernel_rfl
theorem aQ6:szA prog 80=some 2:=by kernel_rfl
theorem aQ7:zc prog 80=some [(Value.int IntKind.i64 0),(Value.int IntKind.i64 0)]:=by kernel_rfl
theorem aQ8:fp prog 80=some [(0,1),(1,1)]:=by kernel_rfl
theorem aJP:fo prog 80 0=some 0:=by kernel_rfl
theorem aJQ:fo prog 80 1=some 1:=by kernel_rfl
theorem aJR:eq2 prog 80=true:=by kernel_rfl
theorem aQ9:bH prog 80=some false:=by kernel_rfl
theorem aRa:kd prog 81=some cL.one:=by kernel_rfl
theorem aRb:szA prog 81=some 1:=by kernel_rfl
theorem aRc:zc prog 81=some [(Value.slice none 0 0)]:=by kernel_rfl
theorem aH1:el prog 81=some (80,2,16,[(Value.int IntKind.i64 0),(Value.int IntKind.i64 0)]):=by kernel_rfl
theorem aRd:bH prog 81=some false:=by kernel_rfl
theorem aRe:kd prog 83=some (cL.many 19):=by kernel_rfl
theorem aRf:szA prog 83=some 19:=by kernel_rfl
theorem aRg:zc prog 83=some [(Value.int IntKind.i64 0),(Value.int IntKind.i64 0),(Value.int IntKind.i64 0),(Value.int IntKind.i64 0),(Value.int IntKind.i64 0),(Value.int IntKind.i64 0),(Value.int IntKind.i64 0),(Value.int IntKind.i64 0),(Value.int IntKind.i64 0),(Value.slice none 0 0),(Value.slice none 0 0),(Value.slice none 0 0),(Value.slice none 0 0),(Value.slice none 0 0),(Value.slice none 0 0),(Value.slice none 0 0),(Value.slice none 0 0),(Value.slice none 0 0),(Value.slice none 0 0)]:=by kernel_rfl
theorem aRh:fp prog 83=some [(0,1),(1,2),(3,1),(4,2),(6,1),(7,2),(9,1),(10,1),(11,1),(12,1),(13,1),(14,1),(15,1),(16,1),(17,1),(18,1)]:=by kernel_rfl
theorem aJS:fo prog 83 0=some 0:=by kernel_rfl
theorem aJT:fo prog 83 1=some 1:=by kernel_rfl
theorem aJU:fo prog 83 2=some 3:=by kernel_rfl
theorem aJV:fo prog 83 3=some 4:=by kernel_rfl
theorem aJW:fo prog 83 4=some 6:=by kernel_rfl
theorem aJX:fo prog 83 5=some 7:=by kernel_rfl
theorem aJY:fo prog 83 6=some 9:=by kernel_rfl
theorem aJZ:fo prog 83 7=some 10:=by kernel_rfl
theorem aJ0:fo prog 83 8=some 11:=by kernel_rfl
theorem aJ1:fo prog 83 9=some 12:=by kernel_rfl
theorem aGl:fo prog 83 10=some 13:=by kernel_rfl
theorem aGm:fo prog 83 11=some 14:=by kernel_rfl
theorem aGn:fo prog 83 12=some 15:=by kernel_rfl
theorem aGo:fo prog 83 13=some 16:=by kernel_rfl
theorem aGp:fo prog 83 14=some 17:=by kernel_rfl
theorem aGq:fo prog 83 15=some 18:=by kernel_rfl
theorem aRi:bH prog 83=some false:=by kernel_rfl
theorem aRj:kd prog 86=some cL.one:=by kernel_rfl
theorem aRk:szA prog 86=some 1:=by kernel_rfl
theorem aRl:zc prog 86=some [Value.nilFunc]:=by kernel_rfl
theorem aRm:bH prog 86=some false:=by kernel_rfl
theorem aRn:kd prog 90=some (cL.many 2):=by kernel_rfl
theorem aRo:szA prog 90=some 2:=by kernel_rfl
theorem aRp:zc prog 90=some [(Value.int IntKind.i64 0),(Value.int IntKind.i64 0)]:=by kernel_rfl
theorem aRq:fp prog 90=some [(0,1),(1,1)]:=by kernel_rfl
theorem aJ2:fo prog 90 0=some 0:=by kernel_rfl
theorem aJ3:fo prog 90 1=some 1:=by kernel_rfl
theorem aJ4:eq2 prog 90=true:=by kernel_rfl
theorem aRr:bH prog 90=some false:=by kernel_rfl
theorem aRs:kd prog 95=some cL.one:=by kernel_rfl
theorem aRt:szA prog 95=some 1:=by kernel_rfl
theorem aRu:zc prog 95=some [(Value.int IntKind.u64 0)]:=by kernel_rfl
theorem aRv:bH prog 95=some false:=by kernel_rfl
theorem aRw:kd prog 99=some cL.one:=by kernel_rfl
theorem aRx:szA prog 99=some 1:=by kernel_rfl
theorem aRy:zc prog 99=some [(Value.slice none 0 0)]:=by kernel_rfl
theorem vW:el prog 99=some (78,2,16,[(Value.int IntKind.i64 0),(Value.int IntKind.i64 0)]):=by kernel_rfl
theorem aRz:bH prog 99=some false:=by kernel_rfl
theorem aMn:kd prog 112=some (cL.many 60):=by kernel_rfl
theorem aMo:szA prog 112=some 60:=by kernel_rfl
theorem aMp:zc prog 112=some [(Value.int IntKind.i64 0),(Value.int IntKind.i64 0),(Value.int IntKind.i64 0),(Value.int IntKind.i64 0),(Value.int IntKind.i64 0),(Value.int IntKind.i64 0),(Value.int IntKind.i64 0),(Value.int IntKind.i64 0),(Value.int IntKind.i64 0),(Value.slice none 0 0),(Value.slice none 0 0),(Value.slice none 0 0),(Value.slice none 0 0),(Value.slice none 0 0),(Value.slice none 0 0),(Value.slice none 0 0),(Value.slice none 0 0),(Value.slice none 0 0),(Value.slice none 0 0),(Value.int IntKind.i64 0),(Value.int IntKind.i64 0),(Value.int IntKind.i64 0),(Value.int IntKind.i64 0),(Value.int IntKind.i64 0),(Value.int IntKind.i64 0),(Value.int IntKind.i64 0),(Value.int IntKind.i64 0),(Value.int IntKind.i64 0),(Value.slice none 0 0),(Value.slice none 0 0),(Value.slice none 0 0),(Value.slice none 0 0),(Value.slice none 0 0),(Value.slice none 0 0),(Value.slice none 0 0),(Value.slice none 0 0),(Value.slice none 0 0),(Value.slice none 0 0),(Value.int IntKind.i64 0),(Value.int IntKind.i64 0),(Value.int IntKind.i64 0),(Value.int IntKind.i64 0),(Value.int IntKind.i64 0),(Value.int IntKind.i64 0),(Value.int IntKind.i64 0),(Value.int IntKind.i64 0),(Value.slice none 0 0),(Value.slice none 0 0),(Value.slice none 0 0),(Value.slice none 0 0),(Value.slice none 0 0),(Value.slice none 0 0),(Value.slice none 0 0),(Value.slice none 0 0),(Value.slice none 0 0),(Value.slice none 0 0),(Value.slice none 0 0),(Value.slice none 0 0),(Value.slice none 0 0),(Value.int IntKind.i64 0)]:=by kernel_rfl
theorem aMq:fp prog 112=some [(0,19),(19,19),(38,1),(39,2),(41,1),(42,1),(43,1),(44,2),(46,1),(47,1),(48,1),(49,1),(50,1),(51,1),(52,1),(53,1),(54,1),(55,1),(56,1),(57,1),(58,1),(59,1)]:=by kernel_rfl
theorem aGr:fo prog 112 0=some 0:=by kernel_rfl
theorem aGs:fo prog 112 1=some 19:=by kernel_rfl
theorem aGt:fo prog 112 2=some 38:=by kernel_rfl
theorem aGu:fo prog 112 3=some 39:=by kernel_rfl
theorem aGv:fo prog 112 4=some 41:=by kernel_rfl
theorem aGw:fo prog 112 5=some 42:=by kernel_rfl
theorem aGx:fo prog 112 6=some 43:=by kernel_rfl
theorem aGy:fo prog 112 7=some 44:=by kernel_rfl
theorem aGz:fo prog 112 8=some 46:=by kernel_rfl
theorem aGA:fo prog 112 9=some 47:=by kernel_rfl
theorem aEi:fo prog 112 10=some 48:=by kernel_rfl
theorem aEj:fo prog 112 11=some 49:=by kernel_rfl
theorem aEk:fo prog 112 12=some 50:=by kernel_rfl
theorem aEl:fo prog 112 13=some 51:=by kernel_rfl
theorem aEm:fo prog 112 14=some 52:=by kernel_rfl
theorem aEn:fo prog 112 15=some 53:=by kernel_rfl
theorem aEo:fo prog 112 16=some 54:=by kernel_rfl
theorem aEp:fo prog 112 17=some 55:=by kernel_rfl
theorem aEq:fo prog 112 18=some 56:=by kernel_rfl
theorem aEr:fo prog 112 19=some 57:=by kernel_rfl
theorem aEs:fo prog 112 20=some 58:=by kernel_rfl
theorem aEt:fo prog 112 21=some 59:=by kernel_rfl
theorem aMr:bH prog 112=some false:=by kernel_rfl
theorem aMs:kd prog 115=some cL.one:=by kernel_rfl
theorem aMt:szA prog 115=some 1:=by kernel_rfl
theorem aMu:zc prog 115=some [(Value.int IntKind.i64 0)]:=by kernel_rfl
theorem aMv:bH prog 115=some false:=by kernel_rfl
theorem aMw:kd prog 117=some (cL.many 16):=by kernel_rfl
theorem aMx:szA prog 117=some 16:=by kernel_rfl
theorem aMy:zc prog 117=some [(Value.pointer none),(Value.int IntKind.i64 0),(Value.int IntKind.i64 0),(Value.int IntKind.i64 0),(Value.int IntKind.i64 0),(Value.int IntKind.i64 0),(Value.int IntKind.i64 0),(Value.int IntKind.i64 0),(Value.slice none 0 0),(Value.slice none 0 0),(Value.slice none 0 0),(Value.slice none 0 0),(Value.slice none 0 0),(Value.slice none 0 0),(Value.slice none 0 0),(Value.slice none 0 0)]:=by kernel_rfl
theorem aMz:fp prog 117=some [(0,1),(1,1),(2,1),(3,1),(4,1),(5,2),(7,1),(8,1),(9,1),(10,1),(11,1),(12,1),(13,1),(14,1),(15,1)]:=by kernel_rfl
theorem aGB:fo prog 117 0=some 0:=by kernel_rfl
theorem aGC:fo prog 117 1=some 1:=by kernel_rfl
theorem aGD:fo prog 117 2=some 2:=by kernel_rfl
theorem aGE:fo prog 117 3=some 3:=by kernel_rfl
theorem aGF:fo prog 117 4=some 4:=by kernel_rfl
theorem aGG:fo prog 117 5=some 5:=by kernel_rfl
theorem aGH:fo prog 117 6=some 7:=by kernel_rfl
theorem aGI:fo prog 117 7=some 8:=by kernel_rfl
theorem aGJ:fo prog 117 8=some 9:=by kernel_rfl
theorem aGK:fo prog 117 9=some 10:=by kernel_rfl
theorem aEu:fo prog 117 10=some 11:=by kernel_rfl
theorem aEv:fo prog 117 11=some 12:=by kernel_rfl
theorem aEw:fo prog 117 12=some 13:=by kernel_rfl
theorem aEx:fo prog 117 13=some 14:=by kernel_rfl
theorem aEy:fo prog 117 14=some 15:=by kernel_rfl
theorem aMA:bH prog 117=some false:=by kernel_rfl
theorem aMB:kd prog 119=some (cL.many 2):=by kernel_rfl
theorem aMC:szA prog 119=some 2:=by kernel_rfl
theorem aMD:zc prog 119=some [(Value.slice none 0 0),(Value.slice none 0 0)]:=by kernel_rfl
theorem aME:fp prog 119=some [(0,1),(1,1)]:=by kernel_rfl
theorem aGL:fo prog 119 0=some 0:=by kernel_rfl
theorem aGM:fo prog 119 1=some 1:=by kernel_rfl
theorem aMF:bH prog 119=some false:=by kernel_rfl
theorem aMG:kd prog 120=some cL.one:=by kernel_rfl
theorem aMH:szA prog 120=some 1:=by kernel_rfl
theorem aMI:zc prog 120=some [(Value.slice none 0 0)]:=by kernel_rfl
theorem aA5:el prog 120=some (219,2,16,[(Value.int IntKind.i64 0),(Value.bool false)]):=by kernel_rfl
theorem aMJ:bH prog 120=some false:=by kernel_rfl
theorem aMK:kd prog 122=some (cL.many 30):=by kernel_rfl
theorem aML:szA prog 122=some 30:=by kernel_rfl
theorem aMM:zc prog 122=some [(Value.int IntKind.i64 0),(Value.int IntKind.i64 0),(Value.int IntKind.i64 0),(Value.int IntKind.i64 0),(Value.int IntKind.i64 0),(Value.int IntKind.i64 0),(Value.int IntKind.i64 0),(Value.pointer none),(Value.int IntKind.i64 0),(Value.int IntKind.i64 0),(Value.int IntKind.i64 0),(Value.int IntKind.i64 0),(Value.int IntKind.i64 0),(Value.int IntKind.i64 0),(Value.int IntKind.i64 0),(Value.slice none 0 0),(Value.slice none 0 0),(Value.slice none 0 0),(Value.slice none 0 0),(Value.slice none 0 0),(Value.slice none 0 0),(Value.slice none 0 0),(Value.slice none 0 0),(Value.slice none 0 0),(Value.int IntKind.i64 0),(Value.int IntKind.i64 0),(Value.slice none 0 0),(Value.slice none 0 0),(Value.bool false),(Value.slice none 0 0)]:=by kernel_rfl
theorem aMN:fp prog 122=some [(0,1),(1,1),(2,1),(3,1),(4,1),(5,1),(6,1),(7,16),(23,1),(24,1),(25,1),(26,2),(28,1),(29,1)]:=by kernel_rfl
theorem aGN:fo prog 122 0=some 0:=by kernel_rfl
theorem aGO:fo prog 122 1=some 1:=by kernel_rfl
theorem aGP:fo prog 122 2=some 2:=by kernel_rfl
theorem aGQ:fo prog 122 3=some 3:=by kernel_rfl
theorem aGR:fo prog 122 4=some 4:=by kernel_rfl
theorem aGS:fo prog 122 5=some 5:=by kernel_rfl
theorem aGT:fo prog 122 6=some 6:=by kernel_rfl
theorem aGU:fo prog 122 7=some 7:=by kernel_rfl
theorem aGV:fo prog 122 8=some 23:=by kernel_rfl
theorem aGW:fo prog 122 9=some 24:=by kernel_rfl
theorem aEz:fo prog 122 10=some 25:=by kernel_rfl
theorem aEA:fo prog 122 11=some 26:=by kernel_rfl
theorem aEB:fo prog 122 12=some 28:=by kernel_rfl
theorem aEC:fo prog 122 13=some 29:=by kernel_rfl
theorem aMO:bH prog 122=some false:=by kernel_rfl
theorem aMP:kd prog 128=some cL.one:=by kernel_rfl
theorem aMQ:szA prog 128=some 1:=by kernel_rfl
theorem aMR:zc prog 128=some [(Value.int IntKind.i64 0)]:=by kernel_rfl
theorem aMS:bH prog 128=some false:=by kernel_rfl
theorem aMT:kd prog 132=some cL.one:=by kernel_rfl
theorem aMU:szA prog 132=some 1:=by kernel_rfl
theorem aMV:zc prog 132=some [(Value.pointer none)]:=by kernel_rfl
theorem aMW:bH prog 132=some false:=by kernel_rfl
theorem aMX:kd prog 134=some cL.one:=by kernel_rfl
theorem aMY:szA prog 134=some 1:=by kernel_rfl
theorem aMZ:zc prog 134=some [(Value.int IntKind.i64 0)]:=by kernel_rfl
theorem aM0:bH prog 134=some false:=by kernel_rfl
theorem aM1:kd prog 143=some cL.one:=by kernel_rfl
theorem aM2:szA prog 143=some 1:=by kernel_rfl
theorem aM3:zc prog 143=some [(Value.int IntKind.u32 0)]:=by kernel_rfl
theorem aM4:bH prog 143=some false:=by kernel_rfl
theorem aM5:kd prog 145=some cL.one:=by kernel_rfl
theorem aM6:szA prog 145=some 1:=by kernel_rfl
theorem aM7:zc prog 145=some [(Value.int IntKind.u64 0)]:=by kernel_rfl
theorem aM8:bH prog 145=some false:=by kernel_rfl
theorem aM9:kd prog 151=some (cL.many 24):=by kernel_rfl
theorem aNa:szA prog 151=some 24:=by kernel_rfl
theorem aNb:zc prog 151=some [(Value.bool false),(Value.bool false),(Value.bool false),(Value.bool false),(Value.bool false),(Value.bool false),(Value.bool false),(Value.bool false),(Value.bool false),(Value.bool false),(Value.bool false),(Value.bool false),(Value.bool false),(Value.bool false),(Value.bool false),(Value.bool false),(Value.bool false),(Value.bool false),(Value.bool false),(Value.bool false),(Value.bool false),(Value.bool false),(Value.bool false),(Value.bool false)]:=by kernel_rfl
theorem aNc:ar prog 151=some (24,1):=by kernel_rfl
theorem aJ5:ars prog 151=some 1:=by kernel_rfl
theorem aNd:fp prog 151=none:=by kernel_rfl
theorem aNe:bH prog 151=some false:=by kernel_rfl
theorem aNf:kd prog 152=some (cL.many 60):=by kernel_rfl
theorem aNg:szA prog 152=some 60:=by kernel_rfl
theorem aNh:zc prog 152=some [(Value.bool false),(Value.bool false),(Value.bool false),(Value.bool false),(Value.bool false),(Value.bool false),(Value.bool false),(Value.bool false),(Value.bool false),(Value.bool false),(Value.bool false),(Value.bool false),(Value.bool false),(Value.bool false),(Value.bool false),(Value.bool false),(Value.bool false),(Value.bool false),(Value.bool false),(Value.bool false),(Value.bool false),(Value.bool false),(Value.bool false),(Value.bool false),(Value.bool false),(Value.bool false),(Value.bool false),(Value.bool false),(Value.bool false),(Value.bool false),(Value.bool false),(Value.bool false),(Value.bool false),(Value.bool false),(Value.bool false),(Value.bool false),(Value.bool false),(Value.bool false),(Value.bool false),(Value.bool false),(Value.bool false),(Value.bool false),(Value.bool false),(Value.bool false),(Value.bool false),(Value.bool false),(Value.bool false),(Value.bool false),(Value.bool false),(Value.bool false),(Value.bool false),(Value.bool false),(Value.bool false),(Value.bool false),(Value.bool false),(Value.bool false),(Value.bool false),(Value.bool false),(Value.bool false),(Value.bool false)]:=by kernel_rfl
theorem aNi:ar prog 152=some (60,1):=by kernel_rfl
theorem aJ6:ars prog 152=some 1:=by kernel_rfl
theorem aNj:fp prog 152=none:=by kernel_rfl
theorem aNk:bH prog 152=some false:=by kernel_rfl
theorem aNl:kd prog 154=some (cL.many 4):=by kernel_rfl
theorem aNm:szA prog 154=some 4:=by kernel_rfl
theorem aNn:zc prog 154=some [(Value.int IntKind.i64 0),(Value.int IntKind.i64 0),(Value.int IntKind.i64 0),(Value.int IntKind.i64 0)]:=by kernel_rfl
theorem aNo:fp prog 154=some [(0,1),(1,1),(2,1),(3,1)]:=by kernel_rfl
theorem aGX:fo prog 154 0=some 0:=by kernel_rfl
theorem aGY:fo prog 154 1=some 1:=by kernel_rfl
theorem aGZ:fo prog 154 2=some 2:=by kernel_rfl
theorem aG0:fo prog 154 3=some 3:=by kernel_rfl
theorem aNp:bH prog 154=some false:=by kernel_rfl
theorem aNq:kd prog 157=some cL.one:=by kernel_rfl
theorem aNr:szA prog 157=some 1:=by kernel_rfl
theorem aNs:zc prog 157=some [Value.nilFunc]:=by kernel_rfl
theorem aNt:bH prog 157=some false:=by kernel_rfl
theorem aNu:kd prog 159=some (cL.many 3):=by kernel_rfl
theorem aNv:szA prog 159=some 3:=by kernel_rfl
theorem aNw:zc prog 159=some [(Value.int IntKind.i64 0),(Value.int IntKind.i64 0),(Value.int IntKind.i64 0)]:=by kernel_rfl
theorem aNx:fp prog 159=some [(0,1),(1,1),(2,1)]:=by kernel_rfl
theorem aG1:fo prog 159 0=some 0:=by kernel_rfl
theorem aG2:fo prog 159 1=some 1:=by kernel_rfl
theorem aG3:fo prog 159 2=some 2:=by kernel_rfl
theorem aNy:bH prog 159=some false:=by kernel_rfl
theorem aNz:kd prog 164=some (cL.many 4):=by kernel_rfl
theorem aNA:szA prog 164=some 4:=by kernel_rfl
theorem aNB:zc prog 164=some [(Value.slice none 0 0),(Value.string (ByteArray.mk (List.toArray []))),(Value.slice none 0 0),(Value.bool false)]:=by kernel_rfl
theorem aNC:fp prog 164=some [(0,1),(1,1),(2,1),(3,1)]:=by kernel_rfl
theorem aG4:fo prog 164 0=some 0:=by kernel_rfl
theorem aG5:fo prog 164 1=some 1:=by kernel_rfl
theorem aG6:fo prog 164 2=some 2:=by kernel_rfl
theorem aG7:fo prog 164 3=some 3:=by kernel_rfl
theorem aND:bH prog 164=some false:=by kernel_rfl
theorem aNE:kd prog 165=some cL.one:=by kernel_rfl
theorem aNF:szA prog 165=some 1:=by kernel_rfl
theorem aNG:zc prog 165=some [(Value.slice none 0 0)]:=by kernel_rfl
theorem aNH:el prog 165=some (164,4,72,[(Value.slice none 0 0),(Value.string (ByteArray.mk (List.toArray []))),(Value.slice none 0 0),(Value.bool false)]):=by kernel_rfl
theorem aNI:bH prog 165=some false:=by kernel_rfl
theorem aNJ:kd prog 169=some cL.one:=by kernel_rfl
theorem aNK:szA prog 169=some 1:=by kernel_rfl
theorem aNL:zc prog 169=some [(Value.int IntKind.i64 0)]:=by kernel_rfl
theorem aNM:bH prog 169=some false:=by kernel_rfl
theorem aNN:kd prog 174=some (cL.many 0):=by kernel_rfl
theorem aNO:szA prog 174=some 0:=by kernel_rfl
theorem aNP:zc prog 174=some []:=by kernel_rfl
theorem aNQ:fp prog 174=some []:=by kernel_rfl
theorem aNR:bH prog 174=some false:=by kernel_rfl
theorem aNS:kd prog 177=some cL.one:=by kernel_rfl
theorem aNT:szA prog 177=some 1:=by kernel_rfl
theorem aNU:zc prog 177=some [(Value.slice none 0 0)]:=by kernel_rfl
theorem aNV:el prog 177=some (78,2,16,[(Value.int IntKind.i64 0),(Value.int IntKind.i64 0)]):=by kernel_rfl
theorem aNW:bH prog 177=some false:=by kernel_rfl
theorem aNX:kd prog 182=some cL.one:=by kernel_rfl
theorem aNY:szA prog 182=some 1:=by kernel_rfl
theorem aNZ:zc prog 182=some [(Value.pointer none)]:=by kernel_rfl
theorem aN0:bH prog 182=some false:=by kernel_rfl
theorem aN1:kd prog 186=some cL.one:=by kernel_rfl
theorem aN2:szA prog 186=some 1:=by kernel_rfl
theorem aN3:zc prog 186=some [(Value.slice none 0 0)]:=by kernel_rfl
theorem aH2:el prog 186=some (22,1,24,[(Value.slice none 0 0)]):=by kernel_rfl
theorem aN4:bH prog 186=some false:=by kernel_rfl
theorem aN5:kd prog 189=some cL.one:=by kernel_rfl
theorem aN6:szA prog 189=some 1:=by kernel_rfl
theorem aN7:zc prog 189=some [(Value.pointer none)]:=by kernel_rfl
theorem aN8:bH prog 189=some false:=by kernel_rfl
theorem aN9:kd prog 194=some cL.one:=by kernel_rfl
theorem aOa:szA prog 194=some 1:=by kernel_rfl
theorem aOb:zc prog 194=some [(Value.pointer none)]:=by kernel_rfl
theorem aOc:bH prog 194=some false:=by kernel_rfl
theorem aOd:kd prog 199=some cL.one:=by kernel_rfl
theorem aOe:szA prog 199=some 1:=by kernel_rfl
theorem aOf:zc prog 199=some [(Value.map none)]:=by kernel_rfl
theorem aOg:bH prog 199=some false:=by kernel_rfl
theorem aOh:kd prog 200=some (cL.many 2):=by kernel_rfl
theorem aOi:szA prog 200=some 2:=by kernel_rfl
theorem aOj:zc prog 200=some [(Value.int IntKind.i64 0),(Value.int IntKind.i64 0)]:=by kernel_rfl
theorem aOk:ar prog 200=some (2,1):=by kernel_rfl
theorem aJ7:ars prog 200=some 1:=by kernel_rfl
theorem aOl:fp prog 200=none:=by kernel_rfl
theorem aOm:bH prog 200=some false:=by kernel_rfl
theorem aOn:kd prog 205=some cL.one:=by kernel_rfl
theorem aOo:szA prog 205=some 1:=by kernel_rfl
theorem aOp:zc prog 205=some [(Value.pointer none)]:=by kernel_rfl
theorem aOq:bH prog 205=some false:=by kernel_rfl
theorem aOr:kd prog 207=some (cL.many 1):=by kernel_rfl
theorem aOs:szA prog 207=some 1:=by kernel_rfl
theorem aOt:zc prog 207=some [(Value.string (ByteArray.mk (List.toArray [])))]:=by kernel_rfl
theorem aOu:fp prog 207=some [(0,1)]:=by kernel_rfl
theorem aG8:fo prog 207 0=some 0:=by kernel_rfl
theorem aOv:bH prog 207=some false:=by kernel_rfl
theorem aOw:kd prog 210=some cL.one:=by kernel_rfl
theorem aOx:szA prog 210=some 1:=by kernel_rfl
theorem aOy:zc prog 210=some [Value.nilIface]:=by kernel_rfl
theorem aOz:kd prog 214=some cL.one:=by kernel_rfl
theorem aOA:szA prog 214=some 1:=by kernel_rfl
theorem aOB:zc prog 214=some [(Value.float FloatKind.f64 0)]:=by kernel_rfl
theorem aOC:bH prog 214=some false:=by kernel_rfl
theorem aOD:kd prog 219=some (cL.many 2):=by kernel_rfl
theorem aOE:szA prog 219=some 2:=by kernel_rfl
theorem aOF:zc prog 219=some [(Value.int IntKind.i64 0),(Value.bool false)]:=by kernel_rfl
theorem aOG:fp prog 219=some [(0,1),(1,1)]:=by kernel_rfl
theorem aG9:fo prog 219 0=some 0:=by kernel_rfl
theorem aHa:fo prog 219 1=some 1:=by kernel_rfl
theorem aOH:bH prog 219=some false:=by kernel_rfl
theorem aOI:kd prog 226=some cL.one:=by kernel_rfl
theorem aOJ:szA prog 226=some 1:=by kernel_rfl
theorem aOK:zc prog 226=some [(Value.pointer none)]:=by kernel_rfl
theorem aOL:bH prog 226=some false:=by kernel_rfl
theorem aOM:kd prog 232=some cL.one:=by kernel_rfl
theorem aON:szA prog 232=some 1:=by kernel_rfl
theorem aOO:zc prog 232=some [(Value.int IntKind.i64 0)]:=by kernel_rfl
theorem aOP:bH prog 232=some false:=by kernel_rfl
theorem aOQ:kd prog 240=some cL.one:=by kernel_rfl
theorem aOR:szA prog 240=some 1:=by kernel_rfl
theorem aOS:zc prog 240=some [(Value.int IntKind.u64 0)]:=by kernel_rfl
theorem aOT:bH prog 240=some false:=by kernel_rfl
theorem aOU:kd prog 251=some cL.one:=by kernel_rfl
theorem aOV:szA prog 251=some 1:=by kernel_rfl
theorem aOW:zc prog 251=some [(Value.pointer none)]:=by kernel_rfl
theorem aOX:bH prog 251=some false:=by kernel_rfl
theorem bI:prog.follows .mixedOrders=true:=by kernel_rfl
end F
namespace AL
open Go.RowKit
variable {P:Program} {C:dC}
theorem zI {m m':aX} (h:m <+: m') {o:Nat} {b b':Nat×Nat} (h1:m[o]?=some b) (h2:m'[o]?=some b'):b'=b:=by
 rw[gY h h1] at h2;exact (Option.some.inj h2).symm
mutual
theorem rel_back {m m':aX} {w w':World} (hp:m <+: m'):∀{c:AV} {u v:Value},rel m w c u→rel m' w' c v→rel m w' c v
 |.val _,_,_,_,h=>h
 |.ptr ..,_,_,⟨b,h1,_⟩,⟨b',h2,h3⟩=>⟨b,h1,by rw[←zI hp h1 h2];exact h3⟩
 |.sl ..,_,_,⟨b,_,_,h1,_⟩,⟨b',a,cap,h2,h3⟩=>⟨b,a,cap,h1,by rw[←zI hp h1 h2];exact h3⟩
 |.mp _,_,_,⟨b,h1,_⟩,⟨b',h2,h3⟩=>⟨b,h1,by rw[←zI hp h1 h2];exact h3⟩
 |.ifc _ c,_,_,⟨u,_,h1⟩,⟨v,h2,h3⟩=>⟨v,h2,rel_back hp h1 h3⟩
 |.fn _ a c,_,_,⟨_,_,_,h1,h2⟩,⟨vs,us,h3,h4,h5⟩=>⟨vs,us,h3,rels_back hp h1 h4,rels_back hp h2 h5⟩
 |.agg l,_,_,⟨_,_,h1⟩,⟨vs,h2,h3⟩=>⟨vs,h2,rels_back hp h1 h3⟩
 |.tup l,_,_,⟨_,_,h1⟩,⟨vs,h2,h3⟩=>⟨vs,h2,rels_back hp h1 h3⟩
 |.any,_,_,_,_=>trivial
theorem rels_back {m m':aX} {w w':World} (hp:m <+: m'):∀{l:List AV} {us vs:List Value},rels m w l us→rels m' w' l vs→rels m w' l vs
 |[],_,[],_,_=>trivial
 |c::l,u::us,v::vs,h1,h2=>⟨rel_back hp h1.1 h2.1,rels_back hp h1.2 h2.2⟩
 |[],_,_::_,_,h=>h.elim
 |_::_,_,[],_,h=>h.elim
 |_::_,[],_::_,h,_=>h.elim
end
mutual
theorem plain_self (m:aX) (w:World):∀{c:AV} {v:Value},plain c=some v→rel m w c v
 |.val u,v,h=>by simp only[plain,Option.some.injEq] at h;exact h.symm
 |.agg l,v,h=>by
  simp only[plain,Option.map_eq_some_iff] at h
  obtain⟨vs,h1,rfl⟩:=h
  exact⟨_,rfl,plains_self m w h1⟩
 |.tup l,v,h=>by
  simp only[plain,Option.map_eq_some_iff] at h
  obtain⟨vs,h1,rfl⟩:=h
  exact⟨_,rfl,plains_self m w h1⟩
 |.ifc t c,v,h=>by
  simp only[plain,Option.map_eq_some_iff] at h
  obtain⟨u,h1,rfl⟩:=h
  exact⟨_,rfl,plain_self m w h1⟩
 |.ptr ..,_,h=>by simp[plain] at h
 |.sl ..,_,h=>by simp[plain] at h
 |.mp ..,_,h=>by simp[plain] at h
 |.fn ..,_,h=>by simp[plain] at h
 |.any,_,h=>by simp[plain] at h
theorem plains_self (m:aX) (w:World):∀{l:List AV} {vs:List Value},plains l=some vs→rels m w l vs
 |[],vs,h=>by simp only[plains,Option.some.injEq] at h;subst h;trivial
 |c::l,vs,h=>by
  simp only[plains,Option.bind_eq_some_iff,Option.map_eq_some_iff] at h
  obtain⟨v,h1,vs',h2,rfl⟩:=h
  exact⟨plain_self m w h1,plains_self m w h2⟩
end
theorem aCO {m m':aX} {w w':World} (hp:m <+: m') {b:Nat×Nat} {x:aD} (h1:relO C m w b x) (h2:relO C m' w' b x):relO C m w' b x:=by
 cases x with
 |gone=>trivial
 |ro cs=>
  refine⟨h2.1,fun j c hj=>?_⟩
  obtain⟨v,k1,k2⟩:=h2.2 j c hj
  obtain⟨u,k3,k4⟩:=h1.2 j c hj
  exact⟨v,k1,rel_back hp k4 k2⟩
 |own e cs=>
  obtain⟨p1,arr,p2,p3,p4⟩:=h2
  obtain⟨q1,arr',q2,q3,q4⟩:=h1
  refine⟨p1,arr,p2,p3,fun j c hj=>?_⟩
  obtain⟨v,k1,k2⟩:=p4 j c hj
  obtain⟨u,k3,k4⟩:=q4 j c hj
  exact⟨v,k1,rel_back hp k4 k2⟩
 |map es=>
  obtain⟨p1,ens,ck,p2,p3,p4⟩:=h2
  obtain⟨q1,ens',ck',q2,q3,q4⟩:=h1
  refine⟨p1,ens,ck,p2,p3,fun j k c hj=>?_⟩
  obtain⟨v,k1,k2,k3⟩:=p4 j k c hj
  obtain⟨u,k4,k5,k6⟩:=q4 j k c hj
  exact⟨v,k1,k2,rel_back hp k6 k3⟩
 |mapI es=>exact h2
theorem cE.back {m m':aX} {w w':World} {H G:aB} (h:cE C m w H) (h':cE C m' w' (H++G)) (hp:m <+: m'):cE C m w' H where
 below:=h'.below
 size:=h'.size
 len:=h.len
 glob:=h.glob
 obj:=fun o x b hx hb=>aCO hp (h.obj o x b hx hb) (h'.obj o x b (aZ hx) (gY hp hb))
 apart:=fun o o' x x' b b' n h1 h2 h3 h4=>h'.apart o o' x x' b b' n (aZ h1) (aZ h2) (gY hp h3) (gY hp h4)
theorem aH.plain {f:FuncId} {args:List AV} {H:aB} {R:AV→Prop} (h:aH P C f args H fun r H'=>R r∧∃G,H'=H++G) (hx:∀r,R r→∃u,plain r=some u):aH P C f args H fun r H'=>R r∧H'=H:=
 ⟨h.1,fun m w vals h1 h2=>(h.2 m w vals h1 h2).mono fun e w' ⟨rv,m',H',r,a,b,c,hr,G,hG⟩=>by
  subst hG
  obtain⟨u,hu⟩:=hx r hr
  exact⟨rv,m,H,r,a,⟨List.prefix_refl m,b.szs,h1.back b.rep b.pre⟩,by rw[plain_rel hu c];exact plain_self m w' hu,hr,rfl⟩⟩
theorem aH.plain1 {f:FuncId} {args:List AV} {H:aB} {x:AV} {u:Value} (hx:AL.plain x=some u) (h:aH P C f args H fun r H'=>r=x∧∃G,H'=H++G):aH P C f args H fun r H'=>r=x∧H'=H:=
 h.plain fun r hr=>⟨u,by rw[hr];exact hx⟩
theorem aH.drop {P:Program} {C:dC} {f:FuncId} {args:List AV} {H:aB} {R:AV→Prop} {x:AV} (h:aH P C f args H fun r H'=>R r∧∃G,H'=H++G) (hx:∀r,R r→∀m m0 w v,rel m w r v→rel m0 w x v):aH P C f args H fun r H'=>r=x∧H'=H:=
 ⟨h.1,fun m w vals h1 h2=>(h.2 m w vals h1 h2).mono fun e w' ⟨rv,m',H',r,a,b,c,hr,G,hG⟩=>by
  subst hG
  exact⟨rv,m,H,x,a,⟨List.prefix_refl m,b.szs,h1.back b.rep b.pre⟩,hx r hr _ _ _ _ c,rfl,rfl⟩⟩
mutual
def flat:AV→Bool
 |.val _=>true
 |.any=>true
 |.ifc _ x=>flat x
 |.agg l=>flats l
 |.tup l=>flats l
 |_=>false
def flats:List AV→Bool
 |[]=>true
 |c::l=>flat c&&flats l
end
mutual
theorem flat_rel {m m0:aX} {w:World}:∀{c:AV} {v:Value},flat c=true→rel m w c v→rel m0 w c v
 |.val _,_,_,h=>h
 |.any,_,_,_=>trivial
 |.ifc _ x,_,hf,⟨u,h1,h2⟩=>⟨u,h1,flat_rel (by simpa [flat] using hf) h2⟩
 |.agg l,_,hf,⟨vs,h1,h2⟩=>⟨vs,h1,flats_rel (by simpa [flat] using hf) h2⟩
 |.tup l,_,hf,⟨vs,h1,h2⟩=>⟨vs,h1,flats_rel (by simpa [flat] using hf) h2⟩
 |.ptr ..,_,hf,_=>by simp[flat] at hf
 |.sl ..,_,hf,_=>by simp[flat] at hf
 |.mp ..,_,hf,_=>by simp[flat] at hf
 |.fn ..,_,hf,_=>by simp[flat] at hf
theorem flats_rel {m m0:aX} {w:World}:∀{l:List AV} {vs:List Value},flats l=true→rels m w l vs→rels m0 w l vs
 |[],[],_,_=>trivial
 |c::l,v::vs,hf,h=>by
  simp only[flats,Bool.and_eq_true] at hf
  exact⟨flat_rel hf.1 h.1,flats_rel hf.2 h.2⟩
 |[],_::_,_,h=>h.elim
 |_::_,[],_,h=>h.elim
end
theorem aH.flat {P:Program} {C:dC} {f:FuncId} {args:List AV} {H:aB} {x:AV} (hx:AL.flat x=true) (h:aH P C f args H fun r H'=>r=x∧∃G,H'=H++G):aH P C f args H fun r H'=>r=x∧H'=H:=
 aH.drop (R:=fun r=>r=x) h fun r hr m m0 w v hv=>by subst hr;exact flat_rel hx hv
def aDn:aD→Bool
 |.ro cs=>flats cs
 |.own _ cs=>flats cs
 |.map _=>false
 |.mapI _=>true
 |.gone=>true
theorem aCP {l:List AV} (h:flats l=true) {c:AV} (hc:c∈l):flat c=true:=by
 induction l with
 |nil=>simp at hc
 |cons a l ih=>
  simp only[flats,Bool.and_eq_true] at h
  rcases List.mem_cons.1 hc with rfl|hc
  ·exact h.1
  ·exact ih h.2 hc
theorem aJ8 {C:dC} {m m0:aX} {w:World} {b:Nat×Nat} {x:aD} (hf:aDn x=true) (h:relO C m w b x):relO C m0 w b x:=by
 cases x with
 |gone=>trivial
 |ro cs=>
  refine⟨h.1,fun j c hj=>?_⟩
  obtain⟨v,k1,k2⟩:=h.2 j c hj
  exact⟨v,k1,flat_rel (aCP hf (List.mem_of_getElem? hj)) k2⟩
 |own e cs=>
  obtain⟨p1,arr,p2,p3,p4⟩:=h
  refine⟨p1,arr,p2,p3,fun j c hj=>?_⟩
  obtain⟨v,k1,k2⟩:=p4 j c hj
  exact⟨v,k1,flat_rel (aCP hf (List.mem_of_getElem? hj)) k2⟩
 |map es=>simp[aDn] at hf
 |mapI es=>exact h
theorem cE.tidy {C:dC} {m m':aX} {w w':World} {H H1 G:aB} (h:cE C m w H) (h':cE C m' w' (H1++G)) (hp:m <+: m') (hl:H1.length=H.length) (hx:∀(o:Nat) x,H1[o]?=some x→H[o]?=some x∨aDn x=true):cE C m w' H1 where
 below:=h'.below
 size:=h'.size
 len:=by rw[h.len,hl]
 glob:=h.glob
 obj:=fun o x b ho hb=>by
  have h1:=h'.obj o x b (aZ ho) (gY hp hb)
  rcases hx o x ho with e|e
  ·exact aCO hp (h.obj o x b e hb) h1
  ·exact aJ8 e h1
 apart:=fun o o' x x' b b' n h1 h2 h3 h4=>h'.apart o o' x x' b b' n (aZ h1) (aZ h2) (gY hp h3) (gY hp h4)
theorem aH.tidy {P:Program} {C:dC} {f:FuncId} {args:List AV} {H H1:aB} {x:AV} (hf:AL.flat x=true) (hl:H1.length=H.length) (hx:∀(o:Nat) y,H1[o]?=some y→H[o]?=some y∨aDn y=true) (h:aH P C f args H fun r H'=>r=x∧∃G,H'=H1++G):aH P C f args H fun r H'=>r=x∧H'=H1:=
 ⟨h.1,fun m w vals h1 h2=>(h.2 m w vals h1 h2).mono fun e w' ⟨rv,m',H',r,a,b,c,hr,G,hG⟩=>by
  subst hG
  exact⟨rv,m,H1,x,a,⟨List.prefix_refl m,b.szs,h1.tidy b.rep b.pre hl hx⟩,by subst hr;exact flat_rel hf c,rfl,rfl⟩⟩
variable {P:Program} {C:dC}
theorem aCQ {w w':World} (h:Below w.heap.size w w'):Szs w w':=fun b arr e fr hb=>by
 have hlt:b<w.heap.size:=(Array.getElem?_eq_some_iff.1 hb).1
 exact⟨arr,by rw[h.block b hlt];exact hb,rfl⟩
theorem cE.belowW {m:aX} {w w':World} {H:aB} (h:cE C m w H) (hb:Below w.heap.size w w'):cE C m w' H where
 below:=h.below.trans (hb.mono h.size)
 size:=Nat.le_trans h.size hb.size
 len:=h.len
 glob:=h.glob
 obj:=fun o x b hx hm=>by
  cases x with
  |gone=>trivial
  |_=>exact iT (h.obj o _ b hx hm) (aCQ hb) (hb.block _ (h.mine_lt hx hm (by simp)))
 apart:=h.apart
theorem aO9 {m:aX} {w:World} {args:List Value} {vals:Array Value} (h:rels m w (args.map .val) vals.toList):vals=args.toArray:=by
 have hp:∀l:List Value,plains (l.map .val)=some l:=by
  intro l
  induction l with
  |nil=>rfl
  |cons v l ih=>simp[plains,plain,ih]
 have:=plains_rel (hp args) h
 rw[←this]
theorem aR3 {f:FuncId} {args:List Value} {rv:Value} {H:aB} (hc:nS P f) (h:∀w,Below C.B C.w0 w→C.B≤w.heap.size→Calls P f args.toArray w fun e w'=>e=.returned rv∧Below w.heap.size w w'):aH P C f (args.map .val) H fun r H'=>r=.val rv∧H'=H:=
 ⟨hc,fun m w vals h1 h2=>by
  rw[aO9 h2]
  refine (h w h1.below h1.size).mono ?_
  rintro e w' ⟨rfl,hb⟩
  exact⟨rv,m,H,.val rv,rfl,⟨List.prefix_refl m,aCQ hb,h1.belowW hb⟩,rfl,rfl,rfl⟩⟩
theorem aFq {f : FuncId} {fn : Func} (hf : P.funcs[f]? = some fn) (hn : (fn.name == "runtime.NumGoroutine") = false) (hb : fn.body.isNone = false) : nS P f := ⟨fn, hf, hn, hb⟩
abbrev CB (w0:World):dC:=⟨w0.heap.size,w0,1⟩
end AL
namespace F
def aR (y:Int):Bool:=decide (y%4=0)&&(decide (y%100≠0)||decide (y%400=0))
def aO (y m:Int):Int:=if m=4∨m=6∨m=9∨m=11 then 30 else if m=2 then (if aR y then 29 else 28) else 31
def aC (y:Int):Int:=365*(y-1)+(y-1)/4-(y-1)/100+(y-1)/400
def iB (n:Int):Nat→Int→Int
 |0,y=>y
 |k+1,y=>if aC (y+1)≤n then iB n k (y+1) else y
def eK (y:Int):Nat→Int→Int→Int×Int
 |0,m,d=>(m,d)
 |k+1,m,d=>if aO y m<d then eK y k (m+1) (d-aO y m) else (m,d)
def aK (n:Int):Int:=iB n (n.toNat+1) (n/366+1)
def aL (n:Int):Int×Int:=eK (aK n) 400 1 (n-aC (aK n)+1)
theorem aFr {n y:Int} (h:¬aC (y+1)≤n):∀k,iB n k y=y
 |0=>rfl
 |k+1=>by rw[iB,if_neg h]
theorem vX {y m d:Int} (h:¬aO y m<d):∀k,eK y k m d=(m,d)
 |0=>rfl
 |k+1=>by rw[eK,if_neg h]
theorem dG {y:Int} (h:1≤y):y-1≤aC y:=by unfold aC;omega
theorem lJ (y:Int):aC (y+1)≤aC y+367:=by unfold aC;omega
theorem bP (y m:Int):28≤aO y m∧aO y m≤31:=by unfold aO;split<;>(try split)<;>(try split)<;>omega
theorem aCR {n:Int}:∀(k:Nat) (y:Int),aC y≤n→1≤y→aC (iB n k y)≤n∧y≤iB n k y∧iB n k y≤y+k
 |0,y,h,h1=>⟨h,by simp[iB],by simp[iB]⟩
 |k+1,y,h,h1=>by
  unfold iB
  split
  ·rename_i hc
   have:=aCR k (y+1) hc (by omega)
   omega
  ·omega
theorem eW {n:Int} (h:0≤n):aC (aK n)≤n∧1≤aK n∧aK n≤2*n+2:=by
 have:=aCR (n:=n) (n.toNat+1) (n/366+1) (by unfold aC;omega) (by omega)
 unfold aK
 omega
theorem aA6 (y:Int):∀(k:Nat) (m d:Int),1≤d→m≤(eK y k m d).1∧(eK y k m d).1≤m+k∧1≤(eK y k m d).2∧(eK y k m d).2≤d
 |0,m,d,h=>by simp[eK];omega
 |k+1,m,d,h=>by
  have hp:=bP y m
  unfold eK
  split
  ·rename_i hc
   have:=aA6 y k (m+1) (d-aO y m) (by omega)
   omega
  ·simp only;omega
theorem aED {n:Int} (h:0≤n):1≤(aL n).1∧(aL n).1≤401∧1≤(aL n).2∧(aL n).2≤n+1:=by
 have h1:=eW h
 have h2:=dG h1.2.1
 have:=aA6 (aK n) 400 1 (n-aC (aK n)+1) (by omega)
 unfold aL
 omega
structure Ru where
 freq:Nat
 hasStart:Bool
 start:Int
 interval:Int
 wkst:Int
 count:Int
 hasUntil:Bool
 til:Int
 setPos:List Int
 month:List Int
 monthDay:List Int
 yearDay:List Int
 weekNo:List Int
 day:List (Int×Int)
 hour:List Int
 minute:List Int
 second:List Int
 easter:List Int
theorem jD (a b:Int) (hb:1≤b):(0≤a→0≤a/b∧a/b≤a)∧(a≤0→a≤a/b∧a/b≤0):=by
 refine⟨fun h=>⟨Int.ediv_nonneg h (by omega),Int.ediv_le_self b h⟩,fun h=>⟨?_,?_⟩⟩
 ·refine (Int.le_ediv_iff_mul_le (by omega)).2 ?_
  have:=Int.mul_le_mul_of_nonpos_left h hb
  omega
 ·have h2:a/b≤0/b:=Int.ediv_le_ediv (by omega) h
  simpa using h2
theorem sN (a b:Int) (h:a≤0) (hb:0<b):(a.tmod b=0∧a.tdiv b=a/b)∨(a.tmod b<0∧a.tdiv b=a/b+1):=by
 obtain⟨c,rfl⟩:∃c,a=-c:=⟨-a,by omega⟩
 have hc:0≤c:=by omega
 rw[Int.neg_tdiv,Int.neg_tmod,Int.tdiv_eq_ediv_of_nonneg hc,Int.tmod_eq_emod_of_nonneg hc]
 have e1:=Int.emod_add_mul_ediv c b
 have e2:=Int.emod_nonneg c (show b≠0 by omega)
 have e3:=Int.emod_lt_of_pos c hb
 by_cases hz:c%b=0
 ·left
  refine⟨by omega,?_⟩
  have:-c=b*(-(c/b)):=by rw[Int.mul_neg];omega
  rw[this,Int.mul_ediv_cancel_left _ (by omega)]
 ·right
  refine⟨by omega,?_⟩
  have h0:b*(-(c/b)-1)=-(b*(c/b))-b:=by rw[Int.mul_sub,Int.mul_neg,Int.mul_one]
  have h1:-c=(b-c%b)+b*(-(c/b)-1):=by omega
  rw[h1,Int.add_mul_ediv_left _ _ (by omega),Int.ediv_eq_zero_of_lt (a:=b-c%b) (b:=b) (by omega) (by omega)]
  omega
def bA (y:Int):Nat→Int
 |0=>0
 |k+1=>bA y k+aO y (k+1)
theorem eX (y:Int):∀k:Nat,28*(k:Int)≤bA y k∧bA y k≤31*k
 |0=>by simp[bA]
 |k+1=>by
  have:=eX y k
  have:=bP y (k+1)
  simp only[bA];omega
theorem dO (y:Int):365*(y-1)-(y-1).natAbs≤aC y∧aC y≤365*(y-1)+(y-1).natAbs:=by unfold aC;omega
def eL (y mo d h mi s:Int):Int:=(aC (y+(mo-1)/12)+d-1+bA (y+(mo-1)/12) ((mo-1)%12).toNat)*86400+h*3600+mi*60+s
structure aRA (y mo d h mi s n:Int):Prop where
 y:0≤y+(mo-1)/12∧y≤1000000∧-1000000≤y
 mo:-1000000≤mo∧mo≤1000000
 d:-1000000000≤d∧d≤1000000000
 h:-1000000000≤h∧h≤1000000000
 mi:-1000000000≤mi∧mi≤1000000000
 s:-1000000000≤s∧s≤1000000000
 n:0≤n∧n<1000000000
def ixI (l:List Int) (a:Int):Int:=match l.findIdx? (fun b=>decide (a=b)) with
 |some i=>i
 |none=>-1
theorem oK {α:Type} {p:α→Bool}:∀{l:List α} {i:Nat} {a:α},l[i]?=some a→p a=true→(∀j b,j<i→l[j]?=some b→p b=false)→l.findIdx? p=some i
 |[],_,_,h,_,_=>by simp at h
 |b::l,0,a,h,ha,_=>by
  simp at h;subst h
  simp[List.findIdx?_cons,ha]
 |b::l,i+1,a,h,ha,hn=>by
  have hb:=hn 0 b (by omega) rfl
  simp at h
  rw[List.findIdx?_cons,hb,oK h ha fun j c hj hc=>hn (j+1) c (by omega) (by simpa using hc)]
  rfl
theorem mX {α:Type} {p:α→Bool}:∀{l:List α},(∀(j:Nat) b,l[j]?=some b→p b=false)→l.findIdx? p=none
 |[],_=>rfl
 |b::l,hn=>by
  rw[List.findIdx?_cons,hn 0 b rfl,mX fun j c hc=>hn (j+1) c (by simpa using hc)]
  rfl
theorem aPa (l:List Int) (a:Int):decide (0≤ixI l a)=l.contains a:=by
 unfold ixI
 cases h:l.findIdx? (fun b=>decide (a=b)) with
 |some i=>
  obtain⟨hi,h1,_⟩:=List.findIdx?_eq_some_iff_getElem.1 h
  have h1:=odT h1
  have:l.contains a=true:=by rw[List.contains_iff_mem];rw[h1];exact List.getElem_mem hi
  rw[this]
  show decide (0≤(i:Int))=true
  exact dcT (by omega)
 |none=>
  have:l.contains a=false:=by
   rw[Bool.eq_false_iff]
   intro hc
   have:=List.findIdx?_eq_none_iff.1 h a (List.contains_iff_mem.1 hc)
   simp at this
  rw[this]
  rfl
def fZ (l:List Int) (low high:Int) (zero:Bool) (i:Nat):Bool:=
 !(decide (l.getD i 0<low)||decide (high<l.getD i 0)||(decide (l.getD i 0=0)&&!zero)||(l.take i).contains (l.getD i 0))
def cP (l:List Int) (most low high:Int) (zero:Bool):Bool:=decide ((l.length:Int)≤most)&&(List.range l.length).all (fZ l low high zero)
theorem lK {l:List Int} {most low high:Int} {zero:Bool} {i:Nat} (hi:i<l.length) (h:fZ l low high zero i=false):cP l most low high zero=false:=by
 unfold cP
 rw[Bool.and_eq_false_iff]
 right
 rw[Bool.eq_false_iff]
 intro ha
 have:=List.all_eq_true.1 ha i (List.mem_range.2 hi)
 rw[h] at this;cases this
def eqD (a b:Int×Int):Bool:=decide (a.1=b.1)&&decide (a.2=b.2)
theorem aHb {a b:Int×Int}:eqD a b=true↔a=b:=by
 unfold eqD
 rw[Bool.and_eq_true,decide_eq_true_iff,decide_eq_true_iff]
 exact⟨fun h=>Prod.ext h.1 h.2,fun h=>by rw[h];exact⟨rfl,rfl⟩⟩
def ixD (l:List (Int×Int)) (a:Int×Int):Int:=match l.findIdx? (eqD a) with
 |some i=>i
 |none=>-1
theorem aPb (l:List (Int×Int)) (a:Int×Int):decide (0≤ixD l a)=l.contains a:=by
 unfold ixD
 cases h:l.findIdx? (eqD a) with
 |some i=>
  obtain⟨hi,h1,_⟩:=List.findIdx?_eq_some_iff_getElem.1 h
  have h1:=aHb.1 h1
  have:l.contains a=true:=by rw[List.contains_iff_mem];rw[h1];exact List.getElem_mem hi
  rw[this]
  show decide (0≤(i:Int))=true
  exact dcT (by omega)
 |none=>
  have:l.contains a=false:=by
   rw[Bool.eq_false_iff]
   intro hc
   have:=List.findIdx?_eq_none_iff.1 h a (List.contains_iff_mem.1 hc)
   rw[aHb.2 rfl] at this
   cases this
  rw[this]
  rfl
structure xF (r:Ru):Prop where
 setPos:r.setPos.length≤3000000000
 month:r.month.length≤3000000000
 monthDay:r.monthDay.length≤3000000000
 yearDay:r.yearDay.length≤3000000000
 weekNo:r.weekNo.length≤3000000000
 day:r.day.length≤3000000000
 hour:r.hour.length≤3000000000
 minute:r.minute.length≤3000000000
 second:r.second.length≤3000000000
 easter:r.easter.length≤3000000000
def dJ (r:Ru):Bool:=decide (0<r.monthDay.length+r.yearDay.length+r.weekNo.length+r.day.length+r.easter.length)
def vY (r:Ru):Bool:=dJ r||decide (0<r.month.length+r.hour.length+r.minute.length+r.second.length)
def g1 (r:Ru):Bool:=decide (6<(r.freq:Int))||!r.hasStart||decide (r.start<31536000)||decide (284012524800≤r.start)||decide (r.interval<0)||decide (1000<r.interval)||decide (r.wkst<0)||decide (6<r.wkst)||decide (r.count<0)||decide (1000<r.count)
def g2 (r:Ru):Bool:=r.hasUntil&&(decide (r.til<r.start)||decide (315537897600≤r.til))
def g3 (r:Ru):Bool:=!cP r.setPos 12 (-366) 366 false||!cP r.month 12 1 12 false||!cP r.monthDay 12 (-31) 31 false||!cP r.yearDay 12 (-366) 366 false||!cP r.weekNo 12 (-53) 53 false
def g4 (r:Ru):Bool:=!cP r.hour 12 0 23 true||!cP r.minute 12 0 59 true||!cP r.second 12 0 59 true||!cP r.easter 12 (-80) 80 true||decide (12<(r.day.length:Int))
def g5 (r:Ru):Bool:=decide (60<max 1 (r.hour.length:Int)*max 1 (r.minute.length:Int)*max 1 (r.second.length:Int))
def cY (r:Ru):Int:=if r.freq=1∨(r.freq=0∧0<r.month.length) then 5 else if r.freq=0∧r.weekNo.length=0 then 53 else 0
def mY (l:List (Int×Int)) (most:Int) (i:Nat):Bool:=!((l.take i).contains (l.getD i (0,0)))&&!(decide ((l.getD i (0,0)).1<0)||decide (6<(l.getD i (0,0)).1)||decide ((l.getD i (0,0)).2 < -most)||decide (most<(l.getD i (0,0)).2))
def g6 (r:Ru):Bool:=!(List.range r.day.length).all (mY r.day (cY r))
def g7 (r:Ru):Bool:=(decide (0<r.weekNo.length)&&!decide (r.freq=0))||(decide (0<r.easter.length)&&!decide (r.freq=0))||(decide (0<r.monthDay.length)&&decide (r.freq=2))
def g8 (r:Ru):Bool:=decide (0<r.yearDay.length)&&(decide (r.freq=1)||decide (r.freq=2)||decide (r.freq=3))
def clean (r:Ru):Bool:=!g1 r&&!g2 r&&!g3 r&&!g4 r&&!g5 r&&!g6 r&&!g7 r&&!g8 r&&(decide (r.setPos.length=0)||vY r)
theorem aLf {r:Ru} (h:g1 r=true):clean r=false:=by simp[clean,h]
theorem aLg {r:Ru} (h:g2 r=true):clean r=false:=by simp[clean,h]
theorem aLh {r:Ru} (h:g3 r=true):clean r=false:=by simp[clean,h]
theorem aLi {r:Ru} (h:g4 r=true):clean r=false:=by simp[clean,h]
theorem aLj {r:Ru} (h:g5 r=true):clean r=false:=by simp[clean,h]
theorem qG {r:Ru} (h:g6 r=true):clean r=false:=by simp[clean,h]
theorem aLk {r:Ru} (h:g7 r=true):clean r=false:=by simp[clean,h]
theorem aLl {r:Ru} (h:g8 r=true):clean r=false:=by simp[clean,h]
theorem dW {l:List Int} {most low high:Int} {zero:Bool} (h:cP l most low high zero=true):(l.length:Int)≤most:=by
 unfold cP at h
 rw[Bool.and_eq_true] at h
 exact odT h.1
theorem aSc {a b c:Int} (ha:1≤a∧a≤12) (hb:1≤b∧b≤12) (hc:1≤c∧c≤12):(0≤a*b∧a*b≤144)∧0≤a*b*c∧a*b*c≤1728:=by
 have h1:0≤a*b:=Int.mul_nonneg (by omega) (by omega)
 have h2:a*b≤12*12:=Int.mul_le_mul ha.2 hb.2 (by omega) (by omega)
 have h3:0≤a*b*c:=Int.mul_nonneg h1 (by omega)
 have h4:a*b*c≤144*12:=Int.mul_le_mul (by omega) hc.2 (by omega) (by omega)
 omega
theorem aRB {r:Ru} (h:g4 r=false):r.hour.length≤12∧r.minute.length≤12∧r.second.length≤12∧r.easter.length≤12∧r.day.length≤12:=by
 unfold g4 at h
 simp only[Bool.or_eq_false_iff,Bool.not_eq_false',decide_eq_false_iff_not] at h
 obtain⟨⟨⟨⟨h1,h2⟩,h3⟩,h4⟩,h5⟩:=h
 have:=dW h1
 have:=dW h2
 have:=dW h3
 have:=dW h4
 omega
theorem vZ (r:Ru):0≤cY r∧cY r≤53:=by unfold cY;split<;>(try split)<;>omega
theorem sO {r:Ru} {i:Nat} (hi:i<r.day.length) (h:mY r.day (cY r) i=false):g6 r=true:=by
 unfold g6
 rw[Bool.not_eq_true',Bool.eq_false_iff]
 intro ha
 have:=List.all_eq_true.1 ha i (List.mem_range.2 hi)
 rw[h] at this;cases this
structure aA7 (r:Ru):Prop where
 freq:r.freq≤255
 start:-9223372036854775808≤r.start∧r.start≤9223372036854775807
 til:-9223372036854775808≤r.til∧r.til≤9223372036854775807
 interval:-9223372036854775808≤r.interval∧r.interval≤9223372036854775807
 wkst:-9223372036854775808≤r.wkst∧r.wkst≤9223372036854775807
 count:-9223372036854775808≤r.count∧r.count≤9223372036854775807
 setPos:∀n∈r.setPos,-9223372036854775808≤n∧n≤9223372036854775807
 month:∀n∈r.month,-9223372036854775808≤n∧n≤9223372036854775807
 monthDay:∀n∈r.monthDay,-9223372036854775808≤n∧n≤9223372036854775807
 yearDay:∀n∈r.yearDay,-9223372036854775808≤n∧n≤9223372036854775807
 weekNo:∀n∈r.weekNo,-9223372036854775808≤n∧n≤9223372036854775807
 hour:∀n∈r.hour,-9223372036854775808≤n∧n≤9223372036854775807
 minute:∀n∈r.minute,-9223372036854775808≤n∧n≤9223372036854775807
 second:∀n∈r.second,-9223372036854775808≤n∧n≤9223372036854775807
 easter:∀n∈r.easter,-9223372036854775808≤n∧n≤9223372036854775807
 day:∀d∈r.day,(-9223372036854775808≤d.1∧d.1≤9223372036854775807)∧(-9223372036854775808≤d.2∧d.2≤9223372036854775807)
def dX:Nat:=2147483647
def aH3 (r:Ru):Bool:=!(decide (dX<r.setPos.length)||decide (dX<r.month.length)||decide (dX<r.monthDay.length)||decide (dX<r.yearDay.length)||decide (dX<r.weekNo.length)||decide (dX<r.day.length)||decide (dX<r.hour.length)||decide (dX<r.minute.length)||decide (dX<r.second.length)||decide (dX<r.easter.length))
theorem aLm {r:Ru} (h:aH3 r=true):xF r:=by
 unfold aH3 at h
 simp only[Bool.not_eq_true',Bool.or_eq_false_iff,decide_eq_false_iff_not] at h
 obtain⟨⟨⟨⟨⟨⟨⟨⟨⟨h1,h2⟩,h3⟩,h4⟩,h5⟩,h6⟩,h7⟩,h8⟩,h9⟩,h10⟩:=h
 unfold dX at *
 constructor<;>omega
theorem cO {l:List Int} {most low high:Int} {zero:Bool} (h:cP l most low high zero=true):(l.length:Int)≤most∧(∀n∈l,low≤n∧n≤high∧(zero=false→n≠0))∧∀(i:Nat) n,l[i]?=some n→n∉l.take i:=by
 unfold cP at h
 rw[Bool.and_eq_true] at h
 obtain⟨h1,h2⟩:=h
 have key:∀(i:Nat) n,l[i]?=some n→¬n<low∧¬high<n∧¬(n=0∧zero=false)∧n∉l.take i:=by
  intro i n hi
  have hlt:=(List.getElem?_eq_some_iff.1 hi).1
  have h3:=List.all_eq_true.1 h2 i (List.mem_range.2 hlt)
  have hg:l.getD i 0=n:=by rw[List.getD_eq_getElem?_getD,hi];rfl
  unfold fZ at h3
  rw[hg] at h3
  simp only[Bool.not_eq_true',Bool.or_eq_false_iff,decide_eq_false_iff_not,Bool.and_eq_false_iff,Bool.not_eq_false'] at h3
  obtain⟨⟨⟨a,b⟩,c⟩,d⟩:=h3
  refine⟨a,b,?_,?_⟩
  ·rintro ⟨rfl,hz⟩
   rcases c with c|c
   ·exact c rfl
   ·rw[hz] at c;cases c
  ·intro hm
   rw[List.contains_iff_mem.2 hm] at d
   cases d
 refine⟨odT h1,fun n hn=>?_,fun i n hi=>(key i n hi).2.2.2⟩
 obtain⟨i,hi⟩:=List.getElem?_of_mem hn
 obtain⟨a,b,c,_⟩:=key i n hi
 exact⟨by omega,by omega,fun hz h0=>c ⟨h0,hz⟩⟩
structure iC (r:Ru):Prop where
 freq:r.freq≤6
 hasStart:r.hasStart=true
 start:31536000≤r.start∧r.start<284012524800
 interval:0≤r.interval∧r.interval≤1000
 wkst:0≤r.wkst∧r.wkst≤6
 count:0≤r.count∧r.count≤1000
 til:r.hasUntil=true→r.start≤r.til∧r.til<315537897600
 setPos:cP r.setPos 12 (-366) 366 false=true
 month:cP r.month 12 1 12 false=true
 monthDay:cP r.monthDay 12 (-31) 31 false=true
 yearDay:cP r.yearDay 12 (-366) 366 false=true
 weekNo:cP r.weekNo 12 (-53) 53 false=true
 hour:cP r.hour 12 0 23 true=true
 minute:cP r.minute 12 0 59 true=true
 second:cP r.second 12 0 59 true=true
 easter:cP r.easter 12 (-80) 80 true=true
 dayLen:r.day.length≤12
 day:∀(i:Nat) d,r.day[i]?=some d→d∉r.day.take i∧0≤d.1∧d.1≤6∧-cY r≤d.2∧d.2≤cY r
 many:max 1 (r.hour.length:Int)*max 1 (r.minute.length:Int)*max 1 (r.second.length:Int)≤60
 weekYear:0<r.weekNo.length→r.freq=0
 easterYear:0<r.easter.length→r.freq=0
 monthDayWeek:0<r.monthDay.length→r.freq≠2
 yearDayFreq:0<r.yearDay.length→r.freq≠1∧r.freq≠2∧r.freq≠3
 pos:0<r.setPos.length→vY r=true
theorem aA8 {r:Ru} (h:clean r=true):iC r:=by
 unfold clean at h
 simp only[Bool.and_eq_true,Bool.not_eq_true'] at h
 obtain⟨⟨⟨⟨⟨⟨⟨⟨q1,q2⟩,q3⟩,q4⟩,q5⟩,q6⟩,q7⟩,q8⟩,q9⟩:=h
 unfold g1 at q1
 simp only[Bool.or_eq_false_iff,decide_eq_false_iff_not,Bool.not_eq_false'] at q1
 obtain⟨⟨⟨⟨⟨⟨⟨⟨⟨a1,a2⟩,a3⟩,a4⟩,a5⟩,a6⟩,a7⟩,a8⟩,a9⟩,a10⟩:=q1
 unfold g3 at q3
 simp only[Bool.or_eq_false_iff,Bool.not_eq_false'] at q3
 obtain⟨⟨⟨⟨b1,b2⟩,b3⟩,b4⟩,b5⟩:=q3
 unfold g4 at q4
 simp only[Bool.or_eq_false_iff,Bool.not_eq_false',decide_eq_false_iff_not] at q4
 obtain⟨⟨⟨⟨c1,c2⟩,c3⟩,c4⟩,c5⟩:=q4
 unfold g6 at q6
 rw[Bool.not_eq_false'] at q6
 unfold g7 at q7
 simp only[Bool.or_eq_false_iff,Bool.and_eq_false_iff,decide_eq_false_iff_not,Bool.not_eq_false',decide_eq_true_eq] at q7
 unfold g8 at q8
 simp only[Bool.or_eq_false_iff,Bool.and_eq_false_iff,decide_eq_false_iff_not] at q8
 unfold g5 at q5
 simp only[decide_eq_false_iff_not] at q5
 refine⟨by omega,a2,by omega,by omega,by omega,by omega,fun hu=>?_,b1,b2,b3,b4,b5,c1,c2,c3,c4,by omega,fun i d hi=>?_,by omega,fun hh=>?_,fun hh=>?_,fun hh=>?_,fun hh=>?_,fun hh=>?_⟩
 ·unfold g2 at q2
  simp only[hu,Bool.true_and,Bool.or_eq_false_iff,decide_eq_false_iff_not] at q2
  omega
 ·have hlt:=(List.getElem?_eq_some_iff.1 hi).1
  have h3:=List.all_eq_true.1 q6 i (List.mem_range.2 hlt)
  have hg:r.day.getD i (0,0)=d:=by rw[List.getD_eq_getElem?_getD,hi];rfl
  unfold mY at h3
  rw[hg] at h3
  simp only[Bool.and_eq_true,Bool.not_eq_true',Bool.or_eq_false_iff,decide_eq_false_iff_not] at h3
  obtain⟨d1,⟨⟨d2,d3⟩,d4⟩,d5⟩:=h3
  refine⟨fun hm=>?_,by omega,by omega,by omega,by omega⟩
  rw[List.contains_iff_mem.2 hm] at d1
  cases d1
 ·rcases q7.1.1 with e|e
  ·exact absurd hh e
  ·exact e
 ·rcases q7.1.2 with e|e
  ·exact absurd hh e
  ·exact e
 ·rcases q7.2 with e|e
  ·exact absurd hh e
  ·exact e
 ·rcases q8 with e|e
  ·exact absurd hh e
  ·exact⟨e.1.1,e.1.2,e.2⟩
 ·rcases Bool.or_eq_true_iff.1 q9 with e|e
  ·have:=odT e;omega
  ·exact e
theorem dQ (y:Int):aC (y+1)=aC y+(if aR y then 366 else 365):=by
 unfold aC aR
 have e:y+1-1=y:=by omega
 rw[e]
 by_cases h4:y%4=0<;>by_cases h1:y%100=0<;>by_cases h5:y%400=0<;>simp only[h4,h1,h5,decide_true,decide_false,ne_eq,not_true,not_false_eq_true,Bool.or_true,Bool.or_false,Bool.and_true,Bool.and_false,Bool.true_and,Bool.false_and,if_true,if_false,Bool.false_eq_true]<;>omega
theorem aCS {n:Int}:∀(k:Nat) (y:Int),1≤y→n<aC y+365*k→n<aC (iB n k y+1)∨k=0
 |0,y,_,h=>.inr rfl
 |k+1,y,h1,h=>by
  left
  unfold iB
  split
  ·rename_i hb
   have hs:=dQ y
   have:aC (y+1)≥aC y+365:=by rw[hs];split<;>omega
   rcases aCS (n:=n) k (y+1) (by omega) (by push_cast at h;omega) with hh|hh
   ·exact hh
   ·subst hh
    simp only[iB]
    omega
  ·omega
theorem kD {n:Int} (h:0≤n):n<aC (aK n+1):=by
 unfold aK
 have hb:0≤aC (n/366+1):=by unfold aC;omega
 rcases aCS (n:=n) (n.toNat+1) (n/366+1) (by omega) (by omega) with hh|hh
 ·exact hh
 ·omega
theorem iX {n y:Int} (h0:0≤n) (hy:1≤y) (h1:aC y≤n) (h2:n<aC (y+1)):aK n=y:=by
 have hk:=eW h0
 have hk2:=kD h0
 rcases Int.lt_trichotomy (aK n) y with h|h|h
 ·exfalso
  have:aC (aK n+1)≤aC y:=by unfold aC;omega
  omega
 ·exact h
 ·exfalso
  have:aC (y+1)≤aC (aK n):=by unfold aC;omega
  omega
def cyC (r:Int):Int:=if r/36524=4 then 3 else r/36524
def cyO (r:Int):Int:=if r/365=4 then 3 else r/365
theorem aFs {n q r c f o:Int} (hn:0≤n) (hq:q=n/146097) (hr:r=n-q*146097) (hc:c=cyC r) (hf:f=(r-c*36524)/1461) (ho:o=cyO (r-c*36524-f*1461)) :
  aK n=400*q+100*c+4*f+o+1∧n-aC (aK n)=r-c*36524-f*1461-o*365∧0≤c∧c≤3∧0≤f∧f≤24∧0≤o∧o≤3∧0≤r∧r<146097:=by
 have hr0:0≤r∧r<146097:=by omega
 have hc0:0≤c∧c≤3∧c*36524≤r∧(r<(c+1)*36524∨(c=3∧r<146097)):=by
  unfold cyC at hc
  split at hc<;>omega
 have hr1:0≤r-c*36524∧r-c*36524≤36524:=by omega
 have hf0:0≤f∧f≤24∧f*1461≤r-c*36524∧r-c*36524<(f+1)*1461:=by omega
 have ho0:0≤o∧o≤3∧o*365≤r-c*36524-f*1461∧(r-c*36524-f*1461<(o+1)*365∨(o=3∧r-c*36524-f*1461≤1460)):=by
  unfold cyO at ho
  split at ho<;>omega
 have hb:aC (400*q+100*c+4*f+o+1)=146097*q+36524*c+1461*f+365*o:=by
  unfold aC
  have e1:(400*q+100*c+4*f+o+1-1)/4=100*q+25*c+f:=by omega
  have e2:(400*q+100*c+4*f+o+1-1)/100=4*q+c:=by omega
  have e3:(400*q+100*c+4*f+o+1-1)/400=q:=by omega
  rw[e1,e2,e3]
  omega
 have hb2:n<aC (400*q+100*c+4*f+o+1+1):=by
  rw[dQ,hb]
  by_cases hl:r-c*36524-f*1461<(o+1)*365
  ·split<;>omega
  ·have ho3:o=3:=by omega
   have hlp:aR (400*q+100*c+4*f+o+1)=true:=by
    unfold aR
    rw[Bool.and_eq_true,Bool.or_eq_true,decide_eq_true_iff,decide_eq_true_iff,decide_eq_true_iff]
    refine⟨by omega,?_⟩
    by_cases hf24:f=24
    ·right;omega
    ·left;omega
   rw[hlp]
   simp only[if_true]
   omega
 have hyr:=iX hn (by omega) (by rw[hb];omega) hb2
 refine⟨hyr,by rw[hyr,hb];omega,hc0.1,hc0.2.1,hf0.1,hf0.2.1,ho0.1,ho0.2.1,hr0.1,hr0.2⟩
def InY (t:Int):Prop:=0≤t∧t<345600000000
open Go.RowKit Go.Proofs.YtnoppodfngkoeaaGreat.AL
end F
open Go.RowKit Go.Proofs.YtnoppodfngkoeaaGreat.AL Go.Proofs.YtnoppodfngkoeaaGreat.F
attribute [local irreducible] bJ cB gT eJ mP gI jM aDi aAC aAE aDS lT gR aBQ lY oI rV rA kT tX AWp cW aDk
attribute [local go_sem] aDZ vO tQ tP tO gD vJ aAl rS aAm aCi aAn iW aCj aDI xV aDJ aBR aBS aDK vR aAT aCF mT aAU aCG aAo xW aCk aCl aDM aDN aDO aDL aPW aAs aAt xX xY vK xZ aCm yA aCn uR aAu aCo vL sG sH aAv aAw vM aAx oX uS aAy aCp yB aAz aDP qY sI vN aAA yC sJ aDQ yD aCq aFL aCh aAk aDH aI9 aDG aFJ aFK aDF Nat.reduceLT Nat.reduceBEq List.map_cons List.map_nil Option.map_some Option.map_none aAB aDR yE aCr aAD aDT aDU aCs aCt aFN aFO aFP aFQ aFR aFS aFT aFU aFV aFW aFX aFY aD2 aD3 yF yG tV aAG yH yI aAJ aAH aAI aEe aEf aEg aF4 aJe aJf aJg aD4 aD5 aFZ aAK aCw aD6 aCH aCI aCJ qF mU aCK aAV aCL aCM aAW aCN aAX aAY aAZ aEb mkS aAL aCx aCy aAM aCz aAN aAP aAQ yJ aD7 bB bX qZ tW aD8 yK aD9 aEa aCA aCB aCC aCD aCE List.length_cons List.length_nil List.getElem?_cons_zero List.getElem?_cons_succ List.set_cons_zero List.set_cons_succ List.cons_append List.nil_append List.append_assoc Nat.reduceAdd Nat.zero_add Nat.add_zero Int.reduceBEq List.all_cons List.all_nil Value.oneCell' Bool.and_true Bool.and_self if_true if_false Bool.false_eq_true hZ aAq lG pH Option.bind_some fQ List.drop_succ_cons List.drop_zero List.take_succ_cons List.take_zero List.take_nil List.drop_nil Nat.reduceLeDiff and_self and_true true_and reduceIte Option.some.injEq Nat.reduceEqDiff ne_eq Int.reduceEq Int.reduceLE Int.reduceLT Int.reduceNe not_false_eq_true Option.map_map List.getElem?_toArray beq_self_eq_true Bool.true_beq Bool.false_beq Bool.not_true Bool.not_false decide_true decide_false beq_true Nat.reduceMul Nat.mul_one Nat.one_mul Nat.zero_mul bsA gW iM List.append_nil Nat.reduceSub Int.reduceToNat Int.toNat_natCast Int.toNat_zero aK9 sM aF0 aJh aJi aF1 aJj yL yM uT vV yN aA0 aA1 yO aA2 aEc aF2 gF jY aAr nO aA4 aEh aEd kd1 sz1 zc1 if1 kd2 sz2 zc2 if2 kd3 sz3 zc3 if3 kd4 sz4 zc4 if4 kd5 sz5 zc5 if5 kd7 sz7 zc7 fp7 aMj aMk aMl aMm if7 kd9 sz9 zc9 if9 aPZ aP0 aP1 aP2 aP3 aP4 aP5 aP6 aJm aJn aP7 aP8 aP9 aQa aQb aJo aQc aQd aQe aQf aQg aQh aQi aQj aQk aQl aQm mW aQn aQo aQp aQq aLd aQr aQs aQt aQu aQv aJp aJq aJr aJs aJt aJu aJv aJw aJx aJy aF5 aF6 aF7 aF8 aF9 aGa aGb aGc aQw aQx aQy aQz aBT aQA aQB aQC aQD aLe aQE aQF aQG aQH aQI aJz aJA aJB aJC aJD aJE aJF aJG aJH aJI aGd aGe aGf aGg aGh aGi aGj aGk aQJ aQK aQL aQM aQN aJJ aJK aJL aQO aQP aQQ aQR aQS aQT aQU aQV aQW aQX aQY aQZ aQ0 aQ1 aQ2 aQ3 aJM aJN aJO aQ4 aQ5 aQ6 aQ7 aQ8 aJP aJQ aJR aQ9 aRa aRb aRc aH1 aRd aRe aRf aRg aRh aJS aJT aJU aJV aJW aJX aJY aJZ aJ0 aJ1 aGl aGm aGn aGo aGp aGq aRi aRj aRk aRl aRm aRn aRo aRp aRq aJ2 aJ3 aJ4 aRr aRs aRt aRu aRv aRw aRx aRy vW aRz aMn aMo aMp aMq aGr aGs aGt aGu aGv aGw aGx aGy aGz aGA aEi aEj aEk aEl aEm aEn aEo aEp aEq aEr aEs aEt aMr aMs aMt aMu aMv aMw aMx aMy aMz aGB aGC aGD aGE aGF aGG aGH aGI aGJ aGK aEu aEv aEw aEx aEy aMA aMB aMC aMD aME aGL aGM aMF aMG aMH aMI aA5 aMJ aMK aML aMM aMN aGN aGO aGP aGQ aGR aGS aGT aGU aGV aGW aEz aEA aEB aEC aMO aMP aMQ aMR aMS aMT aMU aMV aMW aMX aMY aMZ aM0 aM1 aM2 aM3 aM4 aM5 aM6 aM7 aM8 aM9 aNa aNb aNc aJ5 aNd aNe aNf aNg aNh aNi aJ6 aNj aNk aNl aNm aNn aNo aGX aGY aGZ aG0 aNp aNq aNr aNs aNt aNu aNv aNw aNx aG1 aG2 aG3 aNy aNz aNA aNB aNC aG4 aG5 aG6 aG7 aND aNE aNF aNG aNH aNI aNJ aNK aNL aNM aNN aNO aNP aNQ aNR aNS aNT aNU aNV aNW aNX aNY aNZ aN0 aN1 aN2 aN3 aH2 aN4 aN5 aN6 aN7 aN8 aN9 aOa aOb aOc aOd aOe aOf aOg aOh aOi aOj aOk aJ7 aOl aOm aOn aOo aOp aOq aOr aOs aOt aOu aG8 aOv aOw aOx aOy aOz aOA aOB aOC aOD aOE aOF aOG aG9 aHa aOH aOI aOJ aOK aOL aOM aON aOO aOP aOQ aOR aOS aOT aOU aOV aOW aOX Tryz.underlying1 Tryz.underlying2 Tryz.underlying3 Tryz.underlying4 Tryz.underlying5 Tryz.underlying7 Tryz.underlying9 Tryz.underlying12 Tryz.underlying13 Tryz.underlying18 Tryz.underlying20 Tryz.underlying21 Tryz.underlying22 Tryz.underlying23 Tryz.underlying25 Tryz.underlying27 Tryz.underlying32 Tryz.underlying34 Tryz.underlying41 Tryz.underlying71 Tryz.underlying73 Tryz.underlying76 Tryz.underlying78 Tryz.underlying80 Tryz.underlying81 Tryz.underlying83 Tryz.underlying86 Tryz.underlying90 Tryz.underlying95 Tryz.underlying99 Tryz.underlying112 Tryz.underlying115 Tryz.underlying117 Tryz.underlying119 Tryz.underlying120 Tryz.underlying122 Tryz.underlying128 Tryz.underlying132 Tryz.underlying134 Tryz.underlying143 Tryz.underlying145 Tryz.underlying151 Tryz.underlying152 Tryz.underlying154 Tryz.underlying157 Tryz.underlying159 Tryz.underlying164 Tryz.underlying165 Tryz.underlying169 Tryz.underlying174 Tryz.underlying177 Tryz.underlying182 Tryz.underlying186 Tryz.underlying189 Tryz.underlying194 Tryz.underlying199 Tryz.underlying200 Tryz.underlying205 Tryz.underlying207 Tryz.underlying210 Tryz.underlying214 Tryz.underlying219 Tryz.underlying226 Tryz.underlying232 Tryz.underlying240 Tryz.underlying251
attribute [local go_sem_proc] Nat.reduceLT Nat.reduceBEq Nat.reduceAdd Int.reduceBEq Nat.reduceLeDiff reduceIte Nat.reduceEqDiff Int.reduceEq Int.reduceLE Int.reduceLT Int.reduceNe Nat.reduceMul Nat.reduceSub Int.reduceToNat
namespace F
open Go.RowKit Go.Proofs.YtnoppodfngkoeaaGreat.AL
theorem nn (n:Nat):(0≤(n:Int))=True:=by simp
abbrev aP:AV:=.val (.slice none 0 0)
def fN (H:aB) (x:AV) (n st:Nat) (cell:Nat→AV):Prop:=(x=.val (.slice none 0 0)∧n=0)∨∃own o off cs,x=.sl own o off n st∧iP H[o]?=some cs∧∀i,i<n*st→cs[off+i]?=some (cell i)
theorem aFt {H G:aB} {o:Nat} {cs:List AV} (h:iP H[o]?=some cs):iP (H++G)[o]?=some cs:=by
 cases ho:H[o]? with
 |none=>rw[ho] at h;cases h
 |some x=>rw[aZ ho,←ho];exact h
theorem fN.more {H:aB} {x:AV} {n st:Nat} {cell:Nat→AV} (h:fN H x n st cell) (G:aB):fN (H++G) x n st cell:=by
 rcases h with h|⟨own,o,off,cs,h1,h2,h3⟩
 ·exact .inl h
 ·exact .inr ⟨own,o,off,cs,h1,aFt h2,h3⟩
theorem fN.len {H:aB} {x:AV} {n st:Nat} {cell:Nat→AV} (h:fN H x n st cell) (e:TypeId):lenK (some (.slice e)) x=some (vI n):=by
 rcases h with ⟨rfl,rfl⟩|⟨own,o,off,cs,rfl,_⟩<;>rfl
def aQ (H:aB) (x:AV) (l:List Int):Prop:=fN H x l.length 1 fun i=>vI (l.getD i 0)
def cU (H:aB) (x:AV) (l:List (Int×Int)):Prop:=fN H x l.length 2 fun i=>if i%2=0 then vI (l.getD (i/2) (0,0)).1 else vI (l.getD (i/2) (0,0)).2
theorem aEE {cs:List AV} {k:Nat} {a b:AV} (h1:cs[k]?=some a) (h2:cs[k+1]?=some b):k+2≤cs.length∧(cs.drop k).take 2=[a,b]:=by
 have l1:=(List.getElem?_eq_some_iff.1 h1).1
 have l2:=(List.getElem?_eq_some_iff.1 h2).1
 refine⟨by omega,?_⟩
 rw[List.drop_eq_getElem_cons l1,List.drop_eq_getElem_cons l2]
 have e1:=(List.getElem?_eq_some_iff.1 h1).2
 have e2:=(List.getElem?_eq_some_iff.1 h2).2
 simp only[List.take_succ_cons,List.take_zero,e1,e2]
theorem rB {H:aB} {l:List (Int×Int)} {off:Nat} {cs:List AV} (hcell:∀i,i<l.length*2→cs[off+i]?=some (if i%2=0 then vI (l.getD (i/2) (0,0)).1 else vI (l.getD (i/2) (0,0)).2)) {i:Nat} (hi:i<l.length):off+i*2+2≤cs.length∧(cs.drop (off+i*2)).take 2=[vI (l.getD i (0,0)).1,vI (l.getD i (0,0)).2]:=by
 have h1:=hcell (i*2) (by omega)
 have h2:=hcell (i*2+1) (by omega)
 rw[if_pos (by omega),show i*2/2=i by omega] at h1
 rw[if_neg (by omega),show (i*2+1)/2=i by omega] at h2
 exact aEE h1 h2
theorem eZ {H G:aB} {o:Nat} {y:aD} (h:H.length≤o):(H++G).set o y=H++G.set (o-H.length) y:=List.set_append_right _ _ h
structure Rs where
 setPos:AV
 month:AV
 monthDay:AV
 yearDay:AV
 weekNo:AV
 day:AV
 hour:AV
 minute:AV
 second:AV
 easter:AV
abbrev vU (n:Nat):AV:=.val (.int .u8 (n:Int))
def aE (r:Ru) (x:Rs):List AV:=[vU r.freq,vB r.hasStart,vI r.start,vI r.interval,vI r.wkst,vI r.count,vB r.hasUntil,vI r.til,x.setPos,x.month,x.monthDay,x.yearDay,x.weekNo,x.day,x.hour,x.minute,x.second,x.easter]
structure cN (H:aB) (r:Ru) (x:Rs):Prop where
 setPos:aQ H x.setPos r.setPos
 month:aQ H x.month r.month
 monthDay:aQ H x.monthDay r.monthDay
 yearDay:aQ H x.yearDay r.yearDay
 weekNo:aQ H x.weekNo r.weekNo
 day:cU H x.day r.day
 hour:aQ H x.hour r.hour
 minute:aQ H x.minute r.minute
 second:aQ H x.second r.second
 easter:aQ H x.easter r.easter
theorem cN.more {H:aB} {r:Ru} {x:Rs} (h:cN H r x) (G:aB):cN (H++G) r x:=
 ⟨h.setPos.more G,h.month.more G,h.monthDay.more G,h.yearDay.more G,h.weekNo.more G,h.day.more G,h.hour.more G,h.minute.more G,h.second.more G,h.easter.more G⟩
theorem fN.one {H:aB} {x:AV} {n st:Nat} {cell:Nat→AV} (h:fN H x n st cell):x.one=true:=by
 rcases h with ⟨rfl,_⟩|⟨own,o,off,cs,rfl,_⟩<;>rfl
def sP (h:aB) (x:AV) (l:List Int):Prop:=(x=aP∧l=[])∨∃q,x=.sl true q 0 l.length 1∧h[q]?=some (.own 3 (l.map vI))
def aBU (l:List (Int×Int)) (i:Nat):AV:=if i%2=0 then vI (l.getD (i/2) (0,0)).1 else vI (l.getD (i/2) (0,0)).2
def sQ (h:aB) (x:AV) (l:List (Int×Int)):Prop:=(x=aP∧l=[])∨∃q cs,x=.sl true q 0 l.length 2∧h[q]?=some (.own 80 cs)∧∀i,i<l.length*2→cs[i]?=some (aBU l i)
theorem sP.one {h:aB} {x:AV} {l:List Int} (hx:sP h x l):x.one=true:=by rcases hx with ⟨rfl,_⟩|⟨q,rfl,_⟩<;>rfl
theorem sQ.one {h:aB} {x:AV} {l:List (Int×Int)} (hx:sQ h x l):x.one=true:=by rcases hx with ⟨rfl,_⟩|⟨q,cs,rfl,_⟩<;>rfl
theorem sP.more {h:aB} {x:AV} {l:List Int} (hx:sP h x l) (G:aB):sP (h++G) x l:=by
 rcases hx with hx|⟨q,h1,h2⟩
 ·exact .inl hx
 ·exact .inr ⟨q,h1,aZ h2⟩
theorem sQ.more {h:aB} {x:AV} {l:List (Int×Int)} (hx:sQ h x l) (G:aB):sQ (h++G) x l:=by
 rcases hx with hx|⟨q,cs,h1,h2,h3⟩
 ·exact .inl hx
 ·exact .inr ⟨q,cs,h1,aZ h2,h3⟩
def fL (l:List (Int×Int)):List AV:=l.flatMap fun d=>[vI d.1,vI d.2]
theorem t5:∀l:List (Int×Int),(fL l).length=l.length*2
 |[]=>rfl
 |d::l=>by simp only[fL,List.flatMap_cons,List.length_append,List.length_cons,List.length_nil];have:=t5 l;unfold fL at this;omega
theorem yP (l:List (Int×Int)) (d:Int×Int):fL (l++[d])=fL l++[vI d.1,vI d.2]:=by simp[fL]
def i8 (t:TypeId) (h:aB) (x:AV) (l:List (Int×Int)):Prop:=(x=aP∧l=[])∨∃q,x=.sl true q 0 l.length 2∧h[q]?=some (.own t (fL l))
theorem i8.one {t:TypeId} {h:aB} {x:AV} {l:List (Int×Int)} (hx:i8 t h x l):x.one=true:=by rcases hx with ⟨rfl,_⟩|⟨q,rfl,_⟩<;>rfl
theorem i8.more {t:TypeId} {h:aB} {x:AV} {l:List (Int×Int)} (hx:i8 t h x l) (G:aB):i8 t (h++G) x l:=by
 rcases hx with hx|⟨q,h1,h2⟩
 ·exact .inl hx
 ·exact .inr ⟨q,h1,aZ h2⟩
def jQ (t:TypeId) (B:Nat) (h:aB) (x:AV) (l:List (Int×Int)):Prop:=(x=aP∧l=[])∨∃q,B≤q∧x=.sl true q 0 l.length 2∧h[q]?=some (.own t (fL l))
theorem jQ.own {t:TypeId} {B:Nat} {h:aB} {x:AV} {l:List (Int×Int)} (hx:jQ t B h x l):i8 t h x l:=by
 rcases hx with hx|⟨q,_,h1,h2⟩
 ·exact .inl hx
 ·exact .inr ⟨q,h1,h2⟩
theorem jQ.one {t:TypeId} {B:Nat} {h:aB} {x:AV} {l:List (Int×Int)} (hx:jQ t B h x l):x.one=true:=hx.own.one
theorem jQ.more {t:TypeId} {B:Nat} {h:aB} {x:AV} {l:List (Int×Int)} (hx:jQ t B h x l) (G:aB):jQ t B (h++G) x l:=by
 rcases hx with hx|⟨q,h0,h1,h2⟩
 ·exact .inl hx
 ·exact .inr ⟨q,h0,h1,aZ h2⟩
theorem jQ.push {ts t:TypeId} {zs:List Value} (hel:el prog ts=some (t,2,16,zs)) {H h:aB} {x:AV} {l:List (Int×Int)} (hx:jQ t H.length h x l) (hG:∃G,h=H++G) (d:Int×Int) (hl:l.length≤10000000):∃x' h',cW prog ts x (.sl true h.length 0 1 2) (h++[aD.own t [vI d.1,vI d.2]])=some (x',h')∧jQ t H.length h' x' (l++[d])∧(∃G,h'=H++G)∧(∀(p:Nat) (y:aD),h[p]?=some y→(∀cs,y≠aD.own t cs)→h'[p]?=some y):=by
 obtain⟨G,rfl⟩:=hG
 have h1:cellsOf ((H++G)++[aD.own t [vI d.1,vI d.2]]) (H++G).length=some [vI d.1,vI d.2]:=by unfold cellsOf;rw[bB];rfl
 rcases hx with ⟨rfl,rfl⟩|⟨q,hq,rfl,h2⟩
 ·refine⟨.sl true ((H++G)++[aD.own t [vI d.1,vI d.2]]).length 0 1 2,((H++G)++[aD.own t [vI d.1,vI d.2]])++[.own t [vI d.1,vI d.2]],?_,.inr ⟨_,?_,rfl,?_⟩,⟨G++[aD.own t [vI d.1,vI d.2]]++[.own t [vI d.1,vI d.2]],by simp only[List.append_assoc]⟩,fun p y hp _=>aZ (aZ hp)⟩
  ·unfold cW
   rw[hel]
   simp only[h1]
   rw[if_pos ⟨by simp,trivial,by rfl⟩]
   rfl
  ·simp only[List.length_append];omega
  ·rw[bB];rfl
 ·have hlt:q<(H++G).length:=(List.getElem?_eq_some_iff.1 h2).1
  refine⟨.sl true ((H++G)++[aD.own t [vI d.1,vI d.2]]).length 0 (l.length+1) 2,(((H++G)++[aD.own t [vI d.1,vI d.2]]).set q .gone)++[aD.own t (fL l++[vI d.1,vI d.2])],?_,.inr ⟨_,?_,by rw[show (l++[d]).length=l.length+1 by simp],?_⟩,?_,?_⟩
  ·have h3:((H++G)++[aD.own t [vI d.1,vI d.2]])[q]?=some (.own t (fL l)):=aZ h2
   have hdl:=t5 l
   unfold cW
   rw[hel]
   simp only[h1,h3]
   rw[if_pos ⟨by simp,trivial,by rfl⟩,if_pos ⟨trivial,trivial,by omega,by omega,by omega⟩]
   simp only[List.drop_zero]
   rw[List.take_of_length_le (l:=fL l) (by omega),List.take_of_length_le (by simp)]
  ·simp only[List.length_append];omega
  ·have:(((H++G)++[aD.own t [vI d.1,vI d.2]]).set q .gone).length=((H++G)++[aD.own t [vI d.1,vI d.2]]).length:=List.length_set
   rw[←this,bB,yP]
   rfl
  ·exact⟨_,by rw[List.append_assoc,eZ hq,List.append_assoc]⟩
  ·intro p y hp hy
   have hpo:q≠p:=by
    rintro rfl
    rw[h2] at hp
    exact hy _ (Option.some.inj hp).symm
   have hpl:p<(H++G).length:=(List.getElem?_eq_some_iff.1 hp).1
   rw[cZ (by simp only[List.length_set,List.length_append,List.length_cons,List.length_nil] at hpl ⊢;omega),List.getElem?_set_ne hpo,cZ hpl]
   exact hp
def GrN (t st:Nat) (H h:aB) (x:AV) (n:Nat) (cs:List AV):Prop:=(∃G,h=H++G)∧cs.length=n*st∧((x=.val (.slice none 0 0)∧n=0)∨∃o,x=.sl true o 0 n st∧h[o]?=some (.own t cs)∧H.length≤o)
theorem GrN.nil {t st:Nat} {H h:aB} (hG:∃G,h=H++G):GrN t st H h (.val (.slice none 0 0)) 0 []:=⟨hG,by simp,.inl ⟨rfl,rfl⟩⟩
theorem GrN.more {t st:Nat} {H h:aB} {x:AV} {n:Nat} {cs:List AV} (hO:GrN t st H h x n cs) (G:aB):GrN t st H (h++G) x n cs:=by
 obtain⟨⟨G0,rfl⟩,hl,hx⟩:=hO
 refine⟨⟨G0++G,List.append_assoc _ _ _⟩,hl,?_⟩
 rcases hx with hx|⟨o,h1,h2,h3⟩
 ·exact .inl hx
 ·exact .inr ⟨o,h1,aZ h2,h3⟩
theorem GrN.push {s t st bytes:Nat} {z:List Value} (hel:el prog s=some (t,st,bytes,z)) (hb:bytes≤1000) {H h:aB} {x:AV} {n:Nat} {cs:List AV} (hO:GrN t st H h x n cs) {c:List AV} (hc:c.length=st) (h1:c.all AV.one=true) (hn:n≤100000000) :
  ∃x' h',cW prog s x (.sl true h.length 0 1 st) (h++[aD.own t c])=some (x',h')∧GrN t st H h' x' (n+1) (cs++c)∧∀(p:Nat) (y:aD),h[p]?=some y→(∀q,x=.sl true q 0 n st→p≠q)→h'[p]?=some y:=by
 obtain⟨⟨G,rfl⟩,hl,hx⟩:=hO
 have e1:cellsOf (H++G++[aD.own t c]) (H++G).length=some c:=by unfold cellsOf;rw[bB];rfl
 have e3:(c.drop 0).take (1*st)=c:=by rw[List.drop_zero,Nat.one_mul,List.take_of_length_le (by omega)]
 rcases hx with ⟨rfl,rfl⟩|⟨o,rfl,ho,hol⟩
 ·have hcs:cs=[]:=List.length_eq_zero_iff.1 (by omega)
  subst hcs
  refine⟨.sl true (H++G++[aD.own t c]).length 0 1 st,(H++G++[aD.own t c])++[.own t c],?_,⟨⟨G++[aD.own t c]++[.own t c],by simp only[List.append_assoc]⟩,by simp;omega,.inr ⟨_,rfl,by rw[bB];rfl,by simp only[List.length_append];omega⟩⟩,fun p y hp _=>aZ (aZ hp)⟩
  unfold cW
  rw[hel]
  simp only[e1,e3]
  rw[if_pos ⟨by omega,trivial,h1⟩,if_neg (by omega),if_pos ⟨by omega,by omega⟩]
 ·have hlt:o<(H++G).length:=(List.getElem?_eq_some_iff.1 ho).1
  have e2:(H++G++[aD.own t c])[o]?=some (.own t cs):=by rw[cZ hlt];exact ho
  have e4:cs.take (n*st)=cs:=List.take_of_length_le (by omega)
  have hb2:(n+1)*bytes≤100000001*1000:=Nat.mul_le_mul (by omega) hb
  refine⟨.sl true (H++G++[aD.own t c]).length 0 (n+1) st,((H++G)++[aD.own t c]).set o .gone++[aD.own t (cs++c)],?_,⟨⟨(G++[aD.own t c]).set (o-H.length) .gone++[aD.own t (cs++c)],?_⟩,?_,.inr ⟨(H++G++[aD.own t c]).length,rfl,?_,by simp only[List.length_append];omega⟩⟩,?_⟩
  ·unfold cW
   rw[hel]
   simp only[e1,e2,e3,e4]
   rw[if_pos ⟨by omega,trivial,h1⟩,if_pos ⟨trivial,trivial,by omega,by omega,by omega⟩]
  ·rw[List.append_assoc,eZ hol,List.append_assoc]
  ·rw[List.length_append,Nat.succ_mul];omega
  ·have:((H++G++[aD.own t c]).set o .gone).length=(H++G++[aD.own t c]).length:=List.length_set
   rw[←this,bB]
   rfl
  ·intro p y hp hy
   have hpo:o≠p:=fun e=>hy o rfl e.symm
   have hpl:p<(H++G).length:=(List.getElem?_eq_some_iff.1 hp).1
   rw[cZ (by simp only[List.length_set,List.length_append,List.length_cons,List.length_nil] at hpl ⊢;omega),List.getElem?_set_ne hpo,cZ hpl]
   exact hp
abbrev vD (d:Int×Int):AV:=.agg [vI d.1,vI d.2]
abbrev aRC:AV:=.ifc 205 .any
theorem aQ.get {H:aB} {x:AV} {l:List Int} (hx:aQ H x l) {i:Nat} (hi:i<l.length):∃own o off cs,x=.sl own o off l.length 1∧iP H[o]?=some cs∧cs[off+i]?=some (vI (l.getD i 0)):=by
 rcases hx with ⟨rfl,h0⟩|⟨own,o,off,cs,rfl,hcs,hcell⟩
 ·omega
 ·exact⟨own,o,off,cs,rfl,hcs,hcell i (by omega)⟩
theorem cU.get {H:aB} {x:AV} {l:List (Int×Int)} (hx:cU H x l) {i:Nat} (hi:i<l.length):∃own o off cs,x=.sl own o off l.length 2∧iP H[o]?=some cs∧off+i*2+2≤cs.length∧(cs.drop (off+i*2)).take 2=[vI (l.getD i (0,0)).1,vI (l.getD i (0,0)).2]:=by
 rcases hx with ⟨rfl,h0⟩|⟨own,o,off,cs,rfl,hcs,hcell⟩
 ·omega
 ·obtain⟨h1,h2⟩:=rB (H:=H) hcell hi
  exact⟨own,o,off,cs,rfl,hcs,h1,h2⟩
theorem aH4 (w0:World) (t:Int) (h0:0≤t) (h1:t≤9223372036854775807) (H:aB):aH prog (CB w0) 107 [vI t] H fun r H'=>r=.agg [vI (t/86400),vI (t%86400/3600),vI (t%86400/60%60),vI (t%86400%60)]∧∃G,H'=H++G:=by
 refine aSi (N:=16) (rs:=[.cell 2 154]) Tryz.func107 ?_
 rintro e he ⟨g0,-⟩
 simp only[go_sem,he,g0]
 rw[Int.tdiv_eq_ediv_of_nonneg h0,Int.tmod_eq_emod_of_nonneg h0]
 have q:=Int.emod_nonneg t (show (86400:Int)≠0 by omega)
 rw[Int.tdiv_eq_ediv_of_nonneg q,Int.tdiv_eq_ediv_of_nonneg q,Int.tmod_eq_emod_of_nonneg q,aJ (by omega),aJ (by omega),aJ (by omega),Int.tmod_eq_emod_of_nonneg (by omega)]
 exact⟨rfl,_,rfl⟩
theorem aJ9 {w0:World} (y:Int) (h0:0≤y) (H:aB):aH prog (CB w0) 166 [vI y] H fun r H'=>r=vB (aR y)∧H'=H:=by
 refine aSi (N:=16) (rs:=[.tmp 2]) Tryz.func166 ?_
 rintro e he ⟨g0,-⟩
 have e4:y.tmod 4=y%4:=Int.tmod_eq_emod_of_nonneg h0
 have e1:y.tmod 100=y%100:=Int.tmod_eq_emod_of_nonneg h0
 have e2:y.tmod 400=y%400:=Int.tmod_eq_emod_of_nonneg h0
 by_cases c4:y%4=0
 ·by_cases c1:y%100=0
  ·simp only[go_sem,he,g0,e4,e1,e2,c4,c1]
   simp[aR,c4,c1]
  ·simp only[go_sem,he,g0,e4,e1,e2,c4,c1]
   simp[aR,c4,c1]
 ·simp only[go_sem,he,g0,e4,c4]
  simp[aR,c4]
theorem iY {w0:World} (y m:Int) (h0:0≤y) (H:aB):aH prog (CB w0) 117 [vI y,vI m] H fun r H'=>r=vI (aO y m)∧H'=H:=by
 refine aSi (N:=15) (rs:=[.tmp 4]) Tryz.func117 ?_
 rintro e he ⟨g0,g1,-⟩
 unfold aO
 by_cases a4:m=4
 ·simp only[go_sem,he,g0,g1,a4,true_or]
 by_cases a6:m=6
 ·simp only[go_sem,he,g0,g1,a6,true_or,or_true]
 by_cases a9:m=9
 ·simp only[go_sem,he,g0,g1,a9,true_or,or_true]
 by_cases a11:m=11
 ·simp only[go_sem,he,g0,g1,a11,true_or,or_true]
 by_cases a2:m=2
 ·simp only[go_sem,he,g0,g1,a2,or_false,if_false]
  refine aSh (aJ9 y h0 H) ?_
  simp only[go_sem,he,aA]
  cases aR y<;>simp only[go_sem,he,if_false,Bool.false_eq_true]
 simp only[go_sem,he,g0,g1,a4,a6,a9,a11,a2,or_false,if_false]
theorem cT {w0:World} (y:Int) (h0:1≤y) (h1:y≤1000000000000) (H:aB):aH prog (CB w0) 65 [vI y] H fun r H'=>r=vI (aC y)∧H'=H:=by
 refine aSi (N:=17) (rs:=[.tmp 2]) Tryz.func65 ?_
 rintro e he ⟨g0,-⟩
 have w1:i64.wrap (y-1)=y-1:=aJ (by omega)
 have t4:(y-1).tdiv 4=(y-1)/4:=Int.tdiv_eq_ediv_of_nonneg (by omega)
 have t1:(y-1).tdiv 100=(y-1)/100:=Int.tdiv_eq_ediv_of_nonneg (by omega)
 have t2:(y-1).tdiv 400=(y-1)/400:=Int.tdiv_eq_ediv_of_nonneg (by omega)
 simp only[go_sem,he,g0,w1,t4,t1,t2]
 rw[aJ (n:=365*(y-1)) (by omega),aJ (n:=(y-1)/4) (by omega),aJ (n:=(y-1)/100) (by omega),aJ (n:=(y-1)/400) (by omega),aJ (n:=365*(y-1)+(y-1)/4) (by omega),aJ (n:=365*(y-1)+(y-1)/4-(y-1)/100) (by omega),aJ (by omega)]
 rfl
theorem aHc {w0:World} (n:Int) (h0:0≤n) (h1:n≤100000000000) (H:aB):aH prog (CB w0) 112 [vI n] H fun r H'=>r=.agg [vI (aK n),vI (aL n).1,vI (aL n).2]∧∃G,H'=H++G:=by
 refine aSi (N:=42) (rs:=[.cell 2 159]) Tryz.func112 ?_
 rintro e he ⟨g0,-⟩
 have t1:n.tdiv 366=n/366:=Int.tdiv_eq_ediv_of_nonneg h0
 have w1:i64.wrap (n/366)=n/366:=aJ (by omega)
 have w2:i64.wrap (n/366+1)=n/366+1:=aJ (by omega)
 simp only[go_sem,he,g0,t1,w1,w2]
 refine cF (n.toNat+1) (fun k e h=>h=H++[.own 159 [vI 0,vI 0,vI 0]]∧len e=42∧AL.get e 0=vI n∧AL.get e 2=.ptr H.length 0∧∃y:Int,AL.get e 3=vI y∧iB n k y=aK n∧n+1≤y+k∧1≤y∧y≤n+1∧aC y≤n) (by kernel_rfl) ?_ ?_
 ·simp only[go_sem,he,g0]
  exact⟨_,rfl,rfl,by omega,by omega,by omega,by unfold aC;omega⟩
 ·rintro k e h ⟨rfl,he,g0,g2,y,g3,hk,hm,hy,hy2,hbn⟩
  have w1:i64.wrap (y+1)=y+1:=aJ (by omega)
  simp only[go_sem,he,g0,g2,g3,w1]
  refine aSh (cT (y+1) (by omega) (by omega) _) ?_
  simp only[go_sem,he,g0,g2,g3,w1,aA]
  refine aF (fun hc=>?_) fun hc=>?_
  ·have hc:=odT hc
   have hb:=dG (y:=y+1) (by omega)
   simp only[go_sem,he,g0,g2,g3,w1]
   obtain⟨j,rfl⟩:∃j,k=j+1:=⟨k-1,by omega⟩
   rw[iB,if_pos hc] at hk
   exact⟨j,by omega,_,rfl,hk,by omega,by omega,by omega,hc⟩
  ·have hc:=odF hc
   rw[aFr hc] at hk
   subst hk
   simp only[go_sem,he,g0,g2,g3,w1]
   refine aSh (cT (aK n) (by omega) (by omega) _) ?_
   have hb0:=dG hy
   have hd:n-aC (aK n)+1≤367:=by have:=lJ (aK n);omega
   have w3:i64.wrap (n-aC (aK n))=n-aC (aK n):=aJ (by omega)
   have w4:i64.wrap (n-aC (aK n)+1)=n-aC (aK n)+1:=aJ (by omega)
   simp only[go_sem,he,g0,g2,g3,w1,w3,w4,aA,List.replicate]
   generalize hY:aK n=y at *
   refine cF 400 (fun k e h=>∃m d:Int,h=H++[.own 159 [vI 0,vI 0,vI 0],.own 159 [vI y,vI m,vI d]]∧len e=42∧AL.get e 2=.ptr H.length 0∧AL.get e 3=vI y∧AL.get e 4=.ptr (H.length+1) 0∧eK y k m d=aL n∧d≤28*k∧1≤m∧m+k≤401) (by kernel_rfl) ?_ ?_
   ·simp only[go_sem,he,g2,g3]
    exact⟨1,n-aC y+1,rfl,by unfold aL;rw[hY],by omega,by omega,by omega⟩
   ·rintro k e h ⟨m,d,rfl,he,g2,g3,g4,hk,hd,hm,hmk⟩
    have hp:=bP y m
    simp only[go_sem,he,g2,g3,g4]
    refine bF bI (by kernel_rfl) ?_
    simp only[go_sem,he,g2,g3,g4]
    refine aSh (iY y m (by omega) _) ?_
    simp only[go_sem,he,g2,g3,g4,aA]
    refine aF (fun hc=>?_) fun hc=>?_
    ·have hc:=odT hc
     simp only[go_sem,he,g2,g3,g4]
     refine bF bI (by kernel_rfl) ?_
     simp only[go_sem,he,g2,g3,g4]
     refine aSh (iY y m (by omega) _) ?_
     simp only[go_sem,he,g2,g3,g4,aA]
     rw[aJ (n:=m+1) (by omega),aJ (n:=d-aO y m) (by omega)]
     obtain⟨j,rfl⟩:∃j,k=j+1:=⟨k-1,by omega⟩
     rw[eK,if_pos hc] at hk
     exact⟨j,by omega,_,_,rfl,hk,by omega,by omega,by omega⟩
    ·have hc:=odF hc
     rw[vX hc] at hk
     rw[←hk]
     simp only[go_sem,he,g2,g3,g4]
     exact⟨_,rfl⟩
theorem mZ {w0:World} (t:Int) (h0:0≤t) (h1:t≤9223372036854775807) (H:aB):aH prog (CB w0) 107 [vI t] H fun r H'=>r=.agg [vI (t/86400),vI (t%86400/3600),vI (t%86400/60%60),vI (t%86400%60)]∧H'=H:=
 (aH4 w0 t h0 h1 H).plain1 rfl
theorem xG {w0:World} (n:Int) (h0:0≤n) (h1:n≤100000000000) (H:aB):aH prog (CB w0) 112 [vI n] H fun r H'=>r=.agg [vI (aK n),vI (aL n).1,vI (aL n).2]∧H'=H:=
 (aHc n h0 h1 H).plain1 rfl
theorem aPc {w0:World} (y:Int) (h0:0≤y) (H:aB):aH prog (CB w0) 169 [vI y] H fun r H'=>r=vB (aR y)∧H'=H:=by
 refine aSi (N:=16) (rs:=[.tmp 2]) Tryz.func169 ?_
 rintro e he ⟨g0,-⟩
 have e4:y.tmod 4=y%4:=Int.tmod_eq_emod_of_nonneg h0
 have e1:y.tmod 100=y%100:=Int.tmod_eq_emod_of_nonneg h0
 have e2:y.tmod 400=y%400:=Int.tmod_eq_emod_of_nonneg h0
 by_cases c4:y%4=0
 ·by_cases c1:y%100=0
  ·simp only[go_sem,he,g0,e4,e1,e2,c4,c1]
   simp[aR,c4,c1]
  ·simp only[go_sem,he,g0,e4,e1,e2,c4,c1]
   simp[aR,c4,c1]
 ·simp only[go_sem,he,g0,e4,c4]
  simp[aR,c4]
theorem qH {w0:World} (y m:Int) (h0:0≤y) (H:aB):aH prog (CB w0) 132 [vI m,vI y] H fun r H'=>r=vI (aO y m)∧H'=H:=by
 refine aSi (N:=15) (rs:=[.tmp 4]) Tryz.func132 ?_
 rintro e he ⟨g0,g1,-⟩
 unfold aO
 by_cases a2:m=2
 ·simp only[go_sem,he,g0,g1,a2,or_false,if_false]
  refine aSh (aPc y h0 H) ?_
  simp only[go_sem,he,aA]
  cases aR y<;>simp only[go_sem,he,if_false,Bool.false_eq_true]
 by_cases a4:m=4
 ·simp only[go_sem,he,g0,g1,a4,true_or]
 by_cases a6:m=6
 ·simp only[go_sem,he,g0,g1,a6,true_or,or_true]
 by_cases a9:m=9
 ·simp only[go_sem,he,g0,g1,a9,true_or,or_true]
 by_cases a11:m=11
 ·simp only[go_sem,he,g0,g1,a11,true_or,or_true]
 simp only[go_sem,he,g0,g1,a4,a6,a9,a11,a2,or_false,if_false]
theorem jZ {w0:World} (a b:Int) (ha:-9000000000000000000≤a∧a≤9000000000000000000) (hb:1≤b∧b≤9000000000000000000) (H:aB):aH prog (CB w0) 133 [vI a,vI b] H fun r H'=>r=vI (a/b)∧H'=H:=by
 refine aSi (N:=16) (rs:=[.tmp 4]) Tryz.func133 ?_
 rintro e he ⟨g0,g1,-⟩
 have hb0:b≠0:=by omega
 have hle:=jD a b hb.1
 rcases Int.le_total 0 a with h|h
 ·have t1:a.tdiv b=a/b:=Int.tdiv_eq_ediv_of_nonneg h
  have t2:a.tmod b=a%b:=Int.tmod_eq_emod_of_nonneg h
  have hr:=Int.emod_nonneg a hb0
  have w1:i64.wrap (a/b)=a/b:=aJ (by omega)
  have hd:decide (a%b<0)=false:=dcF (by omega)
  simp only[go_sem,he,g0,g1,t1,t2,w1,hd,hb0]
 ·have hd1:=sN a b h (by omega)
  have hb1:-9000000000000000000≤a.tdiv b∧a.tdiv b≤9000000000000000001:=by
   rcases hd1 with ⟨-,e⟩|⟨-,e⟩<;>omega
  have w1:i64.wrap (a.tdiv b)=a.tdiv b:=aJ (by omega)
  rcases hd1 with ⟨h1,h2⟩|⟨h1,h2⟩
  ·have hd:decide (a.tmod b<0)=false:=dcF (by omega)
   rw[h2] at w1
   simp only[go_sem,he,g0,g1,w1,hd,hb0,h2]
  ·have hd:decide (a.tmod b<0)=true:=dcT (by omega)
   have w2:i64.wrap (a.tdiv b-1)=a/b:=by rw[aJ (by omega)];omega
   simp only[go_sem,he,g0,g1,w1,w2,hd,hb0]
theorem aLn {w0:World} (y:Int) (h0:-1000000000≤y) (h1:y≤1000000000) (H:aB):aH prog (CB w0) 167 [vI y] H fun r H'=>r=vI (aC y)∧H'=H:=by
 refine aSi (N:=17) (rs:=[.tmp 2]) Tryz.func167 ?_
 rintro e he ⟨g0,-⟩
 have w1:i64.wrap (y-1)=y-1:=aJ (by omega)
 have w2:i64.wrap (365*(y-1))=365*(y-1):=aJ (by omega)
 have w3:i64.wrap (365*(y-1)+(y-1)/4)=365*(y-1)+(y-1)/4:=aJ (by omega)
 have w4:i64.wrap (365*(y-1)+(y-1)/4-(y-1)/100)=365*(y-1)+(y-1)/4-(y-1)/100:=aJ (by omega)
 have w5:i64.wrap (365*(y-1)+(y-1)/4-(y-1)/100+(y-1)/400)=aC y:=by rw[aJ (by omega)];rfl
 simp only[go_sem,he,g0,w1]
 refine aSh (jZ (y-1) 4 (by omega) (by omega) H) ?_
 simp only[go_sem,he,aA,w2,w3]
 refine aSh (jZ (y-1) 100 (by omega) (by omega) H) ?_
 simp only[go_sem,he,aA,w4]
 refine aSh (jZ (y-1) 400 (by omega) (by omega) H) ?_
 simp only[go_sem,he,aA,w5]
theorem gZ {w0:World} (y mo d h mi s n:Int) (ok:aRA y mo d h mi s n) (z:AV) (hz:dS z=some []) (H:aB):aH prog (CB w0) 128 [vI y,vI mo,vI d,vI h,vI mi,vI s,vI n,z] H fun r H'=>r=.agg [vI (eL y mo d h mi s),vI n]∧H'=H:=by
 refine aH.plain1 rfl ?_
 refine aSi (N:=71) (rs:=[.cell 16 78]) Tryz.func128 ?_
 rintro e he ⟨g0,g1,g2,g3,g4,g5,g6,g7,-⟩
 obtain⟨⟨y0,y1,y2⟩,⟨mo0,mo1⟩,⟨d0,d1⟩,⟨h0,h1⟩,⟨mi0,mi1⟩,⟨s0,s1⟩,⟨n0,n1⟩⟩:=ok
 have w1:i64.wrap mo=mo:=aJ (by omega)
 have w2:i64.wrap (mo-1)=mo-1:=aJ (by omega)
 have w3:i64.wrap y=y:=aJ (by omega)
 have w4:i64.wrap (y+(mo-1)/12)=y+(mo-1)/12:=aJ (by omega)
 have w5:i64.wrap (12*((mo-1)/12))=12*((mo-1)/12):=aJ (by omega)
 have w6:i64.wrap (mo-1-12*((mo-1)/12))=(mo-1)%12:=by rw[aJ (by omega)];omega
 simp only[go_sem,he,g0,g1,g2,g3,g4,g5,g6,g7,hz,w1,w2,w3,dL (P:=prog) (s:=115) (d:=2) Tryz.underlying115 Tryz.underlying2,dL (P:=prog) (s:=3) (d:=2) Tryz.underlying3 Tryz.underlying2]
 refine aSh (jZ (mo-1) 12 (by omega) (by omega) _) ?_
 simp only[go_sem,he,g0,g1,g2,g3,g4,g5,g6,w1,w2,w3,w4,w5,w6,aA]
 refine aSh (jZ (mo-1) 12 (by omega) (by omega) _) ?_
 simp only[go_sem,he,g0,g1,g2,g3,g4,g5,g6,w1,w2,w3,w4,w5,w6,aA]
 unfold eL
 generalize hY:y+(mo-1)/12=Y at *
 have hM0:0≤(mo-1)%12:=by omega
 have hM1:(mo-1)%12<12:=by omega
 generalize hM:(mo-1)%12=M at *
 refine aSh (aLn Y (by omega) (by omega) _) ?_
 have hb:=dO Y
 have w7:i64.wrap d=d:=aJ (by omega)
 have w8:i64.wrap (aC Y+d)=aC Y+d:=aJ (by omega)
 have w9:i64.wrap (aC Y+d-1)=aC Y+d-1:=aJ (by omega)
 have w10:i64.wrap M=M:=aJ (by omega)
 simp only[go_sem,he,g0,g1,g2,g3,g4,g5,g6,aA,w7,w8,w9,dL (P:=prog) (s:=3) (d:=2) Tryz.underlying3 Tryz.underlying2]
 refine cF M.toNat (fun k e h'=>h'=H++[.own 174 [],.own 78 [vI 0,vI 0]]∧len e=71∧AL.get e 3=vI h∧AL.get e 4=vI mi∧AL.get e 5=vI s∧AL.get e 6=vI n∧AL.get e 16=.ptr (H.length+1) 0∧AL.get e 17=vI M∧AL.get e 18=vI Y∧∃i:Nat,i+k=M.toNat∧AL.get e 20=vI ((i:Int)+1)∧AL.get e 19=vI (aC Y+d-1+bA Y i)) (by kernel_rfl) ?_ ?_
 ·simp only[go_sem,he,g0,g1,g2,g3,g4,g5,g6]
  exact⟨0,by omega,rfl,by simp[bA]⟩
 ·rintro k e h' ⟨rfl,he,g3,g4,g5,g6,g16,g17,g18,i,hik,g20,g19⟩
  have hmb:=eX Y i
  simp only[go_sem,he,g3,g4,g5,g6,g16,g17,g18,g20,g19,w10,dL (P:=prog) (s:=2) (d:=3) Tryz.underlying2 Tryz.underlying3]
  refine aF (fun hc=>?_) fun hc=>?_
  ·have hc:=odT hc
   simp only[go_sem,he,g3,g4,g5,g6,g16,g17,g18,g20,g19]
   refine aSh (qH Y (i+1) y0 _) ?_
   have hmp:=bP Y (i+1)
   have u1:i64.wrap ((i:Int)+1+1)=((i+1:Nat):Int)+1:=by rw[aJ (by omega)];omega
   have u2:i64.wrap (aC Y+d-1+bA Y i+aO Y (i+1))=aC Y+d-1+bA Y (i+1):=by rw[aJ (by omega)];simp only[bA];omega
   simp only[go_sem,he,g3,g4,g5,g6,g16,g17,g18,g20,g19,aA,u1,u2]
   exact⟨k-1,by omega,i+1,by omega,rfl,rfl⟩
  ·have hc:=odF hc
   have hi:i=M.toNat:=by omega
   rw[hi] at g19 hmb
   have u1:i64.wrap ((aC Y+d-1+bA Y M.toNat)*86400)=(aC Y+d-1+bA Y M.toNat)*86400:=aJ (by omega)
   have u2:i64.wrap h=h:=aJ (by omega)
   have u3:i64.wrap (h*3600)=h*3600:=aJ (by omega)
   have u4:i64.wrap ((aC Y+d-1+bA Y M.toNat)*86400+h*3600)=(aC Y+d-1+bA Y M.toNat)*86400+h*3600:=aJ (by omega)
   have u5:i64.wrap mi=mi:=aJ (by omega)
   have u6:i64.wrap (mi*60)=mi*60:=aJ (by omega)
   have u7:i64.wrap ((aC Y+d-1+bA Y M.toNat)*86400+h*3600+mi*60)=(aC Y+d-1+bA Y M.toNat)*86400+h*3600+mi*60:=aJ (by omega)
   have u8:i64.wrap s=s:=aJ (by omega)
   have u9:i64.wrap ((aC Y+d-1+bA Y M.toNat)*86400+h*3600+mi*60+s)=(aC Y+d-1+bA Y M.toNat)*86400+h*3600+mi*60+s:=aJ (by omega)
   have u10:i64.wrap n=n:=aJ (by omega)
   have u11:n/1000000000=0:=by omega
   have u12:i64.wrap 0=0:=rfl
   simp only[go_sem,he,g3,g4,g5,g6,g16,g17,g18,g20,g19,u1,u2,u3,u4,u5,u6,u7,u8,u9,u10,dL (P:=prog) (s:=3) (d:=2) Tryz.underlying3 Tryz.underlying2]
   refine aSh (jZ n 1000000000 (by omega) (by omega) _) ?_
   simp only[go_sem,he,g3,g4,g5,g6,g16,g17,g18,g20,g19,aA,u9,u10,u11,u12,Int.add_zero,Int.zero_mul,Int.sub_zero]
   exact⟨_,rfl⟩
theorem aA9 {w0:World} (H:aB):aH prog (CB w0) 174 [] H fun r H'=>r=.agg []∧H'=H:=by
 refine aH.flat rfl ?_
 refine aSi (N:=2) (rs:=[.cell 0 174]) Tryz.func174 ?_
 rintro e he -
 simp only[go_sem,he]
 exact⟨_,rfl⟩
theorem rC {w0:World} (t n:Int) (H:aB):aH prog (CB w0) 60 [.agg [vI t,vI n]] H fun r H'=>r=vB (decide (t=0)&&decide (n=0))∧H'=H:=by
 refine aH.flat rfl ?_
 refine aSi (N:=11) (rs:=[.tmp 2]) Tryz.func60 ?_
 rintro e he ⟨g0,-⟩
 by_cases h:t=0
 ·have d:=dcT h
  simp only[go_sem,he,g0,d,Bool.true_and]
  exact⟨_,rfl⟩
 ·have d:=dcF h
  simp only[go_sem,he,g0,d,Bool.false_and]
  exact⟨_,rfl⟩
theorem aH5 {w0:World} (t n:Int) (H:aB):aH prog (CB w0) 53 [.agg [vI t,vI n]] H fun r H'=>r=vI t∧H'=H:=by
 refine aH.flat rfl ?_
 refine aSi (N:=5) (rs:=[.tmp 2]) Tryz.func53 ?_
 rintro e he ⟨g0,-⟩
 simp only[go_sem,he,g0]
 exact⟨_,rfl⟩
theorem zJ {w0:World} (t:Int) (ht:InY t) (H:aB):aH prog (CB w0) 131 [.agg [vI t,vI 0]] H fun r H'=>r=.tup [vI (aK (t/86400)),vI (t/86400-aC (aK (t/86400))),vI (t%86400)]∧H'=H:=by
 refine aH.flat rfl ?_
 refine aSi (N:=59) (rs:=[.tmp 2,.tmp 3,.tmp 4]) Tryz.func131 ?_
 rintro e he ⟨g0,-⟩
 have hb:=ht.2
 have hb2:aC 10000*86400=315537897600:=by decide
 have h0:=ht.1
 obtain⟨n,hn⟩:∃n,n=t/86400:=⟨_,rfl⟩
 obtain⟨q,hq⟩:∃q,q=n/146097:=⟨_,rfl⟩
 obtain⟨r,hr⟩:∃r,r=n-q*146097:=⟨_,rfl⟩
 obtain⟨c,hc⟩:∃c,c=cyC r:=⟨_,rfl⟩
 obtain⟨f,hf⟩:∃f,f=(r-c*36524)/1461:=⟨_,rfl⟩
 obtain⟨o,ho⟩:∃o,o=cyO (r-c*36524-f*1461):=⟨_,rfl⟩
 obtain⟨s1,s2,s3,s4,s5,s6,s7,s8,s9,s10⟩:=aFs (n:=n) (by omega) hq hr hc hf ho
 have hnb:0≤n∧n≤4000000:=by omega
 simp only[go_sem,he,g0]
 refine aSh (jZ t 86400 (by omega) (by omega) _) ?_
 rw[←hn]
 have u1:i64.wrap (n*86400)=n*86400:=aJ (by omega)
 have u2:i64.wrap (t-n*86400)=t%86400:=by rw[aJ (by omega)];omega
 simp only[go_sem,he,g0,aA,u1,u2]
 refine aSh (jZ n 146097 (by omega) (by omega) _) ?_
 rw[←hq]
 have u3:i64.wrap (q*146097)=q*146097:=aJ (by omega)
 have u4:i64.wrap (n-q*146097)=r:=by rw[aJ (by omega)];omega
 have u5:i64.wrap (r.tdiv 36524)=r/36524:=by rw[Int.tdiv_eq_ediv_of_nonneg s9];exact aJ (by omega)
 simp only[go_sem,he,g0,aA,u3,u4,u5]
 refine bC (fun e1 h1=>h1=H++[.own 78 [vI t,vI 0]]∧len e1=59∧AL.get e1 4=vI (t%86400)∧AL.get e1 5=vI r∧AL.get e1 6=vI q∧AL.get e1 7=vI c) (fun hp=>?_) (fun hp=>?_) ?_
 ·have hp:=odT hp
  simp only[go_sem,he,g0]
  rw[hc,cyC,if_pos hp]
 ·have hp:=odF hp
  simp only[go_sem,he,g0]
  rw[hc,cyC,if_neg hp]
 rintro e h1 ⟨rfl,he,g4,g5,g6,g7⟩
 have v1:i64.wrap (c*36524)=c*36524:=aJ (by omega)
 have v2:i64.wrap (r-c*36524)=r-c*36524:=aJ (by omega)
 have hr1:0≤r-c*36524:=by
  unfold cyC at hc
  split at hc<;>omega
 have v3:i64.wrap ((r-c*36524).tdiv 1461)=f:=by rw[Int.tdiv_eq_ediv_of_nonneg hr1,←hf];exact aJ (by omega)
 have v4:i64.wrap (f*1461)=f*1461:=aJ (by omega)
 have v5:i64.wrap (r-c*36524-f*1461)=r-c*36524-f*1461:=aJ (by omega)
 have hr2:0≤r-c*36524-f*1461:=by omega
 have v6:i64.wrap ((r-c*36524-f*1461).tdiv 365)=(r-c*36524-f*1461)/365:=by rw[Int.tdiv_eq_ediv_of_nonneg hr2];exact aJ (by omega)
 simp only[go_sem,he,g4,g5,g6,g7,v1,v2,v3,v4,v5,v6]
 refine bC (fun e1 h1=>h1=H++[.own 78 [vI t,vI 0]]∧len e1=59∧AL.get e1 4=vI (t%86400)∧AL.get e1 5=vI (r-c*36524-f*1461)∧AL.get e1 6=vI q∧AL.get e1 7=vI c∧AL.get e1 8=vI f∧AL.get e1 9=vI o) (fun hp=>?_) (fun hp=>?_) ?_
 ·have hp:=odT hp
  simp only[go_sem,he,g4,g5,g6,g7]
  rw[ho,cyO,if_pos hp]
 ·have hp:=odF hp
  simp only[go_sem,he,g4,g5,g6,g7]
  rw[ho,cyO,if_neg hp]
 rintro e h1 ⟨rfl,he,g4,g5,g6,g7,g8,g9⟩
 have x1:i64.wrap (o*365)=o*365:=aJ (by omega)
 have x2:i64.wrap (r-c*36524-f*1461-o*365)=r-c*36524-f*1461-o*365:=aJ (by omega)
 have x3:i64.wrap (400*q)=400*q:=aJ (by omega)
 have x4:i64.wrap (100*c)=100*c:=aJ (by omega)
 have x5:i64.wrap (4*f)=4*f:=aJ (by omega)
 have x6:i64.wrap (400*q+100*c)=400*q+100*c:=aJ (by omega)
 have x7:i64.wrap (400*q+100*c+4*f)=400*q+100*c+4*f:=aJ (by omega)
 have x8:i64.wrap (400*q+100*c+4*f+o)=400*q+100*c+4*f+o:=aJ (by omega)
 have x9:i64.wrap (400*q+100*c+4*f+o+1)=400*q+100*c+4*f+o+1:=aJ (by omega)
 simp only[go_sem,he,g4,g5,g6,g7,g8,g9,x1,x2,x3,x4,x5,x6,x7,x8,x9]
 rw[←hn,s1] at *
 rw[s2]
 exact⟨rfl,_,rfl⟩
theorem mI {w0:World} (t:Int) (ht:InY t) (H:aB):aH prog (CB w0) 79 [.agg [vI t,vI 0]] H fun r H'=>r=.tup [vI (aK (t/86400)),vI (aL (t/86400)).1,vI (aL (t/86400)).2]∧H'=H:=by
 refine aH.flat rfl ?_
 refine aSi (N:=31) (rs:=[.tmp 2,.tmp 3,.tmp 4]) Tryz.func79 ?_
 rintro e he ⟨g0,-⟩
 have hb:=ht.2
 have hb2:aC 10000*86400=315537897600:=by decide
 have h0:=ht.1
 simp only[go_sem,he,g0]
 refine aSh (zJ t ht _) ?_
 have hk:=eW (n:=t/86400) (by omega)
 have hk2:=kD (n:=t/86400) (by omega)
 have hst:=lJ (aK (t/86400))
 have hbg:=dG (y:=aK (t/86400)) (by omega)
 have hdo:aL (t/86400)=eK (aK (t/86400)) 400 1 (t/86400-aC (aK (t/86400))+1):=rfl
 simp only[go_sem,he,g0,aA]
 generalize aK (t/86400)=y at *
 generalize aL (t/86400)=D at *
 generalize t/86400=n at *
 refine cF 400 (fun k e h=>∃m d:Int,h=H++[.own 78 [vI t,vI 0]]∧len e=31∧AL.get e 5=vI y∧AL.get e 8=vI m∧AL.get e 6=vI d∧eK y k m (d+1)=D∧d≤366-28*(m-1)∧1≤m∧m+k=401∧0≤d) (by kernel_rfl) ?_ ?_
 ·simp only[go_sem,he,g0]
  exact⟨1,n-aC y,rfl,rfl,hdo.symm,by omega,by omega,by omega,by omega⟩
 ·rintro k e h ⟨m,d,rfl,he,g5,g8,g6,hk,hd,hm,hm2,hd0⟩
  have hp:=bP y m
  simp only[go_sem,he,g5,g8,g6]
  refine aSh (qH y m (by omega) _) ?_
  simp only[go_sem,he,g5,g8,g6,aA]
  refine aF (fun hc=>?_) fun hc=>?_
  ·have hc:=odT hc
   simp only[go_sem,he,g5,g8,g6]
   refine aSh (qH y m (by omega) _) ?_
   have w1:i64.wrap (d-aO y m)=d-aO y m:=aJ (by omega)
   have w2:i64.wrap (m+1)=m+1:=aJ (by omega)
   simp only[go_sem,he,g5,g8,g6,aA,w1,w2]
   obtain⟨j,rfl⟩:∃j,k=j+1:=⟨k-1,by omega⟩
   rw[eK,if_pos (by omega),show d+1-aO y m=d-aO y m+1 by omega] at hk
   exact⟨j,by omega,_,_,rfl,rfl,hk,by omega,by omega,by omega,by omega⟩
  ·have hc:=odF hc
   rw[vX (by omega)] at hk
   have w1:i64.wrap (d+1)=d+1:=aJ (by omega)
   simp only[go_sem,he,g5,g8,g6,aA,w1]
   rw[←hk]
   exact⟨rfl,_,rfl⟩
theorem lZ {w0:World} (t:Int) (ht:InY t) (H:aB):aH prog (CB w0) 80 [.agg [vI t,vI 0]] H fun r H'=>r=.tup [vI (t%86400/3600),vI (t%86400/60%60),vI (t%86400%60)]∧H'=H:=by
 refine aH.flat rfl ?_
 refine aSi (N:=21) (rs:=[.tmp 2,.tmp 3,.tmp 4]) Tryz.func80 ?_
 rintro e he ⟨g0,-⟩
 simp only[go_sem,he,g0]
 refine aSh (zJ t ht _) ?_
 have h1:(t%86400).tdiv 3600=t%86400/3600:=Int.tdiv_eq_ediv_of_nonneg (by omega)
 have h2:(t%86400).tdiv 60=t%86400/60:=Int.tdiv_eq_ediv_of_nonneg (by omega)
 have h3:(t%86400/60).tmod 60=t%86400/60%60:=Int.tmod_eq_emod_of_nonneg (by omega)
 have h4:(t%86400).tmod 60=t%86400%60:=Int.tmod_eq_emod_of_nonneg (by omega)
 have w1:i64.wrap (t%86400/3600)=t%86400/3600:=aJ (by omega)
 have w2:i64.wrap (t%86400/60)=t%86400/60:=aJ (by omega)
 have w3:i64.wrap (t%86400/60%60)=t%86400/60%60:=aJ (by omega)
 have w4:i64.wrap (t%86400%60)=t%86400%60:=aJ (by omega)
 simp only[go_sem,he,g0,aA,h1,h2,h3,h4,w1,w2,w3,w4]
 exact⟨_,rfl⟩
theorem aPd {w0:World} (l:List Int) (hl:l.length≤1000000000) (a:Int) (x:AV) (H:aB) (hx:aQ H x l):aH prog (CB w0) 104 [x,vI a] H fun r H'=>r=vI (ixI l a)∧H'=H:=by
 refine aSi (N:=19) (rs:=[.tmp 4]) Tryz.func104 ?_
 rintro e he ⟨g0,g1,-⟩
 have hlen:=hx.len 3
 simp only[go_sem,he,g0,g1,hlen]
 refine cF l.length (fun k e h=>h=H∧len e=19∧AL.get e 0=x∧AL.get e 1=vI a∧AL.get e 7=vI l.length∧∃i:Nat,AL.get e 8=vI i∧i+k=l.length∧∀(j:Nat) b,j<i→l[j]?=some b→decide (a=b)=false) (by kernel_rfl) ?_ ?_
 ·simp only[go_sem,he,g0,g1]
  exact⟨0,rfl,by omega,fun j b hj=>by omega⟩
 ·rintro k e h ⟨rfl,he,g0,g1,g7,i,g8,hik,hno⟩
  have wi:i64.wrap ((i:Int)+1)=((i+1:Nat):Int):=by rw[aJ (by omega)];rfl
  simp only[go_sem,he,g0,g1,g7,g8]
  refine aF (fun hc=>?_) fun hc=>?_
  ·have hc:=odT hc
   have hi:i<l.length:=by omega
   rcases hx with ⟨rfl,h0⟩|⟨own,o,off,cs,rfl,hcs,hcell⟩
   ·omega
   have hci:cs[off+i]?=some (vI (l.getD i 0)):=hcell i (by omega)
   have hli:l[i]?=some (l.getD i 0):=by rw[List.getD_eq_getElem?_getD,List.getElem?_eq_getElem hi];rfl
   generalize l.getD i 0=b at *
   simp only[go_sem,he,g0,g1,g7,g8,hcs,hci,Int.toNat_natCast]
   refine⟨by omega,aF (fun hq=>?_) fun hq=>?_⟩
   ·simp only[go_sem,he,g0,g1,g7,g8]
    unfold ixI
    rw[oK hli hq hno]
   ·simp only[go_sem,he,g0,g1,g7,g8,wi]
    refine⟨k-1,by omega,i+1,rfl,by omega,fun j c hj hjc=>?_⟩
    rcases Nat.lt_or_ge j i with h1|h1
    ·exact hno j c h1 hjc
    ·have:j=i:=by omega
     subst this
     rw[hli] at hjc
     cases hjc
     exact hq
  ·have hc:=odF hc
   simp only[go_sem,he,g0,g1,g7,g8]
   unfold ixI
   rw[mX fun j b hj=>hno j b (by have:=(List.getElem?_eq_some_iff.1 hj).1;omega) hj]
theorem gC {w0:World} (l:List Int) (hl:l.length≤1000000000) (a:Int) (x:AV) (H:aB) (hx:aQ H x l):aH prog (CB w0) 69 [x,vI a] H fun r H'=>r=vB (l.contains a)∧H'=H:=by
 refine aSi (N:=9) (rs:=[.tmp 4]) Tryz.func69 ?_
 rintro e he ⟨g0,g1,-⟩
 simp only[go_sem,he,g0,g1]
 refine aSh (aPd l hl a x _ hx) ?_
 simp only[go_sem,he,g0,g1,aA]
 rw[aPa]
theorem aQ.take {H:aB} {own:Bool} {o off st:Nat} {l:List Int} (hx:aQ H (.sl own o off l.length 1) l) {i:Nat} (hi:i≤l.length):aQ H (.sl own o off i 1) (l.take i):=by
 rcases hx with ⟨h,_⟩|⟨own',o',off',cs,h,hcs,hcell⟩
 ·cases h
 ·cases h
  refine .inr ⟨own,o,off,cs,by rw[List.length_take];congr 1;omega,hcs,fun j hj=>?_⟩
  rw[List.length_take] at hj
  rw[hcell j (by omega)]
  show some (vI (l.getD j 0))=some (vI ((l.take i).getD j 0))
  rw[List.getD_eq_getElem?_getD,List.getD_eq_getElem?_getD,List.getElem?_take_of_lt (by omega)]
theorem cD {w0:World} (l:List Int) (hl:l.length≤1000000000000) (hr:∀n∈l,-9223372036854775808≤n∧n≤9223372036854775807) (most low high:Int) (hm:most≤1000) (zero:Bool) (x:AV) (H:aB) (hx:aQ H x l):aH prog (CB w0) 66 [x,vI most,vI low,vI high,vB zero] H fun r H'=>r=vB (cP l most low high zero)∧H'=H:=by
 refine aSi (N:=48) (rs:=[.tmp 10]) Tryz.func66 ?_
 rintro e he ⟨g0,g1,g2,g3,g4,-⟩
 have hlen:=hx.len 3
 simp only[go_sem,he,g0,g1,g2,g3,g4,hlen]
 refine aF (fun hc=>?_) fun hc=>?_
 ·have hc:=odT hc
  simp only[go_sem,he,g0,g1,g2,g3,g4]
  unfold cP
  rw[dcF (by omega),Bool.false_and]
 ·have hc:=odF hc
  simp only[go_sem,he,g0,g1,g2,g3,g4,hlen]
  refine cF l.length (fun k e h=>h=H∧len e=48∧AL.get e 0=x∧AL.get e 2=vI low∧AL.get e 3=vI high∧AL.get e 4=vB zero∧AL.get e 17=x∧AL.get e 18=vI l.length∧∃i:Nat,AL.get e 19=vI i∧i+k=l.length∧(List.range i).all (fZ l low high zero)=true) (by kernel_rfl) ?_ ?_
  ·simp only[go_sem,he,g0,g1,g2,g3,g4]
   exact⟨0,rfl,by omega,rfl⟩
  ·rintro k e h ⟨rfl,he,g0,g2,g3,g4,g17,g18,i,g19,hik,hall⟩
   simp only[go_sem,he,g0,g2,g3,g4,g17,g18,g19]
   refine aF (fun hc=>?_) fun hc=>?_
   ·have hc:=odT hc
    have hi:i<l.length:=by omega
    rcases hx with ⟨rfl,h0⟩|⟨own,o,off,cs,rfl,hcs,hcell⟩
    ·omega
    have hci:cs[off+i]?=some (vI (l.getD i 0)):=hcell i (by omega)
    have hx':aQ h (.sl own o off l.length 1) l:=.inr ⟨own,o,off,cs,rfl,hcs,hcell⟩
    have hdef:fZ l low high zero i=!(decide (l.getD i 0<low)||decide (high<l.getD i 0)||(decide (l.getD i 0=0)&&!zero)||(l.take i).contains (l.getD i 0)):=rfl
    have wi:i64.wrap ((i:Int)+1)=((i+1:Nat):Int):=by rw[aJ (by omega)];rfl
    generalize hn:l.getD i 0=n at *
    by_cases c1:n<low
    ·have d1:=dcT c1
     simp only[go_sem,he,g0,g2,g3,g4,g17,g18,g19,hcs,hci,Int.toNat_natCast,d1]
     refine⟨by omega,?_⟩
     rw[lK (most:=most) hi (show fZ l low high zero i=false by rw[hdef,d1];rfl)]
    have d1:=dcF c1
    by_cases c2:high<n
    ·have d2:=dcT c2
     simp only[go_sem,he,g0,g2,g3,g4,g17,g18,g19,hcs,hci,Int.toNat_natCast,d1,d2]
     refine⟨by omega,?_⟩
     rw[lK (most:=most) hi (show fZ l low high zero i=false by rw[hdef,d1,d2];rfl)]
    have d2:=dcF c2
    by_cases c3:n=0
    ·have d3:=dcT c3
     cases zero with
     |false=>
      simp only[go_sem,he,g0,g2,g3,g4,g17,g18,g19,hcs,hci,Int.toNat_natCast,d1,d2,d3]
      refine⟨by omega,?_⟩
      rw[lK (most:=most) hi (show fZ l low high false i=false by rw[hdef,d1,d2,d3];rfl)]
     |true=>
      simp only[go_sem,he,g0,g2,g3,g4,g17,g18,g19,hcs,hci,Int.toNat_natCast,nn,d1,d2,d3]
      refine⟨by omega,by omega,?_⟩
      refine aSh (gC (l.take i) (by rw[List.length_take];omega) n _ _ (aQ.take (st:=1) hx' (by omega))) ?_
      cases hq:(l.take i).contains n with
      |true=>
       simp only[go_sem,he,g0,g2,g3,g4,g17,g18,g19,hcs,hci,Int.toNat_natCast,nn,d1,d2,d3,aA]
       rw[lK (most:=most) hi (show fZ l low high true i=false by rw[hdef,d1,d2,d3,hq];rfl)]
      |false=>
       simp only[go_sem,he,g0,g2,g3,g4,g17,g18,g19,hcs,hci,Int.toNat_natCast,nn,d1,d2,d3,aA,wi]
       refine⟨k-1,by omega,i+1,rfl,by omega,?_⟩
       rw[List.range_succ,List.all_append,hall,List.all_cons,List.all_nil,show fZ l low high true i=true by rw[hdef,d1,d2,d3,hq];rfl]
       rfl
    ·have d3:=dcF c3
     simp only[go_sem,he,g0,g2,g3,g4,g17,g18,g19,hcs,hci,Int.toNat_natCast,nn,d1,d2,d3]
     refine⟨by omega,by omega,?_⟩
     refine aSh (gC (l.take i) (by rw[List.length_take];omega) n _ _ (aQ.take (st:=1) hx' (by omega))) ?_
     cases hq:(l.take i).contains n with
     |true=>
      simp only[go_sem,he,g0,g2,g3,g4,g17,g18,g19,hcs,hci,Int.toNat_natCast,nn,d1,d2,d3,aA]
      rw[lK (most:=most) hi (show fZ l low high zero i=false by rw[hdef,d1,d2,d3,hq];rfl)]
     |false=>
      simp only[go_sem,he,g0,g2,g3,g4,g17,g18,g19,hcs,hci,Int.toNat_natCast,nn,d1,d2,d3,aA,wi]
      refine⟨k-1,by omega,i+1,rfl,by omega,?_⟩
      rw[List.range_succ,List.all_append,hall,List.all_cons,List.all_nil,show fZ l low high zero i=true by rw[hdef,d1,d2,d3,hq];rfl]
      rfl
   ·have hc:=odF hc
    simp only[go_sem,he,g0,g2,g3,g4,g17,g18,g19]
    have hi:i=l.length:=by omega
    rw[hi] at hall
    unfold cP
    rw[hall,dcT (by omega)]
    rfl
theorem aLo {w0:World} (l:List (Int×Int)) (hl:l.length≤1000000000) (a:Int×Int) (x:AV) (H:aB) (hx:cU H x l):aH prog (CB w0) 102 [x,vD a] H fun r H'=>r=vI (ixD l a)∧H'=H:=by
 refine aH.flat rfl ?_
 refine aSi (N:=19) (rs:=[.tmp 4]) Tryz.func102 ?_
 rintro e he ⟨g0,g1,-⟩
 have hlen:=hx.len 41
 simp only[go_sem,he,g0,g1,hlen]
 refine cF l.length (fun k e h=>h=H++[.own 41 [vI a.1,vI a.2]]∧len e=19∧AL.get e 0=x∧AL.get e 3=.ptr H.length 0∧AL.get e 7=vI l.length∧∃i:Nat,AL.get e 8=vI i∧i+k=l.length∧∀(j:Nat) b,j<i→l[j]?=some b→eqD a b=false) (by kernel_rfl) ?_ ?_
 ·simp only[go_sem,he,g0,g1]
  exact⟨0,rfl,by omega,fun j b hj=>by omega⟩
 ·rintro k e h ⟨rfl,he,g0,g3,g7,i,g8,hik,hno⟩
  have wi:i64.wrap ((i:Int)+1)=((i+1:Nat):Int):=by rw[aJ (by omega)];rfl
  simp only[go_sem,he,g0,g3,g7,g8]
  refine aF (fun hc=>?_) fun hc=>?_
  ·have hc:=odT hc
   have hi:i<l.length:=by omega
   have hx2:=hx.more [aD.own 41 [vI a.1,vI a.2]]
   rcases hx2 with ⟨rfl,h0⟩|⟨own,o,off,cs,rfl,hcs,hcell⟩
   ·omega
   obtain⟨hd1,hd2⟩:=rB (H:=H) hcell hi
   have hli:l[i]?=some (l.getD i (0,0)):=by rw[List.getD_eq_getElem?_getD,List.getElem?_eq_getElem hi];rfl
   generalize l.getD i (0,0)=b at *
   simp only[go_sem,he,g0,g3,g7,g8]
   refine bF bI (by kernel_rfl) ?_
   simp only[go_sem,he,g0,g3,g7,g8,hcs,hd1,hd2,Int.toNat_natCast]
   refine⟨by omega,aF (fun hq=>?_) fun hq=>?_⟩
   ·simp only[go_sem,he,g0,g3,g7,g8]
    unfold ixD
    rw[oK hli hq hno]
    exact⟨rfl,_,rfl⟩
   ·simp only[go_sem,he,g0,g3,g7,g8,wi]
    refine⟨k-1,by omega,i+1,rfl,by omega,fun j c hj hjc=>?_⟩
    rcases Nat.lt_or_ge j i with h1|h1
    ·exact hno j c h1 hjc
    ·have:j=i:=by omega
     subst this
     rw[hli] at hjc
     cases hjc
     exact hq
  ·have hc:=odF hc
   simp only[go_sem,he,g0,g3,g7,g8]
   unfold ixD
   rw[mX fun j b hj=>hno j b (by have:=(List.getElem?_eq_some_iff.1 hj).1;omega) hj]
   exact⟨rfl,_,rfl⟩
theorem aFu {w0:World} (l:List (Int×Int)) (hl:l.length≤1000000000) (a:Int×Int) (x:AV) (H:aB) (hx:cU H x l):aH prog (CB w0) 67 [x,vD a] H fun r H'=>r=vB (l.contains a)∧H'=H:=by
 refine aH.flat rfl ?_
 refine aSi (N:=9) (rs:=[.tmp 4]) Tryz.func67 ?_
 rintro e he ⟨g0,g1,-⟩
 simp only[go_sem,he,g0,g1]
 refine aSh (aLo l hl a x _ (hx.more _)) ?_
 simp only[go_sem,he,g0,g1,aA]
 rw[aPb]
 exact⟨rfl,_,rfl⟩
theorem cU.take {H:aB} {own:Bool} {o off:Nat} {l:List (Int×Int)} (hx:cU H (.sl own o off l.length 2) l) {i:Nat} (hi:i≤l.length):cU H (.sl own o off i 2) (l.take i):=by
 rcases hx with ⟨h,_⟩|⟨own',o',off',cs,h,hcs,hcell⟩
 ·cases h
 ·cases h
  refine .inr ⟨own,o,off,cs,by rw[List.length_take];congr 1;omega,hcs,fun j hj=>?_⟩
  rw[List.length_take] at hj
  rw[hcell j (by omega)]
  show some (if j%2=0 then vI (l.getD (j/2) (0,0)).1 else vI (l.getD (j/2) (0,0)).2)=some (if j%2=0 then vI ((l.take i).getD (j/2) (0,0)).1 else vI ((l.take i).getD (j/2) (0,0)).2)
  have:(l.take i).getD (j/2) (0,0)=l.getD (j/2) (0,0):=by
   rw[List.getD_eq_getElem?_getD,List.getD_eq_getElem?_getD,List.getElem?_take_of_lt (by omega)]
  rw[this]
theorem aHd {w0:World} (r:Ru) (x:Rs) (hl:xF r) (H:aB) (hx:cN H r x):aH prog (CB w0) 103 [.agg (aE r x)] H fun v H'=>v=vB (dJ r)∧H'=H:=by
 refine aH.flat rfl ?_
 refine aSi (N:=23) (rs:=[.tmp 2]) Tryz.func103 ?_
 rintro e he ⟨g0,-⟩
 unfold aE at g0
 have h1:=hx.monthDay.len 3
 have h2:=hx.yearDay.len 3
 have h3:=hx.weekNo.len 3
 have h4:=hx.day.len 41
 have h5:=hx.easter.len 3
 obtain⟨l1,l2,l3,l4,l5,l6,l7,l8,l9,l10⟩:=hl
 simp only[go_sem,he,g0,hx.setPos.one,hx.month.one,hx.monthDay.one,hx.yearDay.one,hx.weekNo.one,hx.day.one,hx.hour.one,hx.minute.one,hx.second.one,hx.easter.one,h1,h2,h3,h4,h5]
 rw[aJ (n:=(r.monthDay.length:Int)+r.yearDay.length) (by omega),aJ (n:=(r.monthDay.length:Int)+r.yearDay.length+r.weekNo.length) (by omega),aJ (n:=(r.monthDay.length:Int)+r.yearDay.length+r.weekNo.length+r.day.length) (by omega),aJ (n:=(r.monthDay.length:Int)+r.yearDay.length+r.weekNo.length+r.day.length+r.easter.length) (by omega)]
 refine⟨?_,_,rfl⟩
 show vB _=vB (decide _)
 exact congrArg vB (decide_eq_decide.2 (by omega))
theorem aLp {w0:World} (r:Ru) (x:Rs) (hl:xF r) (H:aB) (hx:cN H r x):aH prog (CB w0) 68 [.agg (aE r x)] H fun v H'=>v=vB (vY r)∧H'=H:=by
 refine aH.flat rfl ?_
 refine aSi (N:=23) (rs:=[.tmp 2]) Tryz.func68 ?_
 rintro e he ⟨g0,-⟩
 have h1:=hx.month.len 3
 have h2:=hx.hour.len 3
 have h3:=hx.minute.len 3
 have h4:=hx.second.len 3
 have g0':=g0
 unfold aE at g0
 simp only[go_sem,he,g0,hx.setPos.one,hx.month.one,hx.monthDay.one,hx.yearDay.one,hx.weekNo.one,hx.day.one,hx.hour.one,hx.minute.one,hx.second.one,hx.easter.one,h1,h2,h3,h4]
 refine aSh (aHd r x hl _ (hx.more _)) ?_
 obtain⟨l1,l2,l3,l4,l5,l6,l7,l8,l9,l10⟩:=hl
 unfold vY
 cases hd:dJ r with
 |true=>
  simp only[go_sem,he,aA,Bool.true_or]
  exact⟨_,rfl⟩
 |false=>
  simp only[go_sem,he,aA,Bool.false_or,h1,h2,h3,h4]
  rw[aJ (n:=(r.month.length:Int)+r.hour.length) (by omega),aJ (n:=(r.month.length:Int)+r.hour.length+r.minute.length) (by omega),aJ (n:=(r.month.length:Int)+r.hour.length+r.minute.length+r.second.length) (by omega)]
  refine⟨?_,_,rfl⟩
  exact congrArg vB (decide_eq_decide.2 (by omega))
theorem b2:i64.wrap (aC 2*86400)=31536000:=by kernel_rfl
theorem bT:i64.wrap (aC 9001*86400)=284012524800:=by kernel_rfl
theorem bM:i64.wrap (aC 10000*86400)=315537897600:=by kernel_rfl
set_option maxHeartbeats 8000000 in
theorem aHe {w0:World} (r:Ru) (x:Rs) (hl:xF r) (hn:aA7 r) (H:aB) (hx:cN H r x):aH prog (CB w0) 47 [.agg (aE r x)] H fun v H'=>v=vB (clean r)∧H'=H:=by
 refine aH.flat rfl ?_
 refine aSi (N:=264) (rs:=[.tmp 2]) Tryz.func47 ?_
 rintro e he ⟨g0,-⟩
 have hBo:∀G,(H++aD.own 25 (aE r x)::G)[H.length]?=some (aD.own 25 (aE r x)):=fun G=>bB
 have k1:=hx.setPos.len 3
 have k2:=hx.month.len 3
 have k3:=hx.monthDay.len 3
 have k4:=hx.yearDay.len 3
 have k5:=hx.weekNo.len 3
 have k6:=hx.day.len 41
 have k7:=hx.hour.len 3
 have k8:=hx.minute.len 3
 have k9:=hx.second.len 3
 have k10:=hx.easter.len 3
 unfold aE at g0 hBo
 simp only[go_sem,he,g0,hx.setPos.one,hx.month.one,hx.monthDay.one,hx.yearDay.one,hx.weekNo.one,hx.day.one,hx.hour.one,hx.minute.one,hx.second.one,hx.easter.one]
 have gp:True:=trivial
 refine fJ (fun e h=>h=H++[aD.own 25 [vU r.freq,vB r.hasStart,vI r.start,vI r.interval,vI r.wkst,vI r.count,vB r.hasUntil,vI r.til,x.setPos,x.month,x.monthDay,x.yearDay,x.weekNo,x.day,x.hour,x.minute,x.second,x.easter]]∧len e=264∧AL.get e 1=.ptr H.length 0∧AL.get e 57=vB (g1 r)) ?_ ?_
 ·refine bF bI (by kernel_rfl) ?_
  cases e1_0:decide (6<(r.freq:Int)) with
  |true=>
   simp only[go_sem,he,gp,b2,bT,bM,k1,k2,k3,k4,k5,k6,k7,k8,k9,k10,e1_0]
   rw[show g1 r=true by unfold g1;simp only[e1_0,Bool.true_or,Bool.or_true,Bool.false_or,Bool.true_and,Bool.false_and,Bool.not_false,Bool.not_true,Bool.or_false]]
  |false=>
  cases e1_1:r.hasStart with
  |false=>
   simp only[go_sem,he,gp,b2,bT,bM,k1,k2,k3,k4,k5,k6,k7,k8,k9,k10,e1_0,e1_1]
   rw[show g1 r=true by unfold g1;simp only[e1_0,e1_1,Bool.true_or,Bool.or_true,Bool.false_or,Bool.true_and,Bool.false_and,Bool.not_false,Bool.not_true,Bool.or_false]]
  |true=>
  cases e1_2:decide (r.start<31536000) with
  |true=>
   simp only[go_sem,he,gp,b2,bT,bM,k1,k2,k3,k4,k5,k6,k7,k8,k9,k10,e1_0,e1_1,e1_2]
   refine aSh (cT 2 (by omega) (by omega) _) ?_
   simp only[go_sem,he,gp,b2,bT,bM,k1,k2,k3,k4,k5,k6,k7,k8,k9,k10,e1_0,e1_1,e1_2,aA]
   rw[show g1 r=true by unfold g1;simp only[e1_0,e1_1,e1_2,Bool.true_or,Bool.or_true,Bool.false_or,Bool.true_and,Bool.false_and,Bool.not_false,Bool.not_true,Bool.or_false]]
  |false=>
  cases e1_3:decide (284012524800≤r.start) with
  |true=>
   simp only[go_sem,he,gp,b2,bT,bM,k1,k2,k3,k4,k5,k6,k7,k8,k9,k10,e1_0,e1_1,e1_2,e1_3]
   refine aSh (cT 2 (by omega) (by omega) _) ?_
   simp only[go_sem,he,gp,b2,bT,bM,k1,k2,k3,k4,k5,k6,k7,k8,k9,k10,e1_0,e1_1,e1_2,e1_3,aA]
   refine aSh (cT 9001 (by omega) (by omega) _) ?_
   simp only[go_sem,he,gp,b2,bT,bM,k1,k2,k3,k4,k5,k6,k7,k8,k9,k10,e1_0,e1_1,e1_2,e1_3,aA]
   rw[show g1 r=true by unfold g1;simp only[e1_0,e1_1,e1_2,e1_3,Bool.true_or,Bool.or_true,Bool.false_or,Bool.true_and,Bool.false_and,Bool.not_false,Bool.not_true,Bool.or_false]]
  |false=>
  cases e1_4:decide (r.interval<0) with
  |true=>
   simp only[go_sem,he,gp,b2,bT,bM,k1,k2,k3,k4,k5,k6,k7,k8,k9,k10,e1_0,e1_1,e1_2,e1_3,e1_4]
   refine aSh (cT 2 (by omega) (by omega) _) ?_
   simp only[go_sem,he,gp,b2,bT,bM,k1,k2,k3,k4,k5,k6,k7,k8,k9,k10,e1_0,e1_1,e1_2,e1_3,e1_4,aA]
   refine aSh (cT 9001 (by omega) (by omega) _) ?_
   simp only[go_sem,he,gp,b2,bT,bM,k1,k2,k3,k4,k5,k6,k7,k8,k9,k10,e1_0,e1_1,e1_2,e1_3,e1_4,aA]
   rw[show g1 r=true by unfold g1;simp only[e1_0,e1_1,e1_2,e1_3,e1_4,Bool.true_or,Bool.or_true,Bool.false_or,Bool.true_and,Bool.false_and,Bool.not_false,Bool.not_true,Bool.or_false]]
  |false=>
  cases e1_5:decide (1000<r.interval) with
  |true=>
   simp only[go_sem,he,gp,b2,bT,bM,k1,k2,k3,k4,k5,k6,k7,k8,k9,k10,e1_0,e1_1,e1_2,e1_3,e1_4,e1_5]
   refine aSh (cT 2 (by omega) (by omega) _) ?_
   simp only[go_sem,he,gp,b2,bT,bM,k1,k2,k3,k4,k5,k6,k7,k8,k9,k10,e1_0,e1_1,e1_2,e1_3,e1_4,e1_5,aA]
   refine aSh (cT 9001 (by omega) (by omega) _) ?_
   simp only[go_sem,he,gp,b2,bT,bM,k1,k2,k3,k4,k5,k6,k7,k8,k9,k10,e1_0,e1_1,e1_2,e1_3,e1_4,e1_5,aA]
   rw[show g1 r=true by unfold g1;simp only[e1_0,e1_1,e1_2,e1_3,e1_4,e1_5,Bool.true_or,Bool.or_true,Bool.false_or,Bool.true_and,Bool.false_and,Bool.not_false,Bool.not_true,Bool.or_false]]
  |false=>
  cases e1_6:decide (r.wkst<0) with
  |true=>
   simp only[go_sem,he,gp,b2,bT,bM,k1,k2,k3,k4,k5,k6,k7,k8,k9,k10,e1_0,e1_1,e1_2,e1_3,e1_4,e1_5,e1_6]
   refine aSh (cT 2 (by omega) (by omega) _) ?_
   simp only[go_sem,he,gp,b2,bT,bM,k1,k2,k3,k4,k5,k6,k7,k8,k9,k10,e1_0,e1_1,e1_2,e1_3,e1_4,e1_5,e1_6,aA]
   refine aSh (cT 9001 (by omega) (by omega) _) ?_
   simp only[go_sem,he,gp,b2,bT,bM,k1,k2,k3,k4,k5,k6,k7,k8,k9,k10,e1_0,e1_1,e1_2,e1_3,e1_4,e1_5,e1_6,aA]
   rw[show g1 r=true by unfold g1;simp only[e1_0,e1_1,e1_2,e1_3,e1_4,e1_5,e1_6,Bool.true_or,Bool.or_true,Bool.false_or,Bool.true_and,Bool.false_and,Bool.not_false,Bool.not_true,Bool.or_false]]
  |false=>
  cases e1_7:decide (6<r.wkst) with
  |true=>
   simp only[go_sem,he,gp,b2,bT,bM,k1,k2,k3,k4,k5,k6,k7,k8,k9,k10,e1_0,e1_1,e1_2,e1_3,e1_4,e1_5,e1_6,e1_7]
   refine aSh (cT 2 (by omega) (by omega) _) ?_
   simp only[go_sem,he,gp,b2,bT,bM,k1,k2,k3,k4,k5,k6,k7,k8,k9,k10,e1_0,e1_1,e1_2,e1_3,e1_4,e1_5,e1_6,e1_7,aA]
   refine aSh (cT 9001 (by omega) (by omega) _) ?_
   simp only[go_sem,he,gp,b2,bT,bM,k1,k2,k3,k4,k5,k6,k7,k8,k9,k10,e1_0,e1_1,e1_2,e1_3,e1_4,e1_5,e1_6,e1_7,aA]
   rw[show g1 r=true by unfold g1;simp only[e1_0,e1_1,e1_2,e1_3,e1_4,e1_5,e1_6,e1_7,Bool.true_or,Bool.or_true,Bool.false_or,Bool.true_and,Bool.false_and,Bool.not_false,Bool.not_true,Bool.or_false]]
  |false=>
  cases e1_8:decide (r.count<0) with
  |true=>
   simp only[go_sem,he,gp,b2,bT,bM,k1,k2,k3,k4,k5,k6,k7,k8,k9,k10,e1_0,e1_1,e1_2,e1_3,e1_4,e1_5,e1_6,e1_7,e1_8]
   refine aSh (cT 2 (by omega) (by omega) _) ?_
   simp only[go_sem,he,gp,b2,bT,bM,k1,k2,k3,k4,k5,k6,k7,k8,k9,k10,e1_0,e1_1,e1_2,e1_3,e1_4,e1_5,e1_6,e1_7,e1_8,aA]
   refine aSh (cT 9001 (by omega) (by omega) _) ?_
   simp only[go_sem,he,gp,b2,bT,bM,k1,k2,k3,k4,k5,k6,k7,k8,k9,k10,e1_0,e1_1,e1_2,e1_3,e1_4,e1_5,e1_6,e1_7,e1_8,aA]
   rw[show g1 r=true by unfold g1;simp only[e1_0,e1_1,e1_2,e1_3,e1_4,e1_5,e1_6,e1_7,e1_8,Bool.true_or,Bool.or_true,Bool.false_or,Bool.true_and,Bool.false_and,Bool.not_false,Bool.not_true,Bool.or_false]]
  |false=>
  cases e1_9:decide (1000<r.count) with
  |true=>
   simp only[go_sem,he,gp,b2,bT,bM,k1,k2,k3,k4,k5,k6,k7,k8,k9,k10,e1_0,e1_1,e1_2,e1_3,e1_4,e1_5,e1_6,e1_7,e1_8,e1_9]
   refine aSh (cT 2 (by omega) (by omega) _) ?_
   simp only[go_sem,he,gp,b2,bT,bM,k1,k2,k3,k4,k5,k6,k7,k8,k9,k10,e1_0,e1_1,e1_2,e1_3,e1_4,e1_5,e1_6,e1_7,e1_8,e1_9,aA]
   refine aSh (cT 9001 (by omega) (by omega) _) ?_
   simp only[go_sem,he,gp,b2,bT,bM,k1,k2,k3,k4,k5,k6,k7,k8,k9,k10,e1_0,e1_1,e1_2,e1_3,e1_4,e1_5,e1_6,e1_7,e1_8,e1_9,aA]
   rw[show g1 r=true by unfold g1;simp only[e1_0,e1_1,e1_2,e1_3,e1_4,e1_5,e1_6,e1_7,e1_8,e1_9,Bool.true_or,Bool.or_true,Bool.false_or,Bool.true_and,Bool.false_and,Bool.not_false,Bool.not_true,Bool.or_false]]
  |false=>
  simp only[go_sem,he,gp,b2,bT,bM,k1,k2,k3,k4,k5,k6,k7,k8,k9,k10,e1_0,e1_1,e1_2,e1_3,e1_4,e1_5,e1_6,e1_7,e1_8,e1_9]
  refine aSh (cT 2 (by omega) (by omega) _) ?_
  simp only[go_sem,he,gp,b2,bT,bM,k1,k2,k3,k4,k5,k6,k7,k8,k9,k10,e1_0,e1_1,e1_2,e1_3,e1_4,e1_5,e1_6,e1_7,e1_8,e1_9,aA]
  refine aSh (cT 9001 (by omega) (by omega) _) ?_
  simp only[go_sem,he,gp,b2,bT,bM,k1,k2,k3,k4,k5,k6,k7,k8,k9,k10,e1_0,e1_1,e1_2,e1_3,e1_4,e1_5,e1_6,e1_7,e1_8,e1_9,aA]
  rw[show g1 r=false by unfold g1;simp only[e1_0,e1_1,e1_2,e1_3,e1_4,e1_5,e1_6,e1_7,e1_8,e1_9,Bool.true_or,Bool.or_true,Bool.false_or,Bool.true_and,Bool.false_and,Bool.not_false,Bool.not_true,Bool.or_false]]
 rintro e h ⟨rfl,he,gp,gt⟩
 simp only[go_sem,he,gp,gt]
 refine aF (fun hq=>?_) fun hq=>?_
 ·simp only[go_sem,he,gp,gt]
  rw[aLf hq]
  exact⟨rfl,_,rfl⟩
 rename g1 r=false=>q1
 simp only[go_sem,he,gp,gt,k1,k2,k3,k4,k5,k6,k7,k8,k9,k10]
 refine fJ (fun e h=>h=H++[aD.own 25 [vU r.freq,vB r.hasStart,vI r.start,vI r.interval,vI r.wkst,vI r.count,vB r.hasUntil,vI r.til,x.setPos,x.month,x.monthDay,x.yearDay,x.weekNo,x.day,x.hour,x.minute,x.second,x.easter]]∧len e=264∧AL.get e 1=.ptr H.length 0∧AL.get e 73=vB (g2 r)) ?_ ?_
 ·refine bF bI (by kernel_rfl) ?_
  cases e0:r.hasUntil with
  |false=>
   simp only[go_sem,he,gp,b2,bT,bM,k1,k2,k3,k4,k5,k6,k7,k8,k9,k10,e0]
   rw[show g2 r=false by unfold g2;simp only[e0,Bool.true_or,Bool.or_true,Bool.false_or,Bool.true_and,Bool.false_and,Bool.not_false,Bool.not_true,Bool.or_false]]
  |true=>
  cases e1:decide (r.til<r.start) with
  |true=>
   simp only[go_sem,he,gp,b2,bT,bM,k1,k2,k3,k4,k5,k6,k7,k8,k9,k10,e0,e1]
   rw[show g2 r=true by unfold g2;simp only[e0,e1,Bool.true_or,Bool.or_true,Bool.false_or,Bool.true_and,Bool.false_and,Bool.not_false,Bool.not_true,Bool.or_false]]
  |false=>
  cases e2:decide (315537897600≤r.til) with
  |true=>
   simp only[go_sem,he,gp,b2,bT,bM,k1,k2,k3,k4,k5,k6,k7,k8,k9,k10,e0,e1,e2]
   refine aSh (cT 10000 (by omega) (by omega) _) ?_
   simp only[go_sem,he,gp,b2,bT,bM,k1,k2,k3,k4,k5,k6,k7,k8,k9,k10,e0,e1,e2,aA]
   rw[show g2 r=true by unfold g2;simp only[e0,e1,e2,Bool.true_or,Bool.or_true,Bool.false_or,Bool.true_and,Bool.false_and,Bool.not_false,Bool.not_true,Bool.or_false]]
  |false=>
  simp only[go_sem,he,gp,b2,bT,bM,k1,k2,k3,k4,k5,k6,k7,k8,k9,k10,e0,e1,e2]
  refine aSh (cT 10000 (by omega) (by omega) _) ?_
  simp only[go_sem,he,gp,b2,bT,bM,k1,k2,k3,k4,k5,k6,k7,k8,k9,k10,e0,e1,e2,aA]
  rw[show g2 r=false by unfold g2;simp only[e0,e1,e2,Bool.true_or,Bool.or_true,Bool.false_or,Bool.true_and,Bool.false_and,Bool.not_false,Bool.not_true,Bool.or_false]]
 rintro e h ⟨rfl,he,gp,gt⟩
 simp only[go_sem,he,gp,gt]
 refine aF (fun hq=>?_) fun hq=>?_
 ·simp only[go_sem,he,gp,gt]
  rw[aLg hq]
  exact⟨rfl,_,rfl⟩
 rename g2 r=false=>q2
 simp only[go_sem,he,gp,gt,k1,k2,k3,k4,k5,k6,k7,k8,k9,k10]
 refine tZ (fun e h=>h=H++[aD.own 25 [vU r.freq,vB r.hasStart,vI r.start,vI r.interval,vI r.wkst,vI r.count,vB r.hasUntil,vI r.til,x.setPos,x.month,x.monthDay,x.yearDay,x.weekNo,x.day,x.hour,x.minute,x.second,x.easter]]∧len e=264∧AL.get e 1=.ptr H.length 0∧AL.get e 101=vB (g3 r)) ?_ ?_
 ·cases e3_0:cP r.setPos 12 (-366) 366 false with
  |false=>
   refine aSh (cD r.setPos (by have:=hl.setPos;omega) hn.setPos 12 (-366) 366 (by omega) false _ _ (hx.setPos.more _)) ?_
   simp only[go_sem,he,gp,b2,bT,bM,k1,k2,k3,k4,k5,k6,k7,k8,k9,k10,e3_0,aA]
   rw[show g3 r=true by unfold g3;simp only[e3_0,Bool.true_or,Bool.or_true,Bool.false_or,Bool.true_and,Bool.false_and,Bool.not_false,Bool.not_true,Bool.or_false]]
  |true=>
  cases e3_1:cP r.month 12 1 12 false with
  |false=>
   refine aSh (cD r.setPos (by have:=hl.setPos;omega) hn.setPos 12 (-366) 366 (by omega) false _ _ (hx.setPos.more _)) ?_
   simp only[go_sem,he,gp,b2,bT,bM,k1,k2,k3,k4,k5,k6,k7,k8,k9,k10,e3_0,e3_1,aA]
   refine aSh (cD r.month (by have:=hl.month;omega) hn.month 12 1 12 (by omega) false _ _ (hx.month.more _)) ?_
   simp only[go_sem,he,gp,b2,bT,bM,k1,k2,k3,k4,k5,k6,k7,k8,k9,k10,e3_0,e3_1,aA]
   rw[show g3 r=true by unfold g3;simp only[e3_0,e3_1,Bool.true_or,Bool.or_true,Bool.false_or,Bool.true_and,Bool.false_and,Bool.not_false,Bool.not_true,Bool.or_false]]
  |true=>
  cases e3_2:cP r.monthDay 12 (-31) 31 false with
  |false=>
   refine aSh (cD r.setPos (by have:=hl.setPos;omega) hn.setPos 12 (-366) 366 (by omega) false _ _ (hx.setPos.more _)) ?_
   simp only[go_sem,he,gp,b2,bT,bM,k1,k2,k3,k4,k5,k6,k7,k8,k9,k10,e3_0,e3_1,e3_2,aA]
   refine aSh (cD r.month (by have:=hl.month;omega) hn.month 12 1 12 (by omega) false _ _ (hx.month.more _)) ?_
   simp only[go_sem,he,gp,b2,bT,bM,k1,k2,k3,k4,k5,k6,k7,k8,k9,k10,e3_0,e3_1,e3_2,aA]
   refine aSh (cD r.monthDay (by have:=hl.monthDay;omega) hn.monthDay 12 (-31) 31 (by omega) false _ _ (hx.monthDay.more _)) ?_
   simp only[go_sem,he,gp,b2,bT,bM,k1,k2,k3,k4,k5,k6,k7,k8,k9,k10,e3_0,e3_1,e3_2,aA]
   rw[show g3 r=true by unfold g3;simp only[e3_0,e3_1,e3_2,Bool.true_or,Bool.or_true,Bool.false_or,Bool.true_and,Bool.false_and,Bool.not_false,Bool.not_true,Bool.or_false]]
  |true=>
  cases e3_3:cP r.yearDay 12 (-366) 366 false with
  |false=>
   refine aSh (cD r.setPos (by have:=hl.setPos;omega) hn.setPos 12 (-366) 366 (by omega) false _ _ (hx.setPos.more _)) ?_
   simp only[go_sem,he,gp,b2,bT,bM,k1,k2,k3,k4,k5,k6,k7,k8,k9,k10,e3_0,e3_1,e3_2,e3_3,aA]
   refine aSh (cD r.month (by have:=hl.month;omega) hn.month 12 1 12 (by omega) false _ _ (hx.month.more _)) ?_
   simp only[go_sem,he,gp,b2,bT,bM,k1,k2,k3,k4,k5,k6,k7,k8,k9,k10,e3_0,e3_1,e3_2,e3_3,aA]
   refine aSh (cD r.monthDay (by have:=hl.monthDay;omega) hn.monthDay 12 (-31) 31 (by omega) false _ _ (hx.monthDay.more _)) ?_
   simp only[go_sem,he,gp,b2,bT,bM,k1,k2,k3,k4,k5,k6,k7,k8,k9,k10,e3_0,e3_1,e3_2,e3_3,aA]
   refine aSh (cD r.yearDay (by have:=hl.yearDay;omega) hn.yearDay 12 (-366) 366 (by omega) false _ _ (hx.yearDay.more _)) ?_
   simp only[go_sem,he,gp,b2,bT,bM,k1,k2,k3,k4,k5,k6,k7,k8,k9,k10,e3_0,e3_1,e3_2,e3_3,aA]
   rw[show g3 r=true by unfold g3;simp only[e3_0,e3_1,e3_2,e3_3,Bool.true_or,Bool.or_true,Bool.false_or,Bool.true_and,Bool.false_and,Bool.not_false,Bool.not_true,Bool.or_false]]
  |true=>
  cases e3_4:cP r.weekNo 12 (-53) 53 false with
  |false=>
   refine aSh (cD r.setPos (by have:=hl.setPos;omega) hn.setPos 12 (-366) 366 (by omega) false _ _ (hx.setPos.more _)) ?_
   simp only[go_sem,he,gp,b2,bT,bM,k1,k2,k3,k4,k5,k6,k7,k8,k9,k10,e3_0,e3_1,e3_2,e3_3,e3_4,aA]
   refine aSh (cD r.month (by have:=hl.month;omega) hn.month 12 1 12 (by omega) false _ _ (hx.month.more _)) ?_
   simp only[go_sem,he,gp,b2,bT,bM,k1,k2,k3,k4,k5,k6,k7,k8,k9,k10,e3_0,e3_1,e3_2,e3_3,e3_4,aA]
   refine aSh (cD r.monthDay (by have:=hl.monthDay;omega) hn.monthDay 12 (-31) 31 (by omega) false _ _ (hx.monthDay.more _)) ?_
   simp only[go_sem,he,gp,b2,bT,bM,k1,k2,k3,k4,k5,k6,k7,k8,k9,k10,e3_0,e3_1,e3_2,e3_3,e3_4,aA]
   refine aSh (cD r.yearDay (by have:=hl.yearDay;omega) hn.yearDay 12 (-366) 366 (by omega) false _ _ (hx.yearDay.more _)) ?_
   simp only[go_sem,he,gp,b2,bT,bM,k1,k2,k3,k4,k5,k6,k7,k8,k9,k10,e3_0,e3_1,e3_2,e3_3,e3_4,aA]
   refine aSh (cD r.weekNo (by have:=hl.weekNo;omega) hn.weekNo 12 (-53) 53 (by omega) false _ _ (hx.weekNo.more _)) ?_
   simp only[go_sem,he,gp,b2,bT,bM,k1,k2,k3,k4,k5,k6,k7,k8,k9,k10,e3_0,e3_1,e3_2,e3_3,e3_4,aA]
   rw[show g3 r=true by unfold g3;simp only[e3_0,e3_1,e3_2,e3_3,e3_4,Bool.true_or,Bool.or_true,Bool.false_or,Bool.true_and,Bool.false_and,Bool.not_false,Bool.not_true,Bool.or_false]]
  |true=>
  refine aSh (cD r.setPos (by have:=hl.setPos;omega) hn.setPos 12 (-366) 366 (by omega) false _ _ (hx.setPos.more _)) ?_
  simp only[go_sem,he,gp,b2,bT,bM,k1,k2,k3,k4,k5,k6,k7,k8,k9,k10,e3_0,e3_1,e3_2,e3_3,e3_4,aA]
  refine aSh (cD r.month (by have:=hl.month;omega) hn.month 12 1 12 (by omega) false _ _ (hx.month.more _)) ?_
  simp only[go_sem,he,gp,b2,bT,bM,k1,k2,k3,k4,k5,k6,k7,k8,k9,k10,e3_0,e3_1,e3_2,e3_3,e3_4,aA]
  refine aSh (cD r.monthDay (by have:=hl.monthDay;omega) hn.monthDay 12 (-31) 31 (by omega) false _ _ (hx.monthDay.more _)) ?_
  simp only[go_sem,he,gp,b2,bT,bM,k1,k2,k3,k4,k5,k6,k7,k8,k9,k10,e3_0,e3_1,e3_2,e3_3,e3_4,aA]
  refine aSh (cD r.yearDay (by have:=hl.yearDay;omega) hn.yearDay 12 (-366) 366 (by omega) false _ _ (hx.yearDay.more _)) ?_
  simp only[go_sem,he,gp,b2,bT,bM,k1,k2,k3,k4,k5,k6,k7,k8,k9,k10,e3_0,e3_1,e3_2,e3_3,e3_4,aA]
  refine aSh (cD r.weekNo (by have:=hl.weekNo;omega) hn.weekNo 12 (-53) 53 (by omega) false _ _ (hx.weekNo.more _)) ?_
  simp only[go_sem,he,gp,b2,bT,bM,k1,k2,k3,k4,k5,k6,k7,k8,k9,k10,e3_0,e3_1,e3_2,e3_3,e3_4,aA]
  rw[show g3 r=false by unfold g3;simp only[e3_0,e3_1,e3_2,e3_3,e3_4,Bool.true_or,Bool.or_true,Bool.false_or,Bool.true_and,Bool.false_and,Bool.not_false,Bool.not_true,Bool.or_false]]
 rintro e h ⟨rfl,he,gp,gt⟩
 simp only[go_sem,he,gp,gt]
 refine aF (fun hq=>?_) fun hq=>?_
 ·simp only[go_sem,he,gp,gt]
  rw[aLh hq]
  exact⟨rfl,_,rfl⟩
 rename g3 r=false=>q3
 simp only[go_sem,he,gp,gt,k1,k2,k3,k4,k5,k6,k7,k8,k9,k10]
 refine tZ (fun e h=>h=H++[aD.own 25 [vU r.freq,vB r.hasStart,vI r.start,vI r.interval,vI r.wkst,vI r.count,vB r.hasUntil,vI r.til,x.setPos,x.month,x.monthDay,x.yearDay,x.weekNo,x.day,x.hour,x.minute,x.second,x.easter]]∧len e=264∧AL.get e 1=.ptr H.length 0∧AL.get e 129=vB (g4 r)) ?_ ?_
 ·cases e4_0:cP r.hour 12 0 23 true with
  |false=>
   refine aSh (cD r.hour (by have:=hl.hour;omega) hn.hour 12 0 23 (by omega) true _ _ (hx.hour.more _)) ?_
   simp only[go_sem,he,gp,b2,bT,bM,k1,k2,k3,k4,k5,k6,k7,k8,k9,k10,e4_0,aA]
   rw[show g4 r=true by unfold g4;simp only[e4_0,Bool.true_or,Bool.or_true,Bool.false_or,Bool.true_and,Bool.false_and,Bool.not_false,Bool.not_true,Bool.or_false]]
  |true=>
  cases e4_1:cP r.minute 12 0 59 true with
  |false=>
   refine aSh (cD r.hour (by have:=hl.hour;omega) hn.hour 12 0 23 (by omega) true _ _ (hx.hour.more _)) ?_
   simp only[go_sem,he,gp,b2,bT,bM,k1,k2,k3,k4,k5,k6,k7,k8,k9,k10,e4_0,e4_1,aA]
   refine aSh (cD r.minute (by have:=hl.minute;omega) hn.minute 12 0 59 (by omega) true _ _ (hx.minute.more _)) ?_
   simp only[go_sem,he,gp,b2,bT,bM,k1,k2,k3,k4,k5,k6,k7,k8,k9,k10,e4_0,e4_1,aA]
   rw[show g4 r=true by unfold g4;simp only[e4_0,e4_1,Bool.true_or,Bool.or_true,Bool.false_or,Bool.true_and,Bool.false_and,Bool.not_false,Bool.not_true,Bool.or_false]]
  |true=>
  cases e4_2:cP r.second 12 0 59 true with
  |false=>
   refine aSh (cD r.hour (by have:=hl.hour;omega) hn.hour 12 0 23 (by omega) true _ _ (hx.hour.more _)) ?_
   simp only[go_sem,he,gp,b2,bT,bM,k1,k2,k3,k4,k5,k6,k7,k8,k9,k10,e4_0,e4_1,e4_2,aA]
   refine aSh (cD r.minute (by have:=hl.minute;omega) hn.minute 12 0 59 (by omega) true _ _ (hx.minute.more _)) ?_
   simp only[go_sem,he,gp,b2,bT,bM,k1,k2,k3,k4,k5,k6,k7,k8,k9,k10,e4_0,e4_1,e4_2,aA]
   refine aSh (cD r.second (by have:=hl.second;omega) hn.second 12 0 59 (by omega) true _ _ (hx.second.more _)) ?_
   simp only[go_sem,he,gp,b2,bT,bM,k1,k2,k3,k4,k5,k6,k7,k8,k9,k10,e4_0,e4_1,e4_2,aA]
   rw[show g4 r=true by unfold g4;simp only[e4_0,e4_1,e4_2,Bool.true_or,Bool.or_true,Bool.false_or,Bool.true_and,Bool.false_and,Bool.not_false,Bool.not_true,Bool.or_false]]
  |true=>
  cases e4_3:cP r.easter 12 (-80) 80 true with
  |false=>
   refine aSh (cD r.hour (by have:=hl.hour;omega) hn.hour 12 0 23 (by omega) true _ _ (hx.hour.more _)) ?_
   simp only[go_sem,he,gp,b2,bT,bM,k1,k2,k3,k4,k5,k6,k7,k8,k9,k10,e4_0,e4_1,e4_2,e4_3,aA]
   refine aSh (cD r.minute (by have:=hl.minute;omega) hn.minute 12 0 59 (by omega) true _ _ (hx.minute.more _)) ?_
   simp only[go_sem,he,gp,b2,bT,bM,k1,k2,k3,k4,k5,k6,k7,k8,k9,k10,e4_0,e4_1,e4_2,e4_3,aA]
   refine aSh (cD r.second (by have:=hl.second;omega) hn.second 12 0 59 (by omega) true _ _ (hx.second.more _)) ?_
   simp only[go_sem,he,gp,b2,bT,bM,k1,k2,k3,k4,k5,k6,k7,k8,k9,k10,e4_0,e4_1,e4_2,e4_3,aA]
   refine aSh (cD r.easter (by have:=hl.easter;omega) hn.easter 12 (-80) 80 (by omega) true _ _ (hx.easter.more _)) ?_
   simp only[go_sem,he,gp,b2,bT,bM,k1,k2,k3,k4,k5,k6,k7,k8,k9,k10,e4_0,e4_1,e4_2,e4_3,aA]
   rw[show g4 r=true by unfold g4;simp only[e4_0,e4_1,e4_2,e4_3,Bool.true_or,Bool.or_true,Bool.false_or,Bool.true_and,Bool.false_and,Bool.not_false,Bool.not_true,Bool.or_false]]
  |true=>
  cases e4_4:decide (12<(r.day.length:Int)) with
  |true=>
   refine aSh (cD r.hour (by have:=hl.hour;omega) hn.hour 12 0 23 (by omega) true _ _ (hx.hour.more _)) ?_
   simp only[go_sem,he,gp,b2,bT,bM,k1,k2,k3,k4,k5,k6,k7,k8,k9,k10,e4_0,e4_1,e4_2,e4_3,e4_4,aA]
   refine aSh (cD r.minute (by have:=hl.minute;omega) hn.minute 12 0 59 (by omega) true _ _ (hx.minute.more _)) ?_
   simp only[go_sem,he,gp,b2,bT,bM,k1,k2,k3,k4,k5,k6,k7,k8,k9,k10,e4_0,e4_1,e4_2,e4_3,e4_4,aA]
   refine aSh (cD r.second (by have:=hl.second;omega) hn.second 12 0 59 (by omega) true _ _ (hx.second.more _)) ?_
   simp only[go_sem,he,gp,b2,bT,bM,k1,k2,k3,k4,k5,k6,k7,k8,k9,k10,e4_0,e4_1,e4_2,e4_3,e4_4,aA]
   refine aSh (cD r.easter (by have:=hl.easter;omega) hn.easter 12 (-80) 80 (by omega) true _ _ (hx.easter.more _)) ?_
   simp only[go_sem,he,gp,b2,bT,bM,k1,k2,k3,k4,k5,k6,k7,k8,k9,k10,e4_0,e4_1,e4_2,e4_3,e4_4,aA]
   rw[show g4 r=true by unfold g4;simp only[e4_0,e4_1,e4_2,e4_3,e4_4,Bool.true_or,Bool.or_true,Bool.false_or,Bool.true_and,Bool.false_and,Bool.not_false,Bool.not_true,Bool.or_false]]
  |false=>
  refine aSh (cD r.hour (by have:=hl.hour;omega) hn.hour 12 0 23 (by omega) true _ _ (hx.hour.more _)) ?_
  simp only[go_sem,he,gp,b2,bT,bM,k1,k2,k3,k4,k5,k6,k7,k8,k9,k10,e4_0,e4_1,e4_2,e4_3,e4_4,aA]
  refine aSh (cD r.minute (by have:=hl.minute;omega) hn.minute 12 0 59 (by omega) true _ _ (hx.minute.more _)) ?_
  simp only[go_sem,he,gp,b2,bT,bM,k1,k2,k3,k4,k5,k6,k7,k8,k9,k10,e4_0,e4_1,e4_2,e4_3,e4_4,aA]
  refine aSh (cD r.second (by have:=hl.second;omega) hn.second 12 0 59 (by omega) true _ _ (hx.second.more _)) ?_
  simp only[go_sem,he,gp,b2,bT,bM,k1,k2,k3,k4,k5,k6,k7,k8,k9,k10,e4_0,e4_1,e4_2,e4_3,e4_4,aA]
  refine aSh (cD r.easter (by have:=hl.easter;omega) hn.easter 12 (-80) 80 (by omega) true _ _ (hx.easter.more _)) ?_
  simp only[go_sem,he,gp,b2,bT,bM,k1,k2,k3,k4,k5,k6,k7,k8,k9,k10,e4_0,e4_1,e4_2,e4_3,e4_4,aA]
  rw[show g4 r=false by unfold g4;simp only[e4_0,e4_1,e4_2,e4_3,e4_4,Bool.true_or,Bool.or_true,Bool.false_or,Bool.true_and,Bool.false_and,Bool.not_false,Bool.not_true,Bool.or_false]]
 rintro e h ⟨rfl,he,gp,gt⟩
 simp only[go_sem,he,gp,gt]
 refine aF (fun hq=>?_) fun hq=>?_
 ·simp only[go_sem,he,gp,gt]
  rw[aLi hq]
  exact⟨rfl,_,rfl⟩
 rename g4 r=false=>q4
 simp only[go_sem,he,gp,gt,k1,k2,k3,k4,k5,k6,k7,k8,k9,k10]
 obtain⟨n1,n2,n3,n4,n5⟩:=aRB q4
 have hmul:=aSc (a:=max 1 (r.hour.length:Int)) (b:=max 1 (r.minute.length:Int)) (c:=max 1 (r.second.length:Int)) (by omega) (by omega) (by omega)
 rw[aJ (n:=max 1 (r.hour.length:Int)*max 1 (r.minute.length:Int)) (by omega),aJ (n:=max 1 (r.hour.length:Int)*max 1 (r.minute.length:Int)*max 1 (r.second.length:Int)) (by omega)]
 refine aF (fun hq=>?_) fun hq=>?_
 ·simp only[go_sem,he,gp,gt]
  rw[aLj hq]
  exact⟨rfl,_,rfl⟩
 have q5':g5 r=false:=hq
 clear hmul gt
 rw[tO,iW,gD]
 refine fJ (fun e h=>h=H++[aD.own 25 [vU r.freq,vB r.hasStart,vI r.start,vI r.interval,vI r.wkst,vI r.count,vB r.hasUntil,vI r.til,x.setPos,x.month,x.monthDay,x.yearDay,x.weekNo,x.day,x.hour,x.minute,x.second,x.easter]]∧len e=264∧AL.get e 1=.ptr H.length 0∧AL.get e 3=vI 0) (by simp only[go_sem,he,gp]) ?_
 rintro e h ⟨rfl,he,gp,g3⟩
 rw[iW,gD]
 refine fJ (fun e h=>h=H++[aD.own 25 [vU r.freq,vB r.hasStart,vI r.start,vI r.interval,vI r.wkst,vI r.count,vB r.hasUntil,vI r.til,x.setPos,x.month,x.monthDay,x.yearDay,x.weekNo,x.day,x.hour,x.minute,x.second,x.easter]]∧len e=264∧AL.get e 1=.ptr H.length 0∧AL.get e 3=vI (cY r)) ?_ ?_
 ·by_cases f1:r.freq=1
  ·have d1:decide ((r.freq:Int)=1)=true:=dcT (by omega)
   simp only[go_sem,he,gp,g3,k2,k5,d1]
   unfold cY
   rw[if_pos (.inl f1)]
  have d1:decide ((r.freq:Int)=1)=false:=dcF (by omega)
  by_cases f0:r.freq=0
  ·have d0:decide ((r.freq:Int)=0)=true:=dcT (by omega)
   by_cases fm:0<r.month.length
   ·have dm:decide (0<(r.month.length:Int))=true:=dcT (by omega)
    simp only[go_sem,he,gp,g3,k2,k5,d1,d0,dm]
    unfold cY
    rw[if_pos (.inr ⟨f0,fm⟩)]
   have dm:decide (0<(r.month.length:Int))=false:=dcF (by omega)
   by_cases fw:r.weekNo.length=0
   ·have dw:decide ((r.weekNo.length:Int)=0)=true:=dcT (by omega)
    simp only[go_sem,he,gp,g3,k2,k5,d1,d0,dm,dw]
    unfold cY
    rw[if_neg (by omega),if_pos ⟨f0,fw⟩]
   have dw:decide ((r.weekNo.length:Int)=0)=false:=dcF (by omega)
   simp only[go_sem,he,gp,g3,k2,k5,d1,d0,dm,dw]
   unfold cY
   rw[if_neg (by omega),if_neg (by omega)]
  have d0:decide ((r.freq:Int)=0)=false:=dcF (by omega)
  simp only[go_sem,he,gp,g3,k2,k5,d1,d0]
  unfold cY
  rw[if_neg (by omega),if_neg (by omega)]
 rintro e h ⟨rfl,he,gp,g3⟩
 simp only[go_sem,he,gp,g3,k6]
 refine cF r.day.length (fun k e h=>(∃G,h=H++[aD.own 25 [vU r.freq,vB r.hasStart,vI r.start,vI r.interval,vI r.wkst,vI r.count,vB r.hasUntil,vI r.til,x.setPos,x.month,x.monthDay,x.yearDay,x.weekNo,x.day,x.hour,x.minute,x.second,x.easter]]++G)∧len e=264∧AL.get e 1=.ptr H.length 0∧AL.get e 3=vI (cY r)∧AL.get e 171=x.day∧AL.get e 172=vI r.day.length∧∃i:Nat,AL.get e 173=vI i∧i+k=r.day.length∧(List.range i).all (mY r.day (cY r))=true) (by kernel_rfl) ?_ ?_
 ·simp only[go_sem,he,gp,g3]
  exact⟨⟨[],rfl⟩,0,rfl,by omega,rfl⟩
 rintro k e h ⟨⟨G,rfl⟩,he,gp,g3,g171,g172,i,g173,hik,hall⟩
 rw[List.append_assoc,List.cons_append,List.nil_append]
 simp only[go_sem,he,gp,g3,g171,g172,g173]
 refine aF (fun hc=>?_) fun hc=>?_
 ·have hc:=odT hc
  have hi:i<r.day.length:=by omega
  have hx2:=hx.day.more (aD.own 25 [vU r.freq,vB r.hasStart,vI r.start,vI r.interval,vI r.wkst,vI r.count,vB r.hasUntil,vI r.til,x.setPos,x.month,x.monthDay,x.yearDay,x.weekNo,x.day,x.hour,x.minute,x.second,x.easter]::G)
  rcases id hx2 with ⟨_,h0⟩|⟨own,o,off,cs,hxd,hcs,hcell⟩
  ·omega
  obtain⟨hd1,hd2⟩:=rB (H:=H) hcell hi
  rw[hxd] at hx2
  have hdef:mY r.day (cY r) i=(!((r.day.take i).contains (r.day.getD i (0,0)))&&!(decide ((r.day.getD i (0,0)).1<0)||decide (6<(r.day.getD i (0,0)).1)||decide ((r.day.getD i (0,0)).2 < -cY r)||decide (cY r<(r.day.getD i (0,0)).2))):=rfl
  have wi:i64.wrap ((i:Int)+1)=((i+1:Nat):Int):=by rw[aJ (by omega)];rfl
  have wm:i64.wrap (0-cY r)=-cY r:=by have:=vZ r;rw[aJ (by omega)];omega
  generalize r.day.getD i (0,0)=dd at *
  rw[hxd] at g171
  simp only[go_sem,he,gp,g3,g171,g172,g173,hcs,hd1,hd2,Int.toNat_natCast]
  refine⟨by omega,?_⟩
  refine bF bI (by kernel_rfl) ?_
  simp only[go_sem,he,gp,g3,g171,g172,g173,hxd,nn]
  refine⟨by omega,?_⟩
  have hx3:=(cU.take (i:=i) hx2 (by omega)).more [aD.own 41 [vI dd.1,vI dd.2]]
  rw[List.append_assoc,List.cons_append] at hx3
  refine aSh (aFu (r.day.take i) (by rw[List.length_take];omega) dd _ _ hx3) ?_
  cases hq:(r.day.take i).contains dd with
  |true=>
   simp only[go_sem,he,gp,g3,g171,g172,g173,aA]
   rw[qG (sO hi (show mY r.day (cY r) i=false by rw[hdef,hq];rfl))]
   exact⟨rfl,_,rfl⟩
  |false=>
  cases z0:decide (dd.1<0) with
  |true=>
   simp only[go_sem,he,gp,g3,g171,g172,g173,aA,wm,z0]
   rw[qG (sO hi (show mY r.day (cY r) i=false by rw[hdef,hq];simp only[z0,Bool.true_or,Bool.or_true,Bool.false_or,Bool.not_true,Bool.and_false]))]
   exact⟨rfl,_,rfl⟩
  |false=>
  cases z1:decide (6<dd.1) with
  |true=>
   simp only[go_sem,he,gp,g3,g171,g172,g173,aA,wm,z0,z1]
   rw[qG (sO hi (show mY r.day (cY r) i=false by rw[hdef,hq];simp only[z0,z1,Bool.true_or,Bool.or_true,Bool.false_or,Bool.not_true,Bool.and_false]))]
   exact⟨rfl,_,rfl⟩
  |false=>
  cases z2:decide (dd.2 < -cY r) with
  |true=>
   simp only[go_sem,he,gp,g3,g171,g172,g173,aA,wm,z0,z1,z2]
   rw[qG (sO hi (show mY r.day (cY r) i=false by rw[hdef,hq];simp only[z0,z1,z2,Bool.true_or,Bool.or_true,Bool.false_or,Bool.not_true,Bool.and_false]))]
   exact⟨rfl,_,rfl⟩
  |false=>
  cases z3:decide (cY r<dd.2) with
  |true=>
   simp only[go_sem,he,gp,g3,g171,g172,g173,aA,wm,z0,z1,z2,z3]
   rw[qG (sO hi (show mY r.day (cY r) i=false by rw[hdef,hq];simp only[z0,z1,z2,z3,Bool.true_or,Bool.or_true,Bool.false_or,Bool.not_true,Bool.and_false]))]
   exact⟨rfl,_,rfl⟩
  |false=>
  simp only[go_sem,he,gp,g3,g171,g172,g173,aA,wm,wi,z0,z1,z2,z3]
  refine⟨k-1,by omega,⟨_,rfl⟩,i+1,rfl,by omega,?_⟩
  rw[List.range_succ,List.all_append,hall,List.all_cons,List.all_nil,show mY r.day (cY r) i=true by rw[hdef,hq];simp only[z0,z1,z2,z3,Bool.or_false,Bool.not_false,Bool.and_true]]
  rfl
 have hc:=odF hc
 have hi:i=r.day.length:=by omega
 rw[hi] at hall
 have q6:g6 r=false:=by unfold g6;rw[hall];rfl
 simp only[go_sem,he,gp,k5]
 refine bQ (fun e h=>(∃G,h=H++aD.own 25 [vU r.freq,vB r.hasStart,vI r.start,vI r.interval,vI r.wkst,vI r.count,vB r.hasUntil,vI r.til,x.setPos,x.month,x.monthDay,x.yearDay,x.weekNo,x.day,x.hour,x.minute,x.second,x.easter]::G)∧len e=264∧AL.get e 1=.ptr H.length 0∧AL.get e 236=vB (g7 r)) ?_ ?_
 ·by_cases cf0:r.freq=0
  ·have df0:decide ((r.freq:Int)=0)=true:=dcT (by omega)
   have nf0:decide (r.freq=0)=true:=dcT (by omega)
   by_cases ca:0<r.weekNo.length
   ·have da:decide (0<(r.weekNo.length:Int))=true:=dcT (by omega)
    have na:decide (0<r.weekNo.length)=true:=dcT (by omega)
    by_cases cb:0<r.easter.length
    ·have db:decide (0<(r.easter.length:Int))=true:=dcT (by omega)
     have nb:decide (0<r.easter.length)=true:=dcT (by omega)
     by_cases cc:0<r.monthDay.length
     ·have dc:decide (0<(r.monthDay.length:Int))=true:=dcT (by omega)
      have nc:decide (0<r.monthDay.length)=true:=dcT (by omega)
      by_cases cf2:r.freq=2
      ·have df2:decide ((r.freq:Int)=2)=true:=dcT (by omega)
       have nf2:decide (r.freq=2)=true:=dcT (by omega)
       simp only[go_sem,he,gp,k1,k2,k3,k4,k5,k6,k10,df0,da,db,dc,df2]
       exact⟨⟨_,rfl⟩,by rw[show g7 r=true by unfold g7;simp only[nf0,na,nb,nc,nf2,Bool.true_or,Bool.or_true,Bool.false_or,Bool.true_and,Bool.false_and,Bool.not_false,Bool.not_true,Bool.or_false,Bool.and_false,Bool.and_true]]⟩
      have df2:decide ((r.freq:Int)=2)=false:=dcF (by omega)
      have nf2:decide (r.freq=2)=false:=dcF (by omega)
      simp only[go_sem,he,gp,k1,k2,k3,k4,k5,k6,k10,df0,da,db,dc,df2]
      exact⟨⟨_,rfl⟩,by rw[show g7 r=false by unfold g7;simp only[nf0,na,nb,nc,nf2,Bool.true_or,Bool.or_true,Bool.false_or,Bool.true_and,Bool.false_and,Bool.not_false,Bool.not_true,Bool.or_false,Bool.and_false,Bool.and_true]]⟩
     have dc:decide (0<(r.monthDay.length:Int))=false:=dcF (by omega)
     have nc:decide (0<r.monthDay.length)=false:=dcF (by omega)
     simp only[go_sem,he,gp,k1,k2,k3,k4,k5,k6,k10,df0,da,db,dc]
     exact⟨⟨_,rfl⟩,by rw[show g7 r=false by unfold g7;simp only[nf0,na,nb,nc,Bool.true_or,Bool.or_true,Bool.false_or,Bool.true_and,Bool.false_and,Bool.not_false,Bool.not_true,Bool.or_false,Bool.and_false,Bool.and_true]]⟩
    have db:decide (0<(r.easter.length:Int))=false:=dcF (by omega)
    have nb:decide (0<r.easter.length)=false:=dcF (by omega)
    by_cases cc:0<r.monthDay.length
    ·have dc:decide (0<(r.monthDay.length:Int))=true:=dcT (by omega)
     have nc:decide (0<r.monthDay.length)=true:=dcT (by omega)
     by_cases cf2:r.freq=2
     ·have df2:decide ((r.freq:Int)=2)=true:=dcT (by omega)
      have nf2:decide (r.freq=2)=true:=dcT (by omega)
      simp only[go_sem,he,gp,k1,k2,k3,k4,k5,k6,k10,df0,da,db,dc,df2]
      exact⟨⟨_,rfl⟩,by rw[show g7 r=true by unfold g7;simp only[nf0,na,nb,nc,nf2,Bool.true_or,Bool.or_true,Bool.false_or,Bool.true_and,Bool.false_and,Bool.not_false,Bool.not_true,Bool.or_false,Bool.and_false,Bool.and_true]]⟩
     have df2:decide ((r.freq:Int)=2)=false:=dcF (by omega)
     have nf2:decide (r.freq=2)=false:=dcF (by omega)
     simp only[go_sem,he,gp,k1,k2,k3,k4,k5,k6,k10,df0,da,db,dc,df2]
     exact⟨⟨_,rfl⟩,by rw[show g7 r=false by unfold g7;simp only[nf0,na,nb,nc,nf2,Bool.true_or,Bool.or_true,Bool.false_or,Bool.true_and,Bool.false_and,Bool.not_false,Bool.not_true,Bool.or_false,Bool.and_false,Bool.and_true]]⟩
    have dc:decide (0<(r.monthDay.length:Int))=false:=dcF (by omega)
    have nc:decide (0<r.monthDay.length)=false:=dcF (by omega)
    simp only[go_sem,he,gp,k1,k2,k3,k4,k5,k6,k10,df0,da,db,dc]
    exact⟨⟨_,rfl⟩,by rw[show g7 r=false by unfold g7;simp only[nf0,na,nb,nc,Bool.true_or,Bool.or_true,Bool.false_or,Bool.true_and,Bool.false_and,Bool.not_false,Bool.not_true,Bool.or_false,Bool.and_false,Bool.and_true]]⟩
   have da:decide (0<(r.weekNo.length:Int))=false:=dcF (by omega)
   have na:decide (0<r.weekNo.length)=false:=dcF (by omega)
   by_cases cb:0<r.easter.length
   ·have db:decide (0<(r.easter.length:Int))=true:=dcT (by omega)
    have nb:decide (0<r.easter.length)=true:=dcT (by omega)
    by_cases cc:0<r.monthDay.length
    ·have dc:decide (0<(r.monthDay.length:Int))=true:=dcT (by omega)
     have nc:decide (0<r.monthDay.length)=true:=dcT (by omega)
     by_cases cf2:r.freq=2
     ·have df2:decide ((r.freq:Int)=2)=true:=dcT (by omega)
      have nf2:decide (r.freq=2)=true:=dcT (by omega)
      simp only[go_sem,he,gp,k1,k2,k3,k4,k5,k6,k10,df0,da,db,dc,df2]
      exact⟨⟨_,rfl⟩,by rw[show g7 r=true by unfold g7;simp only[nf0,na,nb,nc,nf2,Bool.true_or,Bool.or_true,Bool.false_or,Bool.true_and,Bool.false_and,Bool.not_false,Bool.not_true,Bool.or_false,Bool.and_false,Bool.and_true]]⟩
     have df2:decide ((r.freq:Int)=2)=false:=dcF (by omega)
     have nf2:decide (r.freq=2)=false:=dcF (by omega)
     simp only[go_sem,he,gp,k1,k2,k3,k4,k5,k6,k10,df0,da,db,dc,df2]
     exact⟨⟨_,rfl⟩,by rw[show g7 r=false by unfold g7;simp only[nf0,na,nb,nc,nf2,Bool.true_or,Bool.or_true,Bool.false_or,Bool.true_and,Bool.false_and,Bool.not_false,Bool.not_true,Bool.or_false,Bool.and_false,Bool.and_true]]⟩
    have dc:decide (0<(r.monthDay.length:Int))=false:=dcF (by omega)
    have nc:decide (0<r.monthDay.length)=false:=dcF (by omega)
    simp only[go_sem,he,gp,k1,k2,k3,k4,k5,k6,k10,df0,da,db,dc]
    exact⟨⟨_,rfl⟩,by rw[show g7 r=false by unfold g7;simp only[nf0,na,nb,nc,Bool.true_or,Bool.or_true,Bool.false_or,Bool.true_and,Bool.false_and,Bool.not_false,Bool.not_true,Bool.or_false,Bool.and_false,Bool.and_true]]⟩
   have db:decide (0<(r.easter.length:Int))=false:=dcF (by omega)
   have nb:decide (0<r.easter.length)=false:=dcF (by omega)
   by_cases cc:0<r.monthDay.length
   ·have dc:decide (0<(r.monthDay.length:Int))=true:=dcT (by omega)
    have nc:decide (0<r.monthDay.length)=true:=dcT (by omega)
    by_cases cf2:r.freq=2
    ·have df2:decide ((r.freq:Int)=2)=true:=dcT (by omega)
     have nf2:decide (r.freq=2)=true:=dcT (by omega)
     simp only[go_sem,he,gp,k1,k2,k3,k4,k5,k6,k10,df0,da,db,dc,df2]
     exact⟨⟨_,rfl⟩,by rw[show g7 r=true by unfold g7;simp only[nf0,na,nb,nc,nf2,Bool.true_or,Bool.or_true,Bool.false_or,Bool.true_and,Bool.false_and,Bool.not_false,Bool.not_true,Bool.or_false,Bool.and_false,Bool.and_true]]⟩
    have df2:decide ((r.freq:Int)=2)=false:=dcF (by omega)
    have nf2:decide (r.freq=2)=false:=dcF (by omega)
    simp only[go_sem,he,gp,k1,k2,k3,k4,k5,k6,k10,df0,da,db,dc,df2]
    exact⟨⟨_,rfl⟩,by rw[show g7 r=false by unfold g7;simp only[nf0,na,nb,nc,nf2,Bool.true_or,Bool.or_true,Bool.false_or,Bool.true_and,Bool.false_and,Bool.not_false,Bool.not_true,Bool.or_false,Bool.and_false,Bool.and_true]]⟩
   have dc:decide (0<(r.monthDay.length:Int))=false:=dcF (by omega)
   have nc:decide (0<r.monthDay.length)=false:=dcF (by omega)
   simp only[go_sem,he,gp,k1,k2,k3,k4,k5,k6,k10,df0,da,db,dc]
   exact⟨⟨_,rfl⟩,by rw[show g7 r=false by unfold g7;simp only[nf0,na,nb,nc,Bool.true_or,Bool.or_true,Bool.false_or,Bool.true_and,Bool.false_and,Bool.not_false,Bool.not_true,Bool.or_false,Bool.and_false,Bool.and_true]]⟩
  have df0:decide ((r.freq:Int)=0)=false:=dcF (by omega)
  have nf0:decide (r.freq=0)=false:=dcF (by omega)
  by_cases ca:0<r.weekNo.length
  ·have da:decide (0<(r.weekNo.length:Int))=true:=dcT (by omega)
   have na:decide (0<r.weekNo.length)=true:=dcT (by omega)
   by_cases cb:0<r.easter.length
   ·have db:decide (0<(r.easter.length:Int))=true:=dcT (by omega)
    have nb:decide (0<r.easter.length)=true:=dcT (by omega)
    by_cases cc:0<r.monthDay.length
    ·have dc:decide (0<(r.monthDay.length:Int))=true:=dcT (by omega)
     have nc:decide (0<r.monthDay.length)=true:=dcT (by omega)
     simp only[go_sem,he,gp,k1,k2,k3,k4,k5,k6,k10,df0,da,db,dc]
     exact⟨⟨_,rfl⟩,by rw[show g7 r=true by unfold g7;simp only[nf0,na,nb,nc,Bool.true_or,Bool.or_true,Bool.false_or,Bool.true_and,Bool.false_and,Bool.not_false,Bool.not_true,Bool.or_false,Bool.and_false,Bool.and_true]]⟩
    have dc:decide (0<(r.monthDay.length:Int))=false:=dcF (by omega)
    have nc:decide (0<r.monthDay.length)=false:=dcF (by omega)
    simp only[go_sem,he,gp,k1,k2,k3,k4,k5,k6,k10,df0,da,db,dc]
    exact⟨⟨_,rfl⟩,by rw[show g7 r=true by unfold g7;simp only[nf0,na,nb,nc,Bool.true_or,Bool.or_true,Bool.false_or,Bool.true_and,Bool.false_and,Bool.not_false,Bool.not_true,Bool.or_false,Bool.and_false,Bool.and_true]]⟩
   have db:decide (0<(r.easter.length:Int))=false:=dcF (by omega)
   have nb:decide (0<r.easter.length)=false:=dcF (by omega)
   by_cases cc:0<r.monthDay.length
   ·have dc:decide (0<(r.monthDay.length:Int))=true:=dcT (by omega)
    have nc:decide (0<r.monthDay.length)=true:=dcT (by omega)
    simp only[go_sem,he,gp,k1,k2,k3,k4,k5,k6,k10,df0,da,db,dc]
    exact⟨⟨_,rfl⟩,by rw[show g7 r=true by unfold g7;simp only[nf0,na,nb,nc,Bool.true_or,Bool.or_true,Bool.false_or,Bool.true_and,Bool.false_and,Bool.not_false,Bool.not_true,Bool.or_false,Bool.and_false,Bool.and_true]]⟩
   have dc:decide (0<(r.monthDay.length:Int))=false:=dcF (by omega)
   have nc:decide (0<r.monthDay.length)=false:=dcF (by omega)
   simp only[go_sem,he,gp,k1,k2,k3,k4,k5,k6,k10,df0,da,db,dc]
   exact⟨⟨_,rfl⟩,by rw[show g7 r=true by unfold g7;simp only[nf0,na,nb,nc,Bool.true_or,Bool.or_true,Bool.false_or,Bool.true_and,Bool.false_and,Bool.not_false,Bool.not_true,Bool.or_false,Bool.and_false,Bool.and_true]]⟩
  have da:decide (0<(r.weekNo.length:Int))=false:=dcF (by omega)
  have na:decide (0<r.weekNo.length)=false:=dcF (by omega)
  by_cases cb:0<r.easter.length
  ·have db:decide (0<(r.easter.length:Int))=true:=dcT (by omega)
   have nb:decide (0<r.easter.length)=true:=dcT (by omega)
   by_cases cc:0<r.monthDay.length
   ·have dc:decide (0<(r.monthDay.length:Int))=true:=dcT (by omega)
    have nc:decide (0<r.monthDay.length)=true:=dcT (by omega)
    simp only[go_sem,he,gp,k1,k2,k3,k4,k5,k6,k10,df0,da,db,dc]
    exact⟨⟨_,rfl⟩,by rw[show g7 r=true by unfold g7;simp only[nf0,na,nb,nc,Bool.true_or,Bool.or_true,Bool.false_or,Bool.true_and,Bool.false_and,Bool.not_false,Bool.not_true,Bool.or_false,Bool.and_false,Bool.and_true]]⟩
   have dc:decide (0<(r.monthDay.length:Int))=false:=dcF (by omega)
   have nc:decide (0<r.monthDay.length)=false:=dcF (by omega)
   simp only[go_sem,he,gp,k1,k2,k3,k4,k5,k6,k10,df0,da,db,dc]
   exact⟨⟨_,rfl⟩,by rw[show g7 r=true by unfold g7;simp only[nf0,na,nb,nc,Bool.true_or,Bool.or_true,Bool.false_or,Bool.true_and,Bool.false_and,Bool.not_false,Bool.not_true,Bool.or_false,Bool.and_false,Bool.and_true]]⟩
  have db:decide (0<(r.easter.length:Int))=false:=dcF (by omega)
  have nb:decide (0<r.easter.length)=false:=dcF (by omega)
  by_cases cc:0<r.monthDay.length
  ·have dc:decide (0<(r.monthDay.length:Int))=true:=dcT (by omega)
   have nc:decide (0<r.monthDay.length)=true:=dcT (by omega)
   by_cases cf2:r.freq=2
   ·have df2:decide ((r.freq:Int)=2)=true:=dcT (by omega)
    have nf2:decide (r.freq=2)=true:=dcT (by omega)
    simp only[go_sem,he,gp,k1,k2,k3,k4,k5,k6,k10,df0,da,db,dc,df2]
    exact⟨⟨_,rfl⟩,by rw[show g7 r=true by unfold g7;simp only[nf0,na,nb,nc,nf2,Bool.true_or,Bool.or_true,Bool.false_or,Bool.true_and,Bool.false_and,Bool.not_false,Bool.not_true,Bool.or_false,Bool.and_false,Bool.and_true]]⟩
   have df2:decide ((r.freq:Int)=2)=false:=dcF (by omega)
   have nf2:decide (r.freq=2)=false:=dcF (by omega)
   simp only[go_sem,he,gp,k1,k2,k3,k4,k5,k6,k10,df0,da,db,dc,df2]
   exact⟨⟨_,rfl⟩,by rw[show g7 r=false by unfold g7;simp only[nf0,na,nb,nc,nf2,Bool.true_or,Bool.or_true,Bool.false_or,Bool.true_and,Bool.false_and,Bool.not_false,Bool.not_true,Bool.or_false,Bool.and_false,Bool.and_true]]⟩
  have dc:decide (0<(r.monthDay.length:Int))=false:=dcF (by omega)
  have nc:decide (0<r.monthDay.length)=false:=dcF (by omega)
  simp only[go_sem,he,gp,k1,k2,k3,k4,k5,k6,k10,df0,da,db,dc]
  exact⟨⟨_,rfl⟩,by rw[show g7 r=false by unfold g7;simp only[nf0,na,nb,nc,Bool.true_or,Bool.or_true,Bool.false_or,Bool.true_and,Bool.false_and,Bool.not_false,Bool.not_true,Bool.or_false,Bool.and_false,Bool.and_true]]⟩
 rintro e h ⟨⟨G,rfl⟩,he,gp,gt⟩
 simp only[go_sem,he,gp,gt,k4]
 refine aF (fun hq=>?_) fun hq=>?_
 ·simp only[go_sem,he,gp,gt]
  rw[aLk hq]
  exact⟨rfl,_,rfl⟩
 rename g7 r=false=>q7
 simp only[go_sem,he,gp,gt,k4]
 refine bQ (fun e h=>(∃G,h=H++aD.own 25 [vU r.freq,vB r.hasStart,vI r.start,vI r.interval,vI r.wkst,vI r.count,vB r.hasUntil,vI r.til,x.setPos,x.month,x.monthDay,x.yearDay,x.weekNo,x.day,x.hour,x.minute,x.second,x.easter]::G)∧len e=264∧AL.get e 1=.ptr H.length 0∧AL.get e 255=vB (g8 r)) ?_ ?_
 ·by_cases cy:0<r.yearDay.length
  ·have dy:decide (0<(r.yearDay.length:Int))=true:=dcT (by omega)
   have ny:decide (0<r.yearDay.length)=true:=dcT (by omega)
   by_cases cf1:r.freq=1
   ·have df1:decide ((r.freq:Int)=1)=true:=dcT (by omega)
    have nf1:decide (r.freq=1)=true:=dcT (by omega)
    simp only[go_sem,he,gp,k1,k2,k3,k4,k5,k6,k10,dy,df1]
    exact⟨⟨_,rfl⟩,by rw[show g8 r=true by unfold g8;simp only[ny,nf1,Bool.true_or,Bool.or_true,Bool.false_or,Bool.true_and,Bool.false_and,Bool.not_false,Bool.not_true,Bool.or_false,Bool.and_false,Bool.and_true]]⟩
   have df1:decide ((r.freq:Int)=1)=false:=dcF (by omega)
   have nf1:decide (r.freq=1)=false:=dcF (by omega)
   by_cases cf2:r.freq=2
   ·have df2:decide ((r.freq:Int)=2)=true:=dcT (by omega)
    have nf2:decide (r.freq=2)=true:=dcT (by omega)
    simp only[go_sem,he,gp,k1,k2,k3,k4,k5,k6,k10,dy,df1,df2]
    exact⟨⟨_,rfl⟩,by rw[show g8 r=true by unfold g8;simp only[ny,nf1,nf2,Bool.true_or,Bool.or_true,Bool.false_or,Bool.true_and,Bool.false_and,Bool.not_false,Bool.not_true,Bool.or_false,Bool.and_false,Bool.and_true]]⟩
   have df2:decide ((r.freq:Int)=2)=false:=dcF (by omega)
   have nf2:decide (r.freq=2)=false:=dcF (by omega)
   by_cases cf3:r.freq=3
   ·have df3:decide ((r.freq:Int)=3)=true:=dcT (by omega)
    have nf3:decide (r.freq=3)=true:=dcT (by omega)
    simp only[go_sem,he,gp,k1,k2,k3,k4,k5,k6,k10,dy,df1,df2,df3]
    exact⟨⟨_,rfl⟩,by rw[show g8 r=true by unfold g8;simp only[ny,nf1,nf2,nf3,Bool.true_or,Bool.or_true,Bool.false_or,Bool.true_and,Bool.false_and,Bool.not_false,Bool.not_true,Bool.or_false,Bool.and_false,Bool.and_true]]⟩
   have df3:decide ((r.freq:Int)=3)=false:=dcF (by omega)
   have nf3:decide (r.freq=3)=false:=dcF (by omega)
   simp only[go_sem,he,gp,k1,k2,k3,k4,k5,k6,k10,dy,df1,df2,df3]
   exact⟨⟨_,rfl⟩,by rw[show g8 r=false by unfold g8;simp only[ny,nf1,nf2,nf3,Bool.true_or,Bool.or_true,Bool.false_or,Bool.true_and,Bool.false_and,Bool.not_false,Bool.not_true,Bool.or_false,Bool.and_false,Bool.and_true]]⟩
  have dy:decide (0<(r.yearDay.length:Int))=false:=dcF (by omega)
  have ny:decide (0<r.yearDay.length)=false:=dcF (by omega)
  simp only[go_sem,he,gp,k1,k2,k3,k4,k5,k6,k10,dy]
  exact⟨⟨_,rfl⟩,by rw[show g8 r=false by unfold g8;simp only[ny,Bool.true_or,Bool.or_true,Bool.false_or,Bool.true_and,Bool.false_and,Bool.not_false,Bool.not_true,Bool.or_false,Bool.and_false,Bool.and_true]]⟩
 rintro e h ⟨⟨G,rfl⟩,he,gp,gt⟩
 simp only[go_sem,he,gp,gt]
 refine aF (fun hq=>?_) fun hq=>?_
 ·simp only[go_sem,he,gp,gt]
  rw[aLl hq]
  exact⟨rfl,_,rfl⟩
 rename g8 r=false=>q8
 have hfin:clean r=(decide (r.setPos.length=0)||vY r):=by unfold clean;simp only[q1,q2,q3,q4,q5',q6,q7,q8,Bool.not_false,Bool.true_and]
 by_cases hs:r.setPos.length=0
 ·have ds:decide ((r.setPos.length:Int)=0)=true:=dcT (by omega)
  simp only[go_sem,he,gp,gt,k1,ds]
  rw[hfin,dcT hs]
  exact⟨rfl,_,rfl⟩
 have ds:decide ((r.setPos.length:Int)=0)=false:=dcF (by omega)
 simp only[go_sem,he,gp,gt,k1,ds]
 refine aSh (aLp r x hl _ (hx.more _)) ?_
 simp only[go_sem,he,gp,gt,aA]
 rw[hfin,dcF hs,Bool.false_or]
 exact⟨rfl,_,rfl⟩
theorem aKa {w0:World} (r:Ru) (x:Rs) (H:aB) (hx:cN H r x):aH prog (CB w0) 20 [.agg (aE r x)] H fun v H'=>v=vB (aH3 r)∧H'=H:=by
 refine aH.flat rfl ?_
 refine aSi (N:=43) (rs:=[.tmp 2]) Tryz.func20 ?_
 rintro e he ⟨g0,-⟩
 have k1:=hx.setPos.len 3
 have k2:=hx.month.len 3
 have k3:=hx.monthDay.len 3
 have k4:=hx.yearDay.len 3
 have k5:=hx.weekNo.len 3
 have k6:=hx.day.len 41
 have k7:=hx.hour.len 3
 have k8:=hx.minute.len 3
 have k9:=hx.second.len 3
 have k10:=hx.easter.len 3
 unfold aE at g0
 have hd:∀(n:Nat),decide ((2147483647:Int)<(n:Int))=decide (dX<n):=fun n=>decide_eq_decide.2 (by unfold dX;omega)
 unfold aH3
 simp only[go_sem,he,g0,hx.setPos.one,hx.month.one,hx.monthDay.one,hx.yearDay.one,hx.weekNo.one,hx.day.one,hx.hour.one,hx.minute.one,hx.second.one,hx.easter.one,k1,k2,k3,k4,k5,k6,k7,k8,k9,k10,hd]
 cases c0:decide (dX<r.setPos.length) with
 |true=>
  simp only[go_sem,he,k1,k2,k3,k4,k5,k6,k7,k8,k9,k10,hd,c0,Bool.true_or,Bool.or_true]
  first|exact⟨_,rfl⟩|exact⟨rfl,_,rfl⟩
 |false=>
 simp only[go_sem,he,k1,k2,k3,k4,k5,k6,k7,k8,k9,k10,hd,c0]
 cases c1:decide (dX<r.month.length) with
 |true=>
  simp only[go_sem,he,k1,k2,k3,k4,k5,k6,k7,k8,k9,k10,hd,c1,Bool.true_or,Bool.or_true]
  first|exact⟨_,rfl⟩|exact⟨rfl,_,rfl⟩
 |false=>
 simp only[go_sem,he,k1,k2,k3,k4,k5,k6,k7,k8,k9,k10,hd,c1]
 cases c2:decide (dX<r.monthDay.length) with
 |true=>
  simp only[go_sem,he,k1,k2,k3,k4,k5,k6,k7,k8,k9,k10,hd,c2,Bool.true_or,Bool.or_true]
  first|exact⟨_,rfl⟩|exact⟨rfl,_,rfl⟩
 |false=>
 simp only[go_sem,he,k1,k2,k3,k4,k5,k6,k7,k8,k9,k10,hd,c2]
 cases c3:decide (dX<r.yearDay.length) with
 |true=>
  simp only[go_sem,he,k1,k2,k3,k4,k5,k6,k7,k8,k9,k10,hd,c3,Bool.true_or,Bool.or_true]
  first|exact⟨_,rfl⟩|exact⟨rfl,_,rfl⟩
 |false=>
 simp only[go_sem,he,k1,k2,k3,k4,k5,k6,k7,k8,k9,k10,hd,c3]
 cases c4:decide (dX<r.weekNo.length) with
 |true=>
  simp only[go_sem,he,k1,k2,k3,k4,k5,k6,k7,k8,k9,k10,hd,c4,Bool.true_or,Bool.or_true]
  first|exact⟨_,rfl⟩|exact⟨rfl,_,rfl⟩
 |false=>
 simp only[go_sem,he,k1,k2,k3,k4,k5,k6,k7,k8,k9,k10,hd,c4]
 cases c5:decide (dX<r.day.length) with
 |true=>
  simp only[go_sem,he,k1,k2,k3,k4,k5,k6,k7,k8,k9,k10,hd,c5,Bool.true_or,Bool.or_true]
  first|exact⟨_,rfl⟩|exact⟨rfl,_,rfl⟩
 |false=>
 simp only[go_sem,he,k1,k2,k3,k4,k5,k6,k7,k8,k9,k10,hd,c5]
 cases c6:decide (dX<r.hour.length) with
 |true=>
  simp only[go_sem,he,k1,k2,k3,k4,k5,k6,k7,k8,k9,k10,hd,c6,Bool.true_or,Bool.or_true]
  first|exact⟨_,rfl⟩|exact⟨rfl,_,rfl⟩
 |false=>
 simp only[go_sem,he,k1,k2,k3,k4,k5,k6,k7,k8,k9,k10,hd,c6]
 cases c7:decide (dX<r.minute.length) with
 |true=>
  simp only[go_sem,he,k1,k2,k3,k4,k5,k6,k7,k8,k9,k10,hd,c7,Bool.true_or,Bool.or_true]
  first|exact⟨_,rfl⟩|exact⟨rfl,_,rfl⟩
 |false=>
 simp only[go_sem,he,k1,k2,k3,k4,k5,k6,k7,k8,k9,k10,hd,c7]
 cases c8:decide (dX<r.second.length) with
 |true=>
  simp only[go_sem,he,k1,k2,k3,k4,k5,k6,k7,k8,k9,k10,hd,c8,Bool.true_or,Bool.or_true]
  first|exact⟨_,rfl⟩|exact⟨rfl,_,rfl⟩
 |false=>
 simp only[go_sem,he,k1,k2,k3,k4,k5,k6,k7,k8,k9,k10,hd,c8]
 cases c9:decide (dX<r.easter.length) with
 |true=>
  simp only[go_sem,he,k1,k2,k3,k4,k5,k6,k7,k8,k9,k10,hd,c9,Bool.true_or,Bool.or_true]
  first|exact⟨_,rfl⟩|exact⟨rfl,_,rfl⟩
 |false=>
 simp only[go_sem,he,k1,k2,k3,k4,k5,k6,k7,k8,k9,k10,hd,c9]
 first|exact⟨_,rfl⟩|exact⟨rfl,_,rfl⟩
end F
namespace K
open Go.Proofs.YtnoppodfngkoeaaGreat.F
def rep (v:Int) (n:Nat):List Int:=List.replicate n v
def zK (a b:Int):List Int:=(List.range (b-a).toNat).map fun i:Nat=>a+(i:Int)
def qI:List Int:=rep 1 31++rep 2 29++rep 3 31++rep 4 30++rep 5 31++rep 6 30++rep 7 31++rep 8 31++rep 9 30++rep 10 31++rep 11 30++rep 12 31++rep 1 7
def M29:=zK 1 30
def M30:=zK 1 31
def M31:=zK 1 32
def iJ:List Int:=M31++M29++M31++M30++M31++M30++M31++M31++M30++M31++M30++M31++M31.take 7
def N29:=zK (-29) 0
def N30:=zK (-30) 0
def N31:=zK (-31) 0
def gN:List Int:=N31++N29++N31++N30++N31++N30++N31++N31++N30++N31++N30++N31++N31.take 7
def rD (lp:Bool):List Int:=if lp then qI else qI.take 59++qI.drop 60
def v7 (lp:Bool):List Int:=if lp then iJ else iJ.take 59++iJ.drop 60
def rE (lp:Bool):List Int:=if lp then gN else gN.take 31++gN.drop 32
def eI (lp:Bool):List Int:=if lp then [0,31,60,91,121,152,182,213,244,274,305,335,366] else [0,31,59,90,120,151,181,212,243,273,304,334,365]
def aM (lp:Bool):Nat:=if lp then 366 else 365
def v8 (lp:Bool) (m:Int):Int:=if m=4∨m=6∨m=9∨m=11 then 30 else if m=2 then (if lp then 29 else 28) else 31
theorem v9 (y m:Int):aO y m=v8 (aR y) m:=rfl
def upL (lp:Bool):Nat→Int→Int→Int×Int
 |0,m,d=>(m,d)
 |k+1,m,d=>if v8 lp m<d then upL lp k (m+1) (d-v8 lp m) else (m,d)
theorem aKb (y:Int):∀(k:Nat) (m d:Int),eK y k m d=upL (aR y) k m d
 |0,m,d=>rfl
 |k+1,m,d=>by
  rw[eK,upL,v9,aKb y k]
def aOY (lp:Bool) (i:Nat):Bool:=match upL lp 400 1 ((i:Int)+1) with
 |(m,d)=>decide ((rD lp)[i]?=some m)&&decide ((v7 lp)[i]?=some d)&&decide ((rE lp)[i]?=some (d-v8 lp m-1))&&decide (1≤m)&&decide (m≤12)&&decide ((eI lp)[(m-1).toNat]?=some ((i:Int)+1-d))&&decide ((eI lp)[m.toNat]?=some ((i:Int)+1-d+v8 lp m))
theorem aPe:([true,false].all fun lp=>(List.range (aM lp)).all fun i=>aOY lp i)=true:=by kernel_rfl
theorem dB (y:Int) (hy:1≤y):aC (y+1)=aC y+(aM (aR y):Int):=by
 rw[dQ]
 cases aR y<;>rfl
theorem xH {y:Int} (hy:1≤y) {i:Nat} (hi:i<aM (aR y)):∃m d:Int,aK (aC y+i)=y∧aL (aC y+i)=(m,d)∧(rD (aR y))[i]?=some m∧(v7 (aR y))[i]?=some d∧(rE (aR y))[i]?=some (d-aO y m-1)∧1≤m∧m≤12∧
  (eI (aR y))[(m-1).toNat]?=some ((i:Int)+1-d)∧(eI (aR y))[m.toNat]?=some ((i:Int)+1-d+aO y m):=by
 have hb:=dB y hy
 have hbg:=dG hy
 have hyo:aK (aC y+i)=y:=iX (by omega) hy (by omega) (by omega)
 have h1:=List.all_eq_true.1 (List.all_eq_true.1 aPe (aR y) (by cases aR y<;>simp)) i (List.mem_range.2 hi)
 unfold aOY at h1
 have hd:aL (aC y+i)=upL (aR y) 400 1 ((i:Int)+1):=by
  unfold aL
  rw[hyo,aKb]
  congr 1
  omega
 generalize upL (aR y) 400 1 ((i:Int)+1)=D at h1 hd
 obtain⟨m,d⟩:=D
 simp only[Bool.and_eq_true,decide_eq_true_eq] at h1
 obtain⟨⟨⟨⟨⟨⟨a,b⟩,c⟩,e⟩,f⟩,g⟩,h⟩:=h1
 exact⟨m,d,hyo,hd,a,b,by rw[v9];exact c,e,f,g,by rw[v9];exact h⟩
theorem aPf {c first j wday n:Int} (hw:0≤wday∧wday≤6) (hf:first≤j) (hn:1≤n):j=first+(n-1)*7+(7-(c+(first+(n-1)*7))%7+wday)%7↔(c+j)%7=wday∧(j-first)/7+1=n:=by
 constructor
 ·intro h
  constructor<;>omega
 ·rintro ⟨h1,h2⟩
  omega
theorem aPg {c last j wday n:Int} (hw:0≤wday∧wday≤6) (hl:j≤last) (hn:n≤-1):j=last+(n+1)*7-((c+(last+(n+1)*7))%7-wday)%7↔(c+j)%7=wday∧-((last-j)/7+1)=n:=by
 constructor
 ·intro h
  constructor<;>omega
 ·rintro ⟨h1,h2⟩
  omega
def dH (wd wkst:Int):Int:=if (wd-wkst+7)%7≤3 then -((wd-wkst+7)%7) else 7-(wd-wkst+7)%7
theorem rF {wd wkst:Int} (h:0≤wd∧wd≤6) (hk:0≤wkst∧wkst≤6):dH wd wkst=if 4≤(7-wd+wkst)%7 then (7-wd+wkst)%7-7 else (7-wd+wkst)%7:=by
 unfold dH
 split<;>split<;>omega
theorem aKc {wd wkst len:Int} (h:0≤wd∧wd≤6) (hk:0≤wkst∧wkst≤6) (hl:len=365∨len=366) :
  (let f:=(7-wd+wkst)%7;let wl:=if 4≤f then len+(wd-wkst)%7 else len-f;wl/7+wl%7/4)=(len+dH ((wd+len)%7) wkst-dH wd wkst)/7:=by
 rw[rF h hk,rF (by omega) hk]
 simp only
 rcases hl with rfl|rfl<;>(split<;>split<;>omega)
def fw (wkst y:Int):Int:=aC y+dH (aC y%7) wkst
theorem fO (wd wkst:Int):-3≤dH wd wkst∧dH wd wkst≤3:=by
 unfold dH
 split<;>omega
theorem kE (wkst y:Int):(fw wkst y-wkst)%7=0:=by
 unfold fw dH
 split<;>omega
def i9 (wkst y n:Int):Int:=if n<fw wkst y then y-1 else if fw wkst (y+1)≤n then y+1 else y
def wno (wkst y n:Int):Int:=(n-fw wkst (i9 wkst y n))/7+1
def rW (wkst y n:Int):Int:=(fw wkst (i9 wkst y n+1)-fw wkst (i9 wkst y n))/7
theorem aH6 {wkst y:Int} {l:List Int} (hl:∀n∈l,-51≤n∧n≤51) (hy:2≤y) {i:Nat} (hi:i<aM (aR y)) :
  (wno wkst y (aC y+i)∈l∨wno wkst y (aC y+i)-rW wkst y (aC y+i)-1∈l) ↔
   ((i:Int)<dH (aC y%7) wkst∧-1∈l) ∨
   (dH (aC y%7) wkst≤i∧aC y+i<fw wkst (y+1)∧(((i:Int)-dH (aC y%7) wkst)/7+1∈l∨((i:Int)-dH (aC y%7) wkst)/7+1-(fw wkst (y+1)-fw wkst y)/7-1∈l)) ∨
   (fw wkst (y+1)≤aC y+i∧1∈l):=by
 have b0:=dB y (by omega)
 have b1:=dB (y-1) (by omega)
 have b2:=dB (y+1) (by omega)
 rw[show y-1+1=y by omega] at b1
 have yl:∀b,(aM b:Int)=365∨(aM b:Int)=366:=by intro b;cases b<;>simp[aM]
 have y0:=yl (aR y)
 have y1:=yl (aR (y-1))
 have y2:=yl (aR (y+1))
 have m0:=kE wkst y
 have m1:=kE wkst (y-1)
 have m2:=kE wkst (y+1)
 have m3:=kE wkst (y+1+1)
 have w0:=fO (aC y%7) wkst
 have w1:=fO (aC (y-1)%7) wkst
 have w2:=fO (aC (y+1)%7) wkst
 have w3:=fO (aC (y+1+1)%7) wkst
 have f0:fw wkst y=aC y+dH (aC y%7) wkst:=rfl
 have f1:fw wkst (y-1)=aC (y-1)+dH (aC (y-1)%7) wkst:=rfl
 have f2:fw wkst (y+1)=aC (y+1)+dH (aC (y+1)%7) wkst:=rfl
 have f3:fw wkst (y+1+1)=aC (y+1+1)+dH (aC (y+1+1)%7) wkst:=rfl
 have no:∀k:Int,(k < -51∨51<k)→k∉l:=fun k hk hm=>by have:=hl k hm;omega
 unfold wno rW i9
 by_cases h1:aC y+(i:Int)<fw wkst y
 ·simp only[if_pos h1]
  rw[show y-1+1=y by omega]
  have e1:(aC y+(i:Int)-fw wkst (y-1))/7+1=(fw wkst y-fw wkst (y-1))/7:=by omega
  rw[e1]
  have e2:(fw wkst y-fw wkst (y-1))/7-(fw wkst y-fw wkst (y-1))/7-1=-1:=by omega
  rw[e2]
  have n1:=no ((fw wkst y-fw wkst (y-1))/7) (by omega)
  constructor
  ·rintro (h|h)
   ·exact absurd h n1
   ·exact .inl ⟨by omega,h⟩
  ·rintro (⟨_,h⟩|⟨h,_⟩|⟨h,_⟩)
   ·exact .inr h
   ·omega
   ·omega
 ·simp only[if_neg h1]
  by_cases h2:fw wkst (y+1)≤aC y+(i:Int)
  ·simp only[if_pos h2]
   have e1:(aC y+(i:Int)-fw wkst (y+1))/7+1=1:=by omega
   rw[e1]
   have n1:=no (1-(fw wkst (y+1+1)-fw wkst (y+1))/7-1) (by omega)
   constructor
   ·rintro (h|h)
    ·exact .inr (.inr ⟨h2,h⟩)
    ·exact absurd h n1
   ·rintro (⟨h,_⟩|⟨_,h,_⟩|⟨_,h⟩)
    ·omega
    ·omega
    ·exact .inl h
  ·simp only[if_neg h2]
   have e1:(aC y+(i:Int)-fw wkst y)/7+1=((i:Int)-dH (aC y%7) wkst)/7+1:=by omega
   rw[e1]
   constructor
   ·intro h
    exact .inr (.inl ⟨by omega,by omega,h⟩)
   ·rintro (⟨h,_⟩|⟨_,_,h⟩|⟨h,_⟩)
    ·omega
    ·exact h
    ·omega
abbrev Asc (l:List Int):Prop:=l.Pairwise (·< ·)
theorem Asc.ext:∀{l m:List Int},Asc l→Asc m→(∀x,x∈l↔x∈m)→l=m
 |[],[],_,_,_=>rfl
 |[],b::m,_,_,h=>by have:=(h b).2 (List.mem_cons_self ..);simp at this
 |a::l,[],_,_,h=>by have:=(h a).1 (List.mem_cons_self ..);simp at this
 |a::l,b::m,hl,hm,h=>by
  have hl':=List.pairwise_cons.1 hl
  have hm':=List.pairwise_cons.1 hm
  have hab:a=b:=by
   rcases List.mem_cons.1 ((h a).1 (List.mem_cons_self ..)) with e|e
   ·exact e
   ·rcases List.mem_cons.1 ((h b).2 (List.mem_cons_self ..)) with e2|e2
    ·exact e2.symm
    ·have h1:=hl'.1 b e2
     have h2:=hm'.1 a e
     omega
  subst hab
  congr 1
  refine Asc.ext hl'.2 hm'.2 fun x=>⟨fun hx=>?_,fun hx=>?_⟩
  ·rcases List.mem_cons.1 ((h x).1 (List.mem_cons_of_mem _ hx)) with e|e
   ·have:=hl'.1 x hx;omega
   ·exact e
  ·rcases List.mem_cons.1 ((h x).2 (List.mem_cons_of_mem _ hx)) with e|e
   ·have:=hm'.1 x hx;omega
   ·exact e
def t6 (x:Int):List Int→List Int
 |[]=>[x]
 |y::l=>if x<y then x::y::l else if x=y then y::l else y::t6 x l
def srt (l:List Int):List Int:=l.foldr t6 []
theorem zL {x z:Int}:∀{l:List Int},z∈t6 x l↔z=x∨z∈l
 |[]=>by simp[t6]
 |y::l=>by
  unfold t6
  split
  ·simp
  ·split
   ·rename_i h;subst h;simp
   ·rw[List.mem_cons,zL,List.mem_cons]
    constructor
    ·rintro (h|h|h)<;>simp[h]
    ·rintro (h|h|h)<;>simp[h]
theorem aEF {x:Int}:∀{l:List Int},Asc l→Asc (t6 x l)
 |[],_=>by simp[t6]
 |y::l,h=>by
  have h':=List.pairwise_cons.1 h
  unfold t6
  split
  ·rename_i hx
   refine List.pairwise_cons.2 ⟨fun z hz=>?_,h⟩
   rcases List.mem_cons.1 hz with e|e
   ·omega
   ·have:=h'.1 z e;omega
  ·split
   ·exact h
   ·refine List.pairwise_cons.2 ⟨fun z hz=>?_,aEF h'.2⟩
    rcases zL.1 hz with e|e
    ·omega
    ·exact h'.1 z e
theorem kU:∀l:List Int,Asc (srt l)
 |[]=>List.Pairwise.nil
 |x::l=>aEF (kU l)
theorem gJ {z:Int}:∀{l:List Int},z∈srt l↔z∈l
 |[]=>Iff.rfl
 |x::l=>by
  show z∈t6 x (srt l)↔_
  rw[zL,gJ,List.mem_cons]
theorem aRD {l m:List Int} (hl:Asc l) (h:∀x,x∈l↔x∈m):srt m=l:=Asc.ext (kU m) hl fun x=>by rw[gJ,h]
theorem lL {f:Int→List Int} (lo hi:Int→Int):∀{l:List Int},Asc l→(∀x∈l,Asc (f x))→(∀x∈l,∀t∈f x,lo x≤t∧t<hi x)→(∀x y,x∈l→y∈l→x<y→hi x≤lo y)→Asc (l.flatMap f)
 |[],_,_,_,_=>List.Pairwise.nil
 |a::l,hl,h1,h2,h3=>by
  have hl':=List.pairwise_cons.1 hl
  rw[List.flatMap_cons]
  refine List.pairwise_append.2 ⟨h1 a (List.mem_cons_self ..),lL lo hi hl'.2 (fun x hx=>h1 x (List.mem_cons_of_mem _ hx)) (fun x hx=>h2 x (List.mem_cons_of_mem _ hx)) (fun x y hx hy=>h3 x y (List.mem_cons_of_mem _ hx) (List.mem_cons_of_mem _ hy)),fun s hs t ht=>?_⟩
  obtain⟨y,hy,ht⟩:=List.mem_flatMap.1 ht
  have e1:=h2 a (List.mem_cons_self ..) s hs
  have e2:=h2 y (List.mem_cons_of_mem _ hy) t ht
  have e3:=h3 a y (List.mem_cons_self ..) (List.mem_cons_of_mem _ hy) (hl'.1 y hy)
  omega
theorem rX (c:Int) {l:List Int} (h:Asc l):Asc (l.map (c+·)):=by
 refine List.pairwise_map.2 (h.imp ?_)
 intro a b hab;omega
def kF (a b:Int):List Int:=(List.range (b+1-a).toNat).map fun i:Nat=>a+(i:Int)
theorem zM {a b x:Int}:x∈kF a b↔a≤x∧x≤b:=by
 unfold kF
 simp only[List.mem_map,List.mem_range]
 constructor
 ·rintro ⟨i,hi,rfl⟩;omega
 ·intro h;exact⟨(x-a).toNat,by omega,by omega⟩
theorem t7 (a b:Int):Asc (kF a b):=by
 unfold kF
 refine List.pairwise_map.2 (List.pairwise_lt_range.imp ?_)
 intro i j h;omega
theorem wB {a b:Int} (h:a≤b):kF a b=kF a (b-1)++[b]:=by
 unfold kF
 rw[show (b+1-a).toNat=(b-1+1-a).toNat+1 by omega,List.range_succ,List.map_append]
 congr 1
 simp only[List.map_cons,List.map_nil]
 congr 1
 omega
theorem aEG {a b:Int} (h:b<a):kF a b=[]:=by
 unfold kF
 rw[show (b+1-a).toNat=0 by omega];rfl
theorem gV {l:List Int} (p:Int→Bool) (h:Asc l):Asc (l.filter p):=h.filter p
theorem aCT {l:List Int} (h:Asc l):l.Nodup:=h.imp fun hab e=>by omega
theorem aKd {l:List Int} (h:Asc l) {i j:Nat} (hi:i<l.length) (hj:j<l.length) (hij:i<j):l[i]<l[j]:=List.pairwise_iff_getElem.1 h i j hi hj hij
def whole (r:Ru):Ru:=
 {r with
  interval:=max 1 r.interval
  hasUntil:=true
  til:=if r.hasUntil=true then r.til else r.start+9223372036
  month:=if dJ r=false∧r.freq=0∧r.month=[] then [(aL (r.start/86400)).1] else r.month
  monthDay:=if dJ r=false∧r.freq≤1 then [(aL (r.start/86400)).2] else r.monthDay
  day:=if dJ r=false∧r.freq=2 then [(r.start/86400%7,0)] else r.day
  hour:=if r.hour=[]∧r.freq<4 then [r.start%86400/3600] else r.hour
  minute:=if r.minute=[]∧r.freq<5 then [r.start%86400/60%60] else r.minute
  second:=if r.second=[]∧r.freq<6 then [r.start%86400%60] else r.second}
def aY (l:List Int) (n:Int):Bool:=l.isEmpty||l.contains n
def eS (l:List Int) (n all:Int):Bool:=l.isEmpty||l.contains n||l.contains (n-all-1)
def cQ (y:Int):Int:=if aR y then 366 else 365
def jR (r:Ru) (n y m d:Int) (x:Int×Int):Bool:=
 decide (n%7=x.1)&&(decide (x.2=0)||(if r.freq=0∧r.month=[] then decide ((n-aC y)/7+1=x.2)||decide (-((cQ y-(n-aC y+1))/7+1)=x.2) else decide ((d-1)/7+1=x.2)||decide (-((aO y m-d)/7+1)=x.2)))
def cS (y:Int):Int:=
 let golden:=y%19
 let century:=y/100
 let skipped:=century/4
 let shift:=(8*century+13)/25
 let epact:=(19*golden+century-skipped-shift+15)%30
 let full:=epact-epact/28*(1-epact/28*(29/(epact+1))*((21-golden)/11))
 let sunday:=(y+y/4+full+2-century+skipped)%7
 aC y+bA y 2+27+full-sunday
def sR (r:Ru) (n y m d:Int):Bool:=
 aY r.month m&&eS r.monthDay d (aO y m)&&eS r.yearDay (n-aC y+1) (cQ y)&&eS r.weekNo (wno r.wkst y n) (rW r.wkst y n)&&(r.easter.isEmpty||r.easter.contains (n-cS y))&&(r.day.isEmpty||r.day.any (jR r n y m d))
def eB (r:Ru) (n:Int):Bool:=sR r n (aK n) (aL n).1 (aL n).2
def dA (r:Ru) (k:Nat):Int:=(aL (r.start/86400)).1-1+k*r.interval
def bN (r:Ru) (k:Nat):Int:=if r.freq=0 then aK (r.start/86400)+k*r.interval else aK (r.start/86400)+dA r k/12
def cJ (r:Ru) (k:Nat):Int:=dA r k%12+1
def aU (r:Ru) (k:Nat):Int:=
 if r.freq=0 then aC (bN r k)
 else if r.freq=1 then aC (bN r k)+bA (bN r k) (cJ r k-1).toNat
 else if r.freq=2 then r.start/86400-(r.start/86400%7-r.wkst+7)%7+7*k*r.interval
 else r.start/86400+k*r.interval
def bV (r:Ru) (k:Nat):Int:=
 if r.freq=0 then aC (bN r k+1)-1
 else if r.freq=1 then aU r k+aO (bN r k) (cJ r k)-1
 else if r.freq=2 then aU r k+6
 else aU r k
def times (r:Ru):List Int:=(srt r.hour).flatMap fun h=>(srt r.minute).flatMap fun m=>(srt r.second).map fun s=>h*3600+m*60+s
def kG (r:Ru) (k:Nat):List Int:=((kF (aU r k) (bV r k)).filter (eB r)).flatMap fun n=>(times r).map fun t=>n*86400+t
def dV (r:Ru):Int:=if r.freq=4 then 3600 else if r.freq=5 then 60 else 1
def bK (r:Ru) (k:Nat):Int:=(r.start/dV r+k*r.interval)*dV r
def eU (r:Ru) (k:Nat):List Int:=
 let t:=bK r k
 if eB r (t/86400)&&aY r.hour (t%86400/3600) then
  (if r.freq=4 then srt r.minute else [t%86400/60%60]).flatMap fun m=>((if r.freq<6 then srt r.second else [t%86400%60]).filter fun s=>aY r.minute m&&aY r.second s).map fun s=>t/86400*86400+t%86400/3600*3600+m*60+s
 else []
def dU (l:List Int) (pos:List Int):List Int:=if pos=[] then l else ((List.range l.length).filter fun i:Nat=>pos.contains ((i:Int)+1)||pos.contains ((i:Int)-l.length)).map fun i=>l.getD i 0
def dN (r:Ru) (k:Nat):List Int:=dU (if r.freq<4 then kG r k else eU r k) r.setPos
def keep (r:Ru) (l:List Int):List Int:=l.filter fun t=>decide (r.start≤t)&&decide (t≤r.til)
def iG (r:Ru) (k n:Nat):List Int:=(List.range' k n).flatMap fun j=>keep r (dN r j)
def wC:Nat:=400000000000
def gE (r:Ru):List Int:=iG r 0 wC
def gK (r:Ru):List Int:=if 0<r.count then (gE (whole r)).take r.count.toNat else gE (whole r)
structure WP (r:Ru):Prop where
 freq:r.freq≤6
 start:31536000≤r.start∧r.start<284012524800
 interval:1≤r.interval∧r.interval≤1000
 wkst:0≤r.wkst∧r.wkst≤6
 til:r.start≤r.til∧r.til<315537897600
 hour:∀h∈r.hour,0≤h∧h≤23
 minute:∀h∈r.minute,0≤h∧h≤59
 second:∀h∈r.second,0≤h∧h≤59
theorem cK {y z:Int} (h:y≤z):aC y≤aC z:=by unfold aC;omega
theorem sS (y:Int):bA y 12=cQ y:=by
 unfold cQ
 cases h:aR y<;>simp[bA,aO,h]
def oY (y M:Int):Int:=aC (y+M/12)+bA (y+M/12) (M%12).toNat
theorem yQ (y M:Int):oY y (M+1)=oY y M+aO (y+M/12) (M%12+1):=by
 unfold oY
 by_cases h:M%12=11
 ·have e1:(M+1)/12=M/12+1:=by omega
  have e2:(M+1)%12=0:=by omega
  rw[e1,e2,h,show y+(M/12+1)=y+M/12+1 by omega,dQ]
  have e3:=sS (y+M/12)
  have e4:bA (y+M/12) 12=bA (y+M/12) 11+aO (y+M/12) (11+1):=rfl
  unfold cQ at e3
  show _+0=aC (y+M/12)+bA (y+M/12) 11+_
  omega
 ·have e1:(M+1)/12=M/12:=by omega
  have e2:((M+1)%12).toNat=(M%12).toNat+1:=by omega
  rw[e1,e2]
  have:bA (y+M/12) ((M%12).toNat+1)=bA (y+M/12) (M%12).toNat+aO (y+M/12) (((M%12).toNat:Int)+1):=rfl
  rw[this,show (((M%12).toNat:Int))=M%12 by omega]
  omega
theorem yR (y M:Int):∀n:Nat,oY y M+n≤oY y (M+n)
 |0=>by simp
 |n+1=>by
  have h:=yR y M n
  have:=yQ y (M+n)
  have:=bP (y+(M+n)/12) ((M+n)%12+1)
  rw[show M+((n+1:Nat):Int)=M+n+1 by omega]
  omega
theorem kI {a b:Int} (k:Nat):((k+1:Nat):Int)*a=k*a+a:=by
 rw[show (((k+1:Nat)):Int)=(k:Int)+1 by omega,Int.add_mul,Int.one_mul]
theorem aCU (a:Int) (k:Nat):7*((k+1:Nat):Int)*a=7*k*a+7*a:=by
 rw[show (((k+1:Nat)):Int)=(k:Int)+1 by omega,Int.mul_add,Int.add_mul,Int.mul_one]
theorem nT {r:Ru} (h:r.freq=1) (k:Nat):aU r k=oY (aK (r.start/86400)) (dA r k):=by
 unfold aU oY bN cJ
 rw[if_neg (by omega),if_pos h,if_neg (by omega),show dA r k%12+1-1=dA r k%12 by omega]
theorem sT (r:Ru) (k:Nat):dA r (k+1)=dA r k+r.interval:=by
 unfold dA
 rw[kI (b:=0)];omega
theorem t8 {r:Ru} (h:WP r) (hf:r.freq<4) (k:Nat):aU r k≤bV r k∧bV r k<aU r (k+1):=by
 have hi:=h.interval
 by_cases f0:r.freq=0
 ·unfold bV aU
  rw[if_pos f0,if_pos f0,if_pos f0]
  have e:bN r (k+1)=bN r k+r.interval:=by
   unfold bN
   rw[if_pos f0,if_pos f0,kI (b:=0)];omega
  rw[e]
  have h1:=cK (y:=bN r k+1) (z:=bN r k+r.interval) (by omega)
  have h2:=dQ (bN r k)
  refine⟨?_,by omega⟩
  split at h2<;>omega
 by_cases f1:r.freq=1
 ·have e1:=nT f1 k
  have e2:=nT f1 (k+1)
  have e3:=yQ (aK (r.start/86400)) (dA r k)
  have e4:=yR (aK (r.start/86400)) (dA r k+1) (r.interval-1).toNat
  have e5:dA r k+1+((r.interval-1).toNat:Int)=dA r (k+1):=by rw[sT];omega
  rw[e5] at e4
  have e6:bV r k=aU r k+aO (bN r k) (cJ r k)-1:=by
   unfold bV
   rw[if_neg f0,if_pos f1]
  have e7:aO (bN r k) (cJ r k)=aO (aK (r.start/86400)+dA r k/12) (dA r k%12+1):=by
   unfold bN cJ
   rw[if_neg f0]
  have e8:=bP (bN r k) (cJ r k)
  omega
 by_cases f2:r.freq=2
 ·unfold bV aU
  rw[if_neg f0,if_neg f1,if_pos f2,if_neg f0,if_neg f1,if_pos f2,if_neg f0,if_neg f1,if_pos f2,aCU]
  omega
 ·unfold bV aU
  rw[if_neg f0,if_neg f1,if_neg f2,if_neg f0,if_neg f1,if_neg f2,if_neg f0,if_neg f1,if_neg f2,kI (b:=0)]
  omega
def dY (r:Ru) (k:Nat):Int:=if r.freq<4 then aU r k*86400 else bK r k
def rG (r:Ru) (k:Nat):Int:=if r.freq<4 then (bV r k+1)*86400 else bK r k+dV r
theorem fK {r:Ru} (h:WP r) (hf:¬r.freq<4):(r.freq=4∧dV r=3600)∨(r.freq=5∧dV r=60)∨(r.freq=6∧dV r=1):=by
 have:=h.freq
 unfold dV
 by_cases a:r.freq=4
 ·left;simp[a]
 by_cases b:r.freq=5
 ·right;left;simp[b]
 ·right;right
  exact⟨by omega,by rw[if_neg a,if_neg b]⟩
theorem sU {r:Ru} (h:WP r) (k:Nat):dY r k<rG r k∧rG r k≤dY r (k+1):=by
 unfold dY rG
 by_cases hf:r.freq<4
 ·rw[if_pos hf,if_pos hf,if_pos hf]
  have:=t8 h hf k
  omega
 ·rw[if_neg hf,if_neg hf,if_neg hf]
  have hi:=h.interval
  unfold bK
  rw[kI (b:=0)]
  rcases fK h hf with ⟨_,e⟩|⟨_,e⟩|⟨_,e⟩<;>rw[e]<;>omega
theorem nA {r:Ru} (h:WP r) (k:Nat):∀n:Nat,dY r k+n≤dY r (k+n)
 |0=>by simp
 |n+1=>by
  have:=nA h k n
  have:=sU h (k+n)
  rw[←Nat.add_assoc]
  omega
theorem kV {r:Ru} (h:WP r) {j k:Nat} (hjk:j≤k):dY r j≤dY r k:=by
 have:=nA h j (k-j)
 rw[show j+(k-j)=k by omega] at this
 omega
theorem pR {r:Ru} (h:WP r):365≤r.start/86400∧2≤aK (r.start/86400)∧aC (aK (r.start/86400))≤r.start/86400∧r.start/86400<aC (aK (r.start/86400)+1):=by
 have hs:=h.start
 have h1:=eW (n:=r.start/86400) (by omega)
 have h2:=kD (n:=r.start/86400) (by omega)
 refine⟨by omega,?_,h1.1,h2⟩
 rcases Int.lt_or_le (aK (r.start/86400)) 2 with h3|h3
 ·have:aK (r.start/86400)=1:=by omega
  rw[this] at h2
  have:aC (1+1)=365:=rfl
  omega
 ·exact h3
theorem nV {r:Ru} (h:WP r) (k:Nat):0≤dY r k:=by
 have h0:=kV h (Nat.zero_le k)
 have hs:=pR h
 have hst:=h.start
 have:0≤dY r 0:=by
  unfold dY
  by_cases hf:r.freq<4
  ·rw[if_pos hf]
   by_cases f1:r.freq=1
   ·rw[nT f1]
    have hd:=aED (n:=r.start/86400) (by omega)
    have e0:dA r 0=(aL (r.start/86400)).1-1:=by unfold dA;simp
    rw[e0]
    unfold oY
    have hb:=dG (y:=aK (r.start/86400)+((aL (r.start/86400)).1-1)/12) (by omega)
    have hm:=eX (aK (r.start/86400)+((aL (r.start/86400)).1-1)/12) (((aL (r.start/86400)).1-1)%12).toNat
    omega
   ·unfold aU
    rw[if_neg f1]
    by_cases f0:r.freq=0
    ·rw[if_pos f0]
     have hb:=dG (y:=bN r 0) (by unfold bN;rw[if_pos f0];simp;omega)
     have:bN r 0=aK (r.start/86400):=by unfold bN;rw[if_pos f0];simp
     omega
    ·rw[if_neg f0]
     have hw:=h.wkst
     split<;>simp<;>omega
  ·rw[if_neg hf]
   unfold bK
   rcases fK h hf with ⟨_,e⟩|⟨_,e⟩|⟨_,e⟩<;>rw[e]<;>simp<;>omega
 omega
theorem aHf {r:Ru} (h:WP r) {k:Nat} (hk:wC≤k):r.til<dY r k:=by
 have h1:=nA h 0 k
 have h2:=nV h 0
 have h3:=h.til
 unfold wC at hk
 rw[Nat.zero_add] at h1
 omega
theorem wD {r:Ru} {t:Int}:t∈times r↔∃h∈r.hour,∃m∈r.minute,∃s∈r.second,t=h*3600+m*60+s:=by
 unfold times
 simp only[List.mem_flatMap,List.mem_map,gJ]
 constructor
 ·rintro ⟨h,hh,m,hm,s,hs,rfl⟩;exact⟨h,hh,m,hm,s,hs,rfl⟩
 ·rintro ⟨h,hh,m,hm,s,hs,rfl⟩;exact⟨h,hh,m,hm,s,hs,rfl⟩
theorem oZ {r:Ru} (h:WP r):∀t∈times r,0≤t∧t<86400:=by
 intro t ht
 obtain⟨a,ha,b,hb,c,hc,rfl⟩:=wD.1 ht
 have:=h.hour a ha
 have:=h.minute b hb
 have:=h.second c hc
 omega
theorem aCV {r:Ru} (h:WP r):Asc (times r):=by
 unfold times
 refine lL (fun a=>a*3600) (fun a=>a*3600+3600) (kU _) (fun a ha=>?_) (fun a ha t ht=>?_) (fun a b _ _ hab=>by omega)
 ·refine lL (fun b=>a*3600+b*60) (fun b=>a*3600+b*60+60) (kU _) (fun b hb=>rX _ (kU _)) (fun b hb t ht=>?_) (fun b c _ _ hbc=>by omega)
  obtain⟨s,hs,rfl⟩:=List.mem_map.1 ht
  have:=h.second s (gJ.1 hs)
  omega
 ·obtain⟨b,hb,ht⟩:=List.mem_flatMap.1 ht
  obtain⟨s,hs,rfl⟩:=List.mem_map.1 ht
  have:=h.second s (gJ.1 hs)
  have:=h.minute b (gJ.1 hb)
  omega
theorem t9 {r:Ru} {k:Nat} {t:Int}:t∈kG r k↔∃n,aU r k≤n∧n≤bV r k∧eB r n=true∧∃u∈times r,t=n*86400+u:=by
 unfold kG
 simp only[List.mem_flatMap,List.mem_map,List.mem_filter,zM]
 constructor
 ·rintro ⟨n,⟨⟨h1,h2⟩,h3⟩,u,hu,rfl⟩;exact⟨n,h1,h2,h3,u,hu,rfl⟩
 ·rintro ⟨n,h1,h2,h3,u,hu,rfl⟩;exact⟨n,⟨⟨h1,h2⟩,h3⟩,u,hu,rfl⟩
theorem uA {r:Ru} (h:WP r) {l:List Int} (hl:Asc l):Asc (l.flatMap fun n=>(times r).map fun t=>n*86400+t):=by
 refine lL (fun n=>n*86400) (fun n=>n*86400+86400) hl (fun n _=>rX _ (aCV h)) (fun n _ t ht=>?_) (fun a b _ _ hab=>by omega)
 obtain⟨u,hu,rfl⟩:=List.mem_map.1 ht
 have:=oZ h u hu
 omega
theorem aH7 {r:Ru} (h:WP r) (k:Nat):Asc (kG r k):=uA h (gV _ (t7 _ _))
theorem aKe {r:Ru} (h:WP r) {k:Nat} {t:Int} (ht:t∈kG r k):aU r k*86400≤t∧t<(bV r k+1)*86400:=by
 obtain⟨n,h1,h2,_,u,hu,rfl⟩:=t9.1 ht
 have:=oZ h u hu
 omega
def fB (r:Ru) (t:Int):List Int:=if r.freq=4 then srt r.minute else [t%86400/60%60]
def fC (r:Ru) (t:Int):List Int:=if r.freq<6 then srt r.second else [t%86400%60]
theorem rY {r:Ru} {k:Nat} {t:Int}:t∈eU r k↔eB r (bK r k/86400)=true∧aY r.hour (bK r k%86400/3600)=true∧∃m∈fB r (bK r k),∃s∈fC r (bK r k),aY r.minute m=true∧aY r.second s=true∧t=bK r k/86400*86400+bK r k%86400/3600*3600+m*60+s:=by
 unfold eU
 simp only
 split
 ·rename_i hc
  rw[Bool.and_eq_true] at hc
  simp only[List.mem_flatMap,List.mem_map,List.mem_filter,Bool.and_eq_true]
  constructor
  ·rintro ⟨m,hm,s,⟨hs,h1,h2⟩,rfl⟩;exact⟨hc.1,hc.2,m,hm,s,hs,h1,h2,rfl⟩
  ·rintro ⟨_,_,m,hm,s,hs,h1,h2,rfl⟩;exact⟨m,hm,s,⟨hs,h1,h2⟩,rfl⟩
 ·rename_i hc
  constructor
  ·intro h;simp at h
  ·rintro ⟨h1,h2,_⟩
   rw[h1,h2] at hc
   exact absurd rfl hc
theorem rH {r:Ru} (h:WP r) (t:Int) (ht:0≤t):Asc (fB r t)∧∀m∈fB r t,0≤m∧m≤59:=by
 unfold fB
 split
 ·exact⟨kU _,fun m hm=>h.minute m (gJ.1 hm)⟩
 ·exact⟨by simp,by simp;omega⟩
theorem rI {r:Ru} (h:WP r) (t:Int) (ht:0≤t):Asc (fC r t)∧∀m∈fC r t,0≤m∧m≤59:=by
 unfold fC
 split
 ·exact⟨kU _,fun m hm=>h.second m (gJ.1 hm)⟩
 ·exact⟨by simp,by simp;omega⟩
theorem aFv {r:Ru} (h:WP r) (k:Nat) (ht:0≤bK r k):Asc (eU r k):=by
 have hm:=rH h (bK r k) ht
 have hs:=rI h (bK r k) ht
 unfold eU
 simp only
 split
 ·change Asc ((fB r (bK r k)).flatMap fun m=>((fC r (bK r k)).filter fun s=>aY r.minute m&&aY r.second s).map fun s=>bK r k/86400*86400+bK r k%86400/3600*3600+m*60+s)
  refine lL (fun b=>bK r k/86400*86400+bK r k%86400/3600*3600+b*60) (fun b=>bK r k/86400*86400+bK r k%86400/3600*3600+b*60+60) hm.1 (fun b _=>rX _ (gV _ hs.1)) (fun b _ t ht=>?_) (fun b c _ _ hbc=>by omega)
  obtain⟨s,hsm,rfl⟩:=List.mem_map.1 ht
  have:=hs.2 s (List.mem_filter.1 hsm).1
  omega
 ·exact List.Pairwise.nil
theorem nB {r:Ru} (h:WP r) (hf:¬r.freq<4) (k:Nat):0≤bK r k:=by
 have:=nV h k
 unfold dY at this
 rw[if_neg hf] at this
 exact this
theorem aKf {r:Ru} (h:WP r) (hf:¬r.freq<4) (k:Nat):bK r k%dV r=0:=by
 unfold bK;exact Int.mul_emod_left _ _
theorem aH8 {r:Ru} (h:WP r) (hf:¬r.freq<4) {k:Nat} {t:Int} (ht:t∈eU r k):bK r k≤t∧t<bK r k+dV r:=by
 have hp:=nB h hf k
 have hmod:=aKf h hf k
 obtain⟨_,_,m,hm,s,hs,_,_,rfl⟩:=rY.1 ht
 have h1:=(rH h _ hp).2 m hm
 have h2:=(rI h _ hp).2 s hs
 unfold fB at hm
 unfold fC at hs
 rcases fK h hf with ⟨f,e⟩|⟨f,e⟩|⟨f,e⟩
 ·rw[e] at hmod ⊢
  omega
 ·rw[e] at hmod ⊢
  rw[if_neg (by omega)] at hm
  simp at hm
  omega
 ·rw[e] at hmod ⊢
  rw[if_neg (by omega)] at hm hs
  simp at hm hs
  omega
def lU (r:Ru) (k:Nat):List Int:=if r.freq<4 then kG r k else eU r k
theorem aKg {r:Ru} (h:WP r) (k:Nat):Asc (lU r k):=by
 unfold lU
 split
 ·exact aH7 h k
 ·rename_i hf;exact aFv h k (nB h hf k)
theorem aLq {r:Ru} (h:WP r) {k:Nat} {t:Int} (ht:t∈lU r k):dY r k≤t∧t<rG r k:=by
 unfold lU at ht
 unfold dY rG
 split at ht
 ·rename_i hf
  rw[if_pos hf,if_pos hf]
  exact aKe h ht
 ·rename_i hf
  rw[if_neg hf,if_neg hf]
  exact aH8 h hf ht
theorem aBa {l pos:List Int} {t:Int} (h:t∈dU l pos):t∈l:=by
 unfold dU at h
 split at h
 ·exact h
 ·obtain⟨i,hi,rfl⟩:=List.mem_map.1 h
  have:=List.mem_range.1 (List.mem_filter.1 hi).1
  rw[List.getD_eq_getElem?_getD,List.getElem?_eq_getElem this]
  exact List.getElem_mem _
theorem pS {l:List Int} (hl:Asc l) (pos:List Int):Asc (dU l pos):=by
 unfold dU
 split
 ·exact hl
 ·refine List.pairwise_map.2 (List.Pairwise.imp_of_mem ?_ (List.pairwise_lt_range.filter _))
  intro i j hi hj hij
  have h1:=List.mem_range.1 (List.mem_filter.1 hi).1
  have h2:=List.mem_range.1 (List.mem_filter.1 hj).1
  rw[List.getD_eq_getElem?_getD,List.getElem?_eq_getElem h1,List.getD_eq_getElem?_getD,List.getElem?_eq_getElem h2]
  exact aKd hl h1 h2 hij
theorem nW (r:Ru) (k:Nat):dN r k=dU (lU r k) r.setPos:=rfl
theorem nX {r:Ru} (h:WP r) (k:Nat):Asc (dN r k):=pS (aKg h k) _
theorem jE {r:Ru} (h:WP r) {k:Nat} {t:Int} (ht:t∈dN r k):dY r k≤t∧t<rG r k:=aLq h (aBa ht)
theorem nY {r:Ru} {l:List Int} {t:Int}:t∈keep r l↔t∈l∧r.start≤t∧t≤r.til:=by
 unfold keep
 rw[List.mem_filter,Bool.and_eq_true,decide_eq_true_eq,decide_eq_true_eq]
theorem uB {r:Ru} {k n:Nat} {t:Int}:t∈iG r k n↔r.start≤t∧t≤r.til∧∃j,k≤j∧j<k+n∧t∈dN r j:=by
 unfold iG
 simp only[List.mem_flatMap,List.mem_range'_1,nY]
 constructor
 ·rintro ⟨j,hj,h1,h2,h3⟩;exact⟨h2,h3,j,hj.1,hj.2,h1⟩
 ·rintro ⟨h2,h3,j,hj,hj2,h1⟩;exact⟨j,⟨hj,hj2⟩,h1,h2,h3⟩
theorem zN {r:Ru} (h:WP r) (k:Nat):∀n,Asc (iG r k n)
 |0=>List.Pairwise.nil
 |n+1=>by
  have e:iG r k (n+1)=iG r k n++keep r (dN r (k+n)):=by
   unfold iG
   rw[List.range'_1_concat,List.flatMap_append]
   simp
  rw[e]
  refine List.pairwise_append.2 ⟨zN h k n,gV _ (nX h _),fun a ha b hb=>?_⟩
  obtain⟨_,_,j,_,hj,ha⟩:=uB.1 ha
  have h1:=jE h ha
  have h2:=jE h (nY.1 hb).1
  have h3:=sU h j
  have h4:=kV h (show j+1≤k+n by omega)
  omega
def rest (r:Ru) (k:Nat):List Int:=iG r k (wC-k)
theorem aCW (r:Ru):rest r 0=gE r:=rfl
theorem uC {r:Ru} (h:WP r) (k:Nat):Asc (rest r k):=zN h k _
theorem mA {r:Ru} (h:WP r) {k:Nat} {t:Int}:t∈rest r k↔r.start≤t∧t≤r.til∧∃j,k≤j∧t∈dN r j:=by
 unfold rest
 rw[uB]
 constructor
 ·rintro ⟨h1,h2,j,hj,_,h3⟩;exact⟨h1,h2,j,hj,h3⟩
 ·rintro ⟨h1,h2,j,hj,h3⟩
  refine⟨h1,h2,j,hj,?_,h3⟩
  have h4:=jE h h3
  rcases Nat.lt_or_ge j wC with h5|h5
  ·omega
  ·have:=aHf h h5;omega
theorem jI {r:Ru} (h:WP r) (k:Nat):rest r k=keep r (dN r k)++rest r (k+1):=by
 refine Asc.ext (uC h k) ?_ fun t=>?_
 ·refine List.pairwise_append.2 ⟨gV _ (nX h k),uC h _,fun a ha b hb=>?_⟩
  obtain⟨_,_,j,hj,hb⟩:=(mA h).1 hb
  have h1:=jE h hb
  have h2:=jE h (nY.1 ha).1
  have h3:=sU h k
  have h4:=kV h hj
  omega
 ·rw[List.mem_append,mA h,mA h,nY]
  constructor
  ·rintro ⟨h1,h2,j,hj,h3⟩
   rcases Nat.eq_or_lt_of_le hj with e|e
   ·subst e;exact .inl ⟨h3,h1,h2⟩
   ·exact .inr ⟨h1,h2,j,e,h3⟩
  ·rintro (⟨h3,h1,h2⟩|⟨h1,h2,j,hj,h3⟩)
   ·exact⟨h1,h2,k,Nat.le_refl _,h3⟩
   ·exact⟨h1,h2,j,by omega,h3⟩
theorem nZ {r:Ru} (h:WP r) {k:Nat} (hk:r.til<dY r k):rest r k=[]:=by
 rw[List.eq_nil_iff_forall_not_mem]
 intro t ht
 obtain⟨_,h2,j,hj,h3⟩:=(mA h).1 ht
 have:=jE h h3
 have:=kV h hj
 omega
theorem aCX {r:Ru} (h:WP r) {k:Nat} {t:Int} (ht:t∈dN r k) (h2:r.til<t):rest r (k+1)=[]:=by
 refine nZ h ?_
 have:=jE h ht
 have:=sU h k
 omega
theorem aCY {r:Ru} (h:WP r) {k:Nat}:∀n:Nat,(∀j,k≤j→j<k+n→dN r j=[])→rest r k=rest r (k+n)
 |0,_=>rfl
 |n+1,hn=>by
  rw[aCY h n fun j h1 h2=>hn j h1 (by omega),jI h (k+n),hn (k+n) (by omega) (by omega)]
  rfl
theorem aH9 {r:Ru} (h:WP r) {t:Int}:t∈gE r↔r.start≤t∧t≤r.til∧∃j,t∈dN r j:=by
 rw[←aCW,mA h]
 constructor
 ·rintro ⟨a,b,j,_,c⟩;exact⟨a,b,j,c⟩
 ·rintro ⟨a,b,j,c⟩;exact⟨a,b,j,Nat.zero_le _,c⟩
theorem aIa {r:Ru} (h:WP r):Asc (gE r):=uC h 0
theorem zO {r:Ru} (h:iC r):WP (whole r):=by
 have hs:=h.start
 have hi:=h.interval
 refine⟨h.freq,h.start,?_,h.wkst,?_,?_,?_,?_⟩
 ·show 1≤max 1 r.interval∧max 1 r.interval≤1000
  omega
 ·show r.start≤(if r.hasUntil=true then r.til else r.start+9223372036)∧(if r.hasUntil=true then r.til else r.start+9223372036)<315537897600
  split
  ·rename_i hu;exact h.til hu
  ·omega
 ·intro x hx
  have hx:x∈(if r.hour=[]∧r.freq<4 then [r.start%86400/3600] else r.hour):=hx
  split at hx
  ·simp at hx;omega
  ·have:=(cO h.hour).2.1 x hx;omega
 ·intro x hx
  have hx:x∈(if r.minute=[]∧r.freq<5 then [r.start%86400/60%60] else r.minute):=hx
  split at hx
  ·simp at hx;omega
  ·have:=(cO h.minute).2.1 x hx;omega
 ·intro x hx
  have hx:x∈(if r.second=[]∧r.freq<6 then [r.start%86400%60] else r.second):=hx
  split at hx
  ·simp at hx;omega
  ·have:=(cO h.second).2.1 x hx;omega
def bR (y m d:Int):Int:=aC y+bA y (m-1).toNat+d-1
theorem kJ (y:Int):∀{j k:Nat},j≤k→bA y j≤bA y k
 |j,0,h=>by rw[show j=0 by omega];omega
 |j,k+1,h=>by
  rcases Nat.eq_or_lt_of_le h with e|e
  ·rw[e];omega
  ·have:=kJ y (show j≤k by omega)
   have:=bP y (k+1)
   simp only[bA];omega
theorem mB {y m d:Int} (hm:1≤m∧m≤12) (hd:1≤d∧d≤aO y m):aC y≤bR y m d∧bR y m d<aC (y+1):=by
 have h0:(0:Int)≤bA y (m-1).toNat:=by have:=eX y (m-1).toNat;omega
 have h1:bA y ((m-1).toNat+1)=bA y (m-1).toNat+aO y (((m-1).toNat:Int)+1):=rfl
 rw[show (((m-1).toNat:Int))+1=m by omega] at h1
 have h2:=kJ y (show (m-1).toNat+1≤12 by omega)
 have h3:=sS y
 have h4:=dQ y
 unfold cQ at h3
 unfold bR
 omega
theorem aBb (y:Int) (hy:True):∀(j k:Nat) (m d:Int),1≤d→d≤aO y (m+j)→j<k→eK y k m (d+(bA y (m-1+j).toNat-bA y (m-1).toNat))=(m+j,d)∨m<1
 |0,k+1,m,d,h1,h2,_=>by
  left
  rw[eK,show m-1+((0:Nat):Int)=m-1 by simp,if_neg]
  ·simp
  ·simp at h2 ⊢;omega
 |j+1,k+1,m,d,h1,h2,hk=>by
  rcases Int.lt_or_le m 1 with hm|hm
  ·exact .inr hm
  ·left
   have e1:bA y (m-1+1).toNat=bA y (m-1).toNat+aO y m:=by
    have e2:bA y ((m-1).toNat+1)=bA y (m-1).toNat+aO y (((m-1).toNat:Int)+1):=rfl
    rw[show (m-1+1).toNat=(m-1).toNat+1 by omega,e2,show (((m-1).toNat:Int))+1=m by omega]
   have e3:=kJ y (show (m-1+1).toNat≤(m-1+((j+1:Nat):Int)).toNat by omega)
   have ih:=aBb y hy j k (m+1) d h1 (by rw[show m+1+(j:Int)=m+((j+1:Nat):Int) by omega];exact h2) (by omega)
   rw[eK,if_pos (by omega)]
   have e4:d+(bA y (m-1+((j+1:Nat):Int)).toNat-bA y (m-1).toNat)-aO y m=d+(bA y (m+1-1+(j:Int)).toNat-bA y (m+1-1).toNat):=by
    rw[show m+1-1+(j:Int)=m-1+((j+1:Nat):Int) by omega,show m+1-1=m-1+1 by omega,e1];omega
   rw[e4]
   rcases ih with ih|ih
   ·rw[ih];congr 1;omega
   ·omega
theorem aIb {y m d:Int} (hy:1≤y) (hm:1≤m∧m≤12) (hd:1≤d∧d≤aO y m):aK (bR y m d)=y∧aL (bR y m d)=(m,d):=by
 have h1:=mB (y:=y) hm hd
 have h2:=dG hy
 have e1:=iX (n:=bR y m d) (by omega) hy h1.1 h1.2
 refine⟨e1,?_⟩
 unfold aL
 rw[e1]
 have h3:=aBb y trivial (m-1).toNat 400 1 d hd.1 (by rw[show (1:Int)+((m-1).toNat:Int)=m by omega];exact hd.2) (by omega)
 have e2:bR y m d-aC y+1=d+(bA y ((1:Int)-1+((m-1).toNat:Int)).toNat-bA y ((1:Int)-1).toNat):=by
  unfold bR
  have:bA y ((1:Int)-1).toNat=0:=rfl
  rw[this,show (1:Int)-1+((m-1).toNat:Int)=m-1 by omega]
  omega
 rw[e2]
 rcases h3 with h3|h3
 ·rw[h3];congr 1;omega
 ·omega
theorem gO {n:Int} (h:0≤n):1≤(aL n).1∧(aL n).1≤12∧1≤(aL n).2∧(aL n).2≤aO (aK n) (aL n).1∧bR (aK n) (aL n).1 (aL n).2=n:=by
 have hy:=eW h
 have hl:=kD h
 have hb:=dB (aK n) hy.2.1
 obtain⟨m,d,_,h2,_,_,_,h6,h7,h8,h9⟩:=xH hy.2.1 (i:=(n-aC (aK n)).toNat) (by omega)
 have e:aC (aK n)+((n-aC (aK n)).toNat:Int)=n:=by omega
 rw[e] at h2
 have hd:=aED h
 rw[h2] at hd ⊢
 have hr:∀lp:Bool,∀k:Nat,k≤12→(eI lp)[k]?=some (if lp then [0,31,60,91,121,152,182,213,244,274,305,335,366].getD k 0 else [0,31,59,90,120,151,181,212,243,273,304,334,365].getD k 0):=by
  intro lp k hk
  have:([true,false].all fun lp=>(List.range 13).all fun k=>decide ((eI lp)[k]?=some (if lp then [0,31,60,91,121,152,182,213,244,274,305,335,366].getD k 0 else [0,31,59,90,120,151,181,212,243,273,304,334,365].getD k 0)))=true:=by kernel_rfl
  exact odT (List.all_eq_true.1 (List.all_eq_true.1 this lp (by cases lp<;>simp)) k (List.mem_range.2 (by omega)))
 have ms:∀k:Nat,k≤12→(eI (aR (aK n)))[k]?=some (bA (aK n) k):=by
  intro k hk
  rw[hr _ k hk]
  have hcase:k=0∨k=1∨k=2∨k=3∨k=4∨k=5∨k=6∨k=7∨k=8∨k=9∨k=10∨k=11∨k=12:=by omega
  cases hlp:aR (aK n)<;>rcases hcase with rfl|rfl|rfl|rfl|rfl|rfl|rfl|rfl|rfl|rfl|rfl|rfl|rfl<;>simp[bA,aO,hlp]
 have e1:=ms (m-1).toNat (by omega)
 have e2:=ms m.toNat (by omega)
 rw[h8] at e1
 rw[h9] at e2
 have e1:=Option.some.inj e1
 have e2:=Option.some.inj e2
 refine⟨h6,h7,hd.2.2.1,?_,?_⟩
 ·
  have h3:aL n=eK (aK n) 400 1 (n-aC (aK n)+1):=rfl
  rcases Int.lt_or_le (aO (aK n) m) d with hlt|hle
  ·exfalso
   obtain⟨m',d',_,h2',_,_,h5',_,_,_,_⟩:=xH hy.2.1 (i:=(n-aC (aK n)).toNat) (by omega)
   rw[e,h2] at h2'
   cases h2'
   have hneg:([true,false].all fun lp=>(rE lp).all fun x=>decide (x≤-1))=true:=by kernel_rfl
   have:=odT (List.all_eq_true.1 (List.all_eq_true.1 hneg (aR (aK n)) (by cases aR (aK n)<;>simp)) _ (List.mem_of_getElem? h5'))
   omega
  ·exact hle
 ·show aC (aK n)+bA (aK n) (m-1).toNat+d-1=n
  omega
structure GP (r:Ru):Prop extends WP r where
 month:∀n∈r.month,1≤n∧n≤12
 monthDay:∀n∈r.monthDay,-31≤n∧n≤31∧n≠0
 yearDay:∀n∈r.yearDay,-366≤n∧n≤366∧n≠0
 weekNo:∀n∈r.weekNo,-51≤n∧n≤51∧n≠0
 easter:∀n∈r.easter,-80≤n∧n≤80
 setPos:∀n∈r.setPos,-366≤n∧n≤366∧n≠0
 day:∀d∈r.day,0≤d.1∧d.1≤6∧-53≤d.2∧d.2≤53
 dayMonth:(r.freq=1∨r.month≠[])→∀d∈r.day,-5≤d.2∧d.2≤5
 dayPlain:1<r.freq→∀d∈r.day,d.2=0
 dayKind:(∀d∈r.day,d.2=0)∨(∀d∈r.day,d.2≠0)
 weekYear:r.weekNo≠[]→r.freq=0
 easterYear:r.easter≠[]→r.freq=0
 monthDayWeek:r.freq=2→r.monthDay=[]
 yearDayFreq:(r.freq=1∨r.freq=2∨r.freq=3)→r.yearDay=[]
 hours:r.freq<4→r.hour≠[]
 minutes:r.freq<5→r.minute≠[]
 seconds:r.freq<6→r.second≠[]
 small:4≤r.freq→r.setPos=[]∧r.interval≤24
 weekPos:r.freq=2→r.setPos≠[]→r.start/86400%7=r.wkst
 lens:r.setPos.length≤12∧r.month.length≤12∧r.monthDay.length≤12∧r.yearDay.length≤12∧r.weekNo.length≤12∧r.day.length≤12∧r.hour.length≤12∧r.minute.length≤12∧r.second.length≤12∧r.easter.length≤12
 nodup:r.hour.Nodup∧r.minute.Nodup∧r.second.Nodup
 many:r.freq<4→r.hour.length*r.minute.length*r.second.length≤60
 manyH:r.freq=4→r.minute.length*r.second.length≤60
theorem aEH:([true,false].all fun lp=>(List.range 7).all fun j=>decide ((rD lp)[aM lp+j]?=some 1)&&decide ((v7 lp)[aM lp+j]?=some ((j:Int)+1))&&decide ((rE lp)[aM lp+j]?=some ((j:Int)-31))&&decide ((rD lp)[j]?=some 1)&&decide ((v7 lp)[j]?=some ((j:Int)+1)))=true:=by kernel_rfl
theorem aLr {y:Int} (hy:1≤y) {i:Nat} (hi:i<aM (aR y)+7):(rD (aR y))[i]?=some (aL (aC y+i)).1∧(v7 (aR y))[i]?=some (aL (aC y+i)).2∧(rE (aR y))[i]?=some ((aL (aC y+i)).2-aO (aK (aC y+i)) (aL (aC y+i)).1-1):=by
 by_cases h:i<aM (aR y)
 ·obtain⟨m,d,h1,h2,h3,h4,h5,_⟩:=xH hy h
  rw[h1,h2]
  exact⟨h3,h4,h5⟩
 ·obtain⟨j,rfl⟩:∃j,i=aM (aR y)+j:=⟨i-aM (aR y),by omega⟩
  have hj:j<7:=by omega
  have hb:=dB y hy
  have e:aC y+((aM (aR y)+j:Nat):Int)=aC (y+1)+(j:Int):=by omega
  have hjy:j<aM (aR (y+1)):=by cases aR (y+1)<;>simp[aM]<;>omega
  obtain⟨m,d,h1,h2,h3,h4,h5,_⟩:=xH (y:=y+1) (by omega) hjy
  have ht:=List.all_eq_true.1 (List.all_eq_true.1 aEH (aR y) (by cases aR y<;>simp)) j (List.mem_range.2 hj)
  have ht':=List.all_eq_true.1 (List.all_eq_true.1 aEH (aR (y+1)) (by cases aR (y+1)<;>simp)) j (List.mem_range.2 hj)
  simp only[Bool.and_eq_true,decide_eq_true_eq] at ht ht'
  rw[ht'.1.2] at h3
  rw[ht'.2] at h4
  obtain rfl:=Option.some.inj h3
  obtain rfl:=Option.some.inj h4
  rw[e,h1,h2]
  refine⟨ht.1.1.1.1,ht.1.1.1.2,?_⟩
  rw[ht.1.1.2]
  have:aO (y+1) 1=31:=by simp[aO]
  simp only[this]
  congr 1;omega
theorem aKh (l:List Int) (d:Int) (h:0<d):(l.filter fun n=>decide (0<n)).contains d=l.contains d:=by
 rw[Bool.eq_iff_iff,List.contains_iff_mem,List.contains_iff_mem,List.mem_filter]
 exact⟨fun h=>h.1,fun h'=>⟨h',by simpa using h⟩⟩
theorem aKi (l:List Int) (d:Int) (h:d<0):(l.filter fun n=>decide (n<0)).contains d=l.contains d:=by
 rw[Bool.eq_iff_iff,List.contains_iff_mem,List.contains_iff_mem,List.mem_filter]
 exact⟨fun h=>h.1,fun h'=>⟨h',by simpa using h⟩⟩
def mC (r:Ru):List Int:=r.monthDay.filter fun n=>decide (0<n)
def jS (r:Ru):List Int:=r.monthDay.filter fun n=>decide (n<0)
def nC (r:Ru) (d:Int×Int):Bool:=decide (d.2=0)||decide (1<r.freq)
def iZ (r:Ru):List Int:=(r.day.filter (nC r)).map (·.1)
def cX (r:Ru):List (Int×Int):=r.day.filter fun d=>!nC r d
def rZ (r:Ru) (y:Int) (i:Nat):Bool:=
 (decide ((i:Int)<dH (aC y%7) r.wkst)&&r.weekNo.contains (-1)) ||
 (decide (dH (aC y%7) r.wkst≤i)&&decide (aC y+i<fw r.wkst (y+1))&&(r.weekNo.contains (((i:Int)-dH (aC y%7) r.wkst)/7+1)||r.weekNo.contains (((i:Int)-dH (aC y%7) r.wkst)/7+1-(fw r.wkst (y+1)-fw r.wkst y)/7-1))) ||
 (decide (fw r.wkst (y+1)≤aC y+i)&&r.weekNo.contains 1)
def oL (wd first last:Int) (x:Int×Int):Int:=
 if x.2<0 then last+(x.2+1)*7-((wd+(last+(x.2+1)*7))%7-x.1)%7 else first+(x.2-1)*7+(7-(wd+(first+(x.2-1)*7))%7+x.1)%7
def jF (r:Ru) (y mo:Int):List (Int×Int):=
 if r.freq=0 then (if r.month=[] then [(0,(aM (aR y):Int))] else r.month.map fun m=>(bA y (m-1).toNat,bA y m.toNat)) else [(bA y (mo-1).toNat,bA y mo.toNat)]
def nwB (r:Ru) (y mo:Int) (i:Nat):Bool:=(jF r y mo).any fun g=>(cX r).any fun x=>decide (g.1≤i)&&decide ((i:Int)≤g.2-1)&&decide ((i:Int)=oL (aC y%7) g.1 (g.2-1) x)
def dZ (r:Ru) (y mo:Int) (i:Nat):Bool:=
 aY r.month (aL (aC y+i)).1&&(r.weekNo.isEmpty||rZ r y i)&&((iZ r).isEmpty||(iZ r).contains ((aC y%7+i)%7))&&((cX r).isEmpty||nwB r y mo i)&&(r.easter.isEmpty||r.easter.contains (i-(cS y-aC y))) &&
 (((mC r).isEmpty&&(jS r).isEmpty)||(mC r).contains (aL (aC y+i)).2||(jS r).contains ((aL (aC y+i)).2-aO (aK (aC y+i)) (aL (aC y+i)).1-1)) &&
 (r.yearDay.isEmpty||r.yearDay.contains ((i:Int)+1)||r.yearDay.contains ((i:Int)-aM (aR y)))
theorem lV {α:Type} {l:List α} (h:l≠[]):l.isEmpty=false:=by cases l<;>simp_all
theorem aIc {r:Ru} (h:GP r) {d all:Int} (hd:1≤d∧d≤all):(((mC r).isEmpty&&(jS r).isEmpty)||(mC r).contains d||(jS r).contains (d-all-1))=eS r.monthDay d all:=by
 unfold mC jS eS
 rw[aKh _ _ (by omega),aKi _ _ (by omega)]
 congr 2
 cases hl:r.monthDay with
 |nil=>rfl
 |cons n l=>
  have hn:=h.monthDay n (by rw[hl];exact List.mem_cons_self ..)
  rcases Int.lt_or_lt_of_ne hn.2.2 with e|e
  ·rw[List.filter_cons_of_pos (p:=fun n=>decide (n<0)) (by simpa using e)]
   simp
  ·rw[List.filter_cons_of_pos (p:=fun n=>decide (0<n)) (by simpa using e)]
   simp
theorem aKj {r:Ru} (h:GP r) {y:Int} (hy:2≤y) {i:Nat} (hi:i<aM (aR y)):(r.weekNo.isEmpty||rZ r y i)=eS r.weekNo (wno r.wkst y (aC y+i)) (rW r.wkst y (aC y+i)):=by
 unfold eS
 rw[Bool.or_assoc]
 congr 1
 have:=aH6 (wkst:=r.wkst) (y:=y) (l:=r.weekNo) (fun n hn=>by have:=h.weekNo n hn;omega) hy hi
 rw[Bool.eq_iff_iff,Bool.or_eq_true,List.contains_iff_mem,List.contains_iff_mem,this]
 unfold rZ
 simp only[Bool.or_eq_true,Bool.and_eq_true,decide_eq_true_eq,List.contains_iff_mem]
 constructor
 ·rintro ((⟨a,b⟩|⟨⟨a,b⟩,c⟩)|⟨a,b⟩)
  ·exact .inl ⟨a,b⟩
  ·exact .inr (.inl ⟨a,b,c⟩)
  ·exact .inr (.inr ⟨a,b⟩)
 ·rintro (⟨a,b⟩|⟨a,b,c⟩|⟨a,b⟩)
  ·exact .inl (.inl ⟨a,b⟩)
  ·exact .inl (.inr ⟨⟨a,b⟩,c⟩)
  ·exact .inr ⟨a,b⟩
theorem aKk {wd first last j:Int} {x:Int×Int} (hw:0≤x.1∧x.1≤6) (hx:x.2≠0) (hf:first≤j) (hl:j≤last):j=oL wd first last x↔(wd+j)%7=x.1∧((j-first)/7+1=x.2∨-((last-j)/7+1)=x.2):=by
 unfold oL
 split
 ·rename_i hn
  rw[aPg (c:=wd) hw hl (by omega)]
  constructor
  ·rintro ⟨a,b⟩;exact⟨a,.inr b⟩
  ·rintro ⟨a,b|b⟩
   ·omega
   ·exact⟨a,b⟩
 ·rw[aPf (c:=wd) hw hf (by omega)]
  constructor
  ·rintro ⟨a,b⟩;exact⟨a,.inl b⟩
  ·rintro ⟨a,b|b⟩
   ·exact⟨a,b⟩
   ·omega
theorem uD {y:Int} (hy:1≤y) {i:Nat} (hi:i<aM (aR y)) {m:Int} (hm:1≤m∧m≤12):(bA y (m-1).toNat≤i∧(i:Int)≤bA y m.toNat-1)↔(aL (aC y+i)).1=m:=by
 have hb:=dB y hy
 have hbb:=dG hy
 have hyo:aK (aC y+i)=y:=iX (by omega) hy (by omega) (by omega)
 obtain⟨a1,a2,a3,a4,a5⟩:=gO (n:=aC y+i) (by omega)
 rw[hyo] at a4 a5
 have e:bA y ((aL (aC y+i)).1).toNat=bA y ((aL (aC y+i)).1-1).toNat+aO y (aL (aC y+i)).1:=by
  have e2:bA y (((aL (aC y+i)).1-1).toNat+1)=bA y ((aL (aC y+i)).1-1).toNat+aO y ((((aL (aC y+i)).1-1).toNat:Int)+1):=rfl
  rw[show (aL (aC y+i)).1.toNat=((aL (aC y+i)).1-1).toNat+1 by omega,e2,show (((((aL (aC y+i)).1-1).toNat:Nat)):Int)+1=(aL (aC y+i)).1 by omega]
 unfold bR at a5
 generalize (aL (aC y+i)).1=M at *
 generalize (aL (aC y+i)).2=D at *
 constructor
 ·rintro ⟨h1,h2⟩
  rcases Int.lt_trichotomy M m with h|h|h
  ·have:=kJ y (show M.toNat≤(m-1).toNat by omega);omega
  ·exact h
  ·have:=kJ y (show m.toNat≤(M-1).toNat by omega);omega
 ·rintro rfl
  omega
theorem aLs {r:Ru} (h:GP r) {y mo:Int} (hy:2≤y) {i:Nat} (hi:i<aM (aR y)+7) (hlate:r.freq≠2→i<aM (aR y)) (hmo:r.freq=1→1≤mo∧mo≤12∧(aL (aC y+i)).1=mo) (ham:aY r.month (aL (aC y+i)).1=true) :
  (((iZ r).isEmpty||(iZ r).contains ((aC y%7+i)%7))&&((cX r).isEmpty||nwB r y mo i))=(r.day.isEmpty||r.day.any (jR r (aC y+i) (aK (aC y+i)) (aL (aC y+i)).1 (aL (aC y+i)).2)):=by
 have hmod:(aC y%7+i)%7=(aC y+i)%7:=by omega
 rw[hmod]
 cases hday:r.day with
 |nil=>simp[iZ,cX,hday]
 |cons d0 l0=>
  rw[←hday]
  have hne:r.day≠[]:=by rw[hday];simp
  rw[lV hne,Bool.false_or]
  by_cases hpl:∀d∈r.day,d.2=0
  ·have hall:∀d∈r.day,nC r d=true:=fun d hd=>by unfold nC;rw[dcT (hpl d hd)];rfl
   have e1:cX r=[]:=List.filter_eq_nil_iff.2 fun d hd=>by simp[hall d hd]
   have e2:iZ r=r.day.map (·.1):=by unfold iZ;rw[List.filter_eq_self.2 hall]
   rw[e1,e2]
   have e3:(r.day.map (·.1)).isEmpty=false:=lV (by rw[hday];simp)
   rw[e3,Bool.false_or]
   simp only[List.isEmpty_nil,Bool.true_or,Bool.and_true]
   rw[Bool.eq_iff_iff,List.contains_iff_mem,List.mem_map,List.any_eq_true]
   constructor
   ·rintro ⟨d,hd,he⟩
    refine⟨d,hd,?_⟩
    unfold jR
    rw[dcT he.symm,dcT (hpl d hd)];rfl
   ·rintro ⟨d,hd,he⟩
    unfold jR at he
    rw[Bool.and_eq_true] at he
    exact⟨d,hd,(odT he.1).symm⟩
  ·have hnum:=h.dayKind.resolve_left hpl
   have hf:¬1<r.freq:=fun hf=>hpl (h.dayPlain hf)
   have hall:∀d∈r.day,nC r d=false:=fun d hd=>by unfold nC;rw[dcF (hnum d hd),dcF hf];rfl
   have e1:iZ r=[]:=by unfold iZ;rw[List.filter_eq_nil_iff.2 fun d hd=>by simp[hall d hd]];rfl
   have e2:cX r=r.day:=List.filter_eq_self.2 fun d hd=>by simp[hall d hd]
   have hil:=hlate (by omega)
   have hb:=dB y (by omega)
   have hbb:=dG (y:=y) (by omega)
   have hyo:aK (aC y+i)=y:=iX (by omega) (by omega) (by omega) (by omega)
   obtain⟨a1,a2,a3,a4,a5⟩:=gO (n:=aC y+i) (by omega)
   rw[hyo] at a4 a5 ⊢
   rw[e1]
   simp only[List.isEmpty_nil,Bool.true_or,Bool.true_and]
   rw[show (cX r).isEmpty=false by rw[e2];exact lV hne,Bool.false_or]
   unfold nwB
   rw[e2]
   have key:∀first last:Int,first≤i→(i:Int)≤last-1→(∀x∈r.day,jR r (aC y+i) y (aL (aC y+i)).1 (aL (aC y+i)).2 x=(decide ((aC y+i)%7=x.1)&&(decide (((i:Int)-first)/7+1=x.2)||decide (-((last-1-i)/7+1)=x.2))))→(r.day.any fun x=>decide (first≤i)&&decide ((i:Int)≤last-1)&&decide ((i:Int)=oL (aC y%7) first (last-1) x))=r.day.any (jR r (aC y+i) y (aL (aC y+i)).1 (aL (aC y+i)).2):=by
    intro first last hf1 hl1 hon
    rw[Bool.eq_iff_iff,List.any_eq_true,List.any_eq_true]
    have one:∀x∈r.day,(decide (first≤(i:Int))&&decide ((i:Int)≤last-1)&&decide ((i:Int)=oL (aC y%7) first (last-1) x))=true↔jR r (aC y+i) y (aL (aC y+i)).1 (aL (aC y+i)).2 x=true:=by
     intro x hx
     have hw:=h.day x hx
     rw[hon x hx,dcT hf1,dcT hl1,Bool.true_and,Bool.true_and,decide_eq_true_eq,aKk ⟨hw.1,hw.2.1⟩ (hnum x hx) hf1 hl1,Bool.and_eq_true,Bool.or_eq_true,decide_eq_true_eq,decide_eq_true_eq,decide_eq_true_eq,hmod]
    exact⟨fun ⟨x,hx,e⟩=>⟨x,hx,(one x hx).1 e⟩,fun ⟨x,hx,e⟩=>⟨x,hx,(one x hx).2 e⟩⟩
   have hyl:cQ y=(aM (aR y):Int):=by unfold cQ;cases aR y<;>rfl
   have byMonth:∀m:Int,(aL (aC y+i)).1=m→(¬(r.freq=0∧r.month=[]))→∀x∈r.day,jR r (aC y+i) y (aL (aC y+i)).1 (aL (aC y+i)).2 x=(decide ((aC y+i)%7=x.1)&&(decide (((i:Int)-bA y (m-1).toNat)/7+1=x.2)||decide (-((bA y m.toNat-1-i)/7+1)=x.2))):=by
    intro m hm hnot x hx
    unfold jR
    rw[if_neg hnot,dcF (hnum x hx),Bool.false_or]
    unfold bR at a5
    have e:bA y m.toNat=bA y (m-1).toNat+aO y m:=by
     have e2:bA y ((m-1).toNat+1)=bA y (m-1).toNat+aO y (((m-1).toNat:Int)+1):=rfl
     rw[show m.toNat=(m-1).toNat+1 by omega,e2,show (((m-1).toNat:Nat):Int)+1=m by omega]
    rw[hm] at a5 ⊢
    rw[show (aL (aC y+i)).2-1=(i:Int)-bA y (m-1).toNat by omega,show aO y m-(aL (aC y+i)).2=bA y m.toNat-1-i by omega]
   by_cases f0:r.freq=0
   ·by_cases hm:r.month=[]
    ·unfold jF
     rw[if_pos f0,if_pos hm]
     simp only[List.any_cons,List.any_nil,Bool.or_false]
     refine key 0 _ (by omega) (by omega) fun x hx=>?_
     unfold jR
     rw[if_pos ⟨f0,hm⟩,dcF (hnum x hx),Bool.false_or,hyl]
     rw[show aC y+(i:Int)-aC y=(i:Int)-0 by omega,show (aM (aR y):Int)-((i:Int)-0+1)=aM (aR y)-1-i by omega]
    ·unfold jF
     rw[if_pos f0,if_neg hm]
     have hmem:(aL (aC y+i)).1∈r.month:=by
      unfold aY at ham
      rw[lV hm,Bool.false_or] at ham
      exact List.contains_iff_mem.1 ham
     have hin:=(uD (y:=y) (by omega) hil (m:=(aL (aC y+i)).1) ⟨a1,a2⟩).2 rfl
     rw[←key _ _ hin.1 hin.2 (byMonth _ rfl fun hh=>hm hh.2)]
     rw[List.any_map,Bool.eq_iff_iff,List.any_eq_true]
     constructor
     ·rintro ⟨m,hmm,hx⟩
      have hx':=hx
      simp only[Function.comp] at hx'
      obtain⟨x,hx1,hx2⟩:=List.any_eq_true.1 hx'
      simp only[Bool.and_eq_true,decide_eq_true_eq] at hx2
      have hm':=(uD (y:=y) (by omega) hil (h.month m hmm)).1 ⟨hx2.1.1,hx2.1.2⟩
      rw[hm']
      exact hx
     ·intro hx
      exact⟨_,hmem,hx⟩
   ·have f1:r.freq=1:=by omega
    obtain⟨b1,b2,b3⟩:=hmo f1
    unfold jF
    rw[if_neg f0]
    simp only[List.any_cons,List.any_nil,Bool.or_false]
    have hin:=(uD (y:=y) (by omega) hil ⟨b1,b2⟩).2 b3
    exact key _ _ hin.1 hin.2 (byMonth mo b3 fun hh=>f0 hh.1)
theorem aEI {r:Ru} (h:GP r) {y mo:Int} (hy:2≤y) {i:Nat} (hi:i<aM (aR y)+7) (hlate:r.freq≠2→i<aM (aR y)) (hmo:r.freq=1→1≤mo∧mo≤12∧(aL (aC y+i)).1=mo) :
  dZ r y mo i=eB r (aC y+i):=by
 have hb:=dB y (by omega)
 have hbb:=dG (y:=y) (by omega)
 obtain⟨a1,a2,a3,a4,a5⟩:=gO (n:=aC y+i) (by omega)
 unfold eB sR dZ
 cases ham:aY r.month (aL (aC y+i)).1 with
 |false=>rfl
 |true=>
  have hd:=aLs h hy hi hlate hmo ham
  rw[aIc h ⟨a3,a4⟩]
  by_cases hil:i<aM (aR y)
  ·have hyo:aK (aC y+i)=y:=iX (by omega) (by omega) (by omega) (by omega)
   rw[hyo] at hd ⊢
   rw[aKj h hy hil,←hd]
   have hyl:cQ y=(aM (aR y):Int):=by unfold cQ;cases aR y<;>rfl
   have e1:aC y+(i:Int)-aC y+1=i+1:=by omega
   have e2:eS r.yearDay ((i:Int)+1) (cQ y)=(r.yearDay.isEmpty||r.yearDay.contains ((i:Int)+1)||r.yearDay.contains ((i:Int)-aM (aR y))):=by
    unfold eS
    rw[hyl,show (i:Int)+1-aM (aR y)-1=i-aM (aR y) by omega]
   rw[e1,e2,show aC y+(i:Int)-cS y=i-(cS y-aC y) by omega]
   generalize eS r.weekNo _ _=A
   generalize ((iZ r).isEmpty||_)=B
   generalize ((cX r).isEmpty||_)=D
   generalize (r.easter.isEmpty||_)=E
   generalize eS r.monthDay _ _=M
   generalize (r.yearDay.isEmpty||_||_)=Y
   cases A<;>cases B<;>cases D<;>cases E<;>cases M<;>cases Y<;>rfl
  ·have f2:r.freq=2:=by
    rcases Nat.decEq r.freq 2 with e|e
    ·exact absurd (hlate e) hil
    ·exact e
   have w0:r.weekNo=[]:=by
    rcases Classical.em (r.weekNo=[]) with e|e
    ·exact e
    ·have:=h.weekYear e;omega
   have e0:r.easter=[]:=by
    rcases Classical.em (r.easter=[]) with e|e
    ·exact e
    ·have:=h.easterYear e;omega
   have y0:=h.yearDayFreq (.inr (.inl f2))
   rw[←hd,w0,e0,y0]
   simp only[eS,List.isEmpty_nil,Bool.true_or,Bool.and_true,Bool.true_and]
   generalize ((iZ r).isEmpty||_)=B
   generalize ((cX r).isEmpty||_)=D
   generalize (r.monthDay.isEmpty||_||_)=M
   cases B<;>cases D<;>cases M<;>rfl
def dR (D T:List Int):List Int:=D.flatMap fun n=>T.map fun t=>n*86400+t
theorem uE (D T:List Int):(dR D T).length=D.length*T.length:=by
 induction D with
 |nil=>simp[dR]
 |cons d D ih=>
  unfold dR at ih ⊢
  rw[List.flatMap_cons,List.length_append,ih,List.length_map,List.length_cons,Nat.succ_mul];omega
theorem aEJ (T:List Int):∀(D:List Int) (a b:Nat),a<D.length→b<T.length→(dR D T)[a*T.length+b]?=some (D.getD a 0*86400+T.getD b 0)
 |d::D,0,b,_,hb=>by
  unfold dR
  rw[List.flatMap_cons,Nat.zero_mul,Nat.zero_add,List.getElem?_append_left (by simpa using hb),List.getElem?_map,List.getElem?_eq_getElem hb]
  simp[hb]
 |d::D,a+1,b,ha,hb=>by
  have ih:=aEJ T D a b (by simpa using ha) hb
  unfold dR at ih ⊢
  rw[List.flatMap_cons,List.getElem?_append_right (by simp[Nat.succ_mul];omega),List.length_map,show (a+1)*T.length+b-T.length=a*T.length+b by rw[Nat.succ_mul];omega,ih]
  simp
def jT (n:Nat) (p:Int):Int:=if p<0 then p+n else p-1
theorem aId {l pos:List Int} (hp:pos≠[]) (h0:∀p∈pos,p≠0) {t:Int}:t∈dU l pos↔∃p∈pos,0≤jT l.length p∧jT l.length p<l.length∧t=l.getD (jT l.length p).toNat 0:=by
 unfold dU
 rw[if_neg hp]
 simp only[List.mem_map,List.mem_filter,List.mem_range,Bool.or_eq_true,List.contains_iff_mem]
 constructor
 ·rintro ⟨i,⟨hi,h|h⟩,rfl⟩
  ·refine⟨_,h,?_⟩
   have e:jT l.length ((i:Int)+1)=i:=by unfold jT;rw[if_neg (by omega)];omega
   rw[e];simp;omega
  ·refine⟨_,h,?_⟩
   have e:jT l.length ((i:Int)-l.length)=i:=by unfold jT;rw[if_pos (by omega)];omega
   rw[e];simp;omega
 ·rintro ⟨p,hpm,h1,h2,rfl⟩
  refine⟨(jT l.length p).toNat,⟨by omega,?_⟩,rfl⟩
  have hz:=h0 p hpm
  unfold jT at *
  split at h1
  ·rename_i hn
   rw[if_pos hn] at *
   right
   rw[show (((p+(l.length:Int)).toNat:Nat):Int)-l.length=p by omega];exact hpm
  ·rename_i hn
   rw[if_neg hn] at *
   left
   rw[show (((p-1).toNat:Nat):Int)+1=p by omega];exact hpm
def bS (c:Nat) (p:Int):Int:=(if p<0 then p else p-1)/c
def iK (c:Nat) (p:Int):Int:=(if p<0 then p else p-1)%c
theorem aCZ {n c:Nat} (hc:0<c) {p:Int} (hp:p≠0) :
  (0≤jT (n*c) p∧jT (n*c) p<(n*c:Nat))↔(0≤(if bS c p<0 then bS c p+n else bS c p)∧(if bS c p<0 then bS c p+n else bS c p)<n):=by
 have hcz:(c:Int)≠0:=by omega
 have hm:=Int.emod_nonneg (if p<0 then p else p-1) hcz
 have hl:=Int.emod_lt_of_pos (if p<0 then p else p-1) (show (0:Int)<c by omega)
 have he:=Int.emod_add_mul_ediv (if p<0 then p else p-1) c
 unfold bS jT
 have hnc:((n*c:Nat):Int)=(c:Int)*n:=by rw[Int.natCast_mul,Int.mul_comm]
 rw[hnc]
 by_cases hneg:p<0
 ·rw[if_pos hneg] at hm hl he
  rw[if_pos hneg]
  simp only[if_pos hneg]
  generalize p/(c:Int)=q at *
  generalize p%(c:Int)=m at *
  have hq:q<0:=by
   rcases Int.lt_or_le q 0 with h|h
   ·exact h
   ·have:=Int.mul_nonneg (show (0:Int)≤c by omega) h;omega
  rw[if_pos hq]
  have e1:(c:Int)*(q+n)=c*q+c*n:=Int.mul_add _ _ _
  constructor
  ·rintro ⟨h1,h2⟩
   refine⟨?_,by omega⟩
   rcases Int.lt_or_le (q+n) 0 with h|h
   ·have:(c:Int)*(q+n)≤c*(-1):=Int.mul_le_mul_of_nonneg_left (by omega) (by omega)
    omega
   ·exact h
  ·rintro ⟨h1,h2⟩
   have:=Int.mul_nonneg (show (0:Int)≤c by omega) h1
   omega
 ·rw[if_neg hneg] at hm hl he
  rw[if_neg hneg]
  simp only[if_neg hneg]
  generalize hpp:p-1=P at *
  have hP:0≤P:=by omega
  have hq:0≤P/(c:Int):=Int.ediv_nonneg hP (by omega)
  generalize P/(c:Int)=q at *
  generalize P%(c:Int)=m at *
  rw[if_neg (by omega)]
  constructor
  ·rintro ⟨h1,h2⟩
   refine⟨hq,?_⟩
   rcases Int.lt_or_le q n with h|h
   ·exact h
   ·have:(c:Int)*n≤c*q:=Int.mul_le_mul_of_nonneg_left h (by omega)
    omega
  ·rintro ⟨h1,h2⟩
   have:(c:Int)*(q+1)≤c*n:=Int.mul_le_mul_of_nonneg_left (by omega) (by omega)
   rw[Int.mul_add,Int.mul_one] at this
   omega
theorem aKl {D T:List Int} (hc:0<T.length) {p:Int} (hp:p≠0) (h:0≤(if bS T.length p<0 then bS T.length p+D.length else bS T.length p)∧(if bS T.length p<0 then bS T.length p+D.length else bS T.length p)<D.length) :
  (dR D T).getD (jT (dR D T).length p).toNat 0=D.getD (if bS T.length p<0 then bS T.length p+D.length else bS T.length p).toNat 0*86400+T.getD (iK T.length p).toNat 0:=by
 have hcz:(T.length:Int)≠0:=by omega
 have hm:=Int.emod_nonneg (if p<0 then p else p-1) hcz
 have hl:=Int.emod_lt_of_pos (if p<0 then p else p-1) (show (0:Int)<T.length by omega)
 have he:=Int.emod_add_mul_ediv (if p<0 then p else p-1) T.length
 have hg:=aEJ T D (if bS T.length p<0 then bS T.length p+D.length else bS T.length p).toNat (iK T.length p).toNat (by omega) (by unfold iK;omega)
 have e:(jT (dR D T).length p).toNat=(if bS T.length p<0 then bS T.length p+D.length else bS T.length p).toNat*T.length+(iK T.length p).toNat:=by
  rw[uE]
  unfold jT bS iK at *
  have hnc:((D.length*T.length:Nat):Int)=(T.length:Int)*D.length:=by rw[Int.natCast_mul,Int.mul_comm]
  by_cases hneg:p<0
  ·simp only[if_pos hneg] at *
   have hq:p/(T.length:Int)<0:=by
    rcases Int.lt_or_le (p/(T.length:Int)) 0 with h|h
    ·exact h
    ·have:=Int.mul_nonneg (show (0:Int)≤T.length by omega) h;omega
   simp only[if_pos hq] at *
   have e1:(((p/(T.length:Int)+D.length).toNat*T.length:Nat):Int)=T.length*(p/T.length)+T.length*D.length:=by
    rw[Int.natCast_mul,show (((p/(T.length:Int)+D.length).toNat:Nat):Int)=p/T.length+D.length by omega,Int.mul_comm,Int.mul_add]
   rw[hnc]
   omega
  ·simp only[if_neg hneg] at *
   have hq:0≤(p-1)/(T.length:Int):=Int.ediv_nonneg (by omega) (by omega)
   simp only[if_neg (show ¬(p-1)/(T.length:Int)<0 by omega)] at *
   have e1:((((p-1)/(T.length:Int)).toNat*T.length:Nat):Int)=T.length*((p-1)/T.length):=by
    rw[Int.natCast_mul,show ((((p-1)/(T.length:Int)).toNat:Nat):Int)=(p-1)/T.length by omega,Int.mul_comm]
   omega
 rw[e,List.getD_eq_getElem?_getD,hg]
 rfl
def bZ (r:Ru) (k:Nat):Int:=if r.freq=2∧k=0 then r.start/86400 else aU r k
def kW (r:Ru) (k:Nat):List Int:=(kF (bZ r k) (bV r k)).filter (eB r)
theorem yS {r:Ru} (h:WP r) (k:Nat):aU r k≤bZ r k∧(r.freq<4→bZ r k≤bV r k):=by
 have hw:=h.wkst
 unfold bZ
 split
 ·rename_i hc
  have e1:aU r k=r.start/86400-(r.start/86400%7-r.wkst+7)%7:=by
   unfold aU
   rw[if_neg (by omega),if_neg (by omega),if_pos hc.1,hc.2];simp
  have e2:bV r k=aU r k+6:=by
   unfold bV
   rw[if_neg (by omega),if_neg (by omega),if_pos hc.1]
  omega
 ·exact⟨Int.le_refl _,fun hf=>(t8 h hf k).1⟩
theorem aLt {r:Ru} (h:GP r) (hf:r.freq<4) (k:Nat):keep r (dU (dR (kW r k) (times r)) r.setPos)=keep r (dN r k):=by
 have hw:=h.toWP
 by_cases hk:r.freq=2∧k=0
 ·by_cases hp:r.setPos=[]
  ·have hp1:=(yS hw k)
   have d0:Asc (kW r k):=gV _ (t7 _ _)
   refine Asc.ext (gV _ (pS (uA hw d0) _)) (gV _ (nX hw k)) fun t=>?_
   rw[nY,nY,nW]
   unfold lU
   rw[if_pos hf,hp]
   unfold dU
   rw[if_pos rfl,if_pos rfl,t9]
   unfold dR kW
   simp only[List.mem_flatMap,List.mem_map,List.mem_filter,zM]
   constructor
   ·rintro ⟨⟨n,⟨⟨h1,h2⟩,h3⟩,u,hu,rfl⟩,h5,h6⟩
    exact⟨⟨n,by omega,h2,h3,u,hu,rfl⟩,h5,h6⟩
   ·rintro ⟨⟨n,h1,h2,h3,u,hu,rfl⟩,h5,h6⟩
    refine⟨⟨n,⟨⟨?_,h2⟩,h3⟩,u,hu,rfl⟩,h5,h6⟩
    have:=oZ hw u hu
    unfold bZ
    rw[if_pos hk]
    omega
  ·have hwk:=h.weekPos hk.1 hp
   have e:bZ r k=aU r k:=by
    have e1:aU r k=r.start/86400-(r.start/86400%7-r.wkst+7)%7:=by
     unfold aU
     rw[if_neg (by omega),if_neg (by omega),if_pos hk.1,hk.2];simp
    unfold bZ
    rw[if_pos hk,e1]
    omega
   unfold kW
   rw[e,nW]
   unfold lU kG
   rw[if_pos hf]
   rfl
 ·unfold kW bZ
  rw[if_neg hk,nW]
  unfold lU kG
  rw[if_pos hf]
  rfl
theorem oM:aC 10000*86400=315537897600:=by decide
theorem aLu {r:Ru} (hf:r.freq=0) (k:Nat):bN r (k+1)=bN r k+r.interval:=by
 unfold bN
 rw[if_pos hf,if_pos hf,kI (b:=0)];omega
theorem aKm {r:Ru} (h:WP r) (hf:r.freq=1) (k:Nat) :
  (cJ r k+r.interval≤12→cJ r (k+1)=cJ r k+r.interval∧bN r (k+1)=bN r k)∧
  (12<cJ r k+r.interval→(cJ r k+r.interval)%12=0→cJ r (k+1)=12∧bN r (k+1)=bN r k+(cJ r k+r.interval)/12-1)∧
  (12<cJ r k+r.interval→(cJ r k+r.interval)%12≠0→cJ r (k+1)=(cJ r k+r.interval)%12∧bN r (k+1)=bN r k+(cJ r k+r.interval)/12):=by
 have hi:=h.interval
 have e:=sT r k
 unfold cJ bN
 rw[if_neg (by omega),if_neg (by omega),e]
 generalize dA r k=M
 generalize aK (r.start/86400)=Y
 refine⟨fun h=>⟨?_,?_⟩,fun h h2=>⟨?_,?_⟩,fun h h2=>⟨?_,?_⟩⟩<;>omega
theorem yT (r:Ru) (k:Nat):1≤cJ r k∧cJ r k≤12:=by unfold cJ;omega
theorem uU {r:Ru} (k:Nat):bZ r (k+1)=aU r (k+1):=by
 unfold bZ;rw[if_neg (by omega)]
theorem zP {r:Ru} (h:WP r) (hf:r.freq=2) (k:Nat):aU r k%7=r.wkst:=by
 have hw:=h.wkst
 unfold aU
 rw[if_neg (by omega),if_neg (by omega),if_pos hf]
 have:7*(k:Int)*r.interval=7*(k*r.interval):=Int.mul_assoc _ _ _
 rw[this]
 generalize (k:Int)*r.interval=q
 omega
theorem aLv {r:Ru} (h:WP r) (hf:r.freq=2) (k:Nat) :
  bZ r (k+1)=bZ r k+((if bZ r k%7<r.wkst then -(bZ r k%7+1+(6-r.wkst)) else -(bZ r k%7-r.wkst))+r.interval*7):=by
 have hw:=h.wkst
 have hm:=zP h hf k
 rw[uU]
 have e:aU r (k+1)=aU r k+7*r.interval:=by
  unfold aU
  rw[if_neg (by omega),if_neg (by omega),if_pos hf,if_neg (by omega),if_neg (by omega),if_pos hf,aCU]
  omega
 rw[e]
 by_cases hk:k=0
 ·subst hk
  have e1:aU r 0=r.start/86400-(r.start/86400%7-r.wkst+7)%7:=by
   unfold aU
   rw[if_neg (by omega),if_neg (by omega),if_pos hf];simp
  have e2:bZ r 0=r.start/86400:=by unfold bZ;rw[if_pos ⟨hf,rfl⟩]
  rw[e2,e1]
  split<;>omega
 ·have e2:bZ r k=aU r k:=by unfold bZ;rw[if_neg (by omega)]
  rw[e2,if_neg (by omega)]
  omega
theorem aPh {r:Ru} (hf:r.freq=3) (k:Nat):bZ r (k+1)=bZ r k+r.interval:=by
 unfold bZ aU
 rw[if_neg (by omega),if_neg (by omega),if_neg (by omega),if_neg (by omega),if_neg (by omega),if_neg (by omega),if_neg (by omega),if_neg (by omega),kI (b:=0)]
 omega
theorem aBc {y m d:Int} (hm:1≤m∧m<12):bR y (m+1) (d-aO y m)=bR y m d:=by
 unfold bR
 have e2:bA y ((m-1).toNat+1)=bA y (m-1).toNat+aO y (((m-1).toNat:Int)+1):=rfl
 rw[show (m+1-1).toNat=(m-1).toNat+1 by omega,e2,show (((m-1).toNat:Nat):Int)+1=m by omega]
 omega
theorem wF {y d:Int}:bR (y+1) 1 (d-aO y 12)=bR y 12 d:=by
 unfold bR
 have e1:=sS y
 have e2:=dQ y
 have e3:bA y 12=bA y 11+aO y 12:=rfl
 have e4:bA (y+1) ((1:Int)-1).toNat=0:=rfl
 have e5:((12:Int)-1).toNat=11:=rfl
 unfold cQ at e1
 rw[e4,e5,e2]
 omega
theorem aKn {y m d:Int} (hm:1≤m) (hd:1≤d):aC y≤bR y m d:=by
 have:=eX y (m-1).toNat
 unfold bR
 omega
theorem aBV {r:Ru} (h:WP r) (hf:r.freq=1) (k:Nat):aC (bN r k)≤aU r k:=by
 have:=eX (bN r k) (cJ r k-1).toNat
 unfold aU
 rw[if_neg (by omega),if_pos hf]
 omega
theorem aEK {r:Ru} (h:WP r) (hf:r.freq<4) {k:Nat} (hk:aC 10000≤aU r k):rest r k=[]:=by
 refine nZ h ?_
 have:=h.til
 have:=oM
 unfold dY
 rw[if_pos hf]
 omega
def bD (r:Ru):Int:=if r.freq=4 then 24 else if r.freq=5 then 1440 else 86400
def tick (r:Ru) (k:Nat):Int:=r.start/dV r+k*r.interval
theorem aC0 (r:Ru) (k:Nat):tick r (k+1)=tick r k+r.interval:=by
 unfold tick;rw[kI (b:=0)];omega
theorem qJ (r:Ru) (k n:Nat):tick r (k+n)=tick r k+n*r.interval:=by
 unfold tick
 rw[show ((k+n:Nat):Int)=(k:Int)+n by omega,Int.add_mul]
 omega
theorem uF (r:Ru) (k:Nat):bK r k=tick r k*dV r:=rfl
theorem aFw {r:Ru} (h:WP r) (hf:4≤r.freq) (k:Nat):0≤tick r k:=by
 have:=nB h (by omega) k
 rw[uF] at this
 rcases fK h (by omega) with ⟨_,e⟩|⟨_,e⟩|⟨_,e⟩<;>rw[e] at this<;>omega
theorem zQ {r:Ru} (h:WP r) (hf:4≤r.freq) (k:Nat):bK r k/86400=tick r k/bD r∧bK r k%86400=tick r k%bD r*dV r:=by
 rw[uF]
 rcases fK h (by omega) with ⟨f,e⟩|⟨f,e⟩|⟨f,e⟩
 ·have:bD r=24:=by unfold bD;rw[if_pos f]
  rw[e,this];omega
 ·have:bD r=1440:=by unfold bD;rw[if_neg (by omega),if_pos f]
  rw[e,this];omega
 ·have:bD r=86400:=by unfold bD;rw[if_neg (by omega),if_neg (by omega)]
  rw[e,this];omega
def dM (r:Ru) (k:Nat):Bool:=
 aY r.hour (bK r k%86400/3600)&&(decide (r.freq<5)||aY r.minute (bK r k%86400/60%60))&&(decide (r.freq<6)||aY r.second (bK r k%86400%60))
theorem uG {r:Ru} (h:WP r) {k:Nat} (hk:eB r (bK r k/86400)=false∨dM r k=false):eU r k=[]:=by
 rw[List.eq_nil_iff_forall_not_mem]
 intro t ht
 obtain⟨h1,h2,m,hm,s,hs,h3,h4,_⟩:=rY.1 ht
 rcases hk with hk|hk
 ·rw[h1] at hk;cases hk
 ·unfold dM at hk
  rw[h2,Bool.true_and] at hk
  unfold fB at hm
  unfold fC at hs
  rcases Bool.and_eq_false_iff.1 hk with e|e
  ·rw[Bool.or_eq_false_iff] at e
   rw[if_neg (by have:=odF e.1;omega)] at hm
   simp only[List.mem_singleton] at hm
   rw[hm,e.2] at h3;cases h3
  ·rw[Bool.or_eq_false_iff] at e
   rw[if_neg (odF e.1)] at hs
   simp only[List.mem_singleton] at hs
   rw[hs,e.2] at h4;cases h4
def fI (r:Ru) (k:Nat):List Int:=(fB r (bK r k)).flatMap fun m=>(fC r (bK r k)).map fun s=>bK r k%86400/3600*3600+m*60+s
theorem aBd {l:List Int} {x:Int} (h:x∈l):aY l x=true:=by unfold aY;rw[List.contains_iff_mem.2 h,Bool.or_true]
theorem aBe {f g:Int→List Int}:∀{l:List Int},(∀x∈l,f x=g x)→l.flatMap f=l.flatMap g
 |[],_=>rfl
 |a::l,h=>by rw[List.flatMap_cons,List.flatMap_cons,h a (List.mem_cons_self ..),aBe fun x hx=>h x (List.mem_cons_of_mem _ hx)]
theorem aIe {r:Ru} (h:WP r) (hf:4≤r.freq) {k:Nat} (h1:eB r (bK r k/86400)=true) (h2:dM r k=true):eU r k=(fI r k).map fun t=>bK r k/86400*86400+t:=by
 unfold dM at h2
 simp only[Bool.and_eq_true] at h2
 obtain⟨⟨h2,h3⟩,h4⟩:=h2
 unfold eU fI
 simp only
 rw[if_pos (by rw[h1,h2];rfl),List.map_flatMap]
 change (fB r (bK r k)).flatMap _=_
 refine aBe fun m hm=>?_
 have hmm:aY r.minute m=true:=by
  unfold fB at hm
  split at hm
  ·exact aBd (gJ.1 hm)
  ·simp only[List.mem_singleton] at hm
   rw[hm]
   rcases Bool.or_eq_true_iff.1 h3 with e|e
   ·have:=odT e;omega
   ·exact e
 have hss:∀s∈fC r (bK r k),aY r.second s=true:=by
  intro s hs
  unfold fC at hs
  split at hs
  ·exact aBd (gJ.1 hs)
  ·simp only[List.mem_singleton] at hs
   rw[hs]
   rcases Bool.or_eq_true_iff.1 h4 with e|e
   ·have:=odT e;omega
   ·exact e
 change ((fC r (bK r k)).filter _).map _=_
 rw[List.filter_eq_self.2 fun s hs=>by rw[hmm,hss s hs];rfl,List.map_map]
 refine List.map_congr_left fun s _=>?_
 simp only[Function.comp]
 omega
theorem aLw {r:Ru} (h:WP r) (hf:4≤r.freq) {k j:Nat} (hj:tick r (k+j)/bD r=tick r k/bD r) (hs:eB r (bK r k/86400)=false) (i:Nat) (hi:i≤j):eU r (k+i)=[]:=by
 refine uG h (.inl ?_)
 have hI:=h.interval
 have e1:=(zQ h hf k).1
 have e2:=(zQ h hf (k+i)).1
 have a1:=qJ r k i
 have a2:=qJ r k j
 have m1:(0:Int)≤i*r.interval:=Int.mul_nonneg (by omega) (by omega)
 have m2:(i:Int)*r.interval≤j*r.interval:=Int.mul_le_mul_of_nonneg_right (by omega) (by omega)
 have pd:0<bD r:=by unfold bD;split<;>(try split)<;>omega
 have l1:tick r k/bD r≤tick r (k+i)/bD r:=Int.ediv_le_ediv pd (by omega)
 have l2:tick r (k+i)/bD r≤tick r (k+j)/bD r:=Int.ediv_le_ediv pd (by omega)
 rw[e2,show tick r (k+i)/bD r=tick r k/bD r by omega,←e1]
 exact hs
theorem aBf {r:Ru} (h:GP r) (hf:4≤r.freq) (k:Nat):dN r k=eU r k:=by
 rw[nW]
 unfold lU dU
 rw[if_pos (h.small hf).1,if_neg (by omega)]
def aR4:List Nat:=[1,1,1,1,5,1,7,1,3,5,11,1,13,7,5,2,17,3,19,5,7,11,23,1]
def aPi:List Nat:=[1,1,1,1,1,1,823,1,1,1,131,1,997,103,1,1,593,1,379,1,343,131,1127,1]
def aLx:List Nat:=[1,1,1,1,1,1,12343,1,1,1,70691,1,39877,12343,1,1,71153,1,36379,1,12343,27491,78887,1]
theorem aPj:((List.range 24).all fun i=>decide ((aR4.getD i 0*(i+1))%24=Nat.gcd (i+1) 24%24)&&decide ((aPi.getD i 0*(i+1))%1440=Nat.gcd (i+1) 1440)&&decide ((aLx.getD i 0*(i+1))%86400=Nat.gcd (i+1) 86400))=true:=by kernel_rfl
theorem aSd {I U:Nat} (hI:1≤I∧I≤24) (hU:U=24∨U=1440∨U=86400) {d:Int} (hd:d%(Nat.gcd I U:Nat)=0):∃n:Nat,1≤n∧n≤U∧((n:Int)*I-d)%U=0:=by
 have ha:=List.all_eq_true.1 aPj (I-1) (List.mem_range.2 (by omega))
 simp only[Bool.and_eq_true,decide_eq_true_eq] at ha
 rw[show I-1+1=I by omega] at ha
 obtain⟨c,hc⟩:∃c:Nat,(c*I)%U=Nat.gcd I U%U:=by
  rcases hU with rfl|rfl|rfl
  ·exact⟨_,ha.1.1⟩
  ·refine⟨_,ha.1.2.trans ?_⟩
   have:=Nat.gcd_le_left 1440 (show 0<I by omega)
   rw[Nat.mod_eq_of_lt (by omega)]
  ·refine⟨_,ha.2.trans ?_⟩
   have:=Nat.gcd_le_left 86400 (show 0<I by omega)
   rw[Nat.mod_eq_of_lt (by omega)]
 have hUp:0<U:=by omega
 obtain⟨q,hq⟩:∃q:Int,d=(Nat.gcd I U:Nat)*q:=by
  obtain⟨q,hq⟩:=Int.dvd_of_emod_eq_zero hd
  exact⟨q,hq⟩
 obtain⟨p,hp⟩:∃p:Int,(c:Int)*I=(Nat.gcd I U:Nat)+U*p:=by
  have e:(((c*I:Nat)):Int)%U=((Nat.gcd I U:Nat):Int)%U:=by
   rw[←Int.natCast_emod,←Int.natCast_emod,hc]
  have e1:=Int.emod_add_mul_ediv ((c*I:Nat):Int) U
  have e2:=Int.emod_add_mul_ediv ((Nat.gcd I U:Nat):Int) U
  refine⟨((c*I:Nat):Int)/U-((Nat.gcd I U:Nat):Int)/U,?_⟩
  rw[Int.mul_sub,←Int.natCast_mul]
  omega
 have hm:=Int.emod_nonneg ((c:Int)*q-1) (show (U:Int)≠0 by omega)
 have hl:=Int.emod_lt_of_pos ((c:Int)*q-1) (show (0:Int)<U by omega)
 have he:=Int.emod_add_mul_ediv ((c:Int)*q-1) U
 refine⟨(((c:Int)*q-1)%U+1).toNat,by omega,by omega,?_⟩
 rw[show (((((c:Int)*q-1)%U+1).toNat:Nat):Int)=(c:Int)*q-U*(((c:Int)*q-1)/U) by omega]
 generalize ((c:Int)*q-1)/U=z at *
 have e3:((c:Int)*q-U*z)*I-d=U*(p*q-z*I):=by
  rw[hq,Int.sub_mul,Int.mul_sub]
  have a1:(c:Int)*q*I=c*I*q:=by rw[Int.mul_assoc,Int.mul_comm q I,←Int.mul_assoc]
  have a2:((Nat.gcd I U:Nat)+U*p)*q=(Nat.gcd I U:Nat)*q+U*(p*q):=by rw[Int.add_mul,Int.mul_assoc]
  have a3:(U:Int)*z*I=U*(z*I):=Int.mul_assoc _ _ _
  rw[a1,hp,a2,a3]
  omega
 rw[e3]
 exact Int.mul_emod_right _ _
def wG (r:Ru):Prop:=4≤r.freq→(r.hour≠[]∨(5≤r.freq∧r.minute≠[])∨(r.freq=6∧r.second≠[]))→∃t:Int,0≤t∧t<bD r∧(t-r.start%86400/dV r)%((Nat.gcd (max 1 r.interval).toNat (bD r).toNat:Nat):Int)=0∧aY r.hour (t*dV r/3600)=true∧(5≤r.freq→aY r.minute (t*dV r/60%60)=true)∧(r.freq=6→aY r.second (t*dV r%60)=true)
theorem aIf {r:Ru} (h:WP r) (hf:4≤r.freq) (hI:r.interval≤24) (hm:wG r) (k:Nat):∃n:Nat,1≤n∧(n:Int)≤bD r∧dM r (k+n)=true:=by
 have hi:=h.interval
 by_cases hne:r.hour≠[]∨(5≤r.freq∧r.minute≠[])∨(r.freq=6∧r.second≠[])
 ·obtain⟨t,t0,t1,hd,a1,a2,a3⟩:=hm hf hne
  have hst:=h.start
  have td:=aFw h hf
  have key:∀U u:Int,bD r=U→dV r=u→(U=24∧u=3600)∨(U=1440∧u=60)∨(U=86400∧u=1)→∃n:Nat,1≤n∧(n:Int)≤U∧tick r (k+n)%U=t:=by
   intro U u hU hu hUu
   rw[hU,hu] at hd
   rw[hU] at t1
   have e0:(t-r.start/u)%((Nat.gcd (max 1 r.interval).toNat U.toNat:Nat):Int)=0:=by
    obtain⟨g,hg⟩:=Int.dvd_of_emod_eq_zero hd
    have hgu:((Nat.gcd (max 1 r.interval).toNat U.toNat:Nat):Int)∣U:=by
     have:=Nat.gcd_dvd_right (max 1 r.interval).toNat U.toNat
     have h2:=Int.natCast_dvd_natCast.2 this
     rwa [show ((U.toNat:Nat):Int)=U by omega] at h2
    refine Int.emod_eq_zero_of_dvd ?_
    have e:t-r.start/u=(t-r.start%86400/u)-U*(r.start/86400):=by
     rcases hUu with ⟨rfl,rfl⟩|⟨rfl,rfl⟩|⟨rfl,rfl⟩<;>omega
    rw[e]
    exact Int.dvd_sub ⟨g,hg⟩ (Int.dvd_trans hgu ⟨_,rfl⟩)
   have e1:(t-tick r k)%((Nat.gcd r.interval.toNat U.toNat:Nat):Int)=0:=by
    rw[show max 1 r.interval=r.interval by omega] at e0
    have hgi:((Nat.gcd r.interval.toNat U.toNat:Nat):Int)∣r.interval:=by
     have:=Nat.gcd_dvd_left r.interval.toNat U.toNat
     have h2:=Int.natCast_dvd_natCast.2 this
     rwa [show ((r.interval.toNat:Nat):Int)=r.interval by omega] at h2
    refine Int.emod_eq_zero_of_dvd ?_
    have e:t-tick r k=(t-r.start/u)-r.interval*k:=by
     unfold tick;rw[hu,Int.mul_comm r.interval];omega
    rw[e]
    exact Int.dvd_sub (Int.dvd_of_emod_eq_zero e0) (Int.dvd_trans hgi ⟨_,rfl⟩)
   obtain⟨n,n1,n2,n3⟩:=aSd (I:=r.interval.toNat) (U:=U.toNat) (by omega) (by rcases hUu with ⟨rfl,_⟩|⟨rfl,_⟩|⟨rfl,_⟩<;>simp) e1
   refine⟨n,n1,by omega,?_⟩
   rw[qJ]
   rw[show ((r.interval.toNat:Nat):Int)=r.interval by omega,show ((U.toNat:Nat):Int)=U by omega] at n3
   generalize (n:Int)*r.interval=N at *
   have:=td k
   generalize tick r k=T at *
   rcases hUu with ⟨rfl,rfl⟩|⟨rfl,rfl⟩|⟨rfl,rfl⟩<;>omega
  have fin:∀n:Nat,tick r (k+n)%bD r=t→dM r (k+n)=true:=by
   intro n hn
   have e:=(zQ h hf (k+n)).2
   rw[hn] at e
   unfold dM
   rw[e]
   simp only[Bool.and_eq_true,Bool.or_eq_true,decide_eq_true_eq]
   refine⟨⟨a1,?_⟩,?_⟩
   ·by_cases f5:5≤r.freq
    ·exact .inr (a2 f5)
    ·exact .inl (by omega)
   ·by_cases f6:r.freq=6
    ·exact .inr (a3 f6)
    ·exact .inl (by have:=h.freq;omega)
  rcases fK h (by omega) with ⟨f,e⟩|⟨f,e⟩|⟨f,e⟩
  ·have pd:bD r=24:=by unfold bD;rw[if_pos f]
   obtain⟨n,n1,nU,hn⟩:=key 24 3600 pd e (by simp)
   exact⟨n,n1,by omega,fin n (by rw[pd];exact hn)⟩
  ·have pd:bD r=1440:=by unfold bD;rw[if_neg (by omega),if_pos f]
   obtain⟨n,n1,nU,hn⟩:=key 1440 60 pd e (by simp)
   exact⟨n,n1,by omega,fin n (by rw[pd];exact hn)⟩
  ·have pd:bD r=86400:=by unfold bD;rw[if_neg (by omega),if_neg (by omega)]
   obtain⟨n,n1,nU,hn⟩:=key 86400 1 pd e (by simp)
   exact⟨n,n1,by omega,fin n (by rw[pd];exact hn)⟩
 ·refine⟨1,Nat.le_refl _,by unfold bD;split<;>(try split)<;>omega,?_⟩
  have h1:r.hour=[]:=Classical.byContradiction fun e=>hne (.inl e)
  have h2:5≤r.freq→r.minute=[]:=fun f=>Classical.byContradiction fun e=>hne (.inr (.inl ⟨f,e⟩))
  have h3:r.freq=6→r.second=[]:=fun f=>Classical.byContradiction fun e=>hne (.inr (.inr ⟨f,e⟩))
  unfold dM aY
  rw[h1]
  simp only[List.isEmpty_nil,Bool.true_or,Bool.true_and,Bool.and_eq_true,Bool.or_eq_true,decide_eq_true_eq]
  refine⟨?_,?_⟩
  ·by_cases f5:5≤r.freq
   ·rw[h2 f5];simp
   ·exact .inl (by omega)
  ·by_cases f6:r.freq=6
   ·rw[h3 f6];simp
   ·exact .inl (by have:=h.freq;omega)
end K
end Go.Proofs.YtnoppodfngkoeaaGreat
