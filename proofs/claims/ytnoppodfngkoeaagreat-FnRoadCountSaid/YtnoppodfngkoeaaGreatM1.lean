/- Merged texts of one proof. -/
import Derived.WalkKit
import Derived.Below
import Derived.Laws.OwnMore
import Derived.Maps.AppendAt
import Derived.Deep.Draws
import Derived.Orders
set_option linter.unusedVariables false
set_option linter.unusedSimpArgs false
set_option maxRecDepth 20000
namespace Go.Proofs.YtnoppodfngkoeaaGreat
theorem odT {p : Prop} [Decidable p] (h : decide p = true) : p := of_decide_eq_true h
theorem odF {p : Prop} [Decidable p] (h : decide p = false) : ¬ p := of_decide_eq_false h
theorem dcT {p : Prop} [Decidable p] (h : p) : decide p = true := decide_eq_true h
theorem dcF {p : Prop} [Decidable p] (h : ¬ p) : decide p = false := decide_eq_false h
open Go.IntKind
namespace AL
open Go.RowKit
inductive AV where
 |val (v:Value)
 |ptr (o off:Nat)
 |sl (own:Bool) (o off len st:Nat)
 |mp (o:Nat)
 |ifc (t:TypeId) (x:AV)
 |fn (f:Fn) (first caps:List AV)
 |agg (l:List AV)
 |tup (l:List AV)
 |any
 deriving Inhabited
abbrev Env:=List AV
inductive aD where
 |ro (cs:List AV)
 |own (e:TypeId) (cs:List AV)
 |map (es:List (ByteArray×AV))
 |mapI (es:List ((Int×Int)×Bool))
 |gone
 deriving Inhabited
abbrev aB:=List aD
abbrev aX:=List (Nat×Nat)
def zC (w:World) (b n:Nat):Prop:=∃arr e fr,w.heap[b]?=some (.cells arr e fr)∧n≤arr.size
def aHz (w:World) (b n:Nat):Prop:=∃arr e fr,w.heap[b]?=some (.cells arr e fr)∧n=arr.size
mutual
def rel (m:aX) (w:World):AV→Value→Prop
 |.val v,x=>x=v
 |.ptr o off,x=>∃b,m[o]?=some b∧x=.pointer (some ⟨b.1,b.2+off,none⟩)
 |.sl own o off len st,x=>∃b a cap,m[o]?=some b∧x=.slice (some a) len cap∧len≤cap∧cap≤9223372036854775807∧(0<cap→a=⟨b.1,b.2+off,none⟩∧zC w b.1 (b.2+off+cap*st))∧(own=true→(cap=0∧0<off)∨(a=⟨b.1,b.2+off,none⟩∧aHz w b.1 (b.2+off+cap*st)))
 |.mp o,x=>∃b,m[o]?=some b∧x=.map (some b.1)
 |.ifc t c,x=>∃v,x=.iface t v∧rel m w c v
 |.fn f a c,x=>∃vs us,x=.func f vs us∧rels m w a vs.toList∧rels m w c us.toList
 |.agg l,x=>∃vs,x=.agg vs∧rels m w l vs.toList
 |.tup l,x=>∃vs,x=.tuple vs∧rels m w l vs.toList
 |.any,_=>True
def rels (m:aX) (w:World):List AV→List Value→Prop
 |[],[]=>True
 |c::l,v::vs=>rel m w c v∧rels m w l vs
 |_,_=>False
end
def Szs (w w':World):Prop:=∀(b:Nat) (arr:Array Value) (e:TypeId) (fr:Nat×Nat),w.heap[b]?=some (.cells arr e fr)→∃arr':Array Value,w'.heap[b]?=some (.cells arr' e fr)∧arr'.size=arr.size
theorem Szs.refl (w:World):Szs w w:=fun b arr e fr h=>⟨arr,h,rfl⟩
theorem Szs.trans {a b c:World} (h:Szs a b) (k:Szs b c):Szs a c:=fun x arr e fr hx=>by
 obtain⟨arr',h1,h2⟩:=h x arr e fr hx
 obtain⟨arr2,h3,h4⟩:=k x arr' e fr h1
 exact⟨arr2,h3,h4.trans h2⟩
theorem zC.szs {w w':World} {b n:Nat} (h:zC w b n) (hs:Szs w w'):zC w' b n:=by
 obtain⟨arr,e,fr,h1,h2⟩:=h
 obtain⟨arr',h3,h4⟩:=hs _ _ _ _ h1
 exact⟨arr',e,fr,h3,by omega⟩
theorem aHz.szs {w w':World} {b n:Nat} (h:aHz w b n) (hs:Szs w w'):aHz w' b n:=by
 obtain⟨arr,e,fr,h1,h2⟩:=h
 obtain⟨arr',h3,h4⟩:=hs _ _ _ _ h1
 exact⟨arr',e,fr,h3,by omega⟩
theorem gY {m m':aX} (h:m <+: m') {o:Nat} {b:Nat×Nat} (hb:m[o]?=some b):m'[o]?=some b:=by
 obtain⟨t,rfl⟩:=h
 rw[List.getElem?_append_left (by exact (List.getElem?_eq_some_iff.1 hb).1)]
 exact hb
mutual
theorem rel_more {m m':aX} {w w':World} (hm:m <+: m') (hs:Szs w w'):∀{c:AV} {v:Value},rel m w c v→rel m' w' c v
 |.val _,_,h=>h
 |.ptr ..,_,⟨b,h1,h2⟩=>⟨b,gY hm h1,h2⟩
 |.sl ..,_,⟨b,a,cap,h1,h2,h3,h4,h5,h6⟩=>⟨b,a,cap,gY hm h1,h2,h3,h4,fun hc=>⟨(h5 hc).1,(h5 hc).2.szs hs⟩,fun ho=>(h6 ho).imp id fun h=>⟨h.1,h.2.szs hs⟩⟩
 |.mp _,_,⟨b,h1,h2⟩=>⟨b,gY hm h1,h2⟩
 |.ifc _ c,_,⟨v,h1,h2⟩=>⟨v,h1,rel_more hm hs h2⟩
 |.fn _ a c,_,⟨vs,us,h1,h2,h3⟩=>⟨vs,us,h1,rels_more hm hs h2,rels_more hm hs h3⟩
 |.agg l,_,⟨vs,h1,h2⟩=>⟨vs,h1,rels_more hm hs h2⟩
 |.tup l,_,⟨vs,h1,h2⟩=>⟨vs,h1,rels_more hm hs h2⟩
 |.any,_,_=>trivial
theorem rels_more {m m':aX} {w w':World} (hm:m <+: m') (hs:Szs w w'):∀{l:List AV} {vs:List Value},rels m w l vs→rels m' w' l vs
 |[],[],_=>trivial
 |c::l,v::vs,h=>⟨rel_more hm hs h.1,rels_more hm hs h.2⟩
 |[],_::_,h=>h.elim
 |_::_,[],h=>h.elim
end
theorem gA {m:aX} {w:World}:∀{l:List AV} {vs:List Value},rels m w l vs→l.length=vs.length
 |[],[],_=>rfl
 |c::l,v::vs,h=>by simp[gA h.2]
 |[],_::_,h=>h.elim
 |_::_,[],h=>h.elim
theorem fP {m:aX} {w:World}:∀{l:List AV} {vs:List Value},rels m w l vs→∀(i:Nat) c,l[i]?=some c→∃v,vs[i]?=some v∧rel m w c v
 |[],[],_,i,c,hi=>by simp at hi
 |c::l,v::vs,h,0,c',hi=>⟨v,rfl,by simp at hi;subst hi;exact h.1⟩
 |c::l,v::vs,h,i+1,c',hi=>by simpa using fP h.2 i c' (by simpa using hi)
 |[],_::_,h,_,_,_=>h.elim
 |_::_,[],h,_,_,_=>h.elim
theorem rM {m:aX} {w:World}:∀{l:List AV} {vs:List Value},l.length=vs.length→(∀(i:Nat) c v,l[i]?=some c→vs[i]?=some v→rel m w c v)→rels m w l vs
 |[],[],_,_=>trivial
 |c::l,v::vs,hl,h=>⟨h 0 c v rfl rfl,rM (by simpa using hl) fun i c' v' h1 h2=>h (i+1) c' v' (by simpa using h1) (by simpa using h2)⟩
 |[],_::_,hl,_=>by simp at hl
 |_::_,[],hl,_=>by simp at hl
theorem oE {m:aX} {w:World} {l l':List AV} {vs vs':List Value} (h:rels m w l vs) (h':rels m w l' vs'):rels m w (l++l') (vs++vs'):=by
 induction l generalizing vs with
 |nil=>cases vs with
  |nil=>exact h'
  |cons _ _=>exact h.elim
 |cons c l ih=>cases vs with
  |nil=>exact h.elim
  |cons v vs=>exact⟨h.1,ih h.2⟩
structure dC where
 B:Nat
 w0:World
 nG:Nat
def relO (C:dC) (m:aX) (w:World) (b:Nat×Nat):aD→Prop
 |.ro cs=>b.1<C.B∧∀(j:Nat) c,cs[j]?=some c→∃v,w.cell? ⟨b.1,b.2+j,none⟩=some v∧rel m w c v
 |.own e cs=>(C.B≤b.1∧b.2=0)∧∃arr,w.heap[b.1]?=some (.cells arr e (0,0))∧b.2+cs.length≤arr.size∧∀(j:Nat) c,cs[j]?=some c→∃v,arr[b.2+j]?=some v∧rel m w c v
 |.map es=>C.B≤b.1∧∃ens clock,w.heap[b.1]?=some (.map ens clock)∧ens.size=es.length∧∀(j:Nat) k c,es[j]?=some (k,c)→∃en,ens[j]?=some en∧en.key=.string k∧rel m w c en.val
 |.mapI es=>C.B≤b.1∧∃ens clock,w.heap[b.1]?=some (.map ens clock)∧ens.size=es.length∧∀(j:Nat) k c,es[j]?=some (k,c)→∃en,ens[j]?=some en∧en.key=.agg #[.int .i64 k.1,.int .i64 k.2]∧en.val=.bool c
 |.gone=>True
def aD.mine:aD→Bool
 |.own ..=>true
 |.map ..=>true
 |.mapI ..=>true
 |_=>false
structure cE (C:dC) (m:aX) (w:World) (H:aB):Prop where
 below:Below C.B C.w0 w
 size:C.B≤w.heap.size
 len:m.length=H.length
 glob:∀g,g<C.nG→m[g]?=some (g,0)
 obj:∀(o:Nat) x b,H[o]?=some x→m[o]?=some b→relO C m w b x
 apart:∀(o o':Nat) x x' b b',o≠o'→H[o]?=some x→H[o']?=some x'→m[o]?=some b→m[o']?=some b'→x.mine=true→x'.mine=true→b.1≠b'.1
structure fG (m:aX) (w:World) (env:Env) (a:Act):Prop where
 defers:a.defers=[]
 slots:rels m w env a.tmps.toList
structure Fwd (C:dC) (m:aX) (w:World) (m':aX) (w':World) (H':aB):Prop where
 pre:m <+: m'
 szs:Szs w w'
 rep:cE C m' w' H'
theorem fG.more {m m':aX} {w w':World} {env:Env} {a:Act} (h:fG m w env a) (hm:m <+: m') (hs:Szs w w'):fG m' w' env a:=⟨h.defers,rels_more hm hs h.slots⟩
theorem fG.get {m:aX} {w:World} {env:Env} {a:Act} (h:fG m w env a) (i:Nat):rel m w (env.getD i .any) (a.tmps.getD i undef):=by
 rcases Nat.lt_or_ge i env.length with hi|hi
 ·obtain⟨v,h1,h2⟩:=fP h.slots i env[i] (List.getElem?_eq_getElem hi)
  rw[List.getD_eq_getElem?_getD,List.getElem?_eq_getElem hi]
  have:a.tmps.getD i undef=v:=by
   rw[Array.getD_eq_getD_getElem?,←Array.getElem?_toList,h1];rfl
  rw[this];exact h2
 ·rw[List.getD_eq_getElem?_getD,List.getElem?_eq_none hi];trivial
theorem aKZ {m:aX} {w:World} {l:List AV} {vs:List Value} (h:rels m w l vs) (d:Nat) {c:AV} {v:Value} (hc:rel m w c v):rels m w (l.set d c) (vs.set d v):=by
 induction l generalizing vs d with
 |nil=>cases vs with
  |nil=>trivial
  |cons _ _=>exact h.elim
 |cons c' l ih=>cases vs with
  |nil=>exact h.elim
  |cons v' vs=>cases d with
   |zero=>exact⟨hc,h.2⟩
   |succ d=>exact⟨h.1,ih h.2 d⟩
def setD (env:Env) (d:Option Nat) (c:AV):Env:=match d with|some d=>env.set d c|none=>env
theorem fG.put {m:aX} {w:World} {env:Env} {a:Act} (h:fG m w env a) (d:Option Nat) {c:AV} {v:Value} (hc:rel m w c v):fG m w (setD env d c) (a.put d v):=by
 cases d with
 |none=>exact h
 |some d=>exact⟨h.defers,by simpa [Act.put,setD] using aKZ h.slots d hc⟩
def aT (P:Program) {α:Type}:Sem α→Option α
 |.pure a=>some a
 |.program k=>aT P (k P)
 |_=>none
theorem gB {P:Program} {α:Type}:∀{s:Sem α} {v:α},aT P s=some v→∀w,s.run P w=.ok v w
 |.pure a,v,h,w=>by simp only[aT,Option.some.injEq] at h;subst h;rfl
 |.program k,v,h,w=>by simp only[aT] at h;simp only[Sem.run];exact gB h w
 |.load ..,_,h,_=>by simp[aT] at h
 |.store ..,_,h,_=>by simp[aT] at h
 |.new ..,_,h,_=>by simp[aT] at h
 |.shape ..,_,h,_=>by simp[aT] at h
 |.freeze ..,_,h,_=>by simp[aT] at h
 |.frozen ..,_,h,_=>by simp[aT] at h
 |.getObj ..,_,h,_=>by simp[aT] at h
 |.setObj ..,_,h,_=>by simp[aT] at h
 |.choose ..,_,h,_=>by simp[aT] at h
 |.sys ..,_,h,_=>by simp[aT] at h
 |.mark ..,_,h,_=>by simp[aT] at h
 |.halt ..,_,h,_=>by simp[aT] at h
inductive cL where
 |one
 |many (n:Nat)
 deriving DecidableEq
def kd (P:Program) (t:TypeId):Option cL:=
 match P.underlying t,P.info? t with
 |some (.struct _),some i=>some (.many i.size)
 |some (.array ..),some i=>some (.many i.size)
 |some _,some i=>if i.size=1 then some .one else none
 |_,_=>none
def fo (P:Program) (t:TypeId) (f:Nat):Option Nat:=
 match P.underlying t with
 |some (.struct fs)=>match fs[f]? with
  |some x=>match P.info? x.type with
   |some i=>if i.size=0 then none else some x.offset
   |none=>none
  |none=>none
 |_=>none
def el (P:Program) (t:TypeId):Option (TypeId×Nat×Nat×List Value):=
 match P.underlying t with
 |some (.slice e)=>match P.info? e with
  |some i=>match i.zero with
   |some z=>if z.cells.size=i.size∧0<i.size∧(z.cells.all fun u=>u.oneCell') then some (e,i.size,i.bytes,z.cells.toList) else none
   |none=>none
  |none=>none
 |_=>none
def zc (P:Program) (t:TypeId):Option (List Value):=
 match P.info? t with
 |some i=>match i.zero with
  |some z=>if z.cells.size=i.size then some z.cells.toList else none
  |none=>none
 |none=>none
def opA (env:Env):Operand→AV
 |.tmp t=>env.getD t .any
 |.const v=>.val v
 |.global g=>.ptr g 0
 |.func f=>.fn (.func f) [] []
mutual
def plain:AV→Option Value
 |.val v=>some v
 |.agg l=>(plains l).map fun vs=>.agg vs.toArray
 |.tup l=>(plains l).map fun vs=>.tuple vs.toArray
 |.ifc t c=>(plain c).map (.iface t)
 |_=>none
def plains:List AV→Option (List Value)
 |[]=>some []
 |c::l=>(plain c).bind fun v=>(plains l).map (v::·)
end
mutual
theorem plain_rel {m:aX} {w:World}:∀{c:AV} {v x:Value},plain c=some v→rel m w c x→x=v
 |.val u,v,x,h,hr=>by simp only[plain,Option.some.injEq] at h;subst h;exact hr
 |.agg l,v,x,h,hr=>by
  simp only[plain,Option.map_eq_some_iff] at h
  obtain⟨vs,h1,rfl⟩:=h
  obtain⟨us,rfl,h2⟩:=hr
  rw[←plains_rel h1 h2]
 |.tup l,v,x,h,hr=>by
  simp only[plain,Option.map_eq_some_iff] at h
  obtain⟨vs,h1,rfl⟩:=h
  obtain⟨us,rfl,h2⟩:=hr
  rw[←plains_rel h1 h2]
 |.ifc t c,v,x,h,hr=>by
  simp only[plain,Option.map_eq_some_iff] at h
  obtain⟨u,h1,rfl⟩:=h
  obtain⟨y,rfl,h2⟩:=hr
  rw[plain_rel h1 h2]
 |.ptr ..,_,_,h,_=>by simp[plain] at h
 |.sl ..,_,_,h,_=>by simp[plain] at h
 |.mp ..,_,_,h,_=>by simp[plain] at h
 |.fn ..,_,_,h,_=>by simp[plain] at h
 |.any,_,_,h,_=>by simp[plain] at h
theorem plains_rel {m:aX} {w:World}:∀{l:List AV} {vs us:List Value},plains l=some vs→rels m w l us→us=vs
 |[],vs,us,h,hr=>by
  simp only[plains,Option.some.injEq] at h
  subst h
  cases us with
  |nil=>rfl
  |cons _ _=>exact hr.elim
 |c::l,vs,us,h,hr=>by
  simp only[plains,Option.bind_eq_some_iff,Option.map_eq_some_iff] at h
  obtain⟨v,h1,vs',h2,rfl⟩:=h
  cases us with
  |nil=>exact hr.elim
  |cons u us=>rw[plain_rel h1 hr.1,plains_rel h2 hr.2]
end
def cellsOf (H:aB) (o:Nat):Option (List AV):=
 match H[o]? with
 |some (.ro cs)=>some cs
 |some (.own _ cs)=>some cs
 |_=>none
def AV.one:AV→Bool
 |.val v=>v.oneCell'
 |.agg _=>false
 |.tup _=>false
 |.any=>false
 |_=>true
theorem aFH {m:aX} {w:World} {c:AV} {v:Value} (h:c.one=true) (hr:rel m w c v):v.oneCell'=true:=by
 cases c with
 |val u=>rw[show v=u from hr];exact h
 |ptr o off=>obtain⟨b,_,rfl⟩:=hr;rfl
 |sl a o off len st=>obtain⟨b,a,cap,_,rfl,_⟩:=hr;rfl
 |mp o=>obtain⟨b,_,rfl⟩:=hr;rfl
 |ifc t c=>obtain⟨u,rfl,_⟩:=hr;rfl
 |fn f a c=>obtain⟨us,vs,rfl,_⟩:=hr;rfl
 |agg _=>simp[AV.one] at h
 |tup _=>simp[AV.one] at h
 |any=>simp[AV.one] at h
def dS:AV→Option (List AV)
 |.agg l=>if l.all AV.one then some l else none
 |.val v=>if v.oneCell' then some [.val v] else match v with|.agg vs=>if vs.toList.all Value.oneCell' then some (vs.toList.map .val) else none|_=>none
 |.any=>none
 |.tup _=>none
 |c=>some [c]
theorem p8 (m:aX) (w:World):∀vs:List Value,rels m w (vs.map .val) vs
 |[]=>trivial
 |v::vs=>⟨rfl,p8 m w vs⟩
theorem zD {m:aX} {w:World}:∀{l:List AV} {vs:List Value},l.all AV.one=true→rels m w l vs→∀v∈vs,v.oneCell'=true
 |[],[],_,_=>by simp
 |c::l,v::vs,h,hr=>by
  simp only[List.all_cons,Bool.and_eq_true] at h
  intro u hu
  rcases List.mem_cons.1 hu with rfl|hu
  ·exact aFH h.1 hr.1
  ·exact zD h.2 hr.2 u hu
 |[],_::_,_,hr=>hr.elim
 |_::_,[],_,hr=>hr.elim
theorem aB4 {v:Value} (h:v.oneCell'=true):v.cells=#[v]:=by cases v<;>first|rfl|simp[Value.oneCell'] at h
theorem rN {m:aX} {w:World} {c:AV} {v:Value} {l:List AV} (h:dS c=some l) (hr:rel m w c v) :
  rels m w l v.cells.toList∧∀u∈v.cells.toList,u.oneCell'=true:=by
 have lone:∀c:AV,c.one=true→rel m w c v→dS c=some [c]→dS c=some l→rels m w l v.cells.toList∧∀u∈v.cells.toList,u.oneCell'=true:=by
  intro c h1 hr h2 h3
  rw[h2] at h3
  obtain rfl:=Option.some.inj h3
  have h4:=aFH h1 hr
  rw[aB4 h4]
  exact⟨⟨hr,trivial⟩,by simpa using h4⟩
 cases c with
 |agg l'=>
  simp only[dS] at h
  split at h
  ·rename_i ha
   obtain rfl:=Option.some.inj h
   obtain⟨vs,rfl,h2⟩:=hr
   exact⟨h2,zD ha h2⟩
  ·cases h
 |val u=>
  have hu:v=u:=hr
  subst hu
  simp only[dS] at h
  split at h
  ·rename_i h1
   obtain rfl:=Option.some.inj h
   rw[aB4 h1]
   exact⟨⟨rfl,trivial⟩,by simpa using h1⟩
  ·split at h
   ·split at h
    ·rename_i vs _ ha
     obtain rfl:=Option.some.inj h
     exact⟨p8 m w _,fun u hu=>List.all_eq_true.1 ha u (by simpa [Value.cells] using hu)⟩
    ·cases h
   ·cases h
 |any=>simp[dS] at h
 |tup _=>simp[dS] at h
 |ptr o off=>exact lone _ rfl hr rfl h
 |sl a o off len st=>exact lone _ rfl hr rfl h
 |mp o=>exact lone _ rfl hr rfl h
 |ifc t c=>exact lone _ rfl hr rfl h
 |fn f a c=>exact lone _ rfl hr rfl h
abbrev Ans:=Option (AV×aB)
def iE (P:Program) (t:TypeId) (x:AV) (H:aB):Ans:=
 match x with
 |.ptr o off=>match cellsOf H o,kd P t with
  |some cs,some .one=>(cs[off]?).map fun c=>(c,H)
  |some cs,some (.many n)=>if off+n≤cs.length then some (.agg ((cs.drop off).take n),H) else none
  |_,_=>none
 |_=>none
def fQ (cs:List AV) (i:Nat) (l:List AV):List AV:=cs.take i++l++cs.drop (i+l.length)
def oR (P:Program) (t:TypeId) (x v:AV) (H:aB):Option aB:=
 match x,dS v with
 |.ptr o off,some l=>match H[o]? with
  |some (.own e cs)=>if (P.info? t).map (·.size)=some l.length∧off+l.length≤cs.length then some (H.set o (.own e (fQ cs off l))) else none
  |_=>none
 |_,_=>none
theorem oS (b o k:Nat):(⟨b,o,none⟩:Addr).add k=⟨b,o+k,none⟩:=by unfold Addr.add;split<;>simp_all
theorem aC9 {P:Program} {w:World} {a:Addr} {v:Value} (h:w.cell? a=some v):(load a).run P w=.ok v w:=by simp[load,Sem.run,h]
theorem uP {P:Program} {w:World} (b o:Nat):∀(n i:Nat) (vs acc:List Value),vs.length=n→(∀j v,vs[j]?=some v→w.cell? ⟨b,o+(i+j),none⟩=some v)→
  (loadCellsFrom ⟨b,o,none⟩ i n acc.toArray).run P w=.ok (acc++vs).toArray w
 |0,i,vs,acc,hl,_=>by
  obtain rfl:=List.eq_nil_of_length_eq_zero hl
  simp[loadCellsFrom]
 |n+1,i,vs,acc,hl,h=>by
  cases vs with
  |nil=>simp at hl
  |cons v vs=>
   have h0:=h 0 v rfl
   rw[Nat.add_zero] at h0
   rw[loadCellsFrom,Sem.run_bind,oS,aC9 h0,Result.andThen_ok]
   have:=uP (P:=P) b o n (i+1) vs (acc++[v]) (by simpa using hl) (fun j u hj=>by
    have:=h (j+1) u (by simpa using hj)
    rwa [show o+(i+(j+1))=o+(i+1+j) by omega] at this)
   simpa using this
variable {P:Program} {C:dC}
theorem pD {t:TypeId} {d:TypeDesc} {w:World} (hu:P.underlying t=some d) (hs:∀fs,d≠.struct fs) (ha:∀l e,d≠.array l e):(isAgg t).run P w=.ok false w:=by
 unfold isAgg
 rw[Sem.run_bind,run_underlying hu,Result.andThen_ok]
 cases d<;>simp_all
theorem aBI {t:TypeId} {d:TypeDesc} {w:World} (hu:P.underlying t=some d) (hs:(∃fs,d=.struct fs)∨(∃l e,d=.array l e)):(isAgg t).run P w=.ok true w:=by
 unfold isAgg
 rw[Sem.run_bind,run_underlying hu,Result.andThen_ok]
 rcases hs with ⟨_,rfl⟩|⟨_,_,rfl⟩<;>simp
theorem fR {t:TypeId} {i:TypeInfo} {w:World} (hi:P.info? t=some i):(sizeOf t).run P w=.ok i.size w:=by
 simp[sizeOf,typeInfo,hi]
theorem aDs {t:TypeId} (h:kd P t=some .one):∃d i,P.underlying t=some d∧P.info? t=some i∧i.size=1∧(∀fs,d≠.struct fs)∧∀l e,d≠.array l e:=by
 unfold kd at h
 split at h
 ·simp at h
 ·simp at h
 ·rename_i d i hu hi hs ha
  split at h
  ·exact⟨d,i,hs,ha,by assumption,fun fs e=>hu fs e,fun l e he=>hi l e he⟩
  ·cases h
 ·cases h
theorem aO4 {t:TypeId} {n:Nat} (h:kd P t=some (.many n)):∃d i,P.underlying t=some d∧P.info? t=some i∧i.size=n∧((∃fs,d=.struct fs)∨∃l e,d=.array l e):=by
 unfold kd at h
 split at h
 ·rename_i fs i hu hi
  simp only[Option.some.injEq,cL.many.injEq] at h
  exact⟨_,i,hu,hi,h,.inl ⟨_,rfl⟩⟩
 ·rename_i l e i hu hi
  simp only[Option.some.injEq,cL.many.injEq] at h
  exact⟨_,i,hu,hi,h,.inr ⟨_,_,rfl⟩⟩
 ·split at h<;>simp at h
 ·cases h
theorem cE.cell {m:aX} {w:World} {H:aB} (h:cE C m w H) {o:Nat} {cs:List AV} (hc:cellsOf H o=some cs) {b:Nat×Nat} (hb:m[o]?=some b) {j:Nat} {c:AV} (hj:cs[j]?=some c) :
  ∃v,w.cell? ⟨b.1,b.2+j,none⟩=some v∧rel m w c v:=by
 unfold cellsOf at hc
 split at hc
 ·rename_i cs' hx
  obtain rfl:=Option.some.inj hc
  exact (h.obj _ _ _ hx hb).2 j c hj
 ·rename_i e cs' hx
  obtain rfl:=Option.some.inj hc
  obtain⟨_,arr,h1,_,h3⟩:=h.obj _ _ _ hx hb
  obtain⟨v,h4,h5⟩:=h3 j c hj
  exact⟨v,by simp[World.cell?,h1,h4],h5⟩
 ·cases hc
theorem cE.cells {m:aX} {w:World} {H:aB} (h:cE C m w H) {o:Nat} {cs:List AV} (hc:cellsOf H o=some cs) {b:Nat×Nat} (hb:m[o]?=some b) :
  ∀(n i:Nat),i+n≤cs.length→∃vs:List Value,vs.length=n∧(∀j v,vs[j]?=some v→w.cell? ⟨b.1,b.2+(i+j),none⟩=some v)∧rels m w ((cs.drop i).take n) vs
 |0,i,_=>⟨[],rfl,by simp,by simp[rels]⟩
 |n+1,i,hi=>by
  have hlt:i<cs.length:=by omega
  obtain⟨v,h1,h2⟩:=h.cell hc hb (List.getElem?_eq_getElem hlt)
  obtain⟨vs,h3,h4,h5⟩:=h.cells hc hb n (i+1) (by omega)
  refine⟨v::vs,by simp[h3],fun j u hj=>?_,?_⟩
  ·cases j with
   |zero=>simp at hj;subst hj;exact h1
   |succ j=>have:=h4 j u (by simpa using hj);rwa [show b.2+(i+(j+1))=b.2+(i+1+j) by omega]
  ·rw[List.drop_eq_getElem_cons hlt,List.take_succ_cons]
   exact⟨h2,h5⟩
theorem aB5 {t:TypeId} {x:AV} {H H':aB} {r:AV} (h:iE P t x H=some (r,H')) {m:aX} {w:World} (hR:cE C m w H) {v:Value} (hv:rel m w x v) :
  H'=H∧∃u,(Instr.loadAt t v).run P w=.ok u w∧rel m w r u:=by
 unfold iE at h
 split at h
 ·rename_i o off
  obtain⟨b,hb,rfl⟩:=hv
  split at h
  ·rename_i cs hc hk
   simp only[Option.map_eq_some_iff,Prod.mk.injEq] at h
   obtain⟨c,hcs,rfl,rfl⟩:=h
   obtain⟨u,h1,h2⟩:=hR.cell hc hb hcs
   refine⟨rfl,u,?_,h2⟩
   obtain⟨d,i,hu,_,_,hs,ha⟩:=aDs hk
   simp[Instr.loadAt,Instr.sureAddr,loadVar,pD hu hs ha,load,Sem.run,h1]
  ·rename_i cs n hc hk
   split at h
   ·rename_i hle
    simp only[Option.some.injEq,Prod.mk.injEq] at h
    obtain⟨rfl,rfl⟩:=h
    obtain⟨vs,h1,h2,h3⟩:=hR.cells hc hb n off hle
    refine⟨rfl,.agg vs.toArray,?_,vs.toArray,rfl,by simpa using h3⟩
    have hrun:=uP (P:=P) (w:=w) b.1 (b.2+off) n 0 vs [] h1 (fun j u hj=>by
     have:=h2 j u hj
     rwa [show b.2+(off+j)=b.2+off+(0+j) by omega] at this)
    obtain⟨d,i,hu,hi,hn,hs⟩:=aO4 hk
    have hrun2:(loadCells ⟨b.1,b.2+off,none⟩ n).run P w=.ok vs.toArray w:=by unfold loadCells;simpa using hrun
    simp[Instr.loadAt,Instr.sureAddr,loadVar,aBI hu hs,fR hi,hn,hrun2]
   ·cases h
  ·cases h
 ·cases h
structure aDt (w w':World) (b:Nat) (e:TypeId) (arr:Array Value) (i:Nat) (vs:List Value):Prop where
 os:w'.os=w.os
 tape:w'.tape=w.tape
 output:w'.output=w.output
 size:w'.heap.size=w.heap.size
 far:∀k,k≠b→w'.heap[k]?=w.heap[k]?
 here:∃arr',w'.heap[b]?=some (.cells arr' e (0,0))∧arr'.size=arr.size∧∀j,arr'[j]?=if i≤j∧j<i+vs.length then vs[j-i]? else arr[j]?
theorem aBJ {P:Program} {w:World} {b i:Nat} {e:TypeId} {arr:Array Value} (h:w.heap[b]?=some (.cells arr e (0,0))) (hi:i<arr.size) {v:Value} (h1:v.oneCell'=true) :
  (store ⟨b,i,none⟩ v).run P w=.ok () (w.setCell ⟨b,i,none⟩ v):=by
 have hc:w.cell? ⟨b,i,none⟩=some arr[i]:=by simp[World.cell?,h,hi]
 have hf:w.frozen? ⟨b,i,none⟩=false:=by simp[World.frozen?,h]
 cases v<;>first|(simp[Value.oneCell'] at h1;done)|simp[store,Sem.run,hc,hf]
theorem sC {P:Program} (b o:Nat) (e:TypeId):∀(vs:List Value) (i:Nat) (w:World) (arr:Array Value),w.heap[b]?=some (.cells arr e (0,0))→o+i+vs.length≤arr.size→(∀v∈vs,v.oneCell'=true)→
  ∃w',(storeCells ⟨b,o,none⟩ vs i).run P w=.ok () w'∧aDt w w' b e arr (o+i) vs
 |[],i,w,arr,h,hl,h1=>⟨w,by simp[storeCells],rfl,rfl,rfl,rfl,fun _ _=>rfl,arr,h,rfl,fun j=>by simp;intro h1 h2;omega⟩
 |v::vs,i,w,arr,h,hl,h1=>by
  simp only[List.length_cons] at hl
  have hr:=aBJ (P:=P) h (i:=o+i) (by omega) (h1 v (by simp))
  have hh:(w.setCell ⟨b,o+i,none⟩ v).heap[b]?=some (.cells (arr.setIfInBounds (o+i) v) e (0,0)):=by simp[World.setCell,Array.getElem?_modify,h]
  obtain⟨w',h2,h3⟩:=sC b o e vs (i+1) _ _ hh (by simp;omega) (fun u hu=>h1 u (by simp[hu]))
  refine⟨w',?_,h3.os,h3.tape,h3.output,h3.size.trans (by simp[World.setCell]),fun k hk=>(h3.far k hk).trans (Below.heap_setCell w _ v k hk),?_⟩
  ·rw[storeCells,Sem.run_bind,oS,hr,Result.andThen_ok];exact h2
  ·obtain⟨arr',h4,h5,h6⟩:=h3.here
   refine⟨arr',h4,by simpa using h5,fun j=>?_⟩
   rw[h6 j]
   by_cases hj:j=o+i
   ·subst hj
    rw[if_neg (by omega),if_pos (by simp)]
    simp[show o+i<arr.size by omega]
   ·by_cases h7:o+(i+1)≤j∧j<o+(i+1)+vs.length
    ·rw[if_pos h7,if_pos (by simp;omega),show j-(o+i)=(j-(o+(i+1)))+1 by omega]
     simp
    ·rw[if_neg h7,if_neg (by simp;omega)]
     rw[Array.getElem?_setIfInBounds_ne (by omega)]
theorem aDt.szs {w w':World} {b i:Nat} {e:TypeId} {arr:Array Value} {vs:List Value} (h:aDt w w' b e arr i vs) (hb:w.heap[b]?=some (.cells arr e (0,0))):Szs w w':=fun k a e' fr hk=>by
 by_cases he:k=b
 ·subst he
  rw[hb] at hk
  obtain⟨arr',h1,h2,_⟩:=h.here
  injection hk with hk
  injection hk with ha he' hf
  subst ha;subst he';subst hf
  exact⟨arr',h1,h2⟩
 ·exact⟨a,(h.far k he).trans hk,rfl⟩
theorem iT {m:aX} {w w':World} {b:Nat×Nat} {x:aD} (h:relO C m w b x) (hs:Szs w w') (hk:w'.heap[b.1]?=w.heap[b.1]?):relO C m w' b x:=by
 cases x with
 |ro cs=>exact⟨h.1,fun j c hj=>by
   obtain⟨v,h1,h2⟩:=h.2 j c hj
   exact⟨v,(World.cell?_of_block (a:=⟨b.1,b.2+j,none⟩) hk).trans h1,rel_more (List.prefix_refl m) hs h2⟩⟩
 |own e cs=>
  obtain⟨h0,arr,h1,h2,h3⟩:=h
  exact⟨h0,arr,hk.trans h1,h2,fun j c hj=>by
   obtain⟨v,h4,h5⟩:=h3 j c hj
   exact⟨v,h4,rel_more (List.prefix_refl m) hs h5⟩⟩
 |map es=>
  obtain⟨h0,ens,clock,h1,h2,h3⟩:=h
  exact⟨h0,ens,clock,hk.trans h1,h2,fun j k c hj=>by
   obtain⟨en,h4,h5,h6⟩:=h3 j k c hj
   exact⟨en,h4,h5,rel_more (List.prefix_refl m) hs h6⟩⟩
 |mapI es=>
  obtain⟨h0,ens,clock,h1,h2⟩:=h
  exact⟨h0,ens,clock,hk.trans h1,h2⟩
 |gone=>trivial
theorem tD {m:aX} {w:World} {b:Nat×Nat} {x:aD} (h:relO C m w b x) (hx:x.mine=false) (hg:x≠.gone):b.1<C.B:=by
 cases x with
 |ro cs=>exact h.1
 |own e cs=>simp[aD.mine] at hx
 |map es=>simp[aD.mine] at hx
 |mapI es=>simp[aD.mine] at hx
 |gone=>exact absurd rfl hg
theorem cE.turn {m:aX} {w w':World} {H:aB} (h:cE C m w H) {o:Nat} {b:Nat×Nat} {e:TypeId} {cs cs':List AV} (ho:H[o]?=some (.own e cs)) (hb:m[o]?=some b)
  (hos:w'.os=w.os) (htape:w'.tape=w.tape) (hout:w'.output=w.output) (hsize:w'.heap.size=w.heap.size) (hfar:∀k,k≠b.1→w'.heap[k]?=w.heap[k]?) (hs:Szs w w')
  (hnew:∃arr,w'.heap[b.1]?=some (.cells arr e (0,0))∧b.2+cs'.length≤arr.size∧∀(j:Nat) c,cs'[j]?=some c→∃v,arr[b.2+j]?=some v∧rel m w' c v) :
  cE C m w' (H.set o (.own e cs')):=by
 have hB:C.B≤b.1:=(h.obj _ _ _ ho hb).1.1
 have hlt:o<H.length:=(List.getElem?_eq_some_iff.1 ho).1
 refine⟨⟨hos.trans h.below.os,htape.trans h.below.tape,hout.trans h.below.output,by rw[hsize];exact h.below.size,fun k hk=>(hfar k (by omega)).trans (h.below.block k hk)⟩,by rw[hsize];exact h.size,by simpa using h.len,h.glob,?_,?_⟩
 ·intro q x b' hx hb'
  by_cases hq:q=o
  ·subst hq
   rw[List.getElem?_set_self hlt] at hx
   obtain rfl:=Option.some.inj hx
   rw[hb] at hb'
   obtain rfl:=Option.some.inj hb'
   exact⟨(h.obj _ _ _ ho hb).1,hnew⟩
  ·rw[List.getElem?_set_ne (by omega)] at hx
   have hr:=h.obj _ _ _ hx hb'
   by_cases hg:x=.gone
   ·subst hg;trivial
   ·refine iT hr hs (hfar _ ?_)
    cases hm:x.mine with
    |true=>exact h.apart q o x _ b' b hq hx ho hb' hb hm rfl
    |false=>have:=tD hr hm hg;omega
 ·intro q q' x x' b1 b2 hne hx hx' h1 h2 hm hm'
  have aux:∀(q:Nat) x,(H.set o (.own e cs'))[q]?=some x→x.mine=true→∃y,H[q]?=some y∧y.mine=true:=by
   intro q x hx hm
   by_cases hq:q=o
   ·subst hq;exact⟨_,ho,rfl⟩
   ·rw[List.getElem?_set_ne (by omega)] at hx;exact⟨x,hx,hm⟩
  obtain⟨y,hy,hym⟩:=aux q x hx hm
  obtain⟨y',hy',hym'⟩:=aux q' x' hx' hm'
  exact h.apart q q' y y' b1 b2 hne hy hy' h1 h2 hym hym'
theorem qQ (cs:List AV) (i:Nat) (l:List AV) (h:i+l.length≤cs.length):(fQ cs i l).length=cs.length:=by
 simp[fQ];omega
theorem uY (cs:List AV) (i:Nat) (l:List AV) (h:i+l.length≤cs.length) (j:Nat):(fQ cs i l)[j]?=if i≤j∧j<i+l.length then l[j-i]? else cs[j]?:=by
 unfold fQ
 by_cases h1:j<i
 ·rw[if_neg (by omega),List.append_assoc,List.getElem?_append_left (by simp;omega),List.getElem?_take_of_lt h1]
 ·by_cases h2:j<i+l.length
  ·rw[if_pos ⟨by omega,h2⟩,List.append_assoc,List.getElem?_append_right (by simp;omega),List.getElem?_append_left (by simp;omega)]
   simp[show min i cs.length=i by omega]
  ·rw[if_neg (by omega),List.getElem?_append_right (by simp;omega)]
   simp[show min i cs.length=i by omega,List.getElem?_drop]
   congr 1;omega
theorem aHA {t:TypeId} {x y:AV} {H H':aB} (h:oR P t x y H=some H') {m:aX} {w:World} (hR:cE C m w H) {v u:Value} (hv:rel m w x v) (hu:rel m w y u) :
  ∃w',(Instr.storeAt t v u).run P w=.ok () w'∧Fwd C m w m w' H':=by
 unfold oR at h
 split at h
 ·rename_i o off l hl
  obtain⟨b,hb,rfl⟩:=hv
  split at h
  ·rename_i e cs ho
   split at h
   ·rename_i hc
    obtain⟨hsz,hle⟩:=hc
    obtain rfl:=Option.some.inj h
    obtain⟨h1,h2⟩:=rN hl hu
    obtain⟨hB,arr,h3,h4,h5⟩:=hR.obj _ _ _ ho hb
    have hll:=gA h1
    obtain⟨w',h6,h7⟩:=sC (P:=P) b.1 (b.2+off) e u.cells.toList 0 w arr h3 (by rw[←hll];omega) h2
    rw[Nat.add_zero] at h7
    have hs:=h7.szs h3
    refine⟨w',?_,List.prefix_refl m,hs,?_⟩
    ·obtain⟨i,hi,hsz'⟩:=Option.map_eq_some_iff.1 hsz
     have:u.cells.size=i.size:=by rw[hsz',hll];simp
     simp[Instr.storeAt,Instr.sureAddr,storeVar,fR hi,this,h6]
    ·refine hR.turn ho hb h7.os h7.tape h7.output h7.size h7.far hs ?_
     obtain⟨arr',h8,h9,h10⟩:=h7.here
     refine⟨arr',h8,by rw[qQ _ _ _ hle];omega,fun j c hj=>?_⟩
     rw[uY _ _ _ hle] at hj
     split at hj
     ·rename_i hlt
      obtain⟨v,h11,h12⟩:=fP h1 _ _ hj
      refine⟨v,?_,rel_more (List.prefix_refl m) hs h12⟩
      rw[h10,if_pos ⟨by omega,by rw[←hll];omega⟩,show b.2+j-(b.2+off)=j-off by omega,h11]
     ·rename_i hlt
      obtain⟨v,h11,h12⟩:=h5 j c hj
      refine⟨v,?_,rel_more (List.prefix_refl m) hs h12⟩
      rw[h10,if_neg (by rw[←hll];omega),h11]
   ·cases h
  ·cases h
 ·cases h
theorem cE.new {m:aX} {w:World} {H:aB} (h:cE C m w H) (e:TypeId) {arr:Array Value} {cs:List AV} (hcs:∀(j:Nat) c,cs[j]?=some c→∃v,arr[j]?=some v∧rel m w c v) (hl:cs.length≤arr.size) :
  Fwd C m w (m++[(w.heap.size,0)]) (w.alloc (.cells arr e)) (H++[.own e cs]):=by
 have hpre:m <+: m++[(w.heap.size,0)]:=List.prefix_append _ _
 have hs:Szs w (w.alloc (.cells arr e)):=fun k a e' fr hk=>⟨a,by
  have hlt:k<w.heap.size:=(Array.getElem?_eq_some_iff.1 hk).1
  rw[Below.heap_alloc w _ k hlt];exact hk,rfl⟩
 have hnew:=heap_alloc_new w (.cells arr e)
 have hold:∀(o:Nat) x b,H[o]?=some x→m[o]?=some b→x.mine=true→b.1<w.heap.size:=by
  intro o x b hx hb hm
  have hr:=h.obj _ _ _ hx hb
  cases x with
  |own e cs=>obtain⟨_,arr,h1,_⟩:=hr;exact (Array.getElem?_eq_some_iff.1 h1).1
  |map es=>obtain⟨_,_,_,h1,_⟩:=hr;exact (Array.getElem?_eq_some_iff.1 h1).1
  |mapI es=>obtain⟨_,_,_,h1,_⟩:=hr;exact (Array.getElem?_eq_some_iff.1 h1).1
  |ro _=>simp[aD.mine] at hm
  |gone=>simp[aD.mine] at hm
 refine⟨hpre,hs,⟨h.below.alloc h.size _,by have:=h.size;simp;omega,by simp[h.len],fun g hg=>gY hpre (h.glob g hg),?_,?_⟩⟩
 ·intro o x b hx hb
  by_cases ho:o<H.length
  ·rw[List.getElem?_append_left ho] at hx
   rw[List.getElem?_append_left (by rw[h.len];exact ho)] at hb
   have hr:=h.obj _ _ _ hx hb
   have hk:x≠.gone→(w.alloc (.cells arr e)).heap[b.1]?=w.heap[b.1]?:=fun hg=>by
    refine Below.heap_alloc w _ b.1 ?_
    cases hm:x.mine with
    |true=>exact hold o x b hx hb hm
    |false=>have:=tD hr hm hg;have:=h.size;omega
   cases x with
   |gone=>trivial
   |ro cs=>
    have:=iT hr hs (hk (by simp))
    exact⟨this.1,fun j c hj=>by
     obtain⟨v,h1,h2⟩:=this.2 j c hj
     exact⟨v,h1,rel_more hpre (Szs.refl _) h2⟩⟩
   |own e' cs'=>
    obtain⟨h0,a,h1,h2,h3⟩:=iT hr hs (hk (by simp))
    exact⟨h0,a,h1,h2,fun j c hj=>by
     obtain⟨v,h4,h5⟩:=h3 j c hj
     exact⟨v,h4,rel_more hpre (Szs.refl _) h5⟩⟩
   |map es=>
    obtain⟨h0,ens,clock,h1,h2,h3⟩:=iT hr hs (hk (by simp))
    exact⟨h0,ens,clock,h1,h2,fun j k c hj=>by
     obtain⟨en,h4,h5,h6⟩:=h3 j k c hj
     exact⟨en,h4,h5,rel_more hpre (Szs.refl _) h6⟩⟩
   |mapI es=>
    obtain⟨h0,ens,clock,h1,h2⟩:=iT hr hs (hk (by simp))
    exact⟨h0,ens,clock,h1,h2⟩
  ·have ho':o=H.length:=by
    have:=(List.getElem?_eq_some_iff.1 hx).1
    simp at this;omega
   subst ho'
   rw[List.getElem?_append_right (by omega)] at hx
   rw[List.getElem?_append_right (by rw[h.len];omega),h.len] at hb
   simp at hx hb
   subst hx;subst hb
   exact⟨⟨h.size,rfl⟩,arr,hnew,by omega,fun j c hj=>by
    obtain⟨v,h1,h2⟩:=hcs j c hj
    exact⟨v,by simpa using h1,rel_more hpre hs h2⟩⟩
 ·intro o o' x x' b b' hne hx hx' hb hb' hm hm'
  have aux:∀(o:Nat) x b,(H++[.own e cs])[o]?=some x→(m++[(w.heap.size,0)])[o]?=some b→x.mine=true→(o<H.length∧H[o]?=some x∧m[o]?=some b)∨(o=H.length∧b.1=w.heap.size):=by
   intro o x b hx hb hm
   by_cases ho:o<H.length
   ·rw[List.getElem?_append_left ho] at hx
    rw[List.getElem?_append_left (by rw[h.len];exact ho)] at hb
    exact .inl ⟨ho,hx,hb⟩
   ·have ho':o=H.length:=by
     have:=(List.getElem?_eq_some_iff.1 hx).1
     simp at this;omega
    subst ho'
    rw[List.getElem?_append_right (by rw[h.len];omega),h.len] at hb
    simp at hb
    exact .inr ⟨rfl,by rw[←hb]⟩
  rcases aux o x b hx hb hm with ⟨h1,h2,h3⟩|⟨h1,h2⟩<;>rcases aux o' x' b' hx' hb' hm' with ⟨k1,k2,k3⟩|⟨k1,k2⟩
  ·exact h.apart o o' x x' b b' hne h2 k2 h3 k3 hm hm'
  ·have:=hold o x b h2 h3 hm;omega
  ·have:=hold o' x' b' k2 k3 hm';omega
  ·omega
variable {P:Program} {C:dC}
theorem aB6:∀(l:List Value) (off k:Nat) (arr:Array Value),∃arr':Array Value,(l.zipIdx k).foldl (fun cs (c:Value×Nat)=>cs.setIfInBounds (off+c.2) c.1) arr=arr'∧arr'.size=arr.size∧
  ∀j,arr'[j]?=if off+k≤j∧j<off+k+l.length∧j<arr.size then l[j-(off+k)]? else arr[j]?
 |[],off,k,arr=>⟨arr,rfl,rfl,fun j=>by rw[if_neg (by simp;omega)]⟩
 |v::l,off,k,arr=>by
  obtain⟨arr',h1,h2,h3⟩:=aB6 l off (k+1) (arr.setIfInBounds (off+k) v)
  refine⟨arr',by simpa using h1,by simpa using h2,fun j=>?_⟩
  rw[h3 j]
  simp only[Array.size_setIfInBounds,List.length_cons]
  by_cases hj:j=off+k
  ·subst hj
   rw[if_neg (by omega)]
   by_cases hs:off+k<arr.size
   ·rw[if_pos (by omega)];simp[hs]
   ·rw[if_neg (by omega)]
    rw[Array.getElem?_eq_none (by simp;omega),Array.getElem?_eq_none (by omega)]
  ·by_cases h7:off+(k+1)≤j∧j<off+(k+1)+l.length∧j<arr.size
   ·rw[if_pos h7,if_pos (by omega),show j-(off+k)=(j-(off+(k+1)))+1 by omega]
    simp
   ·rw[if_neg h7,if_neg (by omega),Array.getElem?_setIfInBounds_ne (by omega)]
def pH (place:Nat→Option (Nat×Nat)) (cells:List AV):List (Nat×List AV)→Option (List AV)
 |[]=>some cells
 |(i,l)::r=>match place i with
  |none=>none
  |some (off,size)=>if l.length=size∧off+l.length≤cells.length then pH place (fQ cells off l) r else none
inductive lW (m:aX) (w:World):List (Nat×List AV)→List (Nat×Value)→Prop where
 |nil:lW m w [] []
 |cons {i:Nat} {l:List AV} {v:Value} {r:List (Nat×List AV)} {s:List (Nat×Value)} (h:rels m w l v.cells.toList) (k:lW m w r s):lW m w ((i,l)::r) ((i,v)::s)
theorem tE {m:aX} {w:World} {place:Nat→Option (Nat×Nat)} {r:List (Nat×List AV)} {s:List (Nat×Value)} (h:lW m w r s) :
  ∀{cells:List AV} {vs:Array Value} {cs:List AV},rels m w cells vs.toList→pH place cells r=some cs→∃us,Instr.fill place vs s=some us∧rels m w cs us.toList:=by
 induction h with
 |nil=>intro cells vs cs hc hf;simp only[pH,Option.some.injEq] at hf;subst hf;exact⟨vs,rfl,hc⟩
 |@cons i l v r s hl hk ih=>
  intro cells vs cs hc hf
  simp only[pH] at hf
  split at hf
  ·cases hf
  ·rename_i off size hp
   split at hf
   ·rename_i hsz
    have h1:l.length=v.cells.size:=by simpa using gA hl
    have h2:cells.length=vs.size:=by simpa using gA hc
    obtain⟨arr',h3,h4,h5⟩:=aB6 v.cells.toList off 0 vs
    have h6:rels m w (fQ cells off l) arr'.toList:=by
     refine rM (by rw[qQ _ _ _ hsz.2];simp;omega) fun j c u hj hu=>?_
     rw[uY _ _ _ hsz.2] at hj
     rw[Array.getElem?_toList,h5] at hu
     split at hj
     ·rename_i hlt
      rw[if_pos (by simp;omega),show j-(off+0)=j-off by omega] at hu
      obtain⟨x,hx,hr⟩:=fP hl _ _ hj
      rw[hu] at hx;obtain rfl:=Option.some.inj hx;exact hr
     ·rename_i hlt
      rw[if_neg (by simp;omega)] at hu
      obtain⟨x,hx,hr⟩:=fP hc _ _ hj
      rw[Array.getElem?_toList,hu] at hx;obtain rfl:=Option.some.inj hx;exact hr
    obtain⟨us,h7,h8⟩:=ih h6 hf
    refine⟨us,?_,h8⟩
    have h9:(v.cells.zipIdx.foldl (fun cs (c:Value×Nat)=>cs.setIfInBounds (off+c.2) c.1) vs)=arr':=by
     rw[←h3,←Array.foldl_toList,Array.toList_zipIdx]
    unfold Instr.fill
    simp only[hp]
    rw[if_neg (by simp;omega)]
    rw[←h7]
    exact congrArg (fun x=>Instr.fill place x s) h9
   ·cases hf
def fp (P:Program) (t:TypeId):Option (List (Nat×Nat)):=
 match P.underlying t with
 |some (.struct fs)=>fs.toList.mapM fun f=>(P.info? f.type).map fun i=>(f.offset,i.size)
 |_=>none
theorem z9 {w:World}:∀(fs:List Field) (l:List (Nat×Nat)),(fs.mapM fun f=>(P.info? f.type).map fun i=>(f.offset,i.size))=some l→
  (fs.mapM (m:=Sem) fun f=>do pure (f.offset,←sizeOf f.type)).run P w=.ok l w
 |[],l,h=>by simp at h;subst h;simp
 |f::fs,l,h=>by
  simp only[List.mapM_cons,Option.bind_eq_bind,Option.bind_eq_some_iff,Option.map_eq_some_iff,Option.pure_def,Option.some.injEq] at h
  obtain⟨_,⟨i,hi,rfl⟩,l',h2,rfl⟩:=h
  rw[List.mapM_cons]
  simp only[Sem.run_bind,fR hi,Result.andThen_ok,Sem.run_pure,z9 fs l' h2]
theorem zE {t:TypeId} {zs:List Value} {w:World} (h:zc P t=some zs):∃z,(zeroValue t).run P w=.ok z w∧z.cells.toList=zs:=by
 unfold zc at h
 split at h
 ·rename_i i hi
  split at h
  ·rename_i z hz
   split at h
   ·obtain rfl:=Option.some.inj h
    exact⟨z,by simp[zeroValue,typeInfo,hi,hz],rfl⟩
   ·cases h
  ·cases h
 ·cases h
def hZ (env:Env):List (Nat×Operand)→Option (List (Nat×List AV))
 |[]=>some []
 |(i,x)::r=>(dS (opA env x)).bind fun l=>(hZ env r).map ((i,l)::·)
theorem nN {m:aX} {w:World} {env:Env} {a:Act} (h:fG m w env a) {H:aB} (hH:cE C m w H) {x:Operand} (hx:∀g,x=.global g→g<C.nG):rel m w (opA env x) (a.eval x):=by
 cases x with
 |tmp t=>exact h.get t
 |const v=>exact rfl
 |global g=>exact⟨(g,0),hH.glob g (hx g rfl),rfl⟩
 |func f=>exact⟨#[],#[],rfl,trivial,trivial⟩
def okX (n:Nat):Operand→Bool
 |.global g=>decide (g<n)
 |_=>true
theorem lX {n:Nat} {x:Operand} (h:okX n x=true):∀g,x=.global g→g<n:=fun g hg=>by subst hg;simpa [okX] using h
theorem tF {m:aX} {w:World} {env:Env} {a:Act} (h:fG m w env a) {H:aB} (hH:cE C m w H):∀{ps:List (Nat×Operand)} {r:List (Nat×List AV)},(∀p∈ps,okX C.nG p.2=true)→hZ env ps=some r→
  lW m w r (ps.map fun p=>(p.1,a.eval p.2))
 |[],r,_,hr=>by simp[hZ] at hr;subst hr;exact .nil
 |(i,x)::ps,r,hx,hr=>by
  simp only[hZ,Option.bind_eq_some_iff,Option.map_eq_some_iff] at hr
  obtain⟨l,h1,r',h2,rfl⟩:=hr
  exact .cons (rN h1 (nN h hH (lX (hx _ (List.mem_cons_self ..))))).1 (tF h hH (fun p hp=>hx p (List.mem_cons_of_mem _ hp)) h2)
def ars (P:Program) (t:TypeId):Option Nat:=
 match P.underlying t with
 |some (.array _ e)=>(P.info? e).map (·.size)
 |_=>none
def lG (P:Program) (t:TypeId) (parts:List (Nat×List AV)) (H:aB):Ans:=
 match zc P t,fp P t with
 |some zs,some ps=>match pH (ps[·]?) (zs.map .val) parts with
  |some cs=>some (.agg cs,H)
  |none=>none
 |some zs,none=>match ars P t with
  |some st=>match pH (fun i=>some (i*st,st)) (zs.map .val) parts with
   |some cs=>some (.agg cs,H)
   |none=>none
  |none=>none
 |_,_=>none
theorem aHB {t:TypeId} {r:List (Nat×List AV)} {H H':aB} {c:AV} (h:lG P t r H=some (c,H')) {m:aX} {w:World} {ps:Array (Nat×Value)} (hp:lW m w r ps.toList) :
  H'=H∧∃u,(Instr.build t ps).run P w=.ok u w∧rel m w c u:=by
 unfold lG at h
 split at h
 ·rename_i zs pl hz hpl
  split at h
  ·rename_i cs hcs
   simp only[Option.some.injEq,Prod.mk.injEq] at h
   obtain⟨rfl,rfl⟩:=h
   obtain⟨z,hz1,hz2⟩:=zE (P:=P) (w:=w) hz
   unfold fp at hpl
   split at hpl
   ·rename_i fs hu
    have hrun:=z9 (P:=P) (w:=w) _ _ hpl
    have hrun2:(fs.mapM (m:=Sem) fun f=>do pure (f.offset,←sizeOf f.type)).run P w=.ok pl.toArray w:=by
     rw[Array.mapM_eq_mapM_toList,←bind_pure_comp,Sem.run_bind,hrun];rfl
    have hrz:rels m w (zs.map .val) z.cells.toList:=by rw[←hz2];exact p8 m w _
    obtain⟨us,h3,h4⟩:=tE hp hrz hcs
    refine⟨rfl,.agg us,?_,us,rfl,h4⟩
    have h5:Instr.fill (pl.toArray[·]?) z.cells ps.toList=some us:=by rw[←h3];congr 1;funext i;simp
    unfold Instr.build
    simp only[Sem.run_bind,hz1,Result.andThen_ok,run_underlying hu,hrun2,h5,Sem.run_pure]
   ·cases hpl
  ·cases h
 ·rename_i zs hz hfp
  split at h
  ·rename_i st hst
   split at h
   ·rename_i cs hcs
    simp only[Option.some.injEq,Prod.mk.injEq] at h
    obtain⟨rfl,rfl⟩:=h
    obtain⟨z,hz1,hz2⟩:=zE (P:=P) (w:=w) hz
    unfold ars at hst
    split at hst
    ·rename_i n e hu
     obtain⟨i,hi,rfl⟩:=Option.map_eq_some_iff.1 hst
     have hrz:rels m w (zs.map .val) z.cells.toList:=by rw[←hz2];exact p8 m w _
     obtain⟨us,h3,h4⟩:=tE hp hrz hcs
     refine⟨rfl,.agg us,?_,us,rfl,h4⟩
     unfold Instr.build
     simp only[Sem.run_bind,hz1,Result.andThen_ok,run_underlying hu,fR hi,h3,Sem.run_pure]
    ·cases hst
   ·cases h
  ·cases h
 ·cases h
variable {P:Program} {C:dC}
theorem pY {t e st bytes:Nat} {z:List Value} (h:el P t=some (e,st,bytes,z)) :
  P.underlying t=some (.slice e)∧∃i zv,P.info? e=some i∧i.zero=some zv∧zv.cells.size=i.size∧i.size=st∧i.bytes=bytes∧zv.cells.toList=z∧0<st∧∀u∈z,u.oneCell'=true:=by
 unfold el at h
 split at h
 ·rename_i e' hu
  split at h
  ·rename_i i hi
   split at h
   ·rename_i zv hz
    split at h
    ·rename_i hc
     simp only[Option.some.injEq,Prod.mk.injEq] at h
     obtain⟨rfl,rfl,rfl,rfl⟩:=h
     exact⟨hu,i,zv,hi,hz,hc.1,rfl,rfl,rfl,hc.2.1,fun u hu=>by have:=hc.2.2;rw[←Array.all_toList] at this;exact List.all_eq_true.1 this u hu⟩
    ·cases h
   ·cases h
  ·cases h
 ·cases h
def iM (z:List Value):Nat→List AV
 |0=>[]
 |k+1=>iM z k++z.map .val
theorem gM (z:List Value):∀k,(iM z k).length=k*z.length
 |0=>by simp[iM]
 |k+1=>by simp[iM,gM z k,Nat.succ_mul]
theorem pI (z:List Value) (h:0<z.length):∀(k j:Nat),j<k*z.length→(iM z k)[j]?=some (.val (z.getD (j%z.length) undef))
 |0,j,hj=>by simp at hj
 |k+1,j,hj=>by
  rw[iM]
  by_cases hlt:j<k*z.length
  ·rw[List.getElem?_append_left (by rw[gM];exact hlt)];exact pI z h k j hlt
  ·rw[List.getElem?_append_right (by rw[gM];omega),gM]
   have h1:j%z.length=j-k*z.length:=by
    obtain⟨r,rfl⟩:∃r,j=k*z.length+r:=⟨j-k*z.length,by omega⟩
    have:r<z.length:=by rw[Nat.succ_mul] at hj;omega
    rw[Nat.mul_comm,Nat.mul_add_mod,Nat.mod_eq_of_lt this];omega
   have h2:j-k*z.length<z.length:=by rw[Nat.succ_mul] at hj;omega
   simp[List.getElem?_map,h1,List.getElem?_eq_getElem h2]
theorem aB7 (m:aX) (w:World) (zv:Value) (n st:Nat) (hst:zv.cells.size=st) (h0:0<st) :
  rels m w (iM zv.cells.toList n) ((Array.range (n*st)).map fun x=>zv.cells[x%zv.cells.size]!).toList:=by
 refine rM (by simp[gM,hst]) fun j c u hc hu=>?_
 have hl:zv.cells.toList.length=st:=by simpa using hst
 have hj:j<n*st:=by
  have:=(List.getElem?_eq_some_iff.1 hu).1
  simpa using this
 rw[pI _ (by omega) n j (by rw[hl];exact hj)] at hc
 obtain rfl:=Option.some.inj hc
 rw[Array.getElem?_toList,Array.getElem?_map,Array.getElem?_range,if_pos hj] at hu
 simp only[Option.map_some,Option.some.injEq] at hu
 have hm:j%st<zv.cells.size:=by rw[hst];exact Nat.mod_lt _ h0
 show u=_
 rw[←hu]
 simp only[Array.length_toList,hst,List.getD_eq_getElem?_getD,Array.getElem?_toList]
 rw[getElem!_pos zv.cells (j%st) hm,Array.getElem?_eq_getElem hm]
 rfl
def gW (P:Program) (t len:Nat) (parts:List (Nat×List AV)) (H:aB):Ans:=
 match el P t with
 |some (e,st,_,z)=>if len*st≤16777216 then match pH (fun i=>some (i*st,st)) (iM z len) parts with
   |some cs=>if cs.length=len*st then some (.sl true H.length 0 len st,H++[.own e cs]) else none
   |none=>none
  else none
 |none=>none
theorem pE {m:aX} {w:World} {H:aB} (hH:cE C m w H) (e len st cap:Nat) (arr:Array Value) (hl:len≤cap) (hc:cap≤9223372036854775807) (ha:arr.size=cap*st) :
  rel (m++[(w.heap.size,0)]) (w.alloc (.cells arr e)) (.sl true H.length 0 len st) (.slice (some ⟨w.heap.size,0,none⟩) len cap):=by
 refine⟨(w.heap.size,0),⟨w.heap.size,0,none⟩,cap,?_,rfl,hl,hc,fun _=>⟨rfl,arr,e,(0,0),heap_alloc_new w _,?_⟩,fun _=>.inr ⟨rfl,arr,e,(0,0),heap_alloc_new w _,?_⟩⟩
 ·rw[←hH.len];simp
 ·simp[ha]
 ·simp[ha]
theorem aAa {t len:Nat} {r:List (Nat×List AV)} {H H':aB} {c:AV} (h:gW P t len r H=some (c,H')) {m:aX} {w:World} (hH:cE C m w H) {ps:Array (Nat×Value)} (hp:lW m w r ps.toList) :
  ∃u m' w',(Instr.buildSlice t len ps).run P w=.ok u w'∧Fwd C m w m' w' H'∧rel m' w' c u:=by
 unfold gW at h
 split at h
 ·rename_i e st bytes z hel
  split at h
  ·rename_i hbig
   split at h
   ·rename_i cs hcs
    split at h
    ·rename_i hlen
     simp only[Option.some.injEq,Prod.mk.injEq] at h
     obtain⟨rfl,rfl⟩:=h
     obtain⟨hu,i,zv,hi,hz,hsz,hst,_,hzl,h0,hone⟩:=pY hel
     subst hzl
     have hlz:zv.cells.toList.length=st:=by simp;omega
     obtain⟨us,h3,h4⟩:=tE hp (aB7 m w zv len st (by omega) h0) hcs
     have hus:us.size=len*st:=by have:=gA h4;simp at this;omega
     have hf:=hH.new e (arr:=us) (cs:=cs) (fun j c hj=>by
      obtain⟨v,h5,h6⟩:=fP h4 j c hj
      exact⟨v,by simpa using h5,h6⟩) (by omega)
     refine⟨.slice (some ⟨w.heap.size,0,none⟩) len len,_,_,?_,hf,pE hH e len st len us (Nat.le_refl _) (by have:=Nat.le_mul_of_pos_right len h0;omega) hus⟩
     have hzr:(zeroValue e).run P w=.ok zv w:=by simp[zeroValue,typeInfo,hi,hz]
     have hb:¬len*st>2 ^ 24:=by omega
     unfold Instr.buildSlice
     simp only[Sem.run_bind,run_underlying hu,Result.andThen_ok,fR hi,hst]
     rw[if_neg hb]
     by_cases hz0:len*st=0
     ·rw[if_pos hz0]
      simp only[Sem.run_bind,Sem.run_pure,Result.andThen_ok]
      have h5:(Array.range (len*st)).map (fun x=>(#[]:Array Value)[x%(#[]:Array Value).size]!)=(Array.range (len*st)).map (fun x=>zv.cells[x%zv.cells.size]!):=by rw[hz0];simp
      rw[h5,h3]
      simp[newRow,run_newObj]
     ·rw[if_neg hz0]
      simp only[Sem.run_bind,hzr,Sem.run_pure,Result.andThen_ok]
      rw[h3]
      simp[newRow,run_newObj]
    ·cases h
   ·cases h
  ·cases h
 ·cases h
def fS (P:Program) (t:TypeId) (len cap:AV) (H:aB):Ans:=
 match el P t,len,cap with
 |some (e,st,bytes,z),.val (.int kl n),.val (.int kc c)=>if 0≤n∧n≤c∧bytes*c≤281474976710656∧c≤9223372036854775807 then some (.sl true H.length 0 n.toNat st,H++[.own e (iM z n.toNat)]) else none
 |_,_,_=>none
theorem aBK {t:TypeId} {x y:AV} {H H':aB} {c:AV} (h:fS P t x y H=some (c,H')) {m:aX} {w:World} (hH:cE C m w H) {u v:Value} (hx:rel m w x u) (hy:rel m w y v) :
  ∃r m' w',(Instr.makeSlice t u v).run P w=.ok r w'∧Fwd C m w m' w' H'∧rel m' w' c r:=by
 unfold fS at h
 split at h
 ·rename_i e st bytes z kl n kc c' hel
  obtain rfl:u=.int kl n:=hx
  obtain rfl:v=.int kc c':=hy
  split at h
  ·rename_i hc
   simp only[Option.some.injEq,Prod.mk.injEq] at h
   obtain⟨rfl,rfl⟩:=h
   obtain⟨hu,i,zv,hi,hz,hsz,hst,hby,hzl,h0,hone⟩:=pY hel
   subst hzl
   obtain⟨n,rfl⟩:=Int.eq_ofNat_of_zero_le hc.1
   obtain⟨k,rfl⟩:=Int.eq_ofNat_of_zero_le (show 0≤c' by omega)
   have hrun:=run_make (P:=P) w t e i zv hu hi hz kl kc n k (by omega) (by omega) (by rw[hby];exact hc.2.2.1) (by omega)
   simp only[Int.toNat_natCast] at hrun ⊢
   have hr:=aB7 m w zv k st (by omega) h0
   have hms:(madeCells zv.cells (k*i.size))=(Array.range (k*st)).map fun x=>zv.cells[x%zv.cells.size]!:=by rw[hst];rfl
   rw[hms] at hrun
   have hf:=hH.new e (arr:=(Array.range (k*st)).map fun x=>zv.cells[x%zv.cells.size]!) (cs:=iM zv.cells.toList n) (fun j c hj=>by
    have hlz:zv.cells.toList.length=st:=by simp;omega
    have hj2:j<n*st:=by have:=(List.getElem?_eq_some_iff.1 hj).1;rwa [gM,hlz] at this
    have hnk:n*st≤k*st:=Nat.mul_le_mul_right _ (by omega)
    rw[pI _ (by omega) n j (by rw[hlz];exact hj2)] at hj
    obtain⟨v,h5,h6⟩:=fP hr j c (by rw[pI _ (by omega) k j (by rw[hlz];omega)];exact hj)
    exact⟨v,by rw[←Array.getElem?_toList];exact h5,h6⟩) (by
     have hnk:n*st≤k*st:=Nat.mul_le_mul_right _ (by omega)
     have hlz:zv.cells.toList.length=st:=by simp;omega
     rw[gM,hlz];simpa using hnk)
   exact⟨_,_,_,hrun,hf,pE hH e n st k _ (by omega) (by omega) (by simp)⟩
  ·cases h
 ·cases h
def eP (d:Nat):Option AV→Option Nat
 |none=>some d
 |some (.val (.int _ i))=>if 0≤i then some i.toNat else none
 |_=>none
def lI (P:Program) (t:TypeId) (x:AV) (lo hi:Option AV) (H:aB):Ans:=
 match x with
 |.sl own o off len st=>match el P t,eP 0 lo,eP len hi with
  |some (_,st',_,_),some l,some h=>if l≤h∧h≤len∧st'=st then some (.sl own o (off+l*st) (h-l) st,H) else none
  |_,_,_=>none
 |.val (.slice none 0 0)=>match el P t,eP 0 lo,eP 0 hi with
  |some _,some 0,some 0=>some (.val (.slice none 0 0),H)
  |_,_,_=>none
 |.val (.string s)=>match P.underlying t,eP 0 lo,eP s.size hi with
  |some .string,some l,some h=>if l≤h∧h≤s.size then some (.val (.string (s.extract l h)),H) else none
  |_,_,_=>none
 |_=>none
theorem rO {t:TypeId} {x:Value} {lo hi mx:Option Value} {w:World} {d:TypeDesc} (h:P.underlying t=some d) (hn:∀n e,d≠.array n e):(Instr.sliceAt t x lo hi mx).run P w=(Instr.slice t x lo hi mx).run P w:=by
 unfold Instr.sliceAt
 rw[Sem.run_bind,run_underlying h,Result.andThen_ok]
 cases d<;>simp_all
theorem kA {isSlice:Bool} {len cap l h:Nat} {lo hi:Option Value} {w:World} (hl:(lo=none∧l=0)∨∃k,lo=some (.int k (l:Int))) (hh:(hi=none∧h=len)∨∃k,hi=some (.int k (h:Int))) (h1:l≤h) (h2:h≤cap) :
  (Instr.sliceBounds isSlice len cap lo hi none).run P w=.ok (l,h,cap) w:=by
 rcases hl with ⟨rfl,rfl⟩|⟨k,rfl⟩<;>rcases hh with ⟨rfl,rfl⟩|⟨k',rfl⟩
 ·simp[Instr.sliceBounds]
 ·simp[Instr.sliceBounds,run_sliceBound (P:=P) _ k' h cap _ (by omega) (by omega)]
 ·simp[Instr.sliceBounds,run_sliceBound (P:=P) _ k l h _ (by omega) (by omega)]
 ·simp[Instr.sliceBounds,run_sliceBound (P:=P) _ k' h cap _ (by omega) (by omega),run_sliceBound (P:=P) _ k l h _ (by omega) (by omega)]
def uZ (m:aX) (w:World):Option AV→Option Value→Prop
 |none,none=>True
 |some c,some u=>rel m w c u
 |_,_=>False
theorem kP {d n:Nat} {x:Option AV} {m:aX} {w:World} {v:Option Value} (h:eP d x=some n) (hr:uZ m w x v) :
  (v=none∧n=d)∨∃k,v=some (.int k (n:Int)):=by
 cases x with
 |none=>cases v with
  |none=>exact .inl ⟨rfl,(Option.some.inj h).symm⟩
  |some _=>exact hr.elim
 |some c=>cases v with
  |none=>exact hr.elim
  |some u=>cases c with
   |val x=>cases x with
    |int k i=>
     obtain rfl:u=.int k i:=hr
     simp only[eP] at h
     split at h
     ·rename_i h0
      obtain rfl:=Option.some.inj h
      exact .inr ⟨k,by rw[Int.toNat_of_nonneg h0]⟩
     ·cases h
    |_=>simp[eP] at h
   |_=>simp[eP] at h
theorem zC.mono {w:World} {b n k:Nat} (h:zC w b n) (hk:k≤n):zC w b k:=by
 obtain⟨arr,e,fr,h1,h2⟩:=h
 exact⟨arr,e,fr,h1,by omega⟩
theorem aHC {t:TypeId} {x:AV} {lo hi:Option AV} {H H':aB} {c:AV} (h:lI P t x lo hi H=some (c,H')) {m:aX} {w:World} {u:Value} {vl vh:Option Value}
  (hx:rel m w x u) (hl:uZ m w lo vl) (hh:uZ m w hi vh):H'=H∧∃r,(Instr.sliceAt t u vl vh none).run P w=.ok r w∧rel m w c r:=by
 unfold lI at h
 split at h
 ·rename_i own o off len st
  obtain⟨b,a,cap,hb,rfl,hlc,hc63,hroom,hfull⟩:=hx
  split at h
  ·rename_i e st' by' z l hi' hel hbl hbh
   split at h
   ·rename_i hc
    obtain⟨hlh,hhl,rfl⟩:=hc
    simp only[Option.some.injEq,Prod.mk.injEq] at h
    obtain⟨rfl,rfl⟩:=h
    obtain⟨hu,i,zv,hi,hz,hsz,hst,_,hzl,h0,_⟩:=pY hel
    have hbnd:=kA (P:=P) (isSlice:=true) (len:=len) (cap:=cap) (w:=w) (kP hbl hl) (kP hbh hh) hlh (by omega)
    refine⟨rfl,.slice (if cap=l then some a else (some a).map (·.add (l*st'))) (hi'-l) (cap-l),?_,?_⟩
    ·rw[rO hu (by simp)]
     unfold Instr.slice
     simp only[Sem.run_bind,run_underlying hu,Result.andThen_ok,hbnd,fR hi,hst,Sem.run_pure]
    ·by_cases hcl:cap=l
     ·rw[if_pos hcl]
      refine⟨b,a,cap-l,hb,rfl,by omega,by omega,fun h=>by omega,fun ho=>?_⟩
      rcases Nat.eq_zero_or_pos l with hl0|hl0
      ·subst hl0
       rcases hfull ho with h1|⟨h1,h2⟩
       ·exact .inl ⟨by omega,by omega⟩
       ·exact .inr ⟨by simpa using h1,by simpa using h2⟩
      ·exact .inl ⟨by omega,by have:=Nat.mul_pos hl0 h0;omega⟩
     ·rw[if_neg hcl]
      obtain⟨ha,hr⟩:=hroom (by omega)
      subst ha
      have e1:b.2+(off+l*st')+(cap-l)*st'=b.2+off+cap*st':=by
       obtain⟨k,rfl⟩:∃k,cap=l+k:=⟨cap-l,by omega⟩
       rw[Nat.add_sub_cancel_left,Nat.add_mul];omega
      refine⟨b,⟨b.1,b.2+(off+l*st'),none⟩,cap-l,hb,?_,by omega,by omega,fun _=>⟨rfl,by rw[e1];exact hr⟩,fun ho=>.inr ⟨rfl,by rw[e1];exact (hfull ho).elim (fun h1=>absurd h1.1 (by omega)) (fun h1=>h1.2)⟩⟩
      simp only[Option.map_some,oS,Nat.add_assoc]
   ·cases h
  ·cases h
 ·obtain rfl:u=.slice none 0 0:=hx
  split at h
  ·rename_i q hel hbl hbh
   obtain⟨e,st,by',z⟩:=q
   simp only[Option.some.injEq,Prod.mk.injEq] at h
   obtain⟨rfl,rfl⟩:=h
   obtain⟨hu,i,zv,hi,hz,hsz,hst,_,hzl,h0,_⟩:=pY hel
   have hbnd:=kA (P:=P) (isSlice:=true) (len:=0) (cap:=0) (w:=w) (kP hbl hl) (kP hbh hh) (Nat.le_refl _) (Nat.le_refl _)
   refine⟨rfl,.slice none 0 0,?_,rfl⟩
   rw[rO hu (by simp)]
   unfold Instr.slice
   simp only[Sem.run_bind,run_underlying hu,Result.andThen_ok,hbnd,fR hi,hst,Sem.run_pure]
   simp
  ·cases h
 ·rename_i s
  obtain rfl:u=.string s:=hx
  split at h
  ·rename_i l hi' hu hbl hbh
   split at h
   ·rename_i hc
    simp only[Option.some.injEq,Prod.mk.injEq] at h
    obtain⟨rfl,rfl⟩:=h
    have hbnd:=kA (P:=P) (isSlice:=false) (len:=s.size) (cap:=s.size) (w:=w) (kP hbl hl) (kP hbh hh) hc.1 hc.2
    refine⟨rfl,.string (s.extract l hi'),?_,rfl⟩
    rw[rO hu (by simp)]
    unfold Instr.slice
    simp only[Sem.run_bind,run_underlying hu,Result.andThen_ok,hbnd,Sem.run_pure]
    simp[hbnd]
   ·cases h
  ·cases h
 ·cases h
def ar (P:Program) (t:TypeId):Option (Nat×Nat):=
 match P.underlying t with
 |some (.array n e)=>(P.info? e).map fun i=>(n,i.size)
 |_=>none
def iN (P:Program) (t:TypeId) (x i:AV) (H:aB):Ans:=
 match x,i with
 |.sl own o off len st,.val (.int k n)=>match el P t with
  |some (_,st',_,_)=>if 0≤n∧n<len∧st'=st then some (.ptr o (off+n.toNat*st),H) else none
  |none=>none
 |.ptr o off,.val (.int k n)=>match ar P t with
  |some (len,st)=>if 0≤n∧n<len then some (.ptr o (off+n.toNat*st),H) else none
  |none=>none
 |_,_=>none
theorem oF {k:IntKind} {n:Int} {w:World}:(asIntOf (.int k n)).run P w=.ok (k,n) w:=rfl
theorem aBL {t:TypeId} {x i:AV} {H H':aB} {c:AV} (h:iN P t x i H=some (c,H')) {m:aX} {w:World} {u v:Value} (hx:rel m w x u) (hi:rel m w i v) :
  H'=H∧∃r,(Instr.indexAt t u v).run P w=.ok r w∧rel m w c r:=by
 unfold iN at h
 split at h
 ·rename_i own o off len st k n
  obtain⟨b,a,cap,hb,rfl,hlc,hc63,hroom,hfull⟩:=hx
  obtain rfl:v=.int k n:=hi
  split at h
  ·rename_i e st' by' z hel
   split at h
   ·rename_i hc
    obtain⟨h0,hn,rfl⟩:=hc
    simp only[Option.some.injEq,Prod.mk.injEq] at h
    obtain⟨rfl,rfl⟩:=h
    obtain⟨hu,i,zv,hi,hz,hsz,hst,_,hzl,_,_⟩:=pY hel
    obtain⟨ha,_⟩:=hroom (by omega)
    subst ha
    refine⟨rfl,.pointer (some ⟨b.1,b.2+(off+n.toNat*st'),none⟩),?_,b,hb,rfl⟩
    unfold Instr.indexAt
    simp only[Sem.run_bind,oF,run_underlying hu,Result.andThen_ok,Sem.run_pure]
    rw[if_pos ⟨h0,by simpa using hn⟩]
    simp only[Sem.run_bind,fR hi,hst,Result.andThen_ok,Sem.run_pure,oS,Nat.add_assoc]
   ·cases h
  ·cases h
 ·rename_i o off k n
  obtain⟨b,hb,rfl⟩:=hx
  obtain rfl:v=.int k n:=hi
  split at h
  ·rename_i len st har
   split at h
   ·rename_i hc
    simp only[Option.some.injEq,Prod.mk.injEq] at h
    obtain⟨rfl,rfl⟩:=h
    unfold ar at har
    split at har
    ·rename_i n' e hu
     obtain⟨i,hi,he⟩:=Option.map_eq_some_iff.1 har
     simp only[Prod.mk.injEq] at he
     obtain⟨rfl,rfl⟩:=he
     refine⟨rfl,.pointer (some ⟨b.1,b.2+(off+n.toNat*i.size),none⟩),?_,b,hb,rfl⟩
     unfold Instr.indexAt
     simp only[Sem.run_bind,oF,run_underlying hu,Result.andThen_ok,Sem.run_pure,Instr.sureAddr]
     rw[if_pos ⟨hc.1,by simpa using hc.2⟩]
     simp only[Sem.run_bind,fR hi,Result.andThen_ok,Sem.run_pure,oS,Nat.add_assoc]
    ·cases har
   ·cases h
  ·cases h
 ·cases h
def jL (P:Program) (s:TypeId) (x:AV) (f:Nat) (H:aB):Ans:=
 match x,fo P s f with
 |.ptr o off,some k=>some (.ptr o (off+k),H)
 |_,_=>none
theorem aBM {s f:Nat} {x:AV} {H H':aB} {c:AV} (h:jL P s x f H=some (c,H')) {m:aX} {w:World} {u:Value} (hx:rel m w x u) :
  H'=H∧∃r,(Instr.fieldAt s u f).run P w=.ok r w∧rel m w c r:=by
 unfold jL at h
 split at h
 ·rename_i o off k hfo
  obtain⟨b,hb,rfl⟩:=hx
  simp only[Option.some.injEq,Prod.mk.injEq] at h
  obtain⟨rfl,rfl⟩:=h
  unfold fo at hfo
  split at hfo
  ·rename_i fs hu
   split at hfo
   ·rename_i y hy
    split at hfo
    ·rename_i i hi
     split at hfo
     ·cases hfo
     ·rename_i hne
      obtain rfl:=Option.some.inj hfo
      refine⟨rfl,.pointer (some ⟨b.1,b.2+(off+y.offset),none⟩),?_,b,hb,rfl⟩
      unfold Instr.fieldAt
      simp only[Sem.run_bind,run_underlying hu,Result.andThen_ok,hy,Instr.sureAddr,Sem.run_pure,fieldPlace,fR hi]
      rw[if_neg hne]
      simp only[Sem.run_bind,Sem.run_pure,Result.andThen_ok,oS,Nat.add_assoc]
    ·cases hfo
   ·cases hfo
  ·cases hfo
 ·cases h
variable {P:Program} {C:dC}
theorem aDu (w:World):Szs w w.drew:=fun b a e fr h=>⟨a,h,rfl⟩
theorem kB (w:World) (n:Nat):Szs w (w.drewN n):=fun b a e fr h=>⟨a,h,rfl⟩
theorem cE.drew {m:aX} {w:World} {H:aB} (h:cE C m w H):cE C m w.drew H:=⟨h.below.drew,h.size,h.len,h.glob,fun o x b hx hb=>iT (h.obj o x b hx hb) (aDu w) rfl,h.apart⟩
theorem cE.drewN {m:aX} {w:World} {H:aB} (h:cE C m w H) (n:Nat):cE C m (w.drewN n) H:=⟨⟨h.below.os,h.below.tape,h.below.output,h.below.size,h.below.block⟩,h.size,h.len,h.glob,fun o x b hx hb=>iT (h.obj o x b hx hb) (kB w n) rfl,h.apart⟩
theorem cE.kill {m:aX} {w:World} {H:aB} (h:cE C m w H) (o:Nat):cE C m w (H.set o .gone):=by
 have aux:∀(q:Nat) x,(H.set o .gone)[q]?=some x→x=.gone∨H[q]?=some x:=by
  intro q x hx
  by_cases hq:q=o
  ·subst hq
   rcases Nat.lt_or_ge q H.length with h1|h1
   ·rw[List.getElem?_set_self h1] at hx;exact .inl (Option.some.inj hx).symm
   ·rw[List.getElem?_eq_none (by simpa using h1)] at hx;cases hx
  ·rw[List.getElem?_set_ne (by omega)] at hx;exact .inr hx
 refine⟨h.below,h.size,by simpa using h.len,h.glob,fun q x b hx hb=>?_,fun q q' x x' b b' hne hx hx' hb hb' hm hm'=>?_⟩
 ·rcases aux q x hx with rfl|h1
  ·trivial
  ·exact h.obj q x b h1 hb
 ·rcases aux q x hx with rfl|h1
  ·simp[aD.mine] at hm
  ·rcases aux q' x' hx' with rfl|h2
   ·simp[aD.mine] at hm'
   ·exact h.apart q q' x x' b b' hne h1 h2 hb hb' hm hm'
theorem zF {m m':aX} {w:World} {b:Nat×Nat} {x:aD} (h:relO C m w b x) (hp:m <+: m'):relO C m' w b x:=by
 cases x with
 |ro cs=>exact⟨h.1,fun j c hj=>by obtain⟨v,h1,h2⟩:=h.2 j c hj;exact⟨v,h1,rel_more hp (Szs.refl _) h2⟩⟩
 |own e cs=>obtain⟨h0,a,h1,h2,h3⟩:=h;exact⟨h0,a,h1,h2,fun j c hj=>by obtain⟨v,h4,h5⟩:=h3 j c hj;exact⟨v,h4,rel_more hp (Szs.refl _) h5⟩⟩
 |map es=>obtain⟨h0,a,c,h1,h2,h3⟩:=h;exact⟨h0,a,c,h1,h2,fun j k c hj=>by obtain⟨v,h4,h5,h6⟩:=h3 j k c hj;exact⟨v,h4,h5,rel_more hp (Szs.refl _) h6⟩⟩
 |mapI es=>exact h
 |gone=>trivial
theorem cE.rename {m:aX} {w:World} {H:aB} (h:cE C m w H) {o:Nat} {e:TypeId} {cs:List AV} {b:Nat×Nat} (ho:H[o]?=some (.own e cs)) (hb:m[o]?=some b) :
  cE C (m++[b]) w (H.set o .gone++[.own e cs]):=by
 have hk:=h.kill o
 have hl:(H.set o .gone).length=m.length:=hk.len.symm
 have hp:m <+: m++[b]:=List.prefix_append _ _
 have split:∀(q:Nat) x b',(H.set o .gone++[aD.own e cs])[q]?=some x→(m++[b])[q]?=some b'→(q<m.length∧(H.set o .gone)[q]?=some x∧m[q]?=some b')∨(q=m.length∧x=.own e cs∧b'=b):=by
  intro q x b' hx hb'
  by_cases hq:q<m.length
  ·rw[List.getElem?_append_left (by omega)] at hx
   rw[List.getElem?_append_left hq] at hb'
   exact .inl ⟨hq,hx,hb'⟩
  ·have:q=m.length:=by have:=(List.getElem?_eq_some_iff.1 hb').1;simp at this;omega
   subst this
   rw[List.getElem?_append_right (by omega),hl] at hx
   rw[List.getElem?_append_right (by omega)] at hb'
   simp at hx hb'
   exact .inr ⟨rfl,hx.symm,hb'.symm⟩
 have old:∀(q:Nat) x,(H.set o .gone)[q]?=some x→x.mine=true→q≠o∧H[q]?=some x:=by
  intro q x hx hm
  by_cases hq:q=o
  ·subst hq
   rw[List.getElem?_set_self (List.getElem?_eq_some_iff.1 ho).1] at hx
   obtain rfl:=Option.some.inj hx
   simp[aD.mine] at hm
  ·rw[List.getElem?_set_ne (by omega)] at hx;exact⟨hq,hx⟩
 refine⟨h.below,h.size,by simp[h.len],fun g hg=>gY hp (h.glob g hg),fun q x b' hx hb'=>?_,fun q q' x x' b1 b2 hne hx hx' h1 h2 hm hm'=>?_⟩
 ·rcases split q x b' hx hb' with ⟨_,h1,h2⟩|⟨_,rfl,rfl⟩
  ·exact zF (hk.obj q x b' h1 h2) hp
  ·exact zF (h.obj o _ _ ho hb) hp
 ·rcases split q x b1 hx h1 with ⟨_,k1,k2⟩|⟨k0,rfl,rfl⟩<;>rcases split q' x' b2 hx' h2 with ⟨_,k3,k4⟩|⟨k5,rfl,rfl⟩
  ·exact hk.apart q q' x x' b1 b2 hne k1 k3 k2 k4 hm hm'
  ·obtain⟨n1,n2⟩:=old q x k1 hm
   exact h.apart q o x _ b1 _ n1 n2 ho k2 hb hm rfl
  ·obtain⟨n1,n2⟩:=old q' x' k3 hm'
   exact (h.apart q' o x' _ b2 _ n1 n2 ho k4 hb hm' rfl).symm
  ·omega
def cW (P:Program) (t:TypeId) (x y:AV) (H:aB):Ans:=
 match el P t with
 |none=>none
 |some (e,st,bytes,z)=>
  match y with
  |.val (.slice none 0 0)=>match x with
   |.val (.slice none 0 0)=>some (x,H)
   |.sl true o 0 n st'=>some (x,H)
   |_=>none
  |.sl own o' off' n' st'=>match cellsOf H o' with
   |some cs'=>if off'+n'*st≤cs'.length∧st'=st∧(((cs'.drop off').take (n'*st)).all AV.one)=true then
     match x with
     |.val (.slice none 0 0)=>if n'=0 then some (.val (.slice none 0 0),H) else
       if n'*bytes≤140737488355328∧n'≤140737488355328 then some (.sl true H.length 0 n' st,H++[.own e ((cs'.drop off').take (n'*st))]) else none
     |.sl true o 0 n st2=>match H[o]? with
      |some (.own e2 cs)=>if e2=e∧st2=st∧n*st≤cs.length∧(n+n')*bytes≤140737488355328∧n+n'≤140737488355328 then
        some (.sl true H.length 0 (n+n') st,H.set o .gone++[.own e (cs.take (n*st)++(cs'.drop off').take (n'*st))]) else none
      |_=>none
     |_=>none
    else none
   |none=>none
  |_=>none
theorem aIY (w:World) (o:Obj):Szs w (w.alloc o):=fun k a e' fr hk=>⟨a,by
 have hlt:k<w.heap.size:=(Array.getElem?_eq_some_iff.1 hk).1
 rw[Below.heap_alloc w _ k hlt];exact hk,rfl⟩
theorem aHD {m:aX} {w:World} {own:Bool} {o off len st:Nat} {u:Value} (h:rel m w (.sl own o off len st) u):∃b a cap,m[o]?=some b∧u=.slice (some a) len cap∧len≤cap∧cap≤9223372036854775807∧(0<len→a=⟨b.1,b.2+off,none⟩):=by
 obtain⟨b,a,cap,h1,h2,h3,h4,h5,_⟩:=h
 exact⟨b,a,cap,h1,h2,h3,h4,fun hl=>(h5 (by omega)).1⟩
theorem aB8 {m:aX} {w:World} {H:aB} (hH:cE C m w H) {e need st:Nat} {cap:Nat} {cells:List AV} {vals:List Value} {tail:Array Value} (hr:rels m w cells vals) (hl:vals.length=need*st) (hnc:need≤cap) (hc:cap≤9223372036854775807) (ht:tail.size=(cap-need)*st) :
  Fwd C m w (m++[(w.heap.size,0)]) (w.drew.alloc (.cells (vals.toArray++tail) e)) (H++[.own e cells])∧
  rel (m++[(w.heap.size,0)]) (w.drew.alloc (.cells (vals.toArray++tail) e)) (.sl true H.length 0 need st) (.slice (some ⟨w.heap.size,0,none⟩) need cap):=by
 have hf:=(hH.drew).new e (arr:=vals.toArray++tail) (cs:=cells) (fun j c hj=>by
  obtain⟨v,h1,h2⟩:=fP hr j c hj
  have hlt:j<vals.length:=(List.getElem?_eq_some_iff.1 h1).1
  exact⟨v,by rw[Array.getElem?_append_left (by simpa using hlt)];simpa using h1,rel_more (List.prefix_refl m) (aDu w) h2⟩) (by have:=gA hr;simp;omega)
 have hrel:=pE (hH.drew) e need st cap (vals.toArray++tail) hnc hc (by
  simp[hl,ht,←Nat.add_mul];congr 1;omega)
 exact⟨⟨hf.pre,fun b a e fr h=>hf.szs b a e fr h,hf.rep⟩,hrel⟩
theorem aFe {t ty:TypeId} {x y:AV} {H H':aB} {c:AV} (h:cW P t x y H=some (c,H')) {m:aX} {w:World} (hH:cE C m w H) {u v:Value} (hx:rel m w x u) (hy:rel m w y v) :
  ∃r m' w',(Builtin.append_ #[t,t] ty #[u,v]).run P w=.ok r w'∧Fwd C m w m' w' H'∧rel m' w' c r:=by
 unfold cW at h
 split at h
 ·cases h
 rename_i e st bytes z hel
 obtain⟨hu,i,zv,hi,hz,hsz,hst,hby,hzl,h0,hone⟩:=pY hel
 have same:∀{q:AV} {uq:Value},rel m w q uq→Fwd C m w m w H∧rel m w q uq:=fun hq=>⟨⟨List.prefix_refl m,Szs.refl w,hH⟩,hq⟩
 split at h
 ·obtain rfl:v=.slice none 0 0:=hy
  split at h
  ·obtain rfl:u=.slice none 0 0:=hx
   simp only[Option.some.injEq,Prod.mk.injEq] at h
   obtain⟨rfl,rfl⟩:=h
   refine⟨_,m,w,?_,same rfl⟩
   simp[Builtin.append_,run_underlying hu,sizeOf,typeInfo,hi,Builtin.lenOf,Builtin.firstCells]
  ·simp only[Option.some.injEq,Prod.mk.injEq] at h
   obtain⟨rfl,rfl⟩:=h
   have hx':=hx
   obtain⟨b,a,cap,hb,rfl,hlc,hc63,hroom,_⟩:=hx'
   refine⟨_,m,w,?_,same hx⟩
   simp[Builtin.append_,run_underlying hu,sizeOf,typeInfo,hi,Builtin.lenOf,Builtin.firstCells,hlc,storeCells]
  ·cases h
 ·rename_i own o' off' n' st'
  split at h
  ·rename_i cs' hcs'
   split at h
   ·rename_i hc
    obtain⟨hle,rfl,hall⟩:=hc
    obtain⟨b',a',cap',hb',rfl,hlc',hc63',ha'⟩:=aHD hy
    obtain⟨ys,hyl,hyc,hyr⟩:=hH.cells hcs' hb' (n'*st') off' hle
    have hone':=zD hall hyr
    have hnews:∀j u,ys[j]?=some u→w.cell? (a'.add j)=some u:=by
     intro j u hj
     have hjl:j<ys.length:=(List.getElem?_eq_some_iff.1 hj).1
     have hn0:0<n':=by
      rcases Nat.eq_zero_or_pos n' with h|h
      ·subst h;simp at hyl;subst hyl;simp at hjl
      ·exact h
     rw[ha' hn0,oS,Nat.add_assoc]
     exact hyc j u hj
    split at h
    ·obtain rfl:u=.slice none 0 0:=hx
     split at h
     ·rename_i hn0
      subst hn0
      simp only[Option.some.injEq,Prod.mk.injEq] at h
      obtain⟨rfl,rfl⟩:=h
      refine⟨_,m,w,?_,same rfl⟩
      simp[Builtin.append_,run_underlying hu,sizeOf,typeInfo,hi,Builtin.lenOf,Builtin.firstCells,loadCells,loadCellsFrom]
     ·rename_i hn0
      split at h
      ·rename_i hb
       simp only[Option.some.injEq,Prod.mk.injEq] at h
       obtain⟨rfl,rfl⟩:=h
       have hrun:=run_append_nil (P:=P) w t ty e i zv hu hi hz a' n' cap' ys (by rw[hyl,hst]) hnews (by omega) (by omega) (by rw[hby];omega)
       have hg:=grownCap_ge w n' 0 e
       have hg2:=grownCap_le_maxLen w n' 0 e (by simp only[maxLen];omega)
       obtain⟨hf,hr⟩:=aB8 hH (e:=e) (need:=n') (st:=st') (cap:=grownCap w n' 0 e) (tail:=Builtin.zeroCells zv.cells (grownCap w n' 0 e-n')) hyr hyl hg (by simpa only[maxLen] using hg2) (by rw[size_zeroCells,hsz,hst])
       exact⟨_,_,_,hrun,hf,hr⟩
      ·cases h
    ·rename_i o n st2
     split at h
     ·rename_i e2 cs ho
      split at h
      ·rename_i hb
       obtain⟨rfl,rfl,hnl,hbig,hbig2⟩:=hb
       simp only[Option.some.injEq,Prod.mk.injEq] at h
       obtain⟨rfl,rfl⟩:=h
       obtain⟨b,a,cap,hb,rfl,hlc,hc63,hroom,hfull⟩:=hx
       obtain⟨ha,arrF,eF,frF,hhF,hsF⟩:=(hfull rfl).resolve_left (by omega)
       subst ha
       obtain⟨hB,arr,hh,hla,hcells⟩:=hH.obj _ _ _ ho hb
       rw[hh] at hhF
       injection hhF with hhF
       injection hhF with q1 q2 q3
       subst q1
       obtain⟨xs,hxl,hxc,hxr⟩:=hH.cells (show cellsOf H o=some cs by simp[cellsOf,ho]) hb (n*st2) 0 (by omega)
       simp only[List.drop_zero] at hxr
       have hb2:b.2=0:=hB.2
       have hrels:=oE hxr hyr
       by_cases hfit:n+n'≤cap
       ·have hrun:=run_append_room (P:=P) w t ty e2 i hu hi b.1 n cap arr hh a' n' cap' ys (by rw[hyl,hst]) hnews hone' hfit (by rw[hyl,hst,←Nat.add_mul];have:=Nat.mul_le_mul_right st2 hfit;omega)
        have hb1:(⟨b.1,b.2+0,none⟩:Addr)=⟨b.1,0,none⟩:=by rw[hb2]
        rw[hst,hyl] at hrun
        have htk:arr.toList.take (n*st2)=xs:=by
         refine List.ext_getElem? fun j=>?_
         by_cases hj:j<n*st2
         ·rw[List.getElem?_take_of_lt hj]
          have h1:xs[j]?=some (xs[j]'(by omega)):=List.getElem?_eq_getElem (by omega)
          have h2:=hxc j _ h1
          rw[h1]
          simpa [World.cell?,hh,hb2] using h2
         ·rw[List.getElem?_eq_none (by simp;omega),List.getElem?_eq_none (by omega)]
        have hfitc:(n+n')*st2≤cap*st2:=Nat.mul_le_mul_right st2 hfit
        have hadd:(n+n')*st2=n*st2+n'*st2:=Nat.add_mul ..
        rw[htk] at hrun
        generalize harr:(xs++ys++arr.toList.drop (n*st2+n'*st2)).toArray=arr' at hrun
        have hsz':arr'.size=arr.size:=by rw[←harr];simp;omega
        have hnew:=setRow_heap w b.1 arr arr' e2 (0,0) hh
        have hfar:∀k,k≠b.1→(w.setRow b.1 arr').heap[k]?=w.heap[k]?:=fun k hk=>setRow_other w b.1 k arr' hk
        have hs:Szs w (w.setRow b.1 arr'):=fun k a e' fr hk=>by
         by_cases he:k=b.1
         ·subst he
          rw[hh] at hk
          injection hk with hk
          injection hk with q1 q2 q3
          subst q1;subst q2;subst q3
          exact⟨arr',hnew,hsz'⟩
         ·exact⟨a,(hfar k he).trans hk,rfl⟩
        have hturn:=hH.turn (cs':=cs.take (n*st2)++(cs'.drop off').take (n'*st2)) (w':=w.setRow b.1 arr') ho hb rfl rfl rfl (by simp[World.setRow]) hfar hs (by
         refine⟨arr',hnew,by have:=gA hrels;rw[this,hsz'];simp;omega,fun j c hj=>?_⟩
         obtain⟨v,h1,h2⟩:=fP hrels j c hj
         refine⟨v,?_,rel_more (List.prefix_refl m) hs h2⟩
         have hlt:j<(xs++ys).length:=(List.getElem?_eq_some_iff.1 h1).1
         rw[hb2,Nat.zero_add,←harr]
         simp only[List.getElem?_toArray]
         rw[List.getElem?_append_left hlt];exact h1)
        have hlt:o<H.length:=(List.getElem?_eq_some_iff.1 ho).1
        have hren:=hturn.rename (List.getElem?_set_self hlt) hb
        rw[List.set_set] at hren
        refine⟨_,m++[b],_,by rw[hb1];exact hrun,⟨List.prefix_append _ _,hs,hren⟩,?_⟩
        refine⟨b,⟨b.1,0,none⟩,cap,by rw[←hH.len];simp,rfl,hfit,hc63,fun _=>⟨by rw[hb2],arr',e2,(0,0),hnew,by rw[hsz'];omega⟩,fun _=>.inr ⟨by rw[hb2],arr',e2,(0,0),hnew,by rw[hsz'];omega⟩⟩
       ·have hrun:=run_append_grow (P:=P) w t ty e2 i zv hu hi hz ⟨b.1,b.2+0,none⟩ n cap xs (by rw[hxl,hst]) (fun j u hj=>by rw[oS];simpa using hxc j u hj) a' n' cap' ys (by rw[hyl,hst]) hnews (by omega) (by omega) (growslice_fits (by omega) (by rw[hby];exact hbig))
        have hg:=grownCap_ge w (n+n') cap e2
        have hg2:=grownCap_le_maxLen w (n+n') cap e2 (by simp only[maxLen];omega)
        obtain⟨hf,hr⟩:=aB8 (hH.kill o) (e:=e2) (need:=n+n') (st:=st2) (cap:=grownCap w (n+n') cap e2) (tail:=Builtin.zeroCells zv.cells (grownCap w (n+n') cap e2-(n+n'))) hrels (by simp[hxl,hyl,Nat.add_mul]) hg (by simpa only[maxLen] using hg2) (by rw[size_zeroCells,hsz,hst])
        have hcat:(xs++ys).toArray=xs.toArray++ys.toArray:=by simp
        rw[hcat] at hf hr
        exact⟨_,_,_,hrun,hf,by simpa using hr⟩
      ·cases h
     ·cases h
    ·cases h
   ·cases h
  ·cases h
 ·cases h
variable {P:Program} {C:dC}
def oT (P:Program) (t:TypeId) (x y:AV):Option Bool:=
 match P.underlying t,x,y with
 |some (.interface _),.ifc ..,.val .nilIface=>some false
 |some (.interface _),.val .nilIface,.ifc ..=>some false
 |some (.slice _),.sl ..,.val (.slice none 0 0)=>some false
 |some (.pointer _),.ptr ..,.val (.pointer none)=>some false
 |some (.func ..),.fn ..,.val .nilFunc=>some false
 |_,_,_=>none
theorem aAb {t:TypeId} {x y:AV} {b:Bool} (h:oT P t x y=some b) {m:aX} {w:World} {u v:Value} (hx:rel m w x u) (hy:rel m w y v) :
  (Op.equal t u v).run P w=.ok b w∧(∀op xo yo,(eqGuard op t xo yo u v).run P w=.ok () w)∧(binOp .eql t u v=do pure (.bool (←Op.equal t u v)))∧(binOp .neq t u v=do pure (.bool (!(←Op.equal t u v)))):=by
 have key:∀{u v:Value},(∀d,(Op.equalIn (d+1) t u v).run P w=.ok false w)→(Op.equal t u v).run P w=.ok false w:=fun h=>h 9999
 unfold oT at h
 split at h
 ·rename_i ms t' c hu
  obtain⟨z,rfl,_⟩:=hx
  obtain rfl:v=.nilIface:=hy
  obtain rfl:=Option.some.inj h
  exact⟨key fun d=>by rw[Op.equalIn,Sem.run_bind,run_underlying hu];rfl,fun op xo yo=>by unfold eqGuard;cases op<;>rfl,rfl,rfl⟩
 ·rename_i ms t' c hu
  obtain⟨z,rfl,_⟩:=hy
  obtain rfl:u=.nilIface:=hx
  obtain rfl:=Option.some.inj h
  exact⟨key fun d=>by rw[Op.equalIn,Sem.run_bind,run_underlying hu];rfl,fun op xo yo=>by unfold eqGuard;cases op<;>rfl,rfl,rfl⟩
 ·rename_i e own o off len st hu
  obtain⟨bb,a,cap,_,rfl,_⟩:=hx
  obtain rfl:v=.slice none 0 0:=hy
  obtain rfl:=Option.some.inj h
  exact⟨key fun d=>by rw[Op.equalIn,Sem.run_bind,run_underlying hu];rfl,fun op xo yo=>by unfold eqGuard;cases op<;>rfl,rfl,rfl⟩
 ·rename_i e o off hu
  obtain⟨bb,_,rfl⟩:=hx
  obtain rfl:v=.pointer none:=hy
  obtain rfl:=Option.some.inj h
  exact⟨key fun d=>by rw[Op.equalIn,Sem.run_bind,run_underlying hu];rfl,fun op xo yo=>by unfold eqGuard;cases op<;>rfl,rfl,rfl⟩
 ·rename_i _ _ _ f fi ca hu
  obtain⟨vs,us,rfl,_⟩:=hx
  obtain rfl:v=.nilFunc:=hy
  obtain rfl:=Option.some.inj h
  exact⟨key fun d=>by rw[Op.equalIn,Sem.run_bind,run_underlying hu];rfl,fun op xo yo=>by unfold eqGuard;cases op<;>rfl,rfl,rfl⟩
 ·cases h
def cH (P:Program) (op:BinOp) (t:TypeId) (xo yo:Operand) (x y:AV):Option AV:=
 match plain x,plain y with
 |some a,some b=>(aT P (do eqGuard op t xo yo a b;binOp op t a b)).map .val
 |_,_=>match op,oT P t x y with
  |.eql,some b=>some (.val (.bool b))
  |.neq,some b=>some (.val (.bool !b))
  |_,_=>none
theorem aK0 {op:BinOp} {t:TypeId} {xo yo:Operand} {x y c:AV} (h:cH P op t xo yo x y=some c) {m:aX} {w:World} {u v:Value} (hx:rel m w x u) (hy:rel m w y v) :
  ∃r,(do eqGuard op t xo yo u v;binOp op t u v:Sem Value).run P w=.ok r w∧rel m w c r:=by
 unfold cH at h
 split at h
 ·rename_i a b ha hb
  obtain rfl:=plain_rel ha hx
  obtain rfl:=plain_rel hb hy
  obtain⟨r,h1,rfl⟩:=Option.map_eq_some_iff.1 h
  exact⟨r,gB h1 w,rfl⟩
 ·split at h
  ·rename_i b hn
   obtain rfl:=Option.some.inj h
   obtain⟨h1,h2,h3,_⟩:=aAb hn hx hy
   exact⟨.bool b,by rw[Sem.run_bind,h2,Result.andThen_ok,h3,Sem.run_bind,h1];rfl,rfl⟩
  ·rename_i b hn
   obtain rfl:=Option.some.inj h
   obtain⟨h1,h2,_,h3⟩:=aAb hn hx hy
   exact⟨.bool (!b),by rw[Sem.run_bind,h2,Result.andThen_ok,h3,Sem.run_bind,h1];rfl,rfl⟩
  ·cases h
def aDv (P:Program) (t:TypeId) (x:AV):Option AV:=
 match P.underlying t,x with
 |some .string,.val (.string s)=>some (.val (.int .i64 s.size))
 |some (.slice _),.val (.slice none 0 0)=>some (.val (.int .i64 0))
 |some (.slice _),.sl _ _ _ n _=>some (.val (.int .i64 n))
 |some (.array n _),_=>some (.val (.int .i64 n))
 |_,_=>none
theorem aK1 {t ty:TypeId} {x c:AV} (h:aDv P t x=some c) {m:aX} {w:World} {u:Value} (hx:rel m w x u):∃r,(Builtin.len_ #[t] ty #[u]).run P w=.ok r w∧rel m w c r:=by
 unfold aDv at h
 split at h
 ·rename_i s hu
  obtain rfl:u=.string s:=hx
  obtain rfl:=Option.some.inj h
  exact⟨_,by simp[Builtin.len_,run_underlying hu,goInt],rfl⟩
 ·rename_i e hu
  obtain rfl:u=.slice none 0 0:=hx
  obtain rfl:=Option.some.inj h
  exact⟨_,by simp[Builtin.len_,run_underlying hu,goInt],rfl⟩
 ·rename_i e own o off n st hu
  obtain⟨b,a,cap,_,rfl,_⟩:=hx
  obtain rfl:=Option.some.inj h
  exact⟨_,by simp[Builtin.len_,run_underlying hu,goInt],rfl⟩
 ·rename_i n e hu
  obtain rfl:=Option.some.inj h
  exact⟨_,by simp[Builtin.len_,run_underlying hu,goInt],rfl⟩
 ·cases h
def oU (P:Program) (t:TypeId) (x i:AV):Option AV:=
 match x,i with
 |.val (.string s),.val (.int k n)=>match P.underlying t with
  |some .string=>if 0≤n∧n<s.size then some (.val (.int .u8 ((s.data.toList.getD n.toNat 0).toNat:Int))) else none
  |_=>none
 |.agg l,.val (.int k n)=>match P.underlying t with
  |some (.array len e)=>match kd P e with
   |some .one=>if 0≤n∧n<len then l[n.toNat]? else none
   |_=>none
  |_=>none
 |_,_=>none
theorem aHE {t:TypeId} {x i c:AV} (h:oU P t x i=some c) {m:aX} {w:World} {u v:Value} (hx:rel m w x u) (hi:rel m w i v):∃r,(Instr.index t u v).run P w=.ok r w∧rel m w c r:=by
 unfold oU at h
 split at h
 ·rename_i s k n
  obtain rfl:u=.string s:=hx
  obtain rfl:v=.int k n:=hi
  split at h
  ·rename_i hu
   split at h
   ·rename_i hc
    obtain rfl:=Option.some.inj h
    obtain⟨j,rfl⟩:=Int.eq_ofNat_of_zero_le hc.1
    have hj:j<s.size:=by omega
    refine⟨_,?_,rfl⟩
    have hb:s[(j:Int).toNat]?=some s[j]:=by simp[hj]
    have hd:s.data.toList.getD (j:Int).toNat 0=s[j]:=by
     have:j<s.data.toList.length:=hj
     simp only[Int.toNat_natCast,List.getD_eq_getElem?_getD,List.getElem?_eq_getElem this,Option.getD_some]
     rfl
    unfold Instr.index
    simp only[Sem.run_bind,oF,run_underlying hu,Result.andThen_ok]
    rw[if_pos (by omega),hb,hd]
    rfl
   ·cases h
  ·cases h
 ·rename_i l k n
  obtain⟨vs,rfl,hl⟩:=hx
  obtain rfl:v=.int k n:=hi
  split at h
  ·rename_i len e hu
   split at h
   ·rename_i hk
    split at h
    ·rename_i hc
     obtain⟨r,h1,h2⟩:=fP hl _ _ h
     obtain⟨d,inf,hu2,hi2,hs1,hs,ha⟩:=aDs hk
     refine⟨r,?_,h2⟩
     unfold Instr.index
     simp only[Sem.run_bind,oF,run_underlying hu,Result.andThen_ok]
     rw[if_pos (by simpa using hc)]
     rw[Array.getElem?_toList] at h1
     simp[fR hi2,hs1,part,pD hu2 hs ha,h1]
    ·cases h
   ·cases h
  ·cases h
 ·cases h
def fo1 (P:Program) (t:TypeId) (f:Nat):Option Nat:=
 match P.underlying t with
 |some (.struct fs)=>match fs[f]? with
  |some y=>match kd P y.type with
   |some .one=>some y.offset
   |_=>none
  |none=>none
 |_=>none
def oV (P:Program) (t:TypeId) (x:AV) (f:Nat):Option AV:=
 match x,fo1 P t f with
 |.agg l,some k=>l[k]?
 |_,_=>none
theorem aHF {t:TypeId} {x c:AV} {f:Nat} (h:oV P t x f=some c) {m:aX} {w:World} {u:Value} (hx:rel m w x u):∃r,(Instr.field t u f).run P w=.ok r w∧rel m w c r:=by
 unfold oV at h
 split at h
 ·rename_i l k hfo
  obtain⟨vs,rfl,hl⟩:=hx
  unfold fo1 at hfo
  split at hfo
  ·rename_i fs hu
   split at hfo
   ·rename_i y hy
    split at hfo
    ·rename_i hk
     obtain rfl:=Option.some.inj hfo
     obtain⟨r,h1,h2⟩:=fP hl _ _ h
     obtain⟨d,inf,hu2,hi2,hs1,hs,ha⟩:=aDs hk
     refine⟨r,?_,h2⟩
     unfold Instr.field
     rw[Array.getElem?_toList] at h1
     simp only[Sem.run_bind,run_underlying hu,Result.andThen_ok,hy]
     have e:asAgg (Value.agg vs)=pure vs:=rfl
     simp[e,part,pD hu2 hs ha,h1]
    ·cases hfo
   ·cases hfo
  ·cases hfo
 ·cases h
def nO (x:AV) (i:Nat):Option AV:=
 match x with
 |.tup l=>l[i]?
 |.val (.tuple vs)=>vs[i]?.map .val
 |_=>none
theorem aDw {x c:AV} {i:Nat} (h:nO x i=some c) {m:aX} {w:World} {u:Value} (hx:rel m w x u):∃r,(Instr.extract u i).run P w=.ok r w∧rel m w c r:=by
 unfold nO at h
 split at h
 ·obtain⟨vs,rfl,hl⟩:=hx
  obtain⟨r,h1,h2⟩:=fP hl _ _ h
  rw[Array.getElem?_toList] at h1
  exact⟨r,by simp[Instr.extract,h1],h2⟩
 ·rename_i vs
  obtain rfl:u=.tuple vs:=hx
  obtain⟨r,h1,rfl⟩:=Option.map_eq_some_iff.1 h
  exact⟨r,by simp[Instr.extract,h1],rfl⟩
 ·cases h
variable {P:Program} {C:dC}
theorem fX {α β:Type} (s:Sem α) (f:α→Sem β):aT P (s >>= f)=(aT P s).bind fun a=>aT P (f a):=by
 show aT P (s.bind f)=_
 induction s<;>simp_all [Sem.bind,aT]
theorem mM {α:Type} (a:α):aT P (pure a:Sem α)=some a:=rfl
theorem pZ {u:TypeDesc} {t:TypeId} (h:P.underlying t=some u):aT P (underlying t)=some u:=by
 unfold underlying
 simp only[fX]
 show aT P (match P.underlying t with|some u=>pure u|none=>_)=_
 rw[h];rfl
theorem aMi {α:Type} {c:Prop} [Decidable c] {a b:Sem α}:aT P (if c then a else b)=if c then aT P a else aT P b:=by split<;>rfl
def aK2:Option TypeDesc→Bool
 |some (.int .i64)=>true
 |_=>false
theorem aIZ {u:Option TypeDesc} (h:aK2 u=true):u=some (.int .i64):=by
 unfold aK2 at h
 split at h
 ·rfl
 ·cases h
def qR (P:Program) (k:TypeId):Bool:=match P.underlying k with
 |some (.array 2 i)=>aK2 (P.underlying i)&&((P.info? i).map (·.size)==some 1)
 |_=>false
theorem tG {k:TypeId} (h:qR P k=true):∃i f,P.underlying k=some (.array 2 i)∧P.underlying i=some (.int .i64)∧P.info? i=some f∧f.size=1:=by
 unfold qR at h
 split at h
 ·rename_i i hu
  rw[Bool.and_eq_true,beq_iff_eq,Option.map_eq_some_iff] at h
  obtain⟨h1,f,h2,h3⟩:=h
  exact⟨i,f,hu,aIZ h1,h2,h3⟩
 ·cases h
def kv (k:Int×Int):Value:=.agg #[.int .i64 k.1,.int .i64 k.2]
theorem sD {u:TypeId} {k:IntKind} (h:P.underlying u=some (.int k)) {xs:Array Value} {n:Nat} {v:Value} (hv:xs[n]?=some v):aT P (part u xs n)=some v:=by
 unfold part isAgg
 simp only[fX,pZ h,Option.bind_some,hv]
 rfl
theorem aDx {i:TypeId} {f:TypeInfo} (h:P.info? i=some f):aT P (sizeOf i)=some f.size:=by
 unfold sizeOf typeInfo
 simp only[fX]
 show Option.bind (aT P (match P.info? i with|some u=>pure u|none=>_)) _=_
 rw[h];rfl
theorem aFI {k:TypeId} (h:qR P k=true) (b:Bool) (x:Int×Int):aT P (Instr.checkKey b 10000 k (kv x))=some ():=by
 obtain⟨i,f,h1,h2,h3,h4⟩:=tG h
 have hc:∀v:Int,aT P (Instr.checkKey b 9999 i (.int .i64 v))=some ():=fun v=>by
  rw[Instr.checkKey,fX,pZ h2];rfl
 rw[Instr.checkKey,fX,pZ h1]
 simp only[Option.bind_some,kv,Std.Legacy.Range.forIn_eq_forIn_range',Std.Legacy.Range.size]
 simp only[show (2-0+1-1)/1=2 from rfl,List.range',List.forIn_cons,List.forIn_nil,fX,aDx h3,h4,Option.bind_some,mM]
 rw[sD h2 (xs:=#[.int .i64 x.1,.int .i64 x.2]) (v:=.int .i64 x.1) rfl]
 simp only[Option.bind_some,hc,fX,aDx h3,h4,mM]
 rw[sD h2 (xs:=#[.int .i64 x.1,.int .i64 x.2]) (v:=.int .i64 x.2) rfl]
 simp only[Option.bind_some,hc,fX,mM]
theorem aK3 {k:TypeId} (h:qR P k=true) (x y:Int×Int):aT P (Op.equal k (kv x) (kv y))=some (decide (x=y)):=by
 obtain⟨i,f,h1,h2,h3,h4⟩:=tG h
 have hc:∀a b:Int,aT P (Op.equalIn 9999 i (.int .i64 a) (.int .i64 b))=some (a==b):=fun a b=>by
  rw[Op.equalIn,fX,pZ h2]
  simp only[Option.bind_some,if_true]
  rfl
 unfold Op.equal Op.maxDepth
 rw[Op.equalIn,fX,pZ h1]
 simp only[Option.bind_some,kv,Std.Legacy.Range.forIn_eq_forIn_range',Std.Legacy.Range.size]
 simp only[show (2-0+1-1)/1=2 from rfl,List.range',List.forIn_cons,List.forIn_nil,fX,aDx h3,h4,Option.bind_some,mM]
 rw[sD h2 (xs:=#[.int .i64 x.1,.int .i64 x.2]) (v:=.int .i64 x.1) rfl,sD h2 (xs:=#[.int .i64 y.1,.int .i64 y.2]) (v:=.int .i64 y.1) rfl]
 simp only[Option.bind_some,hc,aMi,fX,mM]
 obtain⟨x1,x2⟩:=x
 obtain⟨y1,y2⟩:=y
 by_cases e1:x1=y1
 ·subst e1
  simp only[beq_self_eq_true,Bool.not_true,Bool.false_eq_true,if_false,Option.bind_some,fX]
  rw[sD h2 (xs:=#[.int .i64 x1,.int .i64 x2]) (v:=.int .i64 x2) rfl,sD h2 (xs:=#[.int .i64 x1,.int .i64 y2]) (v:=.int .i64 y2) rfl]
  simp only[Option.bind_some,hc,aMi,fX,mM]
  by_cases e2:x2=y2<;>simp[e2,mM]
 ·simp[e1,mM]
variable {P:Program} {C:dC}
theorem cE.mine_lt {m:aX} {w:World} {H:aB} (h:cE C m w H) {o:Nat} {x:aD} {b:Nat×Nat} (hx:H[o]?=some x) (hb:m[o]?=some b) (hg:x≠.gone):b.1<w.heap.size:=by
 have hr:=h.obj _ _ _ hx hb
 cases x with
 |own e cs=>obtain⟨_,arr,h1,_⟩:=hr;exact (Array.getElem?_eq_some_iff.1 h1).1
 |map es=>obtain⟨_,_,_,h1,_⟩:=hr;exact (Array.getElem?_eq_some_iff.1 h1).1
 |mapI es=>obtain⟨_,_,_,h1,_⟩:=hr;exact (Array.getElem?_eq_some_iff.1 h1).1
 |ro cs=>have:=hr.1;have:=h.size;omega
 |gone=>exact absurd rfl hg
theorem cE.add {m:aX} {w:World} {H:aB} (h:cE C m w H) (ob:Obj) (x:aD) (hx:relO C (m++[(w.heap.size,0)]) (w.alloc ob) (w.heap.size,0) x) :
  Fwd C m w (m++[(w.heap.size,0)]) (w.alloc ob) (H++[x]):=by
 have hpre:m <+: m++[(w.heap.size,0)]:=List.prefix_append _ _
 have hs:=aIY w ob
 have split:∀(q:Nat) y b,(H++[x])[q]?=some y→(m++[(w.heap.size,0)])[q]?=some b→(H[q]?=some y∧m[q]?=some b)∨(q=H.length∧y=x∧b=(w.heap.size,0)):=by
  intro q y b hy hb
  by_cases hq:q<H.length
  ·rw[List.getElem?_append_left hq] at hy
   rw[List.getElem?_append_left (by rw[h.len];exact hq)] at hb
   exact .inl ⟨hy,hb⟩
  ·have:q=H.length:=by have:=(List.getElem?_eq_some_iff.1 hy).1;simp at this;omega
   subst this
   rw[List.getElem?_append_right (by omega)] at hy
   rw[List.getElem?_append_right (by rw[h.len];omega),h.len] at hb
   simp at hy hb
   exact .inr ⟨rfl,hy.symm,hb.symm⟩
 refine⟨hpre,hs,⟨h.below.alloc h.size _,by have:=h.size;simp;omega,by simp[h.len],fun g hg=>gY hpre (h.glob g hg),fun q y b hy hb=>?_,fun q q' y y' b b' hne hy hy' hb hb' hm hm'=>?_⟩⟩
 ·rcases split q y b hy hb with ⟨h1,h2⟩|⟨_,rfl,rfl⟩
  ·by_cases hg:y=.gone
   ·subst hg;trivial
   ·exact zF (iT (h.obj q y b h1 h2) hs (Below.heap_alloc w _ b.1 (h.mine_lt h1 h2 hg))) hpre
  ·exact hx
 ·have hng:∀{y:aD},y.mine=true→y≠.gone:=fun h e=>by subst e;simp[aD.mine] at h
  rcases split q y b hy hb with ⟨h1,h2⟩|⟨k1,rfl,rfl⟩<;>rcases split q' y' b' hy' hb' with ⟨h3,h4⟩|⟨k2,rfl,rfl⟩
  ·exact h.apart q q' y y' b b' hne h1 h3 h2 h4 hm hm'
  ·have:=h.mine_lt h1 h2 (hng hm);simp;omega
  ·have:=h.mine_lt h3 h4 (hng hm');simp;omega
  ·omega
theorem cE.turnTo {m:aX} {w w':World} {H:aB} (h:cE C m w H) {o:Nat} {b:Nat×Nat} {x x':aD} (ho:H[o]?=some x) (hb:m[o]?=some b) (hxm:x.mine=true) (hxm':x'.mine=true) (hB:C.B≤b.1)
  (hos:w'.os=w.os) (htape:w'.tape=w.tape) (hout:w'.output=w.output) (hsize:w'.heap.size=w.heap.size) (hfar:∀k,k≠b.1→w'.heap[k]?=w.heap[k]?) (hs:Szs w w') (hnew:relO C m w' b x') :
  cE C m w' (H.set o x'):=by
 have hlt:o<H.length:=(List.getElem?_eq_some_iff.1 ho).1
 have old:∀(q:Nat) y,(H.set o x')[q]?=some y→(q=o∧y=x')∨(q≠o∧H[q]?=some y):=by
  intro q y hy
  by_cases hq:q=o
  ·subst hq
   rw[List.getElem?_set_self hlt] at hy
   exact .inl ⟨rfl,(Option.some.inj hy).symm⟩
  ·rw[List.getElem?_set_ne (by omega)] at hy;exact .inr ⟨hq,hy⟩
 refine⟨⟨hos.trans h.below.os,htape.trans h.below.tape,hout.trans h.below.output,by rw[hsize];exact h.below.size,fun k hk=>(hfar k (by omega)).trans (h.below.block k hk)⟩,by rw[hsize];exact h.size,by simpa using h.len,h.glob,fun q y b' hy hb'=>?_,fun q q' y y' b1 b2 hne hy hy' h1 h2 hm hm'=>?_⟩
 ·rcases old q y hy with ⟨rfl,rfl⟩|⟨hq,h1⟩
  ·rw[hb] at hb';obtain rfl:=Option.some.inj hb';exact hnew
  ·have hr:=h.obj _ _ _ h1 hb'
   by_cases hg:y=.gone
   ·subst hg;trivial
   ·refine iT hr hs (hfar _ ?_)
    cases hm:y.mine with
    |true=>exact h.apart q o y x b' b hq h1 ho hb' hb hm hxm
    |false=>have:=tD hr hm hg;omega
 ·rcases old q y hy with ⟨rfl,rfl⟩|⟨n1,k1⟩<;>rcases old q' y' hy' with ⟨rfl,rfl⟩|⟨n2,k2⟩
  ·omega
  ·exact h.apart q q' x y' b1 b2 hne ho k2 h1 h2 hxm hm'
  ·exact h.apart q q' y x b1 b2 hne k1 ho h1 h2 hm hxm
  ·exact h.apart q q' y y' b1 b2 hne k1 k2 h1 h2 hm hm'
def nP (P:Program) (t:TypeId):Option TypeId:=
 match P.underlying t with
 |some (.map k e)=>match P.underlying k with
  |some .string=>some e
  |_=>none
 |_=>none
theorem uQ {t e:TypeId} (h:nP P t=some e):∃k,P.underlying t=some (.map k e)∧P.underlying k=some .string:=by
 unfold nP at h
 split at h
 ·rename_i k e' hu
  split at h
  ·rename_i hk
   obtain rfl:=Option.some.inj h
   exact⟨k,hu,hk⟩
  ·cases h
 ·cases h
theorem aB9 (s k:ByteArray):(s==k)=decide (s=k):=by
 cases s with
 |mk a=>cases k with
  |mk b=>show (a==b)=_;rw[Bool.eq_iff_iff];simp[ByteArray.mk.injEq]
def qS (s:ByteArray):List (ByteArray×AV)→Option AV
 |[]=>none
 |(k,c)::r=>if s=k then some c else qS s r
theorem rP (s:ByteArray) {m:aX} {w:World}:∀(es:List (ByteArray×AV)) (ens:List MapEntry) (i:Nat),ens.length=es.length→(∀(j:Nat) k c,es[j]?=some (k,c)→∃en,ens[j]?=some en∧en.key=.string k∧rel m w c en.val)→
  (qS s es=none∧Instr.findNow .string (.string s) ens i=some none∧∀p∈es,p.1≠s) ∨
  ∃j c v,qS s es=some c∧Instr.findNow .string (.string s) ens i=some (some (i+j,v))∧rel m w c v∧es[j]?=some (s,c)∧∀q,q<j→∀p,es[q]?=some p→p.1≠s
 |[],ens,i,hl,_=>by
  obtain rfl:=List.eq_nil_of_length_eq_zero hl
  exact .inl ⟨rfl,rfl,by simp⟩
 |(k,c)::es,[],i,hl,_=>by simp at hl
 |(k,c)::es,en::ens,i,hl,h=>by
  obtain⟨en',h1,h2,h3⟩:=h 0 k c rfl
  simp at h1;subst h1
  by_cases hk:s=k
  ·subst hk
   exact .inr ⟨0,c,en.val,by simp[qS],by simp[Instr.findNow,h2,Instr.sameNow,aB9],h3,rfl,by simp⟩
  ·have hne:Instr.sameNow .string (.string s) en.key=some false:=by simp[h2,Instr.sameNow,aB9,hk]
   rcases rP s es ens (i+1) (by simpa using hl) (fun j k c hj=>by
    obtain⟨e2,q1,q2,q3⟩:=h (j+1) k c (by simpa using hj)
    exact⟨e2,by simpa using q1,q2,q3⟩) with ⟨h4,h5,h6⟩|⟨j,c',v,h4,h5,h6,h7,h8⟩
   ·refine .inl ⟨by simp[qS,hk,h4],by simp[Instr.findNow,hne,h5],?_⟩
    intro p hp
    rcases List.mem_cons.1 hp with rfl|hp
    ·exact fun e=>hk e.symm
    ·exact h6 p hp
   ·refine .inr ⟨j+1,c',v,by simp[qS,hk,h4],by rw[Instr.findNow];simp only[hne];rw[h5];congr 3;omega,h6,by simpa using h7,?_⟩
    intro q hq p hp
    cases q with
    |zero=>simp at hp;subst hp;exact fun e=>hk e.symm
    |succ q=>exact h8 q (by omega) p (by simpa using hp)
theorem p9 {k:TypeId} {s:ByteArray} {b:Bool} {w:World} (hk:P.underlying k=some .string):(Instr.checkKey b 10000 k (.string s)).run P w=.ok () w:=by
 show (Instr.checkKey b (9999+1) k (.string s)).run P w=.ok () w
 rw[Instr.checkKey,Sem.run_bind,run_underlying hk];rfl
def zv (P:Program) (t:TypeId):Option Value:=(P.info? t).bind (·.zero)
theorem aI0 {t:TypeId} {z:Value} {w:World} (h:zv P t=some z):(zeroValue t).run P w=.ok z w:=by
 unfold zv at h
 obtain⟨i,hi,hz⟩:=Option.bind_eq_some_iff.1 h
 simp[zeroValue,typeInfo,hi,hz]
def jA (P:Program) (t:TypeId) (x k:AV) (ok:Bool) (H:aB):Option AV:=
 match nP P t,x,k with
 |some e,.mp o,.val (.string s)=>match H[o]?,zv P e with
  |some (.map es),some z=>match qS s es with
   |some c=>some (if ok then .tup [c,.val (.bool true)] else c)
   |none=>some (if ok then .tup [.val z,.val (.bool false)] else .val z)
  |_,_=>none
 |_,_,_=>none
theorem aFf {t:TypeId} {x k c:AV} {ok:Bool} {H:aB} (h:jA P t x k ok H=some c) {m:aX} {w:World} (hH:cE C m w H) {u v:Value} (hx:rel m w x u) (hk:rel m w k v) :
  ∃r,(Instr.lookup t u v ok).run P w=.ok r w∧rel m w c r:=by
 unfold jA at h
 split at h
 ·rename_i e o s hm
  obtain⟨K,hu,hks⟩:=uQ hm
  obtain⟨b,hb,rfl⟩:=hx
  obtain rfl:v=.string s:=hk
  split at h
  ·rename_i es z ho hz
   obtain⟨hB,ens,clock,hh,hsz,hen⟩:=hH.obj _ _ _ ho hb
   have hget:(getObj b.1).run P w=.ok (.map ens clock) w:=by simp[getObj,Sem.run,hh]
   have hchk:(Instr.checkKey ens.isEmpty 10000 K (.string s)).run P w=.ok () w:=p9 hks
   have hgoal:∀(r:Option (Nat×Value)) (vv:Value) (bb:Bool),Instr.findNow .string (.string s) ens.toList 0=some r→((r=none∧vv=z∧bb=false)∨∃i,r=some (i,vv)∧bb=true)→
     (Instr.lookup t (.map (some b.1)) (.string s) ok).run P w=.ok (if ok then .tuple #[vv,.bool bb] else vv) w:=by
    intro r vv bb hr hc
    unfold Instr.lookup
    simp only[Sem.run_bind,run_underlying hu,Result.andThen_ok,hget,Sem.run_pure,hchk,Instr.findKey,run_underlying hks,hr]
    rcases hc with ⟨rfl,rfl,rfl⟩|⟨i,rfl,rfl⟩
    ·simp[aI0 hz]
    ·simp
   rcases rP (m:=m) (w:=w) s es ens.toList 0 (by simpa using hsz) (fun j k c hj=>by
    obtain⟨en,q1,q2,q3⟩:=hen j k c hj
    exact⟨en,by simpa using q1,q2,q3⟩) with ⟨h4,h5,_⟩|⟨j,c',v,h4,h5,h6,_⟩
   ·rw[h4] at h
    obtain rfl:=Option.some.inj h
    refine⟨_,hgoal none z false h5 (.inl ⟨rfl,rfl,rfl⟩),?_⟩
    cases ok
    ·exact rfl
    ·exact⟨_,rfl,rfl,rfl,trivial⟩
   ·rw[h4] at h
    obtain rfl:=Option.some.inj h
    refine⟨_,hgoal _ v true h5 (.inr ⟨_,rfl,rfl⟩),?_⟩
    cases ok
    ·exact h6
    ·exact⟨_,rfl,h6,rfl,trivial⟩
  ·cases h
 ·cases h
def sE (P:Program) (t:TypeId) (x k v:AV) (H:aB):Option aB:=
 match nP P t,x,k with
 |some e,.mp o,.val (.string s)=>match H[o]? with
  |some (.map es)=>match qS s es with
   |none=>some (H.set o (.map (es++[(s,v)])))
   |some _=>none
  |_=>none
 |_,_,_=>none
theorem aFg {t:TypeId} {x k y:AV} {H H':aB} (h:sE P t x k y H=some H') {m:aX} {w:World} (hH:cE C m w H) {u v z:Value} (hx:rel m w x u) (hk:rel m w k v) (hy:rel m w y z) :
  ∃w',(Instr.mapUpdate t u v z).run P w=.ok () w'∧Fwd C m w m w' H':=by
 unfold sE at h
 split at h
 ·rename_i e o s hm
  obtain⟨K,hu,hks⟩:=uQ hm
  obtain⟨b,hb,rfl⟩:=hx
  obtain rfl:v=.string s:=hk
  split at h
  ·rename_i es ho
   split at h
   ·rename_i hfind
    obtain rfl:=Option.some.inj h
    obtain⟨hB,ens,clock,hh,hsz,hen⟩:=hH.obj _ _ _ ho hb
    have hget:(getObj b.1).run P w=.ok (.map ens clock) w:=by simp[getObj,Sem.run,hh]
    have hlt:b.1<w.heap.size:=(Array.getElem?_eq_some_iff.1 hh).1
    rcases rP (m:=m) (w:=w) s es ens.toList 0 (by simpa using hsz) (fun j k c hj=>by
     obtain⟨en,q1,q2,q3⟩:=hen j k c hj
     exact⟨en,by simpa using q1,q2,q3⟩) with ⟨h4,h5,_⟩|⟨j,c',v,h4,_⟩
    ·have hfk:(Instr.findKey K (.string s) ens.toList).run P w=.ok none w:=by simp[Instr.findKey,run_underlying hks,h5]
     refine⟨{w with heap:=w.heap.setIfInBounds b.1 (.map (ens.push {key:=.string s,val:=z,born:=clock}) (clock+1))},?_,List.prefix_refl m,?_,?_⟩
     ·unfold Instr.mapUpdate
      simp only[Sem.run_bind,run_underlying hu,Result.andThen_ok,hget,p9 hks,hfk]
      simp[setObj,Sem.run,hh]
     ·intro k a e' fr hka
      refine⟨a,?_,rfl⟩
      by_cases hkb:k=b.1
      ·subst hkb;rw[hh] at hka;cases hka
      ·simp only[Array.getElem?_setIfInBounds_ne (Ne.symm hkb)];exact hka
     ·have hs:Szs w {w with heap:=w.heap.setIfInBounds b.1 (.map (ens.push {key:=.string s,val:=z,born:=clock}) (clock+1))}:=by
       intro k a e' fr hka
       refine⟨a,?_,rfl⟩
       by_cases hkb:k=b.1
       ·subst hkb;rw[hh] at hka;cases hka
       ·simp only[Array.getElem?_setIfInBounds_ne (Ne.symm hkb)];exact hka
      refine hH.turnTo ho hb rfl rfl hB rfl rfl rfl (by simp) (fun k hk=>by simp only[Array.getElem?_setIfInBounds_ne (Ne.symm hk)]) hs ⟨hB,ens.push {key:=.string s,val:=z,born:=clock},clock+1,?_,?_,?_⟩
      ·simp[hlt]
      ·simp[hsz]
      ·intro j k c hj
       by_cases hjl:j<es.length
       ·rw[List.getElem?_append_left hjl] at hj
        obtain⟨en,q1,q2,q3⟩:=hen j k c hj
        exact⟨en,by rw[Array.getElem?_push_lt (by omega)];rw[←q1,Array.getElem?_eq_getElem (by omega)],q2,rel_more (List.prefix_refl m) hs q3⟩
       ·have:j=es.length:=by have:=(List.getElem?_eq_some_iff.1 hj).1;simp at this;omega
        subst this
        rw[List.getElem?_append_right (by omega)] at hj
        simp at hj
        obtain⟨rfl,rfl⟩:=hj
        exact⟨_,by rw[←hsz];exact Array.getElem?_push_size,rfl,rel_more (List.prefix_refl m) hs hy⟩
    ·rw[hfind] at h4;cases h4
   ·cases h
  ·cases h
 ·cases h
def kC (P:Program) (t:TypeId):Bool:=match P.underlying t with
 |some (.map k e)=>qR P k&&(match zv P e with|some (.bool false)=>true|_=>false)
 |_=>false
theorem sF {t:TypeId} (h:kC P t=true):∃k e,P.underlying t=some (.map k e)∧qR P k=true∧zv P e=some (.bool false):=by
 unfold kC at h
 split at h
 ·rename_i k e hu
  rw[Bool.and_eq_true] at h
  refine⟨k,e,hu,h.1,?_⟩
  have h2:=h.2
  split at h2
  ·assumption
  ·cases h2
 ·cases h
def aAc:AV→Option (Int×Int)
 |.agg [.val (.int .i64 a),.val (.int .i64 b)]=>some (a,b)
 |.val (.agg ⟨[.int .i64 a,.int .i64 b]⟩)=>some (a,b)
 |_=>none
theorem aCa {x:AV} {k:Int×Int} (h:aAc x=some k) {m:aX} {w:World} {v:Value} (hv:rel m w x v):v=kv k:=by
 unfold aAc at h
 split at h
 ·obtain rfl:=Option.some.inj h
  obtain⟨vs,rfl,hr⟩:=hv
  obtain⟨l⟩:=vs
  match l,hr with
  |[u,v],hr=>obtain⟨h1,h2,_⟩:=hr;obtain rfl:u=_:=h1;obtain rfl:v=_:=h2;rfl
 ·obtain rfl:=Option.some.inj h
  obtain rfl:v=_:=hv
  rfl
 ·cases h
def oG (s:Int×Int):List ((Int×Int)×Bool)→Option Bool
 |[]=>none
 |(k,c)::r=>if s=k then some c else oG s r
def nQ (s:Int×Int) (b:Bool):List ((Int×Int)×Bool)→List ((Int×Int)×Bool)
 |[]=>[(s,b)]
 |(k,c)::r=>if s=k then (s,b)::r else (k,c)::nQ s b r
def nR:Option aD→Option (List ((Int×Int)×Bool))
 |some (.map [])=>some []
 |some (.mapI es)=>some es
 |_=>none
def iH (x k:AV) (ok:Bool) (H:aB):Option AV:=match x,aAc k with
 |.mp o,some s=>if ok then none else (nR H[o]?).map fun es=>.val (.bool ((oG s es).getD false))
 |_,_=>none
def p5 (x k v:AV) (H:aB):Option aB:=match x,aAc k,v with
 |.mp o,some s,.val (.bool b)=>(nR H[o]?).map fun es=>H.set o (.mapI (nQ s b es))
 |_,_,_=>none
def gF (P:Program) (t:TypeId) (x k:AV) (ok:Bool) (H:aB):Option AV:=if kC P t then iH x k ok H else jA P t x k ok H
def jY (P:Program) (t:TypeId) (x k v:AV) (H:aB):Option aB:=if kC P t then p5 x k v H else sE P t x k v H
theorem aDy {H:aB} {o:Nat} {es:List ((Int×Int)×Bool)} (h:nR H[o]?=some es) {m:aX} {w:World} (hH:cE C m w H) {b:Nat×Nat} (hb:m[o]?=some b) :
  ∃x,H[o]?=some x∧x.mine=true∧C.B≤b.1∧∃ens clock,w.heap[b.1]?=some (.map ens clock)∧ens.size=es.length∧∀(j:Nat) k c,es[j]?=some (k,c)→∃en,ens[j]?=some en∧en.key=kv k∧en.val=.bool c:=by
 unfold nR at h
 split at h
 ·rename_i ho
  obtain rfl:=Option.some.inj h
  obtain⟨hB,ens,clock,h1,h2,_⟩:=hH.obj _ _ _ ho hb
  exact⟨_,ho,rfl,hB,ens,clock,h1,h2,by simp⟩
 ·rename_i es' ho
  obtain rfl:=Option.some.inj h
  obtain⟨hB,ens,clock,h1,h2,h3⟩:=hH.obj _ _ _ ho hb
  exact⟨_,ho,rfl,hB,ens,clock,h1,h2,h3⟩
 ·cases h
theorem u0 {K:TypeId} (hK:qR P K=true) (s:Int×Int):∀(es:List ((Int×Int)×Bool)) (ens:List MapEntry) (i:Nat),ens.length=es.length→(∀(j:Nat) k c,es[j]?=some (k,c)→∃en,ens[j]?=some en∧en.key=kv k∧en.val=.bool c)→
  (oG s es=none∧aT P (Instr.findAsking K (kv s) ens i)=some none∧∀b,nQ s b es=es++[(s,b)]) ∨
  ∃j c,oG s es=some c∧aT P (Instr.findAsking K (kv s) ens i)=some (some (i+j,.bool c))∧es[j]?=some (s,c)∧∀b,nQ s b es=es.set j (s,b)
 |[],ens,i,hl,_=>by
  obtain rfl:=List.eq_nil_of_length_eq_zero hl
  exact .inl ⟨rfl,rfl,fun _=>rfl⟩
 |(k,c)::es,[],i,hl,_=>by simp at hl
 |(k,c)::es,en::ens,i,hl,h=>by
  obtain⟨en',h1,h2,h3⟩:=h 0 k c rfl
  simp at h1;subst h1
  by_cases hk:s=k
  ·subst hk
   refine .inr ⟨0,c,by simp[oG],?_,rfl,fun b=>by simp[nQ]⟩
   rw[Instr.findAsking,fX,h2,aK3 hK,h3]
   simp[mM]
  ·rcases u0 hK s es ens (i+1) (by simpa using hl) (fun j k c hj=>by
    obtain⟨e2,q1,q2⟩:=h (j+1) k c (by simpa using hj)
    exact⟨e2,by simpa using q1,q2⟩) with ⟨h4,h5,h6⟩|⟨j,c',h4,h5,h6,h7⟩
   ·refine .inl ⟨by simp[oG,hk,h4],?_,fun b=>by simp[nQ,hk,h6 b]⟩
    rw[Instr.findAsking,fX,h2,aK3 hK,dcF hk]
    simpa using h5
   ·refine .inr ⟨j+1,c',by simp[oG,hk,h4],?_,by simpa using h6,fun b=>by simp[nQ,hk,h7 b]⟩
    rw[Instr.findAsking,fX,h2,aK3 hK,dcF hk]
    simp only[Option.bind_some,Bool.false_eq_true,if_false]
    rw[h5];congr 3;omega
theorem qA {K:TypeId} (hK:qR P K=true) (s:Int×Int) {es:List ((Int×Int)×Bool)} {ens:Array MapEntry} (hl:ens.size=es.length) (h:∀(j:Nat) k c,es[j]?=some (k,c)→∃en,ens[j]?=some en∧en.key=kv k∧en.val=.bool c) (w:World) :
  (oG s es=none∧(Instr.findKey K (kv s) ens.toList).run P w=.ok none w∧∀b,nQ s b es=es++[(s,b)]) ∨
  ∃j c,oG s es=some c∧(Instr.findKey K (kv s) ens.toList).run P w=.ok (some (j,.bool c)) w∧es[j]?=some (s,c)∧∀b,nQ s b es=es.set j (s,b):=by
 obtain⟨i,f,h1,_⟩:=tG hK
 have e:∀r,aT P (Instr.findAsking K (kv s) ens.toList 0)=some r→(Instr.findKey K (kv s) ens.toList).run P w=.ok r w:=fun r hr=>by
  refine gB ?_ w
  unfold Instr.findKey
  rw[fX,pZ h1]
  simp only[Option.bind_some]
  cases he:ens.toList with
  |nil=>rw[he] at hr;exact hr
  |cons en l=>rw[he] at hr;exact hr
 rcases u0 hK s es ens.toList 0 (by simpa using hl) (fun j k c hj=>by
   obtain⟨en,q1,q2⟩:=h j k c hj
   exact⟨en,by simpa using q1,q2⟩) with ⟨h4,h5,h6⟩|⟨j,c,h4,h5,h6,h7⟩
 ·exact .inl ⟨h4,e _ h5,h6⟩
 ·exact .inr ⟨j,c,h4,by have:=e _ h5;rwa [Nat.zero_add] at this,h6,h7⟩
theorem aFh {t:TypeId} (ht:kC P t=true) {x k c:AV} {ok:Bool} {H:aB} (h:iH x k ok H=some c) {m:aX} {w:World} (hH:cE C m w H) {u v:Value} (hx:rel m w x u) (hk:rel m w k v) :
  ∃r,(Instr.lookup t u v ok).run P w=.ok r w∧rel m w c r:=by
 obtain⟨K,e,hu,hK,hz⟩:=sF ht
 unfold iH at h
 split at h
 ·rename_i o s hs
  obtain⟨b,hb,rfl⟩:=hx
  obtain rfl:=aCa hs hk
  split at h
  ·cases h
  ·rename_i hok
   simp only[Bool.not_eq_true] at hok
   subst hok
   obtain⟨es,he,rfl⟩:=Option.map_eq_some_iff.1 h
   obtain⟨x,-,-,hB,ens,clock,hh,hsz,hen⟩:=aDy he hH hb
   have hget:(getObj b.1).run P w=.ok (.map ens clock) w:=by simp[getObj,Sem.run,hh]
   have hchk:(Instr.checkKey ens.isEmpty 10000 K (kv s)).run P w=.ok () w:=gB (aFI hK _ s) w
   refine⟨_,?_,rfl⟩
   unfold Instr.lookup
   rcases qA hK s hsz hen w with ⟨h4,h5,-⟩|⟨j,c,h4,h5,-,-⟩
   ·simp only[Sem.run_bind,run_underlying hu,Result.andThen_ok,hget,Sem.run_pure,hchk,h5,h4]
    simp[aI0 hz]
   ·simp only[Sem.run_bind,run_underlying hu,Result.andThen_ok,hget,Sem.run_pure,hchk,h5,h4]
    simp
 ·cases h
theorem aFi {t:TypeId} (ht:kC P t=true) {x k y:AV} {H H':aB} (h:p5 x k y H=some H') {m:aX} {w:World} (hH:cE C m w H) {u v z:Value} (hx:rel m w x u) (hk:rel m w k v) (hy:rel m w y z) :
  ∃w',(Instr.mapUpdate t u v z).run P w=.ok () w'∧Fwd C m w m w' H':=by
 obtain⟨K,e,hu,hK,hz⟩:=sF ht
 unfold p5 at h
 split at h
 ·rename_i o s bb hs
  obtain⟨b,hb,rfl⟩:=hx
  obtain rfl:=aCa hs hk
  obtain rfl:z=_:=hy
  obtain⟨es,he,rfl⟩:=Option.map_eq_some_iff.1 h
  obtain⟨x,ho,hmine,hB,ens,clock,hh,hsz,hen⟩:=aDy he hH hb
  have hget:(getObj b.1).run P w=.ok (.map ens clock) w:=by simp[getObj,Sem.run,hh]
  have hchk:(Instr.checkKey false 10000 K (kv s)).run P w=.ok () w:=gB (aFI hK _ s) w
  have hlt:b.1<w.heap.size:=(Array.getElem?_eq_some_iff.1 hh).1
  have key:∀(ens':Array MapEntry) (clock':Nat),ens'.size=(nQ s bb es).length→(∀(j:Nat) k c,(nQ s bb es)[j]?=some (k,c)→∃en,ens'[j]?=some en∧en.key=kv k∧en.val=.bool c)→
    Fwd C m w m {w with heap:=w.heap.setIfInBounds b.1 (.map ens' clock')} (H.set o (.mapI (nQ s bb es))):=fun ens' clock' q1 q2=>by
   have hs:Szs w {w with heap:=w.heap.setIfInBounds b.1 (.map ens' clock')}:=by
    intro k a e' fr hka
    refine⟨a,?_,rfl⟩
    by_cases hkb:k=b.1
    ·subst hkb;rw[hh] at hka;cases hka
    ·simp only[Array.getElem?_setIfInBounds_ne (Ne.symm hkb)];exact hka
   refine⟨List.prefix_refl m,hs,?_⟩
   exact hH.turnTo ho hb hmine rfl hB rfl rfl rfl (by simp) (fun k hk=>by simp only[Array.getElem?_setIfInBounds_ne (Ne.symm hk)]) hs ⟨hB,ens',clock',by simp[hlt],q1,q2⟩
  rcases qA hK s hsz hen w with ⟨h4,h5,h6⟩|⟨j,c,h4,h5,h6,h7⟩
  ·refine⟨_,?_,key (ens.push {key:=kv s,val:=.bool bb,born:=clock}) (clock+1) (by rw[h6];simp[hsz]) ?_⟩
   ·unfold Instr.mapUpdate
    simp only[Sem.run_bind,run_underlying hu,Result.andThen_ok,hget,hchk,h5]
    simp[setObj,Sem.run,hh]
   ·intro j k c hj
    rw[h6] at hj
    by_cases hjl:j<es.length
    ·rw[List.getElem?_append_left hjl] at hj
     obtain⟨en,q1,q2⟩:=hen j k c hj
     exact⟨en,by rw[Array.getElem?_push_lt (by omega)];rw[←q1,Array.getElem?_eq_getElem (by omega)],q2⟩
    ·have:j=es.length:=by have:=(List.getElem?_eq_some_iff.1 hj).1;simp at this;omega
     subst this
     rw[List.getElem?_append_right (by omega)] at hj
     simp at hj
     obtain⟨rfl,rfl⟩:=hj
     exact⟨_,by rw[←hsz];exact Array.getElem?_push_size,rfl,rfl⟩
  ·obtain⟨en,e1,e2,e3⟩:=hen j s c h6
   have hbits:Instr.sameBits 10000 (kv s) (kv s)=true:=by
    show Instr.sameBits (9999+1) (.agg _) (.agg _)=true
    simp[Instr.sameBits]
   refine⟨_,?_,key (ens.modify j fun e=>{e with key:=kv s,val:=.bool bb}) clock (by rw[h7];simp[hsz]) ?_⟩
   ·unfold Instr.mapUpdate Instr.keyThatStays
    simp only[Sem.run_bind,run_underlying hu,Result.andThen_ok,hget,hchk,h5,e1,Option.map_some,Option.getD_some,e2,hbits,if_true,Sem.run_pure]
    simp[setObj,Sem.run,hh]
   ·intro q k c' hq
    rw[h7,List.getElem?_set] at hq
    have hjl:j<es.length:=(List.getElem?_eq_some_iff.1 h6).1
    by_cases hjq:j=q
    ·subst hjq
     rw[if_pos rfl,if_pos hjl] at hq
     simp at hq
     obtain⟨rfl,rfl⟩:=hq
     exact⟨{en with key:=kv s,val:=.bool bb},by rw[Array.getElem?_modify];simp[e1],rfl,rfl⟩
    ·rw[if_neg hjq] at hq
     obtain⟨en',q1,q2⟩:=hen q k c' hq
     exact⟨en',by rw[Array.getElem?_modify];simp[hjq,q1],q2⟩
 ·cases h
theorem aFj {t:TypeId} {x k c:AV} {ok:Bool} {H:aB} (h:gF P t x k ok H=some c) {m:aX} {w:World} (hH:cE C m w H) {u v:Value} (hx:rel m w x u) (hk:rel m w k v) :
  ∃r,(Instr.lookup t u v ok).run P w=.ok r w∧rel m w c r:=by
 unfold gF at h
 split at h
 ·exact aFh ‹_› h hH hx hk
 ·exact aFf h hH hx hk
theorem xO {t:TypeId} {x k y:AV} {H H':aB} (h:jY P t x k y H=some H') {m:aX} {w:World} (hH:cE C m w H) {u v z:Value} (hx:rel m w x u) (hk:rel m w k v) (hy:rel m w y z) :
  ∃w',(Instr.mapUpdate t u v z).run P w=.ok () w'∧Fwd C m w m w' H':=by
 unfold jY at h
 split at h
 ·exact aFi ‹_› h hH hx hk hy
 ·exact aFg h hH hx hk hy
variable {P:Program} {C:dC}
def fE (P:Program) (b:Builtin) (ty:TypeId) (args:List AV) (ts:Array TypeId) (H:aB):Ans:=
 match b,args,ts.toList with
 |.len,[x],[t]=>(aDv P t x).map fun c=>(c,H)
 |.append,[x,y],[t,t']=>if t=t' then cW P t x y H else none
 |.max,xs,_=>(plains xs).bind fun vs=>(aT P (Builtin.max_ ts ty vs.toArray)).map fun v=>(.val v,H)
 |.min,xs,_=>(plains xs).bind fun vs=>(aT P (Builtin.min_ ts ty vs.toArray)).map fun v=>(.val v,H)
 |_,_,_=>none
def bH (P:Program) (t:TypeId):Option Bool:=
 match P.underlying t with
 |some (.interface _)=>some true
 |some _=>some false
 |none=>none
def dK (P:Program) (o:Oper) (env:Env) (H:aB):Ans:=
 match o.op with
 |.move x=>some (opA env x,H)
 |.assign x=>some (opA env x,H)
 |.pick c a b=>match opA env c with
  |.val (.bool t)=>some (if t then opA env a else opA env b,H)
  |_=>none
 |.alloc e=>match zc P e with
  |some zs=>if zs.all Value.oneCell' then some (.ptr H.length 0,H++[.own e (zs.map .val)]) else none
  |none=>none
 |.box e x=>(dS (opA env x)).map fun l=>(.ptr H.length 0,H++[.own e l])
 |.build t ps=>(hZ env ps.toList).bind fun r=>lG P t r H
 |.buildSlice t n ps=>(hZ env ps.toList).bind fun r=>gW P t n r H
 |.load t x=>iE P t (opA env x) H
 |.store t x y=>(oR P t (opA env x) (opA env y) H).map fun H'=>(.any,H')
 |.nilCheck x=>match opA env x with
  |.ptr a b=>some (.ptr a b,H)
  |.fn (.func f) a c=>some (.fn (.func f) a c,H)
  |_=>none
 |.binOp op t x y _=>(cH P op t x y (opA env x) (opA env y)).map fun c=>(c,H)
 |.unOp op _ x=>(plain (opA env x)).bind fun v=>(aT P (Op.unary op v)).map fun r=>(.val r,H)
 |.convert s d x=>(plain (opA env x)).bind fun v=>(aT P (convert s d v)).map fun r=>(.val r,H)
 |.slice t x lo hi none=>lI P t (opA env x) (lo.map (opA env)) (hi.map (opA env)) H
 |.fieldAddr s x f=>jL P s (opA env x) f H
 |.indexAddr t x i=>iN P t (opA env x) (opA env i) H
 |.index t x i=>(oU P t (opA env x) (opA env i)).map fun c=>(c,H)
 |.lookup t x k ok=>(gF P t (opA env x) (opA env k) ok H).map fun c=>(c,H)
 |.insert t m k v=>(jY P t (opA env m) (opA env k) (opA env v) H).map fun H'=>(.any,H')
 |.mapUpdate t m k v=>(jY P t (opA env m) (opA env k) (opA env v) H).map fun H'=>(.any,H')
 |.makeMap t none=>some (.mp H.length,H++[.map []])
 |.makeSlice t l c=>fS P t (opA env l) (opA env c) H
 |.extract x i=>(nO (opA env x) i).map fun c=>(c,H)
 |.field t x i=>(oV P t (opA env x) i).map fun c=>(c,H)
 |.makeInterface t x=>match bH P t with
  |some false=>some (.ifc t (opA env x),H)
  |_=>none
 |.makeFunc f a c=>some (.fn f (a.toList.map (opA env)) (c.toList.map (opA env)),H)
 |.call c=>match c.callee with
  |.builtin b=>fE P b o.type (c.args.toList.map (opA env)) c.argTypes H
  |_=>none
 |_=>none
def aDz (P:Program) (C:dC) (o:Oper) (a:Act) (m:aX) (w:World) (r:AV) (H':aB):Prop:=
 ∃nxt m' w',(execOp a.eval o).run P w=.ok nxt w'∧((∃u,nxt=.value u∧rel m' w' r u)∨(nxt=.skip∧r=.any))∧Fwd C m w m' w' H'
theorem iA {m:aX} {w:World} {env:Env} {a:Act} (h:fG m w env a) {H:aB} (hH:cE C m w H):∀{xs:List Operand},(∀x∈xs,okX C.nG x=true)→rels m w (xs.map (opA env)) (xs.map a.eval)
 |[],_=>trivial
 |x::xs,hx=>⟨nN h hH (lX (hx x (List.mem_cons_self ..))),iA h hH fun y hy=>hx y (List.mem_cons_of_mem _ hy)⟩
theorem aDA {b:Builtin} {ty:TypeId} {args:List AV} {ts:Array TypeId} {H H':aB} {r:AV} (h:fE P b ty args ts H=some (r,H')) {m:aX} {w:World} (hH:cE C m w H) {vs:List Value} (hr:rels m w args vs) (consts:Array Bool) :
  ∃u m' w',(Go.builtin b ts ty consts vs.toArray).run P w=.ok (.value u) w'∧Fwd C m w m' w' H'∧rel m' w' r u:=by
 have self:Fwd C m w m w H:=⟨List.prefix_refl m,Szs.refl w,hH⟩
 unfold fE at h
 split at h
 ·rename_i x t hts
  obtain⟨c,h1,h2⟩:=Option.map_eq_some_iff.1 h
  simp only[Prod.mk.injEq] at h2
  obtain⟨rfl,rfl⟩:=h2
  match vs,hr with
  |[u],hr=>
   obtain⟨y,h3,h4⟩:=aK1 (ty:=ty) h1 hr.1
   have hts':ts=#[t]:=by rw[←Array.toArray_toList (xs:=ts),hts]
   subst hts'
   exact⟨y,m,w,by simp[Go.builtin,h3],self,h4⟩
 ·rename_i x y t t' hts
  split at h
  ·rename_i he
   subst he
   match vs,hr with
   |[u,v],hr=>
    obtain⟨z,m',w',h3,h4,h5⟩:=aFe (ty:=ty) h hH hr.1 hr.2.1
    have hts':ts=#[t,t]:=by rw[←Array.toArray_toList (xs:=ts),hts]
    subst hts'
    exact⟨z,m',w',by simp[Go.builtin,h3],h4,h5⟩
  ·cases h
 ·obtain⟨us,h1,h2⟩:=Option.bind_eq_some_iff.1 h
  obtain⟨v,h3,h4⟩:=Option.map_eq_some_iff.1 h2
  simp only[Prod.mk.injEq] at h4
  obtain⟨rfl,rfl⟩:=h4
  obtain rfl:=plains_rel h1 hr
  exact⟨v,m,w,by simp[Go.builtin,gB h3 w],self,rfl⟩
 ·obtain⟨us,h1,h2⟩:=Option.bind_eq_some_iff.1 h
  obtain⟨v,h3,h4⟩:=Option.map_eq_some_iff.1 h2
  simp only[Prod.mk.injEq] at h4
  obtain⟨rfl,rfl⟩:=h4
  obtain rfl:=plains_rel h1 hr
  exact⟨v,m,w,by simp[Go.builtin,gB h3 w],self,rfl⟩
 ·cases h
theorem aDa {t:TypeId} (h:bH P t=some false):∃d,P.underlying t=some d∧∀ms,d≠.interface ms:=by
 unfold bH at h
 split at h
 ·simp at h
 ·rename_i d hd hu;exact⟨d,hu,fun ms e=>hd ms e⟩
 ·cases h
set_option maxHeartbeats 4000000 in
theorem aCb {o:Oper} {env:Env} {H H':aB} {r:AV} (h:dK P o env H=some (r,H')) {m:aX} {w:World} {a:Act} (hH:cE C m w H) (hE:fG m w env a) (hx:o.op.operands.all (okX C.nG)=true) :
  aDz P C o a m w r H':=by
 have self:Fwd C m w m w H:=⟨List.prefix_refl m,Szs.refl w,hH⟩
 have hmem:∀x∈o.op.operands,okX C.nG x=true:=fun x hxm=>by rw[Array.all_eq_true_iff_forall_mem] at hx;exact hx x hxm
 have ev:∀x∈o.op.operands,rel m w (opA env x) (a.eval x):=fun x hxm=>nN hE hH (lX (hmem x hxm))
 have val:∀{u:Value} {s:Sem Value},(execOp a.eval o=do pure (.value (←s)))→s.run P w=.ok u w→rel m w r u→H'=H→aDz P C o a m w r H':=by
  intro u s he hs hr hH'
  subst hH'
  exact⟨.value u,m,w,by rw[he,Sem.run_bind,hs];rfl,.inl ⟨u,rfl,hr⟩,self⟩
 have valn:∀{u:Value} {s:Sem Value} {m':aX} {w':World},(execOp a.eval o=do pure (.value (←s)))→s.run P w=.ok u w'→rel m' w' r u→Fwd C m w m' w' H'→aDz P C o a m w r H':=by
  intro u s m' w' he hs hr hf
  exact⟨.value u,m',w',by rw[he,Sem.run_bind,hs];rfl,.inl ⟨u,rfl,hr⟩,hf⟩
 unfold dK at h
 split at h
 ·rename_i x ho
  simp only[Option.some.injEq,Prod.mk.injEq] at h
  obtain⟨rfl,rfl⟩:=h
  exact⟨.value (a.eval x),m,w,by simp[execOp,ho],.inl ⟨_,rfl,ev x (by simp[ho,Op.operands])⟩,self⟩
 ·rename_i x ho
  simp only[Option.some.injEq,Prod.mk.injEq] at h
  obtain⟨rfl,rfl⟩:=h
  exact⟨.value (a.eval x),m,w,by simp[execOp,ho],.inl ⟨_,rfl,ev x (by simp[ho,Op.operands])⟩,self⟩
 ·rename_i c x y ho
  split at h
  ·rename_i t hc
   simp only[Option.some.injEq,Prod.mk.injEq] at h
   obtain⟨rfl,rfl⟩:=h
   have h1:=ev c (by simp[ho,Op.operands])
   rw[hc] at h1
   have h1':a.eval c=.bool t:=h1
   refine⟨.value (if t then a.eval x else a.eval y),m,w,by simp[execOp,ho,h1',asBool],.inl ⟨_,rfl,?_⟩,self⟩
   cases t
   ·exact ev y (by simp[ho,Op.operands])
   ·exact ev x (by simp[ho,Op.operands])
  ·cases h
 ·rename_i e ho
  split at h
  ·rename_i zs hz
   split at h
   ·rename_i hall
    simp only[Option.some.injEq,Prod.mk.injEq] at h
    obtain⟨rfl,rfl⟩:=h
    obtain⟨z,h1,h2⟩:=zE (P:=P) (w:=w) hz
    have hr:=p8 m w zs
    have hf:=hH.new e (arr:=z.cells) (cs:=zs.map .val) (fun j c hj=>by
     obtain⟨v,q1,q2⟩:=fP hr j c hj
     exact⟨v,by rw[←Array.getElem?_toList,h2];exact q1,q2⟩) (by rw[←Array.length_toList,h2];simp)
    refine valn (s:=Instr.alloc e true (.tuple #[])) (by simp[execOp,ho]) (u:=.pointer (some ⟨w.heap.size,0,none⟩)) ?_ ⟨(w.heap.size,0),by rw[←hH.len];simp,rfl⟩ hf
    simp[Instr.alloc,h1,newVar,newRow]
   ·cases h
  ·cases h
 ·rename_i e x ho
  obtain⟨l,h1,h2⟩:=Option.map_eq_some_iff.1 h
  simp only[Prod.mk.injEq] at h2
  obtain⟨rfl,rfl⟩:=h2
  have hr:=(rN h1 (ev x (by simp[ho,Op.operands]))).1
  have hf:=hH.new e (arr:=(a.eval x).cells) (cs:=l) (fun j c hj=>by
   obtain⟨v,q1,q2⟩:=fP hr j c hj
   exact⟨v,by rw[←Array.getElem?_toList];exact q1,q2⟩) (by rw[gA hr];simp)
  refine valn (s:=Instr.box e (a.eval x)) (by simp[execOp,ho]) (u:=.pointer (some ⟨w.heap.size,0,none⟩)) ?_ ⟨(w.heap.size,0),by rw[←hH.len];simp,rfl⟩ hf
  simp[Instr.box,newVar,newRow]
 ·rename_i t ps ho
  obtain⟨l,h1,h2⟩:=Option.bind_eq_some_iff.1 h
  have hp:=tF hE hH (ps:=ps.toList) (fun p hp=>hmem p.2 (by simp[ho,Op.operands];exact⟨p.1,by simpa using hp⟩)) h1
  obtain⟨rfl,u,h3,h4⟩:=aHB (P:=P) h2 (w:=w) (ps:=ps.map fun p=>(p.1,a.eval p.2)) (by simpa using hp)
  exact val (s:=Instr.build t (ps.map fun p=>(p.1,a.eval p.2))) (by simp[execOp,ho]) h3 h4 rfl
 ·rename_i t n ps ho
  obtain⟨l,h1,h2⟩:=Option.bind_eq_some_iff.1 h
  have hp:=tF hE hH (ps:=ps.toList) (fun p hp=>hmem p.2 (by simp[ho,Op.operands];exact⟨p.1,by simpa using hp⟩)) h1
  obtain⟨u,m',w',h3,h4,h5⟩:=aAa (P:=P) h2 hH (ps:=ps.map fun p=>(p.1,a.eval p.2)) (by simpa using hp)
  exact valn (s:=Instr.buildSlice t n (ps.map fun p=>(p.1,a.eval p.2))) (by simp[execOp,ho]) h3 h5 h4
 ·rename_i t x ho
  obtain⟨rfl,u,h3,h4⟩:=aB5 h hH (ev x (by simp[ho,Op.operands]))
  exact val (s:=Instr.loadAt t (a.eval x)) (by simp[execOp,ho]) h3 h4 rfl
 ·rename_i t x y ho
  obtain⟨H2,h1,h2⟩:=Option.map_eq_some_iff.1 h
  simp only[Prod.mk.injEq] at h2
  obtain⟨rfl,rfl⟩:=h2
  obtain⟨w',h3,h4⟩:=aHA h1 hH (ev x (by simp[ho,Op.operands])) (ev y (by simp[ho,Op.operands]))
  exact⟨.skip,m,w',by simp[execOp,ho,h3],.inr ⟨rfl,rfl⟩,h4⟩
 ·rename_i x ho
  have hv:=ev x (by simp[ho,Op.operands])
  split at h
  ·rename_i p q hp
   simp only[Option.some.injEq,Prod.mk.injEq] at h
   obtain⟨rfl,rfl⟩:=h
   rw[hp] at hv
   have hv':=hv
   obtain⟨b,_,hb⟩:=hv'
   exact⟨.value (a.eval x),m,w,by simp[execOp,ho,hb],.inl ⟨_,rfl,hv⟩,self⟩
  ·rename_i f p q hp
   simp only[Option.some.injEq,Prod.mk.injEq] at h
   obtain⟨rfl,rfl⟩:=h
   rw[hp] at hv
   have hv':=hv
   obtain⟨vs,us,hb,_⟩:=hv'
   exact⟨.value (a.eval x),m,w,by simp[execOp,ho,hb],.inl ⟨_,rfl,hv⟩,self⟩
  ·cases h
 ·rename_i op t x y _ ho
  obtain⟨c,h1,h2⟩:=Option.map_eq_some_iff.1 h
  simp only[Prod.mk.injEq] at h2
  obtain⟨rfl,rfl⟩:=h2
  obtain⟨r,h3,h4⟩:=aK0 h1 (ev x (by simp[ho,Op.operands])) (ev y (by simp[ho,Op.operands]))
  exact val (by simp only[execOp,ho]) h3 h4 rfl
 ·rename_i op _ x ho
  obtain⟨v,h1,h2⟩:=Option.bind_eq_some_iff.1 h
  obtain⟨r,h3,h4⟩:=Option.map_eq_some_iff.1 h2
  simp only[Prod.mk.injEq] at h4
  obtain⟨rfl,rfl⟩:=h4
  obtain hv:=plain_rel h1 (ev x (by simp[ho,Op.operands]))
  exact val (s:=Op.unary op (a.eval x)) (by simp only[execOp,ho]) (by rw[hv];exact gB h3 w) rfl rfl
 ·rename_i s d x ho
  obtain⟨v,h1,h2⟩:=Option.bind_eq_some_iff.1 h
  obtain⟨r,h3,h4⟩:=Option.map_eq_some_iff.1 h2
  simp only[Prod.mk.injEq] at h4
  obtain⟨rfl,rfl⟩:=h4
  obtain hv:=plain_rel h1 (ev x (by simp[ho,Op.operands]))
  exact val (s:=convert s d (a.eval x)) (by simp only[execOp,ho]) (by rw[hv];exact gB h3 w) rfl rfl
 ·rename_i t x lo hi ho
  have hl:uZ m w (lo.map (opA env)) (lo.map a.eval):=by
   cases lo with
   |none=>trivial
   |some y=>exact ev y (by simp[ho,Op.operands])
  have hh:uZ m w (hi.map (opA env)) (hi.map a.eval):=by
   cases hi with
   |none=>trivial
   |some y=>exact ev y (by simp[ho,Op.operands])
  obtain⟨rfl,u,h3,h4⟩:=aHC h (ev x (by simp[ho,Op.operands])) hl hh
  exact val (s:=Instr.sliceAt t (a.eval x) (lo.map a.eval) (hi.map a.eval) none) (by simp[execOp,ho]) h3 h4 rfl
 ·rename_i s x f ho
  obtain⟨rfl,u,h3,h4⟩:=aBM h (ev x (by simp[ho,Op.operands]))
  exact val (s:=Instr.fieldAt s (a.eval x) f) (by simp only[execOp,ho]) h3 h4 rfl
 ·rename_i t x i ho
  obtain⟨rfl,u,h3,h4⟩:=aBL h (ev x (by simp[ho,Op.operands])) (ev i (by simp[ho,Op.operands]))
  exact val (s:=Instr.indexAt t (a.eval x) (a.eval i)) (by simp only[execOp,ho]) h3 h4 rfl
 ·rename_i t x i ho
  obtain⟨c,h1,h2⟩:=Option.map_eq_some_iff.1 h
  simp only[Prod.mk.injEq] at h2
  obtain⟨rfl,rfl⟩:=h2
  obtain⟨u,h3,h4⟩:=aHE h1 (ev x (by simp[ho,Op.operands])) (ev i (by simp[ho,Op.operands]))
  exact val (s:=Instr.index t (a.eval x) (a.eval i)) (by simp only[execOp,ho]) h3 h4 rfl
 ·rename_i t x k ok ho
  obtain⟨c,h1,h2⟩:=Option.map_eq_some_iff.1 h
  simp only[Prod.mk.injEq] at h2
  obtain⟨rfl,rfl⟩:=h2
  obtain⟨u,h3,h4⟩:=aFj h1 hH (ev x (by simp[ho,Op.operands])) (ev k (by simp[ho,Op.operands]))
  exact val (s:=Instr.lookup t (a.eval x) (a.eval k) ok) (by simp only[execOp,ho]) h3 h4 rfl
 ·rename_i t x k y ho
  obtain⟨H2,h1,h2⟩:=Option.map_eq_some_iff.1 h
  simp only[Prod.mk.injEq] at h2
  obtain⟨rfl,rfl⟩:=h2
  obtain⟨w',h3,h4⟩:=xO h1 hH (ev x (by simp[ho,Op.operands])) (ev k (by simp[ho,Op.operands])) (ev y (by simp[ho,Op.operands]))
  exact⟨.skip,m,w',by simp[execOp,ho,h3],.inr ⟨rfl,rfl⟩,h4⟩
 ·rename_i t x k y ho
  obtain⟨H2,h1,h2⟩:=Option.map_eq_some_iff.1 h
  simp only[Prod.mk.injEq] at h2
  obtain⟨rfl,rfl⟩:=h2
  obtain⟨w',h3,h4⟩:=xO h1 hH (ev x (by simp[ho,Op.operands])) (ev k (by simp[ho,Op.operands])) (ev y (by simp[ho,Op.operands]))
  exact⟨.skip,m,w',by simp[execOp,ho,h3],.inr ⟨rfl,rfl⟩,h4⟩
 ·rename_i t ho
  simp only[Option.some.injEq,Prod.mk.injEq] at h
  obtain⟨rfl,rfl⟩:=h
  have hf:=hH.add (.map #[] 0) (.map []) ⟨hH.size,#[],0,heap_alloc_new w _,rfl,fun j k c hj=>by simp at hj⟩
  refine valn (s:=Instr.makeMap t none) (by simp[execOp,ho]) (u:=.map (some w.heap.size)) ?_ ⟨(w.heap.size,0),by rw[←hH.len];simp,rfl⟩ hf
  simp[Instr.makeMap]
 ·rename_i t x y ho
  obtain⟨u,m',w',h3,h4,h5⟩:=aBK h hH (ev x (by simp[ho,Op.operands])) (ev y (by simp[ho,Op.operands]))
  exact valn (s:=Instr.makeSlice t (a.eval x) (a.eval y)) (by simp only[execOp,ho]) h3 h5 h4
 ·rename_i x i ho
  obtain⟨c,h1,h2⟩:=Option.map_eq_some_iff.1 h
  simp only[Prod.mk.injEq] at h2
  obtain⟨rfl,rfl⟩:=h2
  obtain⟨u,h3,h4⟩:=aDw h1 (ev x (by simp[ho,Op.operands]))
  exact val (s:=Instr.extract (a.eval x) i) (by simp only[execOp,ho]) (by rw[h3]) h4 rfl
 ·rename_i t x i ho
  obtain⟨c,h1,h2⟩:=Option.map_eq_some_iff.1 h
  simp only[Prod.mk.injEq] at h2
  obtain⟨rfl,rfl⟩:=h2
  obtain⟨u,h3,h4⟩:=aHF h1 (ev x (by simp[ho,Op.operands]))
  exact val (s:=Instr.field t (a.eval x) i) (by simp only[execOp,ho]) (by rw[h3]) h4 rfl
 ·rename_i t x ho
  split at h
  ·rename_i hi
   simp only[Option.some.injEq,Prod.mk.injEq] at h
   obtain⟨rfl,rfl⟩:=h
   obtain⟨d,hu,hd⟩:=aDa hi
   refine val (s:=Instr.makeInterface t (a.eval x)) (by simp only[execOp,ho]) (u:=.iface t (a.eval x)) ?_ ⟨_,rfl,ev x (by simp[ho,Op.operands])⟩ rfl
   unfold Instr.makeInterface
   rw[Sem.run_bind,run_underlying hu,Result.andThen_ok]
   cases d<;>first|exact absurd rfl (hd _)|rfl
  ·cases h
 ·rename_i f x y ho
  simp only[Option.some.injEq,Prod.mk.injEq] at h
  obtain⟨rfl,rfl⟩:=h
  refine val (s:=Instr.makeFunc f (x.map a.eval) (y.map a.eval)) (by simp only[execOp,ho]) (u:=.func f (x.map a.eval) (y.map a.eval)) ?_ ⟨_,_,rfl,?_,?_⟩ rfl
  ·rfl
  ·simpa using iA hE hH (xs:=x.toList) fun z hz=>hmem z (by simp[ho,Op.operands];exact .inl (by simpa using hz))
  ·simpa using iA hE hH (xs:=y.toList) fun z hz=>hmem z (by simp[ho,Op.operands];exact .inr (by simpa using hz))
 ·rename_i c ho
  split at h
  ·rename_i b hb
   have hr:=iA hE hH (xs:=c.args.toList) fun z hz=>hmem z (by rw[ho];show z∈Call.operands c;unfold Call.operands;rw[hb];simpa using hz)
   obtain⟨u,m',w',h3,h4,h5⟩:=aDA h hH hr (c.args.map fun|.const _=>true|_=>false)
   refine⟨.value u,m',w',?_,.inl ⟨u,rfl,h5⟩,h4⟩
   have harr:(c.args.toList.map a.eval).toArray=c.args.map a.eval:=by rw[←Array.toList_map,Array.toArray_toList]
   rw[harr] at h3
   simp only[execOp,ho,resolve,hb,Sem.run_bind,Sem.run_pure,Result.andThen_ok,invoke]
   exact h3
  ·cases h
 ·cases h
def nS (P : Program) (f : FuncId) : Prop := ∃ fn, P.funcs[f]? = some fn ∧ (fn.name == "runtime.NumGoroutine") = false ∧ fn.body.isNone = false
def aH (P:Program) (C:dC) (f:FuncId) (args:List AV) (H:aB) (R:AV→aB→Prop):Prop:=
 nS P f∧∀m w (vals:Array Value),cE C m w H→rels m w args vals.toList→Calls P f vals w fun e w'=>∃rv m' H' r,e=.returned rv∧Fwd C m w m' w' H'∧rel m' w' r rv∧R r H'
variable {P:Program} {C:dC}
theorem aH.mono {f:FuncId} {args:List AV} {H:aB} {R R':AV→aB→Prop} (h:aH P C f args H R) (hr:∀r H',R r H'→R' r H'):aH P C f args H R':=
 ⟨h.1,fun m w vals h1 h2=>(h.2 m w vals h1 h2).mono fun e w' ⟨rv,m',H',r,a,b,c,d⟩=>⟨rv,m',H',r,a,b,c,hr _ _ d⟩⟩
theorem Fwd.trans {m m' m2:aX} {w w' w2:World} {H' H2:aB} (h:Fwd C m w m' w' H') (k:Fwd C m' w' m2 w2 H2):Fwd C m w m2 w2 H2:=
 ⟨h.pre.trans k.pre,h.szs.trans k.szs,k.rep⟩
def fH (env:Env) (c:Call):Option (FuncId×List AV):=
 match c.callee with
 |.value x=>match opA env x with
  |.fn (.func f) fi ca=>some (f,fi++c.args.toList.map (opA env)++ca)
  |_=>none
 |_=>none
def gG (ops:Array Oper) (o:Oper) (env:Env):Option Bool:=
 match o.guard with
 |none=>some true
 |some (j,want)=>match (ops[j]?).bind (·.dst) with
  |some d=>match env.getD d .any with
   |.val (.bool b)=>some (b==want)
   |.val (.tuple _)=>some false
   |_=>none
  |none=>none
def jM (P:Program) (C:dC) (d:Option (List Nat)) (f:FuncId) (args:List AV) (H:aB) (X:AV→aB→Prop):Prop:=
 match d with
 |none=>aH P C f args H X
 |some q=>(∃r H',aH P C f args H (fun r' H2=>r'=r∧H2=H')∧H <+: H'∧(q.contains f=true→H'=H∧∀G,aH P C f args (H++G) (fun r' H2=>r'=r∧H2=H++G))∧X r H') ∨
  (q.contains f=false∧∃R:AV→aB→Prop,aH P C f args H R∧(∀r H',R r H'→H <+: H')∧(∃r H',R r H')∧∀r H',R r H'→X r H')
theorem aFk {d:Option (List Nat)} {f:FuncId} {args:List AV} {H:aB} {X:AV→aB→Prop} (h:jM P C d f args H X):aH P C f args H X:=by
 unfold jM at h
 split at h
 ·exact h
 ·rcases h with ⟨r,H',h1,_,_,h2⟩|⟨_,R,h1,_,_,h2⟩
  ·exact h1.mono fun r' H2 ⟨e1,e2⟩=>e1▸e2▸h2
  ·exact h1.mono h2
def rQ (P:Program) (t:TypeId) (name:String):Option FuncId:=
 match P.info? t,P.underlying t with
 |some i,some u=>match i.methods.find? (fun m=>m.name==name) with
  |some m=>if m.path.isEmpty then match m.func,u with
    |some (f,true),.pointer _=>some f
    |some _,.pointer _=>none
    |some (f,false),_=>some f
    |_,_=>none
   else none
  |none=>none
 |_,_=>none
inductive Odd where
 |inv (f:FuncId) (args:List AV)
 |cap (n:Nat)
def tH:AV→Option Nat
 |.sl _ _ _ n _=>some n
 |.val (.slice none 0 0)=>some 0
 |_=>none
def kQ (P:Program) (env:Env) (c:Call):Option Odd:=
 match c.callee with
 |.invoke x name=>match opA env x with
  |.ifc t a=>(rQ P t name).map fun f=>.inv f (a::c.args.toList.map (opA env))
  |_=>none
 |.builtin .cap=>match c.argTypes.toList with
  |[t]=>match P.underlying t with
   |some (.slice _)=>match c.args.toList.map (opA env) with
    |[x]=>(tH x).map .cap
    |_=>none
   |_=>none
  |_=>none
 |_=>none
theorem aHG {o:Oper} {c:Call} (ho:o.op=.call c) {env:Env} {x:Odd} (h:kQ P env c=some x) (H:aB):dK P o env H=none:=by
 unfold dK
 rw[ho]
 simp only
 unfold kQ at h
 split at h
 ·rename_i hc;rw[hc]
 ·rename_i hc
  rw[hc]
  simp only
  unfold fE
  split<;>simp_all
 ·cases h
def bJ (P:Program) (C:dC) (d:Option (List Nat)) (ops:Array Oper):List Oper→Env→aB→(Env→aB→Prop)→Prop
 |[],env,H,K=>K env H
 |o::rest,env,H,K=>
  match gG ops o env with
  |some false=>bJ P C d ops rest (setD env o.dst (.val undef)) H K
  |some true=>match o.op with
   |.call c=>match fH env c with
    |some (f,args)=>jM P C d f args H fun r H'=>bJ P C d ops rest (setD env o.dst r) H' K
    |none=>match kQ P env c with
     |some (.inv f args)=>d=none∧aH P C f args H fun r H'=>bJ P C d ops rest (setD env o.dst r) H' K
     |some (.cap n)=>d=none∧∀k:Nat,n≤k→k≤9223372036854775807→bJ P C d ops rest (setD env o.dst (.val (.int .i64 k))) H K
     |none=>match dK P o env H with
      |some (r,H')=>bJ P C d ops rest (setD env o.dst r) H' K
      |none=>False
   |_=>match dK P o env H with
    |some (r,H')=>bJ P C d ops rest (setD env o.dst r) H' K
    |none=>False
  |none=>False
theorem jB {ops:Array Oper} {o:Oper} {env:Env} {b:Bool} (h:gG ops o env=some b) {m:aX} {w:World} {a:Act} (hE:fG m w env a):Region.wanted o (yielded ops a.tmps)=b:=by
 unfold gG at h
 unfold Region.wanted
 split at h
 ·rename_i hg
  rw[hg]
  exact Option.some.inj h
 ·rename_i j want hg
  rw[hg]
  simp only
  split at h
  ·rename_i d hd
   have hr:=hE.get d
   split at h
   ·rename_i t ht
    rw[ht] at hr
    have hr':a.tmps.getD d undef=.bool t:=hr
    obtain rfl:=Option.some.inj h
    have:a.tmps[d]?=some (.bool t):=by
     rw[Array.getD_eq_getD_getElem?] at hr'
     cases h1:a.tmps[d]? with
     |none=>rw[h1] at hr';cases hr'
     |some v=>rw[h1] at hr';simp at hr';rw[hr']
    simp only[yielded,hd,Option.bind_some,this]
    cases t<;>cases want<;>rfl
   ·rename_i vs ht
    rw[ht] at hr
    have hr':a.tmps.getD d undef=.tuple vs:=hr
    obtain rfl:=Option.some.inj h
    rw[Array.getD_eq_getD_getElem?] at hr'
    simp only[yielded,hd,Option.bind_some]
    cases h1:a.tmps[d]? with
    |none=>cases want<;>rfl
    |some v=>rw[h1] at hr';simp at hr';rw[hr'];cases want<;>rfl
   ·cases h
  ·cases h
theorem vA {f:FuncId} {args:Array Value} {w:World} (h:nS P f):(callFunc f args).run P w=.ok (.enter f args) w:=by
 obtain⟨fn,h1,h2,h3⟩:=h
 unfold callFunc
 have h2' : fn.name ≠ "runtime.NumGoroutine" := by simpa using h2
 have h3':fn.body≠none:=by intro e;rw[e] at h3;cases h3
 simp[program,Sem.run,h1,h2',h3',bind,Sem.bind,pure]
def iU (n:Nat) (o:Oper):Bool:=o.op.operands.all (okX n)
theorem tI {env:Env} {c:Call} {f:FuncId} {args:List AV} (h:fH env c=some (f,args)) {o:Oper} (ho:o.op=.call c) {m:aX} {w:World} {H:aB} {a:Act} (hH:cE C m w H) (hE:fG m w env a) (hx:iU C.nG o=true) (hc:nS P f) :
  ∃vals:Array Value,(execOp a.eval o).run P w=.ok (.enter f vals) w∧rels m w args vals.toList:=by
 have hmem:∀x∈o.op.operands,okX C.nG x=true:=fun x hxm=>by unfold iU at hx;rw[Array.all_eq_true_iff_forall_mem] at hx;exact hx x hxm
 rw[ho] at hmem
 unfold fH at h
 split at h
 ·rename_i x hv
  split at h
  ·rename_i g fi ca hx'
   simp only[Option.some.injEq,Prod.mk.injEq] at h
   obtain⟨rfl,rfl⟩:=h
   have h1:=nN hE hH (lX (hmem x (by show x∈Call.operands c;unfold Call.operands;rw[hv];simp)))
   rw[hx'] at h1
   obtain⟨vs,us,h2,h3,h4⟩:=h1
   have h5:=iA hE hH (xs:=c.args.toList) fun z hz=>hmem z (by show z∈Call.operands c;unfold Call.operands;rw[hv];simp;right;simpa using hz)
   refine⟨vs++c.args.map a.eval++us,?_,by simpa using oE (oE h3 h5) h4⟩
   simp only[execOp,ho,resolve,hv,h2,Deferred.ofValue,Sem.run_bind,Sem.run_pure,Result.andThen_ok,invoke]
   exact vA hc
  ·cases h
 ·cases h
theorem aK4 {t:TypeId} {name:String} {f:FuncId} (h:rQ P t name=some f) (v:Value) (w:World):(method (P.types.size+Made.depth) t v name).run P w=.ok (f,v) w:=by
 unfold rQ at h
 split at h
 ·rename_i i u hi hu
  split at h
  ·rename_i m hm
   split at h
   ·rename_i hp
    have hp':m.path.toList=[]:=by simpa using hp
    have hf:follow m.path.toList t (.val v)=pure (t,.val v):=by rw[hp'];rfl
    have hti:(typeInfo t).run P w=.ok i w:=by simp[typeInfo,program,Sem.run,hi,bind,Sem.bind,pure]
    have hun:(underlying t).run P w=.ok u w:=run_underlying hu w
    rw[show P.types.size+Made.depth=(P.types.size+(Made.depth-1))+1 from rfl]
    unfold method
    simp only[Sem.run_bind,hti,Result.andThen_ok,hm,hf,Sem.run_pure]
    split at h
    ·rename_i f' e hmf
     cases h
     simp only[hmf,Sem.run_bind]
     unfold receiverAt
     simp only[Sem.run_bind,hun,Result.andThen_ok]
     rfl
    ·cases h
    ·rename_i f' hmf hnp
     cases h
     simp only[hmf,Sem.run_bind]
     unfold receiverAt
     simp only[Sem.run_bind,hun,Result.andThen_ok]
     rfl
    ·cases h
   ·cases h
  ·cases h
 ·cases h
theorem aHH {env:Env} {c:Call} {f:FuncId} {args:List AV} (h:kQ P env c=some (.inv f args)) {o:Oper} (ho:o.op=.call c) {m:aX} {w:World} {H:aB} {a:Act} (hH:cE C m w H) (hE:fG m w env a) (hx:iU C.nG o=true) (hc:nS P f) :
  ∃vals:Array Value,(execOp a.eval o).run P w=.ok (.enter f vals) w∧rels m w args vals.toList:=by
 have hmem:∀x∈o.op.operands,okX C.nG x=true:=fun x hxm=>by unfold iU at hx;rw[Array.all_eq_true_iff_forall_mem] at hx;exact hx x hxm
 rw[ho] at hmem
 unfold kQ at h
 split at h
 ·rename_i x name hv
  split at h
  ·rename_i t y hx'
   obtain⟨g,hg,he⟩:=Option.map_eq_some_iff.1 h
   cases he
   have h1:=nN hE hH (lX (hmem x (by show x∈Call.operands c;unfold Call.operands;rw[hv];simp)))
   rw[hx'] at h1
   obtain⟨v,h2,h3⟩:=h1
   have h5:=iA hE hH (xs:=c.args.toList) fun z hz=>hmem z (by show z∈Call.operands c;unfold Call.operands;rw[hv];simp;right;simpa using hz)
   refine⟨#[v]++c.args.map a.eval,?_,by simpa using ⟨h3,h5⟩⟩
   simp only[execOp,ho,resolve,hv,h2,Sem.run_bind,Sem.run_pure,Result.andThen_ok,invoke]
   simp only[Array.getElem?_append,List.size_toArray,List.length_cons,List.length_nil,Nat.zero_add,Nat.zero_lt_one,if_true,List.getElem?_toArray,List.getElem?_cons_zero,callMethod,Sem.run_bind]
   rw[show (program:Sem Program).run P w=.ok P w from rfl,Result.andThen_ok,aK4 hg,Result.andThen_ok]
   have:(#[Value.iface t v]++Array.map a.eval c.args).extract 1 (#[Value.iface t v]++Array.map a.eval c.args).size=Array.map a.eval c.args:=by
    apply Array.ext'
    simp
    rw[List.take_of_length_le (by simp)]
   rw[this]
   exact vA hc
  ·cases h
 ·split at h
  ·split at h
   ·split at h<;>simp at h
   ·cases h
  ·cases h
 ·cases h
theorem aHI {env:Env} {c:Call} {n:Nat} (h:kQ P env c=some (.cap n)) {o:Oper} (ho:o.op=.call c) {m:aX} {w:World} {H:aB} {a:Act} (hH:cE C m w H) (hE:fG m w env a) (hx:iU C.nG o=true) :
  ∃k:Nat,n≤k∧k≤9223372036854775807∧(execOp a.eval o).run P w=.ok (.value (.int .i64 k)) w:=by
 have hmem:∀x∈o.op.operands,okX C.nG x=true:=fun x hxm=>by unfold iU at hx;rw[Array.all_eq_true_iff_forall_mem] at hx;exact hx x hxm
 rw[ho] at hmem
 unfold kQ at h
 split at h
 ·split at h
  ·obtain⟨g,_,he⟩:=Option.map_eq_some_iff.1 h
   cases he
  ·cases h
 ·rename_i hv
  have h5:=iA hE hH (xs:=c.args.toList) fun z hz=>hmem z (by show z∈Call.operands c;unfold Call.operands;rw[hv];simpa using hz)
  split at h
  ·rename_i t hts
   split at h
   ·rename_i e hu
    have hts':c.argTypes=#[t]:=by apply Array.ext';simpa using hts
    split at h
    ·rename_i x hargs
     obtain⟨n',hn,he⟩:=Option.map_eq_some_iff.1 h
     cases he
     rw[hargs] at h5
     match hl:c.args.toList.map a.eval,h5 with
     |[u],h5=>
      have hb:∃(ad:Option Addr) (cap:Nat),u=.slice ad n cap∧n≤cap∧cap≤9223372036854775807:=by
       unfold tH at hn
       split at hn
       ·cases hn
        obtain⟨b,ad,cap,_,rfl,hle,hcm,_⟩:=h5.1
        exact⟨some ad,cap,rfl,hle,hcm⟩
       ·cases hn
        have h6:u=.slice none 0 0:=h5.1
        exact⟨none,0,h6,Nat.le_refl _,by omega⟩
       ·cases hn
      obtain⟨ad,cap,rfl,hle,hcm⟩:=hb
      refine⟨cap,hle,hcm,?_⟩
      have hav:c.args.map a.eval=#[.slice ad n cap]:=by apply Array.ext';simpa using hl
      simp only[execOp,ho,resolve,hv,Sem.run_bind,Sem.run_pure,Result.andThen_ok,invoke,hav,builtin,hts']
      unfold Builtin.cap_
      simp[run_underlying hu]
      rfl
    ·cases h
   ·cases h
  ·cases h
 ·cases h
theorem iO {d:Option (List Nat)} {ops:Array Oper}:∀{l:List Oper} {env:Env} {H:aB} {K:Env→aB→Prop},bJ P C d ops l env H K→l.all (iU C.nG)=true→∀{m:aX} {w:World} {a:Act},cE C m w H→fG m w env a→
  ∀{Q:Exit→Act→World→Prop},(∀m' w' a' env' H',Fwd C m w m' w' H'→fG m' w' env' a'→K env' H'→Q .normal a' w')→wpList P ops Q l a w
 |[],env,H,K,h,_,m,w,a,hH,hE,Q,hQ=>hQ m w a env H ⟨List.prefix_refl m,Szs.refl w,hH⟩ hE h
 |o::rest,env,H,K,h,hok,m,w,a,hH,hE,Q,hQ=>by
  simp only[List.all_cons,Bool.and_eq_true] at hok
  have hx:o.op.operands.all (okX C.nG)=true:=hok.1
  unfold wpList
  unfold bJ at h
  have stepped:∀{r:AV} {H':aB},dK P o env H=some (r,H')→bJ P C d ops rest (setD env o.dst r) H' K→o.wp P a w (wpList P ops Q rest) Q:=by
   intro r H' hs hk
   obtain⟨nxt,m',w',h1,h2,h3⟩:=aCb hs hH hE hx
   unfold Oper.wp
   rw[h1]
   have hE':=hE.more h3.pre h3.szs
   rcases h2 with ⟨u,rfl,hu⟩|⟨rfl,rfl⟩
   ·exact iO hk hok.2 h3.rep (hE'.put o.dst hu) fun m2 w2 a2 e2 H2 k1 k2 k3=>hQ m2 w2 a2 e2 H2 (h3.trans k1) k2 k3
   ·exact iO hk hok.2 h3.rep (hE'.put o.dst (v:=undef) trivial) fun m2 w2 a2 e2 H2 k1 k2 k3=>hQ m2 w2 a2 e2 H2 (h3.trans k1) k2 k3
  split at h
  ·rename_i hw
   rw[if_neg (by rw[jB hw hE];simp)]
   exact iO h hok.2 hH (hE.put o.dst rfl) hQ
  ·rename_i hw
   rw[if_pos (jB hw hE)]
   left
   split at h
   ·rename_i c ho
    split at h
    ·rename_i f args hc
     have h:=aFk h
     obtain⟨vals,h1,h2⟩:=tI hc ho hH hE hok.1 h.1
     unfold Oper.wp
     rw[h1,Oper.upon_enter]
     refine (h.2 m w vals hH h2).mono ?_
     rintro e w' ⟨rv,m',H',r,rfl,k1,k2,k3⟩
     exact iO k3 hok.2 k1.rep ((hE.more k1.pre k1.szs).put o.dst k2) fun m2 w2 a2 e2 H2 q1 q2 q3=>hQ m2 w2 a2 e2 H2 (k1.trans q1) q2 q3
    ·split at h
     ·rename_i f args hc
      obtain⟨_,h⟩:=h
      obtain⟨vals,h1,h2⟩:=aHH hc ho hH hE hok.1 h.1
      unfold Oper.wp
      rw[h1,Oper.upon_enter]
      refine (h.2 m w vals hH h2).mono ?_
      rintro e w' ⟨rv,m',H',r,rfl,k1,k2,k3⟩
      exact iO k3 hok.2 k1.rep ((hE.more k1.pre k1.szs).put o.dst k2) fun m2 w2 a2 e2 H2 q1 q2 q3=>hQ m2 w2 a2 e2 H2 (k1.trans q1) q2 q3
     ·rename_i n hc
      obtain⟨_,h⟩:=h
      obtain⟨k,h1,h2,h3⟩:=aHI hc ho hH hE hok.1
      unfold Oper.wp
      rw[h3]
      exact iO (h k h1 h2) hok.2 hH (hE.put o.dst (c:=.val (.int .i64 k)) (v:=.int .i64 k) rfl) hQ
     ·split at h
      ·rename_i r H' hs
       exact stepped hs h
      ·exact h.elim
   ·split at h
    ·rename_i r H' hs
     exact stepped hs h
    ·exact h.elim
  ·exact h.elim
variable {P:Program} {C:dC}
def aK5 (C:dC) (Q:Exit→Env→aB→Prop) (m:aX) (w:World):Exit→Act→World→Prop:=fun ex a' w'=>∃m' env' H',Fwd C m w m' w' H'∧fG m' w' env' a'∧Q ex env' H'
def AWp (P:Program) (C:dC) (c:Code) (env:Env) (H:aB) (Q:Exit→Env→aB→Prop):Prop:=
 ∀m w a,cE C m w H→fG m w env a→c.wp P (aK5 C Q m w) a w
inductive Cl where
 |pure|read|look|quiet|new|put|turn
 deriving DecidableEq
def Cl.rd:Cl→Bool
 |.read=>true
 |.look=>true
 |_=>false
def cI (q:List Nat) (o:Oper):Cl:=
 match o.op with
 |.move _=>.pure
 |.assign _=>.pure
 |.pick ..=>.pure
 |.build ..=>.pure
 |.nilCheck _=>.pure
 |.binOp ..=>.pure
 |.unOp ..=>.pure
 |.convert ..=>.pure
 |.fieldAddr ..=>.pure
 |.indexAddr ..=>.pure
 |.index ..=>.pure
 |.extract ..=>.pure
 |.field ..=>.pure
 |.makeInterface ..=>.pure
 |.makeFunc ..=>.pure
 |.slice ..=>.pure
 |.load ..=>.read
 |.lookup ..=>.look
 |.store ..=>.put
 |.alloc _=>.new
 |.box ..=>.new
 |.buildSlice ..=>.new
 |.makeMap ..=>.new
 |.call c=>match c.callee with
  |.builtin .len=>.pure
  |.builtin .max=>.pure
  |.builtin .min=>.pure
  |.value (.func f)=>if q.contains f then .quiet else .new
  |.value _=>.new
  |_=>.turn
 |_=>.turn
theorem qT {q:List Nat} {o:Oper} {c:Call} (ho:o.op=.call c):(cI q o).rd=false:=by
 unfold cI
 simp only[ho]
 split<;>(try split)<;>rfl
theorem aAd {q:List Nat} {o:Oper} {c:Call} {x:Operand} (ho:o.op=.call c) (hx:c.callee=.value x):cI q o=.quiet∨cI q o=.new:=by
 unfold cI
 simp only[ho,hx]
 cases x with
 |func f=>
  simp only
  split
  ·exact .inl rfl
  ·exact .inr rfl
 |_=>exact .inr rfl
theorem aAe {q:List Nat} {o:Oper} (h:cI q o=.quiet):∃c f,o.op=.call c∧c.callee=.value (.func f)∧q.contains f=true:=by
 unfold cI at h
 cases ho:o.op<;>simp only[ho,reduceCtorEq] at h
 case call c=>
  cases hx:c.callee with
  |value x=>
   cases x with
   |func f=>
    simp only[hx] at h
    split at h
    ·exact⟨c,f,rfl,hx,by assumption⟩
    ·cases h
   |_=>simp[hx] at h
  |builtin b=>cases b<;>simp[hx] at h
  |_=>simp[hx] at h
def tJ (g:aB→Ans):Prop:=∀{H H':aB} {r:AV},g H=some (r,H')→H'=H∧∀H2,g H2=some (r,H2)
theorem tK (t:TypeId) (l:List (Nat×List AV)):tJ (lG P t l):=by
 intro H H' r h
 unfold lG at h ⊢
 repeat' split at h
 all_goals first
  |(cases h;done)
  |(simp only[Option.some.injEq,Prod.mk.injEq] at h;obtain⟨rfl,rfl⟩:=h;exact⟨rfl,fun _=>by simp_all⟩)
  |(obtain⟨c,h1,h2⟩:=Option.map_eq_some_iff.1 h;simp only[Prod.mk.injEq] at h2;obtain⟨rfl,rfl⟩:=h2;exact⟨rfl,fun _=>by simp_all⟩)
theorem aAf (t:TypeId) (x:AV) (f:Nat):tJ (jL P t x f):=by
 intro H H' r h
 unfold jL at h ⊢
 split at h
 ·simp only[Option.some.injEq,Prod.mk.injEq] at h
  obtain⟨rfl,rfl⟩:=h
  exact⟨rfl,fun _=>rfl⟩
 ·cases h
theorem tL (t:TypeId) (x i:AV):tJ (iN P t x i):=by
 intro H H' r h
 unfold iN at h ⊢
 split at h
 ·split at h
  ·split at h
   ·simp only[Option.some.injEq,Prod.mk.injEq] at h
    obtain⟨rfl,rfl⟩:=h
    exact⟨rfl,fun _=>by simp_all⟩
   ·cases h
  ·cases h
 ·split at h
  ·split at h
   ·simp only[Option.some.injEq,Prod.mk.injEq] at h
    obtain⟨rfl,rfl⟩:=h
    exact⟨rfl,fun _=>by simp_all⟩
   ·cases h
  ·cases h
 ·cases h
theorem tM (t:TypeId) (x:AV) (lo hi:Option AV):tJ (lI P t x lo hi):=by
 intro H H' r h
 unfold lI at h ⊢
 split at h
 ·split at h
  ·split at h
   ·simp only[Option.some.injEq,Prod.mk.injEq] at h
    obtain⟨rfl,rfl⟩:=h
    exact⟨rfl,fun _=>by simp_all⟩
   ·cases h
  ·cases h
 ·split at h
  ·simp only[Option.some.injEq,Prod.mk.injEq] at h
   obtain⟨rfl,rfl⟩:=h
   exact⟨rfl,fun _=>by simp_all⟩
  ·cases h
 ·split at h
  ·split at h
   ·simp only[Option.some.injEq,Prod.mk.injEq] at h
    obtain⟨rfl,rfl⟩:=h
    exact⟨rfl,fun _=>by simp_all⟩
   ·cases h
  ·cases h
 ·cases h
theorem vC (b:Builtin) (ty:TypeId) (args:List AV) (ts:Array TypeId) (hb:b≠.append):tJ (fE P b ty args ts):=by
 intro H H' r h
 unfold fE at h ⊢
 split at h
 ·obtain⟨c,h1,h2⟩:=Option.map_eq_some_iff.1 h
  simp only[Prod.mk.injEq] at h2
  obtain⟨rfl,rfl⟩:=h2
  exact⟨rfl,fun _=>by simp_all⟩
 ·exact absurd rfl hb
 ·obtain⟨l,h1,h2⟩:=Option.bind_eq_some_iff.1 h
  obtain⟨c,h3,h4⟩:=Option.map_eq_some_iff.1 h2
  simp only[Prod.mk.injEq] at h4
  obtain⟨rfl,rfl⟩:=h4
  exact⟨rfl,fun H2=>by simp_all⟩
 ·obtain⟨l,h1,h2⟩:=Option.bind_eq_some_iff.1 h
  obtain⟨c,h3,h4⟩:=Option.map_eq_some_iff.1 h2
  simp only[Prod.mk.injEq] at h4
  obtain⟨rfl,rfl⟩:=h4
  exact⟨rfl,fun H2=>by simp_all⟩
 ·cases h
theorem jN (r:AV):tJ fun H=>some (r,H):=by
 intro H H' r' h
 simp only[Option.some.injEq,Prod.mk.injEq] at h
 obtain⟨rfl,rfl⟩:=h
 exact⟨rfl,fun _=>rfl⟩
theorem jO (x:Option AV):tJ fun H=>x.map fun c=>(c,H):=by
 intro H H' r' h
 obtain⟨c,h1,h2⟩:=Option.map_eq_some_iff.1 h
 simp only[Prod.mk.injEq] at h2
 obtain⟨rfl,rfl⟩:=h2
 exact⟨rfl,fun _=>by rw[h1];rfl⟩
theorem qU {α:Type} (x:Option α) (f:α→Option AV):tJ fun H=>x.bind fun a=>(f a).map fun r=>(r,H):=by
 intro H H' r' h
 obtain⟨l,h1,h2⟩:=Option.bind_eq_some_iff.1 h
 obtain⟨c,h3,h4⟩:=Option.map_eq_some_iff.1 h2
 simp only[Prod.mk.injEq] at h4
 obtain⟨rfl,rfl⟩:=h4
 exact⟨rfl,fun H2=>by simp only[h1,Option.bind_some,h3,Option.map_some]⟩
theorem jC {α:Type} (x:Option α) (g:α→Option Value) (H:aB):(x.bind fun v=>(g v).map fun r=>(AV.val r,H))=x.bind fun a=>((g a).map AV.val).map fun r=>(r,H):=by
 cases x with
 |none=>rfl
 |some a=>cases h:g a<;>simp[h]
theorem aHJ {q:List Nat} {o:Oper} {env:Env} {H H':aB} {r:AV} (h:dK P o env H=some (r,H')) (hc:cI q o=.pure):H'=H∧∀H2,dK P o env H2=some (r,H2):=by
 unfold dK at h ⊢
 unfold cI at hc
 cases ho:o.op<;>simp only[ho,reduceCtorEq] at h hc ⊢
 case move x=>exact jN _ h
 case assign x=>exact jN _ h
 case pick c x y=>
  split at h
  ·exact jN _ h
  ·cases h
 case build t ps=>
  obtain⟨l,h1,h2⟩:=Option.bind_eq_some_iff.1 h
  obtain⟨k1,k2⟩:=tK _ _ h2
  exact⟨k1,fun H2=>by rw[h1];exact k2 H2⟩
 case nilCheck x=>
  split at h
  ·exact jN _ h
  ·exact jN _ h
  ·cases h
 case binOp=>exact jO _ h
 case unOp=>rw[jC] at h;obtain⟨k1,k2⟩:=qU _ _ h;exact⟨k1,fun H2=>by rw[jC];exact k2 H2⟩
 case convert=>rw[jC] at h;obtain⟨k1,k2⟩:=qU _ _ h;exact⟨k1,fun H2=>by rw[jC];exact k2 H2⟩
 case fieldAddr=>exact aAf _ _ _ h
 case indexAddr=>exact tL _ _ _ h
 case index=>exact jO _ h
 case extract=>exact jO _ h
 case field=>exact jO _ h
 case makeInterface=>
  split at h
  ·exact jN _ h
  ·cases h
 case makeFunc=>exact jN _ h
 case slice t x lo hi mx=>
  cases mx with
  |none=>exact tM _ _ _ _ h
  |some _=>cases h
 case call c=>
  split at h
  ·rename_i b hb
   simp only[hb] at hc
   have:b≠.append:=by intro e;rw[e] at hc;cases hc
   obtain⟨k1,k2⟩:=vC _ _ _ _ this h
   exact⟨k1,fun H2=>k2 H2⟩
  ·cases h
theorem aZ {H G:aB} {o:Nat} {x:aD} (h:H[o]?=some x):(H++G)[o]?=some x:=by
 rw[List.getElem?_append_left (List.getElem?_eq_some_iff.1 h).1];exact h
theorem cZ {H G:aB} {o:Nat} (h:o<H.length):(H++G)[o]?=H[o]?:=List.getElem?_append_left h
theorem aDB {H G:aB} {o:Nat} (h:o<H.length):cellsOf (H++G) o=cellsOf H o:=by unfold cellsOf;rw[cZ h]
theorem aHK {H:aB} {o:Nat} {cs:List AV} (h:cellsOf H o=some cs):o<H.length:=by
 rcases Nat.lt_or_ge o H.length with h1|h1
 ·exact h1
 ·unfold cellsOf at h;rw[List.getElem?_eq_none h1] at h;cases h
def aBN (C:dC) (env:Env) (H:aB):Prop:=∃m w a,cE C m w H∧fG m w env a
theorem aBN.lt {env:Env} {H:aB} (h:aBN C env H) {x:Operand} (hx:okX C.nG x=true):(∀o off,opA env x=.ptr o off→o<H.length)∧(∀o,opA env x=.mp o→o<H.length):=by
 obtain⟨m,w,a,h1,h2⟩:=h
 have h3:=nN h2 h1 (lX hx)
 constructor
 ·intro o off he
  rw[he] at h3
  obtain⟨b,hb,_⟩:=h3
  rw[←h1.len];exact (List.getElem?_eq_some_iff.1 hb).1
 ·intro o he
  rw[he] at h3
  obtain⟨b,hb,_⟩:=h3
  rw[←h1.len];exact (List.getElem?_eq_some_iff.1 hb).1
theorem aAg {t:TypeId} {x:AV} {H G:aB} (hx:∀o off,x=.ptr o off→o<H.length):iE P t x (H++G)=(iE P t x H).map fun c=>(c.1,H++G):=by
 unfold iE
 cases x with
 |ptr o off=>
  simp only[aDB (hx o off rfl)]
  cases cellsOf H o with
  |none=>rfl
  |some cs=>
   cases kd P t with
   |none=>rfl
   |some k=>cases k with
    |one=>simp only[Option.map_map];rfl
    |many n=>simp only;split<;>rfl
 |_=>rfl
theorem aDC {t:TypeId} {x k:AV} {ok:Bool} {H G:aB} (hx:∀o,x=.mp o→o<H.length):jA P t x k ok (H++G)=jA P t x k ok H:=by
 unfold jA
 cases nP P t with
 |none=>rfl
 |some e=>cases x with
  |mp o=>cases k with
   |val v=>cases v with
    |string s=>simp only[cZ (hx o rfl)]
    |_=>rfl
   |_=>rfl
  |_=>rfl
theorem aDD {x k:AV} {ok:Bool} {H G:aB} (hx:∀o,x=.mp o→o<H.length):iH x k ok (H++G)=iH x k ok H:=by
 unfold iH
 split
 ·rename_i o s hs
  rw[cZ (hx o rfl)]
 ·rfl
theorem vE {t:TypeId} {x k:AV} {ok:Bool} {H G:aB} (hx:∀o,x=.mp o→o<H.length):gF P t x k ok (H++G)=gF P t x k ok H:=by
 unfold gF
 rw[aDC hx,aDD hx]
theorem aK6 {t:TypeId} {x:AV} {H H':aB} {r:AV} (h:iE P t x H=some (r,H')):∀o off,x=.ptr o off→o<H.length:=by
 rintro o off rfl
 unfold iE at h
 cases hc:cellsOf H o with
 |none=>simp[hc] at h
 |some cs=>exact aHK hc
theorem pJ {t:TypeId} {x:AV} {H H':aB} {r:AV} (h:iE P t x H=some (r,H')):H'=H:=by
 unfold iE at h
 repeat' split at h
 all_goals first
  |(cases h;done)
  |(simp only[Option.some.injEq,Prod.mk.injEq] at h;exact h.2.symm)
  |(obtain⟨c,h1,h2⟩:=Option.map_eq_some_iff.1 h;simp only[Prod.mk.injEq] at h2;exact h2.2.symm)
theorem aHL {t:TypeId} {x k:AV} {ok:Bool} {H:aB} {r:AV} (h:jA P t x k ok H=some r):∀o,x=.mp o→o<H.length:=by
 rintro o rfl
 rcases Nat.lt_or_ge o H.length with h1|h1
 ·exact h1
 ·exfalso
  unfold jA at h
  cases hi:nP P t with
  |none=>rw[hi] at h;cases h
  |some e=>rw[hi] at h;cases k with
   |val v=>cases v with
    |string s=>simp only[List.getElem?_eq_none h1] at h;cases h
    |_=>cases h
   |_=>cases h
theorem aHM {x k:AV} {ok:Bool} {H:aB} {r:AV} (h:iH x k ok H=some r):∀o,x=.mp o→o<H.length:=by
 rintro o rfl
 rcases Nat.lt_or_ge o H.length with h1|h1
 ·exact h1
 ·exfalso
  unfold iH at h
  cases hk:aAc k with
  |none=>rw[hk] at h;cases h
  |some s=>
   rw[hk] at h
   simp only[List.getElem?_eq_none h1] at h
   cases ok<;>cases h
theorem aHN {t:TypeId} {x k:AV} {ok:Bool} {H:aB} {r:AV} (h:gF P t x k ok H=some r):∀o,x=.mp o→o<H.length:=by
 unfold gF at h
 split at h
 ·exact aHM h
 ·exact aHL h
theorem aAh {q:List Nat} {o:Oper} {env:Env} {H H':aB} {r:AV} (h:dK P o env H=some (r,H')) (hc:(cI q o).rd=true):H'=H∧∀G,dK P o env (H++G)=some (r,H++G):=by
 unfold dK at h ⊢
 have hnc:∀c,o.op≠.call c:=fun c e=>by rw[qT e] at hc;cases hc
 unfold cI at hc
 cases ho:o.op<;>simp only[ho,Cl.rd,reduceCtorEq,Bool.false_eq_true] at h hc ⊢
 case call c=>exact absurd ho (hnc c)
 case load t x=>
  obtain rfl:=pJ h
  exact⟨rfl,fun G=>by rw[aAg (aK6 h),h];rfl⟩
 case lookup t x k ok=>
  obtain⟨c,h1,h2⟩:=Option.map_eq_some_iff.1 h
  simp only[Prod.mk.injEq] at h2
  obtain⟨rfl,rfl⟩:=h2
  exact⟨rfl,fun G=>by rw[vE (aHN h1),h1];rfl⟩
def xA (o:Oper) (env:Env) (n:Nat):Prop:=∀x∈o.op.operands,(∀o' off,opA env x=.ptr o' off→o'<n)∧(∀o',opA env x=.mp o'→o'<n)
theorem aBN.ptr {o:Oper} {env:Env} {H:aB} (hp:aBN C env H) (hok:iU C.nG o=true):xA o env H.length:=fun x hxm=>hp.lt (by unfold iU at hok;rw[Array.all_eq_true_iff_forall_mem] at hok;exact hok x hxm)
theorem aHO {q:List Nat} {o:Oper} {env:Env} {H G H':aB} {r:AV} (h:dK P o env (H++G)=some (r,H')) (hc:(cI q o).rd=true) (hp:xA o env H.length):dK P o env H=some (r,H):=by
 unfold dK at h ⊢
 have hnc:∀c,o.op≠.call c:=fun c e=>by rw[qT e] at hc;cases hc
 unfold cI at hc
 cases ho:o.op<;>simp only[ho,Cl.rd,reduceCtorEq,Bool.false_eq_true] at h hc ⊢
 case call c=>exact absurd ho (hnc c)
 case load t x=>
  have hx:=(hp x (by simp[ho,Op.operands])).1
  rw[aAg hx] at h
  obtain⟨c,h1,h2⟩:=Option.map_eq_some_iff.1 h
  simp only[Prod.mk.injEq] at h2
  obtain⟨rfl,rfl⟩:=h2
  rw[h1]
  have:=pJ (r:=c.1) (H':=c.2) h1
  rw[←this]
 case lookup t x k ok=>
  obtain⟨c,h1,h2⟩:=Option.map_eq_some_iff.1 h
  simp only[Prod.mk.injEq] at h2
  obtain⟨rfl,rfl⟩:=h2
  rw[vE (hp x (by simp[ho,Op.operands])).2] at h1
  rw[h1];rfl
theorem qV {t n:Nat} {l:List (Nat×List AV)} {H H':aB} {r:AV} (h:gW P t n l H=some (r,H')):H <+: H':=by
 unfold gW at h
 repeat' split at h
 all_goals first
  |(cases h;done)
  |(simp only[Option.some.injEq,Prod.mk.injEq] at h;rw[←h.2];exact List.prefix_append ..)
theorem aI1 {q:List Nat} {o:Oper} {env:Env} {H H':aB} {r:AV} (h:dK P o env H=some (r,H')) (hc:cI q o=.new):H <+: H':=by
 unfold dK at h
 unfold cI at hc
 cases ho:o.op<;>simp only[ho,reduceCtorEq] at h hc
 case alloc e=>
  repeat' split at h
  all_goals first
   |(cases h;done)
   |(simp only[Option.some.injEq,Prod.mk.injEq] at h;rw[←h.2];exact List.prefix_append ..)
 case box e x=>
  obtain⟨c,h1,h2⟩:=Option.map_eq_some_iff.1 h
  simp only[Prod.mk.injEq] at h2
  rw[←h2.2];exact List.prefix_append ..
 case buildSlice t n ps=>
  obtain⟨l,h1,h2⟩:=Option.bind_eq_some_iff.1 h
  exact qV h2
 case makeMap t x=>
  cases x with
  |none=>simp only[Option.some.injEq,Prod.mk.injEq] at h;rw[←h.2];exact List.prefix_append ..
  |some _=>cases h
 case call c=>
  split at h
  ·rename_i b hb
   simp only[hb] at hc
   split at hc<;>simp_all
  ·cases h
theorem qB {env env':Env}:∀{l:List (Nat×Operand)},(∀p∈l,opA env p.2=opA env' p.2)→hZ env l=hZ env' l
 |[],_=>rfl
 |(i,x)::l,h=>by
  unfold hZ
  rw[h (i,x) (List.mem_cons_self ..),qB fun p hp=>h p (List.mem_cons_of_mem _ hp)]
theorem lP {env env':Env} {l:List Operand} (h:∀x∈l,opA env x=opA env' x):l.map (opA env)=l.map (opA env'):=List.map_congr_left h
theorem vF {env env':Env} {x:Option Operand} (h:∀y,x=some y→opA env y=opA env' y):x.map (opA env)=x.map (opA env'):=by
 cases x with
 |none=>rfl
 |some y=>simp only[Option.map_some,h y rfl]
theorem aFl {o:Oper} {env env':Env} {H:aB} (h:∀x∈o.op.operands,opA env x=opA env' x):dK P o env H=dK P o env' H:=by
 unfold dK
 cases ho:o.op<;>simp only[ho] at h ⊢
 case move x=>rw[h x (by simp[Op.operands])]
 case assign x=>rw[h x (by simp[Op.operands])]
 case pick c x y=>rw[h c (by simp[Op.operands]),h x (by simp[Op.operands]),h y (by simp[Op.operands])]
 case box e x=>rw[h x (by simp[Op.operands])]
 case build t ps=>rw[qB fun p hp=>h p.2 (by simp[Op.operands];exact⟨p.1,by simpa using hp⟩)]
 case buildSlice t n ps=>rw[qB fun p hp=>h p.2 (by simp[Op.operands];exact⟨p.1,by simpa using hp⟩)]
 case load t x=>rw[h x (by simp[Op.operands])]
 case store t x y=>rw[h x (by simp[Op.operands]),h y (by simp[Op.operands])]
 case nilCheck x=>rw[h x (by simp[Op.operands])]
 case binOp op t x y _=>rw[h x (by simp[Op.operands]),h y (by simp[Op.operands])]
 case unOp op _ x=>rw[h x (by simp[Op.operands])]
 case convert s d x=>rw[h x (by simp[Op.operands])]
 case slice t x lo hi mx=>
  cases mx with
  |none=>simp only;rw[h x (by simp[Op.operands]),vF (x:=lo) fun y hy=>h y (by simp[Op.operands,hy]),vF (x:=hi) fun y hy=>h y (by simp[Op.operands,hy])]
  |some _=>rfl
 case makeMap t x=>cases x<;>rfl
 case fieldAddr s x f=>rw[h x (by simp[Op.operands])]
 case indexAddr t x i=>rw[h x (by simp[Op.operands]),h i (by simp[Op.operands])]
 case index t x i=>rw[h x (by simp[Op.operands]),h i (by simp[Op.operands])]
 case lookup t x k ok=>rw[h x (by simp[Op.operands]),h k (by simp[Op.operands])]
 case insert t x k y=>rw[h x (by simp[Op.operands]),h k (by simp[Op.operands]),h y (by simp[Op.operands])]
 case mapUpdate t x k y=>rw[h x (by simp[Op.operands]),h k (by simp[Op.operands]),h y (by simp[Op.operands])]
 case makeSlice t x y=>rw[h x (by simp[Op.operands]),h y (by simp[Op.operands])]
 case extract x i=>rw[h x (by simp[Op.operands])]
 case field t x i=>rw[h x (by simp[Op.operands])]
 case makeInterface t x=>rw[h x (by simp[Op.operands])]
 case makeFunc f x y=>rw[lP (l:=x.toList) fun z hz=>h z (by simp[Op.operands];exact .inl (by simpa using hz)),lP (l:=y.toList) fun z hz=>h z (by simp[Op.operands];exact .inr (by simpa using hz))]
 case call c=>
  split
  ·rename_i b hb
   rw[lP (l:=c.args.toList) fun z hz=>h z (by show z∈Call.operands c;unfold Call.operands;rw[hb];simpa using hz)]
  ·rfl
theorem qC {c:Call} {env env':Env} (h:∀x∈c.operands,opA env x=opA env' x):fH env c=fH env' c:=by
 unfold fH
 split
 ·rename_i x hv
  rw[h x (by unfold Call.operands;rw[hv];simp),lP (l:=c.args.toList) fun z hz=>h z (by unfold Call.operands;rw[hv];simp;right;simpa using hz)]
 ·rfl
def dD (P:Program) (C:dC) (q:List Nat) (ops:Array Oper) (o:Oper) (env:Env) (H:aB) (r:AV) (H':aB):Prop:=
 (gG ops o env=some false∧r=.val undef∧H'=H) ∨
 (gG ops o env=some true∧((∃c f args,o.op=.call c∧fH env c=some (f,args)∧aH P C f args H (fun r' H2=>r'=r∧H2=H')∧H <+: H'∧(q.contains f=true→H'=H∧∀G,aH P C f args (H++G) (fun r' H2=>r'=r∧H2=H++G)))∨((∀c,o.op=.call c→fH env c=none)∧dK P o env H=some (r,H'))))
def jP (P:Program) (C:dC) (q:List Nat) (ops:Array Oper) (o:Oper) (env:Env) (H:aB) (X:AV→aB→Prop):Prop:=
 (∃r H',dD P C q ops o env H r H'∧X r H') ∨
 (gG ops o env=some true∧∃c f args,o.op=.call c∧fH env c=some (f,args)∧q.contains f=false∧∃R:AV→aB→Prop,aH P C f args H R∧(∀r H',R r H'→H <+: H')∧(∃r H',R r H')∧∀r H',R r H'→X r H')
theorem aAi {q:List Nat} {ops:Array Oper} {o:Oper} {env:Env} {H:aB} {X X':AV→aB→Prop} (hx:∀r H',X r H'→X' r H') (h:jP P C q ops o env H X):jP P C q ops o env H X':=by
 rcases h with ⟨r,H',h1,h2⟩|⟨h0,c,f,args,h1,h2,h3,R,h4,h5,h6,h7⟩
 ·exact .inl ⟨r,H',h1,hx _ _ h2⟩
 ·exact .inr ⟨h0,c,f,args,h1,h2,h3,R,h4,h5,h6,fun r H' hr=>hx _ _ (h7 r H' hr)⟩
theorem aCc {q:List Nat} {ops:Array Oper} {o:Oper} {rest:List Oper} {env:Env} {H:aB} {K:Env→aB→Prop} (h:bJ P C (some q) ops (o::rest) env H K):jP P C q ops o env H fun r H'=>bJ P C (some q) ops rest (setD env o.dst r) H' K:=by
 unfold bJ at h
 split at h
 ·rename_i hw;exact .inl ⟨_,_,.inl ⟨hw,rfl,rfl⟩,h⟩
 ·rename_i hw
  split at h
  ·rename_i c ho
   split at h
   ·rename_i f args hc
    unfold jM at h
    rcases h with ⟨r,H',h1,h2,h2q,h3⟩|⟨h1,h2⟩
    ·exact .inl ⟨r,H',.inr ⟨hw,.inl ⟨c,f,args,ho,hc,h1,h2,h2q⟩⟩,h3⟩
    ·exact .inr ⟨hw,c,f,args,ho,hc,h1,h2⟩
   ·rename_i hc
    split at h
    ·exact absurd h.1 (by simp)
    ·exact absurd h.1 (by simp)
    ·split at h
     ·rename_i r H' hs
      exact .inl ⟨r,H',.inr ⟨hw,.inr ⟨fun c' hc'=>by rw[ho] at hc';cases hc';exact hc,hs⟩⟩,h⟩
     ·exact h.elim
  ·rename_i hne
   split at h
   ·rename_i r H' hs
    exact .inl ⟨r,H',.inr ⟨hw,.inr ⟨fun c' hc'=>absurd hc' (hne c'),hs⟩⟩,h⟩
   ·exact h.elim
 ·exact h.elim
theorem aI2 {q:List Nat} {ops:Array Oper} {o:Oper} {rest:List Oper} {env:Env} {H:aB} {K:Env→aB→Prop} (h:jP P C q ops o env H fun r H'=>bJ P C (some q) ops rest (setD env o.dst r) H' K):bJ P C (some q) ops (o::rest) env H K:=by
 unfold bJ
 rcases h with ⟨r,H',hd,h⟩|⟨hw,c,f,args,ho,hc,h1,h2⟩
 ·rcases hd with ⟨hw,rfl,rfl⟩|⟨hw,⟨c,f,args,ho,hc,h1,h2⟩|⟨hc,hs⟩⟩
  ·rw[hw];exact h
  ·rw[hw]
   simp only[ho,hc]
   unfold jM
   exact .inl ⟨r,H',h1,h2.1,h2.2,h⟩
  ·rw[hw]
   simp only
   split
   ·rename_i c ho
    rw[hc c ho]
    have hod:kQ P env c=none:=by
     cases hod:kQ P env c with
     |none=>rfl
     |some x=>rw[aHG ho hod] at hs;cases hs
    simp only[hod,hs]
    exact h
   ·simp only[hs]
    exact h
 ·rw[hw]
  simp only[ho,hc]
  unfold jM
  exact .inr ⟨h1,h2⟩
theorem lQ {env:Env} {c:Call} {f:FuncId} {args:List AV} (h:fH env c=some (f,args)):∃x,c.callee=.value x∧∀g,x=.func g→g=f:=by
 unfold fH at h
 split at h
 ·rename_i x hv
  refine⟨x,hv,fun g hg=>?_⟩
  subst hg
  simp only[opA,Option.some.injEq,Prod.mk.injEq] at h
  exact h.1
 ·cases h
theorem pK {q:List Nat} {ops:Array Oper} {o:Oper} {env:Env} {H H':aB} {r:AV} (h:dD P C q ops o env H r H') (hc:cI q o=.pure):H'=H∧∀H2,dD P C q ops o env H2 r H2:=by
 rcases h with ⟨hw,rfl,rfl⟩|⟨hw,⟨c,f,args,ho,hcl,h1,h2⟩|⟨hcl,hs⟩⟩
 ·exact⟨rfl,fun H2=>.inl ⟨hw,rfl,rfl⟩⟩
 ·exfalso
  obtain⟨x,hx,_⟩:=lQ hcl
  rcases aAd (q:=q) ho hx with e|e<;>rw[e] at hc<;>cases hc
 ·obtain⟨k1,k2⟩:=aHJ hs hc
  exact⟨k1,fun H2=>.inr ⟨hw,.inr ⟨hcl,k2 H2⟩⟩⟩
theorem pM {q:List Nat} {ops:Array Oper} {o:Oper} {env:Env} {H H':aB} {r:AV} (h:dD P C q ops o env H r H') (hc:(cI q o).rd=true):H'=H∧∀G,dD P C q ops o env (H++G) r (H++G):=by
 rcases h with ⟨hw,rfl,rfl⟩|⟨hw,⟨c,f,args,ho,hcl,h1,h2⟩|⟨hcl,hs⟩⟩
 ·exact⟨rfl,fun H2=>.inl ⟨hw,rfl,rfl⟩⟩
 ·rw[qT ho] at hc;cases hc
 ·obtain⟨k1,k2⟩:=aAh hs hc
  exact⟨k1,fun G=>.inr ⟨hw,.inr ⟨hcl,k2 G⟩⟩⟩
theorem xP {q:List Nat} {ops:Array Oper} {o:Oper} {env:Env} {H H':aB} {r:AV} (h:dD P C q ops o env H r H') (hc:cI q o=.quiet):H'=H∧∀G,dD P C q ops o env (H++G) r (H++G):=by
 rcases h with ⟨hw,rfl,rfl⟩|⟨hw,⟨c,f,args,ho,hcl,h1,h2,h3⟩|⟨hcl,hs⟩⟩
 ·exact⟨rfl,fun H2=>.inl ⟨hw,rfl,rfl⟩⟩
 ·obtain⟨c',f',ho',hv',hq⟩:=aAe hc
  rw[ho] at ho'
  cases ho'
  obtain⟨x,hx,hxf⟩:=lQ hcl
  rw[hv'] at hx
  cases hx
  obtain rfl:=hxf _ rfl
  obtain⟨rfl,h4⟩:=h3 hq
  exact⟨rfl,fun G=>.inr ⟨hw,.inl ⟨c,f',args,ho,hcl,h4 G,List.prefix_refl _,fun _=>⟨rfl,fun G'=>by rw[List.append_assoc];exact h4 (G++G')⟩⟩⟩⟩
 ·obtain⟨c,f,ho,hv,hq⟩:=aAe hc
  exfalso
  have:=hcl c ho
  unfold fH at this
  rw[hv] at this
  simp[opA] at this
theorem aAj {q:List Nat} {ops:Array Oper} {o:Oper} {env:Env} {H G H':aB} {r:AV} (h:dD P C q ops o env (H++G) r H') (hc:(cI q o).rd=true) (hp:xA o env H.length):H'=H++G∧dD P C q ops o env H r H:=by
 rcases h with ⟨hw,rfl,rfl⟩|⟨hw,⟨c,f,args,ho,hcl,h1,h2⟩|⟨hcl,hs⟩⟩
 ·exact⟨rfl,.inl ⟨hw,rfl,rfl⟩⟩
 ·rw[qT ho] at hc;cases hc
 ·exact⟨(aAh hs hc).1,.inr ⟨hw,.inr ⟨hcl,aHO hs hc hp⟩⟩⟩
theorem aCd {q:List Nat} {ops:Array Oper} {o:Oper} {env:Env} {H H':aB} {r:AV} (h:dD P C q ops o env H r H') (hc:cI q o=.new):H <+: H':=by
 rcases h with ⟨hw,rfl,rfl⟩|⟨hw,⟨c,f,args,ho,hcl,h1,h2⟩|⟨hcl,hs⟩⟩
 ·exact List.prefix_refl _
 ·exact h2.1
 ·exact aI1 hs hc
theorem aDE {q:List Nat} {o:Oper} (h:cI q o=.put):∃t x y,o.op=.store t x y:=by
 unfold cI at h
 cases ho:o.op<;>simp only[ho,reduceCtorEq] at h
 case store t x y=>exact⟨t,x,y,rfl⟩
 case call c=>split at h<;>(try split at h)<;>cases h
theorem aCe {q:List Nat} {o:Oper} (h:cI q o=.look):∃t x k ok,o.op=.lookup t x k ok:=by
 unfold cI at h
 cases ho:o.op<;>simp only[ho,reduceCtorEq] at h
 case lookup t x k ok=>exact⟨t,x,k,ok,rfl⟩
 case call c=>split at h<;>(try split at h)<;>cases h
theorem rR {t:TypeId} {x v:AV} {H H':aB} (h:oR P t x v H=some H'):∃o e cs cs',H[o]?=some (.own e cs)∧H'=H.set o (.own e cs'):=by
 unfold oR at h
 split at h
 ·split at h
  ·split at h
   ·exact⟨_,_,_,_,‹_›,(Option.some.inj h).symm⟩
   ·cases h
  ·cases h
 ·cases h
theorem aFm {t:TypeId} {x k:AV} {ok:Bool} {H:aB} {o:Nat} {e:TypeId} {cs cs':List AV} (h:H[o]?=some (.own e cs)):jA P t x k ok (H.set o (.own e cs'))=jA P t x k ok H:=by
 have key:∀m:Nat,∀es,(H.set o (.own e cs'))[m]?=some (.map es)↔H[m]?=some (.map es):=by
  intro m es
  by_cases hm:o=m
  ·subst hm
   rw[List.getElem?_set_self (List.getElem?_eq_some_iff.1 h).1,h]
   simp
  ·rw[List.getElem?_set_ne hm]
 unfold jA
 split
 ·rename_i e' m s hu
  cases hm:H[m]? with
  |none=>
   have:(H.set o (.own e cs'))[m]?=none:=by
    rw[List.getElem?_eq_none_iff] at hm ⊢
    simpa using hm
   rw[this]
  |some y=>
   cases y with
   |map es=>rw[(key m es).2 hm]
   |_=>
    split
    ·rename_i es z h1 h2
     rw[key] at h1
     rw[hm] at h1
     cases h1
    ·rfl
 ·rfl
theorem aFn {x k:AV} {ok:Bool} {H:aB} {o:Nat} {e:TypeId} {cs cs':List AV} (h:H[o]?=some (.own e cs)):iH x k ok (H.set o (.own e cs'))=iH x k ok H:=by
 unfold iH
 split
 ·rename_i m s hs
  by_cases hm:o=m
  ·subst hm
   rw[List.getElem?_set_self (List.getElem?_eq_some_iff.1 h).1,h]
   rfl
  ·rw[List.getElem?_set_ne hm]
 ·rfl
theorem xQ {t:TypeId} {x k:AV} {ok:Bool} {H:aB} {o:Nat} {e:TypeId} {cs cs':List AV} (h:H[o]?=some (.own e cs)):gF P t x k ok (H.set o (.own e cs'))=gF P t x k ok H:=by
 unfold gF
 rw[aFm h,aFn h]
theorem aBO {q:List Nat} {ops:Array Oper} {oi oj:Oper} {env:Env} {H Hj Hi:aB} {ri rj:AV} (hj:cI q oj=.put) (hi:cI q oi=.look) (h1:dD P C q ops oj env H rj Hj) (h2:dD P C q ops oi env Hj ri Hi):dD P C q ops oi env H ri H∧dD P C q ops oj env H rj Hi:=by
 have hh:=pM h2 (by rw[hi];rfl)
 obtain⟨rfl,-⟩:=hh
 refine⟨?_,h1⟩
 obtain⟨t,x,y,ho⟩:=aDE hj
 obtain⟨t',x',k',ok',ho'⟩:=aCe hi
 rcases h2 with ⟨hw,rfl,-⟩|⟨hw,⟨c,f,args,hoc,_⟩|⟨hcl,hs⟩⟩
 ·exact .inl ⟨hw,rfl,rfl⟩
 ·rw[ho'] at hoc;cases hoc
 ·refine .inr ⟨hw,.inr ⟨hcl,?_⟩⟩
  rcases h1 with ⟨_,_,rfl⟩|⟨_,⟨c,f,args,hoc,_⟩|⟨_,hs1⟩⟩
  ·exact hs
  ·rw[ho] at hoc;cases hoc
  ·unfold dK at hs1 hs ⊢
   rw[ho] at hs1
   rw[ho'] at hs ⊢
   simp only at hs1 hs ⊢
   obtain⟨H2,k1,k2⟩:=Option.map_eq_some_iff.1 hs1
   simp only[Prod.mk.injEq] at k2
   obtain⟨-,rfl⟩:=k2
   obtain⟨o,e,cs,cs',k3,rfl⟩:=rR k1
   rw[xQ k3] at hs
   obtain⟨c,k4,k5⟩:=Option.map_eq_some_iff.1 hs
   rw[k4]
   simp only[Prod.mk.injEq] at k5
   simp[k5.1]
theorem aBP {q:List Nat} {ops:Array Oper} {oi oj:Oper} {env:Env} {H Hj Hi:aB} {ri rj:AV} (hj:cI q oj=.look) (hi:cI q oi=.put) (h1:dD P C q ops oj env H rj Hj) (h2:dD P C q ops oi env Hj ri Hi):dD P C q ops oi env H ri Hi∧dD P C q ops oj env Hi rj Hi:=by
 obtain⟨rfl,-⟩:=pM h1 (by rw[hj];rfl)
 refine⟨h2,?_⟩
 obtain⟨t,x,y,ho⟩:=aDE hi
 obtain⟨t',x',k',ok',ho'⟩:=aCe hj
 rcases h1 with ⟨hw,rfl,-⟩|⟨hw,⟨c,f,args,hoc,_⟩|⟨hcl,hs⟩⟩
 ·exact .inl ⟨hw,rfl,rfl⟩
 ·rw[ho'] at hoc;cases hoc
 ·refine .inr ⟨hw,.inr ⟨hcl,?_⟩⟩
  rcases h2 with ⟨_,_,rfl⟩|⟨_,⟨c,f,args,hoc,_⟩|⟨_,hs1⟩⟩
  ·exact hs
  ·rw[ho] at hoc;cases hoc
  ·unfold dK at hs1 hs ⊢
   rw[ho] at hs1
   rw[ho'] at hs ⊢
   simp only at hs1 hs ⊢
   obtain⟨H2,k1,k2⟩:=Option.map_eq_some_iff.1 hs1
   simp only[Prod.mk.injEq] at k2
   obtain⟨-,rfl⟩:=k2
   obtain⟨o,e,cs,cs',k3,rfl⟩:=rR k1
   rw[xQ k3]
   obtain⟨c,k4,k5⟩:=Option.map_eq_some_iff.1 hs
   rw[k4]
   simp only[Prod.mk.injEq] at k5
   simp[k5.1]
theorem xR {q:List Nat} {ops:Array Oper} {o:Oper} {env env':Env} {H H':aB} {r:AV} (h:dD P C q ops o env H r H') (hx:∀x∈o.op.operands,opA env x=opA env' x) (hw:gG ops o env=gG ops o env'):dD P C q ops o env' H r H':=by
 unfold dD at h ⊢
 rw[←hw,←aFl hx]
 rcases h with h|⟨h0,h|⟨h1,h2⟩⟩
 ·exact .inl h
 ·refine .inr ⟨h0,.inl ?_⟩
  obtain⟨c,f,args,ho,hcl,h1,h2⟩:=h
  exact⟨c,f,args,ho,by rw[←hcl];exact (qC fun x hxm=>hx x (by rw[ho];exact hxm)).symm,h1,h2⟩
 ·exact .inr ⟨h0,.inr ⟨fun c hc=>by rw[←h1 c hc];exact (qC fun x hxm=>hx x (by rw[hc];exact hxm)).symm,h2⟩⟩
def j6 (q:List Nat) (ops:Array Oper) (a b:Oper):Bool:=
 !(a.apart ops b)||(match cI q a,cI q b with
  |.pure,_=>false
  |_,.pure=>false
  |.put,.look=>false
  |.look,.put=>false
  |x,y=>!((x.rd||x==.quiet)&&(y.rd||y==.quiet)||x.rd&&y==.new||x==.new&&(y.rd||y==.quiet)))
theorem aCf {env:Env} {d d':Option Nat} {x y:AV} (h:∀k,d=some k→d'≠some k):setD (setD env d x) d' y=setD (setD env d' y) d x:=by
 cases d with
 |none=>rfl
 |some k=>cases d' with
  |none=>rfl
  |some k'=>
   have:k≠k':=fun e=>h k rfl (by rw[e])
   exact List.set_comm _ _ this
theorem xB {env:Env} {d:Option Nat} {r:AV} {x:Operand} (h:∀k,d=some k→x≠.tmp k):opA (setD env d r) x=opA env x:=by
 cases d with
 |none=>rfl
 |some k=>cases x with
  |tmp t=>
   have hne:k≠t:=fun e=>h k rfl (by rw[e])
   unfold opA setD
   simp only[List.getD_eq_getElem?_getD,List.getElem?_set_ne hne]
  |_=>rfl
theorem lR {ops:Array Oper} {o:Oper} {d:Option Nat} (h:∀k,d=some k→k∉o.looksAt ops) {x:Operand} (hx:x∈o.op.operands):∀k,d=some k→x≠.tmp k:=by
 intro k hk he
 subst he
 refine h k hk ?_
 unfold Oper.looksAt
 exact List.mem_append_left _ (List.mem_filterMap.2 ⟨_,by simpa using hx,rfl⟩)
theorem vG {ops:Array Oper} {o:Oper} {env:Env} {d:Option Nat} {r:AV} (h:∀k,d=some k→k∉o.looksAt ops):gG ops o (setD env d r)=gG ops o env:=by
 unfold gG
 cases hg:o.guard with
 |none=>rfl
 |some g=>
  simp only
  cases hd:(ops[g.1]?).bind (·.dst) with
  |none=>rfl
  |some k=>
   simp only
   have:(setD env d r).getD k .any=env.getD k .any:=by
    cases d with
    |none=>rfl
    |some k'=>
     have hne:k'≠k:=by
      intro e
      refine h k' rfl ?_
      unfold Oper.looksAt
      refine List.mem_append_right _ ?_
      rw[hg]
      simp only[hd]
      simp[e]
     unfold setD
     simp only[List.getD_eq_getElem?_getD,List.getElem?_set_ne hne]
   rw[this]
theorem qW {q:List Nat} {ops:Array Oper} {o:Oper} {env:Env} {H H':aB} {r:AV} {d:Option Nat} {x:AV} (h:∀k,d=some k→k∉o.looksAt ops):dD P C q ops o (setD env d x) H r H'↔dD P C q ops o env H r H':=
 ⟨fun hd=>xR hd (fun y hy=>xB (lR h hy)) (vG h),fun hd=>xR hd (fun y hy=>(xB (lR h hy)).symm) (vG h).symm⟩
theorem aHP {q:List Nat} {ops:Array Oper} {oi oj:Oper} (hm:j6 q ops oi oj=false) {env:Env} {H Hj Hi:aB} {ri rj:AV} (h1:dD P C q ops oj env H rj Hj) (h2:dD P C q ops oi (setD env oj.dst rj) Hj ri Hi) (hp:xA oi env H.length) :
  ∃H1,dD P C q ops oi env H ri H1∧dD P C q ops oj (setD env oi.dst ri) H1 rj Hi∧setD (setD env oj.dst rj) oi.dst ri=setD (setD env oi.dst ri) oj.dst rj:=by
 unfold j6 at hm
 rw[Bool.or_eq_false_iff] at hm
 obtain⟨hap,hcl⟩:=hm
 obtain⟨a1,a2,a3⟩:=Oper.apart_spec (by simpa using hap)
 rw[qW a3] at h2
 have fin:∀H1,dD P C q ops oi env H ri H1→dD P C q ops oj env H1 rj Hi→∃H1,dD P C q ops oi env H ri H1∧dD P C q ops oj (setD env oi.dst ri) H1 rj Hi∧setD (setD env oj.dst rj) oi.dst ri=setD (setD env oi.dst ri) oj.dst rj:=
  fun H1 k1 k2=>⟨H1,k1,(qW a1).2 k2,aCf fun k hk hk'=>a2 k hk' hk⟩
 have same:(Hj=H∧Hi=Hj)→∃H1,dD P C q ops oi env H ri H1∧dD P C q ops oj (setD env oi.dst ri) H1 rj Hi∧setD (setD env oj.dst rj) oi.dst ri=setD (setD env oi.dst ri) oj.dst rj:=by
  rintro ⟨rfl,rfl⟩
  exact fin _ h2 h1
 by_cases p1:cI q oi=.pure
 ·obtain⟨rfl,k⟩:=pK h2 p1
  exact fin H (k H) h1
 by_cases p2:cI q oj=.pure
 ·obtain⟨rfl,k⟩:=pK h1 p2
  exact fin Hi h2 (k Hi)
 by_cases p3:cI q oi=.put∧cI q oj=.look
 ·obtain⟨k1,k2⟩:=aBP p3.2 p3.1 h1 h2
  exact fin Hi k1 k2
 by_cases p4:cI q oi=.look∧cI q oj=.put
 ·obtain⟨k1,k2⟩:=aBO p4.2 p4.1 h1 h2
  exact fin H k1 k2
 have hcl':((cI q oi).rd||cI q oi==.quiet)&&((cI q oj).rd||cI q oj==.quiet)||(cI q oi).rd&&cI q oj==.new||cI q oi==.new&&((cI q oj).rd||cI q oj==.quiet)=true:=by
  revert hcl p1 p2 p3 p4
  generalize cI q oi=x
  generalize cI q oj=y
  cases x<;>cases y<;>simp[Cl.rd]
 have rdq:∀{o:Oper} {e:Env} {A A':aB} {r:AV},((cI q o).rd||cI q o==.quiet)=true→dD P C q ops o e A r A'→A'=A∧∀G,dD P C q ops o e (A++G) r (A++G):=by
  intro o e A A' r hq hd
  rcases Bool.or_eq_true_iff.1 hq with hq|hq
  ·exact pM hd hq
  ·exact xP hd (by simpa using hq)
 have hcl2:(((cI q oi).rd||cI q oi==.quiet)=true∧((cI q oj).rd||cI q oj==.quiet)=true)∨((cI q oi).rd=true∧cI q oj=.new)∨(cI q oi=.new∧((cI q oj).rd||cI q oj==.quiet)=true):=by
  revert hcl'
  generalize cI q oi=x
  generalize cI q oj=y
  cases x<;>cases y<;>simp[Cl.rd]
 rcases hcl2 with ⟨c1,c2⟩|⟨c1,c2⟩|⟨c1,c2⟩
 ·exact same ⟨(rdq c2 h1).1,(rdq c1 h2).1⟩
 ·obtain⟨G,rfl⟩:=aCd h1 c2
  obtain⟨rfl,k⟩:=aAj h2 c1 hp
  exact fin H k h1
 ·obtain⟨rfl,k⟩:=rdq c2 h1
  obtain⟨G,rfl⟩:=aCd h2 c1
  exact fin _ h2 (k G)
theorem aI3 {q:List Nat} {ops:Array Oper} {o:Oper} {env:Env} {H H1 H2:aB} {r1 r2:AV} (hc:cI q o=.pure∨(cI q o).rd=true) (h1:dD P C q ops o env H r1 H1) (h2:dD P C q ops o env H r2 H2):r1=r2:=by
 have hn:∀c f args,o.op=.call c→fH env c=some (f,args)→False:=fun c f args ho hcl=>by
  obtain⟨x,hx,_⟩:=lQ hcl
  rcases aAd (q:=q) ho hx with e|e<;>rw[e] at hc<;>simp[Cl.rd] at hc
 rcases h1 with ⟨hw,rfl,_⟩|⟨hw,⟨c,f,args,ho,hcl,_⟩|⟨_,hs⟩⟩
 ·rcases h2 with ⟨_,rfl,_⟩|⟨hw2,_⟩
  ·rfl
  ·rw[hw] at hw2;cases hw2
 ·exact (hn c f args ho hcl).elim
 ·rcases h2 with ⟨hw2,_⟩|⟨_,⟨c,f,args,ho,hcl,_⟩|⟨_,hs2⟩⟩
  ·rw[hw] at hw2;cases hw2
  ·exact (hn c f args ho hcl).elim
  ·rw[hs] at hs2
   simp only[Option.some.injEq,Prod.mk.injEq] at hs2
   exact hs2.1
theorem aHQ {q:List Nat} {ops:Array Oper} {oi oj:Oper} (hm:j6 q ops oi oj=false) {env:Env} {H:aB} {Y:Env→aB→Prop} (hp:xA oi env H.length)
  (h:jP P C q ops oj env H fun rj Hj=>jP P C q ops oi (setD env oj.dst rj) Hj fun ri Hi=>Y (setD (setD env oj.dst rj) oi.dst ri) Hi) :
  jP P C q ops oi env H fun ri H1=>jP P C q ops oj (setD env oi.dst ri) H1 fun rj H2=>Y (setD (setD env oi.dst ri) oj.dst rj) H2:=by
 have hm0:=hm
 unfold j6 at hm
 rw[Bool.or_eq_false_iff] at hm
 obtain⟨hap,hcl⟩:=hm
 obtain⟨a1,a2,a3⟩:=Oper.apart_spec (by simpa using hap)
 have hcomm:∀rj ri,setD (setD env oj.dst rj) oi.dst ri=setD (setD env oi.dst ri) oj.dst rj:=fun rj ri=>aCf fun k hk hk'=>a2 k hk' hk
 have callcl:∀{o:Oper} {e:Env} {c:Call} {f:FuncId} {args:List AV},o.op=.call c→fH e c=some (f,args)→q.contains f=false→cI q o=.new:=by
  intro o e c f args ho hc hf
  obtain⟨x,hx,hxf⟩:=lQ hc
  unfold cI
  simp only[ho,hx]
  cases x with
  |func g=>
   obtain rfl:=hxf _ rfl
   simp only
   rw[if_neg (by rw[hf];simp)]
  |_=>rfl
 have wcg:∀{o o':Oper} {r:AV},(∀k,o'.dst=some k→k∉o.looksAt ops)→gG ops o (setD env o'.dst r)=gG ops o env:=fun hh=>vG hh
 have ccg:∀{o o':Oper} {r:AV} {c:Call},o.op=.call c→(∀k,o'.dst=some k→k∉o.looksAt ops)→fH (setD env o'.dst r) c=fH env c:=fun ho hh=>
  qC fun x hx=>xB (lR hh (by rw[ho];exact hx))
 rcases h with ⟨rj,Hj,h1,h2⟩|⟨hw,c,f,args,ho,hc,hf,R,hR,hgrow,⟨r0,H0,hr0⟩,hX⟩
 ·rcases h2 with ⟨ri,Hi,h2,hY⟩|⟨hw,c,f,args,ho,hc,hf,R,hR,hgrow,hne,hX⟩
  ·obtain⟨H1,k1,k2,k3⟩:=aHP hm0 h1 h2 hp
   exact .inl ⟨ri,H1,k1,.inl ⟨rj,Hi,k2,by show Y _ _;rw[←k3];exact hY⟩⟩
  ·
   have ci:=callcl ho hc hf
   rw[ci] at hcl
   have hj:cI q oj=.pure∨((cI q oj).rd||cI q oj==.quiet)=true:=by
    revert hcl
    generalize cI q oj=y
    cases y<;>simp[Cl.rd]
   have hall:Hj=H∧∀G,dD P C q ops oj env (H++G) rj (H++G):=by
    rcases hj with e|e
    ·obtain⟨e1,e2⟩:=pK h1 e
     exact⟨e1,fun G=>e2 _⟩
    ·rcases Bool.or_eq_true_iff.1 e with e|e
     ·exact pM h1 e
     ·exact xP h1 (by simpa using e)
   obtain⟨rfl,hall⟩:=hall
   refine .inr ⟨by rw[←wcg a3 (r:=rj)];exact hw,c,f,args,ho,by rw[←ccg ho a3 (r:=rj)];exact hc,hf,R,hR,hgrow,hne,fun r H' hr=>?_⟩
   obtain⟨G,rfl⟩:=hgrow r H' hr
   exact .inl ⟨rj,_,(qW a1).2 (hall G),by show Y _ _;rw[←hcomm];exact hX r _ hr⟩
 ·
  have cj:=callcl ho hc hf
  rw[cj] at hcl
  have hi:cI q oi=.pure∨(cI q oi).rd=true:=by
   revert hcl
   generalize cI q oi=y
   cases y<;>simp[Cl.rd]
  have hin:cI q oi≠.new:=by rcases hi with e|e<;>intro e2<;>rw[e2] at e<;>simp[Cl.rd] at e
  have base:∀{rj:AV} {G:aB} {ri:AV} {Hi:aB},dD P C q ops oi (setD env oj.dst rj) (H++G) ri Hi→Hi=H++G∧dD P C q ops oi env H ri H:=by
   intro rj G ri Hi hd
   rw[qW a3] at hd
   rcases hi with e|e
   ·obtain⟨e1,e2⟩:=pK hd e
    exact⟨e1,e2 H⟩
   ·exact aAj hd e hp
  have det:∀{rj:AV} {H':aB},(jP P C q ops oi (setD env oj.dst rj) H' fun ri Hi=>Y (setD (setD env oj.dst rj) oi.dst ri) Hi)→∃ri Hi,dD P C q ops oi (setD env oj.dst rj) H' ri Hi∧Y (setD (setD env oj.dst rj) oi.dst ri) Hi:=by
   intro rj H' hn
   rcases hn with hn|⟨_,c2,f2,args2,ho2,hc2,hf2,_⟩
   ·exact hn
   ·exact absurd (callcl ho2 hc2 hf2) hin
  obtain⟨G0,rfl⟩:=hgrow _ _ hr0
  obtain⟨ri,Hi,hd0,_⟩:=det (hX _ _ hr0)
  obtain⟨_,hdi⟩:=base hd0
  refine .inl ⟨ri,H,hdi,.inr ⟨by rw[wcg a1];exact hw,c,f,args,ho,by rw[ccg ho a1];exact hc,hf,R,hR,hgrow,⟨r0,_,hr0⟩,fun rj H' hr=>?_⟩⟩
  obtain⟨G,rfl⟩:=hgrow _ _ hr
  obtain⟨ri2,Hi2,hd2,hY⟩:=det (hX _ _ hr)
  obtain⟨e1,hdi2⟩:=base hd2
  obtain rfl:=aI3 hi hdi hdi2
  subst e1
  show Y _ _
  rw[←hcomm]
  exact hY
theorem aHR {t:TypeId} {l:List (Nat×List AV)} {H H':aB} {r:AV} (h:lG P t l H=some (r,H')):H.length≤H'.length:=by
 obtain⟨rfl,_⟩:=tK t l h
 exact Nat.le_refl _
theorem aFo {t:TypeId} {x y:AV} {H H':aB} {r:AV} (h:cW P t x y H=some (r,H')):H.length≤H'.length:=by
 unfold cW at h
 repeat' split at h
 all_goals first
  |(cases h;done)
  |(simp only[Option.some.injEq,Prod.mk.injEq] at h;rw[←h.2];simp only[List.length_append,List.length_set,List.length_cons,List.length_nil];omega)
  |(simp only[Option.some.injEq,Prod.mk.injEq] at h;rw[←h.2];exact Nat.le_refl _)
theorem aI4 {o:Oper} {env:Env} {H H':aB} {r:AV} (h:dK P o env H=some (r,H')):H.length≤H'.length:=by
 unfold dK at h
 cases ho:o.op<;>simp only[ho,reduceCtorEq] at h
 case move x=>simp only[Option.some.injEq,Prod.mk.injEq] at h;rw[h.2];exact Nat.le_refl _
 case assign x=>simp only[Option.some.injEq,Prod.mk.injEq] at h;rw[h.2];exact Nat.le_refl _
 case pick c x y=>
  split at h
  ·simp only[Option.some.injEq,Prod.mk.injEq] at h;rw[h.2];exact Nat.le_refl _
  ·cases h
 case alloc e=>
  repeat' split at h
  all_goals first
   |(cases h;done)
   |(simp only[Option.some.injEq,Prod.mk.injEq] at h;rw[←h.2];simp)
 case box e x=>
  obtain⟨c,h1,h2⟩:=Option.map_eq_some_iff.1 h
  simp only[Prod.mk.injEq] at h2
  rw[←h2.2];simp
 case build t ps=>
  obtain⟨l,h1,h2⟩:=Option.bind_eq_some_iff.1 h
  exact aHR h2
 case buildSlice t n ps=>
  obtain⟨l,h1,h2⟩:=Option.bind_eq_some_iff.1 h
  exact (qV h2).length_le
 case load t x=>rw[pJ h];exact Nat.le_refl _
 case store t x y=>
  obtain⟨H2,k1,k2⟩:=Option.map_eq_some_iff.1 h
  simp only[Prod.mk.injEq] at k2
  obtain⟨o',e,cs,cs',_,k3⟩:=rR k1
  rw[←k2.2,k3,List.length_set]
  exact Nat.le_refl _
 case nilCheck x=>
  split at h
  ·simp only[Option.some.injEq,Prod.mk.injEq] at h;rw[h.2];exact Nat.le_refl _
  ·simp only[Option.some.injEq,Prod.mk.injEq] at h;rw[h.2];exact Nat.le_refl _
  ·cases h
 case binOp=>rw[(jO _ h).1];exact Nat.le_refl _
 case unOp=>rw[jC] at h;rw[(qU _ _ h).1];exact Nat.le_refl _
 case convert=>rw[jC] at h;rw[(qU _ _ h).1];exact Nat.le_refl _
 case slice t x lo hi mx=>
  cases mx with
  |none=>rw[(tM _ _ _ _ h).1];exact Nat.le_refl _
  |some _=>cases h
 case fieldAddr=>rw[(aAf _ _ _ h).1];exact Nat.le_refl _
 case indexAddr=>rw[(tL _ _ _ h).1];exact Nat.le_refl _
 case index=>rw[(jO _ h).1];exact Nat.le_refl _
 case lookup=>rw[(jO _ h).1];exact Nat.le_refl _
 case insert t x k v=>
  obtain⟨H2,k1,k2⟩:=Option.map_eq_some_iff.1 h
  simp only[Prod.mk.injEq] at k2
  rw[←k2.2]
  unfold jY p5 sE at k1
  repeat' split at k1
  all_goals first
   |(cases k1;done)
   |(simp only[Option.some.injEq] at k1;rw[←k1,List.length_set];exact Nat.le_refl _)
   |(obtain⟨es,-,k1⟩:=Option.map_eq_some_iff.1 k1;rw[←k1,List.length_set];exact Nat.le_refl _)
 case mapUpdate t x k v=>
  obtain⟨H2,k1,k2⟩:=Option.map_eq_some_iff.1 h
  simp only[Prod.mk.injEq] at k2
  rw[←k2.2]
  unfold jY p5 sE at k1
  repeat' split at k1
  all_goals first
   |(cases k1;done)
   |(simp only[Option.some.injEq] at k1;rw[←k1,List.length_set];exact Nat.le_refl _)
   |(obtain⟨es,-,k1⟩:=Option.map_eq_some_iff.1 k1;rw[←k1,List.length_set];exact Nat.le_refl _)
 case makeMap t x=>
  cases x with
  |none=>simp only[Option.some.injEq,Prod.mk.injEq] at h;rw[←h.2];simp
  |some _=>cases h
 case makeSlice t x y=>
  unfold fS at h
  repeat' split at h
  all_goals first
   |(cases h;done)
   |(simp only[Option.some.injEq,Prod.mk.injEq] at h;rw[←h.2];simp)
 case extract=>rw[(jO _ h).1];exact Nat.le_refl _
 case field=>rw[(jO _ h).1];exact Nat.le_refl _
 case makeInterface=>
  split at h
  ·simp only[Option.some.injEq,Prod.mk.injEq] at h;rw[h.2];exact Nat.le_refl _
  ·cases h
 case makeFunc=>simp only[Option.some.injEq,Prod.mk.injEq] at h;rw[h.2];exact Nat.le_refl _
 case call c=>
  split at h
  ·rename_i b hb
   by_cases hba:b=.append
   ·subst hba
    unfold fE at h
    split at h
    ·cases ‹Builtin.append=Builtin.len›
    ·split at h
     ·exact aFo h
     ·cases h
    ·cases ‹Builtin.append=Builtin.max›
    ·cases ‹Builtin.append=Builtin.min›
    ·cases h
   ·rw[(vC _ _ _ _ hba h).1];exact Nat.le_refl _
  ·cases h
theorem aI5 {q:List Nat} {ops:Array Oper} {o:Oper} {env:Env} {H H':aB} {r:AV} (h:dD P C q ops o env H r H'):H.length≤H'.length:=by
 rcases h with ⟨_,_,rfl⟩|⟨_,⟨_,_,_,_,_,_,h,_⟩|⟨_,hs⟩⟩
 ·exact Nat.le_refl _
 ·exact h.length_le
 ·exact aI4 hs
theorem aI6 {q:List Nat} {ops:Array Oper} {o:Oper} {env:Env} {H:aB} {X:AV→aB→Prop} (h:jP P C q ops o env H X):jP P C q ops o env H fun r H'=>H.length≤H'.length∧X r H':=by
 rcases h with ⟨r,H',h1,h2⟩|⟨h0,c,f,args,h1,h2,h3,R,h4,h5,h6,h7⟩
 ·exact .inl ⟨r,H',h1,aI5 h1,h2⟩
 ·exact .inr ⟨h0,c,f,args,h1,h2,h3,R,h4,h5,h6,fun r H' hr=>⟨(h5 r H' hr).length_le,h7 r H' hr⟩⟩
theorem tN {q:List Nat} {ops:Array Oper} {oi:Oper} {B:List Oper} {K:Env→aB→Prop}:∀{A:List Oper} {env:Env} {H:aB},(∀o∈A,j6 q ops oi o=false)→xA oi env H.length→bJ P C (some q) ops (A++oi::B) env H K→
  jP P C q ops oi env H fun r H'=>bJ P C (some q) ops (A++B) (setD env oi.dst r) H' K
 |[],env,H,_,hp,h=>aCc h
 |oj::A,env,H,hm,hp,h=>by
  have h1:=aI6 (aCc (rest:=A++oi::B) h)
  have hmj:=hm _ (List.mem_cons_self ..)
  have ha3:∀k,oj.dst=some k→k∉oi.looksAt ops:=by
   have hmj':=hmj
   unfold j6 at hmj'
   rw[Bool.or_eq_false_iff] at hmj'
   exact (Oper.apart_spec (by simpa using hmj'.1)).2.2
  have h2:jP P C q ops oj env H fun rj Hj=>jP P C q ops oi (setD env oj.dst rj) Hj fun ri Hi=>bJ P C (some q) ops (A++B) (setD (setD env oj.dst rj) oi.dst ri) Hi K:=by
   refine aAi (fun rj Hj hk=>?_) h1
   refine tN (fun o ho=>hm o (List.mem_cons_of_mem _ ho)) (fun x hx=>?_) hk.2
   rw[xB (lR ha3 hx)]
   have:=hp x hx
   exact⟨fun o' off e=>Nat.lt_of_lt_of_le (this.1 o' off e) hk.1,fun o' e=>Nat.lt_of_lt_of_le (this.2 o' e) hk.1⟩
  have h3:=aHQ (Y:=fun e h=>bJ P C (some q) ops (A++B) e h K) hmj hp h2
  exact aAi (fun r H' hk=>aI2 (rest:=A++B) hk) h3
def j7 (ops:Array Oper):Nat→Nat→Nat→Bool
 |0,_,_=>false
 |k+1,i,j=>match ops[i]? with
  |none=>false
  |some o=>(o.after.toList.any fun e=>Region.binds .any e&&e.on==j)||(o.after.toList.any fun e=>Region.binds .any e&&decide (j<e.on)&&j7 ops k e.on j)
def oW (q:List Nat) (ops:Array Oper):Bool:=
 (List.range ops.size).all fun i=>match ops[i]? with
  |none=>true
  |some oi=>(oi.after.toList.all fun e=>!Region.binds .any e||decide (e.on<i))&&(List.range i).all fun j=>match ops[j]? with
   |none=>true
   |some oj=>!j6 q ops oi oj||j7 ops ops.size i j
def Dn (ops:Array Oper) (listed:Array Bool):Prop:=∀(i:Nat) o,listed.getD i false=true→ops[i]?=some o→∀e∈o.after,Region.binds .any e=true→listed.getD e.on false=true
theorem vH {ops:Array Oper} {listed:Array Bool} (hd:Dn ops listed):∀(k i j:Nat) o,j7 ops k i j=true→ops[i]?=some o→(∀e∈o.after,Region.binds .any e=true→listed.getD e.on false=true)→listed.getD j false=true
 |0,_,_,_,h,_,_=>by simp[j7] at h
 |k+1,i,j,o,h,ho,hl=>by
  unfold j7 at h
  rw[ho] at h
  simp only[Bool.or_eq_true,List.any_eq_true,Bool.and_eq_true,decide_eq_true_eq,beq_iff_eq] at h
  rcases h with ⟨e,he,h1,h2⟩|⟨e,he,⟨h1,h2⟩,h3⟩
  ·rw[←h2];exact hl e (by simpa using he) h1
  ·have hle:=hl e (by simpa using he) h1
   cases hoe:ops[e.on]? with
   |none=>
    cases k with
    |zero=>simp[j7] at h3
    |succ k=>unfold j7 at h3;rw[hoe] at h3;cases h3
   |some oe=>exact vH hd k e.on j oe h3 hoe (hd _ _ hle hoe)
theorem xS {q:List Nat} {ops:Array Oper} (h:oW q ops=true) {i:Nat} {oi:Oper} (hi:ops[i]?=some oi):(∀e∈oi.after,Region.binds .any e=true→e.on<i)∧∀(j:Nat) oj,j<i→ops[j]?=some oj→j6 q ops oi oj=true→j7 ops ops.size i j=true:=by
 have hlt:i<ops.size:=(Array.getElem?_eq_some_iff.1 hi).1
 unfold oW at h
 have h1:=List.all_eq_true.1 h i (List.mem_range.2 hlt)
 simp only[hi,Bool.and_eq_true,List.all_eq_true,Bool.or_eq_true,Bool.not_eq_true',decide_eq_true_eq,List.mem_range] at h1
 obtain⟨h2,h3⟩:=h1
 refine⟨fun e he hb=>?_,fun j oj hj hoj hm=>?_⟩
 ·rcases h2 e (by simpa using he) with h4|h4
  ·rw[hb] at h4;cases h4
  ·exact h4
 ·have h4:=h3 j hj
  simp only[hoj,Bool.or_eq_true,Bool.not_eq_true'] at h4
  rcases h4 with h4|h4
  ·rw[hm] at h4;cases h4
  ·exact h4
def gQ (n:Nat) (listed:Array Bool):List Nat:=(List.range n).filter fun i=>!listed.getD i true
def rem (ops:Array Oper) (listed:Array Bool):List Oper:=(gQ ops.size listed).filterMap (ops[·]?)
theorem xT {n i:Nat} (h:i<n):List.range n=List.range i++i::List.range' (i+1) (n-i-1):=by
 rw[List.range_eq_range',List.range_eq_range']
 have h1:List.range' 0 n=List.range' 0 i++List.range' (0+1*i) (n-i):=by rw[List.range'_append];congr 1;omega
 rw[h1]
 congr 1
 have h2:n-i=(n-i-1)+1:=by omega
 rw[h2,List.range'_succ]
 simp
theorem qD {n i:Nat} {listed:Array Bool} (h:i<n) (hl:listed.getD i true=false) (hs:listed.size=n):∃A B,gQ n listed=A++i::B∧gQ n (listed.setIfInBounds i true)=A++B∧∀j∈A,j<i∧listed.getD j true=false:=by
 refine⟨(List.range i).filter fun j=>!listed.getD j true,(List.range' (i+1) (n-i-1)).filter fun j=>!listed.getD j true,?_,?_,?_⟩
 ·unfold gQ
  rw[xT h,List.filter_append,List.filter_cons,hl]
  rfl
 ·unfold gQ
  rw[xT h,List.filter_append,List.filter_cons]
  have hi:(listed.setIfInBounds i true).getD i true=true:=by simp[hs,h]
  rw[hi]
  simp only[Bool.not_true,Bool.false_eq_true,if_false]
  congr 1
  ·refine List.filter_congr fun j hj=>?_
   rw[getD_set_ne true]
   have:=List.mem_range.1 hj
   omega
  ·refine List.filter_congr fun j hj=>?_
   rw[getD_set_ne true]
   have:=(List.mem_range'_1.1 hj).1
   omega
 ·intro j hj
  obtain⟨h1,h2⟩:=List.mem_filter.1 hj
  exact⟨List.mem_range.1 h1,by simpa using h2⟩
theorem aI7 {ops:Array Oper} {i:Nat} {oi:Oper} {listed:Array Bool} (hi:ops[i]?=some oi) (hl:listed.getD i true=false) (hs:listed.size=ops.size):∃A B,rem ops listed=A++oi::B∧rem ops (listed.setIfInBounds i true)=A++B∧∀oj∈A,∃j,j<i∧listed.getD j true=false∧ops[j]?=some oj:=by
 obtain⟨A,B,h1,h2,h3⟩:=qD (Array.getElem?_eq_some_iff.1 hi).1 hl hs
 refine⟨A.filterMap (ops[·]?),B.filterMap (ops[·]?),?_,?_,?_⟩
 ·unfold rem;rw[h1,List.filterMap_append,List.filterMap_cons,hi]
 ·unfold rem;rw[h2,List.filterMap_append]
 ·intro oj hj
  obtain⟨j,k1,k2⟩:=List.mem_filterMap.1 hj
  exact⟨j,(h3 j k1).1,(h3 j k1).2,k2⟩
theorem aFp {q:List Nat} {ops:Array Oper} {listed:Array Bool} (hok:oW q ops=true) (hs:listed.size=ops.size) (hr:Region.ready .any ops listed=[]):gQ ops.size listed=[]:=by
 have key:∀i,i<ops.size→listed.getD i true=true:=by
  intro i
  induction i using Nat.strongRecOn with
  |_ i ih=>
   intro hi
   cases hl:listed.getD i true with
   |true=>rfl
   |false=>
    exfalso
    have hmem:i∈Region.ready .any ops listed:=by
     rw[mem_ready]
     have ho:ops[i]?=some ops[i]:=Array.getElem?_eq_getElem hi
     refine⟨hl,_,ho,fun e he hb=>?_⟩
     have hlt:=(xS hok ho).1 e he hb
     have h1:=ih e.on hlt (by omega)
     have hb2:e.on<listed.size:=by omega
     simpa [Array.getD,hb2] using h1
    rw[hr] at hmem
    cases hmem
 unfold gQ
 rw[List.filter_eq_nil_iff]
 intro i hi
 rw[key i (List.mem_range.1 hi)]
 simp
theorem aHS {q:List Nat} {ops:Array Oper} {o:Oper} {env:Env} {H H':aB} {r:AV} (h:dD P C q ops o env H r H') (hok:iU C.nG o=true) {m:aX} {w:World} {a:Act} (hH:cE C m w H) (hE:fG m w env a) {i:Nat} (hi:ops[i]?=some o) {K:Act→World→Prop} {Q:Exit→Act→World→Prop}
  (hK:∀m' w' a',Fwd C m w m' w' H'→fG m' w' (setD env o.dst r) a'→K a' w'):wpOp P ops Q i K a w:=by
 unfold wpOp
 rw[hi]
 simp only
 rcases h with ⟨hw,rfl,rfl⟩|⟨hw,⟨c,f,args,ho,hcl,h1,h2⟩|⟨hcl,hs⟩⟩
 ·rw[if_neg (by rw[jB hw hE];simp)]
  exact hK m w _ ⟨List.prefix_refl m,Szs.refl w,hH⟩ (hE.put o.dst rfl)
 ·rw[if_pos (jB hw hE)]
  left
  obtain⟨vals,h3,h4⟩:=tI hcl ho hH hE hok h1.1
  unfold Oper.wp
  rw[h3,Oper.upon_enter]
  refine (h1.2 m w vals hH h4).mono ?_
  rintro e w' ⟨rv,m',H2,r',rfl,k1,k2,rfl,rfl⟩
  exact hK m' w' _ k1 ((hE.more k1.pre k1.szs).put o.dst k2)
 ·rw[if_pos (jB hw hE)]
  left
  obtain⟨nxt,m',w',h1,h2,h3⟩:=aCb hs hH hE hok
  unfold Oper.wp
  rw[h1]
  have hE':=hE.more h3.pre h3.szs
  rcases h2 with ⟨u,rfl,hu⟩|⟨rfl,rfl⟩
  ·exact hK m' w' _ h3 (hE'.put o.dst hu)
  ·exact hK m' w' _ h3 (hE'.put o.dst (v:=undef) trivial)
theorem xU {q:List Nat} {ops:Array Oper} {o:Oper} {env:Env} {H:aB} {X:AV→aB→Prop} (h:jP P C q ops o env H X) (hok:iU C.nG o=true) {m:aX} {w:World} {a:Act} (hH:cE C m w H) (hE:fG m w env a) {i:Nat} (hi:ops[i]?=some o) {K:Act→World→Prop} {Q:Exit→Act→World→Prop}
  (hK:∀m' w' a' r H',Fwd C m w m' w' H'→fG m' w' (setD env o.dst r) a'→X r H'→K a' w'):wpOp P ops Q i K a w:=by
 rcases h with ⟨r,H',h1,h2⟩|⟨hw,c,f,args,ho,hcl,hf,R,h1,_,_,h2⟩
 ·exact aHS h1 hok hH hE hi fun m' w' a' e1 e2=>hK m' w' a' r H' e1 e2 h2
 ·unfold wpOp
  rw[hi]
  simp only
  rw[if_pos (jB hw hE)]
  left
  obtain⟨vals,h3,h4⟩:=tI hcl ho hH hE hok h1.1
  unfold Oper.wp
  rw[h3,Oper.upon_enter]
  refine (h1.2 m w vals hH h4).mono ?_
  rintro e w' ⟨rv,m',H2,r',rfl,k1,k2,hr⟩
  exact hK m' w' _ r' H2 k1 ((hE.more k1.pre k1.szs).put o.dst k2) (h2 _ _ hr)
theorem aCg {q:List Nat} {ops:Array Oper} (hok:oW q ops=true) (hops:ops.toList.all (iU C.nG)=true) {K:Env→aB→Prop} {Q:Exit→Act→World→Prop} {m0:aX} {w0:World} (hQ:∀m' w' a' env' H',Fwd C m0 w0 m' w' H'→fG m' w' env' a'→K env' H'→Q .normal a' w') :
  ∀(fuel:Nat) (listed:Array Bool) (m:aX) (w:World) (a:Act) (env:Env) (H:aB),listed.size=ops.size→(gQ ops.size listed).length≤fuel→Dn ops listed→Fwd C m0 w0 m w H→fG m w env a→bJ P C (some q) ops (rem ops listed) env H K→wpAny P .any ops Q fuel listed a w
 |0,listed,m,w,a,env,H,hs,hf,hd,hH,hE,h=>by
  have h0:gQ ops.size listed=[]:=List.eq_nil_of_length_eq_zero (by omega)
  unfold wpAny
  unfold rem at h
  rw[h0] at h
  refine⟨?_,hQ m w a env H hH hE h⟩
  refine List.eq_nil_iff_forall_not_mem.2 fun i hi=>?_
  obtain⟨k1,o,k2,_⟩:=mem_ready.1 hi
  have:i∈gQ ops.size listed:=List.mem_filter.2 ⟨List.mem_range.2 (Array.getElem?_eq_some_iff.1 k2).1,by rw[k1];rfl⟩
  rw[h0] at this
  cases this
 |fuel+1,listed,m,w,a,env,H,hs,hf,hd,hH,hE,h=>by
  unfold wpAny
  refine⟨fun hr=>?_,fun i hi=>?_⟩
  ·unfold rem at h
   rw[aFp hok hs hr] at h
   exact hQ m w a env H hH hE h
  ·obtain⟨k1,oi,k2,k3⟩:=mem_ready.1 hi
   obtain⟨A,B,q1,q2,q3⟩:=aI7 k2 k1 hs
   have hoks:∀o:Oper,(∃j:Nat,ops[j]?=some o)→iU C.nG o=true:=fun o ⟨j,hj⟩=>List.all_eq_true.1 hops o (by rw[Array.mem_toList_iff];exact Array.mem_of_getElem? hj)
   rw[q1] at h
   have h1:=tN (fun oj hoj=>by
    obtain⟨j,j1,j2,j3⟩:=q3 oj hoj
    cases hm:j6 q ops oi oj with
    |false=>rfl
    |true=>
     exfalso
     have h5:=vH hd _ _ _ _ ((xS hok k2).2 j oj j1 j3 hm) k2 k3
     have hjs:j<listed.size:=by rw[hs];exact (Array.getElem?_eq_some_iff.1 j3).1
     simp[Array.getD,hjs] at h5 j2
     rw[h5] at j2
     cases j2) (aBN.ptr ⟨m,w,a,hH.rep,hE⟩ (hoks oi ⟨i,k2⟩)) h
   refine xU h1 (hoks oi ⟨i,k2⟩) hH.rep hE k2 fun m' w' a' r H' e1 e2 h2=>aCg hok hops hQ fuel _ m' w' a' _ H' (by simp[hs]) ?_ ?_ (hH.trans e1) e2 (by rw[q2];exact h2)
   ·obtain⟨A',B',p1,p2,_⟩:=qD (Array.getElem?_eq_some_iff.1 k2).1 k1 hs
    rw[p2];rw[p1] at hf
    simp only[List.length_append,List.length_cons] at hf ⊢
    omega
   ·intro j oj hj hoj e he hb
    by_cases hij:i=j
    ·subst hij
     rw[k2] at hoj
     cases hoj
     exact getD_set_true (k3 e he hb)
    ·rw[getD_set_ne false hij] at hj
     exact getD_set_true (hd j oj hj hoj e he hb)
theorem qE (n:Nat):gQ n (Array.replicate n false)=List.range n:=by
 unfold gQ
 rw[List.filter_eq_self]
 intro i hi
 have:=List.mem_range.1 hi
 simp[Array.getD,this]
theorem mO {α:Type} (l:List α):∀n,(List.range n).filterMap (l[·]?)=l.take n
 |0=>by simp
 |n+1=>by
  rw[List.range_succ,List.filterMap_append,mO l n,List.take_add_one]
  cases h:l[n]?<;>simp[h]
theorem aI8 (ops:Array Oper):rem ops (Array.replicate ops.size false)=ops.toList:=by
 unfold rem
 rw[qE]
 have h:=mO ops.toList ops.size
 simp only[Array.getElem?_toList] at h
 rw[h,←Array.length_toList,List.take_length]
theorem aPU {id:Nat} {q:List Nat} {ops:Array Oper} {env:Env} {H:aB} {Q:Exit→Env→aB→Prop} (hm:P.follows .mixedOrders=true) (hok:oW q ops=true) (hops:ops.toList.all (iU C.nG)=true) (h:bJ P C (some q) ops ops.toList env H fun e h=>Q .normal e h):AWp P C (.region id ops true) env H Q:=by
 intro m w a hH hE
 refine wp_region_any hm ?_
 have hH1:cE C m {w with drawn:=w.drawn+1} H:=hH.drewN 1
 refine aCg hok hops (fun m' w' a' env' H' k1 k2 k3=>⟨m',env',H',⟨k1.pre,(kB w 1).trans k1.szs,k1.rep⟩,k2,k3⟩) ops.size _ m _ a env H (by simp) (by rw[qE];simp) (fun i o hi=>by
  exfalso
  rcases Nat.lt_or_ge i ops.size with hlt|hlt<;>simp[Array.getD,hlt] at hi) ⟨List.prefix_refl m,Szs.refl _,hH1⟩ (hE.more (List.prefix_refl m) (kB w 1)) (by rw[aI8];exact h)
variable {P:Program} {C:dC}
def cB (P:Program) (C:dC):Code→Env→aB→(Exit→Env→aB→Prop)→Prop
 |.skip,env,H,Q=>Q .normal env H
 |.region id ops draw,env,H,Q=>if draw=true then (P.follows .mixedOrders=true∧∃q,oW q ops=true∧bJ P C (some q) ops ops.toList env H fun e h=>Q .normal e h)∨AWp P C (.region id ops true) env H Q else bJ P C none ops ops.toList env H fun e h=>Q .normal e h
 |.seq a b,env,H,Q=>cB P C a env H fun ex e h=>match ex with
  |.normal=>cB P C b e h Q
  |ex=>Q ex e h
 |.cond c a b,env,H,Q=>match opA env c with
  |.val (.bool t)=>if t=true then cB P C a env H Q else cB P C b env H Q
  |_=>False
 |.block id b,env,H,Q=>cB P C b env H fun ex e h=>match ex with
  |.exit i=>if i=id then Q .normal e h else Q (.exit i) e h
  |ex=>Q ex e h
 |.exit id,env,H,Q=>Q (.exit id) env H
 |.ret,env,H,Q=>Q .ret env H
 |.loop b,env,H,Q=>AWp P C (.loop b) env H Q
 |_,_,_,_=>False
def okC (n:Nat):Code→Bool
 |.region _ ops _=>ops.toList.all (iU n)
 |.seq a b=>okC n a&&okC n b
 |.cond c a b=>okX n c&&okC n a&&okC n b
 |.block _ b=>okC n b
 |.loop b=>okC n b
 |_=>true
theorem AWp.mono {c:Code} {env:Env} {H:aB} {Q Q':Exit→Env→aB→Prop} (h:AWp P C c env H Q) (hq:∀ex e h,Q ex e h→Q' ex e h):AWp P C c env H Q':=
 fun m w a h1 h2=>wp_mono (h m w a h1 h2) fun ex a' w' ⟨m',e',H',k1,k2,k3⟩=>⟨m',e',H',k1,k2,hq _ _ _ k3⟩
theorem iV:∀{c:Code} {env:Env} {H:aB} {Q:Exit→Env→aB→Prop},cB P C c env H Q→okC C.nG c=true→AWp P C c env H Q
 |.skip,env,H,Q,h,_=>fun m w a h1 h2=>wp_skip ⟨m,env,H,⟨List.prefix_refl m,Szs.refl w,h1⟩,h2,h⟩
 |.region id ops draw,env,H,Q,h,hok=>by
  unfold cB at h
  split at h
  ·rename_i hd
   subst hd
   rcases h with ⟨h1,q,h2,h3⟩|h
   ·exact aPU h1 h2 hok h3
   ·exact h
  ·rename_i hd
   obtain rfl:draw=false:=by simpa using hd
   exact fun m w a h1 h2=>wp_region_list (iO h hok h1 h2 fun m' w' a' env' H' k1 k2 k3=>⟨m',env',H',k1,k2,k3⟩)
 |.seq x y,env,H,Q,h,hok=>by
  unfold cB at h
  simp only[okC,Bool.and_eq_true] at hok
  intro m w a h1 h2
  refine wp_seq (wp_mono (iV h hok.1 m w a h1 h2) ?_)
  rintro ex a' w' ⟨m',e',H',k1,k2,k3⟩
  cases ex with
  |normal=>
   exact wp_mono (iV k3 hok.2 m' w' a' k1.rep k2) fun ex a2 w2 ⟨m2,e2,H2,q1,q2,q3⟩=>⟨m2,e2,H2,k1.trans q1,q2,q3⟩
  |exit i=>exact⟨m',e',H',k1,k2,k3⟩
  |goto l=>exact⟨m',e',H',k1,k2,k3⟩
  |ret=>exact⟨m',e',H',k1,k2,k3⟩
  |panic ch=>exact⟨m',e',H',k1,k2,k3⟩
  |outgrown=>exact⟨m',e',H',k1,k2,k3⟩
 |.cond c x y,env,H,Q,h,hok=>by
  unfold cB at h
  simp only[okC,Bool.and_eq_true] at hok
  split at h
  ·rename_i t ht
   intro m w a h1 h2
   have hv:=nN h2 h1 (lX hok.1.1)
   rw[ht] at hv
   have hv':a.eval c=.bool t:=hv
   refine wp_cond hv' ?_
   cases t
   ·exact iV (by simpa using h) hok.2 m w a h1 h2
   ·exact iV (by simpa using h) hok.1.2 m w a h1 h2
  ·exact h.elim
 |.block id b,env,H,Q,h,hok=>by
  unfold cB at h
  intro m w a h1 h2
  refine wp_block (wp_mono (iV h hok m w a h1 h2) ?_)
  rintro ex a' w' ⟨m',e',H',k1,k2,k3⟩
  cases ex with
  |exit i=>
   show if i=id then _ else _
   split
   ·rename_i hi;simp only[hi,if_true] at k3;exact⟨m',e',H',k1,k2,k3⟩
   ·rename_i hi;simp only[hi,if_false] at k3;exact⟨m',e',H',k1,k2,k3⟩
  |normal=>exact⟨m',e',H',k1,k2,k3⟩
  |goto l=>exact⟨m',e',H',k1,k2,k3⟩
  |ret=>exact⟨m',e',H',k1,k2,k3⟩
  |panic ch=>exact⟨m',e',H',k1,k2,k3⟩
  |outgrown=>exact⟨m',e',H',k1,k2,k3⟩
 |.exit id,env,H,Q,h,_=>fun m w a h1 h2=>wp_exit ⟨m,env,H,⟨List.prefix_refl m,Szs.refl w,h1⟩,h2,h⟩
 |.ret,env,H,Q,h,_=>fun m w a h1 h2=>wp_ret ⟨m,env,H,⟨List.prefix_refl m,Szs.refl w,h1⟩,h2,h⟩
 |.loop b,env,H,Q,h,_=>h
 |.rangeFunc ..,_,_,_,h,_=>h.elim
 |.scope _,_,_,_,h,_=>h.elim
 |.label _,_,_,_,h,_=>h.elim
 |.goto _,_,_,_,h,_=>h.elim
 |.refuse _,_,_,_,h,_=>h.elim
theorem aK7 {c:Code} {Q:Exit→Act→World→Prop} (I:Nat→Act→World→Prop)
  (round:∀n a w,I n a w→c.wp P (Exit.then (fun a' w'=>∃n',n'<n∧I n' a' w') Q) a w) {n:Nat} {a:Act} {w:World} (h0:I n a w):(Code.loop c).wp P Q a w:=by
 intro b k cs
 have key:∀n a w,I n a w→∃e a' w',Q e a' w'∧Arrives P (lone (b.at a (.code c::.inLoop c::k)) cs w) b k cs e a' w':=by
  intro n
  induction n using Nat.strongRecOn with
  |_ n ih=>
   intro a w hI
   obtain⟨e,a1,w1,hq,harr⟩:=round n a w hI b (.inLoop c::k) cs
   have through:∀e,e≠Exit.normal→Q e a1 w1→Arrives P (lone (b.at a (.code c::.inLoop c::k)) cs w) b (.inLoop c::k) cs e a1 w1→∃e a' w',Q e a' w'∧Arrives P (lone (b.at a (.code c::.inLoop c::k)) cs w) b k cs e a' w':=
    fun e he hq harr=>⟨e,a1,w1,hq,.pass (x:=.inLoop c) rfl (fun _ _=>.inl he) harr⟩
   cases e with
   |normal=>
    obtain⟨n',hlt,hI'⟩:=hq
    obtain⟨e2,a2,w2,hq2,harr2⟩:=ih n' hlt a1 w1 hI'
    exact⟨e2,a2,w2,hq2,.of_steps (Steps.trans harr (.one step_inLoop)) harr2⟩
   |exit id=>exact through _ (by simp) hq harr
   |goto l=>exact through _ (by simp) hq harr
   |ret=>exact through _ (by simp) hq harr
   |panic ch=>exact through _ (by simp) hq harr
   |outgrown=>exact through _ (by simp) hq harr
 obtain⟨e,a',w',hq,harr⟩:=key n a w h0
 exact⟨e,a',w',hq,.of_steps (.one step_loop) harr⟩
theorem aPV {b:Code} {Q:Exit→Env→aB→Prop} (I:Nat→Env→aB→Prop) (hok:okC C.nG b=true)
  (step:∀n env H,I n env H→cB P C b env H fun ex e h=>match ex with
   |.normal=>∃n',n'<n∧I n' e h
   |ex=>Q ex e h) {n:Nat} {env:Env} {H:aB} (h0:I n env H):AWp P C (.loop b) env H Q:=by
 intro m w a h1 h2
 refine aK7 (I:=fun n a' w'=>∃m' e' H',Fwd C m w m' w' H'∧fG m' w' e' a'∧I n e' H') ?_ (n:=n) ⟨m,env,H,⟨List.prefix_refl m,Szs.refl w,h1⟩,h2,h0⟩
 rintro n a' w' ⟨m',e',H',k1,k2,k3⟩
 refine wp_mono (iV (step n e' H' k3) hok m' w' a' k1.rep k2) ?_
 rintro ex a2 w2 ⟨m2,e2,H2,q1,q2,q3⟩
 cases ex with
 |normal=>
  obtain⟨n',hlt,hI⟩:=q3
  exact⟨n',hlt,m2,e2,H2,k1.trans q1,q2,hI⟩
 |exit i=>exact⟨m2,e2,H2,k1.trans q1,q2,q3⟩
 |goto l=>exact⟨m2,e2,H2,k1.trans q1,q2,q3⟩
 |ret=>exact⟨m2,e2,H2,k1.trans q1,q2,q3⟩
 |panic ch=>exact⟨m2,e2,H2,k1.trans q1,q2,q3⟩
 |outgrown=>exact⟨m2,e2,H2,k1.trans q1,q2,q3⟩
def j5 (P:Program) (env:Env) (H:aB):List ResultVar→Option (List AV)
 |[]=>some []
 |.tmp t::r=>(j5 P env H r).map (env.getD t .any::·)
 |.cell p t::r=>(iE P t (env.getD p .any) H).bind fun c=>(j5 P env H r).map (c.1::·)
def oH:List AV→AV
 |[c]=>c
 |l=>.tup l
theorem zG {env:Env} {H:aB} {m:aX} {w:World} {a:Act} (hH:cE C m w H) (hE:fG m w env a) {g:ResultVar→Sem Value} (g1:∀t,g (.tmp t)=pure (a.tmps.getD t undef)) (g2:∀p t,g (.cell p t)=do loadVar t (←asAddr (a.tmps.getD p undef))):∀{l:List ResultVar} {cs:List AV},j5 P env H l=some cs→
  ∃vs:List Value,(l.mapM g).run P w=.ok vs w∧rels m w cs vs
 |[],cs,h=>by simp only[j5,Option.some.injEq] at h;subst h;exact⟨[],rfl,trivial⟩
 |.tmp t::l,cs,h=>by
  simp only[j5,Option.map_eq_some_iff] at h
  obtain⟨cs',h1,rfl⟩:=h
  obtain⟨vs,h2,h3⟩:=zG hH hE g1 g2 h1
  exact⟨a.tmps.getD t undef::vs,by rw[List.mapM_cons];simp only[Sem.run_bind,g1,Sem.run_pure,Result.andThen_ok,h2],hE.get t,h3⟩
 |.cell p t::l,cs,h=>by
  simp only[j5,Option.bind_eq_some_iff,Option.map_eq_some_iff] at h
  obtain⟨⟨c,Hc⟩,h0,cs',h1,rfl⟩:=h
  obtain⟨vs,h2,h3⟩:=zG hH hE g1 g2 h1
  have hp:=hE.get p
  obtain⟨_,u,h4,h5⟩:=aB5 h0 hH hp
  have h6:(g (.cell p t)).run P w=.ok u w:=by
   rw[g2]
   generalize env.getD p .any=x at h0 hp
   generalize a.tmps.getD p undef=y at h4 hp ⊢
   cases x with
   |ptr o off=>
    obtain⟨b,_,rfl⟩:=hp
    exact h4
   |_=>simp[iE] at h0
  exact⟨u::vs,by rw[List.mapM_cons,Sem.run_bind,h6,Result.andThen_ok,Sem.run_bind,h2];rfl,h5,h3⟩
theorem aO5 {f : FuncId} {fn : Func} {c : Code} {args : List AV} {H : aB} {R : AV → aB → Prop} (hf : P.funcs[f]? = some fn) (hb : fn.body = some c) (hn : (fn.name == "runtime.NumGoroutine") = false) (hok : okC C.nG c = true)
  (h:cB P C c (args++List.replicate (fn.ntmps-args.length) (.val undef)) H fun ex env' H'=>(ex=.normal∨ex=.ret)∧∃cs,j5 P env' H' fn.results.toList=some cs∧R (oH cs) H'):aH P C f args H R:=by
 refine⟨⟨fn,hf,hn,by rw[hb];rfl⟩,fun m w vals h1 h2=>calls_of_wp hf hb ?_⟩
 have hl:=gA h2
 have hrep:∀n,rels m w (List.replicate n (AV.val undef)) (List.replicate n undef):=fun n=>by
  induction n with
  |zero=>trivial
  |succ n ih=>exact⟨rfl,ih⟩
 have hE:fG m w (args++List.replicate (fn.ntmps-args.length) (.val undef)) {tmps:=vals++Array.replicate (fn.ntmps-vals.size) undef,defers:=[]}:=
  ⟨rfl,by simp only[Array.toList_append,Array.toList_replicate];refine oE h2 ?_;rw[hl];simpa using hrep _⟩
 refine wp_mono (iV h hok m w _ h1 hE) ?_
 rintro ex a' w' ⟨m',e',H',k1,k2,hex,cs,k3,k4⟩
 have hres:∃v,(results fn a'.tmps).run P w'=.ok v w'∧rel m' w' (oH cs) v:=by
  unfold results
  rw[Array.mapM_eq_mapM_toList,←bind_pure_comp]
  simp only[Sem.run_bind]
  have key:∀g:ResultVar→Sem Value,(∀t,g (.tmp t)=pure (a'.tmps.getD t undef))→(∀p t,g (.cell p t)=do loadVar t (←asAddr (a'.tmps.getD p undef)))→∃v,(((fn.results.toList.mapM g).run P w').andThen fun x w2=>(pure x.toArray:Sem (Array Value)).run P w2).andThen (fun x w2=>(pure (if h:x.size=1 then x[0] else .tuple x):Sem Value).run P w2)=.ok v w'∧rel m' w' (oH cs) v:=?_
  ·exact key _ (fun _=>rfl) (fun _ _=>rfl)
  intro g g1 g2
  obtain⟨vs,h3,h4⟩:=zG (P:=P) k1.rep k2 g1 g2 k3
  refine⟨if h:vs.toArray.size=1 then vs.toArray[0] else .tuple vs.toArray,?_,?_⟩
  ·rw[h3]
   rfl
  ·match cs,vs,h4 with
   |[c],[v],h4=>exact h4.1
   |[],[],h4=>exact⟨#[],rfl,trivial⟩
   |c::c'::cs,v::v'::vs,h4=>exact⟨(v::v'::vs).toArray,by simp,h4⟩
 obtain⟨v,h5,h6⟩:=hres
 have hpost:a'.defers=[]∧∃v,(results fn a'.tmps).run P w'=.ok v w'∧∃rv m' H' r,Ending.returned v=.returned rv∧Fwd C m w m' w' H'∧rel m' w' r rv∧R r H':=⟨k2.defers,v,h5,v,m',H',oH cs,rfl,k1,h6,k4⟩
 rcases hex with rfl|rfl
 ·exact hpost
 ·exact hpost
variable {P:Program} {C:dC}
def mk (e:Env) (l:List (Nat×AV)):Env:=l.foldr (fun p e=>e.set p.1 p.2) e
def get (e:Env) (k:Nat):AV:=e.getD k .any
def len (e:Env):Nat:=e.length
def look (l:List (Nat×AV)) (j:Nat) (d:AV):AV:=match l with
 |[]=>d
 |(k,v)::l=>if k=j then v else look l j d
theorem aDF (e:Env) (l:List (Nat×AV)):len (mk e l)=len e:=by
 induction l with
 |nil=>rfl
 |cons p l ih=>simpa [len,mk] using ih
theorem aI9 {e:Env} {l:List (Nat×AV)} {j:Nat} (h:j<len e):get (mk e l) j=look l j (get e j):=by
 induction l with
 |nil=>rfl
 |cons p l ih=>
  have hl:=aDF e l
  unfold len at hl h
  unfold look
  split
  ·rename_i hp
   subst hp
   have h2:p.1<(mk e l).length:=by rw[hl];exact h
   show ((mk e l).set p.1 p.2).getD p.1 .any=p.2
   simp[h2]
  ·rename_i hp
   rw[←ih]
   show ((mk e l).set p.1 p.2).getD j .any=(mk e l).getD j .any
   simp[List.getElem?_set_ne hp]
theorem aDG {j:Nat} {d:AV}:look [] j d=d:=rfl
theorem aFJ {l:List (Nat×AV)} {j:Nat} {v d:AV}:look ((j,v)::l) j d=v:=by simp[look]
theorem aFK {l:List (Nat×AV)} {k j:Nat} {v d:AV} (h:(k==j)=false):look ((k,v)::l) j d=look l j d:=by
 have:k≠j:=by simpa using h
 simp[look,this]
theorem aA (e:Env) (l:List (Nat×AV)) (k:Nat) (v:AV):setD (mk e l) (some k) v=mk e ((k,v)::l):=rfl
theorem bL (e:Env) (v:AV):setD e none v=e:=rfl
theorem aFL (e:Env) (t:Nat):opA e (.tmp t)=get e t:=rfl
theorem aCh (e:Env) (v:Value):opA e (.const v)=.val v:=rfl
theorem aAk (e:Env) (g:Nat):opA e (.global g)=.ptr g 0:=rfl
theorem aDH (e:Env) (f:Nat):opA e (.func f)=.fn (.func f) [] []:=rfl
def aBQ (P:Program) (C:dC) (b:Code) (Q:Exit→Env→aB→Prop):Exit→Env→aB→Prop:=fun ex e h=>match ex with
 |.normal=>cB P C b e h Q
 |ex=>Q ex e h
def lY (id:Nat) (Q:Exit→Env→aB→Prop):Exit→Env→aB→Prop:=fun ex e h=>match ex with
 |.exit i=>if i=id then Q .normal e h else Q (.exit i) e h
 |ex=>Q ex e h
def oI (Q:Exit→Env→aB→Prop):Env→aB→Prop:=fun e h=>Q .normal e h
def lT (c:AV) (P:Program) (C:dC) (a b:Code) (env:Env) (H:aB) (Q:Exit→Env→aB→Prop):Prop:=match c with
 |.val (.bool t)=>if t=true then cB P C a env H Q else cB P C b env H Q
 |_=>False
section
variable {env:Env} {H:aB} {Q:Exit→Env→aB→Prop} {a b:Code} {id i j:Nat}
theorem tO:cB P C .skip env H Q=Q .normal env H:=_root_.id rfl
theorem gD:cB P C (.seq a b) env H Q=cB P C a env H (aBQ P C b Q):=by
 rw[cB];rfl
theorem vJ {l:List Oper}:cB P C (.region id (List.toArray l) false) env H Q=bJ P C none (List.toArray l) l env H (oI Q):=by rw[cB,if_neg (by simp)];rfl
theorem bU {l:List Oper} (q:List Nat) (hm:P.follows .mixedOrders=true) (hok:oW q (List.toArray l)=true) (h:bJ P C (some q) (List.toArray l) l env H (oI Q)):cB P C (.region id (List.toArray l) true) env H Q:=by
 rw[cB,if_pos rfl];exact .inl ⟨hm,q,hok,h⟩
theorem bF {l:List Oper} (hm:P.follows .mixedOrders=true) (hok:oW [] (List.toArray l)=true) (h:bJ P C (some []) (List.toArray l) l env H (oI Q)):cB P C (.region id (List.toArray l) true) env H Q:=bU [] hm hok h
theorem aAl {c:Operand}:cB P C (.cond c a b) env H Q=lT (opA env c) P C a b env H Q:=by rw[cB];rfl
theorem rS:cB P C (.block id b) env H Q=cB P C b env H (lY id Q):=by
 rw[cB];rfl
theorem aAm:cB P C (.exit id) env H Q=Q (.exit id) env H:=_root_.id rfl
theorem aCi:cB P C .ret env H Q=Q .ret env H:=_root_.id rfl
theorem aAn:cB P C (.loop b) env H Q=AWp P C (.loop b) env H Q:=_root_.id rfl
theorem iW:aBQ P C b Q .normal env H=cB P C b env H Q:=_root_.id rfl
theorem aCj:aBQ P C b Q (.exit i) env H=Q (.exit i) env H:=_root_.id rfl
theorem aDI:aBQ P C b Q .ret env H=Q .ret env H:=_root_.id rfl
theorem xV:lY i Q .normal env H=Q .normal env H:=_root_.id rfl
theorem aDJ:lY i Q .ret env H=Q .ret env H:=_root_.id rfl
theorem aBR:lY i Q (.exit i) env H=Q .normal env H:=by simp[lY]
theorem aBS (h:(j==i)=false):lY i Q (.exit j) env H=Q (.exit j) env H:=by
 have:j≠i:=by simpa using h
 simp[lY,this]
theorem aDK:oI Q env H=Q .normal env H:=_root_.id rfl
end
section
variable {env:Env} {H:aB} {Q:Exit→Env→aB→Prop} {a b:Code} {c:Bool}
theorem aAo:lT (.val (.bool true)) P C a b env H Q=cB P C a env H Q:=by simp[lT]
theorem xW:lT (.val (.bool false)) P C a b env H Q=cB P C b env H Q:=by simp[lT]
theorem aF (h1:c=true→cB P C a env H Q) (h2:c=false→cB P C b env H Q):lT (.val (.bool c)) P C a b env H Q:=by cases c<;>simp_all [lT]
end
def gT (a:Ans) (P:Program) (C:dC) (d:Option (List Nat)) (ops:Array Oper) (rest:List Oper) (env:Env) (dst:Option Nat) (K:Env→aB→Prop):Prop:=match a with
 |some (r,H')=>bJ P C d ops rest (setD env dst r) H' K
 |none=>False
def eJ (a:Option AV) (H:aB) (P:Program) (C:dC) (d:Option (List Nat)) (ops:Array Oper) (rest:List Oper) (env:Env) (dst:Option Nat) (K:Env→aB→Prop):Prop:=match a with
 |some r=>bJ P C d ops rest (setD env dst r) H K
 |none=>False
def mP (a:Option aB) (P:Program) (C:dC) (d:Option (List Nat)) (ops:Array Oper) (rest:List Oper) (env:Env) (dst:Option Nat) (K:Env→aB→Prop):Prop:=match a with
 |some H'=>bJ P C d ops rest (setD env dst .any) H' K
 |none=>False
def gI (P:Program) (C:dC) (d:Option (List Nat)) (f:FuncId) (args:List AV) (H:aB) (ops:Array Oper) (rest:List Oper) (env:Env) (dst:Option Nat) (K:Env→aB→Prop):Prop:=
 jM P C d f args H fun r H'=>bJ P C d ops rest (setD env dst r) H' K
def gR (c:Option Bool) (P:Program) (C:dC) (d:Option (List Nat)) (ops:Array Oper) (o:Oper) (rest:List Oper) (env:Env) (H:aB) (K:Env→aB→Prop):Prop:=match c with
 |some true=>bJ P C d ops (o::rest) env H K
 |some false=>bJ P C d ops rest (setD env o.dst (.val undef)) H K
 |none=>False
def aDg (d:Option Tmp) (want:Bool) (env:Env):Option Bool:=match d with
 |some d=>match get env d with
  |.val (.bool b)=>some (b==want)
  |.val (.tuple _)=>some false
  |_=>none
 |none=>none
def aHT (x:AV) (want:Bool):Option Bool:=match x with
 |.val (.bool b)=>some (b==want)
 |.val (.tuple _)=>some false
 |_=>none
def aDh (c a b:AV):Option AV:=match c with
 |.val (.bool t)=>some (if t then a else b)
 |_=>none
def aK8 (x:AV):Option AV:=match x with
 |.ptr a b=>some (.ptr a b)
 |.fn (.func f) a c=>some (.fn (.func f) a c)
 |_=>none
def aAp (P:Program) (s:TypeId) (x:AV) (f:Nat):Option AV:=match x,fo P s f with
 |.ptr o off,some k=>some (.ptr o (off+k))
 |_,_=>none
def qX (P:Program) (t:TypeId) (x i:AV):Option AV:=(iN P t x i []).map (·.1)
def mQ (P:Program) (t:TypeId) (x:AV) (lo hi:Option AV):Option AV:=(lI P t x lo hi []).map (·.1)
def aAq (P:Program) (t:TypeId) (l:Option (List (Nat×List AV))):Option AV:=l.bind fun l=>(lG P t l []).map (·.1)
def xC (P:Program) (t:TypeId) (x:AV) (H:aB):Option AV:=(iE P t x H).map (·.1)
def aJa (z:Option (List Value)) (e:TypeId) (H:aB):Ans:=match z with
 |some zs=>if zs.all Value.oneCell' then some (.ptr H.length 0,H++[.own e (zs.map .val)]) else none
 |none=>none
def aK9 (e:TypeId) (x:AV) (H:aB):Ans:=(dS x).map fun l=>(.ptr H.length 0,H++[.own e l])
def unV (P:Program) (op:UnOp) (x:AV):Option AV:=(plain x).bind fun v=>(aT P (Op.unary op v)).map .val
def gU (P:Program) (s d:TypeId) (x:AV):Option AV:=(plain x).bind fun v=>(aT P (convert s d v)).map .val
def aAr (P:Program) (t:TypeId) (x:AV):Option AV:=match bH P t with
 |some false=>some (.ifc t x)
 |_=>none
def bsA (P:Program) (t n:Nat) (l:Option (List (Nat×List AV))) (H:aB):Ans:=l.bind fun l=>gW P t n l H
section
variable {d:Option (List Nat)} {ops:Array Oper} {rest:List Oper} {env:Env} {H H':aB} {K:Env→aB→Prop} {r:AV} {dst:Option Nat}
theorem aDL:bJ P C d ops [] env H K=K env H:=_root_.id rfl
section
variable {e:Env} {l:List (Nat×AV)} {k:Nat}
theorem aCk:gT (some (r,H')) P C d ops rest (mk e l) (some k) K=bJ P C d ops rest (mk e ((k,r)::l)) H' K:=_root_.id rfl
theorem aCl:eJ (some r) H P C d ops rest (mk e l) (some k) K=bJ P C d ops rest (mk e ((k,r)::l)) H K:=_root_.id rfl
theorem aDM:gT (some (r,H')) P C d ops rest env none K=bJ P C d ops rest env H' K:=_root_.id rfl
theorem aDN:eJ (some r) H P C d ops rest env none K=bJ P C d ops rest env H K:=_root_.id rfl
theorem aDO:mP (some H') P C d ops rest env none K=bJ P C d ops rest env H' K:=_root_.id rfl
end
variable {ty:TypeId} {p:String} {af:Array Edge}
theorem dF {o:Oper} (hg:o.guard=none) (hc:∀c,o.op=.call c→fH env c=none∧kQ P env c=none):bJ P C d ops (o::rest) env H K=gT (dK P o env H) P C d ops rest env o.dst K:=by
 rw[bJ]
 have hw:gG ops o env=some true:=by unfold gG;rw[hg]
 rw[hw]
 simp only
 split
 ·rename_i c ho
  rw[(hc c ho).1]
  simp only[(hc c ho).2]
  cases dK P o env H<;>rfl
 ·cases dK P o env H<;>rfl
theorem ofK {a a':Ans} (h:a=a'):gT a P C d ops rest env dst K=gT a' P C d ops rest env dst K:=by rw[h]
theorem ofV {x:Option AV} {a:Ans} (h:a=x.map fun c=>(c,H)):gT a P C d ops rest env dst K=eJ x H P C d ops rest env dst K:=by subst h;cases x<;>rfl
theorem ofH {x:Option aB} {a:Ans} (h:a=x.map fun H'=>(.any,H')):gT a P C d ops rest env dst K=mP x P C d ops rest env dst K:=by subst h;cases x<;>rfl
theorem zH {g:aB→Ans} (h:tJ g) (H:aB):g H=((g []).map (·.1)).map fun c=>(c,H):=by
 cases hg:g [] with
 |none=>cases hH:g H with
  |none=>rfl
  |some x=>
   have:=(h (r:=x.1) (H':=x.2) hH).2 []
   rw[hg] at this;cases this
 |some x=>rw[(h (r:=x.1) (H':=x.2) hg).2 H];rfl
theorem aPW {op:Op} {j:Nat} {w:Bool}:bJ P C d ops (⟨dst,op,ty,p,af,some (j,w)⟩::rest) env H K=gR (aDg ((ops[j]?).bind (·.dst)) w env) P C d ops ⟨dst,op,ty,p,af,none⟩ rest env H K:=by
 rw[bJ]
 have:gG ops ⟨dst,op,ty,p,af,some (j,w)⟩ env=aDg ((ops[j]?).bind (·.dst)) w env:=rfl
 rw[this]
 cases hw:aDg ((ops[j]?).bind (·.dst)) w env with
 |none=>rfl
 |some b=>cases b with
  |false=>rfl
  |true=>show _=bJ P C d ops (⟨dst,op,ty,p,af,none⟩::rest) env H K;rw[bJ];rfl
theorem aAs {k:Nat} {w:Bool}:aDg (some k) w env=aHT (get env k) w:=rfl
theorem aAt {b w:Bool}:aHT (.val (.bool b)) w=some (b==w):=rfl
theorem xX {w:Bool}:aHT (.val undef) w=some false:=rfl
theorem xY {o:Oper}:gR (some true) P C d ops o rest env H K=bJ P C d ops (o::rest) env H K:=_root_.id rfl
theorem vK {op:Op} {e:Env} {l:List (Nat×AV)} {k:Nat}:gR (some false) P C d ops ⟨some k,op,ty,p,af,none⟩ rest (mk e l) H K=bJ P C d ops rest (mk e ((k,.val undef)::l)) H K:=_root_.id rfl
theorem xZ {op:Op}:gR (some false) P C d ops ⟨none,op,ty,p,af,none⟩ rest env H K=bJ P C d ops rest env H K:=_root_.id rfl
theorem aFM {α:Type} {x:Option α} {f:α→Option Value}:(x.bind fun v=>(f v).map fun r=>(AV.val r,H))=(x.bind fun v=>(f v).map AV.val).map fun c=>(c,H):=by
 cases x with
 |none=>rfl
 |some v=>cases h:f v<;>simp[h]
theorem aCm {x:Operand}:bJ P C d ops (⟨dst,.move x,ty,p,af,none⟩::rest) env H K=eJ (some (opA env x)) H P C d ops rest env dst K:=by
 refine (dF rfl (by intro c h;cases h)).trans (ofV ?_)
 rfl
theorem yA {x:Operand}:bJ P C d ops (⟨dst,.assign x,ty,p,af,none⟩::rest) env H K=eJ (some (opA env x)) H P C d ops rest env dst K:=by
 refine (dF rfl (by intro c h;cases h)).trans (ofV ?_)
 rfl
theorem aCn {c x y:Operand}:bJ P C d ops (⟨dst,.pick c x y,ty,p,af,none⟩::rest) env H K=eJ (aDh (opA env c) (opA env x) (opA env y)) H P C d ops rest env dst K:=by
 refine (dF rfl (by intro c h;cases h)).trans (ofV ?_)
 show dK P _ env H=_;unfold dK aDh;simp only;split<;>simp_all
theorem uR {x:Operand}:bJ P C d ops (⟨dst,.nilCheck x,ty,p,af,none⟩::rest) env H K=eJ (aK8 (opA env x)) H P C d ops rest env dst K:=by
 refine (dF rfl (by intro c h;cases h)).trans (ofV ?_)
 show dK P _ env H=_;unfold dK aK8;simp only;split<;>simp_all
theorem aAu {op:BinOp} {t yt:TypeId} {x y:Operand}:bJ P C d ops (⟨dst,.binOp op t x y yt,ty,p,af,none⟩::rest) env H K=eJ (cH P op t x y (opA env x) (opA env y)) H P C d ops rest env dst K:=by
 refine (dF rfl (by intro c h;cases h)).trans (ofV ?_)
 rfl
theorem aCo {op:UnOp} {t:TypeId} {x:Operand}:bJ P C d ops (⟨dst,.unOp op t x,ty,p,af,none⟩::rest) env H K=eJ (unV P op (opA env x)) H P C d ops rest env dst K:=by
 refine (dF rfl (by intro c h;cases h)).trans (ofV ?_)
 exact aFM
theorem vL {s t:TypeId} {x:Operand}:bJ P C d ops (⟨dst,.convert s t x,ty,p,af,none⟩::rest) env H K=eJ (gU P s t (opA env x)) H P C d ops rest env dst K:=by
 refine (dF rfl (by intro c h;cases h)).trans (ofV ?_)
 exact aFM
theorem sG {t:TypeId} {x:Operand} {f:Nat}:bJ P C d ops (⟨dst,.fieldAddr t x f,ty,p,af,none⟩::rest) env H K=eJ (aAp P t (opA env x) f) H P C d ops rest env dst K:=by
 refine (dF rfl (by intro c h;cases h)).trans (ofV ?_)
 show jL P t (opA env x) f H=_;unfold jL aAp;split<;>simp_all
theorem sH {t:TypeId} {x y:Operand}:bJ P C d ops (⟨dst,.indexAddr t x y,ty,p,af,none⟩::rest) env H K=eJ (qX P t (opA env x) (opA env y)) H P C d ops rest env dst K:=by
 refine (dF rfl (by intro c h;cases h)).trans (ofV ?_)
 exact zH (tL _ _ _) H
theorem aAv {t:TypeId} {x:Operand} {lo hi:Option Operand}:bJ P C d ops (⟨dst,.slice t x lo hi none,ty,p,af,none⟩::rest) env H K=eJ (mQ P t (opA env x) (lo.map (opA env)) (hi.map (opA env))) H P C d ops rest env dst K:=by
 refine (dF rfl (by intro c h;cases h)).trans (ofV ?_)
 exact zH (tM _ _ _ _) H
theorem aAw {t:TypeId} {x y:Operand}:bJ P C d ops (⟨dst,.index t x y,ty,p,af,none⟩::rest) env H K=eJ (oU P t (opA env x) (opA env y)) H P C d ops rest env dst K:=by
 refine (dF rfl (by intro c h;cases h)).trans (ofV ?_)
 rfl
theorem vM {x:Operand} {k:Nat}:bJ P C d ops (⟨dst,.extract x k,ty,p,af,none⟩::rest) env H K=eJ (nO (opA env x) k) H P C d ops rest env dst K:=by
 refine (dF rfl (by intro c h;cases h)).trans (ofV ?_)
 rfl
theorem aAx {t:TypeId} {x:Operand} {k:Nat}:bJ P C d ops (⟨dst,.field t x k,ty,p,af,none⟩::rest) env H K=eJ (oV P t (opA env x) k) H P C d ops rest env dst K:=by
 refine (dF rfl (by intro c h;cases h)).trans (ofV ?_)
 rfl
theorem oX {t:TypeId} {x:Operand}:bJ P C d ops (⟨dst,.makeInterface t x,ty,p,af,none⟩::rest) env H K=eJ (aAr P t (opA env x)) H P C d ops rest env dst K:=by
 refine (dF rfl (by intro c h;cases h)).trans (ofV ?_)
 show dK P _ env H=_;unfold dK aAr;simp only;split<;>simp_all
theorem uS {f:Fn} {l l':List Operand}:bJ P C d ops (⟨dst,.makeFunc f (List.toArray l) (List.toArray l'),ty,p,af,none⟩::rest) env H K=eJ (some (.fn f (l.map (opA env)) (l'.map (opA env)))) H P C d ops rest env dst K:=by
 refine (dF rfl (by intro c h;cases h)).trans (ofV ?_)
 rfl
theorem aAy {t:TypeId} {l:List (Nat×Operand)}:bJ P C d ops (⟨dst,.build t (List.toArray l),ty,p,af,none⟩::rest) env H K=eJ (aAq P t (hZ env l)) H P C d ops rest env dst K:=by
 refine (dF rfl (by intro c h;cases h)).trans (ofV ?_)
 show ((hZ env l).bind fun r=>lG P t r H)=_;unfold aAq;cases hZ env l with
 |none=>rfl
 |some l'=>exact zH (tK _ _) H
theorem aCp {t:TypeId} {x:Operand}:bJ P C d ops (⟨dst,.load t x,ty,p,af,none⟩::rest) env H K=eJ (xC P t (opA env x) H) H P C d ops rest env dst K:=by
 refine (dF rfl (by intro c h;cases h)).trans (ofV ?_)
 show iE P t (opA env x) H=_;unfold xC;cases h:iE P t (opA env x) H with
 |none=>rfl
 |some r=>have:=pJ (r:=r.1) (H':=r.2) h;simp only[Option.map_some,←this]
theorem yB {t:TypeId} {x y:Operand} {ok:Bool}:bJ P C d ops (⟨dst,.lookup t x y ok,ty,p,af,none⟩::rest) env H K=eJ (gF P t (opA env x) (opA env y) ok H) H P C d ops rest env dst K:=by
 refine (dF rfl (by intro c h;cases h)).trans (ofV ?_)
 rfl
theorem aAz {e:TypeId}:bJ P C d ops (⟨dst,.alloc e,ty,p,af,none⟩::rest) env H K=gT (aJa (zc P e) e H) P C d ops rest env dst K:=by
 refine (dF rfl (by intro c h;cases h)).trans (ofK ?_)
 rfl
theorem aDP {e:TypeId} {x:Operand}:bJ P C d ops (⟨dst,.box e x,ty,p,af,none⟩::rest) env H K=gT (aK9 e (opA env x) H) P C d ops rest env dst K:=by
 refine (dF rfl (by intro c h;cases h)).trans (ofK ?_)
 rfl
theorem qY {t n:Nat} {l:List (Nat×Operand)}:bJ P C d ops (⟨dst,.buildSlice t n (List.toArray l),ty,p,af,none⟩::rest) env H K=gT (bsA P t n (hZ env l) H) P C d ops rest env dst K:=by
 refine (dF rfl (by intro c h;cases h)).trans (ofK ?_)
 rfl
theorem sI {t:TypeId} {x y:Operand}:bJ P C d ops (⟨dst,.makeSlice t x y,ty,p,af,none⟩::rest) env H K=gT (fS P t (opA env x) (opA env y) H) P C d ops rest env dst K:=by
 refine (dF rfl (by intro c h;cases h)).trans (ofK ?_)
 rfl
theorem vN {t:TypeId}:bJ P C d ops (⟨dst,.makeMap t none,ty,p,af,none⟩::rest) env H K=gT (some (.mp H.length,H++[.map []])) P C d ops rest env dst K:=by
 refine (dF rfl (by intro c h;cases h)).trans (ofK ?_)
 rfl
theorem aAA {t:TypeId} {x y:Operand}:bJ P C d ops (⟨dst,.store t x y,ty,p,af,none⟩::rest) env H K=mP (oR P t (opA env x) (opA env y) H) P C d ops rest env dst K:=by
 refine (dF rfl (by intro c h;cases h)).trans (ofH ?_)
 rfl
theorem yC {t:TypeId} {x y z:Operand}:bJ P C d ops (⟨dst,.insert t x y z,ty,p,af,none⟩::rest) env H K=mP (jY P t (opA env x) (opA env y) (opA env z) H) P C d ops rest env dst K:=by
 refine (dF rfl (by intro c h;cases h)).trans (ofH ?_)
 rfl
theorem sJ {t:TypeId} {x y z:Operand}:bJ P C d ops (⟨dst,.mapUpdate t x y z,ty,p,af,none⟩::rest) env H K=mP (jY P t (opA env x) (opA env y) (opA env z) H) P C d ops rest env dst K:=by
 refine (dF rfl (by intro c h;cases h)).trans (ofH ?_)
 rfl
theorem aDQ {x:Operand} {t:TypeId}:bJ P C d ops (⟨dst,.call ⟨.builtin .len,List.toArray [x],List.toArray [t]⟩,ty,p,af,none⟩::rest) env H K=eJ (aDv P t (opA env x)) H P C d ops rest env dst K:=by
 refine (dF rfl (by intro c h;cases h;exact⟨rfl,rfl⟩)).trans (ofV ?_)
 rfl
theorem yD {x y:Operand} {t:TypeId}:bJ P C d ops (⟨dst,.call ⟨.builtin .append,List.toArray [x,y],List.toArray [t,t]⟩,ty,p,af,none⟩::rest) env H K=gT (cW P t (opA env x) (opA env y) H) P C d ops rest env dst K:=by
 refine (dF rfl (by intro c h;cases h;exact⟨rfl,rfl⟩)).trans (ofK ?_)
 show fE P .append ty [opA env x,opA env y] (List.toArray [t,t]) H=_;unfold fE;simp
theorem aCq {f:Nat} {l:List Operand} {ts:Array TypeId}:bJ P C d ops (⟨dst,.call ⟨.value (.func f),List.toArray l,ts⟩,ty,p,af,none⟩::rest) env H K=gI P C d f (l.map (opA env)) H ops rest env dst K:=by
 rw[bJ]
 simp only[gG,fH,opA,List.nil_append,List.append_nil]
 rfl
def aDi (P:Program) (C:dC) (d:Option (List Nat)) (x:AV) (args:List AV) (H:aB) (ops:Array Oper) (rest:List Oper) (env:Env) (dst:Option Nat) (K:Env→aB→Prop):Prop:=match x with
 |.fn (.func f) fi ca=>gI P C d f (fi++args++ca) H ops rest env dst K
 |_=>False
theorem aDR {f:Nat} {fi ca args:List AV}:aDi P C d (.fn (.func f) fi ca) args H ops rest env dst K=gI P C d f (fi++args++ca) H ops rest env dst K:=_root_.id rfl
theorem aAB {t:Nat} {l:List Operand} {ts:Array TypeId}:bJ P C d ops (⟨dst,.call ⟨.value (.tmp t),List.toArray l,ts⟩,ty,p,af,none⟩::rest) env H K=aDi P C d (get env t) (l.map (opA env)) H ops rest env dst K:=by
 rw[bJ]
 have e:opA env (.tmp t)=get env t:=rfl
 simp only[gG,fH,kQ,e,dK]
 generalize get env t=x
 cases x with
 |fn f fi ca=>cases f<;>rfl
 |_=>rfl
def aAC (P:Program) (C:dC) (m:Option FuncId) (args:List AV) (H:aB) (ops:Array Oper) (rest:List Oper) (env:Env) (dst:Option Nat) (K:Env→aB→Prop):Prop:=match m with
 |some f=>gI P C none f args H ops rest env dst K
 |none=>False
theorem aAD {f:Nat} {args:List AV}:aAC P C (some f) args H ops rest env dst K=gI P C none f args H ops rest env dst K:=_root_.id rfl
def aAE (P:Program) (C:dC) (x:AV) (name:String) (args:List AV) (H:aB) (ops:Array Oper) (rest:List Oper) (env:Env) (dst:Option Nat) (K:Env→aB→Prop):Prop:=match x with
 |.ifc t a=>aAC P C (rQ P t name) (a::args) H ops rest env dst K
 |_=>False
theorem aCr {t:TypeId} {a:AV} {name:String} {args:List AV}:aAE P C (.ifc t a) name args H ops rest env dst K=aAC P C (rQ P t name) (a::args) H ops rest env dst K:=_root_.id rfl
theorem yE {x:Operand} {name:String} {l:List Operand} {ts:Array TypeId}:bJ P C none ops (⟨dst,.call ⟨.invoke x name,List.toArray l,ts⟩,ty,p,af,none⟩::rest) env H K=aAE P C (opA env x) name (l.map (opA env)) H ops rest env dst K:=by
 rw[bJ]
 simp only[gG,fH,kQ,dK]
 unfold aAE
 cases opA env x with
 |ifc t a=>
  simp only
  cases rQ P t name with
  |none=>rfl
  |some f=>simp only[Option.map_some,true_and];rfl
 |_=>rfl
def aDS (u:Option TypeDesc) (x:Option Nat) (P:Program) (C:dC) (ops:Array Oper) (rest:List Oper) (env:Env) (dst:Option Nat) (H:aB) (K:Env→aB→Prop):Prop:=match u,x with
 |some (.slice _),some n=>∀k:Nat,n≤k→k≤9223372036854775807→bJ P C none ops rest (setD env dst (.val (.int .i64 k))) H K
 |_,_=>False
theorem aDT {x:Operand} {t:TypeId}:bJ P C none ops (⟨dst,.call ⟨.builtin .cap,List.toArray [x],List.toArray [t]⟩,ty,p,af,none⟩::rest) env H K=aDS (P.underlying t) (tH (opA env x)) P C ops rest env dst H K:=by
 rw[bJ]
 simp only[gG,fH,kQ,dK,List.map_cons,List.map_nil,fE]
 generalize P.underlying t=u
 generalize tH (opA env x)=y
 unfold aDS
 cases u with
 |none=>rfl
 |some u=>
  cases u with
  |slice e=>cases y<;>simp
  |_=>rfl
theorem aDU {own:Bool} {o off n st:Nat}:tH (.sl own o off n st)=some n:=rfl
theorem aCs:tH (.val (.slice none 0 0))=some 0:=rfl
theorem aCt {e':TypeId} {n:Nat} {e:Env} {l:List (Nat×AV)} {k:Nat}:aDS (some (.slice e')) (some n) P C ops rest (mk e l) (some k) H K=∀c:Nat,n≤c→c≤9223372036854775807→bJ P C none ops rest (mk e ((k,.val (.int .i64 c))::l)) H K:=_root_.id rfl
def aDV (d:Option (List Nat)) (f:FuncId):Bool:=match d with
 |none=>false
 |some q=>q.contains f
theorem aG {f:FuncId} {args:List AV} {r:AV} (h:aH P C f args H fun r' H2=>r'=r∧H2=H') (hp:H <+: H') (hk:bJ P C d ops rest (setD env dst r) H' K) (hq:aDV d f=false:=by rfl):gI P C d f args H ops rest env dst K:=by
 unfold gI jM
 cases d with
 |none=>exact h.mono fun r' H2 ⟨e1,e2⟩=>e1▸e2▸hk
 |some q=>
  have hq':q.contains f=false:=hq
  exact .inl ⟨r,H',h,hp,fun (e:q.contains f=true)=>absurd e (by rw[hq'];simp),hk⟩
theorem aS {f:FuncId} {args:List AV} {r:AV} (h:∀G,aH P C f args (H++G) fun r' H2=>r'=r∧H2=H++G) (hk:bJ P C d ops rest (setD env dst r) H K):gI P C d f args H ops rest env dst K:=by
 have h0:aH P C f args H fun r' H2=>r'=r∧H2=H:=by have:=h [];rwa [List.append_nil] at this
 unfold gI jM
 cases d with
 |none=>exact h0.mono fun r' H2 ⟨e1,e2⟩=>e1▸e2▸hk
 |some q=>exact .inl ⟨r,H,h0,List.prefix_refl _,fun _=>⟨rfl,h⟩,hk⟩
theorem kR {f:FuncId} {args:List AV} {R:AV→aB→Prop} (h:aH P C f args H R) (hg:∀r H',R r H'→H <+: H') (hne:∃r H',R r H') (hk:∀r H',R r H'→bJ P C d ops rest (setD env dst r) H' K) (hq:aDV d f=false:=by rfl):gI P C d f args H ops rest env dst K:=by
 unfold gI jM
 cases d with
 |none=>exact h.mono hk
 |some q=>exact .inr ⟨hq,R,h,hg,hne,hk⟩
theorem aI {f:FuncId} {args:List AV} {R:AV→aB→Prop} (h:aH P C f args H R) (hk:∀r H',R r H'→bJ P C none ops rest (setD env dst r) H' K):gI P C none f args H ops rest env dst K:=h.mono hk
end
section
variable {d:Option (List Nat)} {ops:Array Oper} {rest:List Oper} {env:Env} {H:aB} {K:Env→aB→Prop} {dst:Option Nat} {c:Code} {Q:Exit→Env→aB→Prop}
@[congr] theorem condK_cg {x y:AV} {a b:Code} (h:x=y):lT x P C a b env H Q=lT y P C a b env H Q:=by rw[h]
@[congr] theorem guardK_cg {x y:Option Bool} {o:Oper} (h:x=y):gR x P C d ops o rest env H K=gR y P C d ops o rest env H K:=by rw[h]
@[congr] theorem bindK_cg {x y:Ans} (h:x=y):gT x P C d ops rest env dst K=gT y P C d ops rest env dst K:=by rw[h]
@[congr] theorem bindV_cg {x y:Option AV} (h:x=y):eJ x H P C d ops rest env dst K=eJ y H P C d ops rest env dst K:=by rw[h]
@[congr] theorem bindH_cg {x y:Option aB} (h:x=y):mP x P C d ops rest env dst K=mP y P C d ops rest env dst K:=by rw[h]
@[congr] theorem callX_cg {f:FuncId} {x y:List AV} (h:x=y):gI P C d f x H ops rest env dst K=gI P C d f y H ops rest env dst K:=by rw[h]
end
variable {P:Program} {C:dC}
def dT (ops:Array Oper) (L:List Nat):List Oper:=L.filterMap (ops[·]?)
theorem aO6 {A B:List Nat} {i j k:Nat} (hj:j≠i) (hk:k≠i) (hjm:j∈A++B) (h:(A++B).idxOf j<(A++B).idxOf k):(A++i::B).idxOf j<(A++i::B).idxOf k:=by
 rw[List.idxOf_append,List.idxOf_append] at h ⊢
 have hij:(i==j)=false:=by simpa using fun e=>hj e.symm
 have hik:(i==k)=false:=by simpa using fun e=>hk e.symm
 rw[List.idxOf_cons,List.idxOf_cons,hij,hik]
 simp only[cond_false]
 by_cases h1:j∈A
 ·rw[if_pos h1] at h ⊢
  have:=List.idxOf_lt_length_of_mem h1
  split
  ·rename_i h2;rw[if_pos h2] at h;exact h
  ·omega
 ·rw[if_neg h1] at h ⊢
  split
  ·rename_i h2
   rw[if_pos h2] at h
   have:=List.idxOf_lt_length_of_mem h2
   omega
  ·rename_i h2
   rw[if_neg h2] at h
   omega
theorem rT {q:List Nat} {ops:Array Oper} (hops:ops.toList.all (iU C.nG)=true) {K:Env→aB→Prop} {Q:Exit→Act→World→Prop} {m0:aX} {w0:World} (T:List Nat) (hQ:∀m' w' a' env' H',Fwd C m0 w0 m' w' H'→fG m' w' env' a'→K env' H'→wpOps P ops Q T a' w') :
  ∀(σ L:List Nat) (m:aX) (w:World) (a:Act) (env:Env) (H:aB),σ.Nodup→L.Perm σ→(∀i∈σ,i<ops.size)→
   (∀i j oi oj,i∈σ→j∈σ→ops[i]?=some oi→ops[j]?=some oj→j6 q ops oi oj=true→L.idxOf j<L.idxOf i→σ.idxOf j<σ.idxOf i)→
   Fwd C m0 w0 m w H→fG m w env a→bJ P C (some q) ops (dT ops L) env H K→wpOps P ops Q (σ++T) a w
 |[],L,m,w,a,env,H,_,hp,_,_,hH,hE,h=>by
  have hL:L=[]:=List.Perm.eq_nil hp
  subst hL
  exact hQ m w a env H hH hE h
 |i::σ,L,m,w,a,env,H,hn,hp,hb,ho,hH,hE,h=>by
  have hiL:i∈L:=hp.mem_iff.2 (List.mem_cons_self ..)
  obtain⟨A,B,rfl⟩:=List.append_of_mem hiL
  have hnL:(A++i::B).Nodup:=hp.nodup_iff.2 hn
  have hpm:(A++B).Perm σ:=by
   have:(i::(A++B)).Perm (i::σ):=(List.perm_middle.symm).trans hp
   exact List.Perm.cons_inv this
  have hiσ:i∉σ:=(List.nodup_cons.1 hn).1
  have hnσ:σ.Nodup:=(List.nodup_cons.1 hn).2
  have hiA:i∉A++B:=fun hm=>hiσ (hpm.mem_iff.1 hm)
  have hlt:=hb i (List.mem_cons_self ..)
  have hoi:ops[i]?=some ops[i]:=Array.getElem?_eq_getElem hlt
  generalize ops[i]=oi at hoi
  have hoks:∀o:Oper,(∃j:Nat,ops[j]?=some o)→iU C.nG o=true:=fun o ⟨j,hj⟩=>List.all_eq_true.1 hops o (by rw[Array.mem_toList_iff];exact Array.mem_of_getElem? hj)
  have hsplit:dT ops (A++i::B)=dT ops A++oi::dT ops B:=by
   unfold dT
   rw[List.filterMap_append,List.filterMap_cons,hoi]
  rw[hsplit] at h
  have hmem:∀oj∈dT ops A,∃j,j∈A∧ops[j]?=some oj:=fun oj hoj=>by
   obtain⟨j,h1,h2⟩:=List.mem_filterMap.1 hoj
   exact⟨j,h1,h2⟩
  have hi0:(i::σ).idxOf i=0:=by rw[List.idxOf_cons];simp
  have h1:=tN (fun oj hoj=>by
   obtain⟨j,j1,j2⟩:=hmem oj hoj
   cases hm:j6 q ops oi oj with
   |false=>rfl
   |true=>
    exfalso
    have hjσ:j∈i::σ:=hp.mem_iff.1 (List.mem_append_left _ j1)
    have hlt2:(A++i::B).idxOf j<(A++i::B).idxOf i:=by
     rw[List.idxOf_append,List.idxOf_append,if_pos j1,if_neg (fun hm=>hiA (List.mem_append_left _ hm))]
     have:=List.idxOf_lt_length_of_mem j1
     omega
    have:=ho i j oi oj (List.mem_cons_self ..) hjσ hoi j2 hm hlt2
    omega) (aBN.ptr ⟨m,w,a,hH.rep,hE⟩ (hoks oi ⟨i,hoi⟩)) h
  rw[List.cons_append,wpOps_cons]
  refine xU h1 (hoks oi ⟨i,hoi⟩) hH.rep hE hoi fun m' w' a' r H' e1 e2 h2=>rT hops T hQ σ (A++B) m' w' a' _ H' hnσ hpm (fun j hj=>hb j (List.mem_cons_of_mem _ hj)) ?_ (hH.trans e1) e2 (by
   have:dT ops (A++B)=dT ops A++dT ops B:=by unfold dT;rw[List.filterMap_append]
   rw[this];exact h2)
  intro k j ok oj hk hj hok hoj hm hlt3
  have hki:k≠i:=fun e=>hiσ (e▸hk)
  have hji:j≠i:=fun e=>hiσ (e▸hj)
  have h4:=ho k j ok oj (List.mem_cons_of_mem _ hk) (List.mem_cons_of_mem _ hj) hok hoj hm (aO6 hji hki (hpm.mem_iff.2 hj) hlt3)
  rw[List.idxOf_cons,List.idxOf_cons] at h4
  have e1:(i==j)=false:=by simpa using fun e=>hji e.symm
  have e2:(i==k)=false:=by simpa using fun e=>hki e.symm
  rw[e1,e2] at h4
  simp only[cond_false] at h4
  omega
structure aHU (ops:Array Oper) (σ:List Nat):Prop where
 nodup:σ.Nodup
 mem:∀i,i∈σ↔i<ops.size
 edge:∀i o,ops[i]?=some o→∀e∈o.after,Region.binds .any e=true→σ.idxOf e.on<σ.idxOf i
def pN (ops:Array Oper):Bool:=(List.range ops.size).all fun i=>match ops[i]? with
 |none=>true
 |some o=>o.after.toList.all fun e=>!Region.binds .any e||decide (e.on<i)
theorem aHV {ops:Array Oper} (h:pN ops=true) {i:Nat} {o:Oper} (hi:ops[i]?=some o):∀e∈o.after,Region.binds .any e=true→e.on<i:=by
 intro e he hb
 have hlt:i<ops.size:=(Array.getElem?_eq_some_iff.1 hi).1
 unfold pN at h
 have h1:=List.all_eq_true.1 h i (List.mem_range.2 hlt)
 simp only[hi,List.all_eq_true,Bool.or_eq_true,Bool.not_eq_true',decide_eq_true_eq] at h1
 rcases h1 e (by simpa using he) with h2|h2
 ·rw[hb] at h2;cases h2
 ·exact h2
theorem aHW {ops:Array Oper} {listed:Array Bool} (hok:pN ops=true) (hs:listed.size=ops.size) (hr:Region.ready .any ops listed=[]):∀i,i<ops.size→listed.getD i true=true:=by
 intro i
 induction i using Nat.strongRecOn with
 |_ i ih=>
  intro hi
  cases hl:listed.getD i true with
  |true=>rfl
  |false=>
   exfalso
   have hmem:i∈Region.ready .any ops listed:=by
    rw[mem_ready]
    have ho:ops[i]?=some ops[i]:=Array.getElem?_eq_getElem hi
    refine⟨hl,_,ho,fun e he hb=>?_⟩
    have hlt:=aHV hok ho e he hb
    have h1:=ih e.on hlt (by omega)
    have hb2:e.on<listed.size:=by omega
    simpa [Array.getD,hb2] using h1
   rw[hr] at hmem
   cases hmem
theorem aDW {ops:Array Oper} (hok:pN ops=true):∀(fuel t:Nat) (listed:Array Bool),listed.size=ops.size→(gQ ops.size listed).length≤fuel→
  (Region.linearise.go .any ops fuel t listed []).Nodup∧(∀i,i∈Region.linearise.go .any ops fuel t listed []↔i<ops.size∧listed.getD i true=false)∧
   ∀i o,i∈Region.linearise.go .any ops fuel t listed []→ops[i]?=some o→∀e∈o.after,Region.binds .any e=true→listed.getD e.on false=true∨(Region.linearise.go .any ops fuel t listed []).idxOf e.on<(Region.linearise.go .any ops fuel t listed []).idxOf i
 |0,t,listed,hs,hf=>by
  have h0:gQ ops.size listed=[]:=List.eq_nil_of_length_eq_zero (by omega)
  have e0:Region.linearise.go .any ops 0 t listed []=[]:=by simp[Region.linearise.go]
  rw[e0]
  refine⟨List.nodup_nil,fun i=>⟨fun h=>(by cases h),fun h=>?_⟩,fun i o hi=>(by cases hi)⟩
  exfalso
  have:i∈gQ ops.size listed:=List.mem_filter.2 ⟨List.mem_range.2 h.1,by rw[h.2];rfl⟩
  rw[h0] at this
  cases this
 |fuel+1,t,listed,hs,hf=>by
  have key:Region.linearise.go .any ops (fuel+1) t listed []=match (Region.ready .any ops listed)[t%(Region.ready .any ops listed).length]? with
    |some i=>Region.linearise.go .any ops fuel (t/(Region.ready .any ops listed).length) (listed.setIfInBounds i true) [i]
    |none=>[]:=rfl
  cases hi:(Region.ready .any ops listed)[t%(Region.ready .any ops listed).length]? with
  |none=>
   have hnil:Region.ready .any ops listed=[]:=by
    cases hr:Region.ready .any ops listed with
    |nil=>rfl
    |cons x xs=>
     rw[hr] at hi
     have hlt:t%(x::xs).length<(x::xs).length:=Nat.mod_lt _ (by simp)
     simp at hi
     simp at hlt
     omega
   rw[key,hi]
   simp only
   refine⟨List.nodup_nil,fun i=>⟨fun h=>(by cases h),fun h=>?_⟩,fun i o hi=>(by cases hi)⟩
   have:=aHW hok hs hnil i h.1
   rw[this] at h
   cases h.2
  |some i=>
   obtain⟨k1,oi,k2,k3⟩:=mem_ready.1 (List.mem_of_getElem? hi)
   have hlt:i<ops.size:=(Array.getElem?_eq_some_iff.1 k2).1
   have hs':(listed.setIfInBounds i true).size=ops.size:=by simp[hs]
   have hf':(gQ ops.size (listed.setIfInBounds i true)).length≤fuel:=by
    obtain⟨A',B',p1,p2,_⟩:=qD hlt k1 hs
    rw[p2];rw[p1] at hf
    simp only[List.length_append,List.length_cons] at hf ⊢
    omega
   obtain⟨h1,h2,h3⟩:=aDW hok fuel (t/(Region.ready .any ops listed).length) (listed.setIfInBounds i true) hs' hf'
   rw[key,hi]
   simp only
   rw[linearise_go_acc,List.reverse_singleton,List.singleton_append]
   generalize Region.linearise.go .any ops fuel (t/(Region.ready .any ops listed).length) (listed.setIfInBounds i true) []=σ at *
   have hset:∀j,(listed.setIfInBounds i true).getD j true=false↔j≠i∧listed.getD j true=false:=by
    intro j
    by_cases hj:i=j
    ·subst hj
     have:(listed.setIfInBounds i true).getD i true=true:=by simp[hs,hlt]
     rw[this]
     simp
    ·rw[getD_set_ne true hj]
     exact⟨fun h=>⟨fun e=>hj e.symm,h⟩,fun h=>h.2⟩
   have hni:i∉σ:=fun hm=>((hset i).1 ((h2 i).1 hm).2).1 rfl
   refine⟨List.nodup_cons.2 ⟨hni,h1⟩,fun j=>?_,fun j o hj hoj e he hb=>?_⟩
   ·rw[List.mem_cons,h2,hset]
    constructor
    ·rintro (rfl|⟨a,b,c⟩)
     ·exact⟨hlt,k1⟩
     ·exact⟨a,c⟩
    ·rintro ⟨a,b⟩
     by_cases hj:j=i
     ·exact .inl hj
     ·exact .inr ⟨a,hj,b⟩
   ·rcases List.mem_cons.1 hj with rfl|hj
    ·rw[k2] at hoj
     cases hoj
     exact .inl (k3 e he hb)
    ·have hji:j≠i:=fun e=>hni (e▸hj)
     have eij:(i==j)=false:=by simpa using fun e=>hji e.symm
     by_cases hei:e.on=i
     ·right
      rw[List.idxOf_cons,List.idxOf_cons,hei,eij]
      simp
     ·have eie:(i==e.on)=false:=by simpa using fun e=>hei e.symm
      rcases h3 j o hj hoj e he hb with h4|h4
      ·left
       rwa [getD_set_ne false (fun e=>hei e.symm)] at h4
      ·right
       rw[List.idxOf_cons,List.idxOf_cons,eij,eie]
       simp only[cond_false]
       omega
theorem aDX {ops:Array Oper} (hok:pN ops=true) (t:Nat):aHU ops (Region.linearise .any ops t):=by
 have hr:∀i,i<ops.size→(Array.replicate ops.size false).getD i true=false:=fun i hi=>by simp[Array.getD,hi]
 have hr2:∀i,(Array.replicate ops.size false).getD i false=false:=fun i=>by
  rcases Nat.lt_or_ge i ops.size with hlt|hlt<;>simp[Array.getD,hlt]
 obtain⟨h1,h2,h3⟩:=aDW hok ops.size t (Array.replicate ops.size false) (by simp) (by rw[qE];simp)
 have e:Region.linearise .any ops t=Region.linearise.go .any ops ops.size t (Array.replicate ops.size false) []:=rfl
 rw[e]
 refine⟨h1,fun i=>⟨fun h=>((h2 i).1 h).1,fun h=>(h2 i).2 ⟨h,hr i h⟩⟩,fun i o hi ed he hb=>?_⟩
 rcases h3 i o ((h2 i).2 ⟨(Array.getElem?_eq_some_iff.1 hi).1,hr i (Array.getElem?_eq_some_iff.1 hi).1⟩) hi ed he hb with h4|h4
 ·rw[hr2] at h4;cases h4
 ·exact h4
structure aJb (q:List Nat) (ops:Array Oper) (L σ:List Nat):Prop where
 perm:L.Perm σ
 ord:∀i j oi oj,i∈σ→j∈σ→ops[i]?=some oi→ops[j]?=some oj→j6 q ops oi oj=true→L.idxOf j<L.idxOf i→σ.idxOf j<σ.idxOf i
theorem aO7 {id:Nat} {q:List Nat} {ops:Array Oper} {env:Env} {H:aB} {Q:Exit→Env→aB→Prop} (hm:P.follows .mixedOrders=true) (hok:pN ops=true) (hops:ops.toList.all (iU C.nG)=true)
  (h:∀σ,aHU ops σ→∃L,aJb q ops L σ∧bJ P C (some q) ops (dT ops L) env H fun e h=>Q .normal e h):AWp P C (.region id ops true) env H Q:=by
 intro m w a hH hE
 refine wp_region_draw fun t=>?_
 have es:Region.schedule (P.follows .mixedOrders) ops t=Region.linearise .any ops t:=by simp only[Region.schedule,hm,Bool.true_or,if_true]
 rw[es]
 have ht:=aDX hok t
 generalize Region.linearise .any ops t=σ at ht
 obtain⟨L,hc,ha⟩:=h σ ht
 have hH1:cE C m {w with drawn:=w.drawn+1} H:=hH.drewN 1
 have key:=rT hops (m0:=m) (w0:={w with drawn:=w.drawn+1}) (Q:=aK5 C Q m w) [] (fun m' w' a' env' H' k1 k2 k3=>⟨m',env',H',⟨k1.pre,(kB w 1).trans k1.szs,k1.rep⟩,k2,k3⟩) σ L m _ a env H ht.nodup hc.perm (fun i hi=>(ht.mem i).1 hi) hc.ord ⟨List.prefix_refl m,Szs.refl _,hH1⟩ (hE.more (List.prefix_refl m) (kB w 1)) ha
 rwa [List.append_nil] at key
theorem pO {ops:Array Oper} {σ:List Nat} (ht:aHU ops σ):∀(k i j:Nat),j7 ops k i j=true→σ.idxOf j<σ.idxOf i
 |0,i,j,h=>by simp[j7] at h
 |k+1,i,j,h=>by
  unfold j7 at h
  cases ho:ops[i]? with
  |none=>rw[ho] at h;cases h
  |some o=>
   rw[ho] at h
   simp only[Bool.or_eq_true,List.any_eq_true,Bool.and_eq_true,decide_eq_true_eq,beq_iff_eq] at h
   rcases h with ⟨e,he,h1,h2⟩|⟨e,he,⟨h1,h2⟩,h3⟩
   ·rw[←h2];exact ht.edge i o ho e (by simpa using he) h1
   ·have h4:=pO ht k e.on j h3
    have h5:=ht.edge i o ho e (by simpa using he) h1
    omega
def aDj (q:List Nat) (ops:Array Oper) (L:List Nat) (E:List (Nat×Nat)):Bool:=
 L.isPerm (List.range ops.size)&&(List.range ops.size).all fun i=>(List.range ops.size).all fun j=>match ops[i]?,ops[j]? with
  |some oi,some oj=>!(decide (L.idxOf j<L.idxOf i))||!j6 q ops oi oj||j7 ops ops.size i j||E.contains (j,i)
  |_,_=>true
theorem aCu {q:List Nat} {ops:Array Oper} {L σ:List Nat} {E:List (Nat×Nat)} (h:aDj q ops L E=true) (ht:aHU ops σ) (hE:∀p∈E,σ.idxOf p.1<σ.idxOf p.2):aJb q ops L σ:=by
 unfold aDj at h
 rw[Bool.and_eq_true] at h
 obtain⟨h1,h2⟩:=h
 have hp:L.Perm (List.range ops.size):=List.isPerm_iff.1 h1
 refine⟨hp.trans ((List.perm_ext_iff_of_nodup List.nodup_range ht.nodup).2 fun a=>by rw[List.mem_range,ht.mem]),fun i j oi oj hi hj hoi hoj hm hlt=>?_⟩
 have h3:=List.all_eq_true.1 (List.all_eq_true.1 h2 i (List.mem_range.2 ((ht.mem i).1 hi))) j (List.mem_range.2 ((ht.mem j).1 hj))
 simp only[hoi,hoj,Bool.or_eq_true,Bool.not_eq_true',decide_eq_false_iff_not,List.contains_iff_mem] at h3
 rcases h3 with ((h3|h3)|h3)|h3
 ·exact absurd hlt h3
 ·rw[hm] at h3;cases h3
 ·exact pO ht _ _ _ h3
 ·exact hE (j,i) h3
theorem pP {ops:Array Oper} {Q:Exit→Act→World→Prop}:∀(L:List Nat) (a:Act) (w:World),wpList P ops Q (dT ops L) a w→wpOps P ops Q L a w
 |[],a,w,h=>h
 |i::L,a,w,h=>by
  unfold wpOps
  cases ho:ops[i]? with
  |none=>
   simp only
   refine pP L a w ?_
   unfold dT at h ⊢
   rwa [List.filterMap_cons,ho] at h
  |some o=>
   simp only
   have e:dT ops (i::L)=o::dT ops L:=by unfold dT;rw[List.filterMap_cons,ho]
   rw[e] at h
   unfold wpList at h
   split
   ·rename_i hw
    rw[if_pos hw] at h
    exact h.imp (Oper.wp_mono fun a w=>pP L a w) _root_.id
   ·rename_i hw
    rw[if_neg hw] at h
    exact pP L _ _ h
theorem aAF:∀(n:Nat) (L2 L1 σ:List Nat),L2.length=n→σ.Nodup→σ.Perm (L1++L2)→(∀A i B,L2=A++i::B→∀j,j∈L1++A→σ.idxOf j<σ.idxOf i)→∃σ1,σ=σ1++L2∧σ1.Perm L1
 |0,L2,L1,σ,hn,hd,hp,_=>by
  have:L2=[]:=List.eq_nil_of_length_eq_zero hn
  subst this
  exact⟨σ,(List.append_nil _).symm,by rwa [List.append_nil] at hp⟩
 |n+1,L2,L1,σ,hn,hd,hp,h=>by
  obtain⟨A,z,rfl⟩:∃A z,L2=A++[z]:=⟨L2.dropLast,L2.getLast (by intro e;simp[e] at hn),(List.dropLast_concat_getLast _).symm⟩
  have hσ:σ≠[]:=by
   rintro rfl
   have:=hp.length_eq
   simp at this
  obtain⟨σ',y,rfl⟩:∃σ' y,σ=σ'++[y]:=⟨σ.dropLast,σ.getLast hσ,(List.dropLast_concat_getLast _).symm⟩
  have hyn:y∉σ':=fun hm=>by
   rw[List.nodup_append] at hd
   exact hd.2.2 y hm y (by simp) rfl
  have hyz:y=z:=by
   by_cases hyz:y=z
   ·exact hyz
   ·exfalso
    have hy:y∈L1++(A++[z]):=hp.mem_iff.1 (by simp)
    have hy2:y∈L1++A:=by
     rw[←List.append_assoc] at hy
     rcases List.mem_append.1 hy with hy|hy
     ·exact hy
     ·rw[List.mem_singleton] at hy;exact absurd hy hyz
    have hz:z∈σ'++[y]:=hp.mem_iff.2 (by simp)
    have hz2:z∈σ':=by
     rcases List.mem_append.1 hz with hz|hz
     ·exact hz
     ·rw[List.mem_singleton] at hz;exact absurd hz.symm hyz
    have h1:=h A z [] rfl y hy2
    rw[List.idxOf_append,List.idxOf_append,if_neg hyn,if_pos hz2] at h1
    have:=List.idxOf_lt_length_of_mem hz2
    omega
  subst hyz
  have hp':σ'.Perm (L1++A):=by
   rw[←List.append_assoc] at hp
   exact (List.perm_append_right_iff [y]).1 hp
  have hd':σ'.Nodup:=(List.nodup_append.1 hd).1
  have hyA:y∉L1++A:=fun hm=>hyn (hp'.mem_iff.2 hm)
  obtain⟨σ1,e1,e2⟩:=aAF n A L1 σ' (by simpa using hn) hd' hp' (fun A' i B' e j hj=>by
   have h1:=h A' i (B'++[y]) (by rw[e];simp) j hj
   have hi:i∈σ':=hp'.mem_iff.2 (by rw[e];simp)
   have hj':j∈σ':=hp'.mem_iff.2 (by
    rw[e]
    rcases List.mem_append.1 hj with hj|hj
    ·exact List.mem_append_left _ hj
    ·exact List.mem_append_right _ (List.mem_append_left _ hj))
   rwa [List.idxOf_append,List.idxOf_append,if_pos hi,if_pos hj'] at h1)
  exact⟨σ1,by rw[e1,List.append_assoc],e2⟩
theorem aCv {n k:Nat} (h:n≤k):List.range k=List.range n++List.range' n (k-n):=by
 rw[List.range_eq_range',List.range_eq_range']
 have h1:List.range' 0 k=List.range' 0 n++List.range' (0+1*n) (k-n):=by rw[List.range'_append];congr 1;omega
 rw[h1]
 congr 1
 simp
def aDY (q:List Nat) (ops:Array Oper) (n:Nat):Bool:=
 decide (n≤ops.size)&&((List.range' n (ops.size-n)).all fun i=>(List.range i).all fun j=>j7 ops ops.size i j) &&
  (List.range n).all fun i=>(List.range i).all fun j=>match ops[i]?,ops[j]? with
   |some oi,some oj=>!j6 q ops oi oj||j7 ops ops.size i j
   |_,_=>true
theorem aJc {n i j:Nat} (hi:i<n) (hj:j<n) (h:(List.range n).idxOf j<(List.range n).idxOf i):j<i:=by
 have e:∀k,k<n→(List.range n).idxOf k=k:=fun k hk=>by
  have:=List.Nodup.idxOf_getElem (List.nodup_range (n:=n)) k (by simpa using hk)
  simpa using this
 rw[e i hi,e j hj] at h
 exact h
theorem aPX {id:Nat} {q:List Nat} {ops:Array Oper} {n:Nat} {env:Env} {H:aB} {Q:Exit→Env→aB→Prop} (hm:P.follows .mixedOrders=true) (hok:pN ops=true) (hops:ops.toList.all (iU C.nG)=true) (ht:aDY q ops n=true)
  (h:bJ P C (some q) ops (dT ops (List.range n)) env H fun e h=>bJ P C none ops (dT ops (List.range' n (ops.size-n))) e h fun e h=>Q .normal e h):AWp P C (.region id ops true) env H Q:=by
 intro m w a hH hE
 refine wp_region_draw fun t=>?_
 have es:Region.schedule (P.follows .mixedOrders) ops t=Region.linearise .any ops t:=by simp only[Region.schedule,hm,Bool.true_or,if_true]
 rw[es]
 have hT:=aDX hok t
 generalize Region.linearise .any ops t=σ at hT
 unfold aDY at ht
 simp only[Bool.and_eq_true,decide_eq_true_eq] at ht
 obtain⟨⟨t1,t2⟩,t3⟩:=ht
 have er:List.range ops.size=List.range n++List.range' n (ops.size-n):=aCv t1
 have hp:σ.Perm (List.range n++List.range' n (ops.size-n)):=by
  rw[←er]
  exact (List.perm_ext_iff_of_nodup hT.nodup List.nodup_range).2 fun a=>by rw[List.mem_range,hT.mem]
 obtain⟨σ1,rfl,hp1⟩:=aAF _ (List.range' n (ops.size-n)) (List.range n) σ rfl hT.nodup hp (fun A i B e j hj=>by
  have hi:i∈List.range' n (ops.size-n):=by rw[e];simp
  have hji:j<i:=by
   have h2:(List.range n++List.range' n (ops.size-n))=(List.range n++A)++i::B:=by rw[e,List.append_assoc]
   rw[←er] at h2
   obtain⟨k,hk⟩:=List.getElem?_of_mem hj
   have hkl:=(List.getElem?_eq_some_iff.1 hk).1
   have e1:(List.range ops.size)[k]?=some j:=by rw[h2,List.getElem?_append_left hkl];exact hk
   have e2:(List.range ops.size)[(List.range n++A).length]?=some i:=by rw[h2,List.getElem?_append_right (Nat.le_refl _)];simp
   have q1:=(List.getElem?_eq_some_iff.1 e1).2
   have q2:=(List.getElem?_eq_some_iff.1 e2).2
   simp only[List.getElem_range] at q1 q2
   omega
  exact pO hT _ _ _ (List.all_eq_true.1 (List.all_eq_true.1 t2 i hi) j (List.mem_range.2 hji)))
 have hH1:cE C m {w with drawn:=w.drawn+1} H:=hH.drewN 1
 have hd1:σ1.Nodup:=(List.nodup_append.1 hT.nodup).1
 refine rT hops (m0:=m) (w0:={w with drawn:=w.drawn+1}) (Q:=aK5 C Q m w) (List.range' n (ops.size-n)) (fun m' w' a' env' H' k1 k2 k3=>?_) σ1 (List.range n) m _ a env H hd1 hp1.symm (fun i hi=>(hT.mem i).1 (List.mem_append_left _ hi)) ?_ ⟨List.prefix_refl m,Szs.refl _,hH1⟩ (hE.more (List.prefix_refl m) (kB w 1)) h
 ·refine pP _ _ _ (iO k3 ?_ k1.rep k2 fun m2 w2 a2 e2 H2 q1 q2 q3=>⟨m2,e2,H2,⟨k1.pre.trans q1.pre,(kB w 1).trans (k1.szs.trans q1.szs),q1.rep⟩,q2,q3⟩)
  rw[List.all_eq_true]
  intro o ho
  obtain⟨j,_,hj⟩:=List.mem_filterMap.1 ho
  exact List.all_eq_true.1 hops o (by rw[Array.mem_toList_iff];exact Array.mem_of_getElem? hj)
 ·intro i j oi oj hi hj hoi hoj hmt hlt
  have hi1:i<n:=List.mem_range.1 (hp1.mem_iff.1 hi)
  have hj1:j<n:=List.mem_range.1 (hp1.mem_iff.1 hj)
  have hji:=aJc hi1 hj1 hlt
  have h3:=List.all_eq_true.1 (List.all_eq_true.1 t3 i (List.mem_range.2 hi1)) j (List.mem_range.2 hji)
  simp only[hoi,hoj,Bool.or_eq_true,Bool.not_eq_true'] at h3
  rcases h3 with h3|h3
  ·rw[hmt] at h3;cases h3
  ·have:=pO hT _ _ _ h3
   rwa [List.idxOf_append,List.idxOf_append,if_pos hi,if_pos hj] at this
def aDk (l:List Oper) (P:Program) (C:dC) (ops:Array Oper) (Q:Exit→Env→aB→Prop):Env→aB→Prop:=fun e h=>bJ P C none ops l e h (oI Q)
theorem aDZ {l:List Oper} {ops:Array Oper} {Q:Exit→Env→aB→Prop} {e:Env} {h:aB}:aDk l P C ops Q e h=bJ P C none ops l e h (oI Q):=_root_.id rfl
theorem rU {l:List Oper} {n:Nat}:dT (List.toArray l) (List.range n)=l.take n:=by
 unfold dT
 have:=mO l n
 simpa using this
theorem aD0 {l:List Oper} {n:Nat}:dT (List.toArray l) (List.range' n ((List.toArray l).size-n))=l.drop n:=by
 have h1:l=dT (List.toArray l) (List.range (List.toArray l).size):=by rw[rU];simp
 by_cases hn:n≤l.length
 ·have er:List.range (List.toArray l).size=List.range n++List.range' n ((List.toArray l).size-n):=aCv (by simpa using hn)
  have h2:l=dT (List.toArray l) (List.range n)++dT (List.toArray l) (List.range' n ((List.toArray l).size-n)):=by
   have:dT (List.toArray l) (List.range (List.toArray l).size)=dT (List.toArray l) (List.range n)++dT (List.toArray l) (List.range' n ((List.toArray l).size-n)):=by
    rw[er];unfold dT;rw[List.filterMap_append]
   rw[←this,←h1]
  rw[rU] at h2
  have h3:=List.take_append_drop n l
  exact (List.append_cancel_left (h3.trans h2)).symm
 ·rw[List.drop_eq_nil_of_le (by omega)]
  have:(List.toArray l).size-n=0:=by simp;omega
  rw[this]
  rfl
theorem fT {id:Nat} {l:List Oper} {env:Env} {H:aB} {Q:Exit→Env→aB→Prop} (q:List Nat) (n:Nat) (hm:P.follows .mixedOrders=true) (hok:pN (List.toArray l)=true) (hops:l.all (iU C.nG)=true) (ht:aDY q (List.toArray l) n=true)
  (h:bJ P C (some q) (List.toArray l) (l.take n) env H (aDk (l.drop n) P C (List.toArray l) Q)):cB P C (.region id (List.toArray l) true) env H Q:=by
 rw[cB,if_pos rfl]
 refine .inr (aPX hm hok (by simpa using hops) ht ?_)
 rw[rU,aD0]
 exact h
theorem aO8 {σ:List Nat} {i j:Nat} (hi:i∈σ) (hj:j∈σ) (h:i≠j):σ.idxOf i<σ.idxOf j∨σ.idxOf j<σ.idxOf i:=by
 rcases Nat.lt_trichotomy (σ.idxOf i) (σ.idxOf j) with h1|h1|h1
 ·exact .inl h1
 ·exfalso
  have e1:=List.getElem_idxOf (List.idxOf_lt_length_of_mem hi)
  have e2:=List.getElem_idxOf (List.idxOf_lt_length_of_mem hj)
  refine h ?_
  rw[←e1,←e2]
  congr 1
 ·exact .inr h1
def aHX (x:Option Oper) (r:List Oper):List Oper:=match x with
 |some o=>o::r
 |none=>r
theorem tP {o:Oper} {r:List Oper}:aHX (some o) r=o::r:=_root_.id rfl
theorem vO {ops:Array Oper}:dT ops []=[]:=_root_.id rfl
theorem tQ {l:List Oper} {i:Nat} {L:List Nat}:dT (List.toArray l) (i::L)=aHX l[i]? (dT (List.toArray l) L):=by
 unfold dT aHX
 rw[List.filterMap_cons]
 simp only[List.getElem?_toArray]
 cases l[i]?<;>rfl
theorem vP {id:Nat} {l:List Oper} {env:Env} {H:aB} {Q:Exit→Env→aB→Prop} (q:List Nat) (i j:Nat) (L1 L2:List Nat) (hm:P.follows .mixedOrders=true) (hok:pN (List.toArray l)=true) (hops:l.all (iU C.nG)=true) (hij:(decide (i≠j)&&decide (i<l.length)&&decide (j<l.length))=true)
  (h1:aDj q (List.toArray l) L1 [(i,j)]=true) (h2:aDj q (List.toArray l) L2 [(j,i)]=true)
  (k1:bJ P C (some q) (List.toArray l) (dT (List.toArray l) L1) env H (oI Q)) (k2:bJ P C (some q) (List.toArray l) (dT (List.toArray l) L2) env H (oI Q)):cB P C (.region id (List.toArray l) true) env H Q:=by
 rw[cB,if_pos rfl]
 refine .inr (aO7 (q:=q) hm hok (by simpa using hops) fun σ hT=>?_)
 simp only[Bool.and_eq_true,decide_eq_true_eq] at hij
 rcases aO8 ((hT.mem i).2 (by simpa using hij.1.2)) ((hT.mem j).2 (by simpa using hij.2)) hij.1.1 with h|h
 ·exact⟨L1,aCu h1 hT (by intro p hp;rw[List.mem_singleton] at hp;rw[hp];exact h),k1⟩
 ·exact⟨L2,aCu h2 hT (by intro p hp;rw[List.mem_singleton] at hp;rw[hp];exact h),k2⟩
end AL
end Go.Proofs.YtnoppodfngkoeaaGreat
